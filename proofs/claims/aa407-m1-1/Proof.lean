import JvmDerived
import JvmDerived.Pilot.@@N@@Statement
import JvmDerived.Pilot.@@N@@Code
set_option linter.unusedVariables false
set_option linter.unusedSimpArgs false
namespace Jvm.Pilot.@@N@@
open Jvm Jvm.ClassFile Sem Op Lib Jvm.Free Jvm.Stand Jvm.LawKit Jvm.RoadKit Bundle Jvm.Pilot.@@N@@.Jvm.D
section OwnGo
variable {p : Program} {l : Launch} {e : Env} {R : Room} {s : State} {m : MethodId} {args : Array Value} {below : List Frame} {meth : Method} {c : Code} {T : State} {locs : List Loc} {cells slots : Nat} {Q : Option Value → Heap → List Loc → Prop} {kc ks : Nat}
/-- from this state the body runs to its return, and Q holds of what it leaves -/
def own_Go (p : Program) (e : Env) (below : List Frame) (s : State) (Q : Option Value → Heap → List Loc → Prop) (kc ks : Nat) (S : State) : Prop :=
  ∃ s₂ o, Steps p.tables e below S s₂ ∧ s₂.status = .running ∧ Ended s₂ below o ∧ ∃ v L, o = .returned v ∧ Q v s₂.heap L ∧ FrameEnd s o s₂ L kc ks
theorem own_st {A B : State} (f : ∀ t, Steps p.tables e below A t → Steps p.tables e below B t) (h : own_Go p e below s Q kc ks A) : own_Go p e below s Q kc ks B := by
  obtain ⟨s₂, o, h1, h2⟩ := h
  exact ⟨s₂, o, f _ h1, h2⟩
theorem own_mono {S : State} {Q' : Option Value → Heap → List Loc → Prop} (h : own_Go p e below s Q kc ks S) (f : ∀ v h L, Q v h L → Q' v h L) : own_Go p e below s Q' kc ks S := by
  obtain ⟨s₂, o, h1, h2, h3, v, L, h4, h5, h6⟩ := h
  exact ⟨s₂, o, h1, h2, h3, v, L, h4, f _ _ _ h5, h6⟩
theorem own_retN (X : Stand p l e R s m args below meth c T locs cells slots) (hx : p.tables.exec = Jvm.exec) (hlk : meth.locks = false) {pc : Nat} {Ls : Array Slot} {z : Int32} {t : FieldType} {rest : List Value} (hret : meth.sig.returnType = some t) (ht : t = .boolean ∨ t = .byte ∨ t = .char ∨ t = .short)
    (hd : decode c.code pc = .ok (.ireturn, 1)) (hq : Q (some (.int (nar t z))) T.heap locs) (hc : cells ≤ kc) (hs : slots ≤ ks) : own_Go p e below s Q kc ks (T.setTop (mkF m pc Ls (.int z :: rest))) := by
  obtain ⟨fs, hr, hrun, hended, hW, hsame⟩ := X.leave (v := some (.int (nar t z))) (fun h => by rw [hret] at h; cases h) hlk
  exact ⟨_, _, retN X hx hret ht hd hr, hrun, hended, _, _, rfl, hq, ⟨_, rfl⟩, hW, hsame.mono hc hs⟩
theorem own_retI (X : Stand p l e R s m args below meth c T locs cells slots) (hx : p.tables.exec = Jvm.exec) (hlk : meth.locks = false) {pc : Nat} {Ls : Array Slot} {z : Int32} {rest : List Value} (hret : meth.sig.returnType = some .int)
    (hd : decode c.code pc = .ok (.ireturn, 1)) (hq : Q (some (.int z)) T.heap locs) (hc : cells ≤ kc) (hs : slots ≤ ks) : own_Go p e below s Q kc ks (T.setTop (mkF m pc Ls (.int z :: rest))) := by
  obtain ⟨fs, hr, hrun, hended, hW, hsame⟩ := X.leave (v := some (.int z)) (fun h => by rw [hret] at h; cases h) hlk
  exact ⟨_, _, retOut X hx hret rfl (Or.inl ⟨rfl, Or.inl rfl, z, rfl⟩) hd hr, hrun, hended, _, _, rfl, hq, ⟨_, rfl⟩, hW, hsame.mono hc hs⟩
theorem own_retJ (X : Stand p l e R s m args below meth c T locs cells slots) (hx : p.tables.exec = Jvm.exec) (hlk : meth.locks = false) {pc : Nat} {Ls : Array Slot} {z : Int64} {rest : List Value} (hret : meth.sig.returnType = some .long)
    (hd : decode c.code pc = .ok (.lreturn, 1)) (hq : Q (some (.long z)) T.heap locs) (hc : cells ≤ kc) (hs : slots ≤ ks) : own_Go p e below s Q kc ks (T.setTop (mkF m pc Ls (.long z :: rest))) := by
  obtain ⟨fs, hr, hrun, hended, hW, hsame⟩ := X.leave (v := some (.long z)) (fun h => by rw [hret] at h; cases h) hlk
  exact ⟨_, _, retOut X hx hret rfl (Or.inr (Or.inl ⟨rfl, rfl, z, rfl⟩)) hd hr, hrun, hended, _, _, rfl, hq, ⟨_, rfl⟩, hW, hsame.mono hc hs⟩
theorem own_retA (X : Stand p l e R s m args below meth c T locs cells slots) (hx : p.tables.exec = Jvm.exec) (hlk : meth.locks = false) {pc : Nat} {Ls : Array Slot} {w : Value} {t : FieldType} {rest : List Value} (hret : meth.sig.returnType = some t) (ht : t.isReference = true) (hw : w.isRef = true)
    (hd : decode c.code pc = .ok (.areturn, 1)) (hq : Q (some w) T.heap locs) (hc : cells ≤ kc) (hs : slots ≤ ks) : own_Go p e below s Q kc ks (T.setTop (mkF m pc Ls (w :: rest))) := by
  obtain ⟨fs, hr, hrun, hended, hW, hsame⟩ := X.leave (v := some w) (fun h => by rw [hret] at h; cases h) hlk
  exact ⟨_, _, retOut X hx hret (by rcases ref_cases hw with rfl | ⟨a, rfl⟩ <;> cases t <;> first | rfl | cases ht) (Or.inr (Or.inr (Or.inr (Or.inr ⟨rfl, ht, hw⟩)))) hd hr, hrun, hended, _, _, rfl, hq, ⟨_, rfl⟩, hW, hsame.mono hc hs⟩
theorem own_retV (X : Stand p l e R s m args below meth c T locs cells slots) (hx : p.tables.exec = Jvm.exec) (hlk : meth.locks = false) {pc : Nat} {Ls : Array Slot} (hret : meth.sig.returnType = none)
    (hd : decode c.code pc = .ok (.return_, 1)) (hq : Q none T.heap locs) (hc : cells ≤ kc) (hs : slots ≤ ks) : own_Go p e below s Q kc ks (T.setTop (mkF m pc Ls [])) := by
  obtain ⟨fs, hr, hrun, hended, hW, hsame⟩ := X.leave (v := none) (fun _ => rfl) hlk
  exact ⟨_, _, X.returnOut hx hret hd hr, hrun, hended, _, _, rfl, hq, ⟨_, rfl⟩, hW, hsame.mono hc hs⟩
end OwnGo
section OwnWords
variable {args : Array Value} {s : State} {t i : Term} {a b : Addr} {C n d : String} {k : Int32} {cl : Cell} {ty : FieldType}
theorem own_fldI (ev : t.eval args s none [] s = some (.ref a)) (h : (Jvm.Cond.eq (Term.field t C n d) (Term.int k)).value args s none s [] = some true) : Fld s s.heap a C n d (.int k) := by
  have e1 := fld_at (C := C) (n := n) (dd := d) ev
  have e2 := Term.int_eval (args := args) (first := s) (o := none) (idx := []) (s := s) k
  refine Fld.start ?_
  cases hv : s.fieldOf? a C n d with
  | none => rw [hv] at e1; simp [Jvm.Cond.value, e1] at h
  | some v => rw [hv] at e1; cases v <;> simp [Jvm.Cond.value, e1, e2] at h; rw [h]
theorem own_len (ev : t.eval args s none [] s = some (.ref a)) (A : Arr s s.heap a cl ty) (h : (Jvm.Cond.eq (Term.length t) (Term.int k)).value args s none s [] = some true) : cl.slots.size < 2 ^ 31 ∧ cl.slots.size.toInt32 = k := by
  have e2 := Term.int_eval (args := args) (first := s) (o := none) (idx := []) (s := s) k
  have e0 := A.fin (Vm.Alike.refl _)
  by_cases hl : cl.slots.size < 2 ^ 31
  · have e1 := len_f ev e0 hl
    simp [Jvm.Cond.value, e1, e2] at h
    exact ⟨hl, h⟩
  · have e1 : (Term.length t).eval args s none [] s = none := by simp [Term.eval, ev, e0]; omega
    simp [Jvm.Cond.value, e1] at h
theorem own_elem {v : Value} (ev : t.eval args s none [] s = some (.ref a)) (A : Arr s s.heap a cl ty) {u : Term} (eu : u.eval args s none [] s = some v) (hv : v.isRef = true) (h : (Jvm.Cond.eq (Term.elem t (Term.int k)) u).value args s none s [] = some true) : cl.slots[k.toNatClampNeg]? = some v := by
  have e2 := Term.int_eval (args := args) (first := s) (o := none) (idx := []) (s := s) k
  obtain ⟨x, y, hx, hy, -, -⟩ := cmp_v (Or.inl h)
  cases eu.symm.trans hy
  obtain ⟨-, q⟩ := elem_in hx ev e2 A.1
  have hk : x.isRef = true := by
    cases x <;> rcases ref_cases hv with rfl | ⟨z, rfl⟩ <;> simp [Jvm.Cond.value, hx, hy] at h ⊢ <;> rfl
  rw [q, gotT (eq_R hx hy hk hv) h]
theorem own_elemR (ev : t.eval args s none [] s = some (.ref a)) (A : Arr s s.heap a cl ty) {u : Term} (eu : u.eval args s none [] s = some (.ref b)) (h : (Jvm.Cond.eq (Term.elem t (Term.int k)) u).value args s none s [] = some true) : cl.slots[k.toNatClampNeg]? = some (.ref b) := own_elem ev A eu rfl h
theorem own_elemN (ev : t.eval args s none [] s = some (.ref a)) (A : Arr s s.heap a cl ty) (h : (Jvm.Cond.eq (Term.elem t (Term.int k)) .null).value args s none s [] = some true) : cl.slots[k.toNatClampNeg]? = some .null := own_elem ev A null_at rfl h
end OwnWords
section OwnMore
theorem own_privSel {s : State} {args : Array Value} {y z z' : MethodName} {C : String} (hs : (Jvm.Cond.selects C z' z).before args s = true) (e : z.cls = y.cls) (hpriv : s.PrivateAt y) (hinst : (Jvm.Cond.instanceMethod y).before args s = true) (hy : y.cls ≠ "java/lang/invoke/MethodHandle" ∧ y.cls ≠ "java/lang/invoke/VarHandle") : (Jvm.Cond.selects y.cls y y).before args s = true := by
  obtain ⟨c, r, m, -, -, h3, -, mk, h5, h6⟩ := Cond.selects_spec hs
  exact selects_self_of_private (e ▸ findClass_of_methodNamed h3) h5 h6 hpriv hinst hy
theorem own_nar_boolean {x : Int32} (h : nar .boolean x = x) : narrow .boolean (.int x) = .int x := congrArg Value.int h
theorem own_fits_boolean {x : Int32} (h : nar .boolean x = x) : fits .boolean (.int x) = true := h ▸ fits_nar_bool x
theorem own_nar_char {x : Int32} (h : nar .char x = x) : narrow .char (.int x) = .int x := congrArg Value.int h
theorem own_fits_char {x : Int32} (h : nar .char x = x) : fits .char (.int x) = true := h ▸ fits_nar_char x
theorem own_nar_ref {v : Value} {C : String} (h : v.isRef = true) : narrow (.object C) v = v := by rcases ref_cases h with rfl | ⟨a, rfl⟩ <;> rfl
theorem own_fits_ref {v : Value} {C : String} (h : v.isRef = true) : fits (.object C) v = true := by rcases ref_cases h with rfl | ⟨a, rfl⟩ <;> rfl
theorem own_c1 {v : Value} (h : v.isRef = true) : v.category = 1 := by rcases ref_cases h with rfl | ⟨a, rfl⟩ <;> rfl
theorem own_ext_of_keep {h h' : Heap} (K : Keep h h' []) : Ext h h' := ⟨K.1, fun a c q => K.2.1 a c q nin0⟩
theorem own_ext_refl (h : Heap) : Ext h h := ⟨Nat.le_refl _, fun _ _ q => q⟩
theorem own_ext_trans {h h' h'' : Heap} (E : Ext h h') (E' : Ext h' h'') : Ext h h'' := ⟨Nat.le_trans E.1 E'.1, fun a c q => E'.2 a c (E.2 a c q)⟩
end OwnMore
def QLaw (n0 : Nat) (v : Option Value) (h : Heap) (L : List Loc) : Prop := v = some (.int 1) ∧ Fr n0 L
def Obj (Z : State) (h : Heap) (a : Addr) (nx xx kt : Int32) (fm : Value) (tm : Int64) : Prop := Exa Z h a "com/example/libttl/libttl/SetOptions" ∧ Fld Z h a "com/example/libttl/libttl/SetOptions" "nx" "Z" (.int nx) ∧ Fld Z h a "com/example/libttl/libttl/SetOptions" "xx" "Z" (.int xx) ∧ Fld Z h a "com/example/libttl/libttl/SetOptions" "keepTtl" "Z" (.int kt) ∧ Fld Z h a "com/example/libttl/libttl/SetOptions" "form" "Lcom/example/libttl/libttl/TimeForm;" fm ∧ Fld Z h a "com/example/libttl/libttl/SetOptions" "time" "J" (.long tm) ∧ nar .boolean nx = nx ∧ nar .boolean xx = xx ∧ nar .boolean kt = kt ∧ fm.isRef = true
theorem own_Obj_ext {Z : State} {h h' : Heap} {a : Addr} {nx xx kt : Int32} {fm : Value} {tm : Int64} (o : Obj Z h a nx xx kt fm tm) (E : Ext h h') : Obj Z h' a nx xx kt fm tm := by
  obtain ⟨o1, o2, o3, o4, o5, o6, r⟩ := o
  exact ⟨o1.ext E, o2.ext E, o3.ext E, o4.ext E, o5.ext E, o6.ext E, r⟩
def Qi (Z : State) (a : Addr) (nx xx kt : Int32) (fm : Value) (tm : Int64) (h0 : Heap) (n0 : Nat) (v : Option Value) (h : Heap) (L : List Loc) : Prop := v = none ∧ Fr n0 L ∧ Keep h0 h [a] ∧ Obj Z h a nx xx kt fm tm
def Qo (Z : State) (nx xx : Int32) (h0 : Heap) (n0 : Nat) (v : Option Value) (h : Heap) (L : List Loc) : Prop := ∃ b kt fm tm, v = some (.ref b) ∧ Fr n0 L ∧ Ext h0 h ∧ Obj Z h b nx xx kt fm tm
def Qc (Z : State) (nx xx kt : Int32) (fm : Value) (tm : Int64) (h0 : Heap) (n0 : Nat) (v : Option Value) (h : Heap) (L : List Loc) : Prop := ∃ b, v = some (.ref b) ∧ Fr n0 L ∧ Ext h0 h ∧ Obj Z h b nx xx kt fm tm
def Qb (r : Int32) (h0 : Heap) (n0 : Nat) (v : Option Value) (h : Heap) (L : List Loc) : Prop := v = some (.int r) ∧ Fr n0 L ∧ h = h0
theorem d2_0 : decode prog_44_method_2_code 0 = .ok (.aload_n 0, 1) := by decide +kernel
theorem d2_1 : decode prog_44_method_2_code 1 = .ok (.invokespecial 7, 3) := by decide +kernel
theorem d2_4 : decode prog_44_method_2_code 4 = .ok (.aload_n 0, 1) := by decide +kernel
theorem d2_5 : decode prog_44_method_2_code 5 = .ok (.iload_n 1, 1) := by decide +kernel
theorem d2_6 : decode prog_44_method_2_code 6 = .ok (.putfield 12, 3) := by decide +kernel
theorem d2_9 : decode prog_44_method_2_code 9 = .ok (.aload_n 0, 1) := by decide +kernel
theorem d2_10 : decode prog_44_method_2_code 10 = .ok (.iload_n 2, 1) := by decide +kernel
theorem d2_11 : decode prog_44_method_2_code 11 = .ok (.putfield 16, 3) := by decide +kernel
theorem d2_14 : decode prog_44_method_2_code 14 = .ok (.aload_n 0, 1) := by decide +kernel
theorem d2_15 : decode prog_44_method_2_code 15 = .ok (.iload_n 3, 1) := by decide +kernel
theorem d2_16 : decode prog_44_method_2_code 16 = .ok (.putfield 19, 3) := by decide +kernel
theorem d2_19 : decode prog_44_method_2_code 19 = .ok (.aload_n 0, 1) := by decide +kernel
theorem d2_20 : decode prog_44_method_2_code 20 = .ok (.aload 4, 2) := by decide +kernel
theorem d2_22 : decode prog_44_method_2_code 22 = .ok (.putfield 22, 3) := by decide +kernel
theorem d2_25 : decode prog_44_method_2_code 25 = .ok (.aload_n 0, 1) := by decide +kernel
theorem d2_26 : decode prog_44_method_2_code 26 = .ok (.lload 5, 2) := by decide +kernel
theorem d2_28 : decode prog_44_method_2_code 28 = .ok (.putfield 26, 3) := by decide +kernel
theorem d2_31 : decode prog_44_method_2_code 31 = .ok (.return_, 1) := by decide +kernel
theorem pn_com_2fexample_2flibttl_2flibttl_2fSetOptions : plainName "com/example/libttl/libttl/SetOptions" = true := by first | (simp [plainName, overriddenIn]; done) | decide +kernel
theorem ef_rmI5 (mM : MethodId) (a : Addr) (nx : Int32) (xx : Int32) (kt : Int32) (fm : Value) (tm : Int64) (hf : fm.isRef = true) : entryFrame mM #[(.ref a), (.int nx), (.int xx), (.int kt), fm, (.long tm)] 7 = mkF mM 0 #[.val (.ref a), .val (.int nx), .val (.int xx), .val (.int kt), .val fm, .val (.long tm), .second] [] := by rcases ref_cases hf with rfl | ⟨aq, rfl⟩ <;> first | (simp [entryFrame, mkF, argsToLocals, Value.category]; done) | rfl
set_option maxRecDepth 65536 in
set_option maxHeartbeats 40000000 in
theorem rmI5 (lL : Launch) (Z : State) (a0 : Array Value) (hw : ∀ d ∈ tables_1, d.before a0 Z = true) (ws : List Jvm.Cond) (a : Addr) (nx : Int32) (xx : Int32) (kt : Int32) (fm : Value) (tm : Int64) (h0 : Heap) (n0 : Nat) (g_a : n0 ≤ a) (E_a : Exa Z h0 a "com/example/libttl/libttl/SetOptions") (F_a_nx : Fld Z h0 a "com/example/libttl/libttl/SetOptions" "nx" "Z" (.int (0 : Int32))) (F_a_xx : Fld Z h0 a "com/example/libttl/libttl/SetOptions" "xx" "Z" (.int (0 : Int32))) (F_a_keepTtl : Fld Z h0 a "com/example/libttl/libttl/SetOptions" "keepTtl" "Z" (.int (0 : Int32))) (F_a_form : Fld Z h0 a "com/example/libttl/libttl/SetOptions" "form" "Lcom/example/libttl/libttl/TimeForm;" .null) (F_a_time : Fld Z h0 a "com/example/libttl/libttl/SetOptions" "time" "J" (.long (0 : Int64))) (bnx : nar .boolean nx = nx) (bxx : nar .boolean xx = xx) (bkt : nar .boolean kt = kt) (hf : fm.isRef = true) :
    MetFree lL (⟨"com/example/libttl/libttl/SetOptions", "<init>", "(ZZZLcom/example/libttl/libttl/TimeForm;J)V"⟩ : MethodName) (head1 (Jvm.Cond.code (⟨"com/example/libttl/libttl/SetOptions", "<init>", "(ZZZLcom/example/libttl/libttl/TimeForm;J)V"⟩ : MethodName) prog_44_method_2_code 7 none :: ws) ({ frames := 1, cells := 0, slots := 0, locals := 12 } : Room)) (fun as_ uU_ => as_ = #[(.ref a), (.int nx), (.int xx), (.int kt), fm, (.long tm)] ∧ Z.Warmed39 uU_.vm ∧ uU_.heap = h0) (fun _ _ _ _ _ => True) (fun _ uU_ oO_ uE_ => ∃ vV_ lL_, oO_ = .returned vV_ ∧ Qi Z a nx xx kt fm tm h0 n0 vV_ uE_.heap lL_ ∧ FrameEnd uU_ oO_ uE_ lL_ ({ frames := 1, cells := 0, slots := 0, locals := 12 } : Room).cells ({ frames := 1, cells := 0, slots := 0, locals := 12 } : Room).slots) := by
  refine MetFree.of_bodySF (plainFor_of_name pn_com_2fexample_2flibttl_2flibttl_2fSetOptions) hisR ?_
  intro pP eE sS mM args below meth cC s₁ Bd hml0 hP hK
  obtain ⟨rfl, hZ, hh⟩ := hP
  have hx := Bd.exec
  have hby := Bd.bytes
  have hml : cC.maxLocals = 7 := hml0
  have hown : sS.vm.findClass "com/example/libttl/libttl/SetOptions" = some mM.cls := findClass_of_methodNamed Bd.named
  have hnm := (name_of_methodNamed Bd.named Bd.method).1
  have hret := Bd.returns
  have hlk := BodyLoose.notSynchronized Bd
  have X0 : Stand pP lL eE ({ frames := 1, cells := 0, slots := 0, locals := 12 } : Room) sS mM #[(.ref a), (.int nx), (.int xx), (.int kt), fm, (.long tm)] below meth cC s₁ [] 0 0 := Stand.of_body Bd
  have e0 : s₁.heap = h0 := by rw [← hh, Bd.state]; rfl
  have N0 := Fr.nil n0
  show own_Go pP eE below sS (Qi Z a nx xx kt fm tm h0 n0) 0 0 (s₁.setTop (entryFrame mM #[(.ref a), (.int nx), (.int xx), (.int kt), fm, (.long tm)] 7))
  refine own_st (A := s₁.setTop (mkF mM 0 #[.val (.ref a), .val (.int nx), .val (.int xx), .val (.int kt), .val fm, .val (.long tm), .second] [])) (fun tT_ kK_ => castTop (ef_rmI5 mM a nx xx kt fm tm hf) kK_) ?_
  have Kp := Keep.refl h0 [a]
  refine own_st (A := s₁.setTop (mkF mM 1 #[.val (.ref a), .val (.int nx), .val (.int xx), .val (.int kt), .val fm, .val (.long tm), .second] [(.ref a)])) (fun tT_ kK_ => XS.aloadN X0.here hx rfl (hb hby d2_0) rfl rfl kK_) ?_
  obtain ⟨T1, X1, e1, st1⟩ := initO X0 hx hZ hown (hw _ (List.mem_of_getElem? (i := 9) rfl)) (hw _ (List.mem_of_getElem? (i := 10) rfl)) (hw _ (List.mem_of_getElem? (i := 11) rfl)) e0 (g := (mkF mM 1 #[.val (.ref a), .val (.int nx), .val (.int xx), .val (.int kt), .val fm, .val (.long tm), .second] [(.ref a)])) rfl (by rw [hml]; rfl) rfl (hb hby d2_1) (by decide) (W := 0) (by show 2 * 0 + _ ≤ _; exact Nat.le_of_eq rfl) (by decide)
  refine own_st (A := T1.setTop (mkF mM 4 #[.val (.ref a), .val (.int nx), .val (.int xx), .val (.int kt), .val fm, .val (.long tm), .second] [])) (fun tT_ kK_ => st1 tT_ kK_) ?_
  refine own_st (A := T1.setTop (mkF mM 5 #[.val (.ref a), .val (.int nx), .val (.int xx), .val (.int kt), .val fm, .val (.long tm), .second] [(.ref a)])) (fun tT_ kK_ => XS.aloadN X1.here hx rfl (hb hby d2_4) rfl rfl kK_) ?_
  refine own_st (A := T1.setTop (mkF mM 6 #[.val (.ref a), .val (.int nx), .val (.int xx), .val (.int kt), .val fm, .val (.long tm), .second] [(.int nx), (.ref a)])) (fun tT_ kK_ => XS.iloadN X1.here hx rfl (hb hby d2_5) rfl kK_) ?_
  obtain ⟨T2, h2, X2, e2, W2, st2⟩ := putFN X1 hx hZ hown (hw _ (List.mem_of_getElem? (i := 12) rfl)) Via.refl e1 F_a_nx E_a (Or.inr ⟨(hw _ (List.mem_of_getElem? (i := 13) rfl)), rfl, hnm⟩) (hw _ (List.mem_of_getElem? (i := 1) rfl)) (ty := .boolean) (v' := (.int nx)) (by decide) (own_nar_boolean bnx) (own_fits_boolean bnx) (g := (mkF mM 6 #[.val (.ref a), .val (.int nx), .val (.int xx), .val (.int kt), .val fm, .val (.long tm), .second] [(.int nx), (.ref a)])) rfl rfl (hb hby d2_6)
  have N2 := Fr.snoc X2 N0 g_a
  have F_a_nx := F_a_nx.same W2
  have F_a_xx := F_a_xx.other W2 (Or.inr (slot_ne (Or.inr (hw _ (List.mem_of_getElem? (i := 15) rfl))) (Or.inr (hw _ (List.mem_of_getElem? (i := 13) rfl))) (by decide) (t := .boolean) (t' := .boolean) (by decide) (by decide)))
  have F_a_keepTtl := F_a_keepTtl.other W2 (Or.inr (slot_ne (Or.inr (hw _ (List.mem_of_getElem? (i := 17) rfl))) (Or.inr (hw _ (List.mem_of_getElem? (i := 13) rfl))) (by decide) (t := .boolean) (t' := .boolean) (by decide) (by decide)))
  have F_a_form := F_a_form.other W2 (Or.inr (slot_ne (Or.inr (hw _ (List.mem_of_getElem? (i := 19) rfl))) (Or.inr (hw _ (List.mem_of_getElem? (i := 13) rfl))) (by decide) (t := (.object "com/example/libttl/libttl/TimeForm")) (t' := .boolean) (by decide) (by decide)))
  have F_a_time := F_a_time.other W2 (Or.inr (slot_ne (Or.inr (hw _ (List.mem_of_getElem? (i := 21) rfl))) (Or.inr (hw _ (List.mem_of_getElem? (i := 13) rfl))) (by decide) (t := .long) (t' := .boolean) (by decide) (by decide)))
  have E_a := E_a.wr W2
  have Kp := Kp.wr W2 (Or.inl (List.mem_of_getElem? (i := 0) rfl))
  refine own_st (A := T2.setTop (mkF mM 9 #[.val (.ref a), .val (.int nx), .val (.int xx), .val (.int kt), .val fm, .val (.long tm), .second] [])) (fun tT_ kK_ => st2 tT_ kK_) ?_
  refine own_st (A := T2.setTop (mkF mM 10 #[.val (.ref a), .val (.int nx), .val (.int xx), .val (.int kt), .val fm, .val (.long tm), .second] [(.ref a)])) (fun tT_ kK_ => XS.aloadN X2.here hx rfl (hb hby d2_9) rfl rfl kK_) ?_
  refine own_st (A := T2.setTop (mkF mM 11 #[.val (.ref a), .val (.int nx), .val (.int xx), .val (.int kt), .val fm, .val (.long tm), .second] [(.int xx), (.ref a)])) (fun tT_ kK_ => XS.iloadN X2.here hx rfl (hb hby d2_10) rfl kK_) ?_
  obtain ⟨T3, h3, X3, e3, W3, st3⟩ := putFN X2 hx hZ hown (hw _ (List.mem_of_getElem? (i := 14) rfl)) Via.refl e2 F_a_xx E_a (Or.inr ⟨(hw _ (List.mem_of_getElem? (i := 15) rfl)), rfl, hnm⟩) (hw _ (List.mem_of_getElem? (i := 1) rfl)) (ty := .boolean) (v' := (.int xx)) (by decide) (own_nar_boolean bxx) (own_fits_boolean bxx) (g := (mkF mM 11 #[.val (.ref a), .val (.int nx), .val (.int xx), .val (.int kt), .val fm, .val (.long tm), .second] [(.int xx), (.ref a)])) rfl rfl (hb hby d2_11)
  have N3 := Fr.snoc X3 N2 g_a
  have F_a_nx := F_a_nx.other W3 (Or.inr (slot_ne (Or.inr (hw _ (List.mem_of_getElem? (i := 13) rfl))) (Or.inr (hw _ (List.mem_of_getElem? (i := 15) rfl))) (by decide) (t := .boolean) (t' := .boolean) (by decide) (by decide)))
  have F_a_xx := F_a_xx.same W3
  have F_a_keepTtl := F_a_keepTtl.other W3 (Or.inr (slot_ne (Or.inr (hw _ (List.mem_of_getElem? (i := 17) rfl))) (Or.inr (hw _ (List.mem_of_getElem? (i := 15) rfl))) (by decide) (t := .boolean) (t' := .boolean) (by decide) (by decide)))
  have F_a_form := F_a_form.other W3 (Or.inr (slot_ne (Or.inr (hw _ (List.mem_of_getElem? (i := 19) rfl))) (Or.inr (hw _ (List.mem_of_getElem? (i := 15) rfl))) (by decide) (t := (.object "com/example/libttl/libttl/TimeForm")) (t' := .boolean) (by decide) (by decide)))
  have F_a_time := F_a_time.other W3 (Or.inr (slot_ne (Or.inr (hw _ (List.mem_of_getElem? (i := 21) rfl))) (Or.inr (hw _ (List.mem_of_getElem? (i := 15) rfl))) (by decide) (t := .long) (t' := .boolean) (by decide) (by decide)))
  have E_a := E_a.wr W3
  have Kp := Kp.wr W3 (Or.inl (List.mem_of_getElem? (i := 0) rfl))
  refine own_st (A := T3.setTop (mkF mM 14 #[.val (.ref a), .val (.int nx), .val (.int xx), .val (.int kt), .val fm, .val (.long tm), .second] [])) (fun tT_ kK_ => st3 tT_ kK_) ?_
  refine own_st (A := T3.setTop (mkF mM 15 #[.val (.ref a), .val (.int nx), .val (.int xx), .val (.int kt), .val fm, .val (.long tm), .second] [(.ref a)])) (fun tT_ kK_ => XS.aloadN X3.here hx rfl (hb hby d2_14) rfl rfl kK_) ?_
  refine own_st (A := T3.setTop (mkF mM 16 #[.val (.ref a), .val (.int nx), .val (.int xx), .val (.int kt), .val fm, .val (.long tm), .second] [(.int kt), (.ref a)])) (fun tT_ kK_ => XS.iloadN X3.here hx rfl (hb hby d2_15) rfl kK_) ?_
  obtain ⟨T4, h4, X4, e4, W4, st4⟩ := putFN X3 hx hZ hown (hw _ (List.mem_of_getElem? (i := 16) rfl)) Via.refl e3 F_a_keepTtl E_a (Or.inr ⟨(hw _ (List.mem_of_getElem? (i := 17) rfl)), rfl, hnm⟩) (hw _ (List.mem_of_getElem? (i := 1) rfl)) (ty := .boolean) (v' := (.int kt)) (by decide) (own_nar_boolean bkt) (own_fits_boolean bkt) (g := (mkF mM 16 #[.val (.ref a), .val (.int nx), .val (.int xx), .val (.int kt), .val fm, .val (.long tm), .second] [(.int kt), (.ref a)])) rfl rfl (hb hby d2_16)
  have N4 := Fr.snoc X4 N3 g_a
  have F_a_nx := F_a_nx.other W4 (Or.inr (slot_ne (Or.inr (hw _ (List.mem_of_getElem? (i := 13) rfl))) (Or.inr (hw _ (List.mem_of_getElem? (i := 17) rfl))) (by decide) (t := .boolean) (t' := .boolean) (by decide) (by decide)))
  have F_a_xx := F_a_xx.other W4 (Or.inr (slot_ne (Or.inr (hw _ (List.mem_of_getElem? (i := 15) rfl))) (Or.inr (hw _ (List.mem_of_getElem? (i := 17) rfl))) (by decide) (t := .boolean) (t' := .boolean) (by decide) (by decide)))
  have F_a_keepTtl := F_a_keepTtl.same W4
  have F_a_form := F_a_form.other W4 (Or.inr (slot_ne (Or.inr (hw _ (List.mem_of_getElem? (i := 19) rfl))) (Or.inr (hw _ (List.mem_of_getElem? (i := 17) rfl))) (by decide) (t := (.object "com/example/libttl/libttl/TimeForm")) (t' := .boolean) (by decide) (by decide)))
  have F_a_time := F_a_time.other W4 (Or.inr (slot_ne (Or.inr (hw _ (List.mem_of_getElem? (i := 21) rfl))) (Or.inr (hw _ (List.mem_of_getElem? (i := 17) rfl))) (by decide) (t := .long) (t' := .boolean) (by decide) (by decide)))
  have E_a := E_a.wr W4
  have Kp := Kp.wr W4 (Or.inl (List.mem_of_getElem? (i := 0) rfl))
  refine own_st (A := T4.setTop (mkF mM 19 #[.val (.ref a), .val (.int nx), .val (.int xx), .val (.int kt), .val fm, .val (.long tm), .second] [])) (fun tT_ kK_ => st4 tT_ kK_) ?_
  refine own_st (A := T4.setTop (mkF mM 20 #[.val (.ref a), .val (.int nx), .val (.int xx), .val (.int kt), .val fm, .val (.long tm), .second] [(.ref a)])) (fun tT_ kK_ => XS.aloadN X4.here hx rfl (hb hby d2_19) rfl rfl kK_) ?_
  refine own_st (A := T4.setTop (mkF mM 22 #[.val (.ref a), .val (.int nx), .val (.int xx), .val (.int kt), .val fm, .val (.long tm), .second] [fm, (.ref a)])) (fun tT_ kK_ => XS.aload X4.here hx rfl (hb hby d2_20) rfl hf kK_) ?_
  obtain ⟨T5, h5, X5, e5, W5, st5⟩ := putF X4 hx hZ hown (host := "") (Or.inl (hw _ (List.mem_of_getElem? (i := 18) rfl))) Via.refl e4 F_a_form E_a (Or.inr ⟨(hw _ (List.mem_of_getElem? (i := 19) rfl)), rfl, hnm⟩) (hw _ (List.mem_of_getElem? (i := 1) rfl)) (ty := (.object "com/example/libttl/libttl/TimeForm")) (by decide) (own_nar_ref hf) (own_fits_ref hf) (g := (mkF mM 22 #[.val (.ref a), .val (.int nx), .val (.int xx), .val (.int kt), .val fm, .val (.long tm), .second] [fm, (.ref a)])) rfl rfl (hb hby d2_22)
  have N5 := Fr.snoc X5 N4 g_a
  have F_a_nx := F_a_nx.other W5 (Or.inr (slot_ne (Or.inr (hw _ (List.mem_of_getElem? (i := 13) rfl))) (Or.inr (hw _ (List.mem_of_getElem? (i := 19) rfl))) (by decide) (t := .boolean) (t' := (.object "com/example/libttl/libttl/TimeForm")) (by decide) (by decide)))
  have F_a_xx := F_a_xx.other W5 (Or.inr (slot_ne (Or.inr (hw _ (List.mem_of_getElem? (i := 15) rfl))) (Or.inr (hw _ (List.mem_of_getElem? (i := 19) rfl))) (by decide) (t := .boolean) (t' := (.object "com/example/libttl/libttl/TimeForm")) (by decide) (by decide)))
  have F_a_keepTtl := F_a_keepTtl.other W5 (Or.inr (slot_ne (Or.inr (hw _ (List.mem_of_getElem? (i := 17) rfl))) (Or.inr (hw _ (List.mem_of_getElem? (i := 19) rfl))) (by decide) (t := .boolean) (t' := (.object "com/example/libttl/libttl/TimeForm")) (by decide) (by decide)))
  have F_a_form := F_a_form.same W5
  have F_a_time := F_a_time.other W5 (Or.inr (slot_ne (Or.inr (hw _ (List.mem_of_getElem? (i := 21) rfl))) (Or.inr (hw _ (List.mem_of_getElem? (i := 19) rfl))) (by decide) (t := .long) (t' := (.object "com/example/libttl/libttl/TimeForm")) (by decide) (by decide)))
  have E_a := E_a.wr W5
  have Kp := Kp.wr W5 (Or.inl (List.mem_of_getElem? (i := 0) rfl))
  refine own_st (A := T5.setTop (mkF mM 25 #[.val (.ref a), .val (.int nx), .val (.int xx), .val (.int kt), .val fm, .val (.long tm), .second] [])) (fun tT_ kK_ => st5 tT_ kK_) ?_
  refine own_st (A := T5.setTop (mkF mM 26 #[.val (.ref a), .val (.int nx), .val (.int xx), .val (.int kt), .val fm, .val (.long tm), .second] [(.ref a)])) (fun tT_ kK_ => XS.aloadN X5.here hx rfl (hb hby d2_25) rfl rfl kK_) ?_
  refine own_st (A := T5.setTop (mkF mM 28 #[.val (.ref a), .val (.int nx), .val (.int xx), .val (.int kt), .val fm, .val (.long tm), .second] [(.long tm), (.ref a)])) (fun tT_ kK_ => XS.lload X5.here hx rfl (hb hby d2_26) rfl kK_) ?_
  obtain ⟨T6, h6, X6, e6, W6, st6⟩ := putF X5 hx hZ hown (host := "") (Or.inl (hw _ (List.mem_of_getElem? (i := 20) rfl))) Via.refl e5 F_a_time E_a (Or.inr ⟨(hw _ (List.mem_of_getElem? (i := 21) rfl)), rfl, hnm⟩) (hw _ (List.mem_of_getElem? (i := 1) rfl)) (ty := .long) (by decide) rfl rfl (g := (mkF mM 28 #[.val (.ref a), .val (.int nx), .val (.int xx), .val (.int kt), .val fm, .val (.long tm), .second] [(.long tm), (.ref a)])) rfl rfl (hb hby d2_28)
  have N6 := Fr.snoc X6 N5 g_a
  have F_a_nx := F_a_nx.other W6 (Or.inr (slot_ne (Or.inr (hw _ (List.mem_of_getElem? (i := 13) rfl))) (Or.inr (hw _ (List.mem_of_getElem? (i := 21) rfl))) (by decide) (t := .boolean) (t' := .long) (by decide) (by decide)))
  have F_a_xx := F_a_xx.other W6 (Or.inr (slot_ne (Or.inr (hw _ (List.mem_of_getElem? (i := 15) rfl))) (Or.inr (hw _ (List.mem_of_getElem? (i := 21) rfl))) (by decide) (t := .boolean) (t' := .long) (by decide) (by decide)))
  have F_a_keepTtl := F_a_keepTtl.other W6 (Or.inr (slot_ne (Or.inr (hw _ (List.mem_of_getElem? (i := 17) rfl))) (Or.inr (hw _ (List.mem_of_getElem? (i := 21) rfl))) (by decide) (t := .boolean) (t' := .long) (by decide) (by decide)))
  have F_a_form := F_a_form.other W6 (Or.inr (slot_ne (Or.inr (hw _ (List.mem_of_getElem? (i := 19) rfl))) (Or.inr (hw _ (List.mem_of_getElem? (i := 21) rfl))) (by decide) (t := (.object "com/example/libttl/libttl/TimeForm")) (t' := .long) (by decide) (by decide)))
  have F_a_time := F_a_time.same W6
  have E_a := E_a.wr W6
  have Kp := Kp.wr W6 (Or.inl (List.mem_of_getElem? (i := 0) rfl))
  refine own_st (A := T6.setTop (mkF mM 31 #[.val (.ref a), .val (.int nx), .val (.int xx), .val (.int kt), .val fm, .val (.long tm), .second] [])) (fun tT_ kK_ => st6 tT_ kK_) ?_
  exact own_retV X6 hx hlk hret (hb hby d2_31) (by rw [e6]; exact ⟨rfl, N6, Kp, E_a, F_a_nx, F_a_xx, F_a_keepTtl, F_a_form, F_a_time, bnx, bxx, bkt, hf⟩) (by decide) (by decide)
theorem d1_0 : decode prog_44_method_1_code 0 = .ok (.aload_n 0, 1) := by decide +kernel
theorem d1_1 : decode prog_44_method_1_code 1 = .ok (.iconst 0, 1) := by decide +kernel
theorem d1_2 : decode prog_44_method_1_code 2 = .ok (.iconst 0, 1) := by decide +kernel
theorem d1_3 : decode prog_44_method_1_code 3 = .ok (.iconst 0, 1) := by decide +kernel
theorem d1_4 : decode prog_44_method_1_code 4 = .ok (.aconst_null, 1) := by decide +kernel
theorem d1_5 : decode prog_44_method_1_code 5 = .ok (.lconst 0, 1) := by decide +kernel
theorem d1_6 : decode prog_44_method_1_code 6 = .ok (.invokespecial 1, 3) := by decide +kernel
theorem pd__28ZZZLcom_2fexample_2flibttl_2flibttl_2fTimeForm_3bJ_29V : parseMethodDescriptor "(ZZZLcom/example/libttl/libttl/TimeForm;J)V" = some ⟨[.boolean, .boolean, .boolean, (.object "com/example/libttl/libttl/TimeForm"), .long], none⟩ := by decide +kernel
theorem d1_9 : decode prog_44_method_1_code 9 = .ok (.return_, 1) := by decide +kernel
theorem ef_rmI0 (mM : MethodId) (a : Addr) : entryFrame mM #[(.ref a)] 1 = mkF mM 0 #[.val (.ref a)] [] := by first | (simp [entryFrame, mkF, argsToLocals, Value.category]; done) | rfl
set_option maxRecDepth 65536 in
set_option maxHeartbeats 40000000 in
theorem rmI0 (lL : Launch) (Z : State) (a0 : Array Value) (hw : ∀ d ∈ tables_1, d.before a0 Z = true) (ws : List Jvm.Cond) (a : Addr) (h0 : Heap) (n0 : Nat) (g_a : n0 ≤ a) (E_a : Exa Z h0 a "com/example/libttl/libttl/SetOptions") (F_a_nx : Fld Z h0 a "com/example/libttl/libttl/SetOptions" "nx" "Z" (.int (0 : Int32))) (F_a_xx : Fld Z h0 a "com/example/libttl/libttl/SetOptions" "xx" "Z" (.int (0 : Int32))) (F_a_keepTtl : Fld Z h0 a "com/example/libttl/libttl/SetOptions" "keepTtl" "Z" (.int (0 : Int32))) (F_a_form : Fld Z h0 a "com/example/libttl/libttl/SetOptions" "form" "Lcom/example/libttl/libttl/TimeForm;" .null) (F_a_time : Fld Z h0 a "com/example/libttl/libttl/SetOptions" "time" "J" (.long (0 : Int64))) :
    MetFree lL (⟨"com/example/libttl/libttl/SetOptions", "<init>", "()V"⟩ : MethodName) (head1 (Jvm.Cond.code (⟨"com/example/libttl/libttl/SetOptions", "<init>", "()V"⟩ : MethodName) prog_44_method_1_code 1 none :: ws) ({ frames := 2, cells := 0, slots := 0, locals := 30 } : Room)) (fun as_ uU_ => as_ = #[(.ref a)] ∧ Z.Warmed39 uU_.vm ∧ uU_.heap = h0) (fun _ _ _ _ _ => True) (fun _ uU_ oO_ uE_ => ∃ vV_ lL_, oO_ = .returned vV_ ∧ Qi Z a 0 0 0 .null 0 h0 n0 vV_ uE_.heap lL_ ∧ FrameEnd uU_ oO_ uE_ lL_ ({ frames := 2, cells := 0, slots := 0, locals := 30 } : Room).cells ({ frames := 2, cells := 0, slots := 0, locals := 30 } : Room).slots) := by
  refine MetFree.of_bodySF (plainFor_of_name pn_com_2fexample_2flibttl_2flibttl_2fSetOptions) hisR ?_
  intro pP eE sS mM args below meth cC s₁ Bd hml0 hP hK
  obtain ⟨rfl, hZ, hh⟩ := hP
  have hx := Bd.exec
  have hby := Bd.bytes
  have hml : cC.maxLocals = 1 := hml0
  have hown : sS.vm.findClass "com/example/libttl/libttl/SetOptions" = some mM.cls := findClass_of_methodNamed Bd.named
  have hnm := (name_of_methodNamed Bd.named Bd.method).1
  have hret := Bd.returns
  have hlk := BodyLoose.notSynchronized Bd
  have X0 : Stand pP lL eE ({ frames := 2, cells := 0, slots := 0, locals := 30 } : Room) sS mM #[(.ref a)] below meth cC s₁ [] 0 0 := Stand.of_body Bd
  have e0 : s₁.heap = h0 := by rw [← hh, Bd.state]; rfl
  have N0 := Fr.nil n0
  show own_Go pP eE below sS (Qi Z a 0 0 0 .null 0 h0 n0) 0 0 (s₁.setTop (entryFrame mM #[(.ref a)] 1))
  refine own_st (A := s₁.setTop (mkF mM 0 #[.val (.ref a)] [])) (fun tT_ kK_ => castTop (ef_rmI0 mM a) kK_) ?_
  refine own_st (A := s₁.setTop (mkF mM 1 #[.val (.ref a)] [(.ref a)])) (fun tT_ kK_ => XS.aloadN X0.here hx rfl (hb hby d1_0) rfl rfl kK_) ?_
  refine own_st (A := s₁.setTop (mkF mM 2 #[.val (.ref a)] [(.int (0 : Int32)), (.ref a)])) (fun tT_ kK_ => XS.iconst X0.here hx rfl (hb hby d1_1) kK_) ?_
  refine own_st (A := s₁.setTop (mkF mM 3 #[.val (.ref a)] [(.int (0 : Int32)), (.int (0 : Int32)), (.ref a)])) (fun tT_ kK_ => XS.iconst X0.here hx rfl (hb hby d1_2) kK_) ?_
  refine own_st (A := s₁.setTop (mkF mM 4 #[.val (.ref a)] [(.int (0 : Int32)), (.int (0 : Int32)), (.int (0 : Int32)), (.ref a)])) (fun tT_ kK_ => XS.iconst X0.here hx rfl (hb hby d1_3) kK_) ?_
  refine own_st (A := s₁.setTop (mkF mM 5 #[.val (.ref a)] [.null, (.int (0 : Int32)), (.int (0 : Int32)), (.int (0 : Int32)), (.ref a)])) (fun tT_ kK_ => XS.aconstNull X0.here hx rfl (hb hby d1_4) kK_) ?_
  refine own_st (A := s₁.setTop (mkF mM 6 #[.val (.ref a)] [(.long (0 : Int64)), .null, (.int (0 : Int32)), (.int (0 : Int32)), (.int (0 : Int32)), (.ref a)])) (fun tT_ kK_ => XS.lconst X0.here hx rfl (hb hby d1_5) kK_) ?_
  obtain ⟨_, _, ⟨T7, L7, k7, n7⟩, -, X7, ⟨Lc7, hQ7, l7, y7, z7⟩, st7⟩ := X0.specialBack hx (y := (⟨"com/example/libttl/libttl/SetOptions", "<init>", "(ZZZLcom/example/libttl/libttl/TimeForm;J)V"⟩ : MethodName)) rfl hown (mvT hZ (hw _ (List.mem_of_getElem? (i := 6) rfl))) (mvT hZ (hw _ (List.mem_of_getElem? (i := 7) rfl))) (mvT hZ (hw _ (List.mem_of_getElem? (i := 8) rfl))) (by decide) (backOf (W := 0) (rmI5 lL Z a0 hw [] a (0 : Int32) (0 : Int32) (0 : Int32) .null (0 : Int64) h0 n0 g_a E_a F_a_nx F_a_xx F_a_keepTtl F_a_form F_a_time (by decide) (by decide) (by decide) rfl) hZ (hw _ (List.mem_of_getElem? (i := 8) rfl)) (hw _ (List.mem_of_getElem? (i := 2) rfl)) (by decide) (by decide)) (g := (mkF mM 6 #[.val (.ref a)] [(.long (0 : Int64)), .null, (.int (0 : Int32)), (.int (0 : Int32)), (.int (0 : Int32)), (.ref a)])) rfl (by rw [hml]; rfl) (Steps.refl _) (a := a) (argsL := [(.int (0 : Int32)), (.int (0 : Int32)), (.int (0 : Int32)), .null, (.long (0 : Int64))]) (rest := []) (lenOf pd__28ZZZLcom_2fexample_2flibttl_2flibttl_2fTimeForm_3bJ_29V rfl) rfl (by show 2 * 0 + _ ≤ _; exact Nat.le_of_eq rfl) (hb hby d1_6) (fun _ _ => ⟨rfl, e0, (by decide : 0 + 0 ≤ _), (by decide : 0 + 0 ≤ _)⟩)
  dsimp only [Pt.U, Pt.locs, Pt.cells, Pt.slots] at X7 l7 y7 z7 st7 hQ7
  subst l7 y7 z7
  obtain ⟨rfl, N7q, K7, O7⟩ := hQ7
  have N7 := Fr.app N0 N7q
  have e7 : T7.heap = T7.heap := rfl
  refine own_st (A := T7.setTop (mkF mM 9 #[.val (.ref a)] [])) (fun tT_ kK_ => st7.trans kK_) ?_
  have E_a := E_a.keep K7
  exact own_retV X7 hx hlk hret (hb hby d1_9) ⟨rfl, N7, K7, O7⟩ (by decide) (by decide)
theorem d13_0 : decode prog_44_method_3_code 0 = .ok (.aload_n 0, 1) := by decide +kernel
theorem d13_1 : decode prog_44_method_3_code 1 = .ok (.getfield 16, 3) := by decide +kernel
theorem d13_4 : decode prog_44_method_3_code 4 = .ok (.ifCond .eq 7, 3) := by decide +kernel
theorem d13_11 : decode prog_44_method_3_code 11 = .ok (.new 2, 3) := by decide +kernel
theorem d13_14 : decode prog_44_method_3_code 14 = .ok (.dup, 1) := by decide +kernel
theorem d13_15 : decode prog_44_method_3_code 15 = .ok (.iconst 1, 1) := by decide +kernel
theorem d13_16 : decode prog_44_method_3_code 16 = .ok (.aload_n 0, 1) := by decide +kernel
theorem d13_17 : decode prog_44_method_3_code 17 = .ok (.getfield 16, 3) := by decide +kernel
theorem d13_20 : decode prog_44_method_3_code 20 = .ok (.aload_n 0, 1) := by decide +kernel
theorem d13_21 : decode prog_44_method_3_code 21 = .ok (.getfield 19, 3) := by decide +kernel
theorem d13_24 : decode prog_44_method_3_code 24 = .ok (.aload_n 0, 1) := by decide +kernel
theorem d13_25 : decode prog_44_method_3_code 25 = .ok (.getfield 22, 3) := by decide +kernel
theorem d13_28 : decode prog_44_method_3_code 28 = .ok (.aload_n 0, 1) := by decide +kernel
theorem d13_29 : decode prog_44_method_3_code 29 = .ok (.getfield 26, 3) := by decide +kernel
theorem d13_32 : decode prog_44_method_3_code 32 = .ok (.invokespecial 1, 3) := by decide +kernel
theorem d13_35 : decode prog_44_method_3_code 35 = .ok (.areturn, 1) := by decide +kernel
theorem ef_rmNx (mM : MethodId) (a : Addr) (nx : Int32) (kt : Int32) (fm : Value) (tm : Int64) : entryFrame mM #[(.ref a)] 1 = mkF mM 0 #[.val (.ref a)] [] := by first | (simp [entryFrame, mkF, argsToLocals, Value.category]; done) | rfl
set_option maxRecDepth 65536 in
set_option maxHeartbeats 40000000 in
theorem rmNx (lL : Launch) (Z : State) (a0 : Array Value) (hw : ∀ d ∈ tables_1, d.before a0 Z = true) (ws : List Jvm.Cond) (a : Addr) (nx : Int32) (kt : Int32) (fm : Value) (tm : Int64) (h0 : Heap) (n0 : Nat) (Zn : n0 ≤ h0.size) (ob : Obj Z h0 a nx 0 kt fm tm) :
    MetFree lL (⟨"com/example/libttl/libttl/SetOptions", "nx", "()Lcom/example/libttl/libttl/SetOptions;"⟩ : MethodName) (head1 (Jvm.Cond.code (⟨"com/example/libttl/libttl/SetOptions", "nx", "()Lcom/example/libttl/libttl/SetOptions;"⟩ : MethodName) prog_44_method_3_code 1 (some (.object "com/example/libttl/libttl/SetOptions")) :: ws) ({ frames := 2, cells := 1, slots := 5, locals := 31 } : Room)) (fun as_ uU_ => as_ = #[(.ref a)] ∧ Z.Warmed39 uU_.vm ∧ uU_.heap = h0) (fun _ _ _ _ _ => True) (fun _ uU_ oO_ uE_ => ∃ vV_ lL_, oO_ = .returned vV_ ∧ Qc Z 1 0 kt fm tm h0 n0 vV_ uE_.heap lL_ ∧ FrameEnd uU_ oO_ uE_ lL_ ({ frames := 2, cells := 1, slots := 5, locals := 31 } : Room).cells ({ frames := 2, cells := 1, slots := 5, locals := 31 } : Room).slots) := by
  refine MetFree.of_bodySF (plainFor_of_name pn_com_2fexample_2flibttl_2flibttl_2fSetOptions) hisR ?_
  intro pP eE sS mM args below meth cC s₁ Bd hml0 hP hK
  obtain ⟨rfl, hZ, hh⟩ := hP
  have hx := Bd.exec
  have hby := Bd.bytes
  have hml : cC.maxLocals = 1 := hml0
  have hown : sS.vm.findClass "com/example/libttl/libttl/SetOptions" = some mM.cls := findClass_of_methodNamed Bd.named
  have hnm := (name_of_methodNamed Bd.named Bd.method).1
  have hret := Bd.returns
  have hlk := BodyLoose.notSynchronized Bd
  have X0 : Stand pP lL eE ({ frames := 2, cells := 1, slots := 5, locals := 31 } : Room) sS mM #[(.ref a)] below meth cC s₁ [] 0 0 := Stand.of_body Bd
  have e0 : s₁.heap = h0 := by rw [← hh, Bd.state]; rfl
  have N0 := Fr.nil n0
  show own_Go pP eE below sS (Qc Z 1 0 kt fm tm h0 n0) 1 5 (s₁.setTop (entryFrame mM #[(.ref a)] 1))
  refine own_st (A := s₁.setTop (mkF mM 0 #[.val (.ref a)] [])) (fun tT_ kK_ => castTop (ef_rmNx mM a nx kt fm tm) kK_) ?_
  obtain ⟨E_a, F_a_nx, F_a_xx, F_a_keepTtl, F_a_form, F_a_time, bnx, bxx, bkt, hf⟩ := ob
  have Kp := Keep.refl h0 []
  refine own_st (A := s₁.setTop (mkF mM 1 #[.val (.ref a)] [(.ref a)])) (fun tT_ kK_ => XS.aloadN X0.here hx rfl (hb hby d13_0) rfl rfl kK_) ?_
  obtain ⟨T8, X8, e8, st8⟩ := getF X0 hx hZ hown (host := "") (Or.inl (hw _ (List.mem_of_getElem? (i := 14) rfl))) Via.refl e0 F_a_xx (g := (mkF mM 1 #[.val (.ref a)] [(.ref a)])) rfl rfl (hb hby d13_1)
  refine own_st (A := T8.setTop (mkF mM 4 #[.val (.ref a)] [(.int (0 : Int32))])) (fun tT_ kK_ => st8 tT_ kK_) ?_
  refine own_st (A := T8.setTop (mkF mM 11 #[.val (.ref a)] [])) (fun tT_ kK_ => XS.ifYes X8.here hx rfl (pc0 := 4) (pc' := 11) rfl (hb hby d13_4) rfl ((if0 _ _).trans (teq (by decide : ((0 : Int32) = (0 : Int32)))).1) (by decide) (by decide) kK_) ?_
  obtain ⟨T9, h9, X9, e9, E9, A9, D9, -, st9⟩ := newO X8 hx hZ hown (hw _ (List.mem_of_getElem? (i := 41) rfl)) (hw _ (List.mem_of_getElem? (i := 1) rfl)) (hw _ (List.mem_of_getElem? (i := 2) rfl)) e8 (g := (mkF mM 11 #[.val (.ref a)] [])) rfl (hb hby d13_11) (by decide) (by decide)
  obtain ⟨b9, g9⟩ : ∃ z, z = h0.size := ⟨_, rfl⟩
  rw [← g9] at A9 D9 st9
  have ne_a_b9 : a ≠ b9 := Nat.ne_of_lt (Nat.lt_of_lt_of_le E_a.lt (Nat.le_of_eq g9.symm))
  have g_b9 : n0 ≤ b9 := Nat.le_trans Zn (Nat.le_of_eq g9.symm)
  have b_b9 : h0.size ≤ b9 := Nat.le_trans Kp.1 (Nat.le_of_eq g9.symm)
  have F_a_nx := F_a_nx.ext E9
  have F_a_xx := F_a_xx.ext E9
  have F_a_keepTtl := F_a_keepTtl.ext E9
  have F_a_form := F_a_form.ext E9
  have F_a_time := F_a_time.ext E9
  have E_a := E_a.ext E9
  have Zn := Nat.le_trans Zn E9.1
  have Kp := Kp.ext E9
  have E_b9 := A9
  have F_b9_nx : Fld Z h9 b9 "com/example/libttl/libttl/SetOptions" "nx" "Z" (.int (0 : Int32)) := D9 (Or.inr (hw _ (List.mem_of_getElem? (i := 13) rfl))) (ty := .boolean) (by decide)
  have F_b9_xx : Fld Z h9 b9 "com/example/libttl/libttl/SetOptions" "xx" "Z" (.int (0 : Int32)) := D9 (Or.inr (hw _ (List.mem_of_getElem? (i := 15) rfl))) (ty := .boolean) (by decide)
  have F_b9_keepTtl : Fld Z h9 b9 "com/example/libttl/libttl/SetOptions" "keepTtl" "Z" (.int (0 : Int32)) := D9 (Or.inr (hw _ (List.mem_of_getElem? (i := 17) rfl))) (ty := .boolean) (by decide)
  have F_b9_form : Fld Z h9 b9 "com/example/libttl/libttl/SetOptions" "form" "Lcom/example/libttl/libttl/TimeForm;" .null := D9 (Or.inr (hw _ (List.mem_of_getElem? (i := 19) rfl))) (ty := (.object "com/example/libttl/libttl/TimeForm")) (by decide)
  have F_b9_time : Fld Z h9 b9 "com/example/libttl/libttl/SetOptions" "time" "J" (.long (0 : Int64)) := D9 (Or.inr (hw _ (List.mem_of_getElem? (i := 21) rfl))) (ty := .long) (by decide)
  refine own_st (A := T9.setTop (mkF mM 14 #[.val (.ref a)] [(.ref b9)])) (fun tT_ kK_ => st9 tT_ kK_) ?_
  refine own_st (A := T9.setTop (mkF mM 15 #[.val (.ref a)] [(.ref b9), (.ref b9)])) (fun tT_ kK_ => XS.dup X9.here hx rfl (hb hby d13_14) rfl rfl kK_) ?_
  refine own_st (A := T9.setTop (mkF mM 16 #[.val (.ref a)] [(.int (1 : Int32)), (.ref b9), (.ref b9)])) (fun tT_ kK_ => XS.iconst X9.here hx rfl (hb hby d13_15) kK_) ?_
  refine own_st (A := T9.setTop (mkF mM 17 #[.val (.ref a)] [(.ref a), (.int (1 : Int32)), (.ref b9), (.ref b9)])) (fun tT_ kK_ => XS.aloadN X9.here hx rfl (hb hby d13_16) rfl rfl kK_) ?_
  obtain ⟨T10, X10, e10, st10⟩ := getF X9 hx hZ hown (host := "") (Or.inl (hw _ (List.mem_of_getElem? (i := 14) rfl))) Via.refl e9 F_a_xx (g := (mkF mM 17 #[.val (.ref a)] [(.ref a), (.int (1 : Int32)), (.ref b9), (.ref b9)])) rfl rfl (hb hby d13_17)
  refine own_st (A := T10.setTop (mkF mM 20 #[.val (.ref a)] [(.int (0 : Int32)), (.int (1 : Int32)), (.ref b9), (.ref b9)])) (fun tT_ kK_ => st10 tT_ kK_) ?_
  refine own_st (A := T10.setTop (mkF mM 21 #[.val (.ref a)] [(.ref a), (.int (0 : Int32)), (.int (1 : Int32)), (.ref b9), (.ref b9)])) (fun tT_ kK_ => XS.aloadN X10.here hx rfl (hb hby d13_20) rfl rfl kK_) ?_
  obtain ⟨T11, X11, e11, st11⟩ := getF X10 hx hZ hown (host := "") (Or.inl (hw _ (List.mem_of_getElem? (i := 16) rfl))) Via.refl e10 F_a_keepTtl (g := (mkF mM 21 #[.val (.ref a)] [(.ref a), (.int (0 : Int32)), (.int (1 : Int32)), (.ref b9), (.ref b9)])) rfl rfl (hb hby d13_21)
  refine own_st (A := T11.setTop (mkF mM 24 #[.val (.ref a)] [(.int kt), (.int (0 : Int32)), (.int (1 : Int32)), (.ref b9), (.ref b9)])) (fun tT_ kK_ => st11 tT_ kK_) ?_
  refine own_st (A := T11.setTop (mkF mM 25 #[.val (.ref a)] [(.ref a), (.int kt), (.int (0 : Int32)), (.int (1 : Int32)), (.ref b9), (.ref b9)])) (fun tT_ kK_ => XS.aloadN X11.here hx rfl (hb hby d13_24) rfl rfl kK_) ?_
  obtain ⟨T12, X12, e12, st12⟩ := getF X11 hx hZ hown (host := "") (Or.inl (hw _ (List.mem_of_getElem? (i := 18) rfl))) Via.refl e11 F_a_form (g := (mkF mM 25 #[.val (.ref a)] [(.ref a), (.int kt), (.int (0 : Int32)), (.int (1 : Int32)), (.ref b9), (.ref b9)])) rfl rfl (hb hby d13_25)
  refine own_st (A := T12.setTop (mkF mM 28 #[.val (.ref a)] [fm, (.int kt), (.int (0 : Int32)), (.int (1 : Int32)), (.ref b9), (.ref b9)])) (fun tT_ kK_ => st12 tT_ kK_) ?_
  refine own_st (A := T12.setTop (mkF mM 29 #[.val (.ref a)] [(.ref a), fm, (.int kt), (.int (0 : Int32)), (.int (1 : Int32)), (.ref b9), (.ref b9)])) (fun tT_ kK_ => XS.aloadN X12.here hx rfl (hb hby d13_28) rfl rfl kK_) ?_
  obtain ⟨T13, X13, e13, st13⟩ := getF X12 hx hZ hown (host := "") (Or.inl (hw _ (List.mem_of_getElem? (i := 20) rfl))) Via.refl e12 F_a_time (g := (mkF mM 29 #[.val (.ref a)] [(.ref a), fm, (.int kt), (.int (0 : Int32)), (.int (1 : Int32)), (.ref b9), (.ref b9)])) rfl rfl (hb hby d13_29)
  refine own_st (A := T13.setTop (mkF mM 32 #[.val (.ref a)] [(.long tm), fm, (.int kt), (.int (0 : Int32)), (.int (1 : Int32)), (.ref b9), (.ref b9)])) (fun tT_ kK_ => st13 tT_ kK_) ?_
  obtain ⟨_, _, ⟨T14, L14, k14, n14⟩, -, X14, ⟨Lc14, hQ14, l14, y14, z14⟩, st14⟩ := X13.specialBack hx (y := (⟨"com/example/libttl/libttl/SetOptions", "<init>", "(ZZZLcom/example/libttl/libttl/TimeForm;J)V"⟩ : MethodName)) rfl hown (mvT hZ (hw _ (List.mem_of_getElem? (i := 6) rfl))) (mvT hZ (hw _ (List.mem_of_getElem? (i := 7) rfl))) (mvT hZ (hw _ (List.mem_of_getElem? (i := 8) rfl))) (by decide) (backOf (W := 1) (rmI5 lL Z a0 hw [] b9 (1 : Int32) (0 : Int32) kt fm tm h9 n0 g_b9 E_b9 F_b9_nx F_b9_xx F_b9_keepTtl F_b9_form F_b9_time (by decide) (by decide) bkt hf) hZ (hw _ (List.mem_of_getElem? (i := 8) rfl)) (hw _ (List.mem_of_getElem? (i := 2) rfl)) (by decide) (by decide)) (g := (mkF mM 32 #[.val (.ref a)] [(.long tm), fm, (.int kt), (.int (0 : Int32)), (.int (1 : Int32)), (.ref b9), (.ref b9)])) rfl (by rw [hml]; rfl) (Steps.refl _) (a := b9) (argsL := [(.int (1 : Int32)), (.int (0 : Int32)), (.int kt), fm, (.long tm)]) (rest := [(.ref b9)]) (lenOf pd__28ZZZLcom_2fexample_2flibttl_2flibttl_2fTimeForm_3bJ_29V rfl) rfl (by show 2 * 0 + _ ≤ _; exact Nat.le_of_eq rfl) (hb hby d13_32) (fun _ _ => ⟨rfl, e13, (by decide : 1 + 0 ≤ _), (by decide : 5 + 0 ≤ _)⟩)
  dsimp only [Pt.U, Pt.locs, Pt.cells, Pt.slots] at X14 l14 y14 z14 st14 hQ14
  subst l14 y14 z14
  obtain ⟨rfl, N14q, K14, O14⟩ := hQ14
  have N14 := Fr.app N0 N14q
  have e14 : T14.heap = T14.heap := rfl
  refine own_st (A := T14.setTop (mkF mM 35 #[.val (.ref a)] [(.ref b9)])) (fun tT_ kK_ => st14.trans kK_) ?_
  have F_a_nx := F_a_nx.keep K14 (ninS ne_a_b9 nin0)
  have F_a_xx := F_a_xx.keep K14 (ninS ne_a_b9 nin0)
  have F_a_keepTtl := F_a_keepTtl.keep K14 (ninS ne_a_b9 nin0)
  have F_a_form := F_a_form.keep K14 (ninS ne_a_b9 nin0)
  have F_a_time := F_a_time.keep K14 (ninS ne_a_b9 nin0)
  have E_a := E_a.keep K14
  have E_b9 := E_b9.keep K14
  have Zn := Nat.le_trans Zn K14.1
  have Kp := Kp.trans K14 (allS (Or.inr b_b9) all0)
  exact own_retA X14 hx hlk hret rfl rfl (hb hby d13_35) ⟨_, rfl, N14, own_ext_of_keep Kp, O14⟩ (by decide) (by decide)
theorem d9_0 : decode prog_44_method_4_code 0 = .ok (.aload_n 0, 1) := by decide +kernel
theorem d9_1 : decode prog_44_method_4_code 1 = .ok (.getfield 12, 3) := by decide +kernel
theorem d9_4 : decode prog_44_method_4_code 4 = .ok (.ifCond .eq 7, 3) := by decide +kernel
theorem d9_11 : decode prog_44_method_4_code 11 = .ok (.new 2, 3) := by decide +kernel
theorem d9_14 : decode prog_44_method_4_code 14 = .ok (.dup, 1) := by decide +kernel
theorem d9_15 : decode prog_44_method_4_code 15 = .ok (.aload_n 0, 1) := by decide +kernel
theorem d9_16 : decode prog_44_method_4_code 16 = .ok (.getfield 12, 3) := by decide +kernel
theorem d9_19 : decode prog_44_method_4_code 19 = .ok (.iconst 1, 1) := by decide +kernel
theorem d9_20 : decode prog_44_method_4_code 20 = .ok (.aload_n 0, 1) := by decide +kernel
theorem d9_21 : decode prog_44_method_4_code 21 = .ok (.getfield 19, 3) := by decide +kernel
theorem d9_24 : decode prog_44_method_4_code 24 = .ok (.aload_n 0, 1) := by decide +kernel
theorem d9_25 : decode prog_44_method_4_code 25 = .ok (.getfield 22, 3) := by decide +kernel
theorem d9_28 : decode prog_44_method_4_code 28 = .ok (.aload_n 0, 1) := by decide +kernel
theorem d9_29 : decode prog_44_method_4_code 29 = .ok (.getfield 26, 3) := by decide +kernel
theorem d9_32 : decode prog_44_method_4_code 32 = .ok (.invokespecial 1, 3) := by decide +kernel
theorem d9_35 : decode prog_44_method_4_code 35 = .ok (.areturn, 1) := by decide +kernel
theorem ef_rmXx (mM : MethodId) (a : Addr) (xx : Int32) (kt : Int32) (fm : Value) (tm : Int64) : entryFrame mM #[(.ref a)] 1 = mkF mM 0 #[.val (.ref a)] [] := by first | (simp [entryFrame, mkF, argsToLocals, Value.category]; done) | rfl
set_option maxRecDepth 65536 in
set_option maxHeartbeats 40000000 in
theorem rmXx (lL : Launch) (Z : State) (a0 : Array Value) (hw : ∀ d ∈ tables_1, d.before a0 Z = true) (ws : List Jvm.Cond) (a : Addr) (xx : Int32) (kt : Int32) (fm : Value) (tm : Int64) (h0 : Heap) (n0 : Nat) (Zn : n0 ≤ h0.size) (ob : Obj Z h0 a 0 xx kt fm tm) :
    MetFree lL (⟨"com/example/libttl/libttl/SetOptions", "xx", "()Lcom/example/libttl/libttl/SetOptions;"⟩ : MethodName) (head1 (Jvm.Cond.code (⟨"com/example/libttl/libttl/SetOptions", "xx", "()Lcom/example/libttl/libttl/SetOptions;"⟩ : MethodName) prog_44_method_4_code 1 (some (.object "com/example/libttl/libttl/SetOptions")) :: ws) ({ frames := 2, cells := 1, slots := 5, locals := 31 } : Room)) (fun as_ uU_ => as_ = #[(.ref a)] ∧ Z.Warmed39 uU_.vm ∧ uU_.heap = h0) (fun _ _ _ _ _ => True) (fun _ uU_ oO_ uE_ => ∃ vV_ lL_, oO_ = .returned vV_ ∧ Qc Z 0 1 kt fm tm h0 n0 vV_ uE_.heap lL_ ∧ FrameEnd uU_ oO_ uE_ lL_ ({ frames := 2, cells := 1, slots := 5, locals := 31 } : Room).cells ({ frames := 2, cells := 1, slots := 5, locals := 31 } : Room).slots) := by
  refine MetFree.of_bodySF (plainFor_of_name pn_com_2fexample_2flibttl_2flibttl_2fSetOptions) hisR ?_
  intro pP eE sS mM args below meth cC s₁ Bd hml0 hP hK
  obtain ⟨rfl, hZ, hh⟩ := hP
  have hx := Bd.exec
  have hby := Bd.bytes
  have hml : cC.maxLocals = 1 := hml0
  have hown : sS.vm.findClass "com/example/libttl/libttl/SetOptions" = some mM.cls := findClass_of_methodNamed Bd.named
  have hnm := (name_of_methodNamed Bd.named Bd.method).1
  have hret := Bd.returns
  have hlk := BodyLoose.notSynchronized Bd
  have X0 : Stand pP lL eE ({ frames := 2, cells := 1, slots := 5, locals := 31 } : Room) sS mM #[(.ref a)] below meth cC s₁ [] 0 0 := Stand.of_body Bd
  have e0 : s₁.heap = h0 := by rw [← hh, Bd.state]; rfl
  have N0 := Fr.nil n0
  show own_Go pP eE below sS (Qc Z 0 1 kt fm tm h0 n0) 1 5 (s₁.setTop (entryFrame mM #[(.ref a)] 1))
  refine own_st (A := s₁.setTop (mkF mM 0 #[.val (.ref a)] [])) (fun tT_ kK_ => castTop (ef_rmXx mM a xx kt fm tm) kK_) ?_
  obtain ⟨E_a, F_a_nx, F_a_xx, F_a_keepTtl, F_a_form, F_a_time, bnx, bxx, bkt, hf⟩ := ob
  have Kp := Keep.refl h0 []
  refine own_st (A := s₁.setTop (mkF mM 1 #[.val (.ref a)] [(.ref a)])) (fun tT_ kK_ => XS.aloadN X0.here hx rfl (hb hby d9_0) rfl rfl kK_) ?_
  obtain ⟨T15, X15, e15, st15⟩ := getF X0 hx hZ hown (host := "") (Or.inl (hw _ (List.mem_of_getElem? (i := 12) rfl))) Via.refl e0 F_a_nx (g := (mkF mM 1 #[.val (.ref a)] [(.ref a)])) rfl rfl (hb hby d9_1)
  refine own_st (A := T15.setTop (mkF mM 4 #[.val (.ref a)] [(.int (0 : Int32))])) (fun tT_ kK_ => st15 tT_ kK_) ?_
  refine own_st (A := T15.setTop (mkF mM 11 #[.val (.ref a)] [])) (fun tT_ kK_ => XS.ifYes X15.here hx rfl (pc0 := 4) (pc' := 11) rfl (hb hby d9_4) rfl ((if0 _ _).trans (teq (by decide : ((0 : Int32) = (0 : Int32)))).1) (by decide) (by decide) kK_) ?_
  obtain ⟨T16, h16, X16, e16, E16, A16, D16, -, st16⟩ := newO X15 hx hZ hown (hw _ (List.mem_of_getElem? (i := 41) rfl)) (hw _ (List.mem_of_getElem? (i := 1) rfl)) (hw _ (List.mem_of_getElem? (i := 2) rfl)) e15 (g := (mkF mM 11 #[.val (.ref a)] [])) rfl (hb hby d9_11) (by decide) (by decide)
  obtain ⟨b16, g16⟩ : ∃ z, z = h0.size := ⟨_, rfl⟩
  rw [← g16] at A16 D16 st16
  have ne_a_b16 : a ≠ b16 := Nat.ne_of_lt (Nat.lt_of_lt_of_le E_a.lt (Nat.le_of_eq g16.symm))
  have g_b16 : n0 ≤ b16 := Nat.le_trans Zn (Nat.le_of_eq g16.symm)
  have b_b16 : h0.size ≤ b16 := Nat.le_trans Kp.1 (Nat.le_of_eq g16.symm)
  have F_a_nx := F_a_nx.ext E16
  have F_a_xx := F_a_xx.ext E16
  have F_a_keepTtl := F_a_keepTtl.ext E16
  have F_a_form := F_a_form.ext E16
  have F_a_time := F_a_time.ext E16
  have E_a := E_a.ext E16
  have Zn := Nat.le_trans Zn E16.1
  have Kp := Kp.ext E16
  have E_b16 := A16
  have F_b16_nx : Fld Z h16 b16 "com/example/libttl/libttl/SetOptions" "nx" "Z" (.int (0 : Int32)) := D16 (Or.inr (hw _ (List.mem_of_getElem? (i := 13) rfl))) (ty := .boolean) (by decide)
  have F_b16_xx : Fld Z h16 b16 "com/example/libttl/libttl/SetOptions" "xx" "Z" (.int (0 : Int32)) := D16 (Or.inr (hw _ (List.mem_of_getElem? (i := 15) rfl))) (ty := .boolean) (by decide)
  have F_b16_keepTtl : Fld Z h16 b16 "com/example/libttl/libttl/SetOptions" "keepTtl" "Z" (.int (0 : Int32)) := D16 (Or.inr (hw _ (List.mem_of_getElem? (i := 17) rfl))) (ty := .boolean) (by decide)
  have F_b16_form : Fld Z h16 b16 "com/example/libttl/libttl/SetOptions" "form" "Lcom/example/libttl/libttl/TimeForm;" .null := D16 (Or.inr (hw _ (List.mem_of_getElem? (i := 19) rfl))) (ty := (.object "com/example/libttl/libttl/TimeForm")) (by decide)
  have F_b16_time : Fld Z h16 b16 "com/example/libttl/libttl/SetOptions" "time" "J" (.long (0 : Int64)) := D16 (Or.inr (hw _ (List.mem_of_getElem? (i := 21) rfl))) (ty := .long) (by decide)
  refine own_st (A := T16.setTop (mkF mM 14 #[.val (.ref a)] [(.ref b16)])) (fun tT_ kK_ => st16 tT_ kK_) ?_
  refine own_st (A := T16.setTop (mkF mM 15 #[.val (.ref a)] [(.ref b16), (.ref b16)])) (fun tT_ kK_ => XS.dup X16.here hx rfl (hb hby d9_14) rfl rfl kK_) ?_
  refine own_st (A := T16.setTop (mkF mM 16 #[.val (.ref a)] [(.ref a), (.ref b16), (.ref b16)])) (fun tT_ kK_ => XS.aloadN X16.here hx rfl (hb hby d9_15) rfl rfl kK_) ?_
  obtain ⟨T17, X17, e17, st17⟩ := getF X16 hx hZ hown (host := "") (Or.inl (hw _ (List.mem_of_getElem? (i := 12) rfl))) Via.refl e16 F_a_nx (g := (mkF mM 16 #[.val (.ref a)] [(.ref a), (.ref b16), (.ref b16)])) rfl rfl (hb hby d9_16)
  refine own_st (A := T17.setTop (mkF mM 19 #[.val (.ref a)] [(.int (0 : Int32)), (.ref b16), (.ref b16)])) (fun tT_ kK_ => st17 tT_ kK_) ?_
  refine own_st (A := T17.setTop (mkF mM 20 #[.val (.ref a)] [(.int (1 : Int32)), (.int (0 : Int32)), (.ref b16), (.ref b16)])) (fun tT_ kK_ => XS.iconst X17.here hx rfl (hb hby d9_19) kK_) ?_
  refine own_st (A := T17.setTop (mkF mM 21 #[.val (.ref a)] [(.ref a), (.int (1 : Int32)), (.int (0 : Int32)), (.ref b16), (.ref b16)])) (fun tT_ kK_ => XS.aloadN X17.here hx rfl (hb hby d9_20) rfl rfl kK_) ?_
  obtain ⟨T18, X18, e18, st18⟩ := getF X17 hx hZ hown (host := "") (Or.inl (hw _ (List.mem_of_getElem? (i := 16) rfl))) Via.refl e17 F_a_keepTtl (g := (mkF mM 21 #[.val (.ref a)] [(.ref a), (.int (1 : Int32)), (.int (0 : Int32)), (.ref b16), (.ref b16)])) rfl rfl (hb hby d9_21)
  refine own_st (A := T18.setTop (mkF mM 24 #[.val (.ref a)] [(.int kt), (.int (1 : Int32)), (.int (0 : Int32)), (.ref b16), (.ref b16)])) (fun tT_ kK_ => st18 tT_ kK_) ?_
  refine own_st (A := T18.setTop (mkF mM 25 #[.val (.ref a)] [(.ref a), (.int kt), (.int (1 : Int32)), (.int (0 : Int32)), (.ref b16), (.ref b16)])) (fun tT_ kK_ => XS.aloadN X18.here hx rfl (hb hby d9_24) rfl rfl kK_) ?_
  obtain ⟨T19, X19, e19, st19⟩ := getF X18 hx hZ hown (host := "") (Or.inl (hw _ (List.mem_of_getElem? (i := 18) rfl))) Via.refl e18 F_a_form (g := (mkF mM 25 #[.val (.ref a)] [(.ref a), (.int kt), (.int (1 : Int32)), (.int (0 : Int32)), (.ref b16), (.ref b16)])) rfl rfl (hb hby d9_25)
  refine own_st (A := T19.setTop (mkF mM 28 #[.val (.ref a)] [fm, (.int kt), (.int (1 : Int32)), (.int (0 : Int32)), (.ref b16), (.ref b16)])) (fun tT_ kK_ => st19 tT_ kK_) ?_
  refine own_st (A := T19.setTop (mkF mM 29 #[.val (.ref a)] [(.ref a), fm, (.int kt), (.int (1 : Int32)), (.int (0 : Int32)), (.ref b16), (.ref b16)])) (fun tT_ kK_ => XS.aloadN X19.here hx rfl (hb hby d9_28) rfl rfl kK_) ?_
  obtain ⟨T20, X20, e20, st20⟩ := getF X19 hx hZ hown (host := "") (Or.inl (hw _ (List.mem_of_getElem? (i := 20) rfl))) Via.refl e19 F_a_time (g := (mkF mM 29 #[.val (.ref a)] [(.ref a), fm, (.int kt), (.int (1 : Int32)), (.int (0 : Int32)), (.ref b16), (.ref b16)])) rfl rfl (hb hby d9_29)
  refine own_st (A := T20.setTop (mkF mM 32 #[.val (.ref a)] [(.long tm), fm, (.int kt), (.int (1 : Int32)), (.int (0 : Int32)), (.ref b16), (.ref b16)])) (fun tT_ kK_ => st20 tT_ kK_) ?_
  obtain ⟨_, _, ⟨T21, L21, k21, n21⟩, -, X21, ⟨Lc21, hQ21, l21, y21, z21⟩, st21⟩ := X20.specialBack hx (y := (⟨"com/example/libttl/libttl/SetOptions", "<init>", "(ZZZLcom/example/libttl/libttl/TimeForm;J)V"⟩ : MethodName)) rfl hown (mvT hZ (hw _ (List.mem_of_getElem? (i := 6) rfl))) (mvT hZ (hw _ (List.mem_of_getElem? (i := 7) rfl))) (mvT hZ (hw _ (List.mem_of_getElem? (i := 8) rfl))) (by decide) (backOf (W := 1) (rmI5 lL Z a0 hw [] b16 (0 : Int32) (1 : Int32) kt fm tm h16 n0 g_b16 E_b16 F_b16_nx F_b16_xx F_b16_keepTtl F_b16_form F_b16_time (by decide) (by decide) bkt hf) hZ (hw _ (List.mem_of_getElem? (i := 8) rfl)) (hw _ (List.mem_of_getElem? (i := 2) rfl)) (by decide) (by decide)) (g := (mkF mM 32 #[.val (.ref a)] [(.long tm), fm, (.int kt), (.int (1 : Int32)), (.int (0 : Int32)), (.ref b16), (.ref b16)])) rfl (by rw [hml]; rfl) (Steps.refl _) (a := b16) (argsL := [(.int (0 : Int32)), (.int (1 : Int32)), (.int kt), fm, (.long tm)]) (rest := [(.ref b16)]) (lenOf pd__28ZZZLcom_2fexample_2flibttl_2flibttl_2fTimeForm_3bJ_29V rfl) rfl (by show 2 * 0 + _ ≤ _; exact Nat.le_of_eq rfl) (hb hby d9_32) (fun _ _ => ⟨rfl, e20, (by decide : 1 + 0 ≤ _), (by decide : 5 + 0 ≤ _)⟩)
  dsimp only [Pt.U, Pt.locs, Pt.cells, Pt.slots] at X21 l21 y21 z21 st21 hQ21
  subst l21 y21 z21
  obtain ⟨rfl, N21q, K21, O21⟩ := hQ21
  have N21 := Fr.app N0 N21q
  have e21 : T21.heap = T21.heap := rfl
  refine own_st (A := T21.setTop (mkF mM 35 #[.val (.ref a)] [(.ref b16)])) (fun tT_ kK_ => st21.trans kK_) ?_
  have F_a_nx := F_a_nx.keep K21 (ninS ne_a_b16 nin0)
  have F_a_xx := F_a_xx.keep K21 (ninS ne_a_b16 nin0)
  have F_a_keepTtl := F_a_keepTtl.keep K21 (ninS ne_a_b16 nin0)
  have F_a_form := F_a_form.keep K21 (ninS ne_a_b16 nin0)
  have F_a_time := F_a_time.keep K21 (ninS ne_a_b16 nin0)
  have E_a := E_a.keep K21
  have E_b16 := E_b16.keep K21
  have Zn := Nat.le_trans Zn K21.1
  have Kp := Kp.trans K21 (allS (Or.inr b_b16) all0)
  exact own_retA X21 hx hlk hret rfl rfl (hb hby d9_35) ⟨_, rfl, N21, own_ext_of_keep Kp, O21⟩ (by decide) (by decide)
theorem d12_0 : decode prog_44_method_9_code 0 = .ok (.aload_n 0, 1) := by decide +kernel
theorem d12_1 : decode prog_44_method_9_code 1 = .ok (.getfield 22, 3) := by decide +kernel
theorem d12_4 : decode prog_44_method_9_code 4 = .ok (.ifnull 7, 3) := by decide +kernel
theorem d12_11 : decode prog_44_method_9_code 11 = .ok (.new 2, 3) := by decide +kernel
theorem d12_14 : decode prog_44_method_9_code 14 = .ok (.dup, 1) := by decide +kernel
theorem d12_15 : decode prog_44_method_9_code 15 = .ok (.aload_n 0, 1) := by decide +kernel
theorem d12_16 : decode prog_44_method_9_code 16 = .ok (.getfield 12, 3) := by decide +kernel
theorem d12_19 : decode prog_44_method_9_code 19 = .ok (.aload_n 0, 1) := by decide +kernel
theorem d12_20 : decode prog_44_method_9_code 20 = .ok (.getfield 16, 3) := by decide +kernel
theorem d12_23 : decode prog_44_method_9_code 23 = .ok (.iconst 1, 1) := by decide +kernel
theorem d12_24 : decode prog_44_method_9_code 24 = .ok (.aconst_null, 1) := by decide +kernel
theorem d12_25 : decode prog_44_method_9_code 25 = .ok (.lconst 0, 1) := by decide +kernel
theorem d12_26 : decode prog_44_method_9_code 26 = .ok (.invokespecial 1, 3) := by decide +kernel
theorem d12_29 : decode prog_44_method_9_code 29 = .ok (.areturn, 1) := by decide +kernel
theorem ef_rmKt (mM : MethodId) (a : Addr) (nx : Int32) (xx : Int32) (kt : Int32) (tm : Int64) : entryFrame mM #[(.ref a)] 1 = mkF mM 0 #[.val (.ref a)] [] := by first | (simp [entryFrame, mkF, argsToLocals, Value.category]; done) | rfl
set_option maxRecDepth 65536 in
set_option maxHeartbeats 40000000 in
theorem rmKt (lL : Launch) (Z : State) (a0 : Array Value) (hw : ∀ d ∈ tables_1, d.before a0 Z = true) (ws : List Jvm.Cond) (a : Addr) (nx : Int32) (xx : Int32) (kt : Int32) (tm : Int64) (h0 : Heap) (n0 : Nat) (Zn : n0 ≤ h0.size) (ob : Obj Z h0 a nx xx kt .null tm) :
    MetFree lL (⟨"com/example/libttl/libttl/SetOptions", "keepTtl", "()Lcom/example/libttl/libttl/SetOptions;"⟩ : MethodName) (head1 (Jvm.Cond.code (⟨"com/example/libttl/libttl/SetOptions", "keepTtl", "()Lcom/example/libttl/libttl/SetOptions;"⟩ : MethodName) prog_44_method_9_code 1 (some (.object "com/example/libttl/libttl/SetOptions")) :: ws) ({ frames := 2, cells := 1, slots := 5, locals := 31 } : Room)) (fun as_ uU_ => as_ = #[(.ref a)] ∧ Z.Warmed39 uU_.vm ∧ uU_.heap = h0) (fun _ _ _ _ _ => True) (fun _ uU_ oO_ uE_ => ∃ vV_ lL_, oO_ = .returned vV_ ∧ Qc Z nx xx 1 .null 0 h0 n0 vV_ uE_.heap lL_ ∧ FrameEnd uU_ oO_ uE_ lL_ ({ frames := 2, cells := 1, slots := 5, locals := 31 } : Room).cells ({ frames := 2, cells := 1, slots := 5, locals := 31 } : Room).slots) := by
  refine MetFree.of_bodySF (plainFor_of_name pn_com_2fexample_2flibttl_2flibttl_2fSetOptions) hisR ?_
  intro pP eE sS mM args below meth cC s₁ Bd hml0 hP hK
  obtain ⟨rfl, hZ, hh⟩ := hP
  have hx := Bd.exec
  have hby := Bd.bytes
  have hml : cC.maxLocals = 1 := hml0
  have hown : sS.vm.findClass "com/example/libttl/libttl/SetOptions" = some mM.cls := findClass_of_methodNamed Bd.named
  have hnm := (name_of_methodNamed Bd.named Bd.method).1
  have hret := Bd.returns
  have hlk := BodyLoose.notSynchronized Bd
  have X0 : Stand pP lL eE ({ frames := 2, cells := 1, slots := 5, locals := 31 } : Room) sS mM #[(.ref a)] below meth cC s₁ [] 0 0 := Stand.of_body Bd
  have e0 : s₁.heap = h0 := by rw [← hh, Bd.state]; rfl
  have N0 := Fr.nil n0
  show own_Go pP eE below sS (Qc Z nx xx 1 .null 0 h0 n0) 1 5 (s₁.setTop (entryFrame mM #[(.ref a)] 1))
  refine own_st (A := s₁.setTop (mkF mM 0 #[.val (.ref a)] [])) (fun tT_ kK_ => castTop (ef_rmKt mM a nx xx kt tm) kK_) ?_
  obtain ⟨E_a, F_a_nx, F_a_xx, F_a_keepTtl, F_a_form, F_a_time, bnx, bxx, bkt, hf⟩ := ob
  have Kp := Keep.refl h0 []
  refine own_st (A := s₁.setTop (mkF mM 1 #[.val (.ref a)] [(.ref a)])) (fun tT_ kK_ => XS.aloadN X0.here hx rfl (hb hby d12_0) rfl rfl kK_) ?_
  obtain ⟨T22, X22, e22, st22⟩ := getF X0 hx hZ hown (host := "") (Or.inl (hw _ (List.mem_of_getElem? (i := 18) rfl))) Via.refl e0 F_a_form (g := (mkF mM 1 #[.val (.ref a)] [(.ref a)])) rfl rfl (hb hby d12_1)
  refine own_st (A := T22.setTop (mkF mM 4 #[.val (.ref a)] [.null])) (fun tT_ kK_ => st22 tT_ kK_) ?_
  refine own_st (A := T22.setTop (mkF mM 11 #[.val (.ref a)] [])) (fun tT_ kK_ => XS.ifnullYes X22.here hx rfl (pc0 := 4) (pc' := 11) rfl (hb hby d12_4) rfl (by decide) (by decide) kK_) ?_
  obtain ⟨T23, h23, X23, e23, E23, A23, D23, -, st23⟩ := newO X22 hx hZ hown (hw _ (List.mem_of_getElem? (i := 41) rfl)) (hw _ (List.mem_of_getElem? (i := 1) rfl)) (hw _ (List.mem_of_getElem? (i := 2) rfl)) e22 (g := (mkF mM 11 #[.val (.ref a)] [])) rfl (hb hby d12_11) (by decide) (by decide)
  obtain ⟨b23, g23⟩ : ∃ z, z = h0.size := ⟨_, rfl⟩
  rw [← g23] at A23 D23 st23
  have ne_a_b23 : a ≠ b23 := Nat.ne_of_lt (Nat.lt_of_lt_of_le E_a.lt (Nat.le_of_eq g23.symm))
  have g_b23 : n0 ≤ b23 := Nat.le_trans Zn (Nat.le_of_eq g23.symm)
  have b_b23 : h0.size ≤ b23 := Nat.le_trans Kp.1 (Nat.le_of_eq g23.symm)
  have F_a_nx := F_a_nx.ext E23
  have F_a_xx := F_a_xx.ext E23
  have F_a_keepTtl := F_a_keepTtl.ext E23
  have F_a_form := F_a_form.ext E23
  have F_a_time := F_a_time.ext E23
  have E_a := E_a.ext E23
  have Zn := Nat.le_trans Zn E23.1
  have Kp := Kp.ext E23
  have E_b23 := A23
  have F_b23_nx : Fld Z h23 b23 "com/example/libttl/libttl/SetOptions" "nx" "Z" (.int (0 : Int32)) := D23 (Or.inr (hw _ (List.mem_of_getElem? (i := 13) rfl))) (ty := .boolean) (by decide)
  have F_b23_xx : Fld Z h23 b23 "com/example/libttl/libttl/SetOptions" "xx" "Z" (.int (0 : Int32)) := D23 (Or.inr (hw _ (List.mem_of_getElem? (i := 15) rfl))) (ty := .boolean) (by decide)
  have F_b23_keepTtl : Fld Z h23 b23 "com/example/libttl/libttl/SetOptions" "keepTtl" "Z" (.int (0 : Int32)) := D23 (Or.inr (hw _ (List.mem_of_getElem? (i := 17) rfl))) (ty := .boolean) (by decide)
  have F_b23_form : Fld Z h23 b23 "com/example/libttl/libttl/SetOptions" "form" "Lcom/example/libttl/libttl/TimeForm;" .null := D23 (Or.inr (hw _ (List.mem_of_getElem? (i := 19) rfl))) (ty := (.object "com/example/libttl/libttl/TimeForm")) (by decide)
  have F_b23_time : Fld Z h23 b23 "com/example/libttl/libttl/SetOptions" "time" "J" (.long (0 : Int64)) := D23 (Or.inr (hw _ (List.mem_of_getElem? (i := 21) rfl))) (ty := .long) (by decide)
  refine own_st (A := T23.setTop (mkF mM 14 #[.val (.ref a)] [(.ref b23)])) (fun tT_ kK_ => st23 tT_ kK_) ?_
  refine own_st (A := T23.setTop (mkF mM 15 #[.val (.ref a)] [(.ref b23), (.ref b23)])) (fun tT_ kK_ => XS.dup X23.here hx rfl (hb hby d12_14) rfl rfl kK_) ?_
  refine own_st (A := T23.setTop (mkF mM 16 #[.val (.ref a)] [(.ref a), (.ref b23), (.ref b23)])) (fun tT_ kK_ => XS.aloadN X23.here hx rfl (hb hby d12_15) rfl rfl kK_) ?_
  obtain ⟨T24, X24, e24, st24⟩ := getF X23 hx hZ hown (host := "") (Or.inl (hw _ (List.mem_of_getElem? (i := 12) rfl))) Via.refl e23 F_a_nx (g := (mkF mM 16 #[.val (.ref a)] [(.ref a), (.ref b23), (.ref b23)])) rfl rfl (hb hby d12_16)
  refine own_st (A := T24.setTop (mkF mM 19 #[.val (.ref a)] [(.int nx), (.ref b23), (.ref b23)])) (fun tT_ kK_ => st24 tT_ kK_) ?_
  refine own_st (A := T24.setTop (mkF mM 20 #[.val (.ref a)] [(.ref a), (.int nx), (.ref b23), (.ref b23)])) (fun tT_ kK_ => XS.aloadN X24.here hx rfl (hb hby d12_19) rfl rfl kK_) ?_
  obtain ⟨T25, X25, e25, st25⟩ := getF X24 hx hZ hown (host := "") (Or.inl (hw _ (List.mem_of_getElem? (i := 14) rfl))) Via.refl e24 F_a_xx (g := (mkF mM 20 #[.val (.ref a)] [(.ref a), (.int nx), (.ref b23), (.ref b23)])) rfl rfl (hb hby d12_20)
  refine own_st (A := T25.setTop (mkF mM 23 #[.val (.ref a)] [(.int xx), (.int nx), (.ref b23), (.ref b23)])) (fun tT_ kK_ => st25 tT_ kK_) ?_
  refine own_st (A := T25.setTop (mkF mM 24 #[.val (.ref a)] [(.int (1 : Int32)), (.int xx), (.int nx), (.ref b23), (.ref b23)])) (fun tT_ kK_ => XS.iconst X25.here hx rfl (hb hby d12_23) kK_) ?_
  refine own_st (A := T25.setTop (mkF mM 25 #[.val (.ref a)] [.null, (.int (1 : Int32)), (.int xx), (.int nx), (.ref b23), (.ref b23)])) (fun tT_ kK_ => XS.aconstNull X25.here hx rfl (hb hby d12_24) kK_) ?_
  refine own_st (A := T25.setTop (mkF mM 26 #[.val (.ref a)] [(.long (0 : Int64)), .null, (.int (1 : Int32)), (.int xx), (.int nx), (.ref b23), (.ref b23)])) (fun tT_ kK_ => XS.lconst X25.here hx rfl (hb hby d12_25) kK_) ?_
  obtain ⟨_, _, ⟨T26, L26, k26, n26⟩, -, X26, ⟨Lc26, hQ26, l26, y26, z26⟩, st26⟩ := X25.specialBack hx (y := (⟨"com/example/libttl/libttl/SetOptions", "<init>", "(ZZZLcom/example/libttl/libttl/TimeForm;J)V"⟩ : MethodName)) rfl hown (mvT hZ (hw _ (List.mem_of_getElem? (i := 6) rfl))) (mvT hZ (hw _ (List.mem_of_getElem? (i := 7) rfl))) (mvT hZ (hw _ (List.mem_of_getElem? (i := 8) rfl))) (by decide) (backOf (W := 1) (rmI5 lL Z a0 hw [] b23 nx xx (1 : Int32) .null (0 : Int64) h23 n0 g_b23 E_b23 F_b23_nx F_b23_xx F_b23_keepTtl F_b23_form F_b23_time bnx bxx (by decide) rfl) hZ (hw _ (List.mem_of_getElem? (i := 8) rfl)) (hw _ (List.mem_of_getElem? (i := 2) rfl)) (by decide) (by decide)) (g := (mkF mM 26 #[.val (.ref a)] [(.long (0 : Int64)), .null, (.int (1 : Int32)), (.int xx), (.int nx), (.ref b23), (.ref b23)])) rfl (by rw [hml]; rfl) (Steps.refl _) (a := b23) (argsL := [(.int nx), (.int xx), (.int (1 : Int32)), .null, (.long (0 : Int64))]) (rest := [(.ref b23)]) (lenOf pd__28ZZZLcom_2fexample_2flibttl_2flibttl_2fTimeForm_3bJ_29V rfl) rfl (by show 2 * 0 + _ ≤ _; exact Nat.le_of_eq rfl) (hb hby d12_26) (fun _ _ => ⟨rfl, e25, (by decide : 1 + 0 ≤ _), (by decide : 5 + 0 ≤ _)⟩)
  dsimp only [Pt.U, Pt.locs, Pt.cells, Pt.slots] at X26 l26 y26 z26 st26 hQ26
  subst l26 y26 z26
  obtain ⟨rfl, N26q, K26, O26⟩ := hQ26
  have N26 := Fr.app N0 N26q
  have e26 : T26.heap = T26.heap := rfl
  refine own_st (A := T26.setTop (mkF mM 29 #[.val (.ref a)] [(.ref b23)])) (fun tT_ kK_ => st26.trans kK_) ?_
  have F_a_nx := F_a_nx.keep K26 (ninS ne_a_b23 nin0)
  have F_a_xx := F_a_xx.keep K26 (ninS ne_a_b23 nin0)
  have F_a_keepTtl := F_a_keepTtl.keep K26 (ninS ne_a_b23 nin0)
  have F_a_form := F_a_form.keep K26 (ninS ne_a_b23 nin0)
  have F_a_time := F_a_time.keep K26 (ninS ne_a_b23 nin0)
  have E_a := E_a.keep K26
  have E_b23 := E_b23.keep K26
  have Zn := Nat.le_trans Zn K26.1
  have Kp := Kp.trans K26 (allS (Or.inr b_b23) all0)
  exact own_retA X26 hx hlk hret rfl rfl (hb hby d12_29) ⟨_, rfl, N26, own_ext_of_keep Kp, O26⟩ (by decide) (by decide)
theorem d7_0 : decode prog_44_method_12_code 0 = .ok (.aload_n 0, 1) := by decide +kernel
theorem d7_1 : decode prog_44_method_12_code 1 = .ok (.getfield 19, 3) := by decide +kernel
theorem d7_4 : decode prog_44_method_12_code 4 = .ok (.ifCond .ne 18, 3) := by decide +kernel
theorem d7_7 : decode prog_44_method_12_code 7 = .ok (.aload_n 0, 1) := by decide +kernel
theorem d7_8 : decode prog_44_method_12_code 8 = .ok (.getfield 22, 3) := by decide +kernel
theorem d7_11 : decode prog_44_method_12_code 11 = .ok (.ifnull 15, 3) := by decide +kernel
theorem d7_26 : decode prog_44_method_12_code 26 = .ok (.new 2, 3) := by decide +kernel
theorem d7_29 : decode prog_44_method_12_code 29 = .ok (.dup, 1) := by decide +kernel
theorem d7_30 : decode prog_44_method_12_code 30 = .ok (.aload_n 0, 1) := by decide +kernel
theorem d7_31 : decode prog_44_method_12_code 31 = .ok (.getfield 12, 3) := by decide +kernel
theorem d7_34 : decode prog_44_method_12_code 34 = .ok (.aload_n 0, 1) := by decide +kernel
theorem d7_35 : decode prog_44_method_12_code 35 = .ok (.getfield 16, 3) := by decide +kernel
theorem d7_38 : decode prog_44_method_12_code 38 = .ok (.iconst 0, 1) := by decide +kernel
theorem d7_39 : decode prog_44_method_12_code 39 = .ok (.aload_n 1, 1) := by decide +kernel
theorem d7_40 : decode prog_44_method_12_code 40 = .ok (.lload_n 2, 1) := by decide +kernel
theorem d7_41 : decode prog_44_method_12_code 41 = .ok (.invokespecial 1, 3) := by decide +kernel
theorem d7_44 : decode prog_44_method_12_code 44 = .ok (.areturn, 1) := by decide +kernel
theorem ef_rmTd (mM : MethodId) (a : Addr) (u : Addr) (t2 : Int64) (nx : Int32) (xx : Int32) (tm : Int64) : entryFrame mM #[(.ref a), (.ref u), (.long t2)] 4 = mkF mM 0 #[.val (.ref a), .val (.ref u), .val (.long t2), .second] [] := by first | (simp [entryFrame, mkF, argsToLocals, Value.category]; done) | rfl
set_option maxRecDepth 65536 in
set_option maxHeartbeats 40000000 in
theorem rmTd (lL : Launch) (Z : State) (a0 : Array Value) (hw : ∀ d ∈ tables_1, d.before a0 Z = true) (ws : List Jvm.Cond) (a : Addr) (u : Addr) (t2 : Int64) (nx : Int32) (xx : Int32) (tm : Int64) (h0 : Heap) (n0 : Nat) (Zn : n0 ≤ h0.size) (ob : Obj Z h0 a nx xx 0 .null tm) :
    MetFree lL (⟨"com/example/libttl/libttl/SetOptions", "timed", "(Lcom/example/libttl/libttl/TimeForm;J)Lcom/example/libttl/libttl/SetOptions;"⟩ : MethodName) (head1 (Jvm.Cond.code (⟨"com/example/libttl/libttl/SetOptions", "timed", "(Lcom/example/libttl/libttl/TimeForm;J)Lcom/example/libttl/libttl/SetOptions;"⟩ : MethodName) prog_44_method_12_code 4 (some (.object "com/example/libttl/libttl/SetOptions")) :: ws) ({ frames := 2, cells := 1, slots := 5, locals := 31 } : Room)) (fun as_ uU_ => as_ = #[(.ref a), (.ref u), (.long t2)] ∧ Z.Warmed39 uU_.vm ∧ uU_.heap = h0) (fun _ _ _ _ _ => True) (fun _ uU_ oO_ uE_ => ∃ vV_ lL_, oO_ = .returned vV_ ∧ Qc Z nx xx 0 (.ref u) t2 h0 n0 vV_ uE_.heap lL_ ∧ FrameEnd uU_ oO_ uE_ lL_ ({ frames := 2, cells := 1, slots := 5, locals := 31 } : Room).cells ({ frames := 2, cells := 1, slots := 5, locals := 31 } : Room).slots) := by
  refine MetFree.of_bodySF (plainFor_of_name pn_com_2fexample_2flibttl_2flibttl_2fSetOptions) hisR ?_
  intro pP eE sS mM args below meth cC s₁ Bd hml0 hP hK
  obtain ⟨rfl, hZ, hh⟩ := hP
  have hx := Bd.exec
  have hby := Bd.bytes
  have hml : cC.maxLocals = 4 := hml0
  have hown : sS.vm.findClass "com/example/libttl/libttl/SetOptions" = some mM.cls := findClass_of_methodNamed Bd.named
  have hnm := (name_of_methodNamed Bd.named Bd.method).1
  have hret := Bd.returns
  have hlk := BodyLoose.notSynchronized Bd
  have X0 : Stand pP lL eE ({ frames := 2, cells := 1, slots := 5, locals := 31 } : Room) sS mM #[(.ref a), (.ref u), (.long t2)] below meth cC s₁ [] 0 0 := Stand.of_body Bd
  have e0 : s₁.heap = h0 := by rw [← hh, Bd.state]; rfl
  have N0 := Fr.nil n0
  show own_Go pP eE below sS (Qc Z nx xx 0 (.ref u) t2 h0 n0) 1 5 (s₁.setTop (entryFrame mM #[(.ref a), (.ref u), (.long t2)] 4))
  refine own_st (A := s₁.setTop (mkF mM 0 #[.val (.ref a), .val (.ref u), .val (.long t2), .second] [])) (fun tT_ kK_ => castTop (ef_rmTd mM a u t2 nx xx tm) kK_) ?_
  obtain ⟨E_a, F_a_nx, F_a_xx, F_a_keepTtl, F_a_form, F_a_time, bnx, bxx, bkt, hf⟩ := ob
  have Kp := Keep.refl h0 []
  refine own_st (A := s₁.setTop (mkF mM 1 #[.val (.ref a), .val (.ref u), .val (.long t2), .second] [(.ref a)])) (fun tT_ kK_ => XS.aloadN X0.here hx rfl (hb hby d7_0) rfl rfl kK_) ?_
  obtain ⟨T27, X27, e27, st27⟩ := getF X0 hx hZ hown (host := "") (Or.inl (hw _ (List.mem_of_getElem? (i := 16) rfl))) Via.refl e0 F_a_keepTtl (g := (mkF mM 1 #[.val (.ref a), .val (.ref u), .val (.long t2), .second] [(.ref a)])) rfl rfl (hb hby d7_1)
  refine own_st (A := T27.setTop (mkF mM 4 #[.val (.ref a), .val (.ref u), .val (.long t2), .second] [(.int (0 : Int32))])) (fun tT_ kK_ => st27 tT_ kK_) ?_
  refine own_st (A := T27.setTop (mkF mM 7 #[.val (.ref a), .val (.ref u), .val (.long t2), .second] [])) (fun tT_ kK_ => XS.ifNo X27.here hx rfl (hb hby d7_4) rfl ((if0 _ _).trans (teq (by decide : ((0 : Int32) = (0 : Int32)))).2) kK_) ?_
  refine own_st (A := T27.setTop (mkF mM 8 #[.val (.ref a), .val (.ref u), .val (.long t2), .second] [(.ref a)])) (fun tT_ kK_ => XS.aloadN X27.here hx rfl (hb hby d7_7) rfl rfl kK_) ?_
  obtain ⟨T28, X28, e28, st28⟩ := getF X27 hx hZ hown (host := "") (Or.inl (hw _ (List.mem_of_getElem? (i := 18) rfl))) Via.refl e27 F_a_form (g := (mkF mM 8 #[.val (.ref a), .val (.ref u), .val (.long t2), .second] [(.ref a)])) rfl rfl (hb hby d7_8)
  refine own_st (A := T28.setTop (mkF mM 11 #[.val (.ref a), .val (.ref u), .val (.long t2), .second] [.null])) (fun tT_ kK_ => st28 tT_ kK_) ?_
  refine own_st (A := T28.setTop (mkF mM 26 #[.val (.ref a), .val (.ref u), .val (.long t2), .second] [])) (fun tT_ kK_ => XS.ifnullYes X28.here hx rfl (pc0 := 11) (pc' := 26) rfl (hb hby d7_11) rfl (by decide) (by decide) kK_) ?_
  obtain ⟨T29, h29, X29, e29, E29, A29, D29, -, st29⟩ := newO X28 hx hZ hown (hw _ (List.mem_of_getElem? (i := 41) rfl)) (hw _ (List.mem_of_getElem? (i := 1) rfl)) (hw _ (List.mem_of_getElem? (i := 2) rfl)) e28 (g := (mkF mM 26 #[.val (.ref a), .val (.ref u), .val (.long t2), .second] [])) rfl (hb hby d7_26) (by decide) (by decide)
  obtain ⟨b29, g29⟩ : ∃ z, z = h0.size := ⟨_, rfl⟩
  rw [← g29] at A29 D29 st29
  have ne_a_b29 : a ≠ b29 := Nat.ne_of_lt (Nat.lt_of_lt_of_le E_a.lt (Nat.le_of_eq g29.symm))
  have g_b29 : n0 ≤ b29 := Nat.le_trans Zn (Nat.le_of_eq g29.symm)
  have b_b29 : h0.size ≤ b29 := Nat.le_trans Kp.1 (Nat.le_of_eq g29.symm)
  have F_a_nx := F_a_nx.ext E29
  have F_a_xx := F_a_xx.ext E29
  have F_a_keepTtl := F_a_keepTtl.ext E29
  have F_a_form := F_a_form.ext E29
  have F_a_time := F_a_time.ext E29
  have E_a := E_a.ext E29
  have Zn := Nat.le_trans Zn E29.1
  have Kp := Kp.ext E29
  have E_b29 := A29
  have F_b29_nx : Fld Z h29 b29 "com/example/libttl/libttl/SetOptions" "nx" "Z" (.int (0 : Int32)) := D29 (Or.inr (hw _ (List.mem_of_getElem? (i := 13) rfl))) (ty := .boolean) (by decide)
  have F_b29_xx : Fld Z h29 b29 "com/example/libttl/libttl/SetOptions" "xx" "Z" (.int (0 : Int32)) := D29 (Or.inr (hw _ (List.mem_of_getElem? (i := 15) rfl))) (ty := .boolean) (by decide)
  have F_b29_keepTtl : Fld Z h29 b29 "com/example/libttl/libttl/SetOptions" "keepTtl" "Z" (.int (0 : Int32)) := D29 (Or.inr (hw _ (List.mem_of_getElem? (i := 17) rfl))) (ty := .boolean) (by decide)
  have F_b29_form : Fld Z h29 b29 "com/example/libttl/libttl/SetOptions" "form" "Lcom/example/libttl/libttl/TimeForm;" .null := D29 (Or.inr (hw _ (List.mem_of_getElem? (i := 19) rfl))) (ty := (.object "com/example/libttl/libttl/TimeForm")) (by decide)
  have F_b29_time : Fld Z h29 b29 "com/example/libttl/libttl/SetOptions" "time" "J" (.long (0 : Int64)) := D29 (Or.inr (hw _ (List.mem_of_getElem? (i := 21) rfl))) (ty := .long) (by decide)
  refine own_st (A := T29.setTop (mkF mM 29 #[.val (.ref a), .val (.ref u), .val (.long t2), .second] [(.ref b29)])) (fun tT_ kK_ => st29 tT_ kK_) ?_
  refine own_st (A := T29.setTop (mkF mM 30 #[.val (.ref a), .val (.ref u), .val (.long t2), .second] [(.ref b29), (.ref b29)])) (fun tT_ kK_ => XS.dup X29.here hx rfl (hb hby d7_29) rfl rfl kK_) ?_
  refine own_st (A := T29.setTop (mkF mM 31 #[.val (.ref a), .val (.ref u), .val (.long t2), .second] [(.ref a), (.ref b29), (.ref b29)])) (fun tT_ kK_ => XS.aloadN X29.here hx rfl (hb hby d7_30) rfl rfl kK_) ?_
  obtain ⟨T30, X30, e30, st30⟩ := getF X29 hx hZ hown (host := "") (Or.inl (hw _ (List.mem_of_getElem? (i := 12) rfl))) Via.refl e29 F_a_nx (g := (mkF mM 31 #[.val (.ref a), .val (.ref u), .val (.long t2), .second] [(.ref a), (.ref b29), (.ref b29)])) rfl rfl (hb hby d7_31)
  refine own_st (A := T30.setTop (mkF mM 34 #[.val (.ref a), .val (.ref u), .val (.long t2), .second] [(.int nx), (.ref b29), (.ref b29)])) (fun tT_ kK_ => st30 tT_ kK_) ?_
  refine own_st (A := T30.setTop (mkF mM 35 #[.val (.ref a), .val (.ref u), .val (.long t2), .second] [(.ref a), (.int nx), (.ref b29), (.ref b29)])) (fun tT_ kK_ => XS.aloadN X30.here hx rfl (hb hby d7_34) rfl rfl kK_) ?_
  obtain ⟨T31, X31, e31, st31⟩ := getF X30 hx hZ hown (host := "") (Or.inl (hw _ (List.mem_of_getElem? (i := 14) rfl))) Via.refl e30 F_a_xx (g := (mkF mM 35 #[.val (.ref a), .val (.ref u), .val (.long t2), .second] [(.ref a), (.int nx), (.ref b29), (.ref b29)])) rfl rfl (hb hby d7_35)
  refine own_st (A := T31.setTop (mkF mM 38 #[.val (.ref a), .val (.ref u), .val (.long t2), .second] [(.int xx), (.int nx), (.ref b29), (.ref b29)])) (fun tT_ kK_ => st31 tT_ kK_) ?_
  refine own_st (A := T31.setTop (mkF mM 39 #[.val (.ref a), .val (.ref u), .val (.long t2), .second] [(.int (0 : Int32)), (.int xx), (.int nx), (.ref b29), (.ref b29)])) (fun tT_ kK_ => XS.iconst X31.here hx rfl (hb hby d7_38) kK_) ?_
  refine own_st (A := T31.setTop (mkF mM 40 #[.val (.ref a), .val (.ref u), .val (.long t2), .second] [(.ref u), (.int (0 : Int32)), (.int xx), (.int nx), (.ref b29), (.ref b29)])) (fun tT_ kK_ => XS.aloadN X31.here hx rfl (hb hby d7_39) rfl rfl kK_) ?_
  refine own_st (A := T31.setTop (mkF mM 41 #[.val (.ref a), .val (.ref u), .val (.long t2), .second] [(.long t2), (.ref u), (.int (0 : Int32)), (.int xx), (.int nx), (.ref b29), (.ref b29)])) (fun tT_ kK_ => XS.lloadN X31.here hx rfl (hb hby d7_40) rfl kK_) ?_
  obtain ⟨_, _, ⟨T32, L32, k32, n32⟩, -, X32, ⟨Lc32, hQ32, l32, y32, z32⟩, st32⟩ := X31.specialBack hx (y := (⟨"com/example/libttl/libttl/SetOptions", "<init>", "(ZZZLcom/example/libttl/libttl/TimeForm;J)V"⟩ : MethodName)) rfl hown (mvT hZ (hw _ (List.mem_of_getElem? (i := 6) rfl))) (mvT hZ (hw _ (List.mem_of_getElem? (i := 7) rfl))) (mvT hZ (hw _ (List.mem_of_getElem? (i := 8) rfl))) (by decide) (backOf (W := 1) (rmI5 lL Z a0 hw [] b29 nx xx (0 : Int32) (.ref u) t2 h29 n0 g_b29 E_b29 F_b29_nx F_b29_xx F_b29_keepTtl F_b29_form F_b29_time bnx bxx (by decide) rfl) hZ (hw _ (List.mem_of_getElem? (i := 8) rfl)) (hw _ (List.mem_of_getElem? (i := 2) rfl)) (by decide) (by decide)) (g := (mkF mM 41 #[.val (.ref a), .val (.ref u), .val (.long t2), .second] [(.long t2), (.ref u), (.int (0 : Int32)), (.int xx), (.int nx), (.ref b29), (.ref b29)])) rfl (by rw [hml]; rfl) (Steps.refl _) (a := b29) (argsL := [(.int nx), (.int xx), (.int (0 : Int32)), (.ref u), (.long t2)]) (rest := [(.ref b29)]) (lenOf pd__28ZZZLcom_2fexample_2flibttl_2flibttl_2fTimeForm_3bJ_29V rfl) rfl (by show 2 * 0 + _ ≤ _; exact Nat.le_of_eq rfl) (hb hby d7_41) (fun _ _ => ⟨rfl, e31, (by decide : 1 + 0 ≤ _), (by decide : 5 + 0 ≤ _)⟩)
  dsimp only [Pt.U, Pt.locs, Pt.cells, Pt.slots] at X32 l32 y32 z32 st32 hQ32
  subst l32 y32 z32
  obtain ⟨rfl, N32q, K32, O32⟩ := hQ32
  have N32 := Fr.app N0 N32q
  have e32 : T32.heap = T32.heap := rfl
  refine own_st (A := T32.setTop (mkF mM 44 #[.val (.ref a), .val (.ref u), .val (.long t2), .second] [(.ref b29)])) (fun tT_ kK_ => st32.trans kK_) ?_
  have F_a_nx := F_a_nx.keep K32 (ninS ne_a_b29 nin0)
  have F_a_xx := F_a_xx.keep K32 (ninS ne_a_b29 nin0)
  have F_a_keepTtl := F_a_keepTtl.keep K32 (ninS ne_a_b29 nin0)
  have F_a_form := F_a_form.keep K32 (ninS ne_a_b29 nin0)
  have F_a_time := F_a_time.keep K32 (ninS ne_a_b29 nin0)
  have E_a := E_a.keep K32
  have E_b29 := E_b29.keep K32
  have Zn := Nat.le_trans Zn K32.1
  have Kp := Kp.trans K32 (allS (Or.inr b_b29) all0)
  exact own_retA X32 hx hlk hret rfl rfl (hb hby d7_44) ⟨_, rfl, N32, own_ext_of_keep Kp, O32⟩ (by decide) (by decide)
theorem d11_0 : decode prog_44_method_5_code 0 = .ok (.aload_n 0, 1) := by decide +kernel
theorem d11_1 : decode prog_44_method_5_code 1 = .ok (.getstatic 36, 3) := by decide +kernel
theorem d11_4 : decode prog_44_method_5_code 4 = .ok (.lload_n 1, 1) := by decide +kernel
theorem d11_5 : decode prog_44_method_5_code 5 = .ok (.invokevirtual 41, 3) := by decide +kernel
theorem pd__28Lcom_2fexample_2flibttl_2flibttl_2fTimeForm_3bJ_29Lcom_2fexample_2flibttl_2flibttl_2fSetOptions_3b : parseMethodDescriptor "(Lcom/example/libttl/libttl/TimeForm;J)Lcom/example/libttl/libttl/SetOptions;" = some ⟨[(.object "com/example/libttl/libttl/TimeForm"), .long], some (.object "com/example/libttl/libttl/SetOptions")⟩ := by decide +kernel
theorem d11_8 : decode prog_44_method_5_code 8 = .ok (.areturn, 1) := by decide +kernel
theorem ef_rm_ex (mM : MethodId) (a : Addr) (u : Addr) (t2 : Int64) (nx : Int32) (xx : Int32) (tm : Int64) : entryFrame mM #[(.ref a), (.long t2)] 3 = mkF mM 0 #[.val (.ref a), .val (.long t2), .second] [] := by first | (simp [entryFrame, mkF, argsToLocals, Value.category]; done) | rfl
set_option maxRecDepth 65536 in
set_option maxHeartbeats 40000000 in
theorem rm_ex (lL : Launch) (Z : State) (a0 : Array Value) (hw : ∀ d ∈ tables_1, d.before a0 Z = true) (ws : List Jvm.Cond) (a : Addr) (u : Addr) (t2 : Int64) (nx : Int32) (xx : Int32) (tm : Int64) (h0 : Heap) (n0 : Nat) (Zn : n0 ≤ h0.size) (ob : Obj Z h0 a nx xx 0 .null tm) (S_u : Sta Z h0 "com/example/libttl/libttl/TimeForm" "SECONDS" "Lcom/example/libttl/libttl/TimeForm;" (.ref u)) :
    MetFree lL (⟨"com/example/libttl/libttl/SetOptions", "ex", "(J)Lcom/example/libttl/libttl/SetOptions;"⟩ : MethodName) (head1 (Jvm.Cond.code (⟨"com/example/libttl/libttl/SetOptions", "ex", "(J)Lcom/example/libttl/libttl/SetOptions;"⟩ : MethodName) prog_44_method_5_code 3 (some (.object "com/example/libttl/libttl/SetOptions")) :: ws) ({ frames := 3, cells := 1, slots := 5, locals := 46 } : Room)) (fun as_ uU_ => as_ = #[(.ref a), (.long t2)] ∧ Z.Warmed39 uU_.vm ∧ uU_.heap = h0) (fun _ _ _ _ _ => True) (fun _ uU_ oO_ uE_ => ∃ vV_ lL_, oO_ = .returned vV_ ∧ Qo Z nx xx h0 n0 vV_ uE_.heap lL_ ∧ FrameEnd uU_ oO_ uE_ lL_ ({ frames := 3, cells := 1, slots := 5, locals := 46 } : Room).cells ({ frames := 3, cells := 1, slots := 5, locals := 46 } : Room).slots) := by
  refine MetFree.of_bodySF (plainFor_of_name pn_com_2fexample_2flibttl_2flibttl_2fSetOptions) hisR ?_
  intro pP eE sS mM args below meth cC s₁ Bd hml0 hP hK
  obtain ⟨rfl, hZ, hh⟩ := hP
  have hx := Bd.exec
  have hby := Bd.bytes
  have hml : cC.maxLocals = 3 := hml0
  have hown : sS.vm.findClass "com/example/libttl/libttl/SetOptions" = some mM.cls := findClass_of_methodNamed Bd.named
  have hnm := (name_of_methodNamed Bd.named Bd.method).1
  have hret := Bd.returns
  have hlk := BodyLoose.notSynchronized Bd
  have X0 : Stand pP lL eE ({ frames := 3, cells := 1, slots := 5, locals := 46 } : Room) sS mM #[(.ref a), (.long t2)] below meth cC s₁ [] 0 0 := Stand.of_body Bd
  have e0 : s₁.heap = h0 := by rw [← hh, Bd.state]; rfl
  have N0 := Fr.nil n0
  show own_Go pP eE below sS (Qo Z nx xx h0 n0) 1 5 (s₁.setTop (entryFrame mM #[(.ref a), (.long t2)] 3))
  refine own_st (A := s₁.setTop (mkF mM 0 #[.val (.ref a), .val (.long t2), .second] [])) (fun tT_ kK_ => castTop (ef_rm_ex mM a u t2 nx xx tm) kK_) ?_
  refine own_st (A := s₁.setTop (mkF mM 1 #[.val (.ref a), .val (.long t2), .second] [(.ref a)])) (fun tT_ kK_ => XS.aloadN X0.here hx rfl (hb hby d11_0) rfl rfl kK_) ?_
  obtain ⟨T33, X33, e33, st33⟩ := getS2 X0 hx hZ hown (host := "") (Or.inl (hw _ (List.mem_of_getElem? (i := 64) rfl))) Via.refl e0 S_u (g := (mkF mM 1 #[.val (.ref a), .val (.long t2), .second] [(.ref a)])) rfl (hb hby d11_1)
  refine own_st (A := T33.setTop (mkF mM 4 #[.val (.ref a), .val (.long t2), .second] [(.ref u), (.ref a)])) (fun tT_ kK_ => st33 tT_ kK_) ?_
  refine own_st (A := T33.setTop (mkF mM 5 #[.val (.ref a), .val (.long t2), .second] [(.long t2), (.ref u), (.ref a)])) (fun tT_ kK_ => XS.lloadN X33.here hx rfl (hb hby d11_4) rfl kK_) ?_
  obtain ⟨cq34, q34, q34'⟩ := (ob.1).cell
  obtain ⟨_, _, ⟨T34, L34, k34, n34⟩, -, X34, ⟨Lc34, hQ34, l34, y34, z34⟩, st34⟩ := X33.privateBack hx (y := (⟨"com/example/libttl/libttl/SetOptions", "timed", "(Lcom/example/libttl/libttl/TimeForm;J)Lcom/example/libttl/libttl/SetOptions;"⟩ : MethodName)) hown (mvT hZ (hw _ (List.mem_of_getElem? (i := 37) rfl))) (mvT hZ (hw _ (List.mem_of_getElem? (i := 38) rfl))) (own_privSel (mvT hZ (hw _ (List.mem_of_getElem? (i := 32) rfl)) ) rfl (Cond.privateMethod_at (mvP hZ (hw _ (List.mem_of_getElem? (i := 39) rfl)) (args := #[]))) (mvT hZ (hw _ (List.mem_of_getElem? (i := 38) rfl))) (by decide)) (Cond.privateMethod_at (mvP hZ (hw _ (List.mem_of_getElem? (i := 39) rfl)) (args := #[]))) (mvT hZ (hw _ (List.mem_of_getElem? (i := 40) rfl))) (by decide) (backOf (W := 0) (rmTd lL Z a0 hw [] a u t2 nx xx tm h0 n0 Zn ob) hZ (hw _ (List.mem_of_getElem? (i := 40) rfl)) (hw _ (List.mem_of_getElem? (i := 2) rfl)) (by decide) (by decide)) (g := (mkF mM 5 #[.val (.ref a), .val (.long t2), .second] [(.long t2), (.ref u), (.ref a)])) rfl (by rw [hml]; rfl) (Steps.refl _) (a := a) (by rw [e33]; exact q34) q34' (argsL := [(.ref u), (.long t2)]) (rest := []) (lenOf pd__28Lcom_2fexample_2flibttl_2flibttl_2fTimeForm_3bJ_29Lcom_2fexample_2flibttl_2flibttl_2fSetOptions_3b rfl) rfl (by show 2 * 0 + _ ≤ _; exact Nat.le_of_eq rfl) (hb hby d11_5) (fun _ _ => ⟨rfl, e33, (by decide : 0 + 1 ≤ _), (by decide : 0 + 5 ≤ _)⟩)
  dsimp only [Pt.U, Pt.locs, Pt.cells, Pt.slots] at X34 l34 y34 z34 st34 hQ34
  subst l34 y34 z34
  obtain ⟨b34, rfl, N34q, E34, O34⟩ := hQ34
  have N34 := Fr.app N0 N34q
  have e34 : T34.heap = T34.heap := rfl
  refine own_st (A := T34.setTop (mkF mM 8 #[.val (.ref a), .val (.long t2), .second] [(.ref b34)])) (fun tT_ kK_ => st34.trans kK_) ?_
  exact own_retA X34 hx hlk hret rfl rfl (hb hby d11_8) ⟨_, _, _, _, rfl, N34, E34, O34⟩ (by decide) (by decide)
theorem d10_0 : decode prog_44_method_6_code 0 = .ok (.aload_n 0, 1) := by decide +kernel
theorem d10_1 : decode prog_44_method_6_code 1 = .ok (.getstatic 45, 3) := by decide +kernel
theorem d10_4 : decode prog_44_method_6_code 4 = .ok (.lload_n 1, 1) := by decide +kernel
theorem d10_5 : decode prog_44_method_6_code 5 = .ok (.invokevirtual 41, 3) := by decide +kernel
theorem d10_8 : decode prog_44_method_6_code 8 = .ok (.areturn, 1) := by decide +kernel
theorem ef_rm_px (mM : MethodId) (a : Addr) (u : Addr) (t2 : Int64) (nx : Int32) (xx : Int32) (tm : Int64) : entryFrame mM #[(.ref a), (.long t2)] 3 = mkF mM 0 #[.val (.ref a), .val (.long t2), .second] [] := by first | (simp [entryFrame, mkF, argsToLocals, Value.category]; done) | rfl
set_option maxRecDepth 65536 in
set_option maxHeartbeats 40000000 in
theorem rm_px (lL : Launch) (Z : State) (a0 : Array Value) (hw : ∀ d ∈ tables_1, d.before a0 Z = true) (ws : List Jvm.Cond) (a : Addr) (u : Addr) (t2 : Int64) (nx : Int32) (xx : Int32) (tm : Int64) (h0 : Heap) (n0 : Nat) (Zn : n0 ≤ h0.size) (ob : Obj Z h0 a nx xx 0 .null tm) (S_u : Sta Z h0 "com/example/libttl/libttl/TimeForm" "MILLISECONDS" "Lcom/example/libttl/libttl/TimeForm;" (.ref u)) :
    MetFree lL (⟨"com/example/libttl/libttl/SetOptions", "px", "(J)Lcom/example/libttl/libttl/SetOptions;"⟩ : MethodName) (head1 (Jvm.Cond.code (⟨"com/example/libttl/libttl/SetOptions", "px", "(J)Lcom/example/libttl/libttl/SetOptions;"⟩ : MethodName) prog_44_method_6_code 3 (some (.object "com/example/libttl/libttl/SetOptions")) :: ws) ({ frames := 3, cells := 1, slots := 5, locals := 46 } : Room)) (fun as_ uU_ => as_ = #[(.ref a), (.long t2)] ∧ Z.Warmed39 uU_.vm ∧ uU_.heap = h0) (fun _ _ _ _ _ => True) (fun _ uU_ oO_ uE_ => ∃ vV_ lL_, oO_ = .returned vV_ ∧ Qo Z nx xx h0 n0 vV_ uE_.heap lL_ ∧ FrameEnd uU_ oO_ uE_ lL_ ({ frames := 3, cells := 1, slots := 5, locals := 46 } : Room).cells ({ frames := 3, cells := 1, slots := 5, locals := 46 } : Room).slots) := by
  refine MetFree.of_bodySF (plainFor_of_name pn_com_2fexample_2flibttl_2flibttl_2fSetOptions) hisR ?_
  intro pP eE sS mM args below meth cC s₁ Bd hml0 hP hK
  obtain ⟨rfl, hZ, hh⟩ := hP
  have hx := Bd.exec
  have hby := Bd.bytes
  have hml : cC.maxLocals = 3 := hml0
  have hown : sS.vm.findClass "com/example/libttl/libttl/SetOptions" = some mM.cls := findClass_of_methodNamed Bd.named
  have hnm := (name_of_methodNamed Bd.named Bd.method).1
  have hret := Bd.returns
  have hlk := BodyLoose.notSynchronized Bd
  have X0 : Stand pP lL eE ({ frames := 3, cells := 1, slots := 5, locals := 46 } : Room) sS mM #[(.ref a), (.long t2)] below meth cC s₁ [] 0 0 := Stand.of_body Bd
  have e0 : s₁.heap = h0 := by rw [← hh, Bd.state]; rfl
  have N0 := Fr.nil n0
  show own_Go pP eE below sS (Qo Z nx xx h0 n0) 1 5 (s₁.setTop (entryFrame mM #[(.ref a), (.long t2)] 3))
  refine own_st (A := s₁.setTop (mkF mM 0 #[.val (.ref a), .val (.long t2), .second] [])) (fun tT_ kK_ => castTop (ef_rm_px mM a u t2 nx xx tm) kK_) ?_
  refine own_st (A := s₁.setTop (mkF mM 1 #[.val (.ref a), .val (.long t2), .second] [(.ref a)])) (fun tT_ kK_ => XS.aloadN X0.here hx rfl (hb hby d10_0) rfl rfl kK_) ?_
  obtain ⟨T35, X35, e35, st35⟩ := getS2 X0 hx hZ hown (host := "") (Or.inl (hw _ (List.mem_of_getElem? (i := 57) rfl))) Via.refl e0 S_u (g := (mkF mM 1 #[.val (.ref a), .val (.long t2), .second] [(.ref a)])) rfl (hb hby d10_1)
  refine own_st (A := T35.setTop (mkF mM 4 #[.val (.ref a), .val (.long t2), .second] [(.ref u), (.ref a)])) (fun tT_ kK_ => st35 tT_ kK_) ?_
  refine own_st (A := T35.setTop (mkF mM 5 #[.val (.ref a), .val (.long t2), .second] [(.long t2), (.ref u), (.ref a)])) (fun tT_ kK_ => XS.lloadN X35.here hx rfl (hb hby d10_4) rfl kK_) ?_
  obtain ⟨cq36, q36, q36'⟩ := (ob.1).cell
  obtain ⟨_, _, ⟨T36, L36, k36, n36⟩, -, X36, ⟨Lc36, hQ36, l36, y36, z36⟩, st36⟩ := X35.privateBack hx (y := (⟨"com/example/libttl/libttl/SetOptions", "timed", "(Lcom/example/libttl/libttl/TimeForm;J)Lcom/example/libttl/libttl/SetOptions;"⟩ : MethodName)) hown (mvT hZ (hw _ (List.mem_of_getElem? (i := 37) rfl))) (mvT hZ (hw _ (List.mem_of_getElem? (i := 38) rfl))) (own_privSel (mvT hZ (hw _ (List.mem_of_getElem? (i := 32) rfl)) ) rfl (Cond.privateMethod_at (mvP hZ (hw _ (List.mem_of_getElem? (i := 39) rfl)) (args := #[]))) (mvT hZ (hw _ (List.mem_of_getElem? (i := 38) rfl))) (by decide)) (Cond.privateMethod_at (mvP hZ (hw _ (List.mem_of_getElem? (i := 39) rfl)) (args := #[]))) (mvT hZ (hw _ (List.mem_of_getElem? (i := 40) rfl))) (by decide) (backOf (W := 0) (rmTd lL Z a0 hw [] a u t2 nx xx tm h0 n0 Zn ob) hZ (hw _ (List.mem_of_getElem? (i := 40) rfl)) (hw _ (List.mem_of_getElem? (i := 2) rfl)) (by decide) (by decide)) (g := (mkF mM 5 #[.val (.ref a), .val (.long t2), .second] [(.long t2), (.ref u), (.ref a)])) rfl (by rw [hml]; rfl) (Steps.refl _) (a := a) (by rw [e35]; exact q36) q36' (argsL := [(.ref u), (.long t2)]) (rest := []) (lenOf pd__28Lcom_2fexample_2flibttl_2flibttl_2fTimeForm_3bJ_29Lcom_2fexample_2flibttl_2flibttl_2fSetOptions_3b rfl) rfl (by show 2 * 0 + _ ≤ _; exact Nat.le_of_eq rfl) (hb hby d10_5) (fun _ _ => ⟨rfl, e35, (by decide : 0 + 1 ≤ _), (by decide : 0 + 5 ≤ _)⟩)
  dsimp only [Pt.U, Pt.locs, Pt.cells, Pt.slots] at X36 l36 y36 z36 st36 hQ36
  subst l36 y36 z36
  obtain ⟨b36, rfl, N36q, E36, O36⟩ := hQ36
  have N36 := Fr.app N0 N36q
  have e36 : T36.heap = T36.heap := rfl
  refine own_st (A := T36.setTop (mkF mM 8 #[.val (.ref a), .val (.long t2), .second] [(.ref b36)])) (fun tT_ kK_ => st36.trans kK_) ?_
  exact own_retA X36 hx hlk hret rfl rfl (hb hby d10_8) ⟨_, _, _, _, rfl, N36, E36, O36⟩ (by decide) (by decide)
theorem d6_0 : decode prog_44_method_7_code 0 = .ok (.aload_n 0, 1) := by decide +kernel
theorem d6_1 : decode prog_44_method_7_code 1 = .ok (.getstatic 48, 3) := by decide +kernel
theorem d6_4 : decode prog_44_method_7_code 4 = .ok (.lload_n 1, 1) := by decide +kernel
theorem d6_5 : decode prog_44_method_7_code 5 = .ok (.invokevirtual 41, 3) := by decide +kernel
theorem d6_8 : decode prog_44_method_7_code 8 = .ok (.areturn, 1) := by decide +kernel
theorem ef_rm_exAt (mM : MethodId) (a : Addr) (u : Addr) (t2 : Int64) (nx : Int32) (xx : Int32) (tm : Int64) : entryFrame mM #[(.ref a), (.long t2)] 3 = mkF mM 0 #[.val (.ref a), .val (.long t2), .second] [] := by first | (simp [entryFrame, mkF, argsToLocals, Value.category]; done) | rfl
set_option maxRecDepth 65536 in
set_option maxHeartbeats 40000000 in
theorem rm_exAt (lL : Launch) (Z : State) (a0 : Array Value) (hw : ∀ d ∈ tables_1, d.before a0 Z = true) (ws : List Jvm.Cond) (a : Addr) (u : Addr) (t2 : Int64) (nx : Int32) (xx : Int32) (tm : Int64) (h0 : Heap) (n0 : Nat) (Zn : n0 ≤ h0.size) (ob : Obj Z h0 a nx xx 0 .null tm) (S_u : Sta Z h0 "com/example/libttl/libttl/TimeForm" "UNIX_SECONDS" "Lcom/example/libttl/libttl/TimeForm;" (.ref u)) :
    MetFree lL (⟨"com/example/libttl/libttl/SetOptions", "exAt", "(J)Lcom/example/libttl/libttl/SetOptions;"⟩ : MethodName) (head1 (Jvm.Cond.code (⟨"com/example/libttl/libttl/SetOptions", "exAt", "(J)Lcom/example/libttl/libttl/SetOptions;"⟩ : MethodName) prog_44_method_7_code 3 (some (.object "com/example/libttl/libttl/SetOptions")) :: ws) ({ frames := 3, cells := 1, slots := 5, locals := 46 } : Room)) (fun as_ uU_ => as_ = #[(.ref a), (.long t2)] ∧ Z.Warmed39 uU_.vm ∧ uU_.heap = h0) (fun _ _ _ _ _ => True) (fun _ uU_ oO_ uE_ => ∃ vV_ lL_, oO_ = .returned vV_ ∧ Qo Z nx xx h0 n0 vV_ uE_.heap lL_ ∧ FrameEnd uU_ oO_ uE_ lL_ ({ frames := 3, cells := 1, slots := 5, locals := 46 } : Room).cells ({ frames := 3, cells := 1, slots := 5, locals := 46 } : Room).slots) := by
  refine MetFree.of_bodySF (plainFor_of_name pn_com_2fexample_2flibttl_2flibttl_2fSetOptions) hisR ?_
  intro pP eE sS mM args below meth cC s₁ Bd hml0 hP hK
  obtain ⟨rfl, hZ, hh⟩ := hP
  have hx := Bd.exec
  have hby := Bd.bytes
  have hml : cC.maxLocals = 3 := hml0
  have hown : sS.vm.findClass "com/example/libttl/libttl/SetOptions" = some mM.cls := findClass_of_methodNamed Bd.named
  have hnm := (name_of_methodNamed Bd.named Bd.method).1
  have hret := Bd.returns
  have hlk := BodyLoose.notSynchronized Bd
  have X0 : Stand pP lL eE ({ frames := 3, cells := 1, slots := 5, locals := 46 } : Room) sS mM #[(.ref a), (.long t2)] below meth cC s₁ [] 0 0 := Stand.of_body Bd
  have e0 : s₁.heap = h0 := by rw [← hh, Bd.state]; rfl
  have N0 := Fr.nil n0
  show own_Go pP eE below sS (Qo Z nx xx h0 n0) 1 5 (s₁.setTop (entryFrame mM #[(.ref a), (.long t2)] 3))
  refine own_st (A := s₁.setTop (mkF mM 0 #[.val (.ref a), .val (.long t2), .second] [])) (fun tT_ kK_ => castTop (ef_rm_exAt mM a u t2 nx xx tm) kK_) ?_
  refine own_st (A := s₁.setTop (mkF mM 1 #[.val (.ref a), .val (.long t2), .second] [(.ref a)])) (fun tT_ kK_ => XS.aloadN X0.here hx rfl (hb hby d6_0) rfl rfl kK_) ?_
  obtain ⟨T37, X37, e37, st37⟩ := getS2 X0 hx hZ hown (host := "") (Or.inl (hw _ (List.mem_of_getElem? (i := 34) rfl))) Via.refl e0 S_u (g := (mkF mM 1 #[.val (.ref a), .val (.long t2), .second] [(.ref a)])) rfl (hb hby d6_1)
  refine own_st (A := T37.setTop (mkF mM 4 #[.val (.ref a), .val (.long t2), .second] [(.ref u), (.ref a)])) (fun tT_ kK_ => st37 tT_ kK_) ?_
  refine own_st (A := T37.setTop (mkF mM 5 #[.val (.ref a), .val (.long t2), .second] [(.long t2), (.ref u), (.ref a)])) (fun tT_ kK_ => XS.lloadN X37.here hx rfl (hb hby d6_4) rfl kK_) ?_
  obtain ⟨cq38, q38, q38'⟩ := (ob.1).cell
  obtain ⟨_, _, ⟨T38, L38, k38, n38⟩, -, X38, ⟨Lc38, hQ38, l38, y38, z38⟩, st38⟩ := X37.privateBack hx (y := (⟨"com/example/libttl/libttl/SetOptions", "timed", "(Lcom/example/libttl/libttl/TimeForm;J)Lcom/example/libttl/libttl/SetOptions;"⟩ : MethodName)) hown (mvT hZ (hw _ (List.mem_of_getElem? (i := 37) rfl))) (mvT hZ (hw _ (List.mem_of_getElem? (i := 38) rfl))) (own_privSel (mvT hZ (hw _ (List.mem_of_getElem? (i := 32) rfl)) ) rfl (Cond.privateMethod_at (mvP hZ (hw _ (List.mem_of_getElem? (i := 39) rfl)) (args := #[]))) (mvT hZ (hw _ (List.mem_of_getElem? (i := 38) rfl))) (by decide)) (Cond.privateMethod_at (mvP hZ (hw _ (List.mem_of_getElem? (i := 39) rfl)) (args := #[]))) (mvT hZ (hw _ (List.mem_of_getElem? (i := 40) rfl))) (by decide) (backOf (W := 0) (rmTd lL Z a0 hw [] a u t2 nx xx tm h0 n0 Zn ob) hZ (hw _ (List.mem_of_getElem? (i := 40) rfl)) (hw _ (List.mem_of_getElem? (i := 2) rfl)) (by decide) (by decide)) (g := (mkF mM 5 #[.val (.ref a), .val (.long t2), .second] [(.long t2), (.ref u), (.ref a)])) rfl (by rw [hml]; rfl) (Steps.refl _) (a := a) (by rw [e37]; exact q38) q38' (argsL := [(.ref u), (.long t2)]) (rest := []) (lenOf pd__28Lcom_2fexample_2flibttl_2flibttl_2fTimeForm_3bJ_29Lcom_2fexample_2flibttl_2flibttl_2fSetOptions_3b rfl) rfl (by show 2 * 0 + _ ≤ _; exact Nat.le_of_eq rfl) (hb hby d6_5) (fun _ _ => ⟨rfl, e37, (by decide : 0 + 1 ≤ _), (by decide : 0 + 5 ≤ _)⟩)
  dsimp only [Pt.U, Pt.locs, Pt.cells, Pt.slots] at X38 l38 y38 z38 st38 hQ38
  subst l38 y38 z38
  obtain ⟨b38, rfl, N38q, E38, O38⟩ := hQ38
  have N38 := Fr.app N0 N38q
  have e38 : T38.heap = T38.heap := rfl
  refine own_st (A := T38.setTop (mkF mM 8 #[.val (.ref a), .val (.long t2), .second] [(.ref b38)])) (fun tT_ kK_ => st38.trans kK_) ?_
  exact own_retA X38 hx hlk hret rfl rfl (hb hby d6_8) ⟨_, _, _, _, rfl, N38, E38, O38⟩ (by decide) (by decide)
theorem d14_0 : decode prog_44_method_8_code 0 = .ok (.aload_n 0, 1) := by decide +kernel
theorem d14_1 : decode prog_44_method_8_code 1 = .ok (.getstatic 51, 3) := by decide +kernel
theorem d14_4 : decode prog_44_method_8_code 4 = .ok (.lload_n 1, 1) := by decide +kernel
theorem d14_5 : decode prog_44_method_8_code 5 = .ok (.invokevirtual 41, 3) := by decide +kernel
theorem d14_8 : decode prog_44_method_8_code 8 = .ok (.areturn, 1) := by decide +kernel
theorem ef_rm_pxAt (mM : MethodId) (a : Addr) (u : Addr) (t2 : Int64) (nx : Int32) (xx : Int32) (tm : Int64) : entryFrame mM #[(.ref a), (.long t2)] 3 = mkF mM 0 #[.val (.ref a), .val (.long t2), .second] [] := by first | (simp [entryFrame, mkF, argsToLocals, Value.category]; done) | rfl
set_option maxRecDepth 65536 in
set_option maxHeartbeats 40000000 in
theorem rm_pxAt (lL : Launch) (Z : State) (a0 : Array Value) (hw : ∀ d ∈ tables_1, d.before a0 Z = true) (ws : List Jvm.Cond) (a : Addr) (u : Addr) (t2 : Int64) (nx : Int32) (xx : Int32) (tm : Int64) (h0 : Heap) (n0 : Nat) (Zn : n0 ≤ h0.size) (ob : Obj Z h0 a nx xx 0 .null tm) (S_u : Sta Z h0 "com/example/libttl/libttl/TimeForm" "UNIX_MILLISECONDS" "Lcom/example/libttl/libttl/TimeForm;" (.ref u)) :
    MetFree lL (⟨"com/example/libttl/libttl/SetOptions", "pxAt", "(J)Lcom/example/libttl/libttl/SetOptions;"⟩ : MethodName) (head1 (Jvm.Cond.code (⟨"com/example/libttl/libttl/SetOptions", "pxAt", "(J)Lcom/example/libttl/libttl/SetOptions;"⟩ : MethodName) prog_44_method_8_code 3 (some (.object "com/example/libttl/libttl/SetOptions")) :: ws) ({ frames := 3, cells := 1, slots := 5, locals := 46 } : Room)) (fun as_ uU_ => as_ = #[(.ref a), (.long t2)] ∧ Z.Warmed39 uU_.vm ∧ uU_.heap = h0) (fun _ _ _ _ _ => True) (fun _ uU_ oO_ uE_ => ∃ vV_ lL_, oO_ = .returned vV_ ∧ Qo Z nx xx h0 n0 vV_ uE_.heap lL_ ∧ FrameEnd uU_ oO_ uE_ lL_ ({ frames := 3, cells := 1, slots := 5, locals := 46 } : Room).cells ({ frames := 3, cells := 1, slots := 5, locals := 46 } : Room).slots) := by
  refine MetFree.of_bodySF (plainFor_of_name pn_com_2fexample_2flibttl_2flibttl_2fSetOptions) hisR ?_
  intro pP eE sS mM args below meth cC s₁ Bd hml0 hP hK
  obtain ⟨rfl, hZ, hh⟩ := hP
  have hx := Bd.exec
  have hby := Bd.bytes
  have hml : cC.maxLocals = 3 := hml0
  have hown : sS.vm.findClass "com/example/libttl/libttl/SetOptions" = some mM.cls := findClass_of_methodNamed Bd.named
  have hnm := (name_of_methodNamed Bd.named Bd.method).1
  have hret := Bd.returns
  have hlk := BodyLoose.notSynchronized Bd
  have X0 : Stand pP lL eE ({ frames := 3, cells := 1, slots := 5, locals := 46 } : Room) sS mM #[(.ref a), (.long t2)] below meth cC s₁ [] 0 0 := Stand.of_body Bd
  have e0 : s₁.heap = h0 := by rw [← hh, Bd.state]; rfl
  have N0 := Fr.nil n0
  show own_Go pP eE below sS (Qo Z nx xx h0 n0) 1 5 (s₁.setTop (entryFrame mM #[(.ref a), (.long t2)] 3))
  refine own_st (A := s₁.setTop (mkF mM 0 #[.val (.ref a), .val (.long t2), .second] [])) (fun tT_ kK_ => castTop (ef_rm_pxAt mM a u t2 nx xx tm) kK_) ?_
  refine own_st (A := s₁.setTop (mkF mM 1 #[.val (.ref a), .val (.long t2), .second] [(.ref a)])) (fun tT_ kK_ => XS.aloadN X0.here hx rfl (hb hby d14_0) rfl rfl kK_) ?_
  obtain ⟨T39, X39, e39, st39⟩ := getS2 X0 hx hZ hown (host := "") (Or.inl (hw _ (List.mem_of_getElem? (i := 81) rfl))) Via.refl e0 S_u (g := (mkF mM 1 #[.val (.ref a), .val (.long t2), .second] [(.ref a)])) rfl (hb hby d14_1)
  refine own_st (A := T39.setTop (mkF mM 4 #[.val (.ref a), .val (.long t2), .second] [(.ref u), (.ref a)])) (fun tT_ kK_ => st39 tT_ kK_) ?_
  refine own_st (A := T39.setTop (mkF mM 5 #[.val (.ref a), .val (.long t2), .second] [(.long t2), (.ref u), (.ref a)])) (fun tT_ kK_ => XS.lloadN X39.here hx rfl (hb hby d14_4) rfl kK_) ?_
  obtain ⟨cq40, q40, q40'⟩ := (ob.1).cell
  obtain ⟨_, _, ⟨T40, L40, k40, n40⟩, -, X40, ⟨Lc40, hQ40, l40, y40, z40⟩, st40⟩ := X39.privateBack hx (y := (⟨"com/example/libttl/libttl/SetOptions", "timed", "(Lcom/example/libttl/libttl/TimeForm;J)Lcom/example/libttl/libttl/SetOptions;"⟩ : MethodName)) hown (mvT hZ (hw _ (List.mem_of_getElem? (i := 37) rfl))) (mvT hZ (hw _ (List.mem_of_getElem? (i := 38) rfl))) (own_privSel (mvT hZ (hw _ (List.mem_of_getElem? (i := 32) rfl)) ) rfl (Cond.privateMethod_at (mvP hZ (hw _ (List.mem_of_getElem? (i := 39) rfl)) (args := #[]))) (mvT hZ (hw _ (List.mem_of_getElem? (i := 38) rfl))) (by decide)) (Cond.privateMethod_at (mvP hZ (hw _ (List.mem_of_getElem? (i := 39) rfl)) (args := #[]))) (mvT hZ (hw _ (List.mem_of_getElem? (i := 40) rfl))) (by decide) (backOf (W := 0) (rmTd lL Z a0 hw [] a u t2 nx xx tm h0 n0 Zn ob) hZ (hw _ (List.mem_of_getElem? (i := 40) rfl)) (hw _ (List.mem_of_getElem? (i := 2) rfl)) (by decide) (by decide)) (g := (mkF mM 5 #[.val (.ref a), .val (.long t2), .second] [(.long t2), (.ref u), (.ref a)])) rfl (by rw [hml]; rfl) (Steps.refl _) (a := a) (by rw [e39]; exact q40) q40' (argsL := [(.ref u), (.long t2)]) (rest := []) (lenOf pd__28Lcom_2fexample_2flibttl_2flibttl_2fTimeForm_3bJ_29Lcom_2fexample_2flibttl_2flibttl_2fSetOptions_3b rfl) rfl (by show 2 * 0 + _ ≤ _; exact Nat.le_of_eq rfl) (hb hby d14_5) (fun _ _ => ⟨rfl, e39, (by decide : 0 + 1 ≤ _), (by decide : 0 + 5 ≤ _)⟩)
  dsimp only [Pt.U, Pt.locs, Pt.cells, Pt.slots] at X40 l40 y40 z40 st40 hQ40
  subst l40 y40 z40
  obtain ⟨b40, rfl, N40q, E40, O40⟩ := hQ40
  have N40 := Fr.app N0 N40q
  have e40 : T40.heap = T40.heap := rfl
  refine own_st (A := T40.setTop (mkF mM 8 #[.val (.ref a), .val (.long t2), .second] [(.ref b40)])) (fun tT_ kK_ => st40.trans kK_) ?_
  exact own_retA X40 hx hlk hret rfl rfl (hb hby d14_8) ⟨_, _, _, _, rfl, N40, E40, O40⟩ (by decide) (by decide)
theorem d4_0 : decode method_2_code 0 = .ok (.iload_n 1, 1) := by decide +kernel
theorem d4_1 : decode method_2_code 1 = .ok (.iconst 1, 1) := by decide +kernel
theorem d4_2 : decode method_2_code 2 = .ok (.if_icmp .ne 8, 3) := by decide +kernel
theorem d4_5 : decode method_2_code 5 = .ok (.aload_n 0, 1) := by decide +kernel
theorem d4_6 : decode method_2_code 6 = .ok (.invokevirtual 7, 3) := by decide +kernel
theorem pd__28_29Lcom_2fexample_2flibttl_2flibttl_2fSetOptions_3b : parseMethodDescriptor "()Lcom/example/libttl/libttl/SetOptions;" = some ⟨[], some (.object "com/example/libttl/libttl/SetOptions")⟩ := by decide +kernel
theorem d4_9 : decode method_2_code 9 = .ok (.areturn, 1) := by decide +kernel
theorem d4_10 : decode method_2_code 10 = .ok (.iload_n 1, 1) := by decide +kernel
theorem d4_11 : decode method_2_code 11 = .ok (.iconst 2, 1) := by decide +kernel
theorem d4_12 : decode method_2_code 12 = .ok (.if_icmp .ne 8, 3) := by decide +kernel
theorem d4_15 : decode method_2_code 15 = .ok (.aload_n 0, 1) := by decide +kernel
theorem d4_16 : decode method_2_code 16 = .ok (.invokevirtual 13, 3) := by decide +kernel
theorem d4_19 : decode method_2_code 19 = .ok (.areturn, 1) := by decide +kernel
theorem d4_20 : decode method_2_code 20 = .ok (.aload_n 0, 1) := by decide +kernel
theorem d4_21 : decode method_2_code 21 = .ok (.areturn, 1) := by decide +kernel
theorem pn_com_2fexample_2flibttl_2flibttl_2fSetOptionsAllowPinLaw : plainName "com/example/libttl/libttl/SetOptionsAllowPinLaw" = true := by first | (simp [plainName, overriddenIn]; done) | decide +kernel
theorem ef_rmCond (mM : MethodId) (a : Addr) (c : Int32) (nx' : Int32) (xx' : Int32) (kt : Int32) (fm : Value) (tm : Int64) : entryFrame mM #[(.ref a), (.int c)] 2 = mkF mM 0 #[.val (.ref a), .val (.int c)] [] := by first | (simp [entryFrame, mkF, argsToLocals, Value.category]; done) | rfl
set_option maxRecDepth 65536 in
set_option maxHeartbeats 40000000 in
theorem rmCond (lL : Launch) (Z : State) (a0 : Array Value) (hw : ∀ d ∈ tables_1, d.before a0 Z = true) (ws : List Jvm.Cond) (a : Addr) (c : Int32) (nx' : Int32) (xx' : Int32) (kt : Int32) (fm : Value) (tm : Int64) (h0 : Heap) (n0 : Nat) (Zn : n0 ≤ h0.size) (ob : Obj Z h0 a 0 0 kt fm tm) (s1 : c = (1 : Int32) → nx' = 1 ∧ xx' = 0) (s2 : c = (2 : Int32) → nx' = 0 ∧ xx' = 1) (s0 : ¬ c = (1 : Int32) → ¬ c = (2 : Int32) → nx' = 0 ∧ xx' = 0) :
    MetFree lL (⟨"com/example/libttl/libttl/SetOptionsAllowPinLaw", "condOpt", "(Lcom/example/libttl/libttl/SetOptions;I)Lcom/example/libttl/libttl/SetOptions;"⟩ : MethodName) (head1 (Jvm.Cond.code (⟨"com/example/libttl/libttl/SetOptionsAllowPinLaw", "condOpt", "(Lcom/example/libttl/libttl/SetOptions;I)Lcom/example/libttl/libttl/SetOptions;"⟩ : MethodName) method_2_code 2 (some (.object "com/example/libttl/libttl/SetOptions")) :: ws) ({ frames := 3, cells := 1, slots := 5, locals := 43 } : Room)) (fun as_ uU_ => as_ = #[(.ref a), (.int c)] ∧ Z.Warmed39 uU_.vm ∧ uU_.heap = h0) (fun _ _ _ _ _ => True) (fun _ uU_ oO_ uE_ => ∃ vV_ lL_, oO_ = .returned vV_ ∧ Qc Z nx' xx' kt fm tm h0 n0 vV_ uE_.heap lL_ ∧ FrameEnd uU_ oO_ uE_ lL_ ({ frames := 3, cells := 1, slots := 5, locals := 43 } : Room).cells ({ frames := 3, cells := 1, slots := 5, locals := 43 } : Room).slots) := by
  refine MetFree.of_bodySF (plainFor_of_name pn_com_2fexample_2flibttl_2flibttl_2fSetOptionsAllowPinLaw) hisR ?_
  intro pP eE sS mM args below meth cC s₁ Bd hml0 hP hK
  obtain ⟨rfl, hZ, hh⟩ := hP
  have hx := Bd.exec
  have hby := Bd.bytes
  have hml : cC.maxLocals = 2 := hml0
  have hown : sS.vm.findClass "com/example/libttl/libttl/SetOptionsAllowPinLaw" = some mM.cls := findClass_of_methodNamed Bd.named
  have hnm := (name_of_methodNamed Bd.named Bd.method).1
  have hret := Bd.returns
  have hlk := BodyLoose.notSynchronized Bd
  have X0 : Stand pP lL eE ({ frames := 3, cells := 1, slots := 5, locals := 43 } : Room) sS mM #[(.ref a), (.int c)] below meth cC s₁ [] 0 0 := Stand.of_body Bd
  have e0 : s₁.heap = h0 := by rw [← hh, Bd.state]; rfl
  have N0 := Fr.nil n0
  show own_Go pP eE below sS (Qc Z nx' xx' kt fm tm h0 n0) 1 5 (s₁.setTop (entryFrame mM #[(.ref a), (.int c)] 2))
  refine own_st (A := s₁.setTop (mkF mM 0 #[.val (.ref a), .val (.int c)] [])) (fun tT_ kK_ => castTop (ef_rmCond mM a c nx' xx' kt fm tm) kK_) ?_
  refine own_st (A := s₁.setTop (mkF mM 1 #[.val (.ref a), .val (.int c)] [(.int c)])) (fun tT_ kK_ => XS.iloadN X0.here hx rfl (hb hby d4_0) rfl kK_) ?_
  refine own_st (A := s₁.setTop (mkF mM 2 #[.val (.ref a), .val (.int c)] [(.int (1 : Int32)), (.int c)])) (fun tT_ kK_ => XS.iconst X0.here hx rfl (hb hby d4_1) kK_) ?_
  by_cases hc2_41 : c = (1 : Int32)
  · skip
    refine own_st (A := s₁.setTop (mkF mM 5 #[.val (.ref a), .val (.int c)] [])) (fun tT_ kK_ => XS.icmpNo X0.here hx rfl (hb hby d4_2) rfl (teq hc2_41).2 kK_) ?_
    refine own_st (A := s₁.setTop (mkF mM 6 #[.val (.ref a), .val (.int c)] [(.ref a)])) (fun tT_ kK_ => XS.aloadN X0.here hx rfl (hb hby d4_5) rfl rfl kK_) ?_
    obtain ⟨cq42, kq42, q42a, q42b, q42c⟩ := isOf hZ e0 ob.1
    obtain ⟨_, _, ⟨T42, L42, k42, n42⟩, -, X42, ⟨Lc42, hQ42, l42, y42, z42⟩, st42⟩ := X0.virtualBack hx (y := (⟨"com/example/libttl/libttl/SetOptions", "nx", "()Lcom/example/libttl/libttl/SetOptions;"⟩ : MethodName)) (z := (⟨"com/example/libttl/libttl/SetOptions", "nx", "()Lcom/example/libttl/libttl/SetOptions;"⟩ : MethodName)) hown (mvT hZ (hw _ (List.mem_of_getElem? (i := 71) rfl))) (mvT hZ (hw _ (List.mem_of_getElem? (i := 72) rfl))) (notFace_of_selects (args := #[]) (mvT hZ (hw _ (List.mem_of_getElem? (i := 74) rfl)))) (mvT hZ (hw _ (List.mem_of_getElem? (i := 74) rfl))) (mvT hZ (hw _ (List.mem_of_getElem? (i := 73) rfl))) (by decide) (backOf (W := 0) (rmNx lL Z a0 hw [] a 0 kt fm tm h0 n0 Zn ob) hZ (hw _ (List.mem_of_getElem? (i := 75) rfl)) (hw _ (List.mem_of_getElem? (i := 2) rfl)) (by decide) (by decide)) q42a q42c (g := (mkF mM 6 #[.val (.ref a), .val (.int c)] [(.ref a)])) rfl (by rw [hml]; rfl) (Steps.refl _) (argsL := []) (rest := []) (lenOf pd__28_29Lcom_2fexample_2flibttl_2flibttl_2fSetOptions_3b rfl) rfl (by show 2 * 0 + _ ≤ _; exact Nat.le_of_eq rfl) (hb hby d4_6) (fun _ _ => ⟨rfl, e0, (by decide : 0 + 1 ≤ _), (by decide : 0 + 5 ≤ _)⟩)
    dsimp only [Pt.U, Pt.locs, Pt.cells, Pt.slots] at X42 l42 y42 z42 st42 hQ42
    subst l42 y42 z42
    obtain ⟨b42, rfl, N42q, E42, O42⟩ := hQ42
    have N42 := Fr.app N0 N42q
    have e42 : T42.heap = T42.heap := rfl
    refine own_st (A := T42.setTop (mkF mM 9 #[.val (.ref a), .val (.int c)] [(.ref b42)])) (fun tT_ kK_ => st42.trans kK_) ?_
    exact own_retA X42 hx hlk hret rfl rfl (hb hby d4_9) (by rw [(s1 hc2_41).1, (s1 hc2_41).2]; exact ⟨_, rfl, N42, E42, O42⟩) (by decide) (by decide)
  · skip
    refine own_st (A := s₁.setTop (mkF mM 10 #[.val (.ref a), .val (.int c)] [])) (fun tT_ kK_ => XS.icmpYes X0.here hx rfl (pc0 := 2) (pc' := 10) rfl (hb hby d4_2) rfl (feq hc2_41).2 (by decide) (by decide) kK_) ?_
    refine own_st (A := s₁.setTop (mkF mM 11 #[.val (.ref a), .val (.int c)] [(.int c)])) (fun tT_ kK_ => XS.iloadN X0.here hx rfl (hb hby d4_10) rfl kK_) ?_
    refine own_st (A := s₁.setTop (mkF mM 12 #[.val (.ref a), .val (.int c)] [(.int (2 : Int32)), (.int c)])) (fun tT_ kK_ => XS.iconst X0.here hx rfl (hb hby d4_11) kK_) ?_
    by_cases hc12_43 : c = (2 : Int32)
    · skip
      refine own_st (A := s₁.setTop (mkF mM 15 #[.val (.ref a), .val (.int c)] [])) (fun tT_ kK_ => XS.icmpNo X0.here hx rfl (hb hby d4_12) rfl (teq hc12_43).2 kK_) ?_
      refine own_st (A := s₁.setTop (mkF mM 16 #[.val (.ref a), .val (.int c)] [(.ref a)])) (fun tT_ kK_ => XS.aloadN X0.here hx rfl (hb hby d4_15) rfl rfl kK_) ?_
      obtain ⟨cq44, kq44, q44a, q44b, q44c⟩ := isOf hZ e0 ob.1
      obtain ⟨_, _, ⟨T44, L44, k44, n44⟩, -, X44, ⟨Lc44, hQ44, l44, y44, z44⟩, st44⟩ := X0.virtualBack hx (y := (⟨"com/example/libttl/libttl/SetOptions", "xx", "()Lcom/example/libttl/libttl/SetOptions;"⟩ : MethodName)) (z := (⟨"com/example/libttl/libttl/SetOptions", "xx", "()Lcom/example/libttl/libttl/SetOptions;"⟩ : MethodName)) hown (mvT hZ (hw _ (List.mem_of_getElem? (i := 47) rfl))) (mvT hZ (hw _ (List.mem_of_getElem? (i := 48) rfl))) (notFace_of_selects (args := #[]) (mvT hZ (hw _ (List.mem_of_getElem? (i := 50) rfl)))) (mvT hZ (hw _ (List.mem_of_getElem? (i := 50) rfl))) (mvT hZ (hw _ (List.mem_of_getElem? (i := 49) rfl))) (by decide) (backOf (W := 0) (rmXx lL Z a0 hw [] a 0 kt fm tm h0 n0 Zn ob) hZ (hw _ (List.mem_of_getElem? (i := 51) rfl)) (hw _ (List.mem_of_getElem? (i := 2) rfl)) (by decide) (by decide)) q44a q44c (g := (mkF mM 16 #[.val (.ref a), .val (.int c)] [(.ref a)])) rfl (by rw [hml]; rfl) (Steps.refl _) (argsL := []) (rest := []) (lenOf pd__28_29Lcom_2fexample_2flibttl_2flibttl_2fSetOptions_3b rfl) rfl (by show 2 * 0 + _ ≤ _; exact Nat.le_of_eq rfl) (hb hby d4_16) (fun _ _ => ⟨rfl, e0, (by decide : 0 + 1 ≤ _), (by decide : 0 + 5 ≤ _)⟩)
      dsimp only [Pt.U, Pt.locs, Pt.cells, Pt.slots] at X44 l44 y44 z44 st44 hQ44
      subst l44 y44 z44
      obtain ⟨b44, rfl, N44q, E44, O44⟩ := hQ44
      have N44 := Fr.app N0 N44q
      have e44 : T44.heap = T44.heap := rfl
      refine own_st (A := T44.setTop (mkF mM 19 #[.val (.ref a), .val (.int c)] [(.ref b44)])) (fun tT_ kK_ => st44.trans kK_) ?_
      exact own_retA X44 hx hlk hret rfl rfl (hb hby d4_19) (by rw [(s2 hc12_43).1, (s2 hc12_43).2]; exact ⟨_, rfl, N44, E44, O44⟩) (by decide) (by decide)
    · skip
      refine own_st (A := s₁.setTop (mkF mM 20 #[.val (.ref a), .val (.int c)] [])) (fun tT_ kK_ => XS.icmpYes X0.here hx rfl (pc0 := 12) (pc' := 20) rfl (hb hby d4_12) rfl (feq hc12_43).2 (by decide) (by decide) kK_) ?_
      refine own_st (A := s₁.setTop (mkF mM 21 #[.val (.ref a), .val (.int c)] [(.ref a)])) (fun tT_ kK_ => XS.aloadN X0.here hx rfl (hb hby d4_20) rfl rfl kK_) ?_
      exact own_retA X0 hx hlk hret rfl rfl (hb hby d4_21) (by rw [(s0 hc2_41 hc12_43).1, (s0 hc2_41 hc12_43).2]; exact ⟨_, rfl, N0, own_ext_of_keep (by rw [e0]; exact Keep.refl h0 []), (by rw [e0]; exact ob)⟩) (by decide) (by decide)
theorem d5_0 : decode method_3_code 0 = .ok (.iload_n 1, 1) := by decide +kernel
theorem d5_1 : decode method_3_code 1 = .ok (.iconst 1, 1) := by decide +kernel
theorem d5_2 : decode method_3_code 2 = .ok (.if_icmp .ne 9, 3) := by decide +kernel
theorem d5_5 : decode method_3_code 5 = .ok (.aload_n 0, 1) := by decide +kernel
theorem d5_6 : decode method_3_code 6 = .ok (.lload_n 2, 1) := by decide +kernel
theorem d5_7 : decode method_3_code 7 = .ok (.invokevirtual 16, 3) := by decide +kernel
theorem pd__28J_29Lcom_2fexample_2flibttl_2flibttl_2fSetOptions_3b : parseMethodDescriptor "(J)Lcom/example/libttl/libttl/SetOptions;" = some ⟨[.long], some (.object "com/example/libttl/libttl/SetOptions")⟩ := by decide +kernel
theorem d5_10 : decode method_3_code 10 = .ok (.areturn, 1) := by decide +kernel
theorem d5_11 : decode method_3_code 11 = .ok (.iload_n 1, 1) := by decide +kernel
theorem d5_12 : decode method_3_code 12 = .ok (.iconst 2, 1) := by decide +kernel
theorem d5_13 : decode method_3_code 13 = .ok (.if_icmp .ne 9, 3) := by decide +kernel
theorem d5_16 : decode method_3_code 16 = .ok (.aload_n 0, 1) := by decide +kernel
theorem d5_17 : decode method_3_code 17 = .ok (.lload_n 2, 1) := by decide +kernel
theorem d5_18 : decode method_3_code 18 = .ok (.invokevirtual 20, 3) := by decide +kernel
theorem d5_21 : decode method_3_code 21 = .ok (.areturn, 1) := by decide +kernel
theorem d5_22 : decode method_3_code 22 = .ok (.iload_n 1, 1) := by decide +kernel
theorem d5_23 : decode method_3_code 23 = .ok (.iconst 3, 1) := by decide +kernel
theorem d5_24 : decode method_3_code 24 = .ok (.if_icmp .ne 9, 3) := by decide +kernel
theorem d5_27 : decode method_3_code 27 = .ok (.aload_n 0, 1) := by decide +kernel
theorem d5_28 : decode method_3_code 28 = .ok (.lload_n 2, 1) := by decide +kernel
theorem d5_29 : decode method_3_code 29 = .ok (.invokevirtual 23, 3) := by decide +kernel
theorem d5_32 : decode method_3_code 32 = .ok (.areturn, 1) := by decide +kernel
theorem d5_33 : decode method_3_code 33 = .ok (.iload_n 1, 1) := by decide +kernel
theorem d5_34 : decode method_3_code 34 = .ok (.iconst 4, 1) := by decide +kernel
theorem d5_35 : decode method_3_code 35 = .ok (.if_icmp .ne 9, 3) := by decide +kernel
theorem d5_38 : decode method_3_code 38 = .ok (.aload_n 0, 1) := by decide +kernel
theorem d5_39 : decode method_3_code 39 = .ok (.lload_n 2, 1) := by decide +kernel
theorem d5_40 : decode method_3_code 40 = .ok (.invokevirtual 26, 3) := by decide +kernel
theorem d5_43 : decode method_3_code 43 = .ok (.areturn, 1) := by decide +kernel
theorem d5_44 : decode method_3_code 44 = .ok (.iload_n 1, 1) := by decide +kernel
theorem d5_45 : decode method_3_code 45 = .ok (.iconst 5, 1) := by decide +kernel
theorem d5_46 : decode method_3_code 46 = .ok (.if_icmp .ne 8, 3) := by decide +kernel
theorem d5_49 : decode method_3_code 49 = .ok (.aload_n 0, 1) := by decide +kernel
theorem d5_50 : decode method_3_code 50 = .ok (.invokevirtual 29, 3) := by decide +kernel
theorem d5_53 : decode method_3_code 53 = .ok (.areturn, 1) := by decide +kernel
theorem d5_54 : decode method_3_code 54 = .ok (.aload_n 0, 1) := by decide +kernel
theorem d5_55 : decode method_3_code 55 = .ok (.areturn, 1) := by decide +kernel
theorem ef_rmTime (mM : MethodId) (a : Addr) (k : Int32) (t2 : Int64) (nx : Int32) (xx : Int32) (tm : Int64) (u1 : Addr) (u2 : Addr) (u3 : Addr) (u4 : Addr) : entryFrame mM #[(.ref a), (.int k), (.long t2)] 4 = mkF mM 0 #[.val (.ref a), .val (.int k), .val (.long t2), .second] [] := by first | (simp [entryFrame, mkF, argsToLocals, Value.category]; done) | rfl
set_option maxRecDepth 65536 in
set_option maxHeartbeats 40000000 in
theorem rmTime (lL : Launch) (Z : State) (a0 : Array Value) (hw : ∀ d ∈ tables_1, d.before a0 Z = true) (ws : List Jvm.Cond) (a : Addr) (k : Int32) (t2 : Int64) (nx : Int32) (xx : Int32) (tm : Int64) (u1 : Addr) (u2 : Addr) (u3 : Addr) (u4 : Addr) (h0 : Heap) (n0 : Nat) (Zn : n0 ≤ h0.size) (ob : Obj Z h0 a nx xx 0 .null tm) (Od : Old Z n0 h0) (S_u1 : Sta Z Z.heap "com/example/libttl/libttl/TimeForm" "SECONDS" "Lcom/example/libttl/libttl/TimeForm;" (.ref u1)) (S_u2 : Sta Z Z.heap "com/example/libttl/libttl/TimeForm" "MILLISECONDS" "Lcom/example/libttl/libttl/TimeForm;" (.ref u2)) (S_u3 : Sta Z Z.heap "com/example/libttl/libttl/TimeForm" "UNIX_SECONDS" "Lcom/example/libttl/libttl/TimeForm;" (.ref u3)) (S_u4 : Sta Z Z.heap "com/example/libttl/libttl/TimeForm" "UNIX_MILLISECONDS" "Lcom/example/libttl/libttl/TimeForm;" (.ref u4)) :
    MetFree lL (⟨"com/example/libttl/libttl/SetOptionsAllowPinLaw", "timeOpt", "(Lcom/example/libttl/libttl/SetOptions;IJ)Lcom/example/libttl/libttl/SetOptions;"⟩ : MethodName) (head1 (Jvm.Cond.code (⟨"com/example/libttl/libttl/SetOptionsAllowPinLaw", "timeOpt", "(Lcom/example/libttl/libttl/SetOptions;IJ)Lcom/example/libttl/libttl/SetOptions;"⟩ : MethodName) method_3_code 4 (some (.object "com/example/libttl/libttl/SetOptions")) :: ws) ({ frames := 4, cells := 1, slots := 5, locals := 60 } : Room)) (fun as_ uU_ => as_ = #[(.ref a), (.int k), (.long t2)] ∧ Z.Warmed39 uU_.vm ∧ uU_.heap = h0) (fun _ _ _ _ _ => True) (fun _ uU_ oO_ uE_ => ∃ vV_ lL_, oO_ = .returned vV_ ∧ Qo Z nx xx h0 n0 vV_ uE_.heap lL_ ∧ FrameEnd uU_ oO_ uE_ lL_ ({ frames := 4, cells := 1, slots := 5, locals := 60 } : Room).cells ({ frames := 4, cells := 1, slots := 5, locals := 60 } : Room).slots) := by
  refine MetFree.of_bodySF (plainFor_of_name pn_com_2fexample_2flibttl_2flibttl_2fSetOptionsAllowPinLaw) hisR ?_
  intro pP eE sS mM args below meth cC s₁ Bd hml0 hP hK
  obtain ⟨rfl, hZ, hh⟩ := hP
  have hx := Bd.exec
  have hby := Bd.bytes
  have hml : cC.maxLocals = 4 := hml0
  have hown : sS.vm.findClass "com/example/libttl/libttl/SetOptionsAllowPinLaw" = some mM.cls := findClass_of_methodNamed Bd.named
  have hnm := (name_of_methodNamed Bd.named Bd.method).1
  have hret := Bd.returns
  have hlk := BodyLoose.notSynchronized Bd
  have X0 : Stand pP lL eE ({ frames := 4, cells := 1, slots := 5, locals := 60 } : Room) sS mM #[(.ref a), (.int k), (.long t2)] below meth cC s₁ [] 0 0 := Stand.of_body Bd
  have e0 : s₁.heap = h0 := by rw [← hh, Bd.state]; rfl
  have N0 := Fr.nil n0
  show own_Go pP eE below sS (Qo Z nx xx h0 n0) 1 5 (s₁.setTop (entryFrame mM #[(.ref a), (.int k), (.long t2)] 4))
  refine own_st (A := s₁.setTop (mkF mM 0 #[.val (.ref a), .val (.int k), .val (.long t2), .second] [])) (fun tT_ kK_ => castTop (ef_rmTime mM a k t2 nx xx tm u1 u2 u3 u4) kK_) ?_
  refine own_st (A := s₁.setTop (mkF mM 1 #[.val (.ref a), .val (.int k), .val (.long t2), .second] [(.int k)])) (fun tT_ kK_ => XS.iloadN X0.here hx rfl (hb hby d5_0) rfl kK_) ?_
  refine own_st (A := s₁.setTop (mkF mM 2 #[.val (.ref a), .val (.int k), .val (.long t2), .second] [(.int (1 : Int32)), (.int k)])) (fun tT_ kK_ => XS.iconst X0.here hx rfl (hb hby d5_1) kK_) ?_
  by_cases hc2_45 : k = (1 : Int32)
  · skip
    refine own_st (A := s₁.setTop (mkF mM 5 #[.val (.ref a), .val (.int k), .val (.long t2), .second] [])) (fun tT_ kK_ => XS.icmpNo X0.here hx rfl (hb hby d5_2) rfl (teq hc2_45).2 kK_) ?_
    refine own_st (A := s₁.setTop (mkF mM 6 #[.val (.ref a), .val (.int k), .val (.long t2), .second] [(.ref a)])) (fun tT_ kK_ => XS.aloadN X0.here hx rfl (hb hby d5_5) rfl rfl kK_) ?_
    refine own_st (A := s₁.setTop (mkF mM 7 #[.val (.ref a), .val (.int k), .val (.long t2), .second] [(.long t2), (.ref a)])) (fun tT_ kK_ => XS.lloadN X0.here hx rfl (hb hby d5_6) rfl kK_) ?_
    obtain ⟨cq46, kq46, q46a, q46b, q46c⟩ := isOf hZ e0 ob.1
    obtain ⟨_, _, ⟨T46, L46, k46, n46⟩, -, X46, ⟨Lc46, hQ46, l46, y46, z46⟩, st46⟩ := X0.virtualBack hx (y := (⟨"com/example/libttl/libttl/SetOptions", "ex", "(J)Lcom/example/libttl/libttl/SetOptions;"⟩ : MethodName)) (z := (⟨"com/example/libttl/libttl/SetOptions", "ex", "(J)Lcom/example/libttl/libttl/SetOptions;"⟩ : MethodName)) hown (mvT hZ (hw _ (List.mem_of_getElem? (i := 59) rfl))) (mvT hZ (hw _ (List.mem_of_getElem? (i := 60) rfl))) (notFace_of_selects (args := #[]) (mvT hZ (hw _ (List.mem_of_getElem? (i := 62) rfl)))) (mvT hZ (hw _ (List.mem_of_getElem? (i := 62) rfl))) (mvT hZ (hw _ (List.mem_of_getElem? (i := 61) rfl))) (by decide) (backOf (W := 0) (rm_ex lL Z a0 hw [] a u1 t2 nx xx tm h0 n0 Zn ob (S_u1.ext Od.2)) hZ (hw _ (List.mem_of_getElem? (i := 63) rfl)) (hw _ (List.mem_of_getElem? (i := 2) rfl)) (by decide) (by decide)) q46a q46c (g := (mkF mM 7 #[.val (.ref a), .val (.int k), .val (.long t2), .second] [(.long t2), (.ref a)])) rfl (by rw [hml]; rfl) (Steps.refl _) (argsL := [(.long t2)]) (rest := []) (lenOf pd__28J_29Lcom_2fexample_2flibttl_2flibttl_2fSetOptions_3b rfl) rfl (by show 2 * 0 + _ ≤ _; exact Nat.le_of_eq rfl) (hb hby d5_7) (fun _ _ => ⟨rfl, e0, (by decide : 0 + 1 ≤ _), (by decide : 0 + 5 ≤ _)⟩)
    dsimp only [Pt.U, Pt.locs, Pt.cells, Pt.slots] at X46 l46 y46 z46 st46 hQ46
    subst l46 y46 z46
    obtain ⟨b46, k46', f46', t46', rfl, N46q, E46, O46⟩ := hQ46
    have N46 := Fr.app N0 N46q
    have e46 : T46.heap = T46.heap := rfl
    refine own_st (A := T46.setTop (mkF mM 10 #[.val (.ref a), .val (.int k), .val (.long t2), .second] [(.ref b46)])) (fun tT_ kK_ => st46.trans kK_) ?_
    exact own_retA X46 hx hlk hret rfl rfl (hb hby d5_10) ⟨_, _, _, _, rfl, N46, E46, O46⟩ (by decide) (by decide)
  · skip
    refine own_st (A := s₁.setTop (mkF mM 11 #[.val (.ref a), .val (.int k), .val (.long t2), .second] [])) (fun tT_ kK_ => XS.icmpYes X0.here hx rfl (pc0 := 2) (pc' := 11) rfl (hb hby d5_2) rfl (feq hc2_45).2 (by decide) (by decide) kK_) ?_
    refine own_st (A := s₁.setTop (mkF mM 12 #[.val (.ref a), .val (.int k), .val (.long t2), .second] [(.int k)])) (fun tT_ kK_ => XS.iloadN X0.here hx rfl (hb hby d5_11) rfl kK_) ?_
    refine own_st (A := s₁.setTop (mkF mM 13 #[.val (.ref a), .val (.int k), .val (.long t2), .second] [(.int (2 : Int32)), (.int k)])) (fun tT_ kK_ => XS.iconst X0.here hx rfl (hb hby d5_12) kK_) ?_
    by_cases hc13_47 : k = (2 : Int32)
    · skip
      refine own_st (A := s₁.setTop (mkF mM 16 #[.val (.ref a), .val (.int k), .val (.long t2), .second] [])) (fun tT_ kK_ => XS.icmpNo X0.here hx rfl (hb hby d5_13) rfl (teq hc13_47).2 kK_) ?_
      refine own_st (A := s₁.setTop (mkF mM 17 #[.val (.ref a), .val (.int k), .val (.long t2), .second] [(.ref a)])) (fun tT_ kK_ => XS.aloadN X0.here hx rfl (hb hby d5_16) rfl rfl kK_) ?_
      refine own_st (A := s₁.setTop (mkF mM 18 #[.val (.ref a), .val (.int k), .val (.long t2), .second] [(.long t2), (.ref a)])) (fun tT_ kK_ => XS.lloadN X0.here hx rfl (hb hby d5_17) rfl kK_) ?_
      obtain ⟨cq48, kq48, q48a, q48b, q48c⟩ := isOf hZ e0 ob.1
      obtain ⟨_, _, ⟨T48, L48, k48, n48⟩, -, X48, ⟨Lc48, hQ48, l48, y48, z48⟩, st48⟩ := X0.virtualBack hx (y := (⟨"com/example/libttl/libttl/SetOptions", "px", "(J)Lcom/example/libttl/libttl/SetOptions;"⟩ : MethodName)) (z := (⟨"com/example/libttl/libttl/SetOptions", "px", "(J)Lcom/example/libttl/libttl/SetOptions;"⟩ : MethodName)) hown (mvT hZ (hw _ (List.mem_of_getElem? (i := 52) rfl))) (mvT hZ (hw _ (List.mem_of_getElem? (i := 53) rfl))) (notFace_of_selects (args := #[]) (mvT hZ (hw _ (List.mem_of_getElem? (i := 55) rfl)))) (mvT hZ (hw _ (List.mem_of_getElem? (i := 55) rfl))) (mvT hZ (hw _ (List.mem_of_getElem? (i := 54) rfl))) (by decide) (backOf (W := 0) (rm_px lL Z a0 hw [] a u2 t2 nx xx tm h0 n0 Zn ob (S_u2.ext Od.2)) hZ (hw _ (List.mem_of_getElem? (i := 56) rfl)) (hw _ (List.mem_of_getElem? (i := 2) rfl)) (by decide) (by decide)) q48a q48c (g := (mkF mM 18 #[.val (.ref a), .val (.int k), .val (.long t2), .second] [(.long t2), (.ref a)])) rfl (by rw [hml]; rfl) (Steps.refl _) (argsL := [(.long t2)]) (rest := []) (lenOf pd__28J_29Lcom_2fexample_2flibttl_2flibttl_2fSetOptions_3b rfl) rfl (by show 2 * 0 + _ ≤ _; exact Nat.le_of_eq rfl) (hb hby d5_18) (fun _ _ => ⟨rfl, e0, (by decide : 0 + 1 ≤ _), (by decide : 0 + 5 ≤ _)⟩)
      dsimp only [Pt.U, Pt.locs, Pt.cells, Pt.slots] at X48 l48 y48 z48 st48 hQ48
      subst l48 y48 z48
      obtain ⟨b48, k48', f48', t48', rfl, N48q, E48, O48⟩ := hQ48
      have N48 := Fr.app N0 N48q
      have e48 : T48.heap = T48.heap := rfl
      refine own_st (A := T48.setTop (mkF mM 21 #[.val (.ref a), .val (.int k), .val (.long t2), .second] [(.ref b48)])) (fun tT_ kK_ => st48.trans kK_) ?_
      exact own_retA X48 hx hlk hret rfl rfl (hb hby d5_21) ⟨_, _, _, _, rfl, N48, E48, O48⟩ (by decide) (by decide)
    · skip
      refine own_st (A := s₁.setTop (mkF mM 22 #[.val (.ref a), .val (.int k), .val (.long t2), .second] [])) (fun tT_ kK_ => XS.icmpYes X0.here hx rfl (pc0 := 13) (pc' := 22) rfl (hb hby d5_13) rfl (feq hc13_47).2 (by decide) (by decide) kK_) ?_
      refine own_st (A := s₁.setTop (mkF mM 23 #[.val (.ref a), .val (.int k), .val (.long t2), .second] [(.int k)])) (fun tT_ kK_ => XS.iloadN X0.here hx rfl (hb hby d5_22) rfl kK_) ?_
      refine own_st (A := s₁.setTop (mkF mM 24 #[.val (.ref a), .val (.int k), .val (.long t2), .second] [(.int (3 : Int32)), (.int k)])) (fun tT_ kK_ => XS.iconst X0.here hx rfl (hb hby d5_23) kK_) ?_
      by_cases hc24_49 : k = (3 : Int32)
      · skip
        refine own_st (A := s₁.setTop (mkF mM 27 #[.val (.ref a), .val (.int k), .val (.long t2), .second] [])) (fun tT_ kK_ => XS.icmpNo X0.here hx rfl (hb hby d5_24) rfl (teq hc24_49).2 kK_) ?_
        refine own_st (A := s₁.setTop (mkF mM 28 #[.val (.ref a), .val (.int k), .val (.long t2), .second] [(.ref a)])) (fun tT_ kK_ => XS.aloadN X0.here hx rfl (hb hby d5_27) rfl rfl kK_) ?_
        refine own_st (A := s₁.setTop (mkF mM 29 #[.val (.ref a), .val (.int k), .val (.long t2), .second] [(.long t2), (.ref a)])) (fun tT_ kK_ => XS.lloadN X0.here hx rfl (hb hby d5_28) rfl kK_) ?_
        obtain ⟨cq50, kq50, q50a, q50b, q50c⟩ := isOf hZ e0 ob.1
        obtain ⟨_, _, ⟨T50, L50, k50, n50⟩, -, X50, ⟨Lc50, hQ50, l50, y50, z50⟩, st50⟩ := X0.virtualBack hx (y := (⟨"com/example/libttl/libttl/SetOptions", "exAt", "(J)Lcom/example/libttl/libttl/SetOptions;"⟩ : MethodName)) (z := (⟨"com/example/libttl/libttl/SetOptions", "exAt", "(J)Lcom/example/libttl/libttl/SetOptions;"⟩ : MethodName)) hown (mvT hZ (hw _ (List.mem_of_getElem? (i := 29) rfl))) (mvT hZ (hw _ (List.mem_of_getElem? (i := 30) rfl))) (notFace_of_selects (args := #[]) (mvT hZ (hw _ (List.mem_of_getElem? (i := 32) rfl)))) (mvT hZ (hw _ (List.mem_of_getElem? (i := 32) rfl))) (mvT hZ (hw _ (List.mem_of_getElem? (i := 31) rfl))) (by decide) (backOf (W := 0) (rm_exAt lL Z a0 hw [] a u3 t2 nx xx tm h0 n0 Zn ob (S_u3.ext Od.2)) hZ (hw _ (List.mem_of_getElem? (i := 33) rfl)) (hw _ (List.mem_of_getElem? (i := 2) rfl)) (by decide) (by decide)) q50a q50c (g := (mkF mM 29 #[.val (.ref a), .val (.int k), .val (.long t2), .second] [(.long t2), (.ref a)])) rfl (by rw [hml]; rfl) (Steps.refl _) (argsL := [(.long t2)]) (rest := []) (lenOf pd__28J_29Lcom_2fexample_2flibttl_2flibttl_2fSetOptions_3b rfl) rfl (by show 2 * 0 + _ ≤ _; exact Nat.le_of_eq rfl) (hb hby d5_29) (fun _ _ => ⟨rfl, e0, (by decide : 0 + 1 ≤ _), (by decide : 0 + 5 ≤ _)⟩)
        dsimp only [Pt.U, Pt.locs, Pt.cells, Pt.slots] at X50 l50 y50 z50 st50 hQ50
        subst l50 y50 z50
        obtain ⟨b50, k50', f50', t50', rfl, N50q, E50, O50⟩ := hQ50
        have N50 := Fr.app N0 N50q
        have e50 : T50.heap = T50.heap := rfl
        refine own_st (A := T50.setTop (mkF mM 32 #[.val (.ref a), .val (.int k), .val (.long t2), .second] [(.ref b50)])) (fun tT_ kK_ => st50.trans kK_) ?_
        exact own_retA X50 hx hlk hret rfl rfl (hb hby d5_32) ⟨_, _, _, _, rfl, N50, E50, O50⟩ (by decide) (by decide)
      · skip
        refine own_st (A := s₁.setTop (mkF mM 33 #[.val (.ref a), .val (.int k), .val (.long t2), .second] [])) (fun tT_ kK_ => XS.icmpYes X0.here hx rfl (pc0 := 24) (pc' := 33) rfl (hb hby d5_24) rfl (feq hc24_49).2 (by decide) (by decide) kK_) ?_
        refine own_st (A := s₁.setTop (mkF mM 34 #[.val (.ref a), .val (.int k), .val (.long t2), .second] [(.int k)])) (fun tT_ kK_ => XS.iloadN X0.here hx rfl (hb hby d5_33) rfl kK_) ?_
        refine own_st (A := s₁.setTop (mkF mM 35 #[.val (.ref a), .val (.int k), .val (.long t2), .second] [(.int (4 : Int32)), (.int k)])) (fun tT_ kK_ => XS.iconst X0.here hx rfl (hb hby d5_34) kK_) ?_
        by_cases hc35_51 : k = (4 : Int32)
        · skip
          refine own_st (A := s₁.setTop (mkF mM 38 #[.val (.ref a), .val (.int k), .val (.long t2), .second] [])) (fun tT_ kK_ => XS.icmpNo X0.here hx rfl (hb hby d5_35) rfl (teq hc35_51).2 kK_) ?_
          refine own_st (A := s₁.setTop (mkF mM 39 #[.val (.ref a), .val (.int k), .val (.long t2), .second] [(.ref a)])) (fun tT_ kK_ => XS.aloadN X0.here hx rfl (hb hby d5_38) rfl rfl kK_) ?_
          refine own_st (A := s₁.setTop (mkF mM 40 #[.val (.ref a), .val (.int k), .val (.long t2), .second] [(.long t2), (.ref a)])) (fun tT_ kK_ => XS.lloadN X0.here hx rfl (hb hby d5_39) rfl kK_) ?_
          obtain ⟨cq52, kq52, q52a, q52b, q52c⟩ := isOf hZ e0 ob.1
          obtain ⟨_, _, ⟨T52, L52, k52, n52⟩, -, X52, ⟨Lc52, hQ52, l52, y52, z52⟩, st52⟩ := X0.virtualBack hx (y := (⟨"com/example/libttl/libttl/SetOptions", "pxAt", "(J)Lcom/example/libttl/libttl/SetOptions;"⟩ : MethodName)) (z := (⟨"com/example/libttl/libttl/SetOptions", "pxAt", "(J)Lcom/example/libttl/libttl/SetOptions;"⟩ : MethodName)) hown (mvT hZ (hw _ (List.mem_of_getElem? (i := 76) rfl))) (mvT hZ (hw _ (List.mem_of_getElem? (i := 77) rfl))) (notFace_of_selects (args := #[]) (mvT hZ (hw _ (List.mem_of_getElem? (i := 79) rfl)))) (mvT hZ (hw _ (List.mem_of_getElem? (i := 79) rfl))) (mvT hZ (hw _ (List.mem_of_getElem? (i := 78) rfl))) (by decide) (backOf (W := 0) (rm_pxAt lL Z a0 hw [] a u4 t2 nx xx tm h0 n0 Zn ob (S_u4.ext Od.2)) hZ (hw _ (List.mem_of_getElem? (i := 80) rfl)) (hw _ (List.mem_of_getElem? (i := 2) rfl)) (by decide) (by decide)) q52a q52c (g := (mkF mM 40 #[.val (.ref a), .val (.int k), .val (.long t2), .second] [(.long t2), (.ref a)])) rfl (by rw [hml]; rfl) (Steps.refl _) (argsL := [(.long t2)]) (rest := []) (lenOf pd__28J_29Lcom_2fexample_2flibttl_2flibttl_2fSetOptions_3b rfl) rfl (by show 2 * 0 + _ ≤ _; exact Nat.le_of_eq rfl) (hb hby d5_40) (fun _ _ => ⟨rfl, e0, (by decide : 0 + 1 ≤ _), (by decide : 0 + 5 ≤ _)⟩)
          dsimp only [Pt.U, Pt.locs, Pt.cells, Pt.slots] at X52 l52 y52 z52 st52 hQ52
          subst l52 y52 z52
          obtain ⟨b52, k52', f52', t52', rfl, N52q, E52, O52⟩ := hQ52
          have N52 := Fr.app N0 N52q
          have e52 : T52.heap = T52.heap := rfl
          refine own_st (A := T52.setTop (mkF mM 43 #[.val (.ref a), .val (.int k), .val (.long t2), .second] [(.ref b52)])) (fun tT_ kK_ => st52.trans kK_) ?_
          exact own_retA X52 hx hlk hret rfl rfl (hb hby d5_43) ⟨_, _, _, _, rfl, N52, E52, O52⟩ (by decide) (by decide)
        · skip
          refine own_st (A := s₁.setTop (mkF mM 44 #[.val (.ref a), .val (.int k), .val (.long t2), .second] [])) (fun tT_ kK_ => XS.icmpYes X0.here hx rfl (pc0 := 35) (pc' := 44) rfl (hb hby d5_35) rfl (feq hc35_51).2 (by decide) (by decide) kK_) ?_
          refine own_st (A := s₁.setTop (mkF mM 45 #[.val (.ref a), .val (.int k), .val (.long t2), .second] [(.int k)])) (fun tT_ kK_ => XS.iloadN X0.here hx rfl (hb hby d5_44) rfl kK_) ?_
          refine own_st (A := s₁.setTop (mkF mM 46 #[.val (.ref a), .val (.int k), .val (.long t2), .second] [(.int (5 : Int32)), (.int k)])) (fun tT_ kK_ => XS.iconst X0.here hx rfl (hb hby d5_45) kK_) ?_
          by_cases hc46_53 : k = (5 : Int32)
          · skip
            refine own_st (A := s₁.setTop (mkF mM 49 #[.val (.ref a), .val (.int k), .val (.long t2), .second] [])) (fun tT_ kK_ => XS.icmpNo X0.here hx rfl (hb hby d5_46) rfl (teq hc46_53).2 kK_) ?_
            refine own_st (A := s₁.setTop (mkF mM 50 #[.val (.ref a), .val (.int k), .val (.long t2), .second] [(.ref a)])) (fun tT_ kK_ => XS.aloadN X0.here hx rfl (hb hby d5_49) rfl rfl kK_) ?_
            obtain ⟨cq54, kq54, q54a, q54b, q54c⟩ := isOf hZ e0 ob.1
            obtain ⟨_, _, ⟨T54, L54, k54, n54⟩, -, X54, ⟨Lc54, hQ54, l54, y54, z54⟩, st54⟩ := X0.virtualBack hx (y := (⟨"com/example/libttl/libttl/SetOptions", "keepTtl", "()Lcom/example/libttl/libttl/SetOptions;"⟩ : MethodName)) (z := (⟨"com/example/libttl/libttl/SetOptions", "keepTtl", "()Lcom/example/libttl/libttl/SetOptions;"⟩ : MethodName)) hown (mvT hZ (hw _ (List.mem_of_getElem? (i := 66) rfl))) (mvT hZ (hw _ (List.mem_of_getElem? (i := 67) rfl))) (notFace_of_selects (args := #[]) (mvT hZ (hw _ (List.mem_of_getElem? (i := 69) rfl)))) (mvT hZ (hw _ (List.mem_of_getElem? (i := 69) rfl))) (mvT hZ (hw _ (List.mem_of_getElem? (i := 68) rfl))) (by decide) (backOf (W := 0) (rmKt lL Z a0 hw [] a nx xx 0 tm h0 n0 Zn ob) hZ (hw _ (List.mem_of_getElem? (i := 70) rfl)) (hw _ (List.mem_of_getElem? (i := 2) rfl)) (by decide) (by decide)) q54a q54c (g := (mkF mM 50 #[.val (.ref a), .val (.int k), .val (.long t2), .second] [(.ref a)])) rfl (by rw [hml]; rfl) (Steps.refl _) (argsL := []) (rest := []) (lenOf pd__28_29Lcom_2fexample_2flibttl_2flibttl_2fSetOptions_3b rfl) rfl (by show 2 * 0 + _ ≤ _; exact Nat.le_of_eq rfl) (hb hby d5_50) (fun _ _ => ⟨rfl, e0, (by decide : 0 + 1 ≤ _), (by decide : 0 + 5 ≤ _)⟩)
            dsimp only [Pt.U, Pt.locs, Pt.cells, Pt.slots] at X54 l54 y54 z54 st54 hQ54
            subst l54 y54 z54
            obtain ⟨b54, rfl, N54q, E54, O54⟩ := hQ54
            have N54 := Fr.app N0 N54q
            have e54 : T54.heap = T54.heap := rfl
            refine own_st (A := T54.setTop (mkF mM 53 #[.val (.ref a), .val (.int k), .val (.long t2), .second] [(.ref b54)])) (fun tT_ kK_ => st54.trans kK_) ?_
            exact own_retA X54 hx hlk hret rfl rfl (hb hby d5_53) ⟨_, _, _, _, rfl, N54, E54, O54⟩ (by decide) (by decide)
          · skip
            refine own_st (A := s₁.setTop (mkF mM 54 #[.val (.ref a), .val (.int k), .val (.long t2), .second] [])) (fun tT_ kK_ => XS.icmpYes X0.here hx rfl (pc0 := 46) (pc' := 54) rfl (hb hby d5_46) rfl (feq hc46_53).2 (by decide) (by decide) kK_) ?_
            refine own_st (A := s₁.setTop (mkF mM 55 #[.val (.ref a), .val (.int k), .val (.long t2), .second] [(.ref a)])) (fun tT_ kK_ => XS.aloadN X0.here hx rfl (hb hby d5_54) rfl rfl kK_) ?_
            exact own_retA X0 hx hlk hret rfl rfl (hb hby d5_55) ⟨_, _, _, _, rfl, N0, own_ext_of_keep (by rw [e0]; exact Keep.refl h0 []), (by rw [e0]; exact ob)⟩ (by decide) (by decide)
theorem d8_0 : decode prog_44_method_13_code 0 = .ok (.iload_n 1, 1) := by decide +kernel
theorem d8_1 : decode prog_44_method_13_code 1 = .ok (.ifCond .eq 18, 3) := by decide +kernel
theorem d8_19 : decode prog_44_method_13_code 19 = .ok (.aload_n 0, 1) := by decide +kernel
theorem d8_20 : decode prog_44_method_13_code 20 = .ok (.getfield 16, 3) := by decide +kernel
theorem d8_23 : decode prog_44_method_13_code 23 = .ok (.ifCond .ne 7, 3) := by decide +kernel
theorem d8_26 : decode prog_44_method_13_code 26 = .ok (.iconst 1, 1) := by decide +kernel
theorem d8_27 : decode prog_44_method_13_code 27 = .ok (.goto 4, 3) := by decide +kernel
theorem d8_31 : decode prog_44_method_13_code 31 = .ok (.ireturn, 1) := by decide +kernel
theorem d8_30 : decode prog_44_method_13_code 30 = .ok (.iconst 0, 1) := by decide +kernel
theorem ef_rmAl0 (mM : MethodId) (a : Addr) (nx : Int32) (xx : Int32) (kt : Int32) (fm : Value) (tm : Int64) (r : Int32) : entryFrame mM #[(.ref a), (.int (0 : Int32))] 2 = mkF mM 0 #[.val (.ref a), .val (.int (0 : Int32))] [] := by first | (simp [entryFrame, mkF, argsToLocals, Value.category]; done) | rfl
set_option maxRecDepth 65536 in
set_option maxHeartbeats 40000000 in
theorem rmAl0 (lL : Launch) (Z : State) (a0 : Array Value) (hw : ∀ d ∈ tables_1, d.before a0 Z = true) (ws : List Jvm.Cond) (a : Addr) (nx : Int32) (xx : Int32) (kt : Int32) (fm : Value) (tm : Int64) (r : Int32) (h0 : Heap) (n0 : Nat) (ob : Obj Z h0 a nx xx kt fm tm) (r1 : xx = (0 : Int32) → r = 1) (r0 : ¬ xx = (0 : Int32) → r = 0) :
    MetFree lL (⟨"com/example/libttl/libttl/SetOptions", "allow", "(Z)Z"⟩ : MethodName) (head1 (Jvm.Cond.code (⟨"com/example/libttl/libttl/SetOptions", "allow", "(Z)Z"⟩ : MethodName) prog_44_method_13_code 2 (some .boolean) :: ws) ({ frames := 0, cells := 0, slots := 0, locals := 0 } : Room)) (fun as_ uU_ => as_ = #[(.ref a), (.int (0 : Int32))] ∧ Z.Warmed39 uU_.vm ∧ uU_.heap = h0) (fun _ _ _ _ _ => True) (fun _ uU_ oO_ uE_ => ∃ vV_ lL_, oO_ = .returned vV_ ∧ Qb r h0 n0 vV_ uE_.heap lL_ ∧ FrameEnd uU_ oO_ uE_ lL_ ({ frames := 0, cells := 0, slots := 0, locals := 0 } : Room).cells ({ frames := 0, cells := 0, slots := 0, locals := 0 } : Room).slots) := by
  refine MetFree.of_bodySF (plainFor_of_name pn_com_2fexample_2flibttl_2flibttl_2fSetOptions) hisR ?_
  intro pP eE sS mM args below meth cC s₁ Bd hml0 hP hK
  obtain ⟨rfl, hZ, hh⟩ := hP
  have hx := Bd.exec
  have hby := Bd.bytes
  have hml : cC.maxLocals = 2 := hml0
  have hown : sS.vm.findClass "com/example/libttl/libttl/SetOptions" = some mM.cls := findClass_of_methodNamed Bd.named
  have hnm := (name_of_methodNamed Bd.named Bd.method).1
  have hret := Bd.returns
  have hlk := BodyLoose.notSynchronized Bd
  have X0 : Stand pP lL eE ({ frames := 0, cells := 0, slots := 0, locals := 0 } : Room) sS mM #[(.ref a), (.int (0 : Int32))] below meth cC s₁ [] 0 0 := Stand.of_body Bd
  have e0 : s₁.heap = h0 := by rw [← hh, Bd.state]; rfl
  have N0 := Fr.nil n0
  show own_Go pP eE below sS (Qb r h0 n0) 0 0 (s₁.setTop (entryFrame mM #[(.ref a), (.int (0 : Int32))] 2))
  refine own_st (A := s₁.setTop (mkF mM 0 #[.val (.ref a), .val (.int (0 : Int32))] [])) (fun tT_ kK_ => castTop (ef_rmAl0 mM a nx xx kt fm tm r) kK_) ?_
  obtain ⟨E_a, F_a_nx, F_a_xx, F_a_keepTtl, F_a_form, F_a_time, -⟩ := ob
  refine own_st (A := s₁.setTop (mkF mM 1 #[.val (.ref a), .val (.int (0 : Int32))] [(.int (0 : Int32))])) (fun tT_ kK_ => XS.iloadN X0.here hx rfl (hb hby d8_0) rfl kK_) ?_
  refine own_st (A := s₁.setTop (mkF mM 19 #[.val (.ref a), .val (.int (0 : Int32))] [])) (fun tT_ kK_ => XS.ifYes X0.here hx rfl (pc0 := 1) (pc' := 19) rfl (hb hby d8_1) rfl ((if0 _ _).trans (teq (by decide : ((0 : Int32) = (0 : Int32)))).1) (by decide) (by decide) kK_) ?_
  refine own_st (A := s₁.setTop (mkF mM 20 #[.val (.ref a), .val (.int (0 : Int32))] [(.ref a)])) (fun tT_ kK_ => XS.aloadN X0.here hx rfl (hb hby d8_19) rfl rfl kK_) ?_
  obtain ⟨T55, X55, e55, st55⟩ := getF X0 hx hZ hown (host := "") (Or.inl (hw _ (List.mem_of_getElem? (i := 14) rfl))) Via.refl e0 F_a_xx (g := (mkF mM 20 #[.val (.ref a), .val (.int (0 : Int32))] [(.ref a)])) rfl rfl (hb hby d8_20)
  refine own_st (A := T55.setTop (mkF mM 23 #[.val (.ref a), .val (.int (0 : Int32))] [(.int xx)])) (fun tT_ kK_ => st55 tT_ kK_) ?_
  by_cases hc23_56 : xx = (0 : Int32)
  · skip
    refine own_st (A := T55.setTop (mkF mM 26 #[.val (.ref a), .val (.int (0 : Int32))] [])) (fun tT_ kK_ => XS.ifNo X55.here hx rfl (hb hby d8_23) rfl ((if0 _ _).trans (teq hc23_56).2) kK_) ?_
    refine own_st (A := T55.setTop (mkF mM 27 #[.val (.ref a), .val (.int (0 : Int32))] [(.int (1 : Int32))])) (fun tT_ kK_ => XS.iconst X55.here hx rfl (hb hby d8_26) kK_) ?_
    refine own_st (A := T55.setTop (mkF mM 31 #[.val (.ref a), .val (.int (0 : Int32))] [(.int (1 : Int32))])) (fun tT_ kK_ => XS.goto X55.here hx rfl (pc0 := 27) (pc' := 31) rfl (hb hby d8_27) (by decide) (by decide) kK_) ?_
    exact own_retN X55 hx hlk (t := .boolean) hret (by simp) (hb hby d8_31) (by rw [r1 hc23_56]; exact ⟨rfl, N0, e55⟩) (by decide) (by decide)
  · skip
    refine own_st (A := T55.setTop (mkF mM 30 #[.val (.ref a), .val (.int (0 : Int32))] [])) (fun tT_ kK_ => XS.ifYes X55.here hx rfl (pc0 := 23) (pc' := 30) rfl (hb hby d8_23) rfl ((if0 _ _).trans (feq hc23_56).2) (by decide) (by decide) kK_) ?_
    refine own_st (A := T55.setTop (mkF mM 31 #[.val (.ref a), .val (.int (0 : Int32))] [(.int (0 : Int32))])) (fun tT_ kK_ => XS.iconst X55.here hx rfl (hb hby d8_30) kK_) ?_
    exact own_retN X55 hx hlk (t := .boolean) hret (by simp) (hb hby d8_31) (by rw [r0 hc23_56]; exact ⟨rfl, N0, e55⟩) (by decide) (by decide)
theorem d8_4 : decode prog_44_method_13_code 4 = .ok (.aload_n 0, 1) := by decide +kernel
theorem d8_5 : decode prog_44_method_13_code 5 = .ok (.getfield 12, 3) := by decide +kernel
theorem d8_8 : decode prog_44_method_13_code 8 = .ok (.ifCond .ne 7, 3) := by decide +kernel
theorem d8_11 : decode prog_44_method_13_code 11 = .ok (.iconst 1, 1) := by decide +kernel
theorem d8_12 : decode prog_44_method_13_code 12 = .ok (.goto 19, 3) := by decide +kernel
theorem d8_15 : decode prog_44_method_13_code 15 = .ok (.iconst 0, 1) := by decide +kernel
theorem d8_16 : decode prog_44_method_13_code 16 = .ok (.goto 15, 3) := by decide +kernel
theorem ef_rmAl1 (mM : MethodId) (a : Addr) (nx : Int32) (xx : Int32) (kt : Int32) (fm : Value) (tm : Int64) (r : Int32) : entryFrame mM #[(.ref a), (.int (1 : Int32))] 2 = mkF mM 0 #[.val (.ref a), .val (.int (1 : Int32))] [] := by first | (simp [entryFrame, mkF, argsToLocals, Value.category]; done) | rfl
set_option maxRecDepth 65536 in
set_option maxHeartbeats 40000000 in
theorem rmAl1 (lL : Launch) (Z : State) (a0 : Array Value) (hw : ∀ d ∈ tables_1, d.before a0 Z = true) (ws : List Jvm.Cond) (a : Addr) (nx : Int32) (xx : Int32) (kt : Int32) (fm : Value) (tm : Int64) (r : Int32) (h0 : Heap) (n0 : Nat) (ob : Obj Z h0 a nx xx kt fm tm) (r1 : nx = (0 : Int32) → r = 1) (r0 : ¬ nx = (0 : Int32) → r = 0) :
    MetFree lL (⟨"com/example/libttl/libttl/SetOptions", "allow", "(Z)Z"⟩ : MethodName) (head1 (Jvm.Cond.code (⟨"com/example/libttl/libttl/SetOptions", "allow", "(Z)Z"⟩ : MethodName) prog_44_method_13_code 2 (some .boolean) :: ws) ({ frames := 0, cells := 0, slots := 0, locals := 0 } : Room)) (fun as_ uU_ => as_ = #[(.ref a), (.int (1 : Int32))] ∧ Z.Warmed39 uU_.vm ∧ uU_.heap = h0) (fun _ _ _ _ _ => True) (fun _ uU_ oO_ uE_ => ∃ vV_ lL_, oO_ = .returned vV_ ∧ Qb r h0 n0 vV_ uE_.heap lL_ ∧ FrameEnd uU_ oO_ uE_ lL_ ({ frames := 0, cells := 0, slots := 0, locals := 0 } : Room).cells ({ frames := 0, cells := 0, slots := 0, locals := 0 } : Room).slots) := by
  refine MetFree.of_bodySF (plainFor_of_name pn_com_2fexample_2flibttl_2flibttl_2fSetOptions) hisR ?_
  intro pP eE sS mM args below meth cC s₁ Bd hml0 hP hK
  obtain ⟨rfl, hZ, hh⟩ := hP
  have hx := Bd.exec
  have hby := Bd.bytes
  have hml : cC.maxLocals = 2 := hml0
  have hown : sS.vm.findClass "com/example/libttl/libttl/SetOptions" = some mM.cls := findClass_of_methodNamed Bd.named
  have hnm := (name_of_methodNamed Bd.named Bd.method).1
  have hret := Bd.returns
  have hlk := BodyLoose.notSynchronized Bd
  have X0 : Stand pP lL eE ({ frames := 0, cells := 0, slots := 0, locals := 0 } : Room) sS mM #[(.ref a), (.int (1 : Int32))] below meth cC s₁ [] 0 0 := Stand.of_body Bd
  have e0 : s₁.heap = h0 := by rw [← hh, Bd.state]; rfl
  have N0 := Fr.nil n0
  show own_Go pP eE below sS (Qb r h0 n0) 0 0 (s₁.setTop (entryFrame mM #[(.ref a), (.int (1 : Int32))] 2))
  refine own_st (A := s₁.setTop (mkF mM 0 #[.val (.ref a), .val (.int (1 : Int32))] [])) (fun tT_ kK_ => castTop (ef_rmAl1 mM a nx xx kt fm tm r) kK_) ?_
  obtain ⟨E_a, F_a_nx, F_a_xx, F_a_keepTtl, F_a_form, F_a_time, -⟩ := ob
  refine own_st (A := s₁.setTop (mkF mM 1 #[.val (.ref a), .val (.int (1 : Int32))] [(.int (1 : Int32))])) (fun tT_ kK_ => XS.iloadN X0.here hx rfl (hb hby d8_0) rfl kK_) ?_
  refine own_st (A := s₁.setTop (mkF mM 4 #[.val (.ref a), .val (.int (1 : Int32))] [])) (fun tT_ kK_ => XS.ifNo X0.here hx rfl (hb hby d8_1) rfl ((if0 _ _).trans (feq (by decide : ¬ ((1 : Int32) = (0 : Int32)))).1) kK_) ?_
  refine own_st (A := s₁.setTop (mkF mM 5 #[.val (.ref a), .val (.int (1 : Int32))] [(.ref a)])) (fun tT_ kK_ => XS.aloadN X0.here hx rfl (hb hby d8_4) rfl rfl kK_) ?_
  obtain ⟨T57, X57, e57, st57⟩ := getF X0 hx hZ hown (host := "") (Or.inl (hw _ (List.mem_of_getElem? (i := 12) rfl))) Via.refl e0 F_a_nx (g := (mkF mM 5 #[.val (.ref a), .val (.int (1 : Int32))] [(.ref a)])) rfl rfl (hb hby d8_5)
  refine own_st (A := T57.setTop (mkF mM 8 #[.val (.ref a), .val (.int (1 : Int32))] [(.int nx)])) (fun tT_ kK_ => st57 tT_ kK_) ?_
  by_cases hc8_58 : nx = (0 : Int32)
  · skip
    refine own_st (A := T57.setTop (mkF mM 11 #[.val (.ref a), .val (.int (1 : Int32))] [])) (fun tT_ kK_ => XS.ifNo X57.here hx rfl (hb hby d8_8) rfl ((if0 _ _).trans (teq hc8_58).2) kK_) ?_
    refine own_st (A := T57.setTop (mkF mM 12 #[.val (.ref a), .val (.int (1 : Int32))] [(.int (1 : Int32))])) (fun tT_ kK_ => XS.iconst X57.here hx rfl (hb hby d8_11) kK_) ?_
    refine own_st (A := T57.setTop (mkF mM 31 #[.val (.ref a), .val (.int (1 : Int32))] [(.int (1 : Int32))])) (fun tT_ kK_ => XS.goto X57.here hx rfl (pc0 := 12) (pc' := 31) rfl (hb hby d8_12) (by decide) (by decide) kK_) ?_
    exact own_retN X57 hx hlk (t := .boolean) hret (by simp) (hb hby d8_31) (by rw [r1 hc8_58]; exact ⟨rfl, N0, e57⟩) (by decide) (by decide)
  · skip
    refine own_st (A := T57.setTop (mkF mM 15 #[.val (.ref a), .val (.int (1 : Int32))] [])) (fun tT_ kK_ => XS.ifYes X57.here hx rfl (pc0 := 8) (pc' := 15) rfl (hb hby d8_8) rfl ((if0 _ _).trans (feq hc8_58).2) (by decide) (by decide) kK_) ?_
    refine own_st (A := T57.setTop (mkF mM 16 #[.val (.ref a), .val (.int (1 : Int32))] [(.int (0 : Int32))])) (fun tT_ kK_ => XS.iconst X57.here hx rfl (hb hby d8_15) kK_) ?_
    refine own_st (A := T57.setTop (mkF mM 31 #[.val (.ref a), .val (.int (1 : Int32))] [(.int (0 : Int32))])) (fun tT_ kK_ => XS.goto X57.here hx rfl (pc0 := 16) (pc' := 31) rfl (hb hby d8_16) (by decide) (by decide) kK_) ?_
    exact own_retN X57 hx hlk (t := .boolean) hret (by simp) (hb hby d8_31) (by rw [r0 hc8_58]; exact ⟨rfl, N0, e57⟩) (by decide) (by decide)
theorem pd__28Z_29Z : parseMethodDescriptor "(Z)Z" = some ⟨[.boolean], some .boolean⟩ := by decide +kernel
set_option maxRecDepth 65536 in
set_option maxHeartbeats 40000000 in
theorem J80 {pP : Program} {lL : Launch} {eE : Env} {sS : State} {mM : MethodId} {args : Array Value} {below : List Frame} {meth : Method} {cC : Code} {T0 : State} {locs : List Loc} {Z : State} {a0 : Array Value} {h0 : Heap} {n0 : Nat} (hw : ∀ d ∈ tables_1, d.before a0 Z = true) (X0 : Stand pP lL eE room_1 sS mM args below meth cC T0 locs 3 15) (hx : pP.tables.exec = Jvm.exec) (hZ : Z.Warmed39 sS.vm) (hby : cC.code = code) (hml : cC.maxLocals = 12) (hown : sS.vm.findClass "com/example/libttl/libttl/SetOptionsAllowPinLaw" = some mM.cls) (hlk : meth.locks = false) (hret : meth.sig.returnType = ret) (e0 : T0.heap = h0) (N0 : Fr n0 locs) (x0 : Int32) (x1 : Int32) (t2 : Int64) (c : Int32) (k : Int32) (p6 : Int32) (o : Addr) (nx' : Int32) (xx' : Int32) (kt : Int32) (fm : Value) (tm : Int64) (ob : Obj Z h0 o nx' xx' kt fm tm) (s1 : c = (1 : Int32) → nx' = 1 ∧ xx' = 0) (s2 : c = (2 : Int32) → nx' = 0 ∧ xx' = 1) (s0 : ¬ c = (1 : Int32) → ¬ c = (2 : Int32) → nx' = 0 ∧ xx' = 0) :
    own_Go pP eE below sS (QLaw n0) 16 128 (T0.setTop (mkF mM 80 #[.val (.int x0), .val (.int x1), .val (.long t2), .second, .val (.int c), .val (.int k), .val (.int p6), .val (.ref o), .unset, .unset, .unset, .unset] [])) := by
  refine own_st (A := T0.setTop (mkF mM 82 #[.val (.int x0), .val (.int x1), .val (.long t2), .second, .val (.int c), .val (.int k), .val (.int p6), .val (.ref o), .unset, .unset, .unset, .unset] [(.int c)])) (fun tT_ kK_ => XS.iload X0.here hx rfl (hb hby at_80) rfl kK_) ?_
  refine own_st (A := T0.setTop (mkF mM 83 #[.val (.int x0), .val (.int x1), .val (.long t2), .second, .val (.int c), .val (.int k), .val (.int p6), .val (.ref o), .unset, .unset, .unset, .unset] [(.int (1 : Int32)), (.int c)])) (fun tT_ kK_ => XS.iconst X0.here hx rfl (hb hby at_82) kK_) ?_
  by_cases hc83_59 : c = (1 : Int32)
  · skip
    refine own_st (A := T0.setTop (mkF mM 86 #[.val (.int x0), .val (.int x1), .val (.long t2), .second, .val (.int c), .val (.int k), .val (.int p6), .val (.ref o), .unset, .unset, .unset, .unset] [])) (fun tT_ kK_ => XS.icmpNo X0.here hx rfl (hb hby at_83) rfl (teq hc83_59).2 kK_) ?_
    refine own_st (A := T0.setTop (mkF mM 87 #[.val (.int x0), .val (.int x1), .val (.long t2), .second, .val (.int c), .val (.int k), .val (.int p6), .val (.ref o), .unset, .unset, .unset, .unset] [(.int (1 : Int32))])) (fun tT_ kK_ => XS.iconst X0.here hx rfl (hb hby at_86) kK_) ?_
    refine own_st (A := T0.setTop (mkF mM 91 #[.val (.int x0), .val (.int x1), .val (.long t2), .second, .val (.int c), .val (.int k), .val (.int p6), .val (.ref o), .unset, .unset, .unset, .unset] [(.int (1 : Int32))])) (fun tT_ kK_ => XS.goto X0.here hx rfl (pc0 := 87) (pc' := 91) rfl (hb hby at_87) (by decide) (by decide) kK_) ?_
    refine own_st (A := T0.setTop (mkF mM 93 #[.val (.int x0), .val (.int x1), .val (.long t2), .second, .val (.int c), .val (.int k), .val (.int p6), .val (.ref o), .val (.int (1 : Int32)), .unset, .unset, .unset] [])) (fun tT_ kK_ => XS.istore X0.here hx rfl (hb hby at_91) rfl (l' := #[.val (.int x0), .val (.int x1), .val (.long t2), .second, .val (.int c), .val (.int k), .val (.int p6), .val (.ref o), .val (.int (1 : Int32)), .unset, .unset, .unset]) rfl kK_) ?_
    refine own_st (A := T0.setTop (mkF mM 95 #[.val (.int x0), .val (.int x1), .val (.long t2), .second, .val (.int c), .val (.int k), .val (.int p6), .val (.ref o), .val (.int (1 : Int32)), .unset, .unset, .unset] [(.int c)])) (fun tT_ kK_ => XS.iload X0.here hx rfl (hb hby at_93) rfl kK_) ?_
    refine own_st (A := T0.setTop (mkF mM 96 #[.val (.int x0), .val (.int x1), .val (.long t2), .second, .val (.int c), .val (.int k), .val (.int p6), .val (.ref o), .val (.int (1 : Int32)), .unset, .unset, .unset] [(.int (2 : Int32)), (.int c)])) (fun tT_ kK_ => XS.iconst X0.here hx rfl (hb hby at_95) kK_) ?_
    refine own_st (A := T0.setTop (mkF mM 103 #[.val (.int x0), .val (.int x1), .val (.long t2), .second, .val (.int c), .val (.int k), .val (.int p6), .val (.ref o), .val (.int (1 : Int32)), .unset, .unset, .unset] [])) (fun tT_ kK_ => XS.icmpYes X0.here hx rfl (pc0 := 96) (pc' := 103) rfl (hb hby at_96) rfl (feq (fun q => absurd (hc83_59.symm.trans q) (by decide))).2 (by decide) (by decide) kK_) ?_
    refine own_st (A := T0.setTop (mkF mM 104 #[.val (.int x0), .val (.int x1), .val (.long t2), .second, .val (.int c), .val (.int k), .val (.int p6), .val (.ref o), .val (.int (1 : Int32)), .unset, .unset, .unset] [(.int (0 : Int32))])) (fun tT_ kK_ => XS.iconst X0.here hx rfl (hb hby at_103) kK_) ?_
    refine own_st (A := T0.setTop (mkF mM 106 #[.val (.int x0), .val (.int x1), .val (.long t2), .second, .val (.int c), .val (.int k), .val (.int p6), .val (.ref o), .val (.int (1 : Int32)), .val (.int (0 : Int32)), .unset, .unset] [])) (fun tT_ kK_ => XS.istore X0.here hx rfl (hb hby at_104) rfl (l' := #[.val (.int x0), .val (.int x1), .val (.long t2), .second, .val (.int c), .val (.int k), .val (.int p6), .val (.ref o), .val (.int (1 : Int32)), .val (.int (0 : Int32)), .unset, .unset]) rfl kK_) ?_
    refine own_st (A := T0.setTop (mkF mM 108 #[.val (.int x0), .val (.int x1), .val (.long t2), .second, .val (.int c), .val (.int k), .val (.int p6), .val (.ref o), .val (.int (1 : Int32)), .val (.int (0 : Int32)), .unset, .unset] [(.int (1 : Int32))])) (fun tT_ kK_ => XS.iload X0.here hx rfl (hb hby at_106) rfl kK_) ?_
    refine own_st (A := T0.setTop (mkF mM 111 #[.val (.int x0), .val (.int x1), .val (.long t2), .second, .val (.int c), .val (.int k), .val (.int p6), .val (.ref o), .val (.int (1 : Int32)), .val (.int (0 : Int32)), .unset, .unset] [])) (fun tT_ kK_ => XS.ifNo X0.here hx rfl (hb hby at_108) rfl ((if0 _ _).trans (feq (by decide : ¬ ((1 : Int32) = (0 : Int32)))).1) kK_) ?_
    refine own_st (A := T0.setTop (mkF mM 112 #[.val (.int x0), .val (.int x1), .val (.long t2), .second, .val (.int c), .val (.int k), .val (.int p6), .val (.ref o), .val (.int (1 : Int32)), .val (.int (0 : Int32)), .unset, .unset] [(.int (0 : Int32))])) (fun tT_ kK_ => XS.iconst X0.here hx rfl (hb hby at_111) kK_) ?_
    refine own_st (A := T0.setTop (mkF mM 114 #[.val (.int x0), .val (.int x1), .val (.long t2), .second, .val (.int c), .val (.int k), .val (.int p6), .val (.ref o), .val (.int (1 : Int32)), .val (.int (0 : Int32)), .val (.int (0 : Int32)), .unset] [])) (fun tT_ kK_ => XS.istore X0.here hx rfl (hb hby at_112) rfl (l' := #[.val (.int x0), .val (.int x1), .val (.long t2), .second, .val (.int c), .val (.int k), .val (.int p6), .val (.ref o), .val (.int (1 : Int32)), .val (.int (0 : Int32)), .val (.int (0 : Int32)), .unset]) rfl kK_) ?_
    refine own_st (A := T0.setTop (mkF mM 120 #[.val (.int x0), .val (.int x1), .val (.long t2), .second, .val (.int c), .val (.int k), .val (.int p6), .val (.ref o), .val (.int (1 : Int32)), .val (.int (0 : Int32)), .val (.int (0 : Int32)), .unset] [])) (fun tT_ kK_ => XS.goto X0.here hx rfl (pc0 := 114) (pc' := 120) rfl (hb hby at_114) (by decide) (by decide) kK_) ?_
    refine own_st (A := T0.setTop (mkF mM 122 #[.val (.int x0), .val (.int x1), .val (.long t2), .second, .val (.int c), .val (.int k), .val (.int p6), .val (.ref o), .val (.int (1 : Int32)), .val (.int (0 : Int32)), .val (.int (0 : Int32)), .unset] [(.int (0 : Int32))])) (fun tT_ kK_ => XS.iload X0.here hx rfl (hb hby at_120) rfl kK_) ?_
    refine own_st (A := T0.setTop (mkF mM 131 #[.val (.int x0), .val (.int x1), .val (.long t2), .second, .val (.int c), .val (.int k), .val (.int p6), .val (.ref o), .val (.int (1 : Int32)), .val (.int (0 : Int32)), .val (.int (0 : Int32)), .unset] [])) (fun tT_ kK_ => XS.ifYes X0.here hx rfl (pc0 := 122) (pc' := 131) rfl (hb hby at_122) rfl ((if0 _ _).trans (teq (by decide : ((0 : Int32) = (0 : Int32)))).1) (by decide) (by decide) kK_) ?_
    refine own_st (A := T0.setTop (mkF mM 132 #[.val (.int x0), .val (.int x1), .val (.long t2), .second, .val (.int c), .val (.int k), .val (.int p6), .val (.ref o), .val (.int (1 : Int32)), .val (.int (0 : Int32)), .val (.int (0 : Int32)), .unset] [(.int (1 : Int32))])) (fun tT_ kK_ => XS.iconst X0.here hx rfl (hb hby at_131) kK_) ?_
    refine own_st (A := T0.setTop (mkF mM 134 #[.val (.int x0), .val (.int x1), .val (.long t2), .second, .val (.int c), .val (.int k), .val (.int p6), .val (.ref o), .val (.int (1 : Int32)), .val (.int (0 : Int32)), .val (.int (0 : Int32)), .val (.int (1 : Int32))] [])) (fun tT_ kK_ => XS.istore X0.here hx rfl (hb hby at_132) rfl (l' := #[.val (.int x0), .val (.int x1), .val (.long t2), .second, .val (.int c), .val (.int k), .val (.int p6), .val (.ref o), .val (.int (1 : Int32)), .val (.int (0 : Int32)), .val (.int (0 : Int32)), .val (.int (1 : Int32))]) rfl kK_) ?_
    refine own_st (A := T0.setTop (mkF mM 136 #[.val (.int x0), .val (.int x1), .val (.long t2), .second, .val (.int c), .val (.int k), .val (.int p6), .val (.ref o), .val (.int (1 : Int32)), .val (.int (0 : Int32)), .val (.int (0 : Int32)), .val (.int (1 : Int32))] [(.ref o)])) (fun tT_ kK_ => XS.aload X0.here hx rfl (hb hby at_134) rfl rfl kK_) ?_
    refine own_st (A := T0.setTop (mkF mM 137 #[.val (.int x0), .val (.int x1), .val (.long t2), .second, .val (.int c), .val (.int k), .val (.int p6), .val (.ref o), .val (.int (1 : Int32)), .val (.int (0 : Int32)), .val (.int (0 : Int32)), .val (.int (1 : Int32))] [(.int (1 : Int32)), (.ref o)])) (fun tT_ kK_ => XS.iconst X0.here hx rfl (hb hby at_136) kK_) ?_
    obtain ⟨cq60, kq60, q60a, q60b, q60c⟩ := isOf hZ e0 ob.1
    obtain ⟨_, _, ⟨T60, L60, k60, n60⟩, -, X60, ⟨Lc60, hQ60, l60, y60, z60⟩, st60⟩ := X0.virtualBack hx (y := (⟨"com/example/libttl/libttl/SetOptions", "allow", "(Z)Z"⟩ : MethodName)) (z := (⟨"com/example/libttl/libttl/SetOptions", "allow", "(Z)Z"⟩ : MethodName)) hown (mvT hZ (hw _ (List.mem_of_getElem? (i := 42) rfl))) (mvT hZ (hw _ (List.mem_of_getElem? (i := 43) rfl))) (notFace_of_selects (args := #[]) (mvT hZ (hw _ (List.mem_of_getElem? (i := 45) rfl)))) (mvT hZ (hw _ (List.mem_of_getElem? (i := 45) rfl))) (mvT hZ (hw _ (List.mem_of_getElem? (i := 44) rfl))) (by decide) (backOf (W := 0) (rmAl1 lL Z a0 hw [] o nx' xx' kt fm tm 0 h0 n0 ob (fun q => absurd (q.symm.trans (s1 hc83_59).1) (by decide)) (fun _ => rfl)) hZ (hw _ (List.mem_of_getElem? (i := 46) rfl)) (hw _ (List.mem_of_getElem? (i := 2) rfl)) (by decide) (by decide)) q60a q60c (g := (mkF mM 137 #[.val (.int x0), .val (.int x1), .val (.long t2), .second, .val (.int c), .val (.int k), .val (.int p6), .val (.ref o), .val (.int (1 : Int32)), .val (.int (0 : Int32)), .val (.int (0 : Int32)), .val (.int (1 : Int32))] [(.int (1 : Int32)), (.ref o)])) rfl (by rw [hml]; rfl) (Steps.refl _) (argsL := [(.int (1 : Int32))]) (rest := []) (lenOf pd__28Z_29Z rfl) rfl (by show 2 * 0 + _ ≤ _; exact Nat.le_of_eq rfl) (hb hby at_137) (fun _ _ => ⟨rfl, e0, (by decide : 3 + 0 ≤ _), (by decide : 15 + 0 ≤ _)⟩)
    dsimp only [Pt.U, Pt.locs, Pt.cells, Pt.slots] at X60 l60 y60 z60 st60 hQ60
    subst l60 y60 z60
    obtain ⟨rfl, N60q, e60⟩ := hQ60
    have N60 := Fr.app N0 N60q
    refine own_st (A := T60.setTop (mkF mM 140 #[.val (.int x0), .val (.int x1), .val (.long t2), .second, .val (.int c), .val (.int k), .val (.int p6), .val (.ref o), .val (.int (1 : Int32)), .val (.int (0 : Int32)), .val (.int (0 : Int32)), .val (.int (1 : Int32))] [(.int (0 : Int32))])) (fun tT_ kK_ => st60.trans kK_) ?_
    refine own_st (A := T60.setTop (mkF mM 142 #[.val (.int x0), .val (.int x1), .val (.long t2), .second, .val (.int c), .val (.int k), .val (.int p6), .val (.ref o), .val (.int (1 : Int32)), .val (.int (0 : Int32)), .val (.int (0 : Int32)), .val (.int (1 : Int32))] [(.int (0 : Int32)), (.int (0 : Int32))])) (fun tT_ kK_ => XS.iload X60.here hx rfl (hb hby at_140) rfl kK_) ?_
    refine own_st (A := T60.setTop (mkF mM 145 #[.val (.int x0), .val (.int x1), .val (.long t2), .second, .val (.int c), .val (.int k), .val (.int p6), .val (.ref o), .val (.int (1 : Int32)), .val (.int (0 : Int32)), .val (.int (0 : Int32)), .val (.int (1 : Int32))] [])) (fun tT_ kK_ => XS.icmpNo X60.here hx rfl (hb hby at_142) rfl (teq (by decide : ((0 : Int32) = (0 : Int32)))).2 kK_) ?_
    refine own_st (A := T60.setTop (mkF mM 147 #[.val (.int x0), .val (.int x1), .val (.long t2), .second, .val (.int c), .val (.int k), .val (.int p6), .val (.ref o), .val (.int (1 : Int32)), .val (.int (0 : Int32)), .val (.int (0 : Int32)), .val (.int (1 : Int32))] [(.ref o)])) (fun tT_ kK_ => XS.aload X60.here hx rfl (hb hby at_145) rfl rfl kK_) ?_
    refine own_st (A := T60.setTop (mkF mM 148 #[.val (.int x0), .val (.int x1), .val (.long t2), .second, .val (.int c), .val (.int k), .val (.int p6), .val (.ref o), .val (.int (1 : Int32)), .val (.int (0 : Int32)), .val (.int (0 : Int32)), .val (.int (1 : Int32))] [(.int (0 : Int32)), (.ref o)])) (fun tT_ kK_ => XS.iconst X60.here hx rfl (hb hby at_147) kK_) ?_
    obtain ⟨cq61, kq61, q61a, q61b, q61c⟩ := isOf hZ e60 ob.1
    obtain ⟨_, _, ⟨T61, L61, k61, n61⟩, -, X61, ⟨Lc61, hQ61, l61, y61, z61⟩, st61⟩ := X60.virtualBack hx (y := (⟨"com/example/libttl/libttl/SetOptions", "allow", "(Z)Z"⟩ : MethodName)) (z := (⟨"com/example/libttl/libttl/SetOptions", "allow", "(Z)Z"⟩ : MethodName)) hown (mvT hZ (hw _ (List.mem_of_getElem? (i := 42) rfl))) (mvT hZ (hw _ (List.mem_of_getElem? (i := 43) rfl))) (notFace_of_selects (args := #[]) (mvT hZ (hw _ (List.mem_of_getElem? (i := 45) rfl)))) (mvT hZ (hw _ (List.mem_of_getElem? (i := 45) rfl))) (mvT hZ (hw _ (List.mem_of_getElem? (i := 44) rfl))) (by decide) (backOf (W := 0) (rmAl0 lL Z a0 hw [] o nx' xx' kt fm tm 1 h0 n0 ob (fun _ => rfl) (fun q => absurd (s1 hc83_59).2 q)) hZ (hw _ (List.mem_of_getElem? (i := 46) rfl)) (hw _ (List.mem_of_getElem? (i := 2) rfl)) (by decide) (by decide)) q61a q61c (g := (mkF mM 148 #[.val (.int x0), .val (.int x1), .val (.long t2), .second, .val (.int c), .val (.int k), .val (.int p6), .val (.ref o), .val (.int (1 : Int32)), .val (.int (0 : Int32)), .val (.int (0 : Int32)), .val (.int (1 : Int32))] [(.int (0 : Int32)), (.ref o)])) rfl (by rw [hml]; rfl) (Steps.refl _) (argsL := [(.int (0 : Int32))]) (rest := []) (lenOf pd__28Z_29Z rfl) rfl (by show 2 * 0 + _ ≤ _; exact Nat.le_of_eq rfl) (hb hby at_148) (fun _ _ => ⟨rfl, e60, (by decide : 3 + 0 ≤ _), (by decide : 15 + 0 ≤ _)⟩)
    dsimp only [Pt.U, Pt.locs, Pt.cells, Pt.slots] at X61 l61 y61 z61 st61 hQ61
    subst l61 y61 z61
    obtain ⟨rfl, N61q, e61⟩ := hQ61
    have N61 := Fr.app N60 N61q
    refine own_st (A := T61.setTop (mkF mM 151 #[.val (.int x0), .val (.int x1), .val (.long t2), .second, .val (.int c), .val (.int k), .val (.int p6), .val (.ref o), .val (.int (1 : Int32)), .val (.int (0 : Int32)), .val (.int (0 : Int32)), .val (.int (1 : Int32))] [(.int (1 : Int32))])) (fun tT_ kK_ => st61.trans kK_) ?_
    refine own_st (A := T61.setTop (mkF mM 153 #[.val (.int x0), .val (.int x1), .val (.long t2), .second, .val (.int c), .val (.int k), .val (.int p6), .val (.ref o), .val (.int (1 : Int32)), .val (.int (0 : Int32)), .val (.int (0 : Int32)), .val (.int (1 : Int32))] [(.int (1 : Int32)), (.int (1 : Int32))])) (fun tT_ kK_ => XS.iload X61.here hx rfl (hb hby at_151) rfl kK_) ?_
    refine own_st (A := T61.setTop (mkF mM 156 #[.val (.int x0), .val (.int x1), .val (.long t2), .second, .val (.int c), .val (.int k), .val (.int p6), .val (.ref o), .val (.int (1 : Int32)), .val (.int (0 : Int32)), .val (.int (0 : Int32)), .val (.int (1 : Int32))] [])) (fun tT_ kK_ => XS.icmpNo X61.here hx rfl (hb hby at_153) rfl (teq (by decide : ((1 : Int32) = (1 : Int32)))).2 kK_) ?_
    refine own_st (A := T61.setTop (mkF mM 157 #[.val (.int x0), .val (.int x1), .val (.long t2), .second, .val (.int c), .val (.int k), .val (.int p6), .val (.ref o), .val (.int (1 : Int32)), .val (.int (0 : Int32)), .val (.int (0 : Int32)), .val (.int (1 : Int32))] [(.int (1 : Int32))])) (fun tT_ kK_ => XS.iconst X61.here hx rfl (hb hby at_156) kK_) ?_
    refine own_st (A := T61.setTop (mkF mM 161 #[.val (.int x0), .val (.int x1), .val (.long t2), .second, .val (.int c), .val (.int k), .val (.int p6), .val (.ref o), .val (.int (1 : Int32)), .val (.int (0 : Int32)), .val (.int (0 : Int32)), .val (.int (1 : Int32))] [(.int (1 : Int32))])) (fun tT_ kK_ => XS.goto X61.here hx rfl (pc0 := 157) (pc' := 161) rfl (hb hby at_157) (by decide) (by decide) kK_) ?_
    exact own_retN X61 hx hlk (t := .boolean) hret (by simp) (hb hby at_161) ⟨rfl, N61⟩ (by decide) (by decide)
  · skip
    refine own_st (A := T0.setTop (mkF mM 90 #[.val (.int x0), .val (.int x1), .val (.long t2), .second, .val (.int c), .val (.int k), .val (.int p6), .val (.ref o), .unset, .unset, .unset, .unset] [])) (fun tT_ kK_ => XS.icmpYes X0.here hx rfl (pc0 := 83) (pc' := 90) rfl (hb hby at_83) rfl (feq hc83_59).2 (by decide) (by decide) kK_) ?_
    refine own_st (A := T0.setTop (mkF mM 91 #[.val (.int x0), .val (.int x1), .val (.long t2), .second, .val (.int c), .val (.int k), .val (.int p6), .val (.ref o), .unset, .unset, .unset, .unset] [(.int (0 : Int32))])) (fun tT_ kK_ => XS.iconst X0.here hx rfl (hb hby at_90) kK_) ?_
    refine own_st (A := T0.setTop (mkF mM 93 #[.val (.int x0), .val (.int x1), .val (.long t2), .second, .val (.int c), .val (.int k), .val (.int p6), .val (.ref o), .val (.int (0 : Int32)), .unset, .unset, .unset] [])) (fun tT_ kK_ => XS.istore X0.here hx rfl (hb hby at_91) rfl (l' := #[.val (.int x0), .val (.int x1), .val (.long t2), .second, .val (.int c), .val (.int k), .val (.int p6), .val (.ref o), .val (.int (0 : Int32)), .unset, .unset, .unset]) rfl kK_) ?_
    refine own_st (A := T0.setTop (mkF mM 95 #[.val (.int x0), .val (.int x1), .val (.long t2), .second, .val (.int c), .val (.int k), .val (.int p6), .val (.ref o), .val (.int (0 : Int32)), .unset, .unset, .unset] [(.int c)])) (fun tT_ kK_ => XS.iload X0.here hx rfl (hb hby at_93) rfl kK_) ?_
    refine own_st (A := T0.setTop (mkF mM 96 #[.val (.int x0), .val (.int x1), .val (.long t2), .second, .val (.int c), .val (.int k), .val (.int p6), .val (.ref o), .val (.int (0 : Int32)), .unset, .unset, .unset] [(.int (2 : Int32)), (.int c)])) (fun tT_ kK_ => XS.iconst X0.here hx rfl (hb hby at_95) kK_) ?_
    by_cases hc96_62 : c = (2 : Int32)
    · skip
      refine own_st (A := T0.setTop (mkF mM 99 #[.val (.int x0), .val (.int x1), .val (.long t2), .second, .val (.int c), .val (.int k), .val (.int p6), .val (.ref o), .val (.int (0 : Int32)), .unset, .unset, .unset] [])) (fun tT_ kK_ => XS.icmpNo X0.here hx rfl (hb hby at_96) rfl (teq hc96_62).2 kK_) ?_
      refine own_st (A := T0.setTop (mkF mM 100 #[.val (.int x0), .val (.int x1), .val (.long t2), .second, .val (.int c), .val (.int k), .val (.int p6), .val (.ref o), .val (.int (0 : Int32)), .unset, .unset, .unset] [(.int (1 : Int32))])) (fun tT_ kK_ => XS.iconst X0.here hx rfl (hb hby at_99) kK_) ?_
      refine own_st (A := T0.setTop (mkF mM 104 #[.val (.int x0), .val (.int x1), .val (.long t2), .second, .val (.int c), .val (.int k), .val (.int p6), .val (.ref o), .val (.int (0 : Int32)), .unset, .unset, .unset] [(.int (1 : Int32))])) (fun tT_ kK_ => XS.goto X0.here hx rfl (pc0 := 100) (pc' := 104) rfl (hb hby at_100) (by decide) (by decide) kK_) ?_
      refine own_st (A := T0.setTop (mkF mM 106 #[.val (.int x0), .val (.int x1), .val (.long t2), .second, .val (.int c), .val (.int k), .val (.int p6), .val (.ref o), .val (.int (0 : Int32)), .val (.int (1 : Int32)), .unset, .unset] [])) (fun tT_ kK_ => XS.istore X0.here hx rfl (hb hby at_104) rfl (l' := #[.val (.int x0), .val (.int x1), .val (.long t2), .second, .val (.int c), .val (.int k), .val (.int p6), .val (.ref o), .val (.int (0 : Int32)), .val (.int (1 : Int32)), .unset, .unset]) rfl kK_) ?_
      refine own_st (A := T0.setTop (mkF mM 108 #[.val (.int x0), .val (.int x1), .val (.long t2), .second, .val (.int c), .val (.int k), .val (.int p6), .val (.ref o), .val (.int (0 : Int32)), .val (.int (1 : Int32)), .unset, .unset] [(.int (0 : Int32))])) (fun tT_ kK_ => XS.iload X0.here hx rfl (hb hby at_106) rfl kK_) ?_
      refine own_st (A := T0.setTop (mkF mM 117 #[.val (.int x0), .val (.int x1), .val (.long t2), .second, .val (.int c), .val (.int k), .val (.int p6), .val (.ref o), .val (.int (0 : Int32)), .val (.int (1 : Int32)), .unset, .unset] [])) (fun tT_ kK_ => XS.ifYes X0.here hx rfl (pc0 := 108) (pc' := 117) rfl (hb hby at_108) rfl ((if0 _ _).trans (teq (by decide : ((0 : Int32) = (0 : Int32)))).1) (by decide) (by decide) kK_) ?_
      refine own_st (A := T0.setTop (mkF mM 118 #[.val (.int x0), .val (.int x1), .val (.long t2), .second, .val (.int c), .val (.int k), .val (.int p6), .val (.ref o), .val (.int (0 : Int32)), .val (.int (1 : Int32)), .unset, .unset] [(.int (1 : Int32))])) (fun tT_ kK_ => XS.iconst X0.here hx rfl (hb hby at_117) kK_) ?_
      refine own_st (A := T0.setTop (mkF mM 120 #[.val (.int x0), .val (.int x1), .val (.long t2), .second, .val (.int c), .val (.int k), .val (.int p6), .val (.ref o), .val (.int (0 : Int32)), .val (.int (1 : Int32)), .val (.int (1 : Int32)), .unset] [])) (fun tT_ kK_ => XS.istore X0.here hx rfl (hb hby at_118) rfl (l' := #[.val (.int x0), .val (.int x1), .val (.long t2), .second, .val (.int c), .val (.int k), .val (.int p6), .val (.ref o), .val (.int (0 : Int32)), .val (.int (1 : Int32)), .val (.int (1 : Int32)), .unset]) rfl kK_) ?_
      refine own_st (A := T0.setTop (mkF mM 122 #[.val (.int x0), .val (.int x1), .val (.long t2), .second, .val (.int c), .val (.int k), .val (.int p6), .val (.ref o), .val (.int (0 : Int32)), .val (.int (1 : Int32)), .val (.int (1 : Int32)), .unset] [(.int (1 : Int32))])) (fun tT_ kK_ => XS.iload X0.here hx rfl (hb hby at_120) rfl kK_) ?_
      refine own_st (A := T0.setTop (mkF mM 125 #[.val (.int x0), .val (.int x1), .val (.long t2), .second, .val (.int c), .val (.int k), .val (.int p6), .val (.ref o), .val (.int (0 : Int32)), .val (.int (1 : Int32)), .val (.int (1 : Int32)), .unset] [])) (fun tT_ kK_ => XS.ifNo X0.here hx rfl (hb hby at_122) rfl ((if0 _ _).trans (feq (by decide : ¬ ((1 : Int32) = (0 : Int32)))).1) kK_) ?_
      refine own_st (A := T0.setTop (mkF mM 126 #[.val (.int x0), .val (.int x1), .val (.long t2), .second, .val (.int c), .val (.int k), .val (.int p6), .val (.ref o), .val (.int (0 : Int32)), .val (.int (1 : Int32)), .val (.int (1 : Int32)), .unset] [(.int (0 : Int32))])) (fun tT_ kK_ => XS.iconst X0.here hx rfl (hb hby at_125) kK_) ?_
      refine own_st (A := T0.setTop (mkF mM 128 #[.val (.int x0), .val (.int x1), .val (.long t2), .second, .val (.int c), .val (.int k), .val (.int p6), .val (.ref o), .val (.int (0 : Int32)), .val (.int (1 : Int32)), .val (.int (1 : Int32)), .val (.int (0 : Int32))] [])) (fun tT_ kK_ => XS.istore X0.here hx rfl (hb hby at_126) rfl (l' := #[.val (.int x0), .val (.int x1), .val (.long t2), .second, .val (.int c), .val (.int k), .val (.int p6), .val (.ref o), .val (.int (0 : Int32)), .val (.int (1 : Int32)), .val (.int (1 : Int32)), .val (.int (0 : Int32))]) rfl kK_) ?_
      refine own_st (A := T0.setTop (mkF mM 134 #[.val (.int x0), .val (.int x1), .val (.long t2), .second, .val (.int c), .val (.int k), .val (.int p6), .val (.ref o), .val (.int (0 : Int32)), .val (.int (1 : Int32)), .val (.int (1 : Int32)), .val (.int (0 : Int32))] [])) (fun tT_ kK_ => XS.goto X0.here hx rfl (pc0 := 128) (pc' := 134) rfl (hb hby at_128) (by decide) (by decide) kK_) ?_
      refine own_st (A := T0.setTop (mkF mM 136 #[.val (.int x0), .val (.int x1), .val (.long t2), .second, .val (.int c), .val (.int k), .val (.int p6), .val (.ref o), .val (.int (0 : Int32)), .val (.int (1 : Int32)), .val (.int (1 : Int32)), .val (.int (0 : Int32))] [(.ref o)])) (fun tT_ kK_ => XS.aload X0.here hx rfl (hb hby at_134) rfl rfl kK_) ?_
      refine own_st (A := T0.setTop (mkF mM 137 #[.val (.int x0), .val (.int x1), .val (.long t2), .second, .val (.int c), .val (.int k), .val (.int p6), .val (.ref o), .val (.int (0 : Int32)), .val (.int (1 : Int32)), .val (.int (1 : Int32)), .val (.int (0 : Int32))] [(.int (1 : Int32)), (.ref o)])) (fun tT_ kK_ => XS.iconst X0.here hx rfl (hb hby at_136) kK_) ?_
      obtain ⟨cq63, kq63, q63a, q63b, q63c⟩ := isOf hZ e0 ob.1
      obtain ⟨_, _, ⟨T63, L63, k63, n63⟩, -, X63, ⟨Lc63, hQ63, l63, y63, z63⟩, st63⟩ := X0.virtualBack hx (y := (⟨"com/example/libttl/libttl/SetOptions", "allow", "(Z)Z"⟩ : MethodName)) (z := (⟨"com/example/libttl/libttl/SetOptions", "allow", "(Z)Z"⟩ : MethodName)) hown (mvT hZ (hw _ (List.mem_of_getElem? (i := 42) rfl))) (mvT hZ (hw _ (List.mem_of_getElem? (i := 43) rfl))) (notFace_of_selects (args := #[]) (mvT hZ (hw _ (List.mem_of_getElem? (i := 45) rfl)))) (mvT hZ (hw _ (List.mem_of_getElem? (i := 45) rfl))) (mvT hZ (hw _ (List.mem_of_getElem? (i := 44) rfl))) (by decide) (backOf (W := 0) (rmAl1 lL Z a0 hw [] o nx' xx' kt fm tm 1 h0 n0 ob (fun _ => rfl) (fun q => absurd (s2 hc96_62).1 q)) hZ (hw _ (List.mem_of_getElem? (i := 46) rfl)) (hw _ (List.mem_of_getElem? (i := 2) rfl)) (by decide) (by decide)) q63a q63c (g := (mkF mM 137 #[.val (.int x0), .val (.int x1), .val (.long t2), .second, .val (.int c), .val (.int k), .val (.int p6), .val (.ref o), .val (.int (0 : Int32)), .val (.int (1 : Int32)), .val (.int (1 : Int32)), .val (.int (0 : Int32))] [(.int (1 : Int32)), (.ref o)])) rfl (by rw [hml]; rfl) (Steps.refl _) (argsL := [(.int (1 : Int32))]) (rest := []) (lenOf pd__28Z_29Z rfl) rfl (by show 2 * 0 + _ ≤ _; exact Nat.le_of_eq rfl) (hb hby at_137) (fun _ _ => ⟨rfl, e0, (by decide : 3 + 0 ≤ _), (by decide : 15 + 0 ≤ _)⟩)
      dsimp only [Pt.U, Pt.locs, Pt.cells, Pt.slots] at X63 l63 y63 z63 st63 hQ63
      subst l63 y63 z63
      obtain ⟨rfl, N63q, e63⟩ := hQ63
      have N63 := Fr.app N0 N63q
      refine own_st (A := T63.setTop (mkF mM 140 #[.val (.int x0), .val (.int x1), .val (.long t2), .second, .val (.int c), .val (.int k), .val (.int p6), .val (.ref o), .val (.int (0 : Int32)), .val (.int (1 : Int32)), .val (.int (1 : Int32)), .val (.int (0 : Int32))] [(.int (1 : Int32))])) (fun tT_ kK_ => st63.trans kK_) ?_
      refine own_st (A := T63.setTop (mkF mM 142 #[.val (.int x0), .val (.int x1), .val (.long t2), .second, .val (.int c), .val (.int k), .val (.int p6), .val (.ref o), .val (.int (0 : Int32)), .val (.int (1 : Int32)), .val (.int (1 : Int32)), .val (.int (0 : Int32))] [(.int (1 : Int32)), (.int (1 : Int32))])) (fun tT_ kK_ => XS.iload X63.here hx rfl (hb hby at_140) rfl kK_) ?_
      refine own_st (A := T63.setTop (mkF mM 145 #[.val (.int x0), .val (.int x1), .val (.long t2), .second, .val (.int c), .val (.int k), .val (.int p6), .val (.ref o), .val (.int (0 : Int32)), .val (.int (1 : Int32)), .val (.int (1 : Int32)), .val (.int (0 : Int32))] [])) (fun tT_ kK_ => XS.icmpNo X63.here hx rfl (hb hby at_142) rfl (teq (by decide : ((1 : Int32) = (1 : Int32)))).2 kK_) ?_
      refine own_st (A := T63.setTop (mkF mM 147 #[.val (.int x0), .val (.int x1), .val (.long t2), .second, .val (.int c), .val (.int k), .val (.int p6), .val (.ref o), .val (.int (0 : Int32)), .val (.int (1 : Int32)), .val (.int (1 : Int32)), .val (.int (0 : Int32))] [(.ref o)])) (fun tT_ kK_ => XS.aload X63.here hx rfl (hb hby at_145) rfl rfl kK_) ?_
      refine own_st (A := T63.setTop (mkF mM 148 #[.val (.int x0), .val (.int x1), .val (.long t2), .second, .val (.int c), .val (.int k), .val (.int p6), .val (.ref o), .val (.int (0 : Int32)), .val (.int (1 : Int32)), .val (.int (1 : Int32)), .val (.int (0 : Int32))] [(.int (0 : Int32)), (.ref o)])) (fun tT_ kK_ => XS.iconst X63.here hx rfl (hb hby at_147) kK_) ?_
      obtain ⟨cq64, kq64, q64a, q64b, q64c⟩ := isOf hZ e63 ob.1
      obtain ⟨_, _, ⟨T64, L64, k64, n64⟩, -, X64, ⟨Lc64, hQ64, l64, y64, z64⟩, st64⟩ := X63.virtualBack hx (y := (⟨"com/example/libttl/libttl/SetOptions", "allow", "(Z)Z"⟩ : MethodName)) (z := (⟨"com/example/libttl/libttl/SetOptions", "allow", "(Z)Z"⟩ : MethodName)) hown (mvT hZ (hw _ (List.mem_of_getElem? (i := 42) rfl))) (mvT hZ (hw _ (List.mem_of_getElem? (i := 43) rfl))) (notFace_of_selects (args := #[]) (mvT hZ (hw _ (List.mem_of_getElem? (i := 45) rfl)))) (mvT hZ (hw _ (List.mem_of_getElem? (i := 45) rfl))) (mvT hZ (hw _ (List.mem_of_getElem? (i := 44) rfl))) (by decide) (backOf (W := 0) (rmAl0 lL Z a0 hw [] o nx' xx' kt fm tm 0 h0 n0 ob (fun q => absurd (q.symm.trans (s2 hc96_62).2) (by decide)) (fun _ => rfl)) hZ (hw _ (List.mem_of_getElem? (i := 46) rfl)) (hw _ (List.mem_of_getElem? (i := 2) rfl)) (by decide) (by decide)) q64a q64c (g := (mkF mM 148 #[.val (.int x0), .val (.int x1), .val (.long t2), .second, .val (.int c), .val (.int k), .val (.int p6), .val (.ref o), .val (.int (0 : Int32)), .val (.int (1 : Int32)), .val (.int (1 : Int32)), .val (.int (0 : Int32))] [(.int (0 : Int32)), (.ref o)])) rfl (by rw [hml]; rfl) (Steps.refl _) (argsL := [(.int (0 : Int32))]) (rest := []) (lenOf pd__28Z_29Z rfl) rfl (by show 2 * 0 + _ ≤ _; exact Nat.le_of_eq rfl) (hb hby at_148) (fun _ _ => ⟨rfl, e63, (by decide : 3 + 0 ≤ _), (by decide : 15 + 0 ≤ _)⟩)
      dsimp only [Pt.U, Pt.locs, Pt.cells, Pt.slots] at X64 l64 y64 z64 st64 hQ64
      subst l64 y64 z64
      obtain ⟨rfl, N64q, e64⟩ := hQ64
      have N64 := Fr.app N63 N64q
      refine own_st (A := T64.setTop (mkF mM 151 #[.val (.int x0), .val (.int x1), .val (.long t2), .second, .val (.int c), .val (.int k), .val (.int p6), .val (.ref o), .val (.int (0 : Int32)), .val (.int (1 : Int32)), .val (.int (1 : Int32)), .val (.int (0 : Int32))] [(.int (0 : Int32))])) (fun tT_ kK_ => st64.trans kK_) ?_
      refine own_st (A := T64.setTop (mkF mM 153 #[.val (.int x0), .val (.int x1), .val (.long t2), .second, .val (.int c), .val (.int k), .val (.int p6), .val (.ref o), .val (.int (0 : Int32)), .val (.int (1 : Int32)), .val (.int (1 : Int32)), .val (.int (0 : Int32))] [(.int (0 : Int32)), (.int (0 : Int32))])) (fun tT_ kK_ => XS.iload X64.here hx rfl (hb hby at_151) rfl kK_) ?_
      refine own_st (A := T64.setTop (mkF mM 156 #[.val (.int x0), .val (.int x1), .val (.long t2), .second, .val (.int c), .val (.int k), .val (.int p6), .val (.ref o), .val (.int (0 : Int32)), .val (.int (1 : Int32)), .val (.int (1 : Int32)), .val (.int (0 : Int32))] [])) (fun tT_ kK_ => XS.icmpNo X64.here hx rfl (hb hby at_153) rfl (teq (by decide : ((0 : Int32) = (0 : Int32)))).2 kK_) ?_
      refine own_st (A := T64.setTop (mkF mM 157 #[.val (.int x0), .val (.int x1), .val (.long t2), .second, .val (.int c), .val (.int k), .val (.int p6), .val (.ref o), .val (.int (0 : Int32)), .val (.int (1 : Int32)), .val (.int (1 : Int32)), .val (.int (0 : Int32))] [(.int (1 : Int32))])) (fun tT_ kK_ => XS.iconst X64.here hx rfl (hb hby at_156) kK_) ?_
      refine own_st (A := T64.setTop (mkF mM 161 #[.val (.int x0), .val (.int x1), .val (.long t2), .second, .val (.int c), .val (.int k), .val (.int p6), .val (.ref o), .val (.int (0 : Int32)), .val (.int (1 : Int32)), .val (.int (1 : Int32)), .val (.int (0 : Int32))] [(.int (1 : Int32))])) (fun tT_ kK_ => XS.goto X64.here hx rfl (pc0 := 157) (pc' := 161) rfl (hb hby at_157) (by decide) (by decide) kK_) ?_
      exact own_retN X64 hx hlk (t := .boolean) hret (by simp) (hb hby at_161) ⟨rfl, N64⟩ (by decide) (by decide)
    · skip
      refine own_st (A := T0.setTop (mkF mM 103 #[.val (.int x0), .val (.int x1), .val (.long t2), .second, .val (.int c), .val (.int k), .val (.int p6), .val (.ref o), .val (.int (0 : Int32)), .unset, .unset, .unset] [])) (fun tT_ kK_ => XS.icmpYes X0.here hx rfl (pc0 := 96) (pc' := 103) rfl (hb hby at_96) rfl (feq hc96_62).2 (by decide) (by decide) kK_) ?_
      refine own_st (A := T0.setTop (mkF mM 104 #[.val (.int x0), .val (.int x1), .val (.long t2), .second, .val (.int c), .val (.int k), .val (.int p6), .val (.ref o), .val (.int (0 : Int32)), .unset, .unset, .unset] [(.int (0 : Int32))])) (fun tT_ kK_ => XS.iconst X0.here hx rfl (hb hby at_103) kK_) ?_
      refine own_st (A := T0.setTop (mkF mM 106 #[.val (.int x0), .val (.int x1), .val (.long t2), .second, .val (.int c), .val (.int k), .val (.int p6), .val (.ref o), .val (.int (0 : Int32)), .val (.int (0 : Int32)), .unset, .unset] [])) (fun tT_ kK_ => XS.istore X0.here hx rfl (hb hby at_104) rfl (l' := #[.val (.int x0), .val (.int x1), .val (.long t2), .second, .val (.int c), .val (.int k), .val (.int p6), .val (.ref o), .val (.int (0 : Int32)), .val (.int (0 : Int32)), .unset, .unset]) rfl kK_) ?_
      refine own_st (A := T0.setTop (mkF mM 108 #[.val (.int x0), .val (.int x1), .val (.long t2), .second, .val (.int c), .val (.int k), .val (.int p6), .val (.ref o), .val (.int (0 : Int32)), .val (.int (0 : Int32)), .unset, .unset] [(.int (0 : Int32))])) (fun tT_ kK_ => XS.iload X0.here hx rfl (hb hby at_106) rfl kK_) ?_
      refine own_st (A := T0.setTop (mkF mM 117 #[.val (.int x0), .val (.int x1), .val (.long t2), .second, .val (.int c), .val (.int k), .val (.int p6), .val (.ref o), .val (.int (0 : Int32)), .val (.int (0 : Int32)), .unset, .unset] [])) (fun tT_ kK_ => XS.ifYes X0.here hx rfl (pc0 := 108) (pc' := 117) rfl (hb hby at_108) rfl ((if0 _ _).trans (teq (by decide : ((0 : Int32) = (0 : Int32)))).1) (by decide) (by decide) kK_) ?_
      refine own_st (A := T0.setTop (mkF mM 118 #[.val (.int x0), .val (.int x1), .val (.long t2), .second, .val (.int c), .val (.int k), .val (.int p6), .val (.ref o), .val (.int (0 : Int32)), .val (.int (0 : Int32)), .unset, .unset] [(.int (1 : Int32))])) (fun tT_ kK_ => XS.iconst X0.here hx rfl (hb hby at_117) kK_) ?_
      refine own_st (A := T0.setTop (mkF mM 120 #[.val (.int x0), .val (.int x1), .val (.long t2), .second, .val (.int c), .val (.int k), .val (.int p6), .val (.ref o), .val (.int (0 : Int32)), .val (.int (0 : Int32)), .val (.int (1 : Int32)), .unset] [])) (fun tT_ kK_ => XS.istore X0.here hx rfl (hb hby at_118) rfl (l' := #[.val (.int x0), .val (.int x1), .val (.long t2), .second, .val (.int c), .val (.int k), .val (.int p6), .val (.ref o), .val (.int (0 : Int32)), .val (.int (0 : Int32)), .val (.int (1 : Int32)), .unset]) rfl kK_) ?_
      refine own_st (A := T0.setTop (mkF mM 122 #[.val (.int x0), .val (.int x1), .val (.long t2), .second, .val (.int c), .val (.int k), .val (.int p6), .val (.ref o), .val (.int (0 : Int32)), .val (.int (0 : Int32)), .val (.int (1 : Int32)), .unset] [(.int (0 : Int32))])) (fun tT_ kK_ => XS.iload X0.here hx rfl (hb hby at_120) rfl kK_) ?_
      refine own_st (A := T0.setTop (mkF mM 131 #[.val (.int x0), .val (.int x1), .val (.long t2), .second, .val (.int c), .val (.int k), .val (.int p6), .val (.ref o), .val (.int (0 : Int32)), .val (.int (0 : Int32)), .val (.int (1 : Int32)), .unset] [])) (fun tT_ kK_ => XS.ifYes X0.here hx rfl (pc0 := 122) (pc' := 131) rfl (hb hby at_122) rfl ((if0 _ _).trans (teq (by decide : ((0 : Int32) = (0 : Int32)))).1) (by decide) (by decide) kK_) ?_
      refine own_st (A := T0.setTop (mkF mM 132 #[.val (.int x0), .val (.int x1), .val (.long t2), .second, .val (.int c), .val (.int k), .val (.int p6), .val (.ref o), .val (.int (0 : Int32)), .val (.int (0 : Int32)), .val (.int (1 : Int32)), .unset] [(.int (1 : Int32))])) (fun tT_ kK_ => XS.iconst X0.here hx rfl (hb hby at_131) kK_) ?_
      refine own_st (A := T0.setTop (mkF mM 134 #[.val (.int x0), .val (.int x1), .val (.long t2), .second, .val (.int c), .val (.int k), .val (.int p6), .val (.ref o), .val (.int (0 : Int32)), .val (.int (0 : Int32)), .val (.int (1 : Int32)), .val (.int (1 : Int32))] [])) (fun tT_ kK_ => XS.istore X0.here hx rfl (hb hby at_132) rfl (l' := #[.val (.int x0), .val (.int x1), .val (.long t2), .second, .val (.int c), .val (.int k), .val (.int p6), .val (.ref o), .val (.int (0 : Int32)), .val (.int (0 : Int32)), .val (.int (1 : Int32)), .val (.int (1 : Int32))]) rfl kK_) ?_
      refine own_st (A := T0.setTop (mkF mM 136 #[.val (.int x0), .val (.int x1), .val (.long t2), .second, .val (.int c), .val (.int k), .val (.int p6), .val (.ref o), .val (.int (0 : Int32)), .val (.int (0 : Int32)), .val (.int (1 : Int32)), .val (.int (1 : Int32))] [(.ref o)])) (fun tT_ kK_ => XS.aload X0.here hx rfl (hb hby at_134) rfl rfl kK_) ?_
      refine own_st (A := T0.setTop (mkF mM 137 #[.val (.int x0), .val (.int x1), .val (.long t2), .second, .val (.int c), .val (.int k), .val (.int p6), .val (.ref o), .val (.int (0 : Int32)), .val (.int (0 : Int32)), .val (.int (1 : Int32)), .val (.int (1 : Int32))] [(.int (1 : Int32)), (.ref o)])) (fun tT_ kK_ => XS.iconst X0.here hx rfl (hb hby at_136) kK_) ?_
      obtain ⟨cq65, kq65, q65a, q65b, q65c⟩ := isOf hZ e0 ob.1
      obtain ⟨_, _, ⟨T65, L65, k65, n65⟩, -, X65, ⟨Lc65, hQ65, l65, y65, z65⟩, st65⟩ := X0.virtualBack hx (y := (⟨"com/example/libttl/libttl/SetOptions", "allow", "(Z)Z"⟩ : MethodName)) (z := (⟨"com/example/libttl/libttl/SetOptions", "allow", "(Z)Z"⟩ : MethodName)) hown (mvT hZ (hw _ (List.mem_of_getElem? (i := 42) rfl))) (mvT hZ (hw _ (List.mem_of_getElem? (i := 43) rfl))) (notFace_of_selects (args := #[]) (mvT hZ (hw _ (List.mem_of_getElem? (i := 45) rfl)))) (mvT hZ (hw _ (List.mem_of_getElem? (i := 45) rfl))) (mvT hZ (hw _ (List.mem_of_getElem? (i := 44) rfl))) (by decide) (backOf (W := 0) (rmAl1 lL Z a0 hw [] o nx' xx' kt fm tm 1 h0 n0 ob (fun _ => rfl) (fun q => absurd (s0 hc83_59 hc96_62).1 q)) hZ (hw _ (List.mem_of_getElem? (i := 46) rfl)) (hw _ (List.mem_of_getElem? (i := 2) rfl)) (by decide) (by decide)) q65a q65c (g := (mkF mM 137 #[.val (.int x0), .val (.int x1), .val (.long t2), .second, .val (.int c), .val (.int k), .val (.int p6), .val (.ref o), .val (.int (0 : Int32)), .val (.int (0 : Int32)), .val (.int (1 : Int32)), .val (.int (1 : Int32))] [(.int (1 : Int32)), (.ref o)])) rfl (by rw [hml]; rfl) (Steps.refl _) (argsL := [(.int (1 : Int32))]) (rest := []) (lenOf pd__28Z_29Z rfl) rfl (by show 2 * 0 + _ ≤ _; exact Nat.le_of_eq rfl) (hb hby at_137) (fun _ _ => ⟨rfl, e0, (by decide : 3 + 0 ≤ _), (by decide : 15 + 0 ≤ _)⟩)
      dsimp only [Pt.U, Pt.locs, Pt.cells, Pt.slots] at X65 l65 y65 z65 st65 hQ65
      subst l65 y65 z65
      obtain ⟨rfl, N65q, e65⟩ := hQ65
      have N65 := Fr.app N0 N65q
      refine own_st (A := T65.setTop (mkF mM 140 #[.val (.int x0), .val (.int x1), .val (.long t2), .second, .val (.int c), .val (.int k), .val (.int p6), .val (.ref o), .val (.int (0 : Int32)), .val (.int (0 : Int32)), .val (.int (1 : Int32)), .val (.int (1 : Int32))] [(.int (1 : Int32))])) (fun tT_ kK_ => st65.trans kK_) ?_
      refine own_st (A := T65.setTop (mkF mM 142 #[.val (.int x0), .val (.int x1), .val (.long t2), .second, .val (.int c), .val (.int k), .val (.int p6), .val (.ref o), .val (.int (0 : Int32)), .val (.int (0 : Int32)), .val (.int (1 : Int32)), .val (.int (1 : Int32))] [(.int (1 : Int32)), (.int (1 : Int32))])) (fun tT_ kK_ => XS.iload X65.here hx rfl (hb hby at_140) rfl kK_) ?_
      refine own_st (A := T65.setTop (mkF mM 145 #[.val (.int x0), .val (.int x1), .val (.long t2), .second, .val (.int c), .val (.int k), .val (.int p6), .val (.ref o), .val (.int (0 : Int32)), .val (.int (0 : Int32)), .val (.int (1 : Int32)), .val (.int (1 : Int32))] [])) (fun tT_ kK_ => XS.icmpNo X65.here hx rfl (hb hby at_142) rfl (teq (by decide : ((1 : Int32) = (1 : Int32)))).2 kK_) ?_
      refine own_st (A := T65.setTop (mkF mM 147 #[.val (.int x0), .val (.int x1), .val (.long t2), .second, .val (.int c), .val (.int k), .val (.int p6), .val (.ref o), .val (.int (0 : Int32)), .val (.int (0 : Int32)), .val (.int (1 : Int32)), .val (.int (1 : Int32))] [(.ref o)])) (fun tT_ kK_ => XS.aload X65.here hx rfl (hb hby at_145) rfl rfl kK_) ?_
      refine own_st (A := T65.setTop (mkF mM 148 #[.val (.int x0), .val (.int x1), .val (.long t2), .second, .val (.int c), .val (.int k), .val (.int p6), .val (.ref o), .val (.int (0 : Int32)), .val (.int (0 : Int32)), .val (.int (1 : Int32)), .val (.int (1 : Int32))] [(.int (0 : Int32)), (.ref o)])) (fun tT_ kK_ => XS.iconst X65.here hx rfl (hb hby at_147) kK_) ?_
      obtain ⟨cq66, kq66, q66a, q66b, q66c⟩ := isOf hZ e65 ob.1
      obtain ⟨_, _, ⟨T66, L66, k66, n66⟩, -, X66, ⟨Lc66, hQ66, l66, y66, z66⟩, st66⟩ := X65.virtualBack hx (y := (⟨"com/example/libttl/libttl/SetOptions", "allow", "(Z)Z"⟩ : MethodName)) (z := (⟨"com/example/libttl/libttl/SetOptions", "allow", "(Z)Z"⟩ : MethodName)) hown (mvT hZ (hw _ (List.mem_of_getElem? (i := 42) rfl))) (mvT hZ (hw _ (List.mem_of_getElem? (i := 43) rfl))) (notFace_of_selects (args := #[]) (mvT hZ (hw _ (List.mem_of_getElem? (i := 45) rfl)))) (mvT hZ (hw _ (List.mem_of_getElem? (i := 45) rfl))) (mvT hZ (hw _ (List.mem_of_getElem? (i := 44) rfl))) (by decide) (backOf (W := 0) (rmAl0 lL Z a0 hw [] o nx' xx' kt fm tm 1 h0 n0 ob (fun _ => rfl) (fun q => absurd (s0 hc83_59 hc96_62).2 q)) hZ (hw _ (List.mem_of_getElem? (i := 46) rfl)) (hw _ (List.mem_of_getElem? (i := 2) rfl)) (by decide) (by decide)) q66a q66c (g := (mkF mM 148 #[.val (.int x0), .val (.int x1), .val (.long t2), .second, .val (.int c), .val (.int k), .val (.int p6), .val (.ref o), .val (.int (0 : Int32)), .val (.int (0 : Int32)), .val (.int (1 : Int32)), .val (.int (1 : Int32))] [(.int (0 : Int32)), (.ref o)])) rfl (by rw [hml]; rfl) (Steps.refl _) (argsL := [(.int (0 : Int32))]) (rest := []) (lenOf pd__28Z_29Z rfl) rfl (by show 2 * 0 + _ ≤ _; exact Nat.le_of_eq rfl) (hb hby at_148) (fun _ _ => ⟨rfl, e65, (by decide : 3 + 0 ≤ _), (by decide : 15 + 0 ≤ _)⟩)
      dsimp only [Pt.U, Pt.locs, Pt.cells, Pt.slots] at X66 l66 y66 z66 st66 hQ66
      subst l66 y66 z66
      obtain ⟨rfl, N66q, e66⟩ := hQ66
      have N66 := Fr.app N65 N66q
      refine own_st (A := T66.setTop (mkF mM 151 #[.val (.int x0), .val (.int x1), .val (.long t2), .second, .val (.int c), .val (.int k), .val (.int p6), .val (.ref o), .val (.int (0 : Int32)), .val (.int (0 : Int32)), .val (.int (1 : Int32)), .val (.int (1 : Int32))] [(.int (1 : Int32))])) (fun tT_ kK_ => st66.trans kK_) ?_
      refine own_st (A := T66.setTop (mkF mM 153 #[.val (.int x0), .val (.int x1), .val (.long t2), .second, .val (.int c), .val (.int k), .val (.int p6), .val (.ref o), .val (.int (0 : Int32)), .val (.int (0 : Int32)), .val (.int (1 : Int32)), .val (.int (1 : Int32))] [(.int (1 : Int32)), (.int (1 : Int32))])) (fun tT_ kK_ => XS.iload X66.here hx rfl (hb hby at_151) rfl kK_) ?_
      refine own_st (A := T66.setTop (mkF mM 156 #[.val (.int x0), .val (.int x1), .val (.long t2), .second, .val (.int c), .val (.int k), .val (.int p6), .val (.ref o), .val (.int (0 : Int32)), .val (.int (0 : Int32)), .val (.int (1 : Int32)), .val (.int (1 : Int32))] [])) (fun tT_ kK_ => XS.icmpNo X66.here hx rfl (hb hby at_153) rfl (teq (by decide : ((1 : Int32) = (1 : Int32)))).2 kK_) ?_
      refine own_st (A := T66.setTop (mkF mM 157 #[.val (.int x0), .val (.int x1), .val (.long t2), .second, .val (.int c), .val (.int k), .val (.int p6), .val (.ref o), .val (.int (0 : Int32)), .val (.int (0 : Int32)), .val (.int (1 : Int32)), .val (.int (1 : Int32))] [(.int (1 : Int32))])) (fun tT_ kK_ => XS.iconst X66.here hx rfl (hb hby at_156) kK_) ?_
      refine own_st (A := T66.setTop (mkF mM 161 #[.val (.int x0), .val (.int x1), .val (.long t2), .second, .val (.int c), .val (.int k), .val (.int p6), .val (.ref o), .val (.int (0 : Int32)), .val (.int (0 : Int32)), .val (.int (1 : Int32)), .val (.int (1 : Int32))] [(.int (1 : Int32))])) (fun tT_ kK_ => XS.goto X66.here hx rfl (pc0 := 157) (pc' := 161) rfl (hb hby at_157) (by decide) (by decide) kK_) ?_
      exact own_retN X66 hx hlk (t := .boolean) hret (by simp) (hb hby at_161) ⟨rfl, N66⟩ (by decide) (by decide)
theorem own_sel (c : Int32) : ∃ nx' xx' : Int32, (c = (1 : Int32) → nx' = 1 ∧ xx' = 0) ∧ (c = (2 : Int32) → nx' = 0 ∧ xx' = 1) ∧ (¬ c = (1 : Int32) → ¬ c = (2 : Int32) → nx' = 0 ∧ xx' = 0) := by
  by_cases q1 : c = (1 : Int32)
  · subst q1; exact ⟨1, 0, fun _ => ⟨rfl, rfl⟩, fun q => absurd q (by decide), fun q _ => absurd rfl q⟩
  · by_cases q2 : c = (2 : Int32)
    · subst q2; exact ⟨0, 1, fun q => absurd q (by decide), fun _ => ⟨rfl, rfl⟩, fun _ q => absurd rfl q⟩
    · exact ⟨0, 0, fun q => absurd q q1, fun q => absurd q q2, fun _ _ => ⟨rfl, rfl⟩⟩
theorem pd__28_29V : parseMethodDescriptor "()V" = some ⟨[], none⟩ := by decide +kernel
theorem pd__28Lcom_2fexample_2flibttl_2flibttl_2fSetOptions_3bI_29Lcom_2fexample_2flibttl_2flibttl_2fSetOptions_3b : parseMethodDescriptor "(Lcom/example/libttl/libttl/SetOptions;I)Lcom/example/libttl/libttl/SetOptions;" = some ⟨[(.object "com/example/libttl/libttl/SetOptions"), .int], some (.object "com/example/libttl/libttl/SetOptions")⟩ := by decide +kernel
theorem pd__28Lcom_2fexample_2flibttl_2flibttl_2fSetOptions_3bIJ_29Lcom_2fexample_2flibttl_2flibttl_2fSetOptions_3b : parseMethodDescriptor "(Lcom/example/libttl/libttl/SetOptions;IJ)Lcom/example/libttl/libttl/SetOptions;" = some ⟨[(.object "com/example/libttl/libttl/SetOptions"), .int, .long], some (.object "com/example/libttl/libttl/SetOptions")⟩ := by decide +kernel
set_option maxRecDepth 65536 in
set_option maxHeartbeats 40000000 in
theorem J23 {pP : Program} {lL : Launch} {eE : Env} {sS : State} {mM : MethodId} {args : Array Value} {below : List Frame} {meth : Method} {cC : Code} {T0 : State} {locs : List Loc} {Z : State} {a0 : Array Value} {h0 : Heap} {n0 : Nat} (hw : ∀ d ∈ tables_1, d.before a0 Z = true) (X0 : Stand pP lL eE room_1 sS mM args below meth cC T0 locs 0 0) (hx : pP.tables.exec = Jvm.exec) (hZ : Z.Warmed39 sS.vm) (hby : cC.code = code) (hml : cC.maxLocals = 12) (hown : sS.vm.findClass "com/example/libttl/libttl/SetOptionsAllowPinLaw" = some mM.cls) (hlk : meth.locks = false) (hret : meth.sig.returnType = ret) (e0 : T0.heap = h0) (N0 : Fr n0 locs) (x0 : Int32) (x1 : Int32) (t2 : Int64) (c : Int32) (k : Int32) (p6 : Int32) (u1 : Addr) (u2 : Addr) (u3 : Addr) (u4 : Addr) (O : Old Z n0 h0) (Zn : n0 ≤ h0.size) (S_u1 : Sta Z Z.heap "com/example/libttl/libttl/TimeForm" "SECONDS" "Lcom/example/libttl/libttl/TimeForm;" (.ref u1)) (S_u2 : Sta Z Z.heap "com/example/libttl/libttl/TimeForm" "MILLISECONDS" "Lcom/example/libttl/libttl/TimeForm;" (.ref u2)) (S_u3 : Sta Z Z.heap "com/example/libttl/libttl/TimeForm" "UNIX_SECONDS" "Lcom/example/libttl/libttl/TimeForm;" (.ref u3)) (S_u4 : Sta Z Z.heap "com/example/libttl/libttl/TimeForm" "UNIX_MILLISECONDS" "Lcom/example/libttl/libttl/TimeForm;" (.ref u4)) :
    own_Go pP eE below sS (QLaw n0) 16 128 (T0.setTop (mkF mM 23 #[.val (.int x0), .val (.int x1), .val (.long t2), .second, .val (.int c), .val (.int k), .unset, .unset, .unset, .unset, .unset, .unset] [(.int p6)])) := by
  obtain ⟨nx', xx', s1, s2, s0⟩ := own_sel c
  refine own_st (A := T0.setTop (mkF mM 25 #[.val (.int x0), .val (.int x1), .val (.long t2), .second, .val (.int c), .val (.int k), .val (.int p6), .unset, .unset, .unset, .unset, .unset] [])) (fun tT_ kK_ => XS.istore X0.here hx rfl (hb hby at_23) rfl (l' := #[.val (.int x0), .val (.int x1), .val (.long t2), .second, .val (.int c), .val (.int k), .val (.int p6), .unset, .unset, .unset, .unset, .unset]) rfl kK_) ?_
  obtain ⟨T67, h67, X67, e67, E67, A67, D67, -, st67⟩ := newO X0 hx hZ hown (hw _ (List.mem_of_getElem? (i := 0) rfl)) (hw _ (List.mem_of_getElem? (i := 1) rfl)) (hw _ (List.mem_of_getElem? (i := 2) rfl)) e0 (g := (mkF mM 25 #[.val (.int x0), .val (.int x1), .val (.long t2), .second, .val (.int c), .val (.int k), .val (.int p6), .unset, .unset, .unset, .unset, .unset] [])) rfl (hb hby at_25) (by decide) (by decide)
  obtain ⟨b67, g67⟩ : ∃ z, z = h0.size := ⟨_, rfl⟩
  rw [← g67] at A67 D67 st67
  have g_b67 : n0 ≤ b67 := Nat.le_trans Zn (Nat.le_of_eq g67.symm)
  have O := O.ext E67
  have Zn := Nat.le_trans Zn E67.1
  have E_b67 := A67
  have F_b67_nx : Fld Z h67 b67 "com/example/libttl/libttl/SetOptions" "nx" "Z" (.int (0 : Int32)) := D67 (Or.inr (hw _ (List.mem_of_getElem? (i := 13) rfl))) (ty := .boolean) (by decide)
  have F_b67_xx : Fld Z h67 b67 "com/example/libttl/libttl/SetOptions" "xx" "Z" (.int (0 : Int32)) := D67 (Or.inr (hw _ (List.mem_of_getElem? (i := 15) rfl))) (ty := .boolean) (by decide)
  have F_b67_keepTtl : Fld Z h67 b67 "com/example/libttl/libttl/SetOptions" "keepTtl" "Z" (.int (0 : Int32)) := D67 (Or.inr (hw _ (List.mem_of_getElem? (i := 17) rfl))) (ty := .boolean) (by decide)
  have F_b67_form : Fld Z h67 b67 "com/example/libttl/libttl/SetOptions" "form" "Lcom/example/libttl/libttl/TimeForm;" .null := D67 (Or.inr (hw _ (List.mem_of_getElem? (i := 19) rfl))) (ty := (.object "com/example/libttl/libttl/TimeForm")) (by decide)
  have F_b67_time : Fld Z h67 b67 "com/example/libttl/libttl/SetOptions" "time" "J" (.long (0 : Int64)) := D67 (Or.inr (hw _ (List.mem_of_getElem? (i := 21) rfl))) (ty := .long) (by decide)
  refine own_st (A := T67.setTop (mkF mM 28 #[.val (.int x0), .val (.int x1), .val (.long t2), .second, .val (.int c), .val (.int k), .val (.int p6), .unset, .unset, .unset, .unset, .unset] [(.ref b67)])) (fun tT_ kK_ => st67 tT_ kK_) ?_
  refine own_st (A := T67.setTop (mkF mM 29 #[.val (.int x0), .val (.int x1), .val (.long t2), .second, .val (.int c), .val (.int k), .val (.int p6), .unset, .unset, .unset, .unset, .unset] [(.ref b67), (.ref b67)])) (fun tT_ kK_ => XS.dup X67.here hx rfl (hb hby at_28) rfl rfl kK_) ?_
  obtain ⟨_, _, ⟨T68, L68, k68, n68⟩, -, X68, ⟨Lc68, hQ68, l68, y68, z68⟩, st68⟩ := X67.specialBack hx (y := (⟨"com/example/libttl/libttl/SetOptions", "<init>", "()V"⟩ : MethodName)) rfl hown (mvT hZ (hw _ (List.mem_of_getElem? (i := 3) rfl))) (mvT hZ (hw _ (List.mem_of_getElem? (i := 4) rfl))) (mvT hZ (hw _ (List.mem_of_getElem? (i := 5) rfl))) (by decide) (backOf (W := 1) (rmI0 lL Z a0 hw [] b67 h67 n0 g_b67 E_b67 F_b67_nx F_b67_xx F_b67_keepTtl F_b67_form F_b67_time) hZ (hw _ (List.mem_of_getElem? (i := 5) rfl)) (hw _ (List.mem_of_getElem? (i := 2) rfl)) (by decide) (by decide)) (g := (mkF mM 29 #[.val (.int x0), .val (.int x1), .val (.long t2), .second, .val (.int c), .val (.int k), .val (.int p6), .unset, .unset, .unset, .unset, .unset] [(.ref b67), (.ref b67)])) rfl (by rw [hml]; rfl) (Steps.refl _) (a := b67) (argsL := []) (rest := [(.ref b67)]) (lenOf pd__28_29V rfl) rfl (by show 2 * 0 + _ ≤ _; exact Nat.le_of_eq rfl) (hb hby at_29) (fun _ _ => ⟨rfl, e67, (by decide : 1 + 0 ≤ _), (by decide : 5 + 0 ≤ _)⟩)
  dsimp only [Pt.U, Pt.locs, Pt.cells, Pt.slots] at X68 l68 y68 z68 st68 hQ68
  subst l68 y68 z68
  obtain ⟨rfl, N68q, K68, ob⟩ := hQ68
  have N68 := Fr.app N0 N68q
  have e68 : T68.heap = T68.heap := rfl
  refine own_st (A := T68.setTop (mkF mM 32 #[.val (.int x0), .val (.int x1), .val (.long t2), .second, .val (.int c), .val (.int k), .val (.int p6), .unset, .unset, .unset, .unset, .unset] [(.ref b67)])) (fun tT_ kK_ => st68.trans kK_) ?_
  have E_b67 := E_b67.keep K68
  have O := O.keep K68 (allS g_b67 all0)
  have Zn := Nat.le_trans Zn K68.1
  refine own_st (A := T68.setTop (mkF mM 34 #[.val (.int x0), .val (.int x1), .val (.long t2), .second, .val (.int c), .val (.int k), .val (.int p6), .val (.ref b67), .unset, .unset, .unset, .unset] [])) (fun tT_ kK_ => XS.astore X68.here hx rfl (hb hby at_32) rfl rfl (l' := #[.val (.int x0), .val (.int x1), .val (.long t2), .second, .val (.int c), .val (.int k), .val (.int p6), .val (.ref b67), .unset, .unset, .unset, .unset]) rfl kK_) ?_
  refine own_st (A := T68.setTop (mkF mM 36 #[.val (.int x0), .val (.int x1), .val (.long t2), .second, .val (.int c), .val (.int k), .val (.int p6), .val (.ref b67), .unset, .unset, .unset, .unset] [(.int p6)])) (fun tT_ kK_ => XS.iload X68.here hx rfl (hb hby at_34) rfl kK_) ?_
  by_cases hc36_69 : p6 = (0 : Int32)
  · skip
    refine own_st (A := T68.setTop (mkF mM 61 #[.val (.int x0), .val (.int x1), .val (.long t2), .second, .val (.int c), .val (.int k), .val (.int p6), .val (.ref b67), .unset, .unset, .unset, .unset] [])) (fun tT_ kK_ => XS.ifYes X68.here hx rfl (pc0 := 36) (pc' := 61) rfl (hb hby at_36) rfl ((if0 _ _).trans (teq hc36_69).1) (by decide) (by decide) kK_) ?_
    refine own_st (A := T68.setTop (mkF mM 63 #[.val (.int x0), .val (.int x1), .val (.long t2), .second, .val (.int c), .val (.int k), .val (.int p6), .val (.ref b67), .unset, .unset, .unset, .unset] [(.ref b67)])) (fun tT_ kK_ => XS.aload X68.here hx rfl (hb hby at_61) rfl rfl kK_) ?_
    refine own_st (A := T68.setTop (mkF mM 65 #[.val (.int x0), .val (.int x1), .val (.long t2), .second, .val (.int c), .val (.int k), .val (.int p6), .val (.ref b67), .unset, .unset, .unset, .unset] [(.int c), (.ref b67)])) (fun tT_ kK_ => XS.iload X68.here hx rfl (hb hby at_63) rfl kK_) ?_
    obtain ⟨_, _, ⟨T70, L70, k70, n70⟩, -, X70, ⟨Lc70, hQ70, l70, y70, z70⟩, st70⟩ := Jvm.LawKit.callS X68 hx (y := (⟨"com/example/libttl/libttl/SetOptionsAllowPinLaw", "condOpt", "(Lcom/example/libttl/libttl/SetOptions;I)Lcom/example/libttl/libttl/SetOptions;"⟩ : MethodName)) hown (mvT hZ (hw _ (List.mem_of_getElem? (i := 22) rfl))) (mvT hZ (hw _ (List.mem_of_getElem? (i := 23) rfl))) (mvT hZ (hw _ (List.mem_of_getElem? (i := 24) rfl))) (mvT hZ (hw _ (List.mem_of_getElem? (i := 25) rfl))) (by decide) (backOf (W := 0) (rmCond lL Z a0 hw [] b67 c nx' xx' 0 .null 0 T68.heap n0 Zn ob s1 s2 s0) hZ (hw _ (List.mem_of_getElem? (i := 25) rfl)) (hw _ (List.mem_of_getElem? (i := 24) rfl)) (by decide) (by decide)) (g := (mkF mM 65 #[.val (.int x0), .val (.int x1), .val (.long t2), .second, .val (.int c), .val (.int k), .val (.int p6), .val (.ref b67), .unset, .unset, .unset, .unset] [(.int c), (.ref b67)])) rfl (by rw [hml]; rfl) (argsL := [(.ref b67), (.int c)]) (rest := []) (lenOf pd__28Lcom_2fexample_2flibttl_2flibttl_2fSetOptions_3bI_29Lcom_2fexample_2flibttl_2flibttl_2fSetOptions_3b rfl) rfl (by show 2 * 0 + _ ≤ _; exact Nat.le_of_eq rfl) (hb hby at_65) (fun _ _ => ⟨rfl, e68, (by decide : 1 + 1 ≤ _), (by decide : 5 + 5 ≤ _)⟩)
    dsimp only [Pt.U, Pt.locs, Pt.cells, Pt.slots] at X70 l70 y70 z70 st70 hQ70
    subst l70 y70 z70
    obtain ⟨b70, rfl, N70q, E70, ob⟩ := hQ70
    have N70 := Fr.app N68 N70q
    have e70 : T70.heap = T70.heap := rfl
    refine own_st (A := T70.setTop (mkF mM 68 #[.val (.int x0), .val (.int x1), .val (.long t2), .second, .val (.int c), .val (.int k), .val (.int p6), .val (.ref b67), .unset, .unset, .unset, .unset] [(.ref b70)])) (fun tT_ kK_ => st70 tT_ kK_) ?_
    have O := O.ext E70
    have Zn := Nat.le_trans Zn E70.1
    refine own_st (A := T70.setTop (mkF mM 70 #[.val (.int x0), .val (.int x1), .val (.long t2), .second, .val (.int c), .val (.int k), .val (.int p6), .val (.ref b70), .unset, .unset, .unset, .unset] [])) (fun tT_ kK_ => XS.astore X70.here hx rfl (hb hby at_68) rfl rfl (l' := #[.val (.int x0), .val (.int x1), .val (.long t2), .second, .val (.int c), .val (.int k), .val (.int p6), .val (.ref b70), .unset, .unset, .unset, .unset]) rfl kK_) ?_
    refine own_st (A := T70.setTop (mkF mM 72 #[.val (.int x0), .val (.int x1), .val (.long t2), .second, .val (.int c), .val (.int k), .val (.int p6), .val (.ref b70), .unset, .unset, .unset, .unset] [(.ref b70)])) (fun tT_ kK_ => XS.aload X70.here hx rfl (hb hby at_70) rfl rfl kK_) ?_
    refine own_st (A := T70.setTop (mkF mM 74 #[.val (.int x0), .val (.int x1), .val (.long t2), .second, .val (.int c), .val (.int k), .val (.int p6), .val (.ref b70), .unset, .unset, .unset, .unset] [(.int k), (.ref b70)])) (fun tT_ kK_ => XS.iload X70.here hx rfl (hb hby at_72) rfl kK_) ?_
    refine own_st (A := T70.setTop (mkF mM 75 #[.val (.int x0), .val (.int x1), .val (.long t2), .second, .val (.int c), .val (.int k), .val (.int p6), .val (.ref b70), .unset, .unset, .unset, .unset] [(.long t2), (.int k), (.ref b70)])) (fun tT_ kK_ => XS.lloadN X70.here hx rfl (hb hby at_74) rfl kK_) ?_
    obtain ⟨_, _, ⟨T71, L71, k71, n71⟩, -, X71, ⟨Lc71, hQ71, l71, y71, z71⟩, st71⟩ := Jvm.LawKit.callS X70 hx (y := (⟨"com/example/libttl/libttl/SetOptionsAllowPinLaw", "timeOpt", "(Lcom/example/libttl/libttl/SetOptions;IJ)Lcom/example/libttl/libttl/SetOptions;"⟩ : MethodName)) hown (mvT hZ (hw _ (List.mem_of_getElem? (i := 26) rfl))) (mvT hZ (hw _ (List.mem_of_getElem? (i := 27) rfl))) (mvT hZ (hw _ (List.mem_of_getElem? (i := 24) rfl))) (mvT hZ (hw _ (List.mem_of_getElem? (i := 28) rfl))) (by decide) (backOf (W := 0) (rmTime lL Z a0 hw [] b70 k t2 nx' xx' 0 u1 u2 u3 u4 T70.heap n0 Zn ob O S_u1 S_u2 S_u3 S_u4) hZ (hw _ (List.mem_of_getElem? (i := 28) rfl)) (hw _ (List.mem_of_getElem? (i := 24) rfl)) (by decide) (by decide)) (g := (mkF mM 75 #[.val (.int x0), .val (.int x1), .val (.long t2), .second, .val (.int c), .val (.int k), .val (.int p6), .val (.ref b70), .unset, .unset, .unset, .unset] [(.long t2), (.int k), (.ref b70)])) rfl (by rw [hml]; rfl) (argsL := [(.ref b70), (.int k), (.long t2)]) (rest := []) (lenOf pd__28Lcom_2fexample_2flibttl_2flibttl_2fSetOptions_3bIJ_29Lcom_2fexample_2flibttl_2flibttl_2fSetOptions_3b rfl) rfl (by show 2 * 0 + _ ≤ _; exact Nat.le_of_eq rfl) (hb hby at_75) (fun _ _ => ⟨rfl, e70, (by decide : 2 + 1 ≤ _), (by decide : 10 + 5 ≤ _)⟩)
    dsimp only [Pt.U, Pt.locs, Pt.cells, Pt.slots] at X71 l71 y71 z71 st71 hQ71
    subst l71 y71 z71
    obtain ⟨b71, kk71, ff71, tt71, rfl, N71q, E71, ob⟩ := hQ71
    have N71 := Fr.app N70 N71q
    have e71 : T71.heap = T71.heap := rfl
    refine own_st (A := T71.setTop (mkF mM 78 #[.val (.int x0), .val (.int x1), .val (.long t2), .second, .val (.int c), .val (.int k), .val (.int p6), .val (.ref b70), .unset, .unset, .unset, .unset] [(.ref b71)])) (fun tT_ kK_ => st71 tT_ kK_) ?_
    have O := O.ext E71
    have Zn := Nat.le_trans Zn E71.1
    refine own_st (A := T71.setTop (mkF mM 80 #[.val (.int x0), .val (.int x1), .val (.long t2), .second, .val (.int c), .val (.int k), .val (.int p6), .val (.ref b71), .unset, .unset, .unset, .unset] [])) (fun tT_ kK_ => XS.astore X71.here hx rfl (hb hby at_78) rfl rfl (l' := #[.val (.int x0), .val (.int x1), .val (.long t2), .second, .val (.int c), .val (.int k), .val (.int p6), .val (.ref b71), .unset, .unset, .unset, .unset]) rfl kK_) ?_
    exact J80 hw X71 hx hZ hby hml hown hlk hret e71 N71 x0 x1 t2 c k p6 b71 nx' xx' kk71 ff71 tt71 ob s1 s2 s0
  · skip
    refine own_st (A := T68.setTop (mkF mM 39 #[.val (.int x0), .val (.int x1), .val (.long t2), .second, .val (.int c), .val (.int k), .val (.int p6), .val (.ref b67), .unset, .unset, .unset, .unset] [])) (fun tT_ kK_ => XS.ifNo X68.here hx rfl (hb hby at_36) rfl ((if0 _ _).trans (feq hc36_69).1) kK_) ?_
    refine own_st (A := T68.setTop (mkF mM 41 #[.val (.int x0), .val (.int x1), .val (.long t2), .second, .val (.int c), .val (.int k), .val (.int p6), .val (.ref b67), .unset, .unset, .unset, .unset] [(.ref b67)])) (fun tT_ kK_ => XS.aload X68.here hx rfl (hb hby at_39) rfl rfl kK_) ?_
    refine own_st (A := T68.setTop (mkF mM 43 #[.val (.int x0), .val (.int x1), .val (.long t2), .second, .val (.int c), .val (.int k), .val (.int p6), .val (.ref b67), .unset, .unset, .unset, .unset] [(.int k), (.ref b67)])) (fun tT_ kK_ => XS.iload X68.here hx rfl (hb hby at_41) rfl kK_) ?_
    refine own_st (A := T68.setTop (mkF mM 44 #[.val (.int x0), .val (.int x1), .val (.long t2), .second, .val (.int c), .val (.int k), .val (.int p6), .val (.ref b67), .unset, .unset, .unset, .unset] [(.long t2), (.int k), (.ref b67)])) (fun tT_ kK_ => XS.lloadN X68.here hx rfl (hb hby at_43) rfl kK_) ?_
    obtain ⟨_, _, ⟨T72, L72, k72, n72⟩, -, X72, ⟨Lc72, hQ72, l72, y72, z72⟩, st72⟩ := Jvm.LawKit.callS X68 hx (y := (⟨"com/example/libttl/libttl/SetOptionsAllowPinLaw", "timeOpt", "(Lcom/example/libttl/libttl/SetOptions;IJ)Lcom/example/libttl/libttl/SetOptions;"⟩ : MethodName)) hown (mvT hZ (hw _ (List.mem_of_getElem? (i := 26) rfl))) (mvT hZ (hw _ (List.mem_of_getElem? (i := 27) rfl))) (mvT hZ (hw _ (List.mem_of_getElem? (i := 24) rfl))) (mvT hZ (hw _ (List.mem_of_getElem? (i := 28) rfl))) (by decide) (backOf (W := 0) (rmTime lL Z a0 hw [] b67 k t2 0 0 0 u1 u2 u3 u4 T68.heap n0 Zn ob O S_u1 S_u2 S_u3 S_u4) hZ (hw _ (List.mem_of_getElem? (i := 28) rfl)) (hw _ (List.mem_of_getElem? (i := 24) rfl)) (by decide) (by decide)) (g := (mkF mM 44 #[.val (.int x0), .val (.int x1), .val (.long t2), .second, .val (.int c), .val (.int k), .val (.int p6), .val (.ref b67), .unset, .unset, .unset, .unset] [(.long t2), (.int k), (.ref b67)])) rfl (by rw [hml]; rfl) (argsL := [(.ref b67), (.int k), (.long t2)]) (rest := []) (lenOf pd__28Lcom_2fexample_2flibttl_2flibttl_2fSetOptions_3bIJ_29Lcom_2fexample_2flibttl_2flibttl_2fSetOptions_3b rfl) rfl (by show 2 * 0 + _ ≤ _; exact Nat.le_of_eq rfl) (hb hby at_44) (fun _ _ => ⟨rfl, e68, (by decide : 1 + 1 ≤ _), (by decide : 5 + 5 ≤ _)⟩)
    dsimp only [Pt.U, Pt.locs, Pt.cells, Pt.slots] at X72 l72 y72 z72 st72 hQ72
    subst l72 y72 z72
    obtain ⟨b72, kk72, ff72, tt72, rfl, N72q, E72, ob⟩ := hQ72
    have N72 := Fr.app N68 N72q
    have e72 : T72.heap = T72.heap := rfl
    refine own_st (A := T72.setTop (mkF mM 47 #[.val (.int x0), .val (.int x1), .val (.long t2), .second, .val (.int c), .val (.int k), .val (.int p6), .val (.ref b67), .unset, .unset, .unset, .unset] [(.ref b72)])) (fun tT_ kK_ => st72 tT_ kK_) ?_
    have O := O.ext E72
    have Zn := Nat.le_trans Zn E72.1
    refine own_st (A := T72.setTop (mkF mM 49 #[.val (.int x0), .val (.int x1), .val (.long t2), .second, .val (.int c), .val (.int k), .val (.int p6), .val (.ref b72), .unset, .unset, .unset, .unset] [])) (fun tT_ kK_ => XS.astore X72.here hx rfl (hb hby at_47) rfl rfl (l' := #[.val (.int x0), .val (.int x1), .val (.long t2), .second, .val (.int c), .val (.int k), .val (.int p6), .val (.ref b72), .unset, .unset, .unset, .unset]) rfl kK_) ?_
    refine own_st (A := T72.setTop (mkF mM 51 #[.val (.int x0), .val (.int x1), .val (.long t2), .second, .val (.int c), .val (.int k), .val (.int p6), .val (.ref b72), .unset, .unset, .unset, .unset] [(.ref b72)])) (fun tT_ kK_ => XS.aload X72.here hx rfl (hb hby at_49) rfl rfl kK_) ?_
    refine own_st (A := T72.setTop (mkF mM 53 #[.val (.int x0), .val (.int x1), .val (.long t2), .second, .val (.int c), .val (.int k), .val (.int p6), .val (.ref b72), .unset, .unset, .unset, .unset] [(.int c), (.ref b72)])) (fun tT_ kK_ => XS.iload X72.here hx rfl (hb hby at_51) rfl kK_) ?_
    obtain ⟨_, _, ⟨T73, L73, k73, n73⟩, -, X73, ⟨Lc73, hQ73, l73, y73, z73⟩, st73⟩ := Jvm.LawKit.callS X72 hx (y := (⟨"com/example/libttl/libttl/SetOptionsAllowPinLaw", "condOpt", "(Lcom/example/libttl/libttl/SetOptions;I)Lcom/example/libttl/libttl/SetOptions;"⟩ : MethodName)) hown (mvT hZ (hw _ (List.mem_of_getElem? (i := 22) rfl))) (mvT hZ (hw _ (List.mem_of_getElem? (i := 23) rfl))) (mvT hZ (hw _ (List.mem_of_getElem? (i := 24) rfl))) (mvT hZ (hw _ (List.mem_of_getElem? (i := 25) rfl))) (by decide) (backOf (W := 0) (rmCond lL Z a0 hw [] b72 c nx' xx' kk72 ff72 tt72 T72.heap n0 Zn ob s1 s2 s0) hZ (hw _ (List.mem_of_getElem? (i := 25) rfl)) (hw _ (List.mem_of_getElem? (i := 24) rfl)) (by decide) (by decide)) (g := (mkF mM 53 #[.val (.int x0), .val (.int x1), .val (.long t2), .second, .val (.int c), .val (.int k), .val (.int p6), .val (.ref b72), .unset, .unset, .unset, .unset] [(.int c), (.ref b72)])) rfl (by rw [hml]; rfl) (argsL := [(.ref b72), (.int c)]) (rest := []) (lenOf pd__28Lcom_2fexample_2flibttl_2flibttl_2fSetOptions_3bI_29Lcom_2fexample_2flibttl_2flibttl_2fSetOptions_3b rfl) rfl (by show 2 * 0 + _ ≤ _; exact Nat.le_of_eq rfl) (hb hby at_53) (fun _ _ => ⟨rfl, e72, (by decide : 2 + 1 ≤ _), (by decide : 10 + 5 ≤ _)⟩)
    dsimp only [Pt.U, Pt.locs, Pt.cells, Pt.slots] at X73 l73 y73 z73 st73 hQ73
    subst l73 y73 z73
    obtain ⟨b73, rfl, N73q, E73, ob⟩ := hQ73
    have N73 := Fr.app N72 N73q
    have e73 : T73.heap = T73.heap := rfl
    refine own_st (A := T73.setTop (mkF mM 56 #[.val (.int x0), .val (.int x1), .val (.long t2), .second, .val (.int c), .val (.int k), .val (.int p6), .val (.ref b72), .unset, .unset, .unset, .unset] [(.ref b73)])) (fun tT_ kK_ => st73 tT_ kK_) ?_
    have O := O.ext E73
    have Zn := Nat.le_trans Zn E73.1
    refine own_st (A := T73.setTop (mkF mM 58 #[.val (.int x0), .val (.int x1), .val (.long t2), .second, .val (.int c), .val (.int k), .val (.int p6), .val (.ref b73), .unset, .unset, .unset, .unset] [])) (fun tT_ kK_ => XS.astore X73.here hx rfl (hb hby at_56) rfl rfl (l' := #[.val (.int x0), .val (.int x1), .val (.long t2), .second, .val (.int c), .val (.int k), .val (.int p6), .val (.ref b73), .unset, .unset, .unset, .unset]) rfl kK_) ?_
    refine own_st (A := T73.setTop (mkF mM 80 #[.val (.int x0), .val (.int x1), .val (.long t2), .second, .val (.int c), .val (.int k), .val (.int p6), .val (.ref b73), .unset, .unset, .unset, .unset] [])) (fun tT_ kK_ => XS.goto X73.here hx rfl (pc0 := 58) (pc' := 80) rfl (hb hby at_58) (by decide) (by decide) kK_) ?_
    exact J80 hw X73 hx hZ hby hml hown hlk hret e73 N73 x0 x1 t2 c k p6 b73 nx' xx' kk72 ff72 tt72 ob s1 s2 s0
theorem ef_rm0 (mM : MethodId) (x0 : Int32) (x1 : Int32) (t2 : Int64) (u1 : Addr) (u2 : Addr) (u3 : Addr) (u4 : Addr) : entryFrame mM #[(.int x0), (.int x1), (.long t2)] maxLocals = mkF mM 0 #[.val (.int x0), .val (.int x1), .val (.long t2), .second, .unset, .unset, .unset, .unset, .unset, .unset, .unset, .unset] [] := by first | (simp [entryFrame, mkF, argsToLocals, Value.category, maxLocals]; done) | rfl
set_option maxRecDepth 65536 in
set_option maxHeartbeats 40000000 in
theorem rm0 (lL : Launch) (Z : State) (a0 : Array Value) (hw : ∀ d ∈ tables_1, d.before a0 Z = true) (ws : List Jvm.Cond) (x0 : Int32) (x1 : Int32) (t2 : Int64) (u1 : Addr) (u2 : Addr) (u3 : Addr) (u4 : Addr) (h0 : Heap) (n0 : Nat) (O : Old Z n0 h0) (Zn : n0 ≤ h0.size) (S_u1 : Sta Z Z.heap "com/example/libttl/libttl/TimeForm" "SECONDS" "Lcom/example/libttl/libttl/TimeForm;" (.ref u1)) (S_u2 : Sta Z Z.heap "com/example/libttl/libttl/TimeForm" "MILLISECONDS" "Lcom/example/libttl/libttl/TimeForm;" (.ref u2)) (S_u3 : Sta Z Z.heap "com/example/libttl/libttl/TimeForm" "UNIX_SECONDS" "Lcom/example/libttl/libttl/TimeForm;" (.ref u3)) (S_u4 : Sta Z Z.heap "com/example/libttl/libttl/TimeForm" "UNIX_MILLISECONDS" "Lcom/example/libttl/libttl/TimeForm;" (.ref u4)) :
    MetFree lL x (head1 (Jvm.Cond.code x code maxLocals ret :: ws) room_1) (fun as_ uU_ => as_ = #[(.int x0), (.int x1), (.long t2)] ∧ Z.Warmed39 uU_.vm ∧ uU_.heap = h0) (fun _ _ _ _ _ => True) (fun _ uU_ oO_ uE_ => ∃ vV_ lL_, oO_ = .returned vV_ ∧ (fun _ => QLaw) h0 n0 vV_ uE_.heap lL_ ∧ FrameEnd uU_ oO_ uE_ lL_ 16 128) := by
  refine MetFree.of_bodySF (plainFor_of_name pn_com_2fexample_2flibttl_2flibttl_2fSetOptionsAllowPinLaw) hisR ?_
  intro pP eE sS mM args below meth cC s₁ Bd hml0 hP hK
  obtain ⟨rfl, hZ, hh⟩ := hP
  have hx := Bd.exec
  have hby := Bd.bytes
  have hml : cC.maxLocals = 12 := hml0
  have hown : sS.vm.findClass "com/example/libttl/libttl/SetOptionsAllowPinLaw" = some mM.cls := findClass_of_methodNamed Bd.named
  have hnm := (name_of_methodNamed Bd.named Bd.method).1
  have hret := Bd.returns
  have hlk := BodyLoose.notSynchronized Bd
  have X0 : Stand pP lL eE room_1 sS mM #[(.int x0), (.int x1), (.long t2)] below meth cC s₁ [] 0 0 := Stand.of_body Bd
  have e0 : s₁.heap = h0 := by rw [← hh, Bd.state]; rfl
  have N0 := Fr.nil n0
  show own_Go pP eE below sS ((fun _ => QLaw) h0 n0) 16 128 (s₁.setTop (entryFrame mM #[(.int x0), (.int x1), (.long t2)] maxLocals))
  refine own_st (A := s₁.setTop (mkF mM 0 #[.val (.int x0), .val (.int x1), .val (.long t2), .second, .unset, .unset, .unset, .unset, .unset, .unset, .unset, .unset] [])) (fun tT_ kK_ => castTop (ef_rm0 mM x0 x1 t2 u1 u2 u3 u4) kK_) ?_
  refine own_st (A := s₁.setTop (mkF mM 1 #[.val (.int x0), .val (.int x1), .val (.long t2), .second, .unset, .unset, .unset, .unset, .unset, .unset, .unset, .unset] [(.int x0)])) (fun tT_ kK_ => XS.iloadN X0.here hx rfl (hb hby at_0) rfl kK_) ?_
  refine own_st (A := s₁.setTop (mkF mM 2 #[.val (.int x0), .val (.int x1), .val (.long t2), .second, .unset, .unset, .unset, .unset, .unset, .unset, .unset, .unset] [(.int (3 : Int32)), (.int x0)])) (fun tT_ kK_ => XS.iconst X0.here hx rfl (hb hby at_1) kK_) ?_
  refine own_st (A := s₁.setTop (mkF mM 3 #[.val (.int x0), .val (.int x1), .val (.long t2), .second, .unset, .unset, .unset, .unset, .unset, .unset, .unset, .unset] [(.int (x0 &&& (3 : Int32)))])) (fun tT_ kK_ => XS.iand X0.here hx rfl (hb hby at_2) rfl kK_) ?_
  refine own_st (A := s₁.setTop (mkF mM 5 #[.val (.int x0), .val (.int x1), .val (.long t2), .second, .val (.int (x0 &&& (3 : Int32))), .unset, .unset, .unset, .unset, .unset, .unset, .unset] [])) (fun tT_ kK_ => XS.istore X0.here hx rfl (hb hby at_3) rfl (l' := #[.val (.int x0), .val (.int x1), .val (.long t2), .second, .val (.int (x0 &&& (3 : Int32))), .unset, .unset, .unset, .unset, .unset, .unset, .unset]) rfl kK_) ?_
  refine own_st (A := s₁.setTop (mkF mM 6 #[.val (.int x0), .val (.int x1), .val (.long t2), .second, .val (.int (x0 &&& (3 : Int32))), .unset, .unset, .unset, .unset, .unset, .unset, .unset] [(.int x1)])) (fun tT_ kK_ => XS.iloadN X0.here hx rfl (hb hby at_5) rfl kK_) ?_
  refine own_st (A := s₁.setTop (mkF mM 8 #[.val (.int x0), .val (.int x1), .val (.long t2), .second, .val (.int (x0 &&& (3 : Int32))), .unset, .unset, .unset, .unset, .unset, .unset, .unset] [(.int (7 : Int32)), (.int x1)])) (fun tT_ kK_ => XS.bipush X0.here hx rfl (hb hby at_6) kK_) ?_
  refine own_st (A := s₁.setTop (mkF mM 9 #[.val (.int x0), .val (.int x1), .val (.long t2), .second, .val (.int (x0 &&& (3 : Int32))), .unset, .unset, .unset, .unset, .unset, .unset, .unset] [(.int (x1 &&& (7 : Int32)))])) (fun tT_ kK_ => XS.iand X0.here hx rfl (hb hby at_8) rfl kK_) ?_
  refine own_st (A := s₁.setTop (mkF mM 11 #[.val (.int x0), .val (.int x1), .val (.long t2), .second, .val (.int (x0 &&& (3 : Int32))), .val (.int (x1 &&& (7 : Int32))), .unset, .unset, .unset, .unset, .unset, .unset] [])) (fun tT_ kK_ => XS.istore X0.here hx rfl (hb hby at_9) rfl (l' := #[.val (.int x0), .val (.int x1), .val (.long t2), .second, .val (.int (x0 &&& (3 : Int32))), .val (.int (x1 &&& (7 : Int32))), .unset, .unset, .unset, .unset, .unset, .unset]) rfl kK_) ?_
  refine own_st (A := s₁.setTop (mkF mM 12 #[.val (.int x0), .val (.int x1), .val (.long t2), .second, .val (.int (x0 &&& (3 : Int32))), .val (.int (x1 &&& (7 : Int32))), .unset, .unset, .unset, .unset, .unset, .unset] [(.int x1)])) (fun tT_ kK_ => XS.iloadN X0.here hx rfl (hb hby at_11) rfl kK_) ?_
  refine own_st (A := s₁.setTop (mkF mM 14 #[.val (.int x0), .val (.int x1), .val (.long t2), .second, .val (.int (x0 &&& (3 : Int32))), .val (.int (x1 &&& (7 : Int32))), .unset, .unset, .unset, .unset, .unset, .unset] [(.int (8 : Int32)), (.int x1)])) (fun tT_ kK_ => XS.bipush X0.here hx rfl (hb hby at_12) kK_) ?_
  refine own_st (A := s₁.setTop (mkF mM 15 #[.val (.int x0), .val (.int x1), .val (.long t2), .second, .val (.int (x0 &&& (3 : Int32))), .val (.int (x1 &&& (7 : Int32))), .unset, .unset, .unset, .unset, .unset, .unset] [(.int (x1 &&& (8 : Int32)))])) (fun tT_ kK_ => XS.iand X0.here hx rfl (hb hby at_14) rfl kK_) ?_
  by_cases hc15_74 : (x1 &&& (8 : Int32)) = (0 : Int32)
  · skip
    refine own_st (A := s₁.setTop (mkF mM 22 #[.val (.int x0), .val (.int x1), .val (.long t2), .second, .val (.int (x0 &&& (3 : Int32))), .val (.int (x1 &&& (7 : Int32))), .unset, .unset, .unset, .unset, .unset, .unset] [])) (fun tT_ kK_ => XS.ifYes X0.here hx rfl (pc0 := 15) (pc' := 22) rfl (hb hby at_15) rfl ((if0 _ _).trans (teq hc15_74).1) (by decide) (by decide) kK_) ?_
    refine own_st (A := s₁.setTop (mkF mM 23 #[.val (.int x0), .val (.int x1), .val (.long t2), .second, .val (.int (x0 &&& (3 : Int32))), .val (.int (x1 &&& (7 : Int32))), .unset, .unset, .unset, .unset, .unset, .unset] [(.int (0 : Int32))])) (fun tT_ kK_ => XS.iconst X0.here hx rfl (hb hby at_22) kK_) ?_
    exact J23 hw X0 hx hZ hby hml hown hlk hret e0 N0 x0 x1 t2 _ _ _ u1 u2 u3 u4 O Zn S_u1 S_u2 S_u3 S_u4
  · skip
    refine own_st (A := s₁.setTop (mkF mM 18 #[.val (.int x0), .val (.int x1), .val (.long t2), .second, .val (.int (x0 &&& (3 : Int32))), .val (.int (x1 &&& (7 : Int32))), .unset, .unset, .unset, .unset, .unset, .unset] [])) (fun tT_ kK_ => XS.ifNo X0.here hx rfl (hb hby at_15) rfl ((if0 _ _).trans (feq hc15_74).1) kK_) ?_
    refine own_st (A := s₁.setTop (mkF mM 19 #[.val (.int x0), .val (.int x1), .val (.long t2), .second, .val (.int (x0 &&& (3 : Int32))), .val (.int (x1 &&& (7 : Int32))), .unset, .unset, .unset, .unset, .unset, .unset] [(.int (1 : Int32))])) (fun tT_ kK_ => XS.iconst X0.here hx rfl (hb hby at_18) kK_) ?_
    refine own_st (A := s₁.setTop (mkF mM 23 #[.val (.int x0), .val (.int x1), .val (.long t2), .second, .val (.int (x0 &&& (3 : Int32))), .val (.int (x1 &&& (7 : Int32))), .unset, .unset, .unset, .unset, .unset, .unset] [(.int (1 : Int32))])) (fun tT_ kK_ => XS.goto X0.here hx rfl (pc0 := 19) (pc' := 23) rfl (hb hby at_19) (by decide) (by decide) kK_) ?_
    exact J23 hw X0 hx hZ hby hml hown hlk hret e0 N0 x0 x1 t2 _ _ _ u1 u2 u3 u4 O Zn S_u1 S_u2 S_u3 S_u4
set_option maxRecDepth 65536 in
set_option maxHeartbeats 40000000 in
theorem comes_1 {Post : Tables → Env → Array Value → State → Outcome → State → Prop} (hpost : ∀ tb e args s v u, (limb_1_1.after args s (.returned v) u = true ∧ limb_1_2.after args s (.returned v) u = true ∧ True) → FrameEnd s (.returned v) u (Jvm.fieldLocs frame_1_writes args s ++ Jvm.arrayLocs frame_1_arrays args s ++ Jvm.staticLocs frame_1_statics s) 16 128 → Post tb e args s (.returned v) u) :
    ArmFor flags0 classFile x code maxLocals ret World_1 tables_1 room_1 Calls_1 rest_1 Pre_1 Post := by
  intro l hfl _ _ p e ha hc hk s m args below hf hA hF happ hP
  obtain ⟨hcalls, hrest, hpre⟩ := hP
  obtain ⟨-, -, -, hnamed, -, -, -, hat⟩ := (Spec.applies_iff hf).mp happ
  obtain ⟨hg, hn⟩ := and_e (Cond.before_iff.mp (show (Jvm.Cond.and given_1 narrow_1).before args s = true from hpre))
  obtain ⟨h1, hg1⟩ := and_e hg
  obtain ⟨w0, w1, w2, rfl⟩ : ∃ w0 w1 w2 : Value, args = #[w0, w1, w2] := by
    have hs : args.size = 3 := by simpa [Cond.value, given_1] using h1
    obtain ⟨L⟩ := args
    match L, hs with
    | [w0, w1, w2], _ => exact ⟨w0, w1, w2, rfl⟩
  have hw := fun d (hd : d ∈ tables_1) => atoms_spec (ws := Jvm.Cond.code x code maxLocals ret :: tables_1) hat d (List.mem_cons_of_mem _ hd)
  have hfit : Fit s := fun {y c} hc i hi => by
    obtain ⟨ha, rfl⟩ := Array.getElem?_eq_some_iff.mp hc
    have q := List.all_eq_true.mp ((Array.all_eq_true_iff_forall_mem.mp hF) _ (Array.getElem_mem ha)) i (List.mem_range.mpr hi)
    simpa [Array.getElem?_eq_getElem hi] using q
  obtain ⟨g0, hg2⟩ := and_e hg1
  obtain ⟨i0, e0⟩ := is_v g0
  obtain rfl : w0 = (.int i0) := Option.some.inj e0
  obtain ⟨g1, hg3⟩ := and_e hg2
  obtain ⟨i1, e1⟩ := is_v g1
  obtain rfl : w1 = (.int i1) := Option.some.inj e1
  have g2 := hg3
  obtain ⟨i2, e2⟩ := isL_v g2
  obtain rfl : w2 = (.long i2) := Option.some.inj e2
  have hn : narrow_1.value _ s none s [] = some true := hn
  obtain ⟨c0, hn⟩ := and_e hn
  obtain ⟨c1, hn⟩ := and_e hn
  obtain ⟨c2, hn⟩ := and_e hn
  have c3 := hn
  obtain ⟨a_UNIX_SECONDS, ev_UNIX_SECONDS⟩ := exa_v c0
  have st_UNIX_SECONDS := Sta.start ev_UNIX_SECONDS (Or.inr ⟨(hw _ (List.mem_of_getElem? (i := 35) rfl)), (hw _ (List.mem_of_getElem? (i := 36) rfl))⟩)
  have ex_UNIX_SECONDS := Exa.start ev_UNIX_SECONDS c0
  obtain ⟨a_MILLISECONDS, ev_MILLISECONDS⟩ := exa_v c1
  have st_MILLISECONDS := Sta.start ev_MILLISECONDS (Or.inr ⟨(hw _ (List.mem_of_getElem? (i := 35) rfl)), (hw _ (List.mem_of_getElem? (i := 58) rfl))⟩)
  have ex_MILLISECONDS := Exa.start ev_MILLISECONDS c1
  obtain ⟨a_SECONDS, ev_SECONDS⟩ := exa_v c2
  have st_SECONDS := Sta.start ev_SECONDS (Or.inr ⟨(hw _ (List.mem_of_getElem? (i := 35) rfl)), (hw _ (List.mem_of_getElem? (i := 65) rfl))⟩)
  have ex_SECONDS := Exa.start ev_SECONDS c2
  obtain ⟨a_UNIX_MILLISECONDS, ev_UNIX_MILLISECONDS⟩ := exa_v c3
  have st_UNIX_MILLISECONDS := Sta.start ev_UNIX_MILLISECONDS (Or.inr ⟨(hw _ (List.mem_of_getElem? (i := 35) rfl)), (hw _ (List.mem_of_getElem? (i := 82) rfl))⟩)
  have ex_UNIX_MILLISECONDS := Exa.start ev_UNIX_MILLISECONDS c3
  obtain ⟨n, o, h1, h2, h3, _, L, rfl, ⟨rfl, N⟩, hq⟩ := rm0 l s _ hw tables_1 i0 i1 i2 a_SECONDS a_MILLISECONDS a_UNIX_SECONDS a_UNIX_MILLISECONDS s.heap s.heap.size (Old.start s) (Nat.le_refl _) st_SECONDS st_MILLISECONDS st_UNIX_SECONDS st_UNIX_MILLISECONDS p e ha hc hk s m _ below hf ((Spec.applies_iff_loose hf).mp happ).1 ⟨rfl, State.Warmed39.refl s, rfl⟩ trivial
  refine ⟨n, _, h1, h2, h3, hpost _ _ _ _ _ _ ⟨Cond.after_iff.mpr rfl, Cond.after_iff.mpr (eq_i res_at (Term.int_eval (1)) rfl), trivial⟩ ⟨hq.1, hq.2.1, (hq.2.2.sift fun y hy => Or.inr (N y hy)).mono (by decide) (by decide)⟩⟩
theorem main_1_1 : Claimed_1_1 := comes_1 fun _ _ _ _ _ _ h hF => ⟨h.1, hF⟩
theorem main_1_2 : Claimed_1_2 := comes_1 fun _ _ _ _ _ _ h hF => ⟨h.2.1, hF⟩
end Jvm.Pilot.@@N@@
namespace Jvm.Pilot.@@N@@
open Jvm Jvm.ClassFile Sem Op Lib Jvm.Free Jvm.Stand Jvm.Pilot.@@N@@.Jvm.D
/-! MADE BY PROGRAM (witnessworld.py) out of the Statement's table words and the real class files: 13 classes; the members and pool entries that the words name. The judged class is class 1, her method 3. -/
namespace start1
open Jvm.ClassFile
def u (s : String) : CpInfo := .utf8 (stringToUtf16 s)
/-- a pool by its gaps: so many unusable entries, then the entry; so many at the end -/
def gap : Nat → List CpInfo → List CpInfo
  | 0, r => r
  | n + 1, r => .unusable :: gap n r
def poolList (es : List (Nat × CpInfo)) (last : Nat) : List CpInfo := es.foldr (fun e r => gap e.1 (e.2 :: r)) (gap last [])
def pool (es : List (Nat × CpInfo)) (last : Nat) : Array CpInfo := ⟨poolList es last⟩
def fileOf (pool : Array CpInfo) (this : Nat) (attrs : Array Attribute := #[]) (ms : Array MethodInfo := #[]) (fl : Nat := 33) (sup : Nat := 0) (ifs : Array Nat := #[]) (fds : Array FieldInfo := #[]) : ClassFile where
  minorVersion := 0
  majorVersion := 65
  constantPool := pool
  accessFlags := fl
  thisClass := this
  superClass := sup
  interfaces := ifs
  fields := fds
  methods := ms
  attributes := attrs
def plain (name : String) (sup : Option ClassId) : Class where
  name := name
  kind := .ordinary
  loader := none
  accessFlags := 33
  super := sup
  interfaces := #[]
  cf := none
  fields := #[]
  methods := #[]
  instanceTypes := #[]
  staticTypes := #[]
  resolved := #[]
  callSites := []
  init := .initialized
  statics := none
  mirror := none

def pool0 : Array CpInfo := pool [(5, u "<init>"), (0, u "()V"), (1, .class_ 10), (1, u "java/lang/Object")] 113

def k0c0 : Code := { maxStack := 0, maxLocals := 1, code := object_method_1_code, exceptionTable := #[], attributes := #[] }
def k0m0 : Method := { name := "<init>", desc := "()V", sig := { parameters := [], returnType := none }, accessFlags := 1, code := some k0c0 }
/-- java/lang/Object -/
def k0 : Class := { plain "java/lang/Object" none with
  accessFlags := 33
  interfaces := #[]
  cf := some (fileOf pool0 8 #[] #[{ accessFlags := 1, nameIndex := 5, descriptorIndex := 6, attributes := #[] }] 33 0 #[] #[])
  fields := #[]
  methods := #[k0m0]
  instanceTypes := #[]
  staticTypes := #[]
  resolved := Array.replicate 124 none
  statics := none }

def pool1 : Array CpInfo := pool [(2, .class_ 4), (0, .nameAndType 5 6), (0, u "java/lang/Object"), (0, u "<init>"), (0, u "()V"), (0, .methodref 8 9), (0, .class_ 10), (0, .nameAndType 11 12), (0, u "com/example/libttl/libttl/SetOptions"), (0, u "nx"), (0, u "()Lcom/example/libttl/libttl/SetOptions;"), (0, .methodref 8 14), (0, .nameAndType 15 12), (0, u "xx"), (0, .methodref 8 17), (0, .nameAndType 18 19), (0, u "ex"), (0, u "(J)Lcom/example/libttl/libttl/SetOptions;"), (0, .methodref 8 21), (0, .nameAndType 22 19), (0, u "px"), (0, .methodref 8 24), (0, .nameAndType 25 19), (0, u "exAt"), (0, .methodref 8 27), (0, .nameAndType 28 19), (0, u "pxAt"), (0, .methodref 8 30), (0, .nameAndType 31 12), (0, u "keepTtl"), (0, .methodref 8 3), (0, .methodref 34 35), (0, .class_ 36), (0, .nameAndType 37 38), (0, u "com/example/libttl/libttl/SetOptionsAllowPinLaw"), (0, u "timeOpt"), (0, u "(Lcom/example/libttl/libttl/SetOptions;IJ)Lcom/example/libttl/libttl/SetOptions;"), (0, .methodref 34 40), (0, .nameAndType 41 42), (0, u "condOpt"), (0, u "(Lcom/example/libttl/libttl/SetOptions;I)Lcom/example/libttl/libttl/SetOptions;"), (0, .methodref 8 44), (0, .nameAndType 45 46), (0, u "allow"), (0, u "(Z)Z"), (3, u "law"), (0, u "(IIJ)Z")] 2

def k1m0 : Method := { name := "<init>", desc := "()V", sig := { parameters := [], returnType := none }, accessFlags := 2, code := none }
def k1c1 : Code := { maxStack := 2, maxLocals := 2, code := method_2_code, exceptionTable := #[], attributes := #[] }
def k1m1 : Method := { name := "condOpt", desc := "(Lcom/example/libttl/libttl/SetOptions;I)Lcom/example/libttl/libttl/SetOptions;", sig := { parameters := [(.object "com/example/libttl/libttl/SetOptions"), .int], returnType := some (.object "com/example/libttl/libttl/SetOptions") }, accessFlags := 10, code := some k1c1 }
def k1c2 : Code := { maxStack := 3, maxLocals := 4, code := method_3_code, exceptionTable := #[], attributes := #[] }
def k1m2 : Method := { name := "timeOpt", desc := "(Lcom/example/libttl/libttl/SetOptions;IJ)Lcom/example/libttl/libttl/SetOptions;", sig := { parameters := [(.object "com/example/libttl/libttl/SetOptions"), .int, .long], returnType := some (.object "com/example/libttl/libttl/SetOptions") }, accessFlags := 10, code := some k1c2 }
def k1c3 : Code := { maxStack := 4, maxLocals := 12, code := code, exceptionTable := #[], attributes := #[] }
def k1m3 : Method := { name := "law", desc := "(IIJ)Z", sig := { parameters := [.int, .int, .long], returnType := some .boolean }, accessFlags := 9, code := some k1c3 }
/-- com/example/libttl/libttl/SetOptionsAllowPinLaw -/
def k1 : Class := { plain "com/example/libttl/libttl/SetOptionsAllowPinLaw" (some 0) with
  accessFlags := 49
  interfaces := #[]
  cf := some (fileOf pool1 34 #[] #[{ accessFlags := 2, nameIndex := 5, descriptorIndex := 6, attributes := #[] }, { accessFlags := 10, nameIndex := 41, descriptorIndex := 42, attributes := #[] }, { accessFlags := 10, nameIndex := 37, descriptorIndex := 38, attributes := #[] }, { accessFlags := 9, nameIndex := 50, descriptorIndex := 51, attributes := #[] }] 49 2 #[] #[])
  fields := #[]
  methods := #[k1m0, k1m1, k1m2, k1m3]
  instanceTypes := #[]
  staticTypes := #[]
  resolved := Array.replicate 54 none
  statics := none }

def pool2 : Array CpInfo := pool [(1, .methodref 2 3), (0, .class_ 4), (0, .nameAndType 5 6), (0, u "com/example/libttl/libttl/SetOptions"), (0, u "<init>"), (0, u "(ZZZLcom/example/libttl/libttl/TimeForm;J)V"), (0, .methodref 8 9), (0, .class_ 10), (0, .nameAndType 5 11), (0, u "java/lang/Object"), (0, u "()V"), (0, .fieldref 2 13), (0, .nameAndType 14 15), (0, u "nx"), (0, u "Z"), (0, .fieldref 2 17), (0, .nameAndType 18 15), (0, u "xx"), (0, .fieldref 2 20), (0, .nameAndType 21 15), (0, u "keepTtl"), (0, .fieldref 2 23), (0, .nameAndType 24 25), (0, u "form"), (0, u "Lcom/example/libttl/libttl/TimeForm;"), (0, .fieldref 2 27), (0, .nameAndType 28 29), (0, u "time"), (0, u "J"), (6, .fieldref 37 38), (0, .class_ 39), (0, .nameAndType 40 25), (0, u "com/example/libttl/libttl/TimeForm"), (0, u "SECONDS"), (0, .methodref 2 42), (0, .nameAndType 43 44), (0, u "timed"), (0, u "(Lcom/example/libttl/libttl/TimeForm;J)Lcom/example/libttl/libttl/SetOptions;"), (0, .fieldref 37 46), (0, .nameAndType 47 25), (0, u "MILLISECONDS"), (0, .fieldref 37 49), (0, .nameAndType 50 25), (0, u "UNIX_SECONDS"), (0, .fieldref 37 52), (0, .nameAndType 53 25), (0, u "UNIX_MILLISECONDS"), (20, u "NONE"), (0, u "Lcom/example/libttl/libttl/SetOptions;"), (0, u "COMMAND"), (0, u "Ljava/lang/String;"), (3, u "()Lcom/example/libttl/libttl/SetOptions;"), (1, u "ex"), (0, u "(J)Lcom/example/libttl/libttl/SetOptions;"), (0, u "px"), (0, u "exAt"), (0, u "pxAt"), (2, u "allow"), (0, u "(Z)Z")] 4

def k2c0 : Code := { maxStack := 7, maxLocals := 1, code := prog_44_method_1_code, exceptionTable := #[], attributes := #[] }
def k2m0 : Method := { name := "<init>", desc := "()V", sig := { parameters := [], returnType := none }, accessFlags := 1, code := some k2c0 }
def k2c1 : Code := { maxStack := 3, maxLocals := 7, code := prog_44_method_2_code, exceptionTable := #[], attributes := #[] }
def k2m1 : Method := { name := "<init>", desc := "(ZZZLcom/example/libttl/libttl/TimeForm;J)V", sig := { parameters := [.boolean, .boolean, .boolean, (.object "com/example/libttl/libttl/TimeForm"), .long], returnType := none }, accessFlags := 2, code := some k2c1 }
def k2c2 : Code := { maxStack := 8, maxLocals := 1, code := prog_44_method_3_code, exceptionTable := #[], attributes := #[] }
def k2m2 : Method := { name := "nx", desc := "()Lcom/example/libttl/libttl/SetOptions;", sig := { parameters := [], returnType := some (.object "com/example/libttl/libttl/SetOptions") }, accessFlags := 1, code := some k2c2 }
def k2c3 : Code := { maxStack := 8, maxLocals := 1, code := prog_44_method_4_code, exceptionTable := #[], attributes := #[] }
def k2m3 : Method := { name := "xx", desc := "()Lcom/example/libttl/libttl/SetOptions;", sig := { parameters := [], returnType := some (.object "com/example/libttl/libttl/SetOptions") }, accessFlags := 1, code := some k2c3 }
def k2c4 : Code := { maxStack := 4, maxLocals := 3, code := prog_44_method_5_code, exceptionTable := #[], attributes := #[] }
def k2m4 : Method := { name := "ex", desc := "(J)Lcom/example/libttl/libttl/SetOptions;", sig := { parameters := [.long], returnType := some (.object "com/example/libttl/libttl/SetOptions") }, accessFlags := 1, code := some k2c4 }
def k2c5 : Code := { maxStack := 4, maxLocals := 3, code := prog_44_method_6_code, exceptionTable := #[], attributes := #[] }
def k2m5 : Method := { name := "px", desc := "(J)Lcom/example/libttl/libttl/SetOptions;", sig := { parameters := [.long], returnType := some (.object "com/example/libttl/libttl/SetOptions") }, accessFlags := 1, code := some k2c5 }
def k2c6 : Code := { maxStack := 4, maxLocals := 3, code := prog_44_method_7_code, exceptionTable := #[], attributes := #[] }
def k2m6 : Method := { name := "exAt", desc := "(J)Lcom/example/libttl/libttl/SetOptions;", sig := { parameters := [.long], returnType := some (.object "com/example/libttl/libttl/SetOptions") }, accessFlags := 1, code := some k2c6 }
def k2c7 : Code := { maxStack := 4, maxLocals := 3, code := prog_44_method_8_code, exceptionTable := #[], attributes := #[] }
def k2m7 : Method := { name := "pxAt", desc := "(J)Lcom/example/libttl/libttl/SetOptions;", sig := { parameters := [.long], returnType := some (.object "com/example/libttl/libttl/SetOptions") }, accessFlags := 1, code := some k2c7 }
def k2c8 : Code := { maxStack := 8, maxLocals := 1, code := prog_44_method_9_code, exceptionTable := #[], attributes := #[] }
def k2m8 : Method := { name := "keepTtl", desc := "()Lcom/example/libttl/libttl/SetOptions;", sig := { parameters := [], returnType := some (.object "com/example/libttl/libttl/SetOptions") }, accessFlags := 1, code := some k2c8 }
def k2c9 : Code := { maxStack := 8, maxLocals := 4, code := prog_44_method_12_code, exceptionTable := #[], attributes := #[] }
def k2m9 : Method := { name := "timed", desc := "(Lcom/example/libttl/libttl/TimeForm;J)Lcom/example/libttl/libttl/SetOptions;", sig := { parameters := [(.object "com/example/libttl/libttl/TimeForm"), .long], returnType := some (.object "com/example/libttl/libttl/SetOptions") }, accessFlags := 2, code := some k2c9 }
def k2c10 : Code := { maxStack := 1, maxLocals := 2, code := prog_44_method_13_code, exceptionTable := #[], attributes := #[] }
def k2m10 : Method := { name := "allow", desc := "(Z)Z", sig := { parameters := [.boolean], returnType := some .boolean }, accessFlags := 0, code := some k2c10 }
/-- com/example/libttl/libttl/SetOptions -/
def k2 : Class := { plain "com/example/libttl/libttl/SetOptions" (some 0) with
  accessFlags := 49
  interfaces := #[]
  cf := some (fileOf pool2 2 #[] #[{ accessFlags := 1, nameIndex := 5, descriptorIndex := 11, attributes := #[] }, { accessFlags := 2, nameIndex := 5, descriptorIndex := 6, attributes := #[] }, { accessFlags := 1, nameIndex := 14, descriptorIndex := 81, attributes := #[] }, { accessFlags := 1, nameIndex := 18, descriptorIndex := 81, attributes := #[] }, { accessFlags := 1, nameIndex := 83, descriptorIndex := 84, attributes := #[] }, { accessFlags := 1, nameIndex := 85, descriptorIndex := 84, attributes := #[] }, { accessFlags := 1, nameIndex := 86, descriptorIndex := 84, attributes := #[] }, { accessFlags := 1, nameIndex := 87, descriptorIndex := 84, attributes := #[] }, { accessFlags := 1, nameIndex := 21, descriptorIndex := 81, attributes := #[] }, { accessFlags := 2, nameIndex := 43, descriptorIndex := 44, attributes := #[] }, { accessFlags := 0, nameIndex := 90, descriptorIndex := 91, attributes := #[] }] 49 8 #[] #[{ accessFlags := 24, nameIndex := 74, descriptorIndex := 75, attributes := #[] }, { accessFlags := 26, nameIndex := 76, descriptorIndex := 77, attributes := #[] }, { accessFlags := 18, nameIndex := 14, descriptorIndex := 15, attributes := #[] }, { accessFlags := 18, nameIndex := 18, descriptorIndex := 15, attributes := #[] }, { accessFlags := 18, nameIndex := 21, descriptorIndex := 15, attributes := #[] }, { accessFlags := 18, nameIndex := 24, descriptorIndex := 25, attributes := #[] }, { accessFlags := 18, nameIndex := 28, descriptorIndex := 29, attributes := #[] }])
  fields := #[{ name := "NONE", type := (.object "com/example/libttl/libttl/SetOptions"), accessFlags := 24, slot := 0, constantValue := 0 }, { name := "COMMAND", type := (.object "java/lang/String"), accessFlags := 26, slot := 1, constantValue := 0 }, { name := "nx", type := .boolean, accessFlags := 18, slot := 0, constantValue := 0 }, { name := "xx", type := .boolean, accessFlags := 18, slot := 1, constantValue := 0 }, { name := "keepTtl", type := .boolean, accessFlags := 18, slot := 2, constantValue := 0 }, { name := "form", type := (.object "com/example/libttl/libttl/TimeForm"), accessFlags := 18, slot := 3, constantValue := 0 }, { name := "time", type := .long, accessFlags := 18, slot := 4, constantValue := 0 }]
  methods := #[k2m0, k2m1, k2m2, k2m3, k2m4, k2m5, k2m6, k2m7, k2m8, k2m9, k2m10]
  instanceTypes := #[.boolean, .boolean, .boolean, (.object "com/example/libttl/libttl/TimeForm"), .long]
  staticTypes := #[(.object "com/example/libttl/libttl/SetOptions"), (.object "java/lang/String")]
  resolved := Array.replicate 96 none
  statics := none }

def pool3 : Array CpInfo := pool [(1, .class_ 2), (0, u "java/lang/constant/Constable"), (0, .class_ 4), (0, u "java/lang/Object")] 6

/-- java/lang/constant/Constable -/
def k3 : Class := { plain "java/lang/constant/Constable" (some 0) with
  accessFlags := 1537
  interfaces := #[]
  cf := some (fileOf pool3 1 #[] #[] 1537 3 #[] #[])
  fields := #[]
  methods := #[]
  instanceTypes := #[]
  staticTypes := #[]
  resolved := Array.replicate 11 none
  statics := none }

def pool4 : Array CpInfo := pool [(1, .class_ 2), (0, u "java/lang/Comparable"), (0, .class_ 4), (0, u "java/lang/Object")] 7

/-- java/lang/Comparable -/
def k4 : Class := { plain "java/lang/Comparable" (some 0) with
  accessFlags := 1537
  interfaces := #[]
  cf := some (fileOf pool4 1 #[] #[] 1537 3 #[] #[])
  fields := #[]
  methods := #[]
  instanceTypes := #[]
  staticTypes := #[]
  resolved := Array.replicate 12 none
  statics := none }

def pool5 : Array CpInfo := pool [(1, .class_ 2), (0, u "java/io/Serializable"), (0, .class_ 4), (0, u "java/lang/Object")] 2

/-- java/io/Serializable -/
def k5 : Class := { plain "java/io/Serializable" (some 0) with
  accessFlags := 1537
  interfaces := #[]
  cf := some (fileOf pool5 1 #[] #[] 1537 3 #[] #[])
  fields := #[]
  methods := #[]
  instanceTypes := #[]
  staticTypes := #[]
  resolved := Array.replicate 7 none
  statics := none }

def pool6 : Array CpInfo := pool [(2, .class_ 4), (1, u "java/lang/Enum"), (0, u "name"), (0, u "Ljava/lang/String;"), (2, u "ordinal"), (0, u "I"), (1, .class_ 14), (1, u "java/lang/Object"), (4, u "hash"), (86, .class_ 108), (1, u "java/lang/Enum$EnumDesc"), (2, .class_ 112), (0, u "java/lang/constant/Constable"), (0, .class_ 114), (0, u "java/lang/Comparable"), (0, .class_ 116), (0, u "java/io/Serializable")] 87

/-- java/lang/Enum -/
def k6 : Class := { plain "java/lang/Enum" (some 0) with
  accessFlags := 1057
  interfaces := #[3, 4, 5]
  cf := some (fileOf pool6 2 #[.nestMembers #[106]] #[] 1057 12 #[111, 113, 115] #[{ accessFlags := 18, nameIndex := 5, descriptorIndex := 6, attributes := #[] }, { accessFlags := 18, nameIndex := 9, descriptorIndex := 10, attributes := #[] }, { accessFlags := 2, nameIndex := 19, descriptorIndex := 10, attributes := #[] }])
  fields := #[{ name := "name", type := (.object "java/lang/String"), accessFlags := 18, slot := 0, constantValue := 0 }, { name := "ordinal", type := .int, accessFlags := 18, slot := 1, constantValue := 0 }, { name := "hash", type := .int, accessFlags := 2, slot := 2, constantValue := 0 }]
  methods := #[]
  instanceTypes := #[(.object "java/lang/String"), .int, .int]
  staticTypes := #[]
  resolved := Array.replicate 204 none
  statics := none }

def pool7 : Array CpInfo := pool [(1, .class_ 2), (0, u "com/example/libttl/libttl/TimeForm"), (2, u "SECONDS"), (0, u "Lcom/example/libttl/libttl/TimeForm;"), (2, u "MILLISECONDS"), (2, u "UNIX_SECONDS"), (2, u "UNIX_MILLISECONDS"), (2, u "$VALUES"), (0, u "[Lcom/example/libttl/libttl/TimeForm;"), (6, .class_ 28), (1, u "java/lang/Enum"), (8, u "command"), (0, u "Ljava/lang/String;"), (2, u "setOption"), (2, u "millisPerUnit"), (0, u "J"), (2, u "fromNow"), (0, u "Z")] 64

/-- com/example/libttl/libttl/TimeForm -/
def k7 : Class := { plain "com/example/libttl/libttl/TimeForm" (some 6) with
  accessFlags := 16432
  interfaces := #[]
  cf := some (fileOf pool7 1 #[] #[] 16432 26 #[] #[{ accessFlags := 16409, nameIndex := 5, descriptorIndex := 6, attributes := #[] }, { accessFlags := 16409, nameIndex := 9, descriptorIndex := 6, attributes := #[] }, { accessFlags := 16409, nameIndex := 12, descriptorIndex := 6, attributes := #[] }, { accessFlags := 16409, nameIndex := 15, descriptorIndex := 6, attributes := #[] }, { accessFlags := 18, nameIndex := 37, descriptorIndex := 38, attributes := #[] }, { accessFlags := 18, nameIndex := 41, descriptorIndex := 38, attributes := #[] }, { accessFlags := 18, nameIndex := 44, descriptorIndex := 45, attributes := #[] }, { accessFlags := 18, nameIndex := 48, descriptorIndex := 49, attributes := #[] }, { accessFlags := 4122, nameIndex := 18, descriptorIndex := 19, attributes := #[] }])
  fields := #[{ name := "SECONDS", type := (.object "com/example/libttl/libttl/TimeForm"), accessFlags := 16409, slot := 0, constantValue := 0 }, { name := "MILLISECONDS", type := (.object "com/example/libttl/libttl/TimeForm"), accessFlags := 16409, slot := 1, constantValue := 0 }, { name := "UNIX_SECONDS", type := (.object "com/example/libttl/libttl/TimeForm"), accessFlags := 16409, slot := 2, constantValue := 0 }, { name := "UNIX_MILLISECONDS", type := (.object "com/example/libttl/libttl/TimeForm"), accessFlags := 16409, slot := 3, constantValue := 0 }, { name := "command", type := (.object "java/lang/String"), accessFlags := 18, slot := 3, constantValue := 0 }, { name := "setOption", type := (.object "java/lang/String"), accessFlags := 18, slot := 4, constantValue := 0 }, { name := "millisPerUnit", type := .long, accessFlags := 18, slot := 5, constantValue := 0 }, { name := "fromNow", type := .boolean, accessFlags := 18, slot := 6, constantValue := 0 }, { name := "$VALUES", type := (.array (.object "com/example/libttl/libttl/TimeForm")), accessFlags := 4122, slot := 4, constantValue := 0 }]
  methods := #[]
  instanceTypes := #[(.object "java/lang/String"), .int, .int, (.object "java/lang/String"), (.object "java/lang/String"), .long, .boolean]
  staticTypes := #[(.object "com/example/libttl/libttl/TimeForm"), (.object "com/example/libttl/libttl/TimeForm"), (.object "com/example/libttl/libttl/TimeForm"), (.object "com/example/libttl/libttl/TimeForm"), (.array (.object "com/example/libttl/libttl/TimeForm"))]
  resolved := Array.replicate 114 none
  statics := some 0 }

def pool8 : Array CpInfo := pool [(1, u "java/lang/Cloneable"), (0, .class_ 1), (0, u "java/lang/Object"), (0, .class_ 3)] 3

/-- java/lang/Cloneable -/
def k8 : Class := { plain "java/lang/Cloneable" (some 0) with
  accessFlags := 1537
  interfaces := #[]
  cf := some (fileOf pool8 2 #[] #[] 1537 4 #[] #[])
  fields := #[]
  methods := #[]
  instanceTypes := #[]
  staticTypes := #[]
  resolved := Array.replicate 8 none
  statics := none }

/-- the primitive byte -/
def k9 : Class := { plain "byte" none with kind := .primitive 'B', accessFlags := 0x411 }
/-- [B -/
def k10 : Class := { plain "[B" (some 0) with kind := .array 9 .byte, interfaces := #[8, 5], accessFlags := 1041 }

/-- the primitive int -/
def k11 : Class := { plain "int" none with kind := .primitive 'I', accessFlags := 0x411 }
/-- [I -/
def k12 : Class := { plain "[I" (some 0) with kind := .array 11 .int, interfaces := #[8, 5], accessFlags := 1041 }

def heap : Heap := #[{ cls := 7, slots := #[.ref 1, .ref 2, .ref 3, .ref 4, .null], vm := .statics 7 },
  { cls := 7, slots := #[.null, .int 0, .int 0, .null, .null, .long 0, .int 0], vm := .none },
  { cls := 7, slots := #[.null, .int 0, .int 0, .null, .null, .long 0, .int 0], vm := .none },
  { cls := 7, slots := #[.null, .int 0, .int 0, .null, .null, .long 0, .int 0], vm := .none },
  { cls := 7, slots := #[.null, .int 0, .int 0, .null, .null, .long 0, .int 0], vm := .none }]
def classes : Array Class := #[k0, k1, k2, k3, k4, k5, k6, k7, k8, k9, k10, k11, k12]
def interned : List (Array UInt16 × Addr) := []
def slotsUsed : Nat := 33
def theMethod : MethodId := ⟨1, 3⟩
def args0 : Array Value := #[.int 5, .int 6, .long 7]
def aboutOver (below : List Frame) : State where
  vm := { classes := classes, interned := interned.toArray }
  heap := heap
  slotsUsed := slotsUsed
  threads := #[{ frames := .invoking theMethod args0 :: below }]
def below0 : List Frame := [.native { method := ⟨0, 0⟩, args := #[] }]
def about1 : State := aboutOver below0
def p0 : Program := .bare "" "" ""
def e0 : Env := launch0.env 0 0 0
theorem w_frames : about1.frames = Frame.invoking theMethod args0 :: below0 := rfl
set_option maxRecDepth 65536 in
theorem w_args : argsFit about1.vm theMethod args0 = true := by decide +kernel
set_option maxRecDepth 65536 in
theorem w_heap : heapFits about1 = true := by decide +kernel
set_option maxRecDepth 65536 in
theorem w_runnable : about1.curStatus? = some .runnable := by decide +kernel
set_option maxRecDepth 65536 in
theorem w_alone : about1.alone = true := by decide +kernel
set_option maxRecDepth 65536 in
theorem w_named : about1.methodNamed? x = some theMethod := by decide +kernel
set_option maxRecDepth 65536 in
theorem w_hears : about1.hears theMethod below0 = true := by decide +kernel
set_option maxRecDepth 65536 in
theorem w_ripe : about1.ripe theMethod args0 below0 = true := by decide +kernel
theorem w_running : about1.status = .running := rfl
set_option maxRecDepth 65536 in
theorem w_room : about1.hasRoom e0.platform room_1 = true :=
  launch0.hasRoom_least _ room_1 (by decide +kernel) (by decide +kernel) (by decide +kernel) (by decide +kernel) (by decide +kernel) (by decide +kernel)
theorem allAtoms_all (ts : List Jvm.Cond) (a : Array Jvm.Value) (st : Jvm.State) : (allAtoms ts).before a st = ts.all (fun c => c.before a st) := by
  induction ts with
  | nil => rfl
  | cons c t ih =>
    show (Jvm.Cond.and c (allAtoms t)).before a st = _
    rw [Jvm.Cond.before_and, ih, List.all_cons]
def words1 : List Jvm.Cond := Jvm.Cond.code x code maxLocals ret :: tables_1
/-- a 'code' word, met by the world's own term for the bytes: nothing is compared byte by byte -/
theorem code_word {y : MethodName} {bytes : ByteArray} {mx : Nat} {rt : Option FieldType} {a : Array Value} {s : State} {m : MethodId} {meth : Method} {c : Code} (h1 : s.methodNamed? y = some m) (h2 : s.vm.method? m = some meth) (h3 : meth.code = some c) (h4 : c.code = bytes)
    (h5 : (c.maxLocals == mx && c.exceptionTable.isEmpty && decide (c.maxStack ≤ mostOperands) && decide (meth.sig.returnType = rt) && !meth.locks && decide (parseMethodDescriptor y.desc = some meth.sig)) = true) : (Jvm.Cond.code y bytes mx rt).before a s = true := by
  simp only [Bool.and_eq_true, beq_iff_eq, Bool.not_eq_true', decide_eq_true_eq] at h5
  obtain ⟨⟨⟨⟨⟨g1, g2⟩, g3⟩, g4⟩, g5⟩, g6⟩ := h5
  simp [Cond.before, Cond.holds, Cond.value, h1, h2, h3, h4, g1, g2, g3, g4, g5, g6]
def isCode : Jvm.Cond → Bool
  | .code _ _ _ _ => true
  | _ => false
theorem all_split {L : List Jvm.Cond} {P : Jvm.Cond → Bool} (h1 : L.all (fun c => isCode c || P c) = true) (h2 : ∀ c ∈ L.filter isCode, P c = true) : L.all P = true := by
  refine List.all_eq_true.mpr fun c hc => ?_
  have h := List.all_eq_true.mp h1 c hc
  rcases Bool.eq_false_or_eq_true (isCode c) with hi | hi
  · exact h2 c (List.mem_filter.mpr ⟨hc, hi⟩)
  · simpa [hi] using h
set_option maxRecDepth 65536 in
theorem w_c0 : (Jvm.Cond.code x code maxLocals ret).before args0 about1 = true := code_word (m := ⟨1, 3⟩) (meth := k1m3) (c := k1c3) (by decide +kernel) rfl rfl rfl (by decide +kernel)
set_option maxRecDepth 65536 in
theorem w_c1 : (Jvm.Cond.code ({ cls := "com/example/libttl/libttl/SetOptions", name := "<init>", desc := "()V" } : Jvm.MethodName) prog_44_method_1_code (1 : Nat) (Option.none : Option Jvm.ClassFile.FieldType)).before args0 about1 = true := code_word (m := ⟨2, 0⟩) (meth := k2m0) (c := k2c0) (by decide +kernel) rfl rfl rfl (by decide +kernel)
set_option maxRecDepth 65536 in
theorem w_c2 : (Jvm.Cond.code ({ cls := "com/example/libttl/libttl/SetOptions", name := "<init>", desc := "(ZZZLcom/example/libttl/libttl/TimeForm;J)V" } : Jvm.MethodName) prog_44_method_2_code (7 : Nat) (Option.none : Option Jvm.ClassFile.FieldType)).before args0 about1 = true := code_word (m := ⟨2, 1⟩) (meth := k2m1) (c := k2c1) (by decide +kernel) rfl rfl rfl (by decide +kernel)
set_option maxRecDepth 65536 in
theorem w_c3 : (Jvm.Cond.code ({ cls := "java/lang/Object", name := "<init>", desc := "()V" } : Jvm.MethodName) object_method_1_code (1 : Nat) (Option.none : Option Jvm.ClassFile.FieldType)).before args0 about1 = true := code_word (m := ⟨0, 0⟩) (meth := k0m0) (c := k0c0) (by decide +kernel) rfl rfl rfl (by decide +kernel)
set_option maxRecDepth 65536 in
theorem w_c4 : (Jvm.Cond.code ({ cls := "com/example/libttl/libttl/SetOptionsAllowPinLaw", name := "condOpt", desc := "(Lcom/example/libttl/libttl/SetOptions;I)Lcom/example/libttl/libttl/SetOptions;" } : Jvm.MethodName) method_2_code (2 : Nat) (Option.some (Jvm.ClassFile.FieldType.object "com/example/libttl/libttl/SetOptions"))).before args0 about1 = true := code_word (m := ⟨1, 1⟩) (meth := k1m1) (c := k1c1) (by decide +kernel) rfl rfl rfl (by decide +kernel)
set_option maxRecDepth 65536 in
theorem w_c5 : (Jvm.Cond.code ({ cls := "com/example/libttl/libttl/SetOptionsAllowPinLaw", name := "timeOpt", desc := "(Lcom/example/libttl/libttl/SetOptions;IJ)Lcom/example/libttl/libttl/SetOptions;" } : Jvm.MethodName) method_3_code (4 : Nat) (Option.some (Jvm.ClassFile.FieldType.object "com/example/libttl/libttl/SetOptions"))).before args0 about1 = true := code_word (m := ⟨1, 2⟩) (meth := k1m2) (c := k1c2) (by decide +kernel) rfl rfl rfl (by decide +kernel)
set_option maxRecDepth 65536 in
theorem w_c6 : (Jvm.Cond.code ({ cls := "com/example/libttl/libttl/SetOptions", name := "exAt", desc := "(J)Lcom/example/libttl/libttl/SetOptions;" } : Jvm.MethodName) prog_44_method_7_code (3 : Nat) (Option.some (Jvm.ClassFile.FieldType.object "com/example/libttl/libttl/SetOptions"))).before args0 about1 = true := code_word (m := ⟨2, 6⟩) (meth := k2m6) (c := k2c6) (by decide +kernel) rfl rfl rfl (by decide +kernel)
set_option maxRecDepth 65536 in
theorem w_c7 : (Jvm.Cond.code ({ cls := "com/example/libttl/libttl/SetOptions", name := "timed", desc := "(Lcom/example/libttl/libttl/TimeForm;J)Lcom/example/libttl/libttl/SetOptions;" } : Jvm.MethodName) prog_44_method_12_code (4 : Nat) (Option.some (Jvm.ClassFile.FieldType.object "com/example/libttl/libttl/SetOptions"))).before args0 about1 = true := code_word (m := ⟨2, 9⟩) (meth := k2m9) (c := k2c9) (by decide +kernel) rfl rfl rfl (by decide +kernel)
set_option maxRecDepth 65536 in
theorem w_c8 : (Jvm.Cond.code ({ cls := "com/example/libttl/libttl/SetOptions", name := "allow", desc := "(Z)Z" } : Jvm.MethodName) prog_44_method_13_code (2 : Nat) (Option.some Jvm.ClassFile.FieldType.boolean)).before args0 about1 = true := code_word (m := ⟨2, 10⟩) (meth := k2m10) (c := k2c10) (by decide +kernel) rfl rfl rfl (by decide +kernel)
set_option maxRecDepth 65536 in
theorem w_c9 : (Jvm.Cond.code ({ cls := "com/example/libttl/libttl/SetOptions", name := "xx", desc := "()Lcom/example/libttl/libttl/SetOptions;" } : Jvm.MethodName) prog_44_method_4_code (1 : Nat) (Option.some (Jvm.ClassFile.FieldType.object "com/example/libttl/libttl/SetOptions"))).before args0 about1 = true := code_word (m := ⟨2, 3⟩) (meth := k2m3) (c := k2c3) (by decide +kernel) rfl rfl rfl (by decide +kernel)
set_option maxRecDepth 65536 in
theorem w_c10 : (Jvm.Cond.code ({ cls := "com/example/libttl/libttl/SetOptions", name := "px", desc := "(J)Lcom/example/libttl/libttl/SetOptions;" } : Jvm.MethodName) prog_44_method_6_code (3 : Nat) (Option.some (Jvm.ClassFile.FieldType.object "com/example/libttl/libttl/SetOptions"))).before args0 about1 = true := code_word (m := ⟨2, 5⟩) (meth := k2m5) (c := k2c5) (by decide +kernel) rfl rfl rfl (by decide +kernel)
set_option maxRecDepth 65536 in
theorem w_c11 : (Jvm.Cond.code ({ cls := "com/example/libttl/libttl/SetOptions", name := "ex", desc := "(J)Lcom/example/libttl/libttl/SetOptions;" } : Jvm.MethodName) prog_44_method_5_code (3 : Nat) (Option.some (Jvm.ClassFile.FieldType.object "com/example/libttl/libttl/SetOptions"))).before args0 about1 = true := code_word (m := ⟨2, 4⟩) (meth := k2m4) (c := k2c4) (by decide +kernel) rfl rfl rfl (by decide +kernel)
set_option maxRecDepth 65536 in
theorem w_c12 : (Jvm.Cond.code ({ cls := "com/example/libttl/libttl/SetOptions", name := "keepTtl", desc := "()Lcom/example/libttl/libttl/SetOptions;" } : Jvm.MethodName) prog_44_method_9_code (1 : Nat) (Option.some (Jvm.ClassFile.FieldType.object "com/example/libttl/libttl/SetOptions"))).before args0 about1 = true := code_word (m := ⟨2, 8⟩) (meth := k2m8) (c := k2c8) (by decide +kernel) rfl rfl rfl (by decide +kernel)
set_option maxRecDepth 65536 in
theorem w_c13 : (Jvm.Cond.code ({ cls := "com/example/libttl/libttl/SetOptions", name := "nx", desc := "()Lcom/example/libttl/libttl/SetOptions;" } : Jvm.MethodName) prog_44_method_3_code (1 : Nat) (Option.some (Jvm.ClassFile.FieldType.object "com/example/libttl/libttl/SetOptions"))).before args0 about1 = true := code_word (m := ⟨2, 2⟩) (meth := k2m2) (c := k2c2) (by decide +kernel) rfl rfl rfl (by decide +kernel)
set_option maxRecDepth 65536 in
theorem w_c14 : (Jvm.Cond.code ({ cls := "com/example/libttl/libttl/SetOptions", name := "pxAt", desc := "(J)Lcom/example/libttl/libttl/SetOptions;" } : Jvm.MethodName) prog_44_method_8_code (3 : Nat) (Option.some (Jvm.ClassFile.FieldType.object "com/example/libttl/libttl/SetOptions"))).before args0 about1 = true := code_word (m := ⟨2, 7⟩) (meth := k2m7) (c := k2c7) (by decide +kernel) rfl rfl rfl (by decide +kernel)
def codes1 : List Jvm.Cond := [Jvm.Cond.code x code maxLocals ret, Jvm.Cond.code ({ cls := "com/example/libttl/libttl/SetOptions", name := "<init>", desc := "()V" } : Jvm.MethodName) prog_44_method_1_code (1 : Nat) (Option.none : Option Jvm.ClassFile.FieldType), Jvm.Cond.code ({ cls := "com/example/libttl/libttl/SetOptions", name := "<init>", desc := "(ZZZLcom/example/libttl/libttl/TimeForm;J)V" } : Jvm.MethodName) prog_44_method_2_code (7 : Nat) (Option.none : Option Jvm.ClassFile.FieldType), Jvm.Cond.code ({ cls := "java/lang/Object", name := "<init>", desc := "()V" } : Jvm.MethodName) object_method_1_code (1 : Nat) (Option.none : Option Jvm.ClassFile.FieldType), Jvm.Cond.code ({ cls := "com/example/libttl/libttl/SetOptionsAllowPinLaw", name := "condOpt", desc := "(Lcom/example/libttl/libttl/SetOptions;I)Lcom/example/libttl/libttl/SetOptions;" } : Jvm.MethodName) method_2_code (2 : Nat) (Option.some (Jvm.ClassFile.FieldType.object "com/example/libttl/libttl/SetOptions")), Jvm.Cond.code ({ cls := "com/example/libttl/libttl/SetOptionsAllowPinLaw", name := "timeOpt", desc := "(Lcom/example/libttl/libttl/SetOptions;IJ)Lcom/example/libttl/libttl/SetOptions;" } : Jvm.MethodName) method_3_code (4 : Nat) (Option.some (Jvm.ClassFile.FieldType.object "com/example/libttl/libttl/SetOptions")), Jvm.Cond.code ({ cls := "com/example/libttl/libttl/SetOptions", name := "exAt", desc := "(J)Lcom/example/libttl/libttl/SetOptions;" } : Jvm.MethodName) prog_44_method_7_code (3 : Nat) (Option.some (Jvm.ClassFile.FieldType.object "com/example/libttl/libttl/SetOptions")), Jvm.Cond.code ({ cls := "com/example/libttl/libttl/SetOptions", name := "timed", desc := "(Lcom/example/libttl/libttl/TimeForm;J)Lcom/example/libttl/libttl/SetOptions;" } : Jvm.MethodName) prog_44_method_12_code (4 : Nat) (Option.some (Jvm.ClassFile.FieldType.object "com/example/libttl/libttl/SetOptions")), Jvm.Cond.code ({ cls := "com/example/libttl/libttl/SetOptions", name := "allow", desc := "(Z)Z" } : Jvm.MethodName) prog_44_method_13_code (2 : Nat) (Option.some Jvm.ClassFile.FieldType.boolean), Jvm.Cond.code ({ cls := "com/example/libttl/libttl/SetOptions", name := "xx", desc := "()Lcom/example/libttl/libttl/SetOptions;" } : Jvm.MethodName) prog_44_method_4_code (1 : Nat) (Option.some (Jvm.ClassFile.FieldType.object "com/example/libttl/libttl/SetOptions")), Jvm.Cond.code ({ cls := "com/example/libttl/libttl/SetOptions", name := "px", desc := "(J)Lcom/example/libttl/libttl/SetOptions;" } : Jvm.MethodName) prog_44_method_6_code (3 : Nat) (Option.some (Jvm.ClassFile.FieldType.object "com/example/libttl/libttl/SetOptions")), Jvm.Cond.code ({ cls := "com/example/libttl/libttl/SetOptions", name := "ex", desc := "(J)Lcom/example/libttl/libttl/SetOptions;" } : Jvm.MethodName) prog_44_method_5_code (3 : Nat) (Option.some (Jvm.ClassFile.FieldType.object "com/example/libttl/libttl/SetOptions")), Jvm.Cond.code ({ cls := "com/example/libttl/libttl/SetOptions", name := "keepTtl", desc := "()Lcom/example/libttl/libttl/SetOptions;" } : Jvm.MethodName) prog_44_method_9_code (1 : Nat) (Option.some (Jvm.ClassFile.FieldType.object "com/example/libttl/libttl/SetOptions")), Jvm.Cond.code ({ cls := "com/example/libttl/libttl/SetOptions", name := "nx", desc := "()Lcom/example/libttl/libttl/SetOptions;" } : Jvm.MethodName) prog_44_method_3_code (1 : Nat) (Option.some (Jvm.ClassFile.FieldType.object "com/example/libttl/libttl/SetOptions")), Jvm.Cond.code ({ cls := "com/example/libttl/libttl/SetOptions", name := "pxAt", desc := "(J)Lcom/example/libttl/libttl/SetOptions;" } : Jvm.MethodName) prog_44_method_8_code (3 : Nat) (Option.some (Jvm.ClassFile.FieldType.object "com/example/libttl/libttl/SetOptions"))]
set_option maxRecDepth 65536 in
theorem codes_eq : words1.filter isCode = codes1 := rfl
theorem w_codes : ∀ c ∈ words1.filter isCode, c.before args0 about1 = true := by
  rw [codes_eq]
  intro c hc
  simp only [codes1, List.mem_cons, List.not_mem_nil, or_false] at hc
  rcases hc with rfl | rfl | rfl | rfl | rfl | rfl | rfl | rfl | rfl | rfl | rfl | rfl | rfl | rfl | rfl
  · exact w_c0
  · exact w_c1
  · exact w_c2
  · exact w_c3
  · exact w_c4
  · exact w_c5
  · exact w_c6
  · exact w_c7
  · exact w_c8
  · exact w_c9
  · exact w_c10
  · exact w_c11
  · exact w_c12
  · exact w_c13
  · exact w_c14
set_option maxRecDepth 65536 in
theorem w_t1 : (words1.take 24).all (fun c => isCode c || c.before args0 about1) = true := by decide +kernel
set_option maxRecDepth 65536 in
theorem w_t2 : ((words1.drop 24).take 24).all (fun c => isCode c || c.before args0 about1) = true := by decide +kernel
set_option maxRecDepth 65536 in
theorem w_t3 : (((words1.drop 24).drop 24).take 24).all (fun c => isCode c || c.before args0 about1) = true := by decide +kernel
set_option maxRecDepth 65536 in
theorem w_t4 : (((words1.drop 24).drop 24).drop 24).all (fun c => isCode c || c.before args0 about1) = true := by decide +kernel
theorem w_tables : (allAtoms (Jvm.Cond.code x code maxLocals ret :: tables_1)).before args0 about1 = true := by
  rw [allAtoms_all]
  show words1.all (fun c => c.before args0 about1) = true
  refine all_split ?_ w_codes
  rw [← List.take_append_drop 24 words1, List.all_append, w_t1, ← List.take_append_drop 24 (words1.drop 24), List.all_append, w_t2, ← List.take_append_drop 24 ((words1.drop 24).drop 24), List.all_append, w_t3, w_t4]
  rfl
set_option maxRecDepth 65536 in
theorem w_case : (Jvm.Cond.and given_1 narrow_1).before args0 about1 = true := by decide +kernel
theorem w_applies : (headSpec (Jvm.Cond.code x code maxLocals ret :: tables_1) room_1).applies x e0.platform about1 = true :=
  (Spec.applies_iff w_frames).mpr ⟨w_running, w_runnable, w_alone, w_named, w_hears, w_ripe, w_room, w_tables⟩
theorem atStart : AtStart classFile x code maxLocals ret World_1 tables_1 room_1 Calls_1 rest_1 Pre_1 launch0 p0 e0 about1 theMethod args0 below0 :=
  ⟨lists_1, trivial, launch0.admits_env _ _ _, launch0.least_env, fairChoices_fair.cas, fairChoices_fair.clock, w_frames, w_args, w_heap, w_applies, trivial, trivial, w_case⟩
end start1
theorem witness_1 : WitnessClaimed_1 := ⟨start1.p0, start1.e0, start1.about1, start1.theMethod, start1.args0, start1.below0, start1.atStart⟩
end Jvm.Pilot.@@N@@
