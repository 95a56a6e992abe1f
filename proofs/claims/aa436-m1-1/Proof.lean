import JvmDerived
import JvmDerived.Pilot.@@N@@Statement
import JvmDerived.Pilot.@@N@@Code
set_option linter.unusedVariables false
set_option linter.unusedSimpArgs false
namespace Jvm.Pilot.@@N@@
open Jvm Jvm.ClassFile Sem Op Lib Jvm.Free Jvm.Stand Jvm.LawKit Jvm.RoadKit Bundle Jvm.Pilot.@@N@@.Jvm.D
section OwnGo
variable {p : Program} {l : Launch} {e : Env} {R : Room} {s : State} {m : MethodId} {args : Array Value} {below : List Frame} {meth : Method} {c : Code} {T : State} {locs : List Loc} {cells slots : Nat} {Q : Option Value → Heap → List Loc → Prop} {kc ks : Nat}
/-- from this state the body runs to its return, and Q holds of what it leaves -/
def own_Go (p : Program) (e : Env) (below : List Frame) (s : State) (Q : Option Value → Heap → List Loc → Prop) (kc ks : Nat) (S : State) : Prop :=
  ∃ s₂ o, Steps p.tables e below S s₂ ∧ s₂.status = .running ∧ Ended s₂ below o ∧ ∃ v L, o = .returned v ∧ Q v s₂.heap L ∧ FrameEnd s o s₂ L kc ks
theorem own_st {A B : State} (f : ∀ t, Steps p.tables e below A t → Steps p.tables e below B t) (h : own_Go p e below s Q kc ks A) : own_Go p e below s Q kc ks B := by
  obtain ⟨s₂, o, h1, h2⟩ := h
  exact ⟨s₂, o, f _ h1, h2⟩
theorem own_mono {S : State} {Q' : Option Value → Heap → List Loc → Prop} (h : own_Go p e below s Q kc ks S) (f : ∀ v h L, Q v h L → Q' v h L) : own_Go p e below s Q' kc ks S := by
  obtain ⟨s₂, o, h1, h2, h3, v, L, h4, h5, h6⟩ := h
  exact ⟨s₂, o, h1, h2, h3, v, L, h4, f _ _ _ h5, h6⟩
theorem own_retN (X : Stand p l e R s m args below meth c T locs cells slots) (hx : p.tables.exec = Jvm.exec) (hlk : meth.locks = false) {pc : Nat} {Ls : Array Slot} {z : Int32} {t : FieldType} {rest : List Value} (hret : meth.sig.returnType = some t) (ht : t = .boolean ∨ t = .byte ∨ t = .char ∨ t = .short)
    (hd : decode c.code pc = .ok (.ireturn, 1)) (hq : Q (some (.int (nar t z))) T.heap locs) (hc : cells ≤ kc) (hs : slots ≤ ks) : own_Go p e below s Q kc ks (T.setTop (mkF m pc Ls (.int z :: rest))) := by
  obtain ⟨fs, hr, hrun, hended, hW, hsame⟩ := X.leave (v := some (.int (nar t z))) (fun h => by rw [hret] at h; cases h) hlk
  exact ⟨_, _, retN X hx hret ht hd hr, hrun, hended, _, _, rfl, hq, ⟨_, rfl⟩, hW, hsame.mono hc hs⟩
theorem own_retI (X : Stand p l e R s m args below meth c T locs cells slots) (hx : p.tables.exec = Jvm.exec) (hlk : meth.locks = false) {pc : Nat} {Ls : Array Slot} {z : Int32} {rest : List Value} (hret : meth.sig.returnType = some .int)
    (hd : decode c.code pc = .ok (.ireturn, 1)) (hq : Q (some (.int z)) T.heap locs) (hc : cells ≤ kc) (hs : slots ≤ ks) : own_Go p e below s Q kc ks (T.setTop (mkF m pc Ls (.int z :: rest))) := by
  obtain ⟨fs, hr, hrun, hended, hW, hsame⟩ := X.leave (v := some (.int z)) (fun h => by rw [hret] at h; cases h) hlk
  exact ⟨_, _, retOut X hx hret rfl (Or.inl ⟨rfl, Or.inl rfl, z, rfl⟩) hd hr, hrun, hended, _, _, rfl, hq, ⟨_, rfl⟩, hW, hsame.mono hc hs⟩
theorem own_retJ (X : Stand p l e R s m args below meth c T locs cells slots) (hx : p.tables.exec = Jvm.exec) (hlk : meth.locks = false) {pc : Nat} {Ls : Array Slot} {z : Int64} {rest : List Value} (hret : meth.sig.returnType = some .long)
    (hd : decode c.code pc = .ok (.lreturn, 1)) (hq : Q (some (.long z)) T.heap locs) (hc : cells ≤ kc) (hs : slots ≤ ks) : own_Go p e below s Q kc ks (T.setTop (mkF m pc Ls (.long z :: rest))) := by
  obtain ⟨fs, hr, hrun, hended, hW, hsame⟩ := X.leave (v := some (.long z)) (fun h => by rw [hret] at h; cases h) hlk
  exact ⟨_, _, retOut X hx hret rfl (Or.inr (Or.inl ⟨rfl, rfl, z, rfl⟩)) hd hr, hrun, hended, _, _, rfl, hq, ⟨_, rfl⟩, hW, hsame.mono hc hs⟩
theorem own_retA (X : Stand p l e R s m args below meth c T locs cells slots) (hx : p.tables.exec = Jvm.exec) (hlk : meth.locks = false) {pc : Nat} {Ls : Array Slot} {w : Value} {t : FieldType} {rest : List Value} (hret : meth.sig.returnType = some t) (ht : t.isReference = true) (hw : w.isRef = true)
    (hd : decode c.code pc = .ok (.areturn, 1)) (hq : Q (some w) T.heap locs) (hc : cells ≤ kc) (hs : slots ≤ ks) : own_Go p e below s Q kc ks (T.setTop (mkF m pc Ls (w :: rest))) := by
  obtain ⟨fs, hr, hrun, hended, hW, hsame⟩ := X.leave (v := some w) (fun h => by rw [hret] at h; cases h) hlk
  exact ⟨_, _, retOut X hx hret (by rcases ref_cases hw with rfl | ⟨a, rfl⟩ <;> cases t <;> first | rfl | cases ht) (Or.inr (Or.inr (Or.inr (Or.inr ⟨rfl, ht, hw⟩)))) hd hr, hrun, hended, _, _, rfl, hq, ⟨_, rfl⟩, hW, hsame.mono hc hs⟩
theorem own_retV (X : Stand p l e R s m args below meth c T locs cells slots) (hx : p.tables.exec = Jvm.exec) (hlk : meth.locks = false) {pc : Nat} {Ls : Array Slot} (hret : meth.sig.returnType = none)
    (hd : decode c.code pc = .ok (.return_, 1)) (hq : Q none T.heap locs) (hc : cells ≤ kc) (hs : slots ≤ ks) : own_Go p e below s Q kc ks (T.setTop (mkF m pc Ls [])) := by
  obtain ⟨fs, hr, hrun, hended, hW, hsame⟩ := X.leave (v := none) (fun _ => rfl) hlk
  exact ⟨_, _, X.returnOut hx hret hd hr, hrun, hended, _, _, rfl, hq, ⟨_, rfl⟩, hW, hsame.mono hc hs⟩
end OwnGo
section OwnWords
variable {args : Array Value} {s : State} {t i : Term} {a b : Addr} {C n d : String} {k : Int32} {cl : Cell} {ty : FieldType}
theorem own_fldI (ev : t.eval args s none [] s = some (.ref a)) (h : (Jvm.Cond.eq (Term.field t C n d) (Term.int k)).value args s none s [] = some true) : Fld s s.heap a C n d (.int k) := by
  have e1 := fld_at (C := C) (n := n) (dd := d) ev
  have e2 := Term.int_eval (args := args) (first := s) (o := none) (idx := []) (s := s) k
  refine Fld.start ?_
  cases hv : s.fieldOf? a C n d with
  | none => rw [hv] at e1; simp [Jvm.Cond.value, e1] at h
  | some v => rw [hv] at e1; cases v <;> simp [Jvm.Cond.value, e1, e2] at h; rw [h]
theorem own_len (ev : t.eval args s none [] s = some (.ref a)) (A : Arr s s.heap a cl ty) (h : (Jvm.Cond.eq (Term.length t) (Term.int k)).value args s none s [] = some true) : cl.slots.size < 2 ^ 31 ∧ cl.slots.size.toInt32 = k := by
  have e2 := Term.int_eval (args := args) (first := s) (o := none) (idx := []) (s := s) k
  have e0 := A.fin (Vm.Alike.refl _)
  by_cases hl : cl.slots.size < 2 ^ 31
  · have e1 := len_f ev e0 hl
    simp [Jvm.Cond.value, e1, e2] at h
    exact ⟨hl, h⟩
  · have e1 : (Term.length t).eval args s none [] s = none := by simp [Term.eval, ev, e0]; omega
    simp [Jvm.Cond.value, e1] at h
theorem own_elem {v : Value} (ev : t.eval args s none [] s = some (.ref a)) (A : Arr s s.heap a cl ty) {u : Term} (eu : u.eval args s none [] s = some v) (hv : v.isRef = true) (h : (Jvm.Cond.eq (Term.elem t (Term.int k)) u).value args s none s [] = some true) : cl.slots[k.toNatClampNeg]? = some v := by
  have e2 := Term.int_eval (args := args) (first := s) (o := none) (idx := []) (s := s) k
  obtain ⟨x, y, hx, hy, -, -⟩ := cmp_v (Or.inl h)
  cases eu.symm.trans hy
  obtain ⟨-, q⟩ := elem_in hx ev e2 A.1
  have hk : x.isRef = true := by
    cases x <;> rcases ref_cases hv with rfl | ⟨z, rfl⟩ <;> simp [Jvm.Cond.value, hx, hy] at h ⊢ <;> rfl
  rw [q, gotT (eq_R hx hy hk hv) h]
theorem own_elemR (ev : t.eval args s none [] s = some (.ref a)) (A : Arr s s.heap a cl ty) {u : Term} (eu : u.eval args s none [] s = some (.ref b)) (h : (Jvm.Cond.eq (Term.elem t (Term.int k)) u).value args s none s [] = some true) : cl.slots[k.toNatClampNeg]? = some (.ref b) := own_elem ev A eu rfl h
theorem own_elemN (ev : t.eval args s none [] s = some (.ref a)) (A : Arr s s.heap a cl ty) (h : (Jvm.Cond.eq (Term.elem t (Term.int k)) .null).value args s none s [] = some true) : cl.slots[k.toNatClampNeg]? = some .null := own_elem ev A null_at rfl h
end OwnWords
section OwnMore
theorem own_privSel {s : State} {args : Array Value} {y z z' : MethodName} {C : String} (hs : (Jvm.Cond.selects C z' z).before args s = true) (e : z.cls = y.cls) (hpriv : s.PrivateAt y) (hinst : (Jvm.Cond.instanceMethod y).before args s = true) (hy : y.cls ≠ "java/lang/invoke/MethodHandle" ∧ y.cls ≠ "java/lang/invoke/VarHandle") : (Jvm.Cond.selects y.cls y y).before args s = true := by
  obtain ⟨c, r, m, -, -, h3, -, mk, h5, h6⟩ := Cond.selects_spec hs
  exact selects_self_of_private (e ▸ findClass_of_methodNamed h3) h5 h6 hpriv hinst hy
theorem own_nar_boolean {x : Int32} (h : nar .boolean x = x) : narrow .boolean (.int x) = .int x := congrArg Value.int h
theorem own_fits_boolean {x : Int32} (h : nar .boolean x = x) : fits .boolean (.int x) = true := h ▸ fits_nar_bool x
theorem own_nar_char {x : Int32} (h : nar .char x = x) : narrow .char (.int x) = .int x := congrArg Value.int h
theorem own_fits_char {x : Int32} (h : nar .char x = x) : fits .char (.int x) = true := h ▸ fits_nar_char x
theorem own_nar_ref {v : Value} {C : String} (h : v.isRef = true) : narrow (.object C) v = v := by rcases ref_cases h with rfl | ⟨a, rfl⟩ <;> rfl
theorem own_fits_ref {v : Value} {C : String} (h : v.isRef = true) : fits (.object C) v = true := by rcases ref_cases h with rfl | ⟨a, rfl⟩ <;> rfl
theorem own_c1 {v : Value} (h : v.isRef = true) : v.category = 1 := by rcases ref_cases h with rfl | ⟨a, rfl⟩ <;> rfl
theorem own_ext_of_keep {h h' : Heap} (K : Keep h h' []) : Ext h h' := ⟨K.1, fun a c q => K.2.1 a c q nin0⟩
theorem own_ext_refl (h : Heap) : Ext h h := ⟨Nat.le_refl _, fun _ _ q => q⟩
theorem own_ext_trans {h h' h'' : Heap} (E : Ext h h') (E' : Ext h' h'') : Ext h h'' := ⟨Nat.le_trans E.1 E'.1, fun a c q => E'.2 a c (E.2 a c q)⟩
end OwnMore
def QLaw (n0 : Nat) (v : Option Value) (h : Heap) (L : List Loc) : Prop := v = some (.int 1) ∧ Fr n0 L
def Qv (w : Value) (h0 : Heap) (n0 : Nat) (v : Option Value) (h : Heap) (L : List Loc) : Prop := v = some w ∧ Fr n0 L ∧ h = h0
def Qe (w : Value) (h0 : Heap) (n0 : Nat) (v : Option Value) (h : Heap) (L : List Loc) : Prop := v = some w ∧ Fr n0 L ∧ Ext h0 h
def Qz (h0 : Heap) (n0 : Nat) (v : Option Value) (h : Heap) (L : List Loc) : Prop := ∃ z : Int32, v = some (.int z) ∧ Fr n0 L ∧ h = h0
def Qa (Z : State) (cl : Cell) (h0 : Heap) (n0 : Nat) (v : Option Value) (h : Heap) (L : List Loc) : Prop := ∃ b, v = some (.ref b) ∧ Fr n0 L ∧ Ext h0 h ∧ Arr Z h b (cloneOf cl) (.object "com/example/upfront_duty/upfrontduty/algebra/Names$Escape")
theorem d2_0 : decode method_3_code 0 = .ok (.iload_n 0, 1) := by decide +kernel
theorem d2_1 : decode method_3_code 1 = .ok (.bipush 34, 2) := by decide +kernel
theorem d2_3 : decode method_3_code 3 = .ok (.if_icmp .ne 7, 3) := by decide +kernel
theorem d2_6 : decode method_3_code 6 = .ok (.getstatic 7, 3) := by decide +kernel
theorem d2_9 : decode method_3_code 9 = .ok (.areturn, 1) := by decide +kernel
theorem d2_10 : decode method_3_code 10 = .ok (.iload_n 0, 1) := by decide +kernel
theorem d2_11 : decode method_3_code 11 = .ok (.bipush 92, 2) := by decide +kernel
theorem d2_13 : decode method_3_code 13 = .ok (.if_icmp .ne 7, 3) := by decide +kernel
theorem d2_16 : decode method_3_code 16 = .ok (.getstatic 13, 3) := by decide +kernel
theorem d2_19 : decode method_3_code 19 = .ok (.areturn, 1) := by decide +kernel
theorem d2_20 : decode method_3_code 20 = .ok (.iload_n 0, 1) := by decide +kernel
theorem d2_21 : decode method_3_code 21 = .ok (.bipush 10, 2) := by decide +kernel
theorem d2_23 : decode method_3_code 23 = .ok (.if_icmp .ne 7, 3) := by decide +kernel
theorem d2_26 : decode method_3_code 26 = .ok (.getstatic 16, 3) := by decide +kernel
theorem d2_29 : decode method_3_code 29 = .ok (.areturn, 1) := by decide +kernel
theorem d2_30 : decode method_3_code 30 = .ok (.iload_n 0, 1) := by decide +kernel
theorem d2_31 : decode method_3_code 31 = .ok (.bipush 13, 2) := by decide +kernel
theorem d2_33 : decode method_3_code 33 = .ok (.if_icmp .ne 7, 3) := by decide +kernel
theorem d2_36 : decode method_3_code 36 = .ok (.getstatic 19, 3) := by decide +kernel
theorem d2_39 : decode method_3_code 39 = .ok (.areturn, 1) := by decide +kernel
theorem d2_40 : decode method_3_code 40 = .ok (.aconst_null, 1) := by decide +kernel
theorem d2_41 : decode method_3_code 41 = .ok (.areturn, 1) := by decide +kernel
theorem pn_com_2fexample_2fupfront_duty_2fupfrontduty_2falgebra_2fEscapeOfCharacterPinLaw : plainName "com/example/upfront_duty/upfrontduty/algebra/EscapeOfCharacterPinLaw" = true := by first | (simp [plainName, overriddenIn]; done) | decide +kernel
theorem ef_rmX (mM : MethodId) (ch : Int32) (a1 : Addr) (a2 : Addr) (a3 : Addr) (a4 : Addr) (w : Value) : entryFrame mM #[(.int ch)] 1 = mkF mM 0 #[.val (.int ch)] [] := by first | (simp [entryFrame, mkF, argsToLocals, Value.category]; done) | rfl
set_option maxRecDepth 65536 in
set_option maxHeartbeats 40000000 in
theorem rmX (lL : Launch) (Z : State) (a0 : Array Value) (hw : ∀ d ∈ tables_1, d.before a0 Z = true) (ws : List Jvm.Cond) (ch : Int32) (a1 : Addr) (a2 : Addr) (a3 : Addr) (a4 : Addr) (w : Value) (h0 : Heap) (n0 : Nat) (S_QUOTE : Sta Z h0 "com/example/upfront_duty/upfrontduty/algebra/Names$Escape" "QUOTE" "Lcom/example/upfront_duty/upfrontduty/algebra/Names$Escape;" (.ref a1)) (S_BACKSLASH : Sta Z h0 "com/example/upfront_duty/upfrontduty/algebra/Names$Escape" "BACKSLASH" "Lcom/example/upfront_duty/upfrontduty/algebra/Names$Escape;" (.ref a2)) (S_LINE_FEED : Sta Z h0 "com/example/upfront_duty/upfrontduty/algebra/Names$Escape" "LINE_FEED" "Lcom/example/upfront_duty/upfrontduty/algebra/Names$Escape;" (.ref a3)) (S_CARRIAGE_RETURN : Sta Z h0 "com/example/upfront_duty/upfrontduty/algebra/Names$Escape" "CARRIAGE_RETURN" "Lcom/example/upfront_duty/upfrontduty/algebra/Names$Escape;" (.ref a4)) (s1 : ch = (34 : Int32) → w = .ref a1) (s2 : ch = (92 : Int32) → w = .ref a2) (s3 : ch = (10 : Int32) → w = .ref a3) (s4 : ch = (13 : Int32) → w = .ref a4) (s0 : ¬ ch = (34 : Int32) → ¬ ch = (92 : Int32) → ¬ ch = (10 : Int32) → ¬ ch = (13 : Int32) → w = .null) :
    MetFree lL (⟨"com/example/upfront_duty/upfrontduty/algebra/EscapeOfCharacterPinLaw", "expected", "(C)Lcom/example/upfront_duty/upfrontduty/algebra/Names$Escape;"⟩ : MethodName) (head1 (Jvm.Cond.code (⟨"com/example/upfront_duty/upfrontduty/algebra/EscapeOfCharacterPinLaw", "expected", "(C)Lcom/example/upfront_duty/upfrontduty/algebra/Names$Escape;"⟩ : MethodName) method_3_code 1 (some (.object "com/example/upfront_duty/upfrontduty/algebra/Names$Escape")) :: ws) ({ frames := 0, cells := 0, slots := 0, locals := 0 } : Room)) (fun as_ uU_ => as_ = #[(.int ch)] ∧ Z.Warmed39 uU_.vm ∧ uU_.heap = h0) (fun _ _ _ _ _ => True) (fun _ uU_ oO_ uE_ => ∃ vV_ lL_, oO_ = .returned vV_ ∧ Qv w h0 n0 vV_ uE_.heap lL_ ∧ FrameEnd uU_ oO_ uE_ lL_ ({ frames := 0, cells := 0, slots := 0, locals := 0 } : Room).cells ({ frames := 0, cells := 0, slots := 0, locals := 0 } : Room).slots) := by
  refine MetFree.of_bodySF (plainFor_of_name pn_com_2fexample_2fupfront_duty_2fupfrontduty_2falgebra_2fEscapeOfCharacterPinLaw) hisR ?_
  intro pP eE sS mM args below meth cC s₁ Bd hml0 hP hK
  obtain ⟨rfl, hZ, hh⟩ := hP
  have hx := Bd.exec
  have hby := Bd.bytes
  have hml : cC.maxLocals = 1 := hml0
  have hown : sS.vm.findClass "com/example/upfront_duty/upfrontduty/algebra/EscapeOfCharacterPinLaw" = some mM.cls := findClass_of_methodNamed Bd.named
  have hnm := (name_of_methodNamed Bd.named Bd.method).1
  have hret := Bd.returns
  have hlk := BodyLoose.notSynchronized Bd
  have X0 : Stand pP lL eE ({ frames := 0, cells := 0, slots := 0, locals := 0 } : Room) sS mM #[(.int ch)] below meth cC s₁ [] 0 0 := Stand.of_body Bd
  have e0 : s₁.heap = h0 := by rw [← hh, Bd.state]; rfl
  have N0 := Fr.nil n0
  show own_Go pP eE below sS (Qv w h0 n0) 0 0 (s₁.setTop (entryFrame mM #[(.int ch)] 1))
  refine own_st (A := s₁.setTop (mkF mM 0 #[.val (.int ch)] [])) (fun tT_ kK_ => castTop (ef_rmX mM ch a1 a2 a3 a4 w) kK_) ?_
  refine own_st (A := s₁.setTop (mkF mM 1 #[.val (.int ch)] [(.int ch)])) (fun tT_ kK_ => XS.iloadN X0.here hx rfl (hb hby d2_0) rfl kK_) ?_
  refine own_st (A := s₁.setTop (mkF mM 3 #[.val (.int ch)] [(.int (34 : Int32)), (.int ch)])) (fun tT_ kK_ => XS.bipush X0.here hx rfl (hb hby d2_1) kK_) ?_
  by_cases hc3_1 : ch = (34 : Int32)
  · skip
    refine own_st (A := s₁.setTop (mkF mM 6 #[.val (.int ch)] [])) (fun tT_ kK_ => XS.icmpNo X0.here hx rfl (hb hby d2_3) rfl (teq hc3_1).2 kK_) ?_
    obtain ⟨T2, X2, e2, st2⟩ := getS2 X0 hx hZ hown (host := "") (Or.inl (hw _ (List.mem_of_getElem? (i := 7) rfl))) Via.refl e0 S_QUOTE (g := (mkF mM 6 #[.val (.int ch)] [])) rfl (hb hby d2_6)
    refine own_st (A := T2.setTop (mkF mM 9 #[.val (.int ch)] [(.ref a1)])) (fun tT_ kK_ => st2 tT_ kK_) ?_
    exact own_retA X2 hx hlk hret rfl rfl (hb hby d2_9) (by rw [s1 hc3_1]; exact ⟨rfl, N0, e2⟩) (by decide) (by decide)
  · skip
    refine own_st (A := s₁.setTop (mkF mM 10 #[.val (.int ch)] [])) (fun tT_ kK_ => XS.icmpYes X0.here hx rfl (pc0 := 3) (pc' := 10) rfl (hb hby d2_3) rfl (feq hc3_1).2 (by decide) (by decide) kK_) ?_
    refine own_st (A := s₁.setTop (mkF mM 11 #[.val (.int ch)] [(.int ch)])) (fun tT_ kK_ => XS.iloadN X0.here hx rfl (hb hby d2_10) rfl kK_) ?_
    refine own_st (A := s₁.setTop (mkF mM 13 #[.val (.int ch)] [(.int (92 : Int32)), (.int ch)])) (fun tT_ kK_ => XS.bipush X0.here hx rfl (hb hby d2_11) kK_) ?_
    by_cases hc13_3 : ch = (92 : Int32)
    · skip
      refine own_st (A := s₁.setTop (mkF mM 16 #[.val (.int ch)] [])) (fun tT_ kK_ => XS.icmpNo X0.here hx rfl (hb hby d2_13) rfl (teq hc13_3).2 kK_) ?_
      obtain ⟨T4, X4, e4, st4⟩ := getS2 X0 hx hZ hown (host := "") (Or.inl (hw _ (List.mem_of_getElem? (i := 34) rfl))) Via.refl e0 S_BACKSLASH (g := (mkF mM 16 #[.val (.int ch)] [])) rfl (hb hby d2_16)
      refine own_st (A := T4.setTop (mkF mM 19 #[.val (.int ch)] [(.ref a2)])) (fun tT_ kK_ => st4 tT_ kK_) ?_
      exact own_retA X4 hx hlk hret rfl rfl (hb hby d2_19) (by rw [s2 hc13_3]; exact ⟨rfl, N0, e4⟩) (by decide) (by decide)
    · skip
      refine own_st (A := s₁.setTop (mkF mM 20 #[.val (.int ch)] [])) (fun tT_ kK_ => XS.icmpYes X0.here hx rfl (pc0 := 13) (pc' := 20) rfl (hb hby d2_13) rfl (feq hc13_3).2 (by decide) (by decide) kK_) ?_
      refine own_st (A := s₁.setTop (mkF mM 21 #[.val (.int ch)] [(.int ch)])) (fun tT_ kK_ => XS.iloadN X0.here hx rfl (hb hby d2_20) rfl kK_) ?_
      refine own_st (A := s₁.setTop (mkF mM 23 #[.val (.int ch)] [(.int (10 : Int32)), (.int ch)])) (fun tT_ kK_ => XS.bipush X0.here hx rfl (hb hby d2_21) kK_) ?_
      by_cases hc23_5 : ch = (10 : Int32)
      · skip
        refine own_st (A := s₁.setTop (mkF mM 26 #[.val (.int ch)] [])) (fun tT_ kK_ => XS.icmpNo X0.here hx rfl (hb hby d2_23) rfl (teq hc23_5).2 kK_) ?_
        obtain ⟨T6, X6, e6, st6⟩ := getS2 X0 hx hZ hown (host := "") (Or.inl (hw _ (List.mem_of_getElem? (i := 35) rfl))) Via.refl e0 S_LINE_FEED (g := (mkF mM 26 #[.val (.int ch)] [])) rfl (hb hby d2_26)
        refine own_st (A := T6.setTop (mkF mM 29 #[.val (.int ch)] [(.ref a3)])) (fun tT_ kK_ => st6 tT_ kK_) ?_
        exact own_retA X6 hx hlk hret rfl rfl (hb hby d2_29) (by rw [s3 hc23_5]; exact ⟨rfl, N0, e6⟩) (by decide) (by decide)
      · skip
        refine own_st (A := s₁.setTop (mkF mM 30 #[.val (.int ch)] [])) (fun tT_ kK_ => XS.icmpYes X0.here hx rfl (pc0 := 23) (pc' := 30) rfl (hb hby d2_23) rfl (feq hc23_5).2 (by decide) (by decide) kK_) ?_
        refine own_st (A := s₁.setTop (mkF mM 31 #[.val (.int ch)] [(.int ch)])) (fun tT_ kK_ => XS.iloadN X0.here hx rfl (hb hby d2_30) rfl kK_) ?_
        refine own_st (A := s₁.setTop (mkF mM 33 #[.val (.int ch)] [(.int (13 : Int32)), (.int ch)])) (fun tT_ kK_ => XS.bipush X0.here hx rfl (hb hby d2_31) kK_) ?_
        by_cases hc33_7 : ch = (13 : Int32)
        · skip
          refine own_st (A := s₁.setTop (mkF mM 36 #[.val (.int ch)] [])) (fun tT_ kK_ => XS.icmpNo X0.here hx rfl (hb hby d2_33) rfl (teq hc33_7).2 kK_) ?_
          obtain ⟨T8, X8, e8, st8⟩ := getS2 X0 hx hZ hown (host := "") (Or.inl (hw _ (List.mem_of_getElem? (i := 33) rfl))) Via.refl e0 S_CARRIAGE_RETURN (g := (mkF mM 36 #[.val (.int ch)] [])) rfl (hb hby d2_36)
          refine own_st (A := T8.setTop (mkF mM 39 #[.val (.int ch)] [(.ref a4)])) (fun tT_ kK_ => st8 tT_ kK_) ?_
          exact own_retA X8 hx hlk hret rfl rfl (hb hby d2_39) (by rw [s4 hc33_7]; exact ⟨rfl, N0, e8⟩) (by decide) (by decide)
        · skip
          refine own_st (A := s₁.setTop (mkF mM 40 #[.val (.int ch)] [])) (fun tT_ kK_ => XS.icmpYes X0.here hx rfl (pc0 := 33) (pc' := 40) rfl (hb hby d2_33) rfl (feq hc33_7).2 (by decide) (by decide) kK_) ?_
          refine own_st (A := s₁.setTop (mkF mM 41 #[.val (.int ch)] [.null])) (fun tT_ kK_ => XS.aconstNull X0.here hx rfl (hb hby d2_40) kK_) ?_
          exact own_retA X0 hx hlk hret rfl rfl (hb hby d2_41) (by rw [s0 hc3_1 hc13_3 hc23_5 hc33_7]; exact ⟨rfl, N0, e0⟩) (by decide) (by decide)
theorem d4_0 : decode prog_17_method_1_code 0 = .ok (.getstatic 16, 3) := by decide +kernel
theorem d4_3 : decode prog_17_method_1_code 3 = .ok (.invokevirtual 20, 3) := by decide +kernel
theorem d4_6 : decode prog_17_method_1_code 6 = .ok (.checkcast 21, 3) := by decide +kernel
theorem d4_9 : decode prog_17_method_1_code 9 = .ok (.areturn, 1) := by decide +kernel
theorem pn_com_2fexample_2fupfront_duty_2fupfrontduty_2falgebra_2fNames_24Escape : plainName "com/example/upfront_duty/upfrontduty/algebra/Names$Escape" = true := by first | (simp [plainName, overriddenIn]; done) | decide +kernel
theorem ef_rmV (mM : MethodId) (t : Addr) (cl : Cell) : entryFrame mM #[] 0 = mkF mM 0 #[] [] := by first | (simp [entryFrame, mkF, argsToLocals, Value.category]; done) | rfl
set_option maxRecDepth 65536 in
set_option maxHeartbeats 40000000 in
theorem rmV (lL : Launch) (Z : State) (a0 : Array Value) (hw : ∀ d ∈ tables_1, d.before a0 Z = true) (ws : List Jvm.Cond) (t : Addr) (cl : Cell) (h0 : Heap) (n0 : Nat) (S_V : Sta Z h0 "com/example/upfront_duty/upfrontduty/algebra/Names$Escape" "$VALUES" "[Lcom/example/upfront_duty/upfrontduty/algebra/Names$Escape;" (.ref t)) (Ar : Arr Z h0 t cl (.object "com/example/upfront_duty/upfrontduty/algebra/Names$Escape")) (Ex : Exa Z h0 t "[Lcom/example/upfront_duty/upfrontduty/algebra/Names$Escape;") (FC : FitC Z cl) (sz : cl.slots.size = (4 : Int32).toNatClampNeg) :
    MetFree lL (⟨"com/example/upfront_duty/upfrontduty/algebra/Names$Escape", "values", "()[Lcom/example/upfront_duty/upfrontduty/algebra/Names$Escape;"⟩ : MethodName) (head1 (Jvm.Cond.code (⟨"com/example/upfront_duty/upfrontduty/algebra/Names$Escape", "values", "()[Lcom/example/upfront_duty/upfrontduty/algebra/Names$Escape;"⟩ : MethodName) prog_17_method_1_code 0 (some (.array (.object "com/example/upfront_duty/upfrontduty/algebra/Names$Escape"))) :: ws) ({ frames := 1, cells := 1, slots := 4, locals := 14 } : Room)) (fun as_ uU_ => as_ = #[] ∧ Z.Warmed39 uU_.vm ∧ uU_.heap = h0) (fun _ _ _ _ _ => True) (fun _ uU_ oO_ uE_ => ∃ vV_ lL_, oO_ = .returned vV_ ∧ Qa Z cl h0 n0 vV_ uE_.heap lL_ ∧ FrameEnd uU_ oO_ uE_ lL_ ({ frames := 1, cells := 1, slots := 4, locals := 14 } : Room).cells ({ frames := 1, cells := 1, slots := 4, locals := 14 } : Room).slots) := by
  refine MetFree.of_bodySF (plainFor_of_name pn_com_2fexample_2fupfront_duty_2fupfrontduty_2falgebra_2fNames_24Escape) hisR ?_
  intro pP eE sS mM args below meth cC s₁ Bd hml0 hP hK
  obtain ⟨rfl, hZ, hh⟩ := hP
  have hx := Bd.exec
  have hby := Bd.bytes
  have hml : cC.maxLocals = 0 := hml0
  have hown : sS.vm.findClass "com/example/upfront_duty/upfrontduty/algebra/Names$Escape" = some mM.cls := findClass_of_methodNamed Bd.named
  have hnm := (name_of_methodNamed Bd.named Bd.method).1
  have hret := Bd.returns
  have hlk := BodyLoose.notSynchronized Bd
  have X0 : Stand pP lL eE ({ frames := 1, cells := 1, slots := 4, locals := 14 } : Room) sS mM #[] below meth cC s₁ [] 0 0 := Stand.of_body Bd
  have e0 : s₁.heap = h0 := by rw [← hh, Bd.state]; rfl
  have N0 := Fr.nil n0
  show own_Go pP eE below sS (Qa Z cl h0 n0) 1 4 (s₁.setTop (entryFrame mM #[] 0))
  refine own_st (A := s₁.setTop (mkF mM 0 #[] [])) (fun tT_ kK_ => castTop (ef_rmV mM t cl) kK_) ?_
  obtain ⟨T9, X9, e9, st9⟩ := getS2 X0 hx hZ hown (host := "") (Or.inl (hw _ (List.mem_of_getElem? (i := 16) rfl))) Via.refl e0 S_V (g := (mkF mM 0 #[] [])) rfl (hb hby d4_0)
  refine own_st (A := T9.setTop (mkF mM 3 #[] [(.ref t)])) (fun tT_ kK_ => st9 tT_ kK_) ?_
  obtain ⟨T10, h10, X10, e10, E10, A10, x10, st10⟩ := cloneA X9 hx hZ hown (hw _ (List.mem_of_getElem? (i := 18) rfl)) (hw _ (List.mem_of_getElem? (i := 19) rfl)) (hw _ (List.mem_of_getElem? (i := 23) rfl)) (hw _ (List.mem_of_getElem? (i := 21) rfl)) (hw _ (List.mem_of_getElem? (i := 22) rfl)) (hw _ (List.mem_of_getElem? (i := 24) rfl)) e9 Ar Ex FC (g := (mkF mM 3 #[] [(.ref t)])) rfl (by rw [hml]; rfl) rfl (hb hby d4_3) (by decide) (W := 0) (cap := 4) (by show 2 * 0 + _ ≤ _; exact Nat.le_of_eq rfl) (by decide) (by rw [sz]; decide) (by decide) (by decide)
  obtain ⟨b, gb⟩ : ∃ z, z = h0.size := ⟨_, rfl⟩
  rw [← gb] at A10 x10 st10
  refine own_st (A := T10.setTop (mkF mM 6 #[] [(.ref b)])) (fun tT_ kK_ => st10 tT_ kK_) ?_
  obtain ⟨T11, X11, e11, st11⟩ := castY X10 hx hZ hown (hw _ (List.mem_of_getElem? (i := 29) rfl)) e10 (Ins.self x10) (g := (mkF mM 6 #[] [(.ref b)])) rfl rfl (hb hby d4_6)
  refine own_st (A := T11.setTop (mkF mM 9 #[] [(.ref b)])) (fun tT_ kK_ => st11 tT_ kK_) ?_
  exact own_retA X11 hx hlk hret rfl rfl (hb hby d4_9) (by rw [e11]; exact ⟨b, rfl, N0, E10, A10⟩) (by decide) (by decide)
theorem d3_0 : decode prog_17_method_5_code 0 = .ok (.invokestatic 42, 3) := by decide +kernel
theorem pd__28_29_5bLcom_2fexample_2fupfront_duty_2fupfrontduty_2falgebra_2fNames_24Escape_3b : parseMethodDescriptor "()[Lcom/example/upfront_duty/upfrontduty/algebra/Names$Escape;" = some ⟨[], some (.array (.object "com/example/upfront_duty/upfrontduty/algebra/Names$Escape"))⟩ := by decide +kernel
theorem d3_3 : decode prog_17_method_5_code 3 = .ok (.astore_n 1, 1) := by decide +kernel
theorem d3_4 : decode prog_17_method_5_code 4 = .ok (.aload_n 1, 1) := by decide +kernel
theorem d3_5 : decode prog_17_method_5_code 5 = .ok (.arraylength, 1) := by decide +kernel
theorem d3_6 : decode prog_17_method_5_code 6 = .ok (.istore_n 2, 1) := by decide +kernel
theorem d3_7 : decode prog_17_method_5_code 7 = .ok (.iconst 0, 1) := by decide +kernel
theorem d3_8 : decode prog_17_method_5_code 8 = .ok (.istore_n 3, 1) := by decide +kernel
theorem d3_9 : decode prog_17_method_5_code 9 = .ok (.iload_n 3, 1) := by decide +kernel
theorem d3_10 : decode prog_17_method_5_code 10 = .ok (.iload_n 2, 1) := by decide +kernel
theorem d3_11 : decode prog_17_method_5_code 11 = .ok (.if_icmp .ge 26, 3) := by decide +kernel
theorem d3_14 : decode prog_17_method_5_code 14 = .ok (.aload_n 1, 1) := by decide +kernel
theorem d3_15 : decode prog_17_method_5_code 15 = .ok (.iload_n 3, 1) := by decide +kernel
theorem d3_16 : decode prog_17_method_5_code 16 = .ok (.aaload, 1) := by decide +kernel
theorem d3_17 : decode prog_17_method_5_code 17 = .ok (.astore 4, 2) := by decide +kernel
theorem d3_19 : decode prog_17_method_5_code 19 = .ok (.aload 4, 2) := by decide +kernel
theorem d3_21 : decode prog_17_method_5_code 21 = .ok (.getfield 39, 3) := by decide +kernel
theorem d3_24 : decode prog_17_method_5_code 24 = .ok (.iload_n 0, 1) := by decide +kernel
theorem d3_25 : decode prog_17_method_5_code 25 = .ok (.if_icmp .ne 6, 3) := by decide +kernel
theorem d3_28 : decode prog_17_method_5_code 28 = .ok (.aload 4, 2) := by decide +kernel
theorem d3_30 : decode prog_17_method_5_code 30 = .ok (.areturn, 1) := by decide +kernel
theorem d3_31 : decode prog_17_method_5_code 31 = .ok (.iinc 3 1, 3) := by decide +kernel
theorem d3_34 : decode prog_17_method_5_code 34 = .ok (.goto (-25), 3) := by decide +kernel
theorem d3_37 : decode prog_17_method_5_code 37 = .ok (.aconst_null, 1) := by decide +kernel
theorem d3_38 : decode prog_17_method_5_code 38 = .ok (.areturn, 1) := by decide +kernel
theorem ef_rmO (mM : MethodId) (ch : Int32) (a1 : Addr) (a2 : Addr) (a3 : Addr) (a4 : Addr) (w : Value) (t : Addr) (cl : Cell) : entryFrame mM #[(.int ch)] 5 = mkF mM 0 #[.val (.int ch), .unset, .unset, .unset, .unset] [] := by first | (simp [entryFrame, mkF, argsToLocals, Value.category]; done) | rfl
set_option maxRecDepth 65536 in
set_option maxHeartbeats 40000000 in
theorem rmO (lL : Launch) (Z : State) (a0 : Array Value) (hw : ∀ d ∈ tables_1, d.before a0 Z = true) (ws : List Jvm.Cond) (ch : Int32) (a1 : Addr) (a2 : Addr) (a3 : Addr) (a4 : Addr) (w : Value) (t : Addr) (cl : Cell) (h0 : Heap) (n0 : Nat) (S_V : Sta Z h0 "com/example/upfront_duty/upfrontduty/algebra/Names$Escape" "$VALUES" "[Lcom/example/upfront_duty/upfrontduty/algebra/Names$Escape;" (.ref t)) (Ar : Arr Z h0 t cl (.object "com/example/upfront_duty/upfrontduty/algebra/Names$Escape")) (Ex : Exa Z h0 t "[Lcom/example/upfront_duty/upfrontduty/algebra/Names$Escape;") (FC : FitC Z cl) (sz : cl.slots.size = (4 : Int32).toNatClampNeg) (el0 : cl.slots[(0 : Int32).toNatClampNeg]? = some (.ref a1)) (el1 : cl.slots[(1 : Int32).toNatClampNeg]? = some (.ref a2)) (el2 : cl.slots[(2 : Int32).toNatClampNeg]? = some (.ref a3)) (el3 : cl.slots[(3 : Int32).toNatClampNeg]? = some (.ref a4)) (F1 : Fld Z h0 a1 "com/example/upfront_duty/upfrontduty/algebra/Names$Escape" "character" "C" (.int 34)) (F2 : Fld Z h0 a2 "com/example/upfront_duty/upfrontduty/algebra/Names$Escape" "character" "C" (.int 92)) (F3 : Fld Z h0 a3 "com/example/upfront_duty/upfrontduty/algebra/Names$Escape" "character" "C" (.int 10)) (F4 : Fld Z h0 a4 "com/example/upfront_duty/upfrontduty/algebra/Names$Escape" "character" "C" (.int 13)) (s1 : ch = (34 : Int32) → w = .ref a1) (s2 : ch = (92 : Int32) → w = .ref a2) (s3 : ch = (10 : Int32) → w = .ref a3) (s4 : ch = (13 : Int32) → w = .ref a4) (s0 : ¬ ch = (34 : Int32) → ¬ ch = (92 : Int32) → ¬ ch = (10 : Int32) → ¬ ch = (13 : Int32) → w = .null) :
    MetFree lL (⟨"com/example/upfront_duty/upfrontduty/algebra/Names$Escape", "ofCharacter", "(C)Lcom/example/upfront_duty/upfrontduty/algebra/Names$Escape;"⟩ : MethodName) (head1 (Jvm.Cond.code (⟨"com/example/upfront_duty/upfrontduty/algebra/Names$Escape", "ofCharacter", "(C)Lcom/example/upfront_duty/upfrontduty/algebra/Names$Escape;"⟩ : MethodName) prog_17_method_5_code 5 (some (.object "com/example/upfront_duty/upfrontduty/algebra/Names$Escape")) :: ws) ({ frames := 2, cells := 1, slots := 4, locals := 25 } : Room)) (fun as_ uU_ => as_ = #[(.int ch)] ∧ Z.Warmed39 uU_.vm ∧ uU_.heap = h0) (fun _ _ _ _ _ => True) (fun _ uU_ oO_ uE_ => ∃ vV_ lL_, oO_ = .returned vV_ ∧ Qe w h0 n0 vV_ uE_.heap lL_ ∧ FrameEnd uU_ oO_ uE_ lL_ ({ frames := 2, cells := 1, slots := 4, locals := 25 } : Room).cells ({ frames := 2, cells := 1, slots := 4, locals := 25 } : Room).slots) := by
  refine MetFree.of_bodySF (plainFor_of_name pn_com_2fexample_2fupfront_duty_2fupfrontduty_2falgebra_2fNames_24Escape) hisR ?_
  intro pP eE sS mM args below meth cC s₁ Bd hml0 hP hK
  obtain ⟨rfl, hZ, hh⟩ := hP
  have hx := Bd.exec
  have hby := Bd.bytes
  have hml : cC.maxLocals = 5 := hml0
  have hown : sS.vm.findClass "com/example/upfront_duty/upfrontduty/algebra/Names$Escape" = some mM.cls := findClass_of_methodNamed Bd.named
  have hnm := (name_of_methodNamed Bd.named Bd.method).1
  have hret := Bd.returns
  have hlk := BodyLoose.notSynchronized Bd
  have X0 : Stand pP lL eE ({ frames := 2, cells := 1, slots := 4, locals := 25 } : Room) sS mM #[(.int ch)] below meth cC s₁ [] 0 0 := Stand.of_body Bd
  have e0 : s₁.heap = h0 := by rw [← hh, Bd.state]; rfl
  have N0 := Fr.nil n0
  show own_Go pP eE below sS (Qe w h0 n0) 1 4 (s₁.setTop (entryFrame mM #[(.int ch)] 5))
  refine own_st (A := s₁.setTop (mkF mM 0 #[.val (.int ch), .unset, .unset, .unset, .unset] [])) (fun tT_ kK_ => castTop (ef_rmO mM ch a1 a2 a3 a4 w t cl) kK_) ?_
  obtain ⟨_, _, ⟨T12, L12, k12, n12⟩, -, X12, ⟨Lc12, hQ12, l12, y12, z12⟩, st12⟩ := Jvm.LawKit.callS X0 hx (y := (⟨"com/example/upfront_duty/upfrontduty/algebra/Names$Escape", "values", "()[Lcom/example/upfront_duty/upfrontduty/algebra/Names$Escape;"⟩ : MethodName)) hown (mvT hZ (hw _ (List.mem_of_getElem? (i := 13) rfl))) (mvT hZ (hw _ (List.mem_of_getElem? (i := 14) rfl))) (mvT hZ (hw _ (List.mem_of_getElem? (i := 8) rfl))) (mvT hZ (hw _ (List.mem_of_getElem? (i := 15) rfl))) (by decide) (backOf (W := 0) (rmV lL Z a0 hw [] t cl h0 n0 S_V Ar Ex FC sz) hZ (hw _ (List.mem_of_getElem? (i := 15) rfl)) (hw _ (List.mem_of_getElem? (i := 8) rfl)) (by decide) (by decide)) (g := (mkF mM 0 #[.val (.int ch), .unset, .unset, .unset, .unset] [])) rfl (by rw [hml]; rfl) (argsL := []) (rest := []) (lenOf pd__28_29_5bLcom_2fexample_2fupfront_duty_2fupfrontduty_2falgebra_2fNames_24Escape_3b rfl) rfl (by show 2 * 0 + _ ≤ _; exact Nat.le_of_eq rfl) (hb hby d3_0) (fun _ _ => ⟨rfl, e0, (by decide : 0 + 1 ≤ _), (by decide : 0 + 4 ≤ _)⟩)
  dsimp only [Pt.U, Pt.locs, Pt.cells, Pt.slots] at X12 l12 y12 z12 st12 hQ12
  subst l12 y12 z12
  obtain ⟨b12, rfl, N12q, E12, A12⟩ := hQ12
  have N12 := Fr.app N0 N12q
  have e12 : T12.heap = T12.heap := rfl
  refine own_st (A := T12.setTop (mkF mM 3 #[.val (.int ch), .unset, .unset, .unset, .unset] [(.ref b12)])) (fun tT_ kK_ => st12 tT_ kK_) ?_
  have F1 := F1.ext E12
  have F2 := F2.ext E12
  have F3 := F3.ext E12
  have F4 := F4.ext E12
  refine own_st (A := T12.setTop (mkF mM 4 #[.val (.int ch), .val (.ref b12), .unset, .unset, .unset] [])) (fun tT_ kK_ => XS.astoreN X12.here hx rfl (hb hby d3_3) rfl rfl (l' := #[.val (.int ch), .val (.ref b12), .unset, .unset, .unset]) rfl kK_) ?_
  refine own_st (A := T12.setTop (mkF mM 5 #[.val (.int ch), .val (.ref b12), .unset, .unset, .unset] [(.ref b12)])) (fun tT_ kK_ => XS.aloadN X12.here hx rfl (hb hby d3_4) rfl rfl kK_) ?_
  refine own_st (A := T12.setTop (mkF mM 6 #[.val (.int ch), .val (.ref b12), .unset, .unset, .unset] [(.int (4 : Int32))])) (fun tT_ kK_ => X12.arraylength hx (by rw [e12]; exact A12.1) (State.isArrayOf_alike hZ.alike A12.2.1) (g := (mkF mM 5 #[.val (.int ch), .val (.ref b12), .unset, .unset, .unset] [(.ref b12)])) rfl rfl (hb hby d3_5) tT_ (by rw [len_of sz (by decide)]; exact kK_)) ?_
  refine own_st (A := T12.setTop (mkF mM 7 #[.val (.int ch), .val (.ref b12), .val (.int (4 : Int32)), .unset, .unset] [])) (fun tT_ kK_ => XS.istoreN X12.here hx rfl (hb hby d3_6) rfl (l' := #[.val (.int ch), .val (.ref b12), .val (.int (4 : Int32)), .unset, .unset]) rfl kK_) ?_
  refine own_st (A := T12.setTop (mkF mM 8 #[.val (.int ch), .val (.ref b12), .val (.int (4 : Int32)), .unset, .unset] [(.int (0 : Int32))])) (fun tT_ kK_ => XS.iconst X12.here hx rfl (hb hby d3_7) kK_) ?_
  refine own_st (A := T12.setTop (mkF mM 9 #[.val (.int ch), .val (.ref b12), .val (.int (4 : Int32)), .val (.int (0 : Int32)), .unset] [])) (fun tT_ kK_ => XS.istoreN X12.here hx rfl (hb hby d3_8) rfl (l' := #[.val (.int ch), .val (.ref b12), .val (.int (4 : Int32)), .val (.int (0 : Int32)), .unset]) rfl kK_) ?_
  refine own_st (A := T12.setTop (mkF mM 10 #[.val (.int ch), .val (.ref b12), .val (.int (4 : Int32)), .val (.int (0 : Int32)), .unset] [(.int (0 : Int32))])) (fun tT_ kK_ => XS.iloadN X12.here hx rfl (hb hby d3_9) rfl kK_) ?_
  refine own_st (A := T12.setTop (mkF mM 11 #[.val (.int ch), .val (.ref b12), .val (.int (4 : Int32)), .val (.int (0 : Int32)), .unset] [(.int (4 : Int32)), (.int (0 : Int32))])) (fun tT_ kK_ => XS.iloadN X12.here hx rfl (hb hby d3_10) rfl kK_) ?_
  refine own_st (A := T12.setTop (mkF mM 14 #[.val (.int ch), .val (.ref b12), .val (.int (4 : Int32)), .val (.int (0 : Int32)), .unset] [])) (fun tT_ kK_ => XS.icmpNo X12.here hx rfl (hb hby d3_11) rfl (tlt (by decide : ((0 : Int32) < (4 : Int32)))).2.1 kK_) ?_
  refine own_st (A := T12.setTop (mkF mM 15 #[.val (.int ch), .val (.ref b12), .val (.int (4 : Int32)), .val (.int (0 : Int32)), .unset] [(.ref b12)])) (fun tT_ kK_ => XS.aloadN X12.here hx rfl (hb hby d3_14) rfl rfl kK_) ?_
  refine own_st (A := T12.setTop (mkF mM 16 #[.val (.int ch), .val (.ref b12), .val (.int (4 : Int32)), .val (.int (0 : Int32)), .unset] [(.int (0 : Int32)), (.ref b12)])) (fun tT_ kK_ => XS.iloadN X12.here hx rfl (hb hby d3_15) rfl kK_) ?_
  refine own_st (A := T12.setTop (mkF mM 17 #[.val (.int ch), .val (.ref b12), .val (.int (4 : Int32)), .val (.int (0 : Int32)), .unset] [(.ref a1)])) (fun tT_ kK_ => X12.aaload hx (j := (0 : Int32)) (v := (.ref a1)) (by rw [e12]; exact A12.1) (State.isArrayOf_alike hZ.alike A12.2.1) rfl A12.2.2 (inb_of (z := (4 : Int32)) sz ⟨by decide, by decide⟩) el0 (g := (mkF mM 16 #[.val (.int ch), .val (.ref b12), .val (.int (4 : Int32)), .val (.int (0 : Int32)), .unset] [(.int (0 : Int32)), (.ref b12)])) rfl rfl (hb hby d3_16) tT_ kK_) ?_
  refine own_st (A := T12.setTop (mkF mM 19 #[.val (.int ch), .val (.ref b12), .val (.int (4 : Int32)), .val (.int (0 : Int32)), .val (.ref a1)] [])) (fun tT_ kK_ => XS.astore X12.here hx rfl (hb hby d3_17) rfl rfl (l' := #[.val (.int ch), .val (.ref b12), .val (.int (4 : Int32)), .val (.int (0 : Int32)), .val (.ref a1)]) rfl kK_) ?_
  refine own_st (A := T12.setTop (mkF mM 21 #[.val (.int ch), .val (.ref b12), .val (.int (4 : Int32)), .val (.int (0 : Int32)), .val (.ref a1)] [(.ref a1)])) (fun tT_ kK_ => XS.aload X12.here hx rfl (hb hby d3_19) rfl rfl kK_) ?_
  obtain ⟨T13, X13, e13, st13⟩ := getF X12 hx hZ hown (host := "") (Or.inl (hw _ (List.mem_of_getElem? (i := 31) rfl))) Via.refl e12 F1 (g := (mkF mM 21 #[.val (.int ch), .val (.ref b12), .val (.int (4 : Int32)), .val (.int (0 : Int32)), .val (.ref a1)] [(.ref a1)])) rfl rfl (hb hby d3_21)
  refine own_st (A := T13.setTop (mkF mM 24 #[.val (.int ch), .val (.ref b12), .val (.int (4 : Int32)), .val (.int (0 : Int32)), .val (.ref a1)] [(.int (34 : Int32))])) (fun tT_ kK_ => st13 tT_ kK_) ?_
  refine own_st (A := T13.setTop (mkF mM 25 #[.val (.int ch), .val (.ref b12), .val (.int (4 : Int32)), .val (.int (0 : Int32)), .val (.ref a1)] [(.int ch), (.int (34 : Int32))])) (fun tT_ kK_ => XS.iloadN X13.here hx rfl (hb hby d3_24) rfl kK_) ?_
  by_cases hc25_14 : (34 : Int32) = ch
  · skip
    refine own_st (A := T13.setTop (mkF mM 28 #[.val (.int ch), .val (.ref b12), .val (.int (4 : Int32)), .val (.int (0 : Int32)), .val (.ref a1)] [])) (fun tT_ kK_ => XS.icmpNo X13.here hx rfl (hb hby d3_25) rfl (teq hc25_14).2 kK_) ?_
    refine own_st (A := T13.setTop (mkF mM 30 #[.val (.int ch), .val (.ref b12), .val (.int (4 : Int32)), .val (.int (0 : Int32)), .val (.ref a1)] [(.ref a1)])) (fun tT_ kK_ => XS.aload X13.here hx rfl (hb hby d3_28) rfl rfl kK_) ?_
    exact own_retA X13 hx hlk hret rfl rfl (hb hby d3_30) (by rw [s1 (hc25_14).symm]; exact ⟨rfl, N12, (by rw [e13]; exact E12)⟩) (by decide) (by decide)
  · skip
    refine own_st (A := T13.setTop (mkF mM 31 #[.val (.int ch), .val (.ref b12), .val (.int (4 : Int32)), .val (.int (0 : Int32)), .val (.ref a1)] [])) (fun tT_ kK_ => XS.icmpYes X13.here hx rfl (pc0 := 25) (pc' := 31) rfl (hb hby d3_25) rfl (feq hc25_14).2 (by decide) (by decide) kK_) ?_
    refine own_st (A := T13.setTop (mkF mM 34 #[.val (.int ch), .val (.ref b12), .val (.int (4 : Int32)), .val (.int (1 : Int32)), .val (.ref a1)] [])) (fun tT_ kK_ => XS.iinc X13.here hx rfl (hb hby d3_31) rfl (l' := #[.val (.int ch), .val (.ref b12), .val (.int (4 : Int32)), .val (.int (1 : Int32)), .val (.ref a1)]) rfl kK_) ?_
    refine own_st (A := T13.setTop (mkF mM 9 #[.val (.int ch), .val (.ref b12), .val (.int (4 : Int32)), .val (.int (1 : Int32)), .val (.ref a1)] [])) (fun tT_ kK_ => XS.goto X13.here hx rfl (pc0 := 34) (pc' := 9) rfl (hb hby d3_34) (by decide) (by decide) kK_) ?_
    refine own_st (A := T13.setTop (mkF mM 10 #[.val (.int ch), .val (.ref b12), .val (.int (4 : Int32)), .val (.int (1 : Int32)), .val (.ref a1)] [(.int (1 : Int32))])) (fun tT_ kK_ => XS.iloadN X13.here hx rfl (hb hby d3_9) rfl kK_) ?_
    refine own_st (A := T13.setTop (mkF mM 11 #[.val (.int ch), .val (.ref b12), .val (.int (4 : Int32)), .val (.int (1 : Int32)), .val (.ref a1)] [(.int (4 : Int32)), (.int (1 : Int32))])) (fun tT_ kK_ => XS.iloadN X13.here hx rfl (hb hby d3_10) rfl kK_) ?_
    refine own_st (A := T13.setTop (mkF mM 14 #[.val (.int ch), .val (.ref b12), .val (.int (4 : Int32)), .val (.int (1 : Int32)), .val (.ref a1)] [])) (fun tT_ kK_ => XS.icmpNo X13.here hx rfl (hb hby d3_11) rfl (tlt (by decide : ((1 : Int32) < (4 : Int32)))).2.1 kK_) ?_
    refine own_st (A := T13.setTop (mkF mM 15 #[.val (.int ch), .val (.ref b12), .val (.int (4 : Int32)), .val (.int (1 : Int32)), .val (.ref a1)] [(.ref b12)])) (fun tT_ kK_ => XS.aloadN X13.here hx rfl (hb hby d3_14) rfl rfl kK_) ?_
    refine own_st (A := T13.setTop (mkF mM 16 #[.val (.int ch), .val (.ref b12), .val (.int (4 : Int32)), .val (.int (1 : Int32)), .val (.ref a1)] [(.int (1 : Int32)), (.ref b12)])) (fun tT_ kK_ => XS.iloadN X13.here hx rfl (hb hby d3_15) rfl kK_) ?_
    refine own_st (A := T13.setTop (mkF mM 17 #[.val (.int ch), .val (.ref b12), .val (.int (4 : Int32)), .val (.int (1 : Int32)), .val (.ref a1)] [(.ref a2)])) (fun tT_ kK_ => X13.aaload hx (j := (1 : Int32)) (v := (.ref a2)) (by rw [e13]; exact A12.1) (State.isArrayOf_alike hZ.alike A12.2.1) rfl A12.2.2 (inb_of (z := (4 : Int32)) sz ⟨by decide, by decide⟩) el1 (g := (mkF mM 16 #[.val (.int ch), .val (.ref b12), .val (.int (4 : Int32)), .val (.int (1 : Int32)), .val (.ref a1)] [(.int (1 : Int32)), (.ref b12)])) rfl rfl (hb hby d3_16) tT_ kK_) ?_
    refine own_st (A := T13.setTop (mkF mM 19 #[.val (.int ch), .val (.ref b12), .val (.int (4 : Int32)), .val (.int (1 : Int32)), .val (.ref a2)] [])) (fun tT_ kK_ => XS.astore X13.here hx rfl (hb hby d3_17) rfl rfl (l' := #[.val (.int ch), .val (.ref b12), .val (.int (4 : Int32)), .val (.int (1 : Int32)), .val (.ref a2)]) rfl kK_) ?_
    refine own_st (A := T13.setTop (mkF mM 21 #[.val (.int ch), .val (.ref b12), .val (.int (4 : Int32)), .val (.int (1 : Int32)), .val (.ref a2)] [(.ref a2)])) (fun tT_ kK_ => XS.aload X13.here hx rfl (hb hby d3_19) rfl rfl kK_) ?_
    obtain ⟨T15, X15, e15, st15⟩ := getF X13 hx hZ hown (host := "") (Or.inl (hw _ (List.mem_of_getElem? (i := 31) rfl))) Via.refl e13 F2 (g := (mkF mM 21 #[.val (.int ch), .val (.ref b12), .val (.int (4 : Int32)), .val (.int (1 : Int32)), .val (.ref a2)] [(.ref a2)])) rfl rfl (hb hby d3_21)
    refine own_st (A := T15.setTop (mkF mM 24 #[.val (.int ch), .val (.ref b12), .val (.int (4 : Int32)), .val (.int (1 : Int32)), .val (.ref a2)] [(.int (92 : Int32))])) (fun tT_ kK_ => st15 tT_ kK_) ?_
    refine own_st (A := T15.setTop (mkF mM 25 #[.val (.int ch), .val (.ref b12), .val (.int (4 : Int32)), .val (.int (1 : Int32)), .val (.ref a2)] [(.int ch), (.int (92 : Int32))])) (fun tT_ kK_ => XS.iloadN X15.here hx rfl (hb hby d3_24) rfl kK_) ?_
    by_cases hc25_16 : (92 : Int32) = ch
    · skip
      refine own_st (A := T15.setTop (mkF mM 28 #[.val (.int ch), .val (.ref b12), .val (.int (4 : Int32)), .val (.int (1 : Int32)), .val (.ref a2)] [])) (fun tT_ kK_ => XS.icmpNo X15.here hx rfl (hb hby d3_25) rfl (teq hc25_16).2 kK_) ?_
      refine own_st (A := T15.setTop (mkF mM 30 #[.val (.int ch), .val (.ref b12), .val (.int (4 : Int32)), .val (.int (1 : Int32)), .val (.ref a2)] [(.ref a2)])) (fun tT_ kK_ => XS.aload X15.here hx rfl (hb hby d3_28) rfl rfl kK_) ?_
      exact own_retA X15 hx hlk hret rfl rfl (hb hby d3_30) (by rw [s2 (hc25_16).symm]; exact ⟨rfl, N12, (by rw [e15]; exact E12)⟩) (by decide) (by decide)
    · skip
      refine own_st (A := T15.setTop (mkF mM 31 #[.val (.int ch), .val (.ref b12), .val (.int (4 : Int32)), .val (.int (1 : Int32)), .val (.ref a2)] [])) (fun tT_ kK_ => XS.icmpYes X15.here hx rfl (pc0 := 25) (pc' := 31) rfl (hb hby d3_25) rfl (feq hc25_16).2 (by decide) (by decide) kK_) ?_
      refine own_st (A := T15.setTop (mkF mM 34 #[.val (.int ch), .val (.ref b12), .val (.int (4 : Int32)), .val (.int (2 : Int32)), .val (.ref a2)] [])) (fun tT_ kK_ => XS.iinc X15.here hx rfl (hb hby d3_31) rfl (l' := #[.val (.int ch), .val (.ref b12), .val (.int (4 : Int32)), .val (.int (2 : Int32)), .val (.ref a2)]) rfl kK_) ?_
      refine own_st (A := T15.setTop (mkF mM 9 #[.val (.int ch), .val (.ref b12), .val (.int (4 : Int32)), .val (.int (2 : Int32)), .val (.ref a2)] [])) (fun tT_ kK_ => XS.goto X15.here hx rfl (pc0 := 34) (pc' := 9) rfl (hb hby d3_34) (by decide) (by decide) kK_) ?_
      refine own_st (A := T15.setTop (mkF mM 10 #[.val (.int ch), .val (.ref b12), .val (.int (4 : Int32)), .val (.int (2 : Int32)), .val (.ref a2)] [(.int (2 : Int32))])) (fun tT_ kK_ => XS.iloadN X15.here hx rfl (hb hby d3_9) rfl kK_) ?_
      refine own_st (A := T15.setTop (mkF mM 11 #[.val (.int ch), .val (.ref b12), .val (.int (4 : Int32)), .val (.int (2 : Int32)), .val (.ref a2)] [(.int (4 : Int32)), (.int (2 : Int32))])) (fun tT_ kK_ => XS.iloadN X15.here hx rfl (hb hby d3_10) rfl kK_) ?_
      refine own_st (A := T15.setTop (mkF mM 14 #[.val (.int ch), .val (.ref b12), .val (.int (4 : Int32)), .val (.int (2 : Int32)), .val (.ref a2)] [])) (fun tT_ kK_ => XS.icmpNo X15.here hx rfl (hb hby d3_11) rfl (tlt (by decide : ((2 : Int32) < (4 : Int32)))).2.1 kK_) ?_
      refine own_st (A := T15.setTop (mkF mM 15 #[.val (.int ch), .val (.ref b12), .val (.int (4 : Int32)), .val (.int (2 : Int32)), .val (.ref a2)] [(.ref b12)])) (fun tT_ kK_ => XS.aloadN X15.here hx rfl (hb hby d3_14) rfl rfl kK_) ?_
      refine own_st (A := T15.setTop (mkF mM 16 #[.val (.int ch), .val (.ref b12), .val (.int (4 : Int32)), .val (.int (2 : Int32)), .val (.ref a2)] [(.int (2 : Int32)), (.ref b12)])) (fun tT_ kK_ => XS.iloadN X15.here hx rfl (hb hby d3_15) rfl kK_) ?_
      refine own_st (A := T15.setTop (mkF mM 17 #[.val (.int ch), .val (.ref b12), .val (.int (4 : Int32)), .val (.int (2 : Int32)), .val (.ref a2)] [(.ref a3)])) (fun tT_ kK_ => X15.aaload hx (j := (2 : Int32)) (v := (.ref a3)) (by rw [e15]; exact A12.1) (State.isArrayOf_alike hZ.alike A12.2.1) rfl A12.2.2 (inb_of (z := (4 : Int32)) sz ⟨by decide, by decide⟩) el2 (g := (mkF mM 16 #[.val (.int ch), .val (.ref b12), .val (.int (4 : Int32)), .val (.int (2 : Int32)), .val (.ref a2)] [(.int (2 : Int32)), (.ref b12)])) rfl rfl (hb hby d3_16) tT_ kK_) ?_
      refine own_st (A := T15.setTop (mkF mM 19 #[.val (.int ch), .val (.ref b12), .val (.int (4 : Int32)), .val (.int (2 : Int32)), .val (.ref a3)] [])) (fun tT_ kK_ => XS.astore X15.here hx rfl (hb hby d3_17) rfl rfl (l' := #[.val (.int ch), .val (.ref b12), .val (.int (4 : Int32)), .val (.int (2 : Int32)), .val (.ref a3)]) rfl kK_) ?_
      refine own_st (A := T15.setTop (mkF mM 21 #[.val (.int ch), .val (.ref b12), .val (.int (4 : Int32)), .val (.int (2 : Int32)), .val (.ref a3)] [(.ref a3)])) (fun tT_ kK_ => XS.aload X15.here hx rfl (hb hby d3_19) rfl rfl kK_) ?_
      obtain ⟨T17, X17, e17, st17⟩ := getF X15 hx hZ hown (host := "") (Or.inl (hw _ (List.mem_of_getElem? (i := 31) rfl))) Via.refl e15 F3 (g := (mkF mM 21 #[.val (.int ch), .val (.ref b12), .val (.int (4 : Int32)), .val (.int (2 : Int32)), .val (.ref a3)] [(.ref a3)])) rfl rfl (hb hby d3_21)
      refine own_st (A := T17.setTop (mkF mM 24 #[.val (.int ch), .val (.ref b12), .val (.int (4 : Int32)), .val (.int (2 : Int32)), .val (.ref a3)] [(.int (10 : Int32))])) (fun tT_ kK_ => st17 tT_ kK_) ?_
      refine own_st (A := T17.setTop (mkF mM 25 #[.val (.int ch), .val (.ref b12), .val (.int (4 : Int32)), .val (.int (2 : Int32)), .val (.ref a3)] [(.int ch), (.int (10 : Int32))])) (fun tT_ kK_ => XS.iloadN X17.here hx rfl (hb hby d3_24) rfl kK_) ?_
      by_cases hc25_18 : (10 : Int32) = ch
      · skip
        refine own_st (A := T17.setTop (mkF mM 28 #[.val (.int ch), .val (.ref b12), .val (.int (4 : Int32)), .val (.int (2 : Int32)), .val (.ref a3)] [])) (fun tT_ kK_ => XS.icmpNo X17.here hx rfl (hb hby d3_25) rfl (teq hc25_18).2 kK_) ?_
        refine own_st (A := T17.setTop (mkF mM 30 #[.val (.int ch), .val (.ref b12), .val (.int (4 : Int32)), .val (.int (2 : Int32)), .val (.ref a3)] [(.ref a3)])) (fun tT_ kK_ => XS.aload X17.here hx rfl (hb hby d3_28) rfl rfl kK_) ?_
        exact own_retA X17 hx hlk hret rfl rfl (hb hby d3_30) (by rw [s3 (hc25_18).symm]; exact ⟨rfl, N12, (by rw [e17]; exact E12)⟩) (by decide) (by decide)
      · skip
        refine own_st (A := T17.setTop (mkF mM 31 #[.val (.int ch), .val (.ref b12), .val (.int (4 : Int32)), .val (.int (2 : Int32)), .val (.ref a3)] [])) (fun tT_ kK_ => XS.icmpYes X17.here hx rfl (pc0 := 25) (pc' := 31) rfl (hb hby d3_25) rfl (feq hc25_18).2 (by decide) (by decide) kK_) ?_
        refine own_st (A := T17.setTop (mkF mM 34 #[.val (.int ch), .val (.ref b12), .val (.int (4 : Int32)), .val (.int (3 : Int32)), .val (.ref a3)] [])) (fun tT_ kK_ => XS.iinc X17.here hx rfl (hb hby d3_31) rfl (l' := #[.val (.int ch), .val (.ref b12), .val (.int (4 : Int32)), .val (.int (3 : Int32)), .val (.ref a3)]) rfl kK_) ?_
        refine own_st (A := T17.setTop (mkF mM 9 #[.val (.int ch), .val (.ref b12), .val (.int (4 : Int32)), .val (.int (3 : Int32)), .val (.ref a3)] [])) (fun tT_ kK_ => XS.goto X17.here hx rfl (pc0 := 34) (pc' := 9) rfl (hb hby d3_34) (by decide) (by decide) kK_) ?_
        refine own_st (A := T17.setTop (mkF mM 10 #[.val (.int ch), .val (.ref b12), .val (.int (4 : Int32)), .val (.int (3 : Int32)), .val (.ref a3)] [(.int (3 : Int32))])) (fun tT_ kK_ => XS.iloadN X17.here hx rfl (hb hby d3_9) rfl kK_) ?_
        refine own_st (A := T17.setTop (mkF mM 11 #[.val (.int ch), .val (.ref b12), .val (.int (4 : Int32)), .val (.int (3 : Int32)), .val (.ref a3)] [(.int (4 : Int32)), (.int (3 : Int32))])) (fun tT_ kK_ => XS.iloadN X17.here hx rfl (hb hby d3_10) rfl kK_) ?_
        refine own_st (A := T17.setTop (mkF mM 14 #[.val (.int ch), .val (.ref b12), .val (.int (4 : Int32)), .val (.int (3 : Int32)), .val (.ref a3)] [])) (fun tT_ kK_ => XS.icmpNo X17.here hx rfl (hb hby d3_11) rfl (tlt (by decide : ((3 : Int32) < (4 : Int32)))).2.1 kK_) ?_
        refine own_st (A := T17.setTop (mkF mM 15 #[.val (.int ch), .val (.ref b12), .val (.int (4 : Int32)), .val (.int (3 : Int32)), .val (.ref a3)] [(.ref b12)])) (fun tT_ kK_ => XS.aloadN X17.here hx rfl (hb hby d3_14) rfl rfl kK_) ?_
        refine own_st (A := T17.setTop (mkF mM 16 #[.val (.int ch), .val (.ref b12), .val (.int (4 : Int32)), .val (.int (3 : Int32)), .val (.ref a3)] [(.int (3 : Int32)), (.ref b12)])) (fun tT_ kK_ => XS.iloadN X17.here hx rfl (hb hby d3_15) rfl kK_) ?_
        refine own_st (A := T17.setTop (mkF mM 17 #[.val (.int ch), .val (.ref b12), .val (.int (4 : Int32)), .val (.int (3 : Int32)), .val (.ref a3)] [(.ref a4)])) (fun tT_ kK_ => X17.aaload hx (j := (3 : Int32)) (v := (.ref a4)) (by rw [e17]; exact A12.1) (State.isArrayOf_alike hZ.alike A12.2.1) rfl A12.2.2 (inb_of (z := (4 : Int32)) sz ⟨by decide, by decide⟩) el3 (g := (mkF mM 16 #[.val (.int ch), .val (.ref b12), .val (.int (4 : Int32)), .val (.int (3 : Int32)), .val (.ref a3)] [(.int (3 : Int32)), (.ref b12)])) rfl rfl (hb hby d3_16) tT_ kK_) ?_
        refine own_st (A := T17.setTop (mkF mM 19 #[.val (.int ch), .val (.ref b12), .val (.int (4 : Int32)), .val (.int (3 : Int32)), .val (.ref a4)] [])) (fun tT_ kK_ => XS.astore X17.here hx rfl (hb hby d3_17) rfl rfl (l' := #[.val (.int ch), .val (.ref b12), .val (.int (4 : Int32)), .val (.int (3 : Int32)), .val (.ref a4)]) rfl kK_) ?_
        refine own_st (A := T17.setTop (mkF mM 21 #[.val (.int ch), .val (.ref b12), .val (.int (4 : Int32)), .val (.int (3 : Int32)), .val (.ref a4)] [(.ref a4)])) (fun tT_ kK_ => XS.aload X17.here hx rfl (hb hby d3_19) rfl rfl kK_) ?_
        obtain ⟨T19, X19, e19, st19⟩ := getF X17 hx hZ hown (host := "") (Or.inl (hw _ (List.mem_of_getElem? (i := 31) rfl))) Via.refl e17 F4 (g := (mkF mM 21 #[.val (.int ch), .val (.ref b12), .val (.int (4 : Int32)), .val (.int (3 : Int32)), .val (.ref a4)] [(.ref a4)])) rfl rfl (hb hby d3_21)
        refine own_st (A := T19.setTop (mkF mM 24 #[.val (.int ch), .val (.ref b12), .val (.int (4 : Int32)), .val (.int (3 : Int32)), .val (.ref a4)] [(.int (13 : Int32))])) (fun tT_ kK_ => st19 tT_ kK_) ?_
        refine own_st (A := T19.setTop (mkF mM 25 #[.val (.int ch), .val (.ref b12), .val (.int (4 : Int32)), .val (.int (3 : Int32)), .val (.ref a4)] [(.int ch), (.int (13 : Int32))])) (fun tT_ kK_ => XS.iloadN X19.here hx rfl (hb hby d3_24) rfl kK_) ?_
        by_cases hc25_20 : (13 : Int32) = ch
        · skip
          refine own_st (A := T19.setTop (mkF mM 28 #[.val (.int ch), .val (.ref b12), .val (.int (4 : Int32)), .val (.int (3 : Int32)), .val (.ref a4)] [])) (fun tT_ kK_ => XS.icmpNo X19.here hx rfl (hb hby d3_25) rfl (teq hc25_20).2 kK_) ?_
          refine own_st (A := T19.setTop (mkF mM 30 #[.val (.int ch), .val (.ref b12), .val (.int (4 : Int32)), .val (.int (3 : Int32)), .val (.ref a4)] [(.ref a4)])) (fun tT_ kK_ => XS.aload X19.here hx rfl (hb hby d3_28) rfl rfl kK_) ?_
          exact own_retA X19 hx hlk hret rfl rfl (hb hby d3_30) (by rw [s4 (hc25_20).symm]; exact ⟨rfl, N12, (by rw [e19]; exact E12)⟩) (by decide) (by decide)
        · skip
          refine own_st (A := T19.setTop (mkF mM 31 #[.val (.int ch), .val (.ref b12), .val (.int (4 : Int32)), .val (.int (3 : Int32)), .val (.ref a4)] [])) (fun tT_ kK_ => XS.icmpYes X19.here hx rfl (pc0 := 25) (pc' := 31) rfl (hb hby d3_25) rfl (feq hc25_20).2 (by decide) (by decide) kK_) ?_
          refine own_st (A := T19.setTop (mkF mM 34 #[.val (.int ch), .val (.ref b12), .val (.int (4 : Int32)), .val (.int (4 : Int32)), .val (.ref a4)] [])) (fun tT_ kK_ => XS.iinc X19.here hx rfl (hb hby d3_31) rfl (l' := #[.val (.int ch), .val (.ref b12), .val (.int (4 : Int32)), .val (.int (4 : Int32)), .val (.ref a4)]) rfl kK_) ?_
          refine own_st (A := T19.setTop (mkF mM 9 #[.val (.int ch), .val (.ref b12), .val (.int (4 : Int32)), .val (.int (4 : Int32)), .val (.ref a4)] [])) (fun tT_ kK_ => XS.goto X19.here hx rfl (pc0 := 34) (pc' := 9) rfl (hb hby d3_34) (by decide) (by decide) kK_) ?_
          refine own_st (A := T19.setTop (mkF mM 10 #[.val (.int ch), .val (.ref b12), .val (.int (4 : Int32)), .val (.int (4 : Int32)), .val (.ref a4)] [(.int (4 : Int32))])) (fun tT_ kK_ => XS.iloadN X19.here hx rfl (hb hby d3_9) rfl kK_) ?_
          refine own_st (A := T19.setTop (mkF mM 11 #[.val (.int ch), .val (.ref b12), .val (.int (4 : Int32)), .val (.int (4 : Int32)), .val (.ref a4)] [(.int (4 : Int32)), (.int (4 : Int32))])) (fun tT_ kK_ => XS.iloadN X19.here hx rfl (hb hby d3_10) rfl kK_) ?_
          refine own_st (A := T19.setTop (mkF mM 37 #[.val (.int ch), .val (.ref b12), .val (.int (4 : Int32)), .val (.int (4 : Int32)), .val (.ref a4)] [])) (fun tT_ kK_ => XS.icmpYes X19.here hx rfl (pc0 := 11) (pc' := 37) rfl (hb hby d3_11) rfl (flt (by decide : ¬ ((4 : Int32) < (4 : Int32)))).2.1 (by decide) (by decide) kK_) ?_
          refine own_st (A := T19.setTop (mkF mM 38 #[.val (.int ch), .val (.ref b12), .val (.int (4 : Int32)), .val (.int (4 : Int32)), .val (.ref a4)] [.null])) (fun tT_ kK_ => XS.aconstNull X19.here hx rfl (hb hby d3_37) kK_) ?_
          exact own_retA X19 hx hlk hret rfl rfl (hb hby d3_38) (by rw [s0 (fun q => hc25_14 q.symm) (fun q => hc25_16 q.symm) (fun q => hc25_18 q.symm) (fun q => hc25_20 q.symm)]; exact ⟨rfl, N12, (by rw [e19]; exact E12)⟩) (by decide) (by decide)
theorem own_sel (ch : Int32) (a1 a2 a3 a4 : Addr) : ∃ w : Value, w.isRef = true ∧ (ch = (34 : Int32) → w = .ref a1) ∧ (ch = (92 : Int32) → w = .ref a2) ∧ (ch = (10 : Int32) → w = .ref a3) ∧ (ch = (13 : Int32) → w = .ref a4) ∧ (¬ ch = (34 : Int32) → ¬ ch = (92 : Int32) → ¬ ch = (10 : Int32) → ¬ ch = (13 : Int32) → w = .null) := by
  by_cases q1 : ch = (34 : Int32)
  · subst q1
    exact ⟨.ref a1, rfl, fun _ => rfl, fun q => absurd q (by decide), fun q => absurd q (by decide), fun q => absurd q (by decide), fun q _ _ _ => absurd rfl q⟩
  by_cases q2 : ch = (92 : Int32)
  · subst q2
    exact ⟨.ref a2, rfl, fun q => absurd q (by decide), fun _ => rfl, fun q => absurd q (by decide), fun q => absurd q (by decide), fun _ q _ _ => absurd rfl q⟩
  by_cases q3 : ch = (10 : Int32)
  · subst q3
    exact ⟨.ref a3, rfl, fun q => absurd q (by decide), fun q => absurd q (by decide), fun _ => rfl, fun q => absurd q (by decide), fun _ _ q _ => absurd rfl q⟩
  by_cases q4 : ch = (13 : Int32)
  · subst q4
    exact ⟨.ref a4, rfl, fun q => absurd q (by decide), fun q => absurd q (by decide), fun q => absurd q (by decide), fun _ => rfl, fun _ _ _ q => absurd rfl q⟩
  exact ⟨.null, rfl, fun q => absurd q q1, fun q => absurd q q2, fun q => absurd q q3, fun q => absurd q q4, fun _ _ _ _ => rfl⟩
theorem pd__28C_29Lcom_2fexample_2fupfront_duty_2fupfrontduty_2falgebra_2fNames_24Escape_3b : parseMethodDescriptor "(C)Lcom/example/upfront_duty/upfrontduty/algebra/Names$Escape;" = some ⟨[.char], some (.object "com/example/upfront_duty/upfrontduty/algebra/Names$Escape")⟩ := by decide +kernel
set_option maxRecDepth 65536 in
set_option maxHeartbeats 40000000 in
theorem J {pP : Program} {lL : Launch} {eE : Env} {sS : State} {mM : MethodId} {args : Array Value} {below : List Frame} {meth : Method} {cC : Code} {T0 : State} {locs : List Loc} {Z : State} {a0 : Array Value} {h0 : Heap} {n0 : Nat} (hw : ∀ d ∈ tables_1, d.before a0 Z = true) (X0 : Stand pP lL eE room_1 sS mM args below meth cC T0 locs 0 0) (hx : pP.tables.exec = Jvm.exec) (hZ : Z.Warmed39 sS.vm) (hby : cC.code = code) (hml : cC.maxLocals = 5) (hown : sS.vm.findClass "com/example/upfront_duty/upfrontduty/algebra/EscapeOfCharacterPinLaw" = some mM.cls) (hlk : meth.locks = false) (hret : meth.sig.returnType = ret) (e0 : T0.heap = h0) (N0 : Fr n0 locs) (x0 : Int32) (x1 : Int32) (ch : Int32) (a1 : Addr) (a2 : Addr) (a3 : Addr) (a4 : Addr) (t : Addr) (cl : Cell) (S_QUOTE : Sta Z h0 "com/example/upfront_duty/upfrontduty/algebra/Names$Escape" "QUOTE" "Lcom/example/upfront_duty/upfrontduty/algebra/Names$Escape;" (.ref a1)) (S_BACKSLASH : Sta Z h0 "com/example/upfront_duty/upfrontduty/algebra/Names$Escape" "BACKSLASH" "Lcom/example/upfront_duty/upfrontduty/algebra/Names$Escape;" (.ref a2)) (S_LINE_FEED : Sta Z h0 "com/example/upfront_duty/upfrontduty/algebra/Names$Escape" "LINE_FEED" "Lcom/example/upfront_duty/upfrontduty/algebra/Names$Escape;" (.ref a3)) (S_CARRIAGE_RETURN : Sta Z h0 "com/example/upfront_duty/upfrontduty/algebra/Names$Escape" "CARRIAGE_RETURN" "Lcom/example/upfront_duty/upfrontduty/algebra/Names$Escape;" (.ref a4)) (S_V : Sta Z h0 "com/example/upfront_duty/upfrontduty/algebra/Names$Escape" "$VALUES" "[Lcom/example/upfront_duty/upfrontduty/algebra/Names$Escape;" (.ref t)) (Ar : Arr Z h0 t cl (.object "com/example/upfront_duty/upfrontduty/algebra/Names$Escape")) (Ex : Exa Z h0 t "[Lcom/example/upfront_duty/upfrontduty/algebra/Names$Escape;") (FC : FitC Z cl) (sz : cl.slots.size = (4 : Int32).toNatClampNeg) (el0 : cl.slots[(0 : Int32).toNatClampNeg]? = some (.ref a1)) (el1 : cl.slots[(1 : Int32).toNatClampNeg]? = some (.ref a2)) (el2 : cl.slots[(2 : Int32).toNatClampNeg]? = some (.ref a3)) (el3 : cl.slots[(3 : Int32).toNatClampNeg]? = some (.ref a4)) (F1 : Fld Z h0 a1 "com/example/upfront_duty/upfrontduty/algebra/Names$Escape" "character" "C" (.int 34)) (F2 : Fld Z h0 a2 "com/example/upfront_duty/upfrontduty/algebra/Names$Escape" "character" "C" (.int 92)) (F3 : Fld Z h0 a3 "com/example/upfront_duty/upfrontduty/algebra/Names$Escape" "character" "C" (.int 10)) (F4 : Fld Z h0 a4 "com/example/upfront_duty/upfrontduty/algebra/Names$Escape" "character" "C" (.int 13)) :
    own_Go pP eE below sS (QLaw n0) 16 128 (T0.setTop (mkF mM 6 #[.val (.int x0), .val (.int x1), .val (.int ch), .unset, .unset] [])) := by
  obtain ⟨w, hr, s1, s2, s3, s4, s0⟩ := own_sel ch a1 a2 a3 a4
  refine own_st (A := T0.setTop (mkF mM 7 #[.val (.int x0), .val (.int x1), .val (.int ch), .unset, .unset] [(.int ch)])) (fun tT_ kK_ => XS.iloadN X0.here hx rfl (hb hby at_6) rfl kK_) ?_
  obtain ⟨_, _, ⟨T21, L21, k21, n21⟩, -, X21, ⟨Lc21, hQ21, l21, y21, z21⟩, st21⟩ := Jvm.LawKit.callS X0 hx (y := (⟨"com/example/upfront_duty/upfrontduty/algebra/EscapeOfCharacterPinLaw", "expected", "(C)Lcom/example/upfront_duty/upfrontduty/algebra/Names$Escape;"⟩ : MethodName)) hown (mvT hZ (hw _ (List.mem_of_getElem? (i := 4) rfl))) (mvT hZ (hw _ (List.mem_of_getElem? (i := 5) rfl))) (mvT hZ (hw _ (List.mem_of_getElem? (i := 2) rfl))) (mvT hZ (hw _ (List.mem_of_getElem? (i := 6) rfl))) (by decide) (backOf (W := 0) (rmX lL Z a0 hw [] ch a1 a2 a3 a4 w h0 n0 S_QUOTE S_BACKSLASH S_LINE_FEED S_CARRIAGE_RETURN s1 s2 s3 s4 s0) hZ (hw _ (List.mem_of_getElem? (i := 6) rfl)) (hw _ (List.mem_of_getElem? (i := 2) rfl)) (by decide) (by decide)) (g := (mkF mM 7 #[.val (.int x0), .val (.int x1), .val (.int ch), .unset, .unset] [(.int ch)])) rfl (by rw [hml]; rfl) (argsL := [(.int ch)]) (rest := []) (lenOf pd__28C_29Lcom_2fexample_2fupfront_duty_2fupfrontduty_2falgebra_2fNames_24Escape_3b rfl) rfl (by show 2 * 0 + _ ≤ _; exact Nat.le_of_eq rfl) (hb hby at_7) (fun _ _ => ⟨rfl, e0, (by decide : 0 + 0 ≤ _), (by decide : 0 + 0 ≤ _)⟩)
  dsimp only [Pt.U, Pt.locs, Pt.cells, Pt.slots] at X21 l21 y21 z21 st21 hQ21
  subst l21 y21 z21
  obtain ⟨rfl, N21q, e21⟩ := hQ21
  have N21 := Fr.app N0 N21q
  refine own_st (A := T21.setTop (mkF mM 10 #[.val (.int x0), .val (.int x1), .val (.int ch), .unset, .unset] [w])) (fun tT_ kK_ => st21 tT_ kK_) ?_
  refine own_st (A := T21.setTop (mkF mM 11 #[.val (.int x0), .val (.int x1), .val (.int ch), .val w, .unset] [])) (fun tT_ kK_ => XS.astoreN X21.here hx rfl (hb hby at_10) rfl hr (l' := #[.val (.int x0), .val (.int x1), .val (.int ch), .val w, .unset]) (by rcases ref_cases hr with hq | ⟨aq, hq⟩ <;> subst hq <;> rfl) kK_) ?_
  refine own_st (A := T21.setTop (mkF mM 12 #[.val (.int x0), .val (.int x1), .val (.int ch), .val w, .unset] [(.int ch)])) (fun tT_ kK_ => XS.iloadN X21.here hx rfl (hb hby at_11) rfl kK_) ?_
  obtain ⟨_, _, ⟨T22, L22, k22, n22⟩, -, X22, ⟨Lc22, hQ22, l22, y22, z22⟩, st22⟩ := Jvm.LawKit.callS X21 hx (y := (⟨"com/example/upfront_duty/upfrontduty/algebra/Names$Escape", "ofCharacter", "(C)Lcom/example/upfront_duty/upfrontduty/algebra/Names$Escape;"⟩ : MethodName)) hown (mvT hZ (hw _ (List.mem_of_getElem? (i := 10) rfl))) (mvT hZ (hw _ (List.mem_of_getElem? (i := 11) rfl))) (mvT hZ (hw _ (List.mem_of_getElem? (i := 8) rfl))) (mvT hZ (hw _ (List.mem_of_getElem? (i := 12) rfl))) (by decide) (backOf (W := 0) (rmO lL Z a0 hw [] ch a1 a2 a3 a4 w t cl h0 n0 S_V Ar Ex FC sz el0 el1 el2 el3 F1 F2 F3 F4 s1 s2 s3 s4 s0) hZ (hw _ (List.mem_of_getElem? (i := 12) rfl)) (hw _ (List.mem_of_getElem? (i := 8) rfl)) (by decide) (by decide)) (g := (mkF mM 12 #[.val (.int x0), .val (.int x1), .val (.int ch), .val w, .unset] [(.int ch)])) rfl (by rw [hml]; rfl) (argsL := [(.int ch)]) (rest := []) (lenOf pd__28C_29Lcom_2fexample_2fupfront_duty_2fupfrontduty_2falgebra_2fNames_24Escape_3b rfl) rfl (by show 2 * 0 + _ ≤ _; exact Nat.le_of_eq rfl) (hb hby at_12) (fun _ _ => ⟨rfl, e21, (by decide : 0 + 1 ≤ _), (by decide : 0 + 4 ≤ _)⟩)
  dsimp only [Pt.U, Pt.locs, Pt.cells, Pt.slots] at X22 l22 y22 z22 st22 hQ22
  subst l22 y22 z22
  obtain ⟨rfl, N22q, E22⟩ := hQ22
  have N22 := Fr.app N21 N22q
  have e22 : T22.heap = T22.heap := rfl
  refine own_st (A := T22.setTop (mkF mM 15 #[.val (.int x0), .val (.int x1), .val (.int ch), .val w, .unset] [w])) (fun tT_ kK_ => st22 tT_ kK_) ?_
  refine own_st (A := T22.setTop (mkF mM 17 #[.val (.int x0), .val (.int x1), .val (.int ch), .val w, .val w] [])) (fun tT_ kK_ => XS.astore X22.here hx rfl (hb hby at_15) rfl hr (l' := #[.val (.int x0), .val (.int x1), .val (.int ch), .val w, .val w]) (by rcases ref_cases hr with hq | ⟨aq, hq⟩ <;> subst hq <;> rfl) kK_) ?_
  refine own_st (A := T22.setTop (mkF mM 19 #[.val (.int x0), .val (.int x1), .val (.int ch), .val w, .val w] [w])) (fun tT_ kK_ => XS.aload X22.here hx rfl (hb hby at_17) rfl hr kK_) ?_
  refine own_st (A := T22.setTop (mkF mM 20 #[.val (.int x0), .val (.int x1), .val (.int ch), .val w, .val w] [w, w])) (fun tT_ kK_ => XS.aloadN X22.here hx rfl (hb hby at_19) rfl hr kK_) ?_
  refine own_st (A := T22.setTop (mkF mM 23 #[.val (.int x0), .val (.int x1), .val (.int ch), .val w, .val w] [])) (fun tT_ kK_ => Jvm.RoadKit.acmp X22 hx rfl (x := w) (y := w) hr hr (pc0 := 20) (pc' := 23) (same := true) rfl (hb hby at_20) rfl (decide_eq_true rfl) (by decide) (by decide) kK_) ?_
  refine own_st (A := T22.setTop (mkF mM 24 #[.val (.int x0), .val (.int x1), .val (.int ch), .val w, .val w] [(.int (1 : Int32))])) (fun tT_ kK_ => XS.iconst X22.here hx rfl (hb hby at_23) kK_) ?_
  refine own_st (A := T22.setTop (mkF mM 28 #[.val (.int x0), .val (.int x1), .val (.int ch), .val w, .val w] [(.int (1 : Int32))])) (fun tT_ kK_ => XS.goto X22.here hx rfl (pc0 := 24) (pc' := 28) rfl (hb hby at_24) (by decide) (by decide) kK_) ?_
  exact own_retN X22 hx hlk (t := .boolean) hret (by simp) (hb hby at_28) ⟨rfl, N22⟩ (by decide) (by decide)
theorem d1_0 : decode method_2_code 0 = .ok (.iload_n 0, 1) := by decide +kernel
theorem d1_1 : decode method_2_code 1 = .ok (.bipush 7, 2) := by decide +kernel
theorem d1_3 : decode method_2_code 3 = .ok (.iand, 1) := by decide +kernel
theorem d1_4 : decode method_2_code 4 = .ok (.istore_n 2, 1) := by decide +kernel
theorem d1_5 : decode method_2_code 5 = .ok (.iload_n 2, 1) := by decide +kernel
theorem d1_6 : decode method_2_code 6 = .ok (.ifCond .ne 6, 3) := by decide +kernel
theorem d1_9 : decode method_2_code 9 = .ok (.bipush 34, 2) := by decide +kernel
theorem d1_11 : decode method_2_code 11 = .ok (.ireturn, 1) := by decide +kernel
theorem d1_12 : decode method_2_code 12 = .ok (.iload_n 2, 1) := by decide +kernel
theorem d1_13 : decode method_2_code 13 = .ok (.iconst 1, 1) := by decide +kernel
theorem d1_14 : decode method_2_code 14 = .ok (.if_icmp .ne 6, 3) := by decide +kernel
theorem d1_17 : decode method_2_code 17 = .ok (.bipush 92, 2) := by decide +kernel
theorem d1_19 : decode method_2_code 19 = .ok (.ireturn, 1) := by decide +kernel
theorem d1_20 : decode method_2_code 20 = .ok (.iload_n 2, 1) := by decide +kernel
theorem d1_21 : decode method_2_code 21 = .ok (.iconst 2, 1) := by decide +kernel
theorem d1_22 : decode method_2_code 22 = .ok (.if_icmp .ne 6, 3) := by decide +kernel
theorem d1_25 : decode method_2_code 25 = .ok (.bipush 10, 2) := by decide +kernel
theorem d1_27 : decode method_2_code 27 = .ok (.ireturn, 1) := by decide +kernel
theorem d1_28 : decode method_2_code 28 = .ok (.iload_n 2, 1) := by decide +kernel
theorem d1_29 : decode method_2_code 29 = .ok (.iconst 3, 1) := by decide +kernel
theorem d1_30 : decode method_2_code 30 = .ok (.if_icmp .ne 6, 3) := by decide +kernel
theorem d1_33 : decode method_2_code 33 = .ok (.bipush 13, 2) := by decide +kernel
theorem d1_35 : decode method_2_code 35 = .ok (.ireturn, 1) := by decide +kernel
theorem d1_36 : decode method_2_code 36 = .ok (.iload_n 2, 1) := by decide +kernel
theorem d1_37 : decode method_2_code 37 = .ok (.iconst 4, 1) := by decide +kernel
theorem d1_38 : decode method_2_code 38 = .ok (.if_icmp .ne 6, 3) := by decide +kernel
theorem d1_41 : decode method_2_code 41 = .ok (.bipush 110, 2) := by decide +kernel
theorem d1_43 : decode method_2_code 43 = .ok (.ireturn, 1) := by decide +kernel
theorem d1_44 : decode method_2_code 44 = .ok (.iload_n 2, 1) := by decide +kernel
theorem d1_45 : decode method_2_code 45 = .ok (.iconst 5, 1) := by decide +kernel
theorem d1_46 : decode method_2_code 46 = .ok (.if_icmp .ne 6, 3) := by decide +kernel
theorem d1_49 : decode method_2_code 49 = .ok (.bipush 114, 2) := by decide +kernel
theorem d1_51 : decode method_2_code 51 = .ok (.ireturn, 1) := by decide +kernel
theorem d1_52 : decode method_2_code 52 = .ok (.iload_n 1, 1) := by decide +kernel
theorem d1_53 : decode method_2_code 53 = .ok (.i2c, 1) := by decide +kernel
theorem d1_54 : decode method_2_code 54 = .ok (.ireturn, 1) := by decide +kernel
theorem ef_rmP (mM : MethodId) (x0 : Int32) (x1 : Int32) : entryFrame mM #[(.int x0), (.int x1)] 3 = mkF mM 0 #[.val (.int x0), .val (.int x1), .unset] [] := by first | (simp [entryFrame, mkF, argsToLocals, Value.category]; done) | rfl
set_option maxRecDepth 65536 in
set_option maxHeartbeats 40000000 in
theorem rmP (lL : Launch) (Z : State) (a0 : Array Value) (hw : ∀ d ∈ tables_1, d.before a0 Z = true) (ws : List Jvm.Cond) (x0 : Int32) (x1 : Int32) (h0 : Heap) (n0 : Nat)  :
    MetFree lL (⟨"com/example/upfront_duty/upfrontduty/algebra/EscapeOfCharacterPinLaw", "pick", "(II)C"⟩ : MethodName) (head1 (Jvm.Cond.code (⟨"com/example/upfront_duty/upfrontduty/algebra/EscapeOfCharacterPinLaw", "pick", "(II)C"⟩ : MethodName) method_2_code 3 (some .char) :: ws) ({ frames := 0, cells := 0, slots := 0, locals := 0 } : Room)) (fun as_ uU_ => as_ = #[(.int x0), (.int x1)] ∧ Z.Warmed39 uU_.vm ∧ uU_.heap = h0) (fun _ _ _ _ _ => True) (fun _ uU_ oO_ uE_ => ∃ vV_ lL_, oO_ = .returned vV_ ∧ Qz h0 n0 vV_ uE_.heap lL_ ∧ FrameEnd uU_ oO_ uE_ lL_ ({ frames := 0, cells := 0, slots := 0, locals := 0 } : Room).cells ({ frames := 0, cells := 0, slots := 0, locals := 0 } : Room).slots) := by
  refine MetFree.of_bodySF (plainFor_of_name pn_com_2fexample_2fupfront_duty_2fupfrontduty_2falgebra_2fEscapeOfCharacterPinLaw) hisR ?_
  intro pP eE sS mM args below meth cC s₁ Bd hml0 hP hK
  obtain ⟨rfl, hZ, hh⟩ := hP
  have hx := Bd.exec
  have hby := Bd.bytes
  have hml : cC.maxLocals = 3 := hml0
  have hown : sS.vm.findClass "com/example/upfront_duty/upfrontduty/algebra/EscapeOfCharacterPinLaw" = some mM.cls := findClass_of_methodNamed Bd.named
  have hnm := (name_of_methodNamed Bd.named Bd.method).1
  have hret := Bd.returns
  have hlk := BodyLoose.notSynchronized Bd
  have X0 : Stand pP lL eE ({ frames := 0, cells := 0, slots := 0, locals := 0 } : Room) sS mM #[(.int x0), (.int x1)] below meth cC s₁ [] 0 0 := Stand.of_body Bd
  have e0 : s₁.heap = h0 := by rw [← hh, Bd.state]; rfl
  have N0 := Fr.nil n0
  show own_Go pP eE below sS (Qz h0 n0) 0 0 (s₁.setTop (entryFrame mM #[(.int x0), (.int x1)] 3))
  refine own_st (A := s₁.setTop (mkF mM 0 #[.val (.int x0), .val (.int x1), .unset] [])) (fun tT_ kK_ => castTop (ef_rmP mM x0 x1) kK_) ?_
  refine own_st (A := s₁.setTop (mkF mM 1 #[.val (.int x0), .val (.int x1), .unset] [(.int x0)])) (fun tT_ kK_ => XS.iloadN X0.here hx rfl (hb hby d1_0) rfl kK_) ?_
  refine own_st (A := s₁.setTop (mkF mM 3 #[.val (.int x0), .val (.int x1), .unset] [(.int (7 : Int32)), (.int x0)])) (fun tT_ kK_ => XS.bipush X0.here hx rfl (hb hby d1_1) kK_) ?_
  refine own_st (A := s₁.setTop (mkF mM 4 #[.val (.int x0), .val (.int x1), .unset] [(.int (x0 &&& (7 : Int32)))])) (fun tT_ kK_ => XS.iand X0.here hx rfl (hb hby d1_3) rfl kK_) ?_
  refine own_st (A := s₁.setTop (mkF mM 5 #[.val (.int x0), .val (.int x1), .val (.int (x0 &&& (7 : Int32)))] [])) (fun tT_ kK_ => XS.istoreN X0.here hx rfl (hb hby d1_4) rfl (l' := #[.val (.int x0), .val (.int x1), .val (.int (x0 &&& (7 : Int32)))]) rfl kK_) ?_
  refine own_st (A := s₁.setTop (mkF mM 6 #[.val (.int x0), .val (.int x1), .val (.int (x0 &&& (7 : Int32)))] [(.int (x0 &&& (7 : Int32)))])) (fun tT_ kK_ => XS.iloadN X0.here hx rfl (hb hby d1_5) rfl kK_) ?_
  by_cases hc6_23 : (x0 &&& (7 : Int32)) = (0 : Int32)
  · skip
    refine own_st (A := s₁.setTop (mkF mM 9 #[.val (.int x0), .val (.int x1), .val (.int (x0 &&& (7 : Int32)))] [])) (fun tT_ kK_ => XS.ifNo X0.here hx rfl (hb hby d1_6) rfl ((if0 _ _).trans (teq hc6_23).2) kK_) ?_
    refine own_st (A := s₁.setTop (mkF mM 11 #[.val (.int x0), .val (.int x1), .val (.int (x0 &&& (7 : Int32)))] [(.int (34 : Int32))])) (fun tT_ kK_ => XS.bipush X0.here hx rfl (hb hby d1_9) kK_) ?_
    exact own_retN X0 hx hlk (t := .char) hret (by simp) (hb hby d1_11) ⟨_, rfl, N0, e0⟩ (by decide) (by decide)
  · skip
    refine own_st (A := s₁.setTop (mkF mM 12 #[.val (.int x0), .val (.int x1), .val (.int (x0 &&& (7 : Int32)))] [])) (fun tT_ kK_ => XS.ifYes X0.here hx rfl (pc0 := 6) (pc' := 12) rfl (hb hby d1_6) rfl ((if0 _ _).trans (feq hc6_23).2) (by decide) (by decide) kK_) ?_
    refine own_st (A := s₁.setTop (mkF mM 13 #[.val (.int x0), .val (.int x1), .val (.int (x0 &&& (7 : Int32)))] [(.int (x0 &&& (7 : Int32)))])) (fun tT_ kK_ => XS.iloadN X0.here hx rfl (hb hby d1_12) rfl kK_) ?_
    refine own_st (A := s₁.setTop (mkF mM 14 #[.val (.int x0), .val (.int x1), .val (.int (x0 &&& (7 : Int32)))] [(.int (1 : Int32)), (.int (x0 &&& (7 : Int32)))])) (fun tT_ kK_ => XS.iconst X0.here hx rfl (hb hby d1_13) kK_) ?_
    by_cases hc14_24 : (x0 &&& (7 : Int32)) = (1 : Int32)
    · skip
      refine own_st (A := s₁.setTop (mkF mM 17 #[.val (.int x0), .val (.int x1), .val (.int (x0 &&& (7 : Int32)))] [])) (fun tT_ kK_ => XS.icmpNo X0.here hx rfl (hb hby d1_14) rfl (teq hc14_24).2 kK_) ?_
      refine own_st (A := s₁.setTop (mkF mM 19 #[.val (.int x0), .val (.int x1), .val (.int (x0 &&& (7 : Int32)))] [(.int (92 : Int32))])) (fun tT_ kK_ => XS.bipush X0.here hx rfl (hb hby d1_17) kK_) ?_
      exact own_retN X0 hx hlk (t := .char) hret (by simp) (hb hby d1_19) ⟨_, rfl, N0, e0⟩ (by decide) (by decide)
    · skip
      refine own_st (A := s₁.setTop (mkF mM 20 #[.val (.int x0), .val (.int x1), .val (.int (x0 &&& (7 : Int32)))] [])) (fun tT_ kK_ => XS.icmpYes X0.here hx rfl (pc0 := 14) (pc' := 20) rfl (hb hby d1_14) rfl (feq hc14_24).2 (by decide) (by decide) kK_) ?_
      refine own_st (A := s₁.setTop (mkF mM 21 #[.val (.int x0), .val (.int x1), .val (.int (x0 &&& (7 : Int32)))] [(.int (x0 &&& (7 : Int32)))])) (fun tT_ kK_ => XS.iloadN X0.here hx rfl (hb hby d1_20) rfl kK_) ?_
      refine own_st (A := s₁.setTop (mkF mM 22 #[.val (.int x0), .val (.int x1), .val (.int (x0 &&& (7 : Int32)))] [(.int (2 : Int32)), (.int (x0 &&& (7 : Int32)))])) (fun tT_ kK_ => XS.iconst X0.here hx rfl (hb hby d1_21) kK_) ?_
      by_cases hc22_25 : (x0 &&& (7 : Int32)) = (2 : Int32)
      · skip
        refine own_st (A := s₁.setTop (mkF mM 25 #[.val (.int x0), .val (.int x1), .val (.int (x0 &&& (7 : Int32)))] [])) (fun tT_ kK_ => XS.icmpNo X0.here hx rfl (hb hby d1_22) rfl (teq hc22_25).2 kK_) ?_
        refine own_st (A := s₁.setTop (mkF mM 27 #[.val (.int x0), .val (.int x1), .val (.int (x0 &&& (7 : Int32)))] [(.int (10 : Int32))])) (fun tT_ kK_ => XS.bipush X0.here hx rfl (hb hby d1_25) kK_) ?_
        exact own_retN X0 hx hlk (t := .char) hret (by simp) (hb hby d1_27) ⟨_, rfl, N0, e0⟩ (by decide) (by decide)
      · skip
        refine own_st (A := s₁.setTop (mkF mM 28 #[.val (.int x0), .val (.int x1), .val (.int (x0 &&& (7 : Int32)))] [])) (fun tT_ kK_ => XS.icmpYes X0.here hx rfl (pc0 := 22) (pc' := 28) rfl (hb hby d1_22) rfl (feq hc22_25).2 (by decide) (by decide) kK_) ?_
        refine own_st (A := s₁.setTop (mkF mM 29 #[.val (.int x0), .val (.int x1), .val (.int (x0 &&& (7 : Int32)))] [(.int (x0 &&& (7 : Int32)))])) (fun tT_ kK_ => XS.iloadN X0.here hx rfl (hb hby d1_28) rfl kK_) ?_
        refine own_st (A := s₁.setTop (mkF mM 30 #[.val (.int x0), .val (.int x1), .val (.int (x0 &&& (7 : Int32)))] [(.int (3 : Int32)), (.int (x0 &&& (7 : Int32)))])) (fun tT_ kK_ => XS.iconst X0.here hx rfl (hb hby d1_29) kK_) ?_
        by_cases hc30_26 : (x0 &&& (7 : Int32)) = (3 : Int32)
        · skip
          refine own_st (A := s₁.setTop (mkF mM 33 #[.val (.int x0), .val (.int x1), .val (.int (x0 &&& (7 : Int32)))] [])) (fun tT_ kK_ => XS.icmpNo X0.here hx rfl (hb hby d1_30) rfl (teq hc30_26).2 kK_) ?_
          refine own_st (A := s₁.setTop (mkF mM 35 #[.val (.int x0), .val (.int x1), .val (.int (x0 &&& (7 : Int32)))] [(.int (13 : Int32))])) (fun tT_ kK_ => XS.bipush X0.here hx rfl (hb hby d1_33) kK_) ?_
          exact own_retN X0 hx hlk (t := .char) hret (by simp) (hb hby d1_35) ⟨_, rfl, N0, e0⟩ (by decide) (by decide)
        · skip
          refine own_st (A := s₁.setTop (mkF mM 36 #[.val (.int x0), .val (.int x1), .val (.int (x0 &&& (7 : Int32)))] [])) (fun tT_ kK_ => XS.icmpYes X0.here hx rfl (pc0 := 30) (pc' := 36) rfl (hb hby d1_30) rfl (feq hc30_26).2 (by decide) (by decide) kK_) ?_
          refine own_st (A := s₁.setTop (mkF mM 37 #[.val (.int x0), .val (.int x1), .val (.int (x0 &&& (7 : Int32)))] [(.int (x0 &&& (7 : Int32)))])) (fun tT_ kK_ => XS.iloadN X0.here hx rfl (hb hby d1_36) rfl kK_) ?_
          refine own_st (A := s₁.setTop (mkF mM 38 #[.val (.int x0), .val (.int x1), .val (.int (x0 &&& (7 : Int32)))] [(.int (4 : Int32)), (.int (x0 &&& (7 : Int32)))])) (fun tT_ kK_ => XS.iconst X0.here hx rfl (hb hby d1_37) kK_) ?_
          by_cases hc38_27 : (x0 &&& (7 : Int32)) = (4 : Int32)
          · skip
            refine own_st (A := s₁.setTop (mkF mM 41 #[.val (.int x0), .val (.int x1), .val (.int (x0 &&& (7 : Int32)))] [])) (fun tT_ kK_ => XS.icmpNo X0.here hx rfl (hb hby d1_38) rfl (teq hc38_27).2 kK_) ?_
            refine own_st (A := s₁.setTop (mkF mM 43 #[.val (.int x0), .val (.int x1), .val (.int (x0 &&& (7 : Int32)))] [(.int (110 : Int32))])) (fun tT_ kK_ => XS.bipush X0.here hx rfl (hb hby d1_41) kK_) ?_
            exact own_retN X0 hx hlk (t := .char) hret (by simp) (hb hby d1_43) ⟨_, rfl, N0, e0⟩ (by decide) (by decide)
          · skip
            refine own_st (A := s₁.setTop (mkF mM 44 #[.val (.int x0), .val (.int x1), .val (.int (x0 &&& (7 : Int32)))] [])) (fun tT_ kK_ => XS.icmpYes X0.here hx rfl (pc0 := 38) (pc' := 44) rfl (hb hby d1_38) rfl (feq hc38_27).2 (by decide) (by decide) kK_) ?_
            refine own_st (A := s₁.setTop (mkF mM 45 #[.val (.int x0), .val (.int x1), .val (.int (x0 &&& (7 : Int32)))] [(.int (x0 &&& (7 : Int32)))])) (fun tT_ kK_ => XS.iloadN X0.here hx rfl (hb hby d1_44) rfl kK_) ?_
            refine own_st (A := s₁.setTop (mkF mM 46 #[.val (.int x0), .val (.int x1), .val (.int (x0 &&& (7 : Int32)))] [(.int (5 : Int32)), (.int (x0 &&& (7 : Int32)))])) (fun tT_ kK_ => XS.iconst X0.here hx rfl (hb hby d1_45) kK_) ?_
            by_cases hc46_28 : (x0 &&& (7 : Int32)) = (5 : Int32)
            · skip
              refine own_st (A := s₁.setTop (mkF mM 49 #[.val (.int x0), .val (.int x1), .val (.int (x0 &&& (7 : Int32)))] [])) (fun tT_ kK_ => XS.icmpNo X0.here hx rfl (hb hby d1_46) rfl (teq hc46_28).2 kK_) ?_
              refine own_st (A := s₁.setTop (mkF mM 51 #[.val (.int x0), .val (.int x1), .val (.int (x0 &&& (7 : Int32)))] [(.int (114 : Int32))])) (fun tT_ kK_ => XS.bipush X0.here hx rfl (hb hby d1_49) kK_) ?_
              exact own_retN X0 hx hlk (t := .char) hret (by simp) (hb hby d1_51) ⟨_, rfl, N0, e0⟩ (by decide) (by decide)
            · skip
              refine own_st (A := s₁.setTop (mkF mM 52 #[.val (.int x0), .val (.int x1), .val (.int (x0 &&& (7 : Int32)))] [])) (fun tT_ kK_ => XS.icmpYes X0.here hx rfl (pc0 := 46) (pc' := 52) rfl (hb hby d1_46) rfl (feq hc46_28).2 (by decide) (by decide) kK_) ?_
              refine own_st (A := s₁.setTop (mkF mM 53 #[.val (.int x0), .val (.int x1), .val (.int (x0 &&& (7 : Int32)))] [(.int x1)])) (fun tT_ kK_ => XS.iloadN X0.here hx rfl (hb hby d1_52) rfl kK_) ?_
              refine own_st (A := s₁.setTop (mkF mM 54 #[.val (.int x0), .val (.int x1), .val (.int (x0 &&& (7 : Int32)))] [(.int ((x1).toUInt32.toUInt16.toUInt32.toInt32))])) (fun tT_ kK_ => XS.i2c X0.here hx rfl (hb hby d1_53) rfl kK_) ?_
              exact own_retN X0 hx hlk (t := .char) hret (by simp) (hb hby d1_54) ⟨_, rfl, N0, e0⟩ (by decide) (by decide)
theorem pd__28II_29C : parseMethodDescriptor "(II)C" = some ⟨[.int, .int], some .char⟩ := by decide +kernel
theorem ef_rm0 (mM : MethodId) (x0 : Int32) (x1 : Int32) (a1 : Addr) (a2 : Addr) (a3 : Addr) (a4 : Addr) (t : Addr) (cl : Cell) : entryFrame mM #[(.int x0), (.int x1)] maxLocals = mkF mM 0 #[.val (.int x0), .val (.int x1), .unset, .unset, .unset] [] := by first | (simp [entryFrame, mkF, argsToLocals, Value.category, maxLocals]; done) | rfl
set_option maxRecDepth 65536 in
set_option maxHeartbeats 40000000 in
theorem rm0 (lL : Launch) (Z : State) (a0 : Array Value) (hw : ∀ d ∈ tables_1, d.before a0 Z = true) (ws : List Jvm.Cond) (x0 : Int32) (x1 : Int32) (a1 : Addr) (a2 : Addr) (a3 : Addr) (a4 : Addr) (t : Addr) (cl : Cell) (h0 : Heap) (n0 : Nat) (S_QUOTE : Sta Z h0 "com/example/upfront_duty/upfrontduty/algebra/Names$Escape" "QUOTE" "Lcom/example/upfront_duty/upfrontduty/algebra/Names$Escape;" (.ref a1)) (S_BACKSLASH : Sta Z h0 "com/example/upfront_duty/upfrontduty/algebra/Names$Escape" "BACKSLASH" "Lcom/example/upfront_duty/upfrontduty/algebra/Names$Escape;" (.ref a2)) (S_LINE_FEED : Sta Z h0 "com/example/upfront_duty/upfrontduty/algebra/Names$Escape" "LINE_FEED" "Lcom/example/upfront_duty/upfrontduty/algebra/Names$Escape;" (.ref a3)) (S_CARRIAGE_RETURN : Sta Z h0 "com/example/upfront_duty/upfrontduty/algebra/Names$Escape" "CARRIAGE_RETURN" "Lcom/example/upfront_duty/upfrontduty/algebra/Names$Escape;" (.ref a4)) (S_V : Sta Z h0 "com/example/upfront_duty/upfrontduty/algebra/Names$Escape" "$VALUES" "[Lcom/example/upfront_duty/upfrontduty/algebra/Names$Escape;" (.ref t)) (Ar : Arr Z h0 t cl (.object "com/example/upfront_duty/upfrontduty/algebra/Names$Escape")) (Ex : Exa Z h0 t "[Lcom/example/upfront_duty/upfrontduty/algebra/Names$Escape;") (FC : FitC Z cl) (sz : cl.slots.size = (4 : Int32).toNatClampNeg) (el0 : cl.slots[(0 : Int32).toNatClampNeg]? = some (.ref a1)) (el1 : cl.slots[(1 : Int32).toNatClampNeg]? = some (.ref a2)) (el2 : cl.slots[(2 : Int32).toNatClampNeg]? = some (.ref a3)) (el3 : cl.slots[(3 : Int32).toNatClampNeg]? = some (.ref a4)) (F1 : Fld Z h0 a1 "com/example/upfront_duty/upfrontduty/algebra/Names$Escape" "character" "C" (.int 34)) (F2 : Fld Z h0 a2 "com/example/upfront_duty/upfrontduty/algebra/Names$Escape" "character" "C" (.int 92)) (F3 : Fld Z h0 a3 "com/example/upfront_duty/upfrontduty/algebra/Names$Escape" "character" "C" (.int 10)) (F4 : Fld Z h0 a4 "com/example/upfront_duty/upfrontduty/algebra/Names$Escape" "character" "C" (.int 13)) :
    MetFree lL x (head1 (Jvm.Cond.code x code maxLocals ret :: ws) room_1) (fun as_ uU_ => as_ = #[(.int x0), (.int x1)] ∧ Z.Warmed39 uU_.vm ∧ uU_.heap = h0) (fun _ _ _ _ _ => True) (fun _ uU_ oO_ uE_ => ∃ vV_ lL_, oO_ = .returned vV_ ∧ (fun _ => QLaw) h0 n0 vV_ uE_.heap lL_ ∧ FrameEnd uU_ oO_ uE_ lL_ 16 128) := by
  refine MetFree.of_bodySF (plainFor_of_name pn_com_2fexample_2fupfront_duty_2fupfrontduty_2falgebra_2fEscapeOfCharacterPinLaw) hisR ?_
  intro pP eE sS mM args below meth cC s₁ Bd hml0 hP hK
  obtain ⟨rfl, hZ, hh⟩ := hP
  have hx := Bd.exec
  have hby := Bd.bytes
  have hml : cC.maxLocals = 5 := hml0
  have hown : sS.vm.findClass "com/example/upfront_duty/upfrontduty/algebra/EscapeOfCharacterPinLaw" = some mM.cls := findClass_of_methodNamed Bd.named
  have hnm := (name_of_methodNamed Bd.named Bd.method).1
  have hret := Bd.returns
  have hlk := BodyLoose.notSynchronized Bd
  have X0 : Stand pP lL eE room_1 sS mM #[(.int x0), (.int x1)] below meth cC s₁ [] 0 0 := Stand.of_body Bd
  have e0 : s₁.heap = h0 := by rw [← hh, Bd.state]; rfl
  have N0 := Fr.nil n0
  show own_Go pP eE below sS ((fun _ => QLaw) h0 n0) 16 128 (s₁.setTop (entryFrame mM #[(.int x0), (.int x1)] maxLocals))
  refine own_st (A := s₁.setTop (mkF mM 0 #[.val (.int x0), .val (.int x1), .unset, .unset, .unset] [])) (fun tT_ kK_ => castTop (ef_rm0 mM x0 x1 a1 a2 a3 a4 t cl) kK_) ?_
  refine own_st (A := s₁.setTop (mkF mM 1 #[.val (.int x0), .val (.int x1), .unset, .unset, .unset] [(.int x0)])) (fun tT_ kK_ => XS.iloadN X0.here hx rfl (hb hby at_0) rfl kK_) ?_
  refine own_st (A := s₁.setTop (mkF mM 2 #[.val (.int x0), .val (.int x1), .unset, .unset, .unset] [(.int x1), (.int x0)])) (fun tT_ kK_ => XS.iloadN X0.here hx rfl (hb hby at_1) rfl kK_) ?_
  obtain ⟨_, _, ⟨T29, L29, k29, n29⟩, -, X29, ⟨Lc29, hQ29, l29, y29, z29⟩, st29⟩ := Jvm.LawKit.callS X0 hx (y := (⟨"com/example/upfront_duty/upfrontduty/algebra/EscapeOfCharacterPinLaw", "pick", "(II)C"⟩ : MethodName)) hown (mvT hZ (hw _ (List.mem_of_getElem? (i := 0) rfl))) (mvT hZ (hw _ (List.mem_of_getElem? (i := 1) rfl))) (mvT hZ (hw _ (List.mem_of_getElem? (i := 2) rfl))) (mvT hZ (hw _ (List.mem_of_getElem? (i := 3) rfl))) (by decide) (backOf (W := 0) (rmP lL Z a0 hw [] x0 x1 h0 n0 ) hZ (hw _ (List.mem_of_getElem? (i := 3) rfl)) (hw _ (List.mem_of_getElem? (i := 2) rfl)) (by decide) (by decide)) (g := (mkF mM 2 #[.val (.int x0), .val (.int x1), .unset, .unset, .unset] [(.int x1), (.int x0)])) rfl (by rw [hml]; rfl) (argsL := [(.int x0), (.int x1)]) (rest := []) (lenOf pd__28II_29C rfl) rfl (by show 2 * 0 + _ ≤ _; exact Nat.le_of_eq rfl) (hb hby at_2) (fun _ _ => ⟨rfl, e0, (by decide : 0 + 0 ≤ _), (by decide : 0 + 0 ≤ _)⟩)
  dsimp only [Pt.U, Pt.locs, Pt.cells, Pt.slots] at X29 l29 y29 z29 st29 hQ29
  subst l29 y29 z29
  obtain ⟨z29, rfl, N29q, e29⟩ := hQ29
  have N29 := Fr.app N0 N29q
  refine own_st (A := T29.setTop (mkF mM 5 #[.val (.int x0), .val (.int x1), .unset, .unset, .unset] [(.int z29)])) (fun tT_ kK_ => st29 tT_ kK_) ?_
  refine own_st (A := T29.setTop (mkF mM 6 #[.val (.int x0), .val (.int x1), .val (.int z29), .unset, .unset] [])) (fun tT_ kK_ => XS.istoreN X29.here hx rfl (hb hby at_5) rfl (l' := #[.val (.int x0), .val (.int x1), .val (.int z29), .unset, .unset]) rfl kK_) ?_
  exact J hw X29 hx hZ hby hml hown hlk hret e29 N29 _ _ _ a1 a2 a3 a4 t cl S_QUOTE S_BACKSLASH S_LINE_FEED S_CARRIAGE_RETURN S_V Ar Ex FC sz el0 el1 el2 el3 F1 F2 F3 F4
set_option maxRecDepth 65536 in
set_option maxHeartbeats 40000000 in
theorem comes_1 {Post : Tables → Env → Array Value → State → Outcome → State → Prop} (hpost : ∀ tb e args s v u, (limb_1_1.after args s (.returned v) u = true ∧ limb_1_2.after args s (.returned v) u = true ∧ True) → FrameEnd s (.returned v) u (Jvm.fieldLocs frame_1_writes args s ++ Jvm.arrayLocs frame_1_arrays args s ++ Jvm.staticLocs frame_1_statics s) 16 128 → Post tb e args s (.returned v) u) :
    ArmFor flags0 classFile x code maxLocals ret World_1 tables_1 room_1 Calls_1 rest_1 Pre_1 Post := by
  intro l hfl _ _ p e ha hc hk s m args below hf hA hF happ hP
  obtain ⟨hcalls, hrest, hpre⟩ := hP
  obtain ⟨-, -, -, hnamed, -, -, -, hat⟩ := (Spec.applies_iff hf).mp happ
  obtain ⟨hg, hn⟩ := and_e (Cond.before_iff.mp (show (Jvm.Cond.and given_1 narrow_1).before args s = true from hpre))
  obtain ⟨h1, hg1⟩ := and_e hg
  obtain ⟨w0, w1, rfl⟩ : ∃ w0 w1 : Value, args = #[w0, w1] := by
    have hs : args.size = 2 := by simpa [Cond.value, given_1] using h1
    obtain ⟨L⟩ := args
    match L, hs with
    | [w0, w1], _ => exact ⟨w0, w1, rfl⟩
  have hw := fun d (hd : d ∈ tables_1) => atoms_spec (ws := Jvm.Cond.code x code maxLocals ret :: tables_1) hat d (List.mem_cons_of_mem _ hd)
  have hfit : Fit s := fun {y c} hc i hi => by
    obtain ⟨ha, rfl⟩ := Array.getElem?_eq_some_iff.mp hc
    have q := List.all_eq_true.mp ((Array.all_eq_true_iff_forall_mem.mp hF) _ (Array.getElem_mem ha)) i (List.mem_range.mpr hi)
    simpa [Array.getElem?_eq_getElem hi] using q
  obtain ⟨g0, hg2⟩ := and_e hg1
  obtain ⟨i0, e0⟩ := is_v g0
  obtain rfl : w0 = (.int i0) := Option.some.inj e0
  have g1 := hg2
  obtain ⟨i1, e1⟩ := is_v g1
  obtain rfl : w1 = (.int i1) := Option.some.inj e1
  have hn : narrow_1.value _ s none s [] = some true := hn
  obtain ⟨c0, hn⟩ := and_e hn
  obtain ⟨c1, hn⟩ := and_e hn
  obtain ⟨c2, hn⟩ := and_e hn
  obtain ⟨c3, hn⟩ := and_e hn
  obtain ⟨c4, hn⟩ := and_e hn
  obtain ⟨c5, hn⟩ := and_e hn
  obtain ⟨c6, hn⟩ := and_e hn
  obtain ⟨c7, hn⟩ := and_e hn
  obtain ⟨c8, hn⟩ := and_e hn
  obtain ⟨c9, hn⟩ := and_e hn
  obtain ⟨c10, hn⟩ := and_e hn
  obtain ⟨c11, hn⟩ := and_e hn
  obtain ⟨c12, hn⟩ := and_e hn
  obtain ⟨c13, hn⟩ := and_e hn
  have c14 := hn
  obtain ⟨a_QUOTE, ev_QUOTE⟩ := exa_v c0
  have st_QUOTE := Sta.start ev_QUOTE (Or.inr ⟨(hw _ (List.mem_of_getElem? (i := 8) rfl)), (hw _ (List.mem_of_getElem? (i := 9) rfl))⟩)
  have ex_QUOTE := Exa.start ev_QUOTE c0
  obtain ⟨a__VALUES, ev__VALUES⟩ := exa_v c2
  have st__VALUES := Sta.start ev__VALUES (Or.inl (hw _ (List.mem_of_getElem? (i := 28) rfl)))
  have ex__VALUES := Exa.start ev__VALUES c2
  obtain ⟨a_BACKSLASH, ev_BACKSLASH⟩ := exa_v c5
  have st_BACKSLASH := Sta.start ev_BACKSLASH (Or.inr ⟨(hw _ (List.mem_of_getElem? (i := 8) rfl)), (hw _ (List.mem_of_getElem? (i := 25) rfl))⟩)
  have ex_BACKSLASH := Exa.start ev_BACKSLASH c5
  obtain ⟨a_LINE_FEED, ev_LINE_FEED⟩ := exa_v c7
  have st_LINE_FEED := Sta.start ev_LINE_FEED (Or.inr ⟨(hw _ (List.mem_of_getElem? (i := 8) rfl)), (hw _ (List.mem_of_getElem? (i := 26) rfl))⟩)
  have ex_LINE_FEED := Exa.start ev_LINE_FEED c7
  obtain ⟨a_CARRIAGE_RETURN, ev_CARRIAGE_RETURN⟩ := exa_v c9
  have st_CARRIAGE_RETURN := Sta.start ev_CARRIAGE_RETURN (Or.inr ⟨(hw _ (List.mem_of_getElem? (i := 8) rfl)), (hw _ (List.mem_of_getElem? (i := 27) rfl))⟩)
  have ex_CARRIAGE_RETURN := Exa.start ev_CARRIAGE_RETURN c9
  obtain ⟨cl__VALUES, ar__VALUES⟩ := Arr.start ev__VALUES c1
  have ln__VALUES := own_len ev__VALUES ar__VALUES c3
  have el__VALUES_0 := own_elemR ev__VALUES ar__VALUES ev_QUOTE c4
  have el__VALUES_1 := own_elemR ev__VALUES ar__VALUES ev_BACKSLASH c6
  have el__VALUES_2 := own_elemR ev__VALUES ar__VALUES ev_LINE_FEED c8
  have el__VALUES_3 := own_elemR ev__VALUES ar__VALUES ev_CARRIAGE_RETURN c10
  have fd_QUOTE_character := own_fldI ev_QUOTE c11
  have fd_BACKSLASH_character := own_fldI ev_BACKSLASH c12
  have fd_LINE_FEED_character := own_fldI ev_LINE_FEED c13
  have fd_CARRIAGE_RETURN_character := own_fldI ev_CARRIAGE_RETURN c14
  have sz : cl__VALUES.slots.size = (4 : Int32).toNatClampNeg := by
    rw [← ln__VALUES.2]; simp only [Int32.toNatClampNeg, len_toInt ln__VALUES.1]; rfl
  obtain ⟨n, o, h1, h2, h3, _, L, rfl, ⟨rfl, N⟩, hq⟩ := rm0 l s _ hw tables_1 i0 i1 a_QUOTE a_BACKSLASH a_LINE_FEED a_CARRIAGE_RETURN a__VALUES cl__VALUES s.heap s.heap.size st_QUOTE st_BACKSLASH st_LINE_FEED st_CARRIAGE_RETURN st__VALUES ar__VALUES ex__VALUES (FitC.start hfit ar__VALUES) sz el__VALUES_0 el__VALUES_1 el__VALUES_2 el__VALUES_3 fd_QUOTE_character fd_BACKSLASH_character fd_LINE_FEED_character fd_CARRIAGE_RETURN_character p e ha hc hk s m _ below hf ((Spec.applies_iff_loose hf).mp happ).1 ⟨rfl, State.Warmed39.refl s, rfl⟩ trivial
  refine ⟨n, _, h1, h2, h3, hpost _ _ _ _ _ _ ⟨Cond.after_iff.mpr rfl, Cond.after_iff.mpr (eq_i res_at (Term.int_eval (1)) rfl), trivial⟩ ⟨hq.1, hq.2.1, (hq.2.2.sift fun y hy => Or.inr (N y hy)).mono (by decide) (by decide)⟩⟩
theorem main_1_1 : Claimed_1_1 := comes_1 fun _ _ _ _ _ _ h hF => ⟨h.1, hF⟩
theorem main_1_2 : Claimed_1_2 := comes_1 fun _ _ _ _ _ _ h hF => ⟨h.2.1, hF⟩
end Jvm.Pilot.@@N@@
namespace Jvm.Pilot.@@N@@
open Jvm Jvm.ClassFile Sem Op Lib Jvm.Free Jvm.Stand Jvm.Pilot.@@N@@.Jvm.D
/-! MADE BY PROGRAM (witnessworld.py) out of the Statement's table words and the real class files: 13 classes; the members and pool entries that the words name. The judged class is class 1, her method 3. -/
namespace start1
open Jvm.ClassFile
def u (s : String) : CpInfo := .utf8 (stringToUtf16 s)
/-- a pool by its gaps: so many unusable entries, then the entry; so many at the end -/
def gap : Nat → List CpInfo → List CpInfo
  | 0, r => r
  | n + 1, r => .unusable :: gap n r
def poolList (es : List (Nat × CpInfo)) (last : Nat) : List CpInfo := es.foldr (fun e r => gap e.1 (e.2 :: r)) (gap last [])
def pool (es : List (Nat × CpInfo)) (last : Nat) : Array CpInfo := ⟨poolList es last⟩
def fileOf (pool : Array CpInfo) (this : Nat) (attrs : Array Attribute := #[]) (ms : Array MethodInfo := #[]) (fl : Nat := 33) (sup : Nat := 0) (ifs : Array Nat := #[]) (fds : Array FieldInfo := #[]) : ClassFile where
  minorVersion := 0
  majorVersion := 65
  constantPool := pool
  accessFlags := fl
  thisClass := this
  superClass := sup
  interfaces := ifs
  fields := fds
  methods := ms
  attributes := attrs
def plain (name : String) (sup : Option ClassId) : Class where
  name := name
  kind := .ordinary
  loader := none
  accessFlags := 33
  super := sup
  interfaces := #[]
  cf := none
  fields := #[]
  methods := #[]
  instanceTypes := #[]
  staticTypes := #[]
  resolved := #[]
  callSites := []
  init := .initialized
  statics := none
  mirror := none

def pool0 : Array CpInfo := pool [(5, u "<init>"), (0, u "()V"), (1, .class_ 10), (1, u "java/lang/Object"), (85, u "clone"), (0, u "()Ljava/lang/Object;")] 26

def k0m0 : Method := { name := "<init>", desc := "()V", sig := { parameters := [], returnType := none }, accessFlags := 1, code := none }
def k0m1 : Method := { name := "clone", desc := "()Ljava/lang/Object;", sig := { parameters := [], returnType := some (.object "java/lang/Object") }, accessFlags := 260, code := none }
/-- java/lang/Object -/
def k0 : Class := { plain "java/lang/Object" none with
  accessFlags := 33
  interfaces := #[]
  cf := some (fileOf pool0 8 #[] #[{ accessFlags := 1, nameIndex := 5, descriptorIndex := 6, attributes := #[] }, { accessFlags := 260, nameIndex := 96, descriptorIndex := 97, attributes := #[] }] 33 0 #[] #[])
  fields := #[]
  methods := #[k0m0, k0m1]
  instanceTypes := #[]
  staticTypes := #[]
  resolved := Array.replicate 124 none
  statics := none }

def pool1 : Array CpInfo := pool [(2, .class_ 4), (1, u "java/lang/Object"), (0, u "<init>"), (0, u "()V"), (0, .fieldref 8 9), (0, .class_ 10), (0, .nameAndType 11 12), (0, u "com/example/upfront_duty/upfrontduty/algebra/Names$Escape"), (0, u "QUOTE"), (0, u "Lcom/example/upfront_duty/upfrontduty/algebra/Names$Escape;"), (0, .fieldref 8 14), (0, .nameAndType 15 12), (0, u "BACKSLASH"), (0, .fieldref 8 17), (0, .nameAndType 18 12), (0, u "LINE_FEED"), (0, .fieldref 8 20), (0, .nameAndType 21 12), (0, u "CARRIAGE_RETURN"), (0, .methodref 23 24), (0, .class_ 25), (0, .nameAndType 26 27), (0, u "com/example/upfront_duty/upfrontduty/algebra/EscapeOfCharacterPinLaw"), (0, u "pick"), (0, u "(II)C"), (0, .methodref 23 29), (0, .nameAndType 30 31), (0, u "expected"), (0, u "(C)Lcom/example/upfront_duty/upfrontduty/algebra/Names$Escape;"), (0, .methodref 8 33), (0, .nameAndType 34 31), (0, u "ofCharacter"), (3, u "law"), (0, u "(II)Z")] 6

def k1m0 : Method := { name := "<init>", desc := "()V", sig := { parameters := [], returnType := none }, accessFlags := 2, code := none }
def k1c1 : Code := { maxStack := 2, maxLocals := 3, code := method_2_code, exceptionTable := #[], attributes := #[] }
def k1m1 : Method := { name := "pick", desc := "(II)C", sig := { parameters := [.int, .int], returnType := some .char }, accessFlags := 10, code := some k1c1 }
def k1c2 : Code := { maxStack := 2, maxLocals := 1, code := method_3_code, exceptionTable := #[], attributes := #[] }
def k1m2 : Method := { name := "expected", desc := "(C)Lcom/example/upfront_duty/upfrontduty/algebra/Names$Escape;", sig := { parameters := [.char], returnType := some (.object "com/example/upfront_duty/upfrontduty/algebra/Names$Escape") }, accessFlags := 10, code := some k1c2 }
def k1c3 : Code := { maxStack := 2, maxLocals := 5, code := code, exceptionTable := #[], attributes := #[] }
def k1m3 : Method := { name := "law", desc := "(II)Z", sig := { parameters := [.int, .int], returnType := some .boolean }, accessFlags := 9, code := some k1c3 }
/-- com/example/upfront_duty/upfrontduty/algebra/EscapeOfCharacterPinLaw -/
def k1 : Class := { plain "com/example/upfront_duty/upfrontduty/algebra/EscapeOfCharacterPinLaw" (some 0) with
  accessFlags := 49
  interfaces := #[]
  cf := some (fileOf pool1 23 #[] #[{ accessFlags := 2, nameIndex := 5, descriptorIndex := 6, attributes := #[] }, { accessFlags := 10, nameIndex := 26, descriptorIndex := 27, attributes := #[] }, { accessFlags := 10, nameIndex := 30, descriptorIndex := 31, attributes := #[] }, { accessFlags := 9, nameIndex := 38, descriptorIndex := 39, attributes := #[] }] 49 2 #[] #[])
  fields := #[]
  methods := #[k1m0, k1m1, k1m2, k1m3]
  instanceTypes := #[]
  staticTypes := #[]
  resolved := Array.replicate 46 none
  statics := none }

def pool2 : Array CpInfo := pool [(1, .class_ 2), (0, u "java/lang/constant/Constable"), (0, .class_ 4), (0, u "java/lang/Object")] 6

/-- java/lang/constant/Constable -/
def k2 : Class := { plain "java/lang/constant/Constable" (some 0) with
  accessFlags := 1537
  interfaces := #[]
  cf := some (fileOf pool2 1 #[] #[] 1537 3 #[] #[])
  fields := #[]
  methods := #[]
  instanceTypes := #[]
  staticTypes := #[]
  resolved := Array.replicate 11 none
  statics := none }

def pool3 : Array CpInfo := pool [(1, .class_ 2), (0, u "java/lang/Comparable"), (0, .class_ 4), (0, u "java/lang/Object")] 7

/-- java/lang/Comparable -/
def k3 : Class := { plain "java/lang/Comparable" (some 0) with
  accessFlags := 1537
  interfaces := #[]
  cf := some (fileOf pool3 1 #[] #[] 1537 3 #[] #[])
  fields := #[]
  methods := #[]
  instanceTypes := #[]
  staticTypes := #[]
  resolved := Array.replicate 12 none
  statics := none }

def pool4 : Array CpInfo := pool [(1, .class_ 2), (0, u "java/io/Serializable"), (0, .class_ 4), (0, u "java/lang/Object")] 2

/-- java/io/Serializable -/
def k4 : Class := { plain "java/io/Serializable" (some 0) with
  accessFlags := 1537
  interfaces := #[]
  cf := some (fileOf pool4 1 #[] #[] 1537 3 #[] #[])
  fields := #[]
  methods := #[]
  instanceTypes := #[]
  staticTypes := #[]
  resolved := Array.replicate 7 none
  statics := none }

def pool5 : Array CpInfo := pool [(2, .class_ 4), (1, u "java/lang/Enum"), (0, u "name"), (0, u "Ljava/lang/String;"), (2, u "ordinal"), (0, u "I"), (1, .class_ 14), (1, u "java/lang/Object"), (4, u "hash"), (86, .class_ 108), (1, u "java/lang/Enum$EnumDesc"), (2, .class_ 112), (0, u "java/lang/constant/Constable"), (0, .class_ 114), (0, u "java/lang/Comparable"), (0, .class_ 116), (0, u "java/io/Serializable")] 87

/-- java/lang/Enum -/
def k5 : Class := { plain "java/lang/Enum" (some 0) with
  accessFlags := 1057
  interfaces := #[2, 3, 4]
  cf := some (fileOf pool5 2 #[.nestMembers #[106]] #[] 1057 12 #[111, 113, 115] #[{ accessFlags := 18, nameIndex := 5, descriptorIndex := 6, attributes := #[] }, { accessFlags := 18, nameIndex := 9, descriptorIndex := 10, attributes := #[] }, { accessFlags := 2, nameIndex := 19, descriptorIndex := 10, attributes := #[] }])
  fields := #[{ name := "name", type := (.object "java/lang/String"), accessFlags := 18, slot := 0, constantValue := 0 }, { name := "ordinal", type := .int, accessFlags := 18, slot := 1, constantValue := 0 }, { name := "hash", type := .int, accessFlags := 2, slot := 2, constantValue := 0 }]
  methods := #[]
  instanceTypes := #[(.object "java/lang/String"), .int, .int]
  staticTypes := #[]
  resolved := Array.replicate 204 none
  statics := none }

def pool6 : Array CpInfo := pool [(1, .class_ 2), (0, u "com/example/upfront_duty/upfrontduty/algebra/Names$Escape"), (2, u "QUOTE"), (0, u "Lcom/example/upfront_duty/upfrontduty/algebra/Names$Escape;"), (2, u "BACKSLASH"), (2, u "LINE_FEED"), (2, u "CARRIAGE_RETURN"), (0, .fieldref 1 17), (0, .nameAndType 18 19), (0, u "$VALUES"), (0, u "[Lcom/example/upfront_duty/upfrontduty/algebra/Names$Escape;"), (0, .methodref 21 22), (0, .class_ 19), (0, .nameAndType 23 24), (0, u "clone"), (0, u "()Ljava/lang/Object;"), (1, .class_ 28), (1, u "java/lang/Enum"), (8, u "letter"), (0, u "C"), (0, .fieldref 1 40), (0, .nameAndType 41 38), (0, u "character"), (0, .methodref 1 43), (0, .nameAndType 44 45), (0, u "values"), (0, u "()[Lcom/example/upfront_duty/upfrontduty/algebra/Names$Escape;"), (21, u "(C)Lcom/example/upfront_duty/upfrontduty/algebra/Names$Escape;"), (1, u "ofCharacter"), (9, .class_ 80), (0, u "com/example/upfront_duty/upfrontduty/algebra/Names")] 16

def k6c0 : Code := { maxStack := 1, maxLocals := 0, code := prog_17_method_1_code, exceptionTable := #[], attributes := #[] }
def k6m0 : Method := { name := "values", desc := "()[Lcom/example/upfront_duty/upfrontduty/algebra/Names$Escape;", sig := { parameters := [], returnType := some (.array (.object "com/example/upfront_duty/upfrontduty/algebra/Names$Escape")) }, accessFlags := 9, code := some k6c0 }
def k6c1 : Code := { maxStack := 2, maxLocals := 5, code := prog_17_method_5_code, exceptionTable := #[], attributes := #[] }
def k6m1 : Method := { name := "ofCharacter", desc := "(C)Lcom/example/upfront_duty/upfrontduty/algebra/Names$Escape;", sig := { parameters := [.char], returnType := some (.object "com/example/upfront_duty/upfrontduty/algebra/Names$Escape") }, accessFlags := 8, code := some k6c1 }
/-- com/example/upfront_duty/upfrontduty/algebra/Names$Escape -/
def k6 : Class := { plain "com/example/upfront_duty/upfrontduty/algebra/Names$Escape" (some 5) with
  accessFlags := 16432
  interfaces := #[]
  cf := some (fileOf pool6 1 #[.nestHost 79] #[{ accessFlags := 9, nameIndex := 44, descriptorIndex := 45, attributes := #[] }, { accessFlags := 8, nameIndex := 69, descriptorIndex := 67, attributes := #[] }] 16432 26 #[] #[{ accessFlags := 16409, nameIndex := 5, descriptorIndex := 6, attributes := #[] }, { accessFlags := 16409, nameIndex := 9, descriptorIndex := 6, attributes := #[] }, { accessFlags := 16409, nameIndex := 12, descriptorIndex := 6, attributes := #[] }, { accessFlags := 16409, nameIndex := 15, descriptorIndex := 6, attributes := #[] }, { accessFlags := 18, nameIndex := 37, descriptorIndex := 38, attributes := #[] }, { accessFlags := 18, nameIndex := 41, descriptorIndex := 38, attributes := #[] }, { accessFlags := 4122, nameIndex := 18, descriptorIndex := 19, attributes := #[] }])
  fields := #[{ name := "QUOTE", type := (.object "com/example/upfront_duty/upfrontduty/algebra/Names$Escape"), accessFlags := 16409, slot := 0, constantValue := 0 }, { name := "BACKSLASH", type := (.object "com/example/upfront_duty/upfrontduty/algebra/Names$Escape"), accessFlags := 16409, slot := 1, constantValue := 0 }, { name := "LINE_FEED", type := (.object "com/example/upfront_duty/upfrontduty/algebra/Names$Escape"), accessFlags := 16409, slot := 2, constantValue := 0 }, { name := "CARRIAGE_RETURN", type := (.object "com/example/upfront_duty/upfrontduty/algebra/Names$Escape"), accessFlags := 16409, slot := 3, constantValue := 0 }, { name := "letter", type := .char, accessFlags := 18, slot := 3, constantValue := 0 }, { name := "character", type := .char, accessFlags := 18, slot := 4, constantValue := 0 }, { name := "$VALUES", type := (.array (.object "com/example/upfront_duty/upfrontduty/algebra/Names$Escape")), accessFlags := 4122, slot := 4, constantValue := 0 }]
  methods := #[k6m0, k6m1]
  instanceTypes := #[(.object "java/lang/String"), .int, .int, .char, .char]
  staticTypes := #[(.object "com/example/upfront_duty/upfrontduty/algebra/Names$Escape"), (.object "com/example/upfront_duty/upfrontduty/algebra/Names$Escape"), (.object "com/example/upfront_duty/upfrontduty/algebra/Names$Escape"), (.object "com/example/upfront_duty/upfrontduty/algebra/Names$Escape"), (.array (.object "com/example/upfront_duty/upfrontduty/algebra/Names$Escape"))]
  resolved := Array.replicate 97 none
  statics := some 0 }

def pool7 : Array CpInfo := pool [(1, .class_ 2), (0, u "java/lang/Cloneable"), (0, .class_ 4), (0, u "java/lang/Object")] 2

/-- java/lang/Cloneable -/
def k7 : Class := { plain "java/lang/Cloneable" (some 0) with
  accessFlags := 1537
  interfaces := #[]
  cf := some (fileOf pool7 1 #[] #[] 1537 3 #[] #[])
  fields := #[]
  methods := #[]
  instanceTypes := #[]
  staticTypes := #[]
  resolved := Array.replicate 7 none
  statics := none }

/-- the primitive byte -/
def k8 : Class := { plain "byte" none with kind := .primitive 'B', accessFlags := 0x411 }
/-- [B -/
def k9 : Class := { plain "[B" (some 0) with kind := .array 8 .byte, interfaces := #[7, 4], accessFlags := 1041 }

/-- the primitive int -/
def k10 : Class := { plain "int" none with kind := .primitive 'I', accessFlags := 0x411 }
/-- [I -/
def k11 : Class := { plain "[I" (some 0) with kind := .array 10 .int, interfaces := #[7, 4], accessFlags := 1041 }

/-- [Lcom/example/upfront_duty/upfrontduty/algebra/Names$Escape; -/
def k12 : Class := { plain "[Lcom/example/upfront_duty/upfrontduty/algebra/Names$Escape;" (some 0) with kind := .array 6 (.object "com/example/upfront_duty/upfrontduty/algebra/Names$Escape"), interfaces := #[7, 4], accessFlags := 1041 }

def heap : Heap := #[{ cls := 6, slots := #[.ref 2, .ref 3, .ref 4, .ref 5, .ref 1], vm := .statics 6 },
  { cls := 12, slots := #[.ref 2, .ref 3, .ref 4, .ref 5], vm := .none },
  { cls := 6, slots := #[.null, .int 0, .int 0, .int 34, .int 34], vm := .none },
  { cls := 6, slots := #[.null, .int 1, .int 0, .int 92, .int 92], vm := .none },
  { cls := 6, slots := #[.null, .int 2, .int 0, .int 110, .int 10], vm := .none },
  { cls := 6, slots := #[.null, .int 3, .int 0, .int 114, .int 13], vm := .none }]
def classes : Array Class := #[k0, k1, k2, k3, k4, k5, k6, k7, k8, k9, k10, k11, k12]
def interned : List (Array UInt16 × Addr) := []
def slotsUsed : Nat := 29
def theMethod : MethodId := ⟨1, 3⟩
def args0 : Array Value := #[.int 5, .int 6]
def aboutOver (below : List Frame) : State where
  vm := { classes := classes, interned := interned.toArray }
  heap := heap
  slotsUsed := slotsUsed
  threads := #[{ frames := .invoking theMethod args0 :: below }]
def below0 : List Frame := [.native { method := ⟨0, 0⟩, args := #[] }]
def about1 : State := aboutOver below0
def p0 : Program := .bare "" "" ""
def e0 : Env := launch0.env 0 0 0
theorem w_frames : about1.frames = Frame.invoking theMethod args0 :: below0 := rfl
set_option maxRecDepth 65536 in
theorem w_args : argsFit about1.vm theMethod args0 = true := by decide +kernel
set_option maxRecDepth 65536 in
theorem w_heap : heapFits about1 = true := by decide +kernel
set_option maxRecDepth 65536 in
theorem w_runnable : about1.curStatus? = some .runnable := by decide +kernel
set_option maxRecDepth 65536 in
theorem w_alone : about1.alone = true := by decide +kernel
set_option maxRecDepth 65536 in
theorem w_named : about1.methodNamed? x = some theMethod := by decide +kernel
set_option maxRecDepth 65536 in
theorem w_hears : about1.hears theMethod below0 = true := by decide +kernel
set_option maxRecDepth 65536 in
theorem w_ripe : about1.ripe theMethod args0 below0 = true := by decide +kernel
theorem w_running : about1.status = .running := rfl
set_option maxRecDepth 65536 in
theorem w_room : about1.hasRoom e0.platform room_1 = true :=
  launch0.hasRoom_least _ room_1 (by decide +kernel) (by decide +kernel) (by decide +kernel) (by decide +kernel) (by decide +kernel) (by decide +kernel)
theorem allAtoms_all (ts : List Jvm.Cond) (a : Array Jvm.Value) (st : Jvm.State) : (allAtoms ts).before a st = ts.all (fun c => c.before a st) := by
  induction ts with
  | nil => rfl
  | cons c t ih =>
    show (Jvm.Cond.and c (allAtoms t)).before a st = _
    rw [Jvm.Cond.before_and, ih, List.all_cons]
def words1 : List Jvm.Cond := Jvm.Cond.code x code maxLocals ret :: tables_1
/-- a 'code' word, met by the world's own term for the bytes: nothing is compared byte by byte -/
theorem code_word {y : MethodName} {bytes : ByteArray} {mx : Nat} {rt : Option FieldType} {a : Array Value} {s : State} {m : MethodId} {meth : Method} {c : Code} (h1 : s.methodNamed? y = some m) (h2 : s.vm.method? m = some meth) (h3 : meth.code = some c) (h4 : c.code = bytes)
    (h5 : (c.maxLocals == mx && c.exceptionTable.isEmpty && decide (c.maxStack ≤ mostOperands) && decide (meth.sig.returnType = rt) && !meth.locks && decide (parseMethodDescriptor y.desc = some meth.sig)) = true) : (Jvm.Cond.code y bytes mx rt).before a s = true := by
  simp only [Bool.and_eq_true, beq_iff_eq, Bool.not_eq_true', decide_eq_true_eq] at h5
  obtain ⟨⟨⟨⟨⟨g1, g2⟩, g3⟩, g4⟩, g5⟩, g6⟩ := h5
  simp [Cond.before, Cond.holds, Cond.value, h1, h2, h3, h4, g1, g2, g3, g4, g5, g6]
def isCode : Jvm.Cond → Bool
  | .code _ _ _ _ => true
  | _ => false
theorem all_split {L : List Jvm.Cond} {P : Jvm.Cond → Bool} (h1 : L.all (fun c => isCode c || P c) = true) (h2 : ∀ c ∈ L.filter isCode, P c = true) : L.all P = true := by
  refine List.all_eq_true.mpr fun c hc => ?_
  have h := List.all_eq_true.mp h1 c hc
  rcases Bool.eq_false_or_eq_true (isCode c) with hi | hi
  · exact h2 c (List.mem_filter.mpr ⟨hc, hi⟩)
  · simpa [hi] using h
set_option maxRecDepth 65536 in
theorem w_c0 : (Jvm.Cond.code x code maxLocals ret).before args0 about1 = true := code_word (m := ⟨1, 3⟩) (meth := k1m3) (c := k1c3) (by decide +kernel) rfl rfl rfl (by decide +kernel)
set_option maxRecDepth 65536 in
theorem w_c1 : (Jvm.Cond.code ({ cls := "com/example/upfront_duty/upfrontduty/algebra/EscapeOfCharacterPinLaw", name := "pick", desc := "(II)C" } : Jvm.MethodName) method_2_code (3 : Nat) (Option.some Jvm.ClassFile.FieldType.char)).before args0 about1 = true := code_word (m := ⟨1, 1⟩) (meth := k1m1) (c := k1c1) (by decide +kernel) rfl rfl rfl (by decide +kernel)
set_option maxRecDepth 65536 in
theorem w_c2 : (Jvm.Cond.code ({ cls := "com/example/upfront_duty/upfrontduty/algebra/EscapeOfCharacterPinLaw", name := "expected", desc := "(C)Lcom/example/upfront_duty/upfrontduty/algebra/Names$Escape;" } : Jvm.MethodName) method_3_code (1 : Nat) (Option.some (Jvm.ClassFile.FieldType.object "com/example/upfront_duty/upfrontduty/algebra/Names$Escape"))).before args0 about1 = true := code_word (m := ⟨1, 2⟩) (meth := k1m2) (c := k1c2) (by decide +kernel) rfl rfl rfl (by decide +kernel)
set_option maxRecDepth 65536 in
theorem w_c3 : (Jvm.Cond.code ({ cls := "com/example/upfront_duty/upfrontduty/algebra/Names$Escape", name := "ofCharacter", desc := "(C)Lcom/example/upfront_duty/upfrontduty/algebra/Names$Escape;" } : Jvm.MethodName) prog_17_method_5_code (5 : Nat) (Option.some (Jvm.ClassFile.FieldType.object "com/example/upfront_duty/upfrontduty/algebra/Names$Escape"))).before args0 about1 = true := code_word (m := ⟨6, 1⟩) (meth := k6m1) (c := k6c1) (by decide +kernel) rfl rfl rfl (by decide +kernel)
set_option maxRecDepth 65536 in
theorem w_c4 : (Jvm.Cond.code ({ cls := "com/example/upfront_duty/upfrontduty/algebra/Names$Escape", name := "values", desc := "()[Lcom/example/upfront_duty/upfrontduty/algebra/Names$Escape;" } : Jvm.MethodName) prog_17_method_1_code (0 : Nat) (Option.some (Jvm.ClassFile.FieldType.array (Jvm.ClassFile.FieldType.object "com/example/upfront_duty/upfrontduty/algebra/Names$Escape")))).before args0 about1 = true := code_word (m := ⟨6, 0⟩) (meth := k6m0) (c := k6c0) (by decide +kernel) rfl rfl rfl (by decide +kernel)
def codes1 : List Jvm.Cond := [Jvm.Cond.code x code maxLocals ret, Jvm.Cond.code ({ cls := "com/example/upfront_duty/upfrontduty/algebra/EscapeOfCharacterPinLaw", name := "pick", desc := "(II)C" } : Jvm.MethodName) method_2_code (3 : Nat) (Option.some Jvm.ClassFile.FieldType.char), Jvm.Cond.code ({ cls := "com/example/upfront_duty/upfrontduty/algebra/EscapeOfCharacterPinLaw", name := "expected", desc := "(C)Lcom/example/upfront_duty/upfrontduty/algebra/Names$Escape;" } : Jvm.MethodName) method_3_code (1 : Nat) (Option.some (Jvm.ClassFile.FieldType.object "com/example/upfront_duty/upfrontduty/algebra/Names$Escape")), Jvm.Cond.code ({ cls := "com/example/upfront_duty/upfrontduty/algebra/Names$Escape", name := "ofCharacter", desc := "(C)Lcom/example/upfront_duty/upfrontduty/algebra/Names$Escape;" } : Jvm.MethodName) prog_17_method_5_code (5 : Nat) (Option.some (Jvm.ClassFile.FieldType.object "com/example/upfront_duty/upfrontduty/algebra/Names$Escape")), Jvm.Cond.code ({ cls := "com/example/upfront_duty/upfrontduty/algebra/Names$Escape", name := "values", desc := "()[Lcom/example/upfront_duty/upfrontduty/algebra/Names$Escape;" } : Jvm.MethodName) prog_17_method_1_code (0 : Nat) (Option.some (Jvm.ClassFile.FieldType.array (Jvm.ClassFile.FieldType.object "com/example/upfront_duty/upfrontduty/algebra/Names$Escape")))]
set_option maxRecDepth 65536 in
theorem codes_eq : words1.filter isCode = codes1 := rfl
theorem w_codes : ∀ c ∈ words1.filter isCode, c.before args0 about1 = true := by
  rw [codes_eq]
  intro c hc
  simp only [codes1, List.mem_cons, List.not_mem_nil, or_false] at hc
  rcases hc with rfl | rfl | rfl | rfl | rfl
  · exact w_c0
  · exact w_c1
  · exact w_c2
  · exact w_c3
  · exact w_c4
set_option maxRecDepth 65536 in
theorem w_t1 : (words1.take 24).all (fun c => isCode c || c.before args0 about1) = true := by decide +kernel
set_option maxRecDepth 65536 in
theorem w_t2 : (words1.drop 24).all (fun c => isCode c || c.before args0 about1) = true := by decide +kernel
theorem w_tables : (allAtoms (Jvm.Cond.code x code maxLocals ret :: tables_1)).before args0 about1 = true := by
  rw [allAtoms_all]
  show words1.all (fun c => c.before args0 about1) = true
  refine all_split ?_ w_codes
  rw [← List.take_append_drop 24 words1, List.all_append, w_t1, w_t2]
  rfl
set_option maxRecDepth 65536 in
theorem w_case : (Jvm.Cond.and given_1 narrow_1).before args0 about1 = true := by decide +kernel
theorem w_applies : (headSpec (Jvm.Cond.code x code maxLocals ret :: tables_1) room_1).applies x e0.platform about1 = true :=
  (Spec.applies_iff w_frames).mpr ⟨w_running, w_runnable, w_alone, w_named, w_hears, w_ripe, w_room, w_tables⟩
theorem atStart : AtStart classFile x code maxLocals ret World_1 tables_1 room_1 Calls_1 rest_1 Pre_1 launch0 p0 e0 about1 theMethod args0 below0 :=
  ⟨lists_1, trivial, launch0.admits_env _ _ _, launch0.least_env, fairChoices_fair.cas, fairChoices_fair.clock, w_frames, w_args, w_heap, w_applies, trivial, trivial, w_case⟩
end start1
theorem witness_1 : WitnessClaimed_1 := ⟨start1.p0, start1.e0, start1.about1, start1.theMethod, start1.args0, start1.below0, start1.atStart⟩
end Jvm.Pilot.@@N@@
