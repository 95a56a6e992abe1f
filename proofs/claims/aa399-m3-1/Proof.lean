import JvmDerived
import JvmDerived.Pilot.@@N@@Statement
import JvmDerived.Pilot.@@N@@Code
set_option linter.unusedVariables false
set_option linter.unusedSimpArgs false
namespace Jvm.Pilot.@@N@@
open Jvm Jvm.ClassFile Sem Op Lib Jvm.Free Jvm.Stand Jvm.LawKit Jvm.RoadKit Bundle Jvm.Pilot.@@N@@.Jvm.D
section OwnGo
variable {p : Program} {l : Launch} {e : Env} {R : Room} {s : State} {m : MethodId} {args : Array Value} {below : List Frame} {meth : Method} {c : Code} {T : State} {locs : List Loc} {cells slots : Nat} {Q : Option Value → Heap → List Loc → Prop} {kc ks : Nat}
/-- from this state the body runs to its return, and Q holds of what it leaves -/
def own_Go (p : Program) (e : Env) (below : List Frame) (s : State) (Q : Option Value → Heap → List Loc → Prop) (kc ks : Nat) (S : State) : Prop :=
  ∃ s₂ o, Steps p.tables e below S s₂ ∧ s₂.status = .running ∧ Ended s₂ below o ∧ ∃ v L, o = .returned v ∧ Q v s₂.heap L ∧ FrameEnd s o s₂ L kc ks
theorem own_st {A B : State} (f : ∀ t, Steps p.tables e below A t → Steps p.tables e below B t) (h : own_Go p e below s Q kc ks A) : own_Go p e below s Q kc ks B := by
  obtain ⟨s₂, o, h1, h2⟩ := h
  exact ⟨s₂, o, f _ h1, h2⟩
theorem own_mono {S : State} {Q' : Option Value → Heap → List Loc → Prop} (h : own_Go p e below s Q kc ks S) (f : ∀ v h L, Q v h L → Q' v h L) : own_Go p e below s Q' kc ks S := by
  obtain ⟨s₂, o, h1, h2, h3, v, L, h4, h5, h6⟩ := h
  exact ⟨s₂, o, h1, h2, h3, v, L, h4, f _ _ _ h5, h6⟩
theorem own_retN (X : Stand p l e R s m args below meth c T locs cells slots) (hx : p.tables.exec = Jvm.exec) (hlk : meth.locks = false) {pc : Nat} {Ls : Array Slot} {z : Int32} {t : FieldType} {rest : List Value} (hret : meth.sig.returnType = some t) (ht : t = .boolean ∨ t = .byte ∨ t = .char ∨ t = .short)
    (hd : decode c.code pc = .ok (.ireturn, 1)) (hq : Q (some (.int (nar t z))) T.heap locs) (hc : cells ≤ kc) (hs : slots ≤ ks) : own_Go p e below s Q kc ks (T.setTop (mkF m pc Ls (.int z :: rest))) := by
  obtain ⟨fs, hr, hrun, hended, hW, hsame⟩ := X.leave (v := some (.int (nar t z))) (fun h => by rw [hret] at h; cases h) hlk
  exact ⟨_, _, retN X hx hret ht hd hr, hrun, hended, _, _, rfl, hq, ⟨_, rfl⟩, hW, hsame.mono hc hs⟩
theorem own_retI (X : Stand p l e R s m args below meth c T locs cells slots) (hx : p.tables.exec = Jvm.exec) (hlk : meth.locks = false) {pc : Nat} {Ls : Array Slot} {z : Int32} {rest : List Value} (hret : meth.sig.returnType = some .int)
    (hd : decode c.code pc = .ok (.ireturn, 1)) (hq : Q (some (.int z)) T.heap locs) (hc : cells ≤ kc) (hs : slots ≤ ks) : own_Go p e below s Q kc ks (T.setTop (mkF m pc Ls (.int z :: rest))) := by
  obtain ⟨fs, hr, hrun, hended, hW, hsame⟩ := X.leave (v := some (.int z)) (fun h => by rw [hret] at h; cases h) hlk
  exact ⟨_, _, retOut X hx hret rfl (Or.inl ⟨rfl, Or.inl rfl, z, rfl⟩) hd hr, hrun, hended, _, _, rfl, hq, ⟨_, rfl⟩, hW, hsame.mono hc hs⟩
theorem own_retJ (X : Stand p l e R s m args below meth c T locs cells slots) (hx : p.tables.exec = Jvm.exec) (hlk : meth.locks = false) {pc : Nat} {Ls : Array Slot} {z : Int64} {rest : List Value} (hret : meth.sig.returnType = some .long)
    (hd : decode c.code pc = .ok (.lreturn, 1)) (hq : Q (some (.long z)) T.heap locs) (hc : cells ≤ kc) (hs : slots ≤ ks) : own_Go p e below s Q kc ks (T.setTop (mkF m pc Ls (.long z :: rest))) := by
  obtain ⟨fs, hr, hrun, hended, hW, hsame⟩ := X.leave (v := some (.long z)) (fun h => by rw [hret] at h; cases h) hlk
  exact ⟨_, _, retOut X hx hret rfl (Or.inr (Or.inl ⟨rfl, rfl, z, rfl⟩)) hd hr, hrun, hended, _, _, rfl, hq, ⟨_, rfl⟩, hW, hsame.mono hc hs⟩
theorem own_retA (X : Stand p l e R s m args below meth c T locs cells slots) (hx : p.tables.exec = Jvm.exec) (hlk : meth.locks = false) {pc : Nat} {Ls : Array Slot} {w : Value} {t : FieldType} {rest : List Value} (hret : meth.sig.returnType = some t) (ht : t.isReference = true) (hw : w.isRef = true)
    (hd : decode c.code pc = .ok (.areturn, 1)) (hq : Q (some w) T.heap locs) (hc : cells ≤ kc) (hs : slots ≤ ks) : own_Go p e below s Q kc ks (T.setTop (mkF m pc Ls (w :: rest))) := by
  obtain ⟨fs, hr, hrun, hended, hW, hsame⟩ := X.leave (v := some w) (fun h => by rw [hret] at h; cases h) hlk
  exact ⟨_, _, retOut X hx hret (by rcases ref_cases hw with rfl | ⟨a, rfl⟩ <;> cases t <;> first | rfl | cases ht) (Or.inr (Or.inr (Or.inr (Or.inr ⟨rfl, ht, hw⟩)))) hd hr, hrun, hended, _, _, rfl, hq, ⟨_, rfl⟩, hW, hsame.mono hc hs⟩
theorem own_retV (X : Stand p l e R s m args below meth c T locs cells slots) (hx : p.tables.exec = Jvm.exec) (hlk : meth.locks = false) {pc : Nat} {Ls : Array Slot} (hret : meth.sig.returnType = none)
    (hd : decode c.code pc = .ok (.return_, 1)) (hq : Q none T.heap locs) (hc : cells ≤ kc) (hs : slots ≤ ks) : own_Go p e below s Q kc ks (T.setTop (mkF m pc Ls [])) := by
  obtain ⟨fs, hr, hrun, hended, hW, hsame⟩ := X.leave (v := none) (fun _ => rfl) hlk
  exact ⟨_, _, X.returnOut hx hret hd hr, hrun, hended, _, _, rfl, hq, ⟨_, rfl⟩, hW, hsame.mono hc hs⟩
end OwnGo
section OwnWords
variable {args : Array Value} {s : State} {t i : Term} {a b : Addr} {C n d : String} {k : Int32} {cl : Cell} {ty : FieldType}
theorem own_fldI (ev : t.eval args s none [] s = some (.ref a)) (h : (Jvm.Cond.eq (Term.field t C n d) (Term.int k)).value args s none s [] = some true) : Fld s s.heap a C n d (.int k) := by
  have e1 := fld_at (C := C) (n := n) (dd := d) ev
  have e2 := Term.int_eval (args := args) (first := s) (o := none) (idx := []) (s := s) k
  refine Fld.start ?_
  cases hv : s.fieldOf? a C n d with
  | none => rw [hv] at e1; simp [Jvm.Cond.value, e1] at h
  | some v => rw [hv] at e1; cases v <;> simp [Jvm.Cond.value, e1, e2] at h; rw [h]
theorem own_len (ev : t.eval args s none [] s = some (.ref a)) (A : Arr s s.heap a cl ty) (h : (Jvm.Cond.eq (Term.length t) (Term.int k)).value args s none s [] = some true) : cl.slots.size < 2 ^ 31 ∧ cl.slots.size.toInt32 = k := by
  have e2 := Term.int_eval (args := args) (first := s) (o := none) (idx := []) (s := s) k
  have e0 := A.fin (Vm.Alike.refl _)
  by_cases hl : cl.slots.size < 2 ^ 31
  · have e1 := len_f ev e0 hl
    simp [Jvm.Cond.value, e1, e2] at h
    exact ⟨hl, h⟩
  · have e1 : (Term.length t).eval args s none [] s = none := by simp [Term.eval, ev, e0]; omega
    simp [Jvm.Cond.value, e1] at h
theorem own_elem {v : Value} (ev : t.eval args s none [] s = some (.ref a)) (A : Arr s s.heap a cl ty) {u : Term} (eu : u.eval args s none [] s = some v) (hv : v.isRef = true) (h : (Jvm.Cond.eq (Term.elem t (Term.int k)) u).value args s none s [] = some true) : cl.slots[k.toNatClampNeg]? = some v := by
  have e2 := Term.int_eval (args := args) (first := s) (o := none) (idx := []) (s := s) k
  obtain ⟨x, y, hx, hy, -, -⟩ := cmp_v (Or.inl h)
  cases eu.symm.trans hy
  obtain ⟨-, q⟩ := elem_in hx ev e2 A.1
  have hk : x.isRef = true := by
    cases x <;> rcases ref_cases hv with rfl | ⟨z, rfl⟩ <;> simp [Jvm.Cond.value, hx, hy] at h ⊢ <;> rfl
  rw [q, gotT (eq_R hx hy hk hv) h]
theorem own_elemR (ev : t.eval args s none [] s = some (.ref a)) (A : Arr s s.heap a cl ty) {u : Term} (eu : u.eval args s none [] s = some (.ref b)) (h : (Jvm.Cond.eq (Term.elem t (Term.int k)) u).value args s none s [] = some true) : cl.slots[k.toNatClampNeg]? = some (.ref b) := own_elem ev A eu rfl h
theorem own_elemN (ev : t.eval args s none [] s = some (.ref a)) (A : Arr s s.heap a cl ty) (h : (Jvm.Cond.eq (Term.elem t (Term.int k)) .null).value args s none s [] = some true) : cl.slots[k.toNatClampNeg]? = some .null := own_elem ev A null_at rfl h
end OwnWords
section OwnMore
theorem own_privSel {s : State} {args : Array Value} {y z z' : MethodName} {C : String} (hs : (Jvm.Cond.selects C z' z).before args s = true) (e : z.cls = y.cls) (hpriv : s.PrivateAt y) (hinst : (Jvm.Cond.instanceMethod y).before args s = true) (hy : y.cls ≠ "java/lang/invoke/MethodHandle" ∧ y.cls ≠ "java/lang/invoke/VarHandle") : (Jvm.Cond.selects y.cls y y).before args s = true := by
  obtain ⟨c, r, m, -, -, h3, -, mk, h5, h6⟩ := Cond.selects_spec hs
  exact selects_self_of_private (e ▸ findClass_of_methodNamed h3) h5 h6 hpriv hinst hy
theorem own_nar_boolean {x : Int32} (h : nar .boolean x = x) : narrow .boolean (.int x) = .int x := congrArg Value.int h
theorem own_fits_boolean {x : Int32} (h : nar .boolean x = x) : fits .boolean (.int x) = true := h ▸ fits_nar_bool x
theorem own_nar_char {x : Int32} (h : nar .char x = x) : narrow .char (.int x) = .int x := congrArg Value.int h
theorem own_fits_char {x : Int32} (h : nar .char x = x) : fits .char (.int x) = true := h ▸ fits_nar_char x
theorem own_nar_ref {v : Value} {C : String} (h : v.isRef = true) : narrow (.object C) v = v := by rcases ref_cases h with rfl | ⟨a, rfl⟩ <;> rfl
theorem own_fits_ref {v : Value} {C : String} (h : v.isRef = true) : fits (.object C) v = true := by rcases ref_cases h with rfl | ⟨a, rfl⟩ <;> rfl
theorem own_c1 {v : Value} (h : v.isRef = true) : v.category = 1 := by rcases ref_cases h with rfl | ⟨a, rfl⟩ <;> rfl
theorem own_ext_of_keep {h h' : Heap} (K : Keep h h' []) : Ext h h' := ⟨K.1, fun a c q => K.2.1 a c q nin0⟩
theorem own_ext_refl (h : Heap) : Ext h h := ⟨Nat.le_refl _, fun _ _ q => q⟩
theorem own_ext_trans {h h' h'' : Heap} (E : Ext h h') (E' : Ext h' h'') : Ext h h'' := ⟨Nat.le_trans E.1 E'.1, fun a c q => E'.2 a c (E.2 a c q)⟩
end OwnMore
def QLaw (n0 : Nat) (v : Option Value) (h : Heap) (L : List Loc) : Prop := v = some (.int 1) ∧ Fr n0 L
def Qb (b : Int32) (h0 : Heap) (n0 : Nat) (v : Option Value) (h : Heap) (L : List Loc) : Prop := v = some (.int b) ∧ Fr n0 L ∧ h = h0
theorem d1_0 : decode prog_108_method_6_code 0 = .ok (.aload_n 0, 1) := by decide +kernel
theorem d1_1 : decode prog_108_method_6_code 1 = .ok (.getstatic 10, 3) := by decide +kernel
theorem d1_4 : decode prog_108_method_6_code 4 = .ok (.if_acmp .ne 7, 3) := by decide +kernel
theorem d1_7 : decode prog_108_method_6_code 7 = .ok (.iconst 1, 1) := by decide +kernel
theorem d1_8 : decode prog_108_method_6_code 8 = .ok (.goto 4, 3) := by decide +kernel
theorem d1_12 : decode prog_108_method_6_code 12 = .ok (.ireturn, 1) := by decide +kernel
theorem d1_11 : decode prog_108_method_6_code 11 = .ok (.iconst 0, 1) := by decide +kernel
theorem pn_com_2fexample_2fgleanwork_2fgleanwork_2fserver_2fChange_24FailureLimit_24Losses : plainName "com/example/gleanwork/gleanwork/server/Change$FailureLimit$Losses" = true := by first | (simp [plainName, overriddenIn]; done) | decide +kernel
theorem ef_rmBy (m : MethodId) (a : Addr) (u : Addr) (b : Int32) : entryFrame m #[(.ref a)] 1 = mkF m 0 #[.val (.ref a)] [] := by first | (simp [entryFrame, mkF, argsToLocals, Value.category]; done) | rfl
set_option maxRecDepth 65536 in
set_option maxHeartbeats 40000000 in
theorem rmBy (l : Launch) (Z : State) (a0 : Array Value) (hw : ∀ d ∈ tables_1, d.before a0 Z = true) (ws : List Jvm.Cond) (a : Addr) (u : Addr) (b : Int32) (h0 : Heap) (n0 : Nat) (S_AS_FAILURES : Sta Z h0 "com/example/gleanwork/gleanwork/server/Change$FailureLimit$Losses" "AS_FAILURES" "Lcom/example/gleanwork/gleanwork/server/Change$FailureLimit$Losses;" (.ref u)) (hb1 : a = u → b = 1) (hb0 : a ≠ u → b = 0) :
    MetFree l (⟨"com/example/gleanwork/gleanwork/server/Change$FailureLimit$Losses", "byNumber", "()Z"⟩ : MethodName) (head1 (Jvm.Cond.code (⟨"com/example/gleanwork/gleanwork/server/Change$FailureLimit$Losses", "byNumber", "()Z"⟩ : MethodName) prog_108_method_6_code 1 (some .boolean) :: ws) ({ frames := 0, cells := 0, slots := 0, locals := 0 } : Room)) (fun as_ uU_ => as_ = #[(.ref a)] ∧ Z.Warmed39 uU_.vm ∧ uU_.heap = h0) (fun _ _ _ _ _ => True) (fun _ uU_ oO_ uE_ => ∃ vV_ lL_, oO_ = .returned vV_ ∧ Qb b h0 n0 vV_ uE_.heap lL_ ∧ FrameEnd uU_ oO_ uE_ lL_ ({ frames := 0, cells := 0, slots := 0, locals := 0 } : Room).cells ({ frames := 0, cells := 0, slots := 0, locals := 0 } : Room).slots) := by
  refine MetFree.of_bodySF (plainFor_of_name pn_com_2fexample_2fgleanwork_2fgleanwork_2fserver_2fChange_24FailureLimit_24Losses) hisR ?_
  intro p e s m args below meth c s₁ Bd hml0 hP hK
  obtain ⟨rfl, hZ, hh⟩ := hP
  have hx := Bd.exec
  have hby := Bd.bytes
  have hml : c.maxLocals = 1 := hml0
  have hown : s.vm.findClass "com/example/gleanwork/gleanwork/server/Change$FailureLimit$Losses" = some m.cls := findClass_of_methodNamed Bd.named
  have hnm := (name_of_methodNamed Bd.named Bd.method).1
  have hret := Bd.returns
  have hlk := BodyLoose.notSynchronized Bd
  have X0 : Stand p l e ({ frames := 0, cells := 0, slots := 0, locals := 0 } : Room) s m #[(.ref a)] below meth c s₁ [] 0 0 := Stand.of_body Bd
  have e0 : s₁.heap = h0 := by rw [← hh, Bd.state]; rfl
  have N0 := Fr.nil n0
  show own_Go p e below s (Qb b h0 n0) 0 0 (s₁.setTop (entryFrame m #[(.ref a)] 1))
  refine own_st (A := s₁.setTop (mkF m 0 #[.val (.ref a)] [])) (fun tT_ kK_ => castTop (ef_rmBy m a u b) kK_) ?_
  refine own_st (A := s₁.setTop (mkF m 1 #[.val (.ref a)] [(.ref a)])) (fun tT_ kK_ => XS.aloadN X0.here hx rfl (hb hby d1_0) rfl rfl kK_) ?_
  obtain ⟨T1, X1, e1, st1⟩ := getS2 X0 hx hZ hown (host := "") (Or.inl (hw _ (List.mem_of_getElem? (i := 9) rfl))) Via.refl e0 S_AS_FAILURES (g := (mkF m 1 #[.val (.ref a)] [(.ref a)])) rfl (hb hby d1_1)
  refine own_st (A := T1.setTop (mkF m 4 #[.val (.ref a)] [(.ref u), (.ref a)])) (fun tT_ kK_ => st1 tT_ kK_) ?_
  by_cases hc4_2 : ((.ref a) : Value) = (.ref u)
  · skip
    refine own_st (A := T1.setTop (mkF m 7 #[.val (.ref a)] [])) (fun tT_ kK_ => Jvm.RoadKit.acmp X1 hx rfl (x := (.ref a)) (y := (.ref u)) rfl rfl (pc0 := 4) (pc' := 7) (same := true) rfl (hb hby d1_4) rfl (decide_eq_true hc4_2) (by decide) (by decide) kK_) ?_
    refine own_st (A := T1.setTop (mkF m 8 #[.val (.ref a)] [(.int (1 : Int32))])) (fun tT_ kK_ => XS.iconst X1.here hx rfl (hb hby d1_7) kK_) ?_
    refine own_st (A := T1.setTop (mkF m 12 #[.val (.ref a)] [(.int (1 : Int32))])) (fun tT_ kK_ => XS.goto X1.here hx rfl (pc0 := 8) (pc' := 12) rfl (hb hby d1_8) (by decide) (by decide) kK_) ?_
    exact own_retN X1 hx hlk (t := .boolean) hret (by simp) (hb hby d1_12) (by rw [hb1 (Value.ref.inj hc4_2)]; exact ⟨rfl, N0, e1⟩) (by decide) (by decide)
  · skip
    refine own_st (A := T1.setTop (mkF m 11 #[.val (.ref a)] [])) (fun tT_ kK_ => Jvm.RoadKit.acmp X1 hx rfl (x := (.ref a)) (y := (.ref u)) rfl rfl (pc0 := 4) (pc' := 11) (same := false) rfl (hb hby d1_4) rfl (decide_eq_false hc4_2) (by decide) (by decide) kK_) ?_
    refine own_st (A := T1.setTop (mkF m 12 #[.val (.ref a)] [(.int (0 : Int32))])) (fun tT_ kK_ => XS.iconst X1.here hx rfl (hb hby d1_11) kK_) ?_
    exact own_retN X1 hx hlk (t := .boolean) hret (by simp) (hb hby d1_12) (by rw [hb0 (fun q => hc4_2 (congrArg Value.ref q))]; exact ⟨rfl, N0, e1⟩) (by decide) (by decide)
theorem d2_0 : decode prog_108_method_5_code 0 = .ok (.aload_n 0, 1) := by decide +kernel
theorem d2_1 : decode prog_108_method_5_code 1 = .ok (.getstatic 3, 3) := by decide +kernel
theorem d2_4 : decode prog_108_method_5_code 4 = .ok (.if_acmp .eq 7, 3) := by decide +kernel
theorem d2_11 : decode prog_108_method_5_code 11 = .ok (.iconst 0, 1) := by decide +kernel
theorem d2_12 : decode prog_108_method_5_code 12 = .ok (.ireturn, 1) := by decide +kernel
theorem d2_7 : decode prog_108_method_5_code 7 = .ok (.iconst 1, 1) := by decide +kernel
theorem d2_8 : decode prog_108_method_5_code 8 = .ok (.goto 4, 3) := by decide +kernel
theorem ef_rmCo (m : MethodId) (a : Addr) (u : Addr) (b : Int32) : entryFrame m #[(.ref a)] 1 = mkF m 0 #[.val (.ref a)] [] := by first | (simp [entryFrame, mkF, argsToLocals, Value.category]; done) | rfl
set_option maxRecDepth 65536 in
set_option maxHeartbeats 40000000 in
theorem rmCo (l : Launch) (Z : State) (a0 : Array Value) (hw : ∀ d ∈ tables_1, d.before a0 Z = true) (ws : List Jvm.Cond) (a : Addr) (u : Addr) (b : Int32) (h0 : Heap) (n0 : Nat) (S_UNCOUNTED : Sta Z h0 "com/example/gleanwork/gleanwork/server/Change$FailureLimit$Losses" "UNCOUNTED" "Lcom/example/gleanwork/gleanwork/server/Change$FailureLimit$Losses;" (.ref u)) (hb1 : a = u → b = 0) (hb0 : a ≠ u → b = 1) :
    MetFree l (⟨"com/example/gleanwork/gleanwork/server/Change$FailureLimit$Losses", "counted", "()Z"⟩ : MethodName) (head1 (Jvm.Cond.code (⟨"com/example/gleanwork/gleanwork/server/Change$FailureLimit$Losses", "counted", "()Z"⟩ : MethodName) prog_108_method_5_code 1 (some .boolean) :: ws) ({ frames := 0, cells := 0, slots := 0, locals := 0 } : Room)) (fun as_ uU_ => as_ = #[(.ref a)] ∧ Z.Warmed39 uU_.vm ∧ uU_.heap = h0) (fun _ _ _ _ _ => True) (fun _ uU_ oO_ uE_ => ∃ vV_ lL_, oO_ = .returned vV_ ∧ Qb b h0 n0 vV_ uE_.heap lL_ ∧ FrameEnd uU_ oO_ uE_ lL_ ({ frames := 0, cells := 0, slots := 0, locals := 0 } : Room).cells ({ frames := 0, cells := 0, slots := 0, locals := 0 } : Room).slots) := by
  refine MetFree.of_bodySF (plainFor_of_name pn_com_2fexample_2fgleanwork_2fgleanwork_2fserver_2fChange_24FailureLimit_24Losses) hisR ?_
  intro p e s m args below meth c s₁ Bd hml0 hP hK
  obtain ⟨rfl, hZ, hh⟩ := hP
  have hx := Bd.exec
  have hby := Bd.bytes
  have hml : c.maxLocals = 1 := hml0
  have hown : s.vm.findClass "com/example/gleanwork/gleanwork/server/Change$FailureLimit$Losses" = some m.cls := findClass_of_methodNamed Bd.named
  have hnm := (name_of_methodNamed Bd.named Bd.method).1
  have hret := Bd.returns
  have hlk := BodyLoose.notSynchronized Bd
  have X0 : Stand p l e ({ frames := 0, cells := 0, slots := 0, locals := 0 } : Room) s m #[(.ref a)] below meth c s₁ [] 0 0 := Stand.of_body Bd
  have e0 : s₁.heap = h0 := by rw [← hh, Bd.state]; rfl
  have N0 := Fr.nil n0
  show own_Go p e below s (Qb b h0 n0) 0 0 (s₁.setTop (entryFrame m #[(.ref a)] 1))
  refine own_st (A := s₁.setTop (mkF m 0 #[.val (.ref a)] [])) (fun tT_ kK_ => castTop (ef_rmCo m a u b) kK_) ?_
  refine own_st (A := s₁.setTop (mkF m 1 #[.val (.ref a)] [(.ref a)])) (fun tT_ kK_ => XS.aloadN X0.here hx rfl (hb hby d2_0) rfl rfl kK_) ?_
  obtain ⟨T3, X3, e3, st3⟩ := getS2 X0 hx hZ hown (host := "") (Or.inl (hw _ (List.mem_of_getElem? (i := 17) rfl))) Via.refl e0 S_UNCOUNTED (g := (mkF m 1 #[.val (.ref a)] [(.ref a)])) rfl (hb hby d2_1)
  refine own_st (A := T3.setTop (mkF m 4 #[.val (.ref a)] [(.ref u), (.ref a)])) (fun tT_ kK_ => st3 tT_ kK_) ?_
  by_cases hc4_4 : ((.ref a) : Value) = (.ref u)
  · skip
    refine own_st (A := T3.setTop (mkF m 11 #[.val (.ref a)] [])) (fun tT_ kK_ => Jvm.RoadKit.acmp X3 hx rfl (x := (.ref a)) (y := (.ref u)) rfl rfl (pc0 := 4) (pc' := 11) (same := true) rfl (hb hby d2_4) rfl (decide_eq_true hc4_4) (by decide) (by decide) kK_) ?_
    refine own_st (A := T3.setTop (mkF m 12 #[.val (.ref a)] [(.int (0 : Int32))])) (fun tT_ kK_ => XS.iconst X3.here hx rfl (hb hby d2_11) kK_) ?_
    exact own_retN X3 hx hlk (t := .boolean) hret (by simp) (hb hby d2_12) (by rw [hb1 (Value.ref.inj hc4_4)]; exact ⟨rfl, N0, e3⟩) (by decide) (by decide)
  · skip
    refine own_st (A := T3.setTop (mkF m 7 #[.val (.ref a)] [])) (fun tT_ kK_ => Jvm.RoadKit.acmp X3 hx rfl (x := (.ref a)) (y := (.ref u)) rfl rfl (pc0 := 4) (pc' := 7) (same := false) rfl (hb hby d2_4) rfl (decide_eq_false hc4_4) (by decide) (by decide) kK_) ?_
    refine own_st (A := T3.setTop (mkF m 8 #[.val (.ref a)] [(.int (1 : Int32))])) (fun tT_ kK_ => XS.iconst X3.here hx rfl (hb hby d2_7) kK_) ?_
    refine own_st (A := T3.setTop (mkF m 12 #[.val (.ref a)] [(.int (1 : Int32))])) (fun tT_ kK_ => XS.goto X3.here hx rfl (pc0 := 8) (pc' := 12) rfl (hb hby d2_8) (by decide) (by decide) kK_) ?_
    exact own_retN X3 hx hlk (t := .boolean) hret (by simp) (hb hby d2_12) (by rw [hb0 (fun q => hc4_4 (congrArg Value.ref q))]; exact ⟨rfl, N0, e3⟩) (by decide) (by decide)
theorem pd__28_29Z : parseMethodDescriptor "()Z" = some ⟨[], some .boolean⟩ := by decide +kernel
set_option maxRecDepth 65536 in
set_option maxHeartbeats 40000000 in
theorem J7 {p : Program} {l : Launch} {e : Env} {s : State} {m : MethodId} {args : Array Value} {below : List Frame} {meth : Method} {c : Code} {T0 : State} {locs : List Loc} {Z : State} {a0 : Array Value} {h0 : Heap} {n0 : Nat} (hw : ∀ d ∈ tables_1, d.before a0 Z = true) (X0 : Stand p l e room_1 s m args below meth c T0 locs 0 0) (hx : p.tables.exec = Jvm.exec) (hZ : Z.Warmed39 s.vm) (hby : c.code = code) (hml : c.maxLocals = 5) (hown : s.vm.findClass "com/example/gleanwork/gleanwork/server/LossesByNumberPinLaw" = some m.cls) (hlk : meth.locks = false) (hret : meth.sig.returnType = ret) (e0 : T0.heap = h0) (N0 : Fr n0 locs) (s0 : Slot) (i : Int32) (u : Addr) (v : Addr) (w : Addr) (S_UNCOUNTED : Sta Z h0 "com/example/gleanwork/gleanwork/server/Change$FailureLimit$Losses" "UNCOUNTED" "Lcom/example/gleanwork/gleanwork/server/Change$FailureLimit$Losses;" (.ref u)) (S_BY_NODES : Sta Z h0 "com/example/gleanwork/gleanwork/server/Change$FailureLimit$Losses" "BY_NODES" "Lcom/example/gleanwork/gleanwork/server/Change$FailureLimit$Losses;" (.ref v)) (S_AS_FAILURES : Sta Z h0 "com/example/gleanwork/gleanwork/server/Change$FailureLimit$Losses" "AS_FAILURES" "Lcom/example/gleanwork/gleanwork/server/Change$FailureLimit$Losses;" (.ref w)) (E_u : Exa Z h0 u "com/example/gleanwork/gleanwork/server/Change$FailureLimit$Losses") (E_v : Exa Z h0 v "com/example/gleanwork/gleanwork/server/Change$FailureLimit$Losses") (E_w : Exa Z h0 w "com/example/gleanwork/gleanwork/server/Change$FailureLimit$Losses") (uv : u ≠ v) (uw : u ≠ w) (vw : v ≠ w) :
    own_Go p e below s (QLaw n0) 0 0 (T0.setTop (mkF m 7 #[s0, .val (.int i), .unset, .unset, .unset] [])) := by
  refine own_st (A := T0.setTop (mkF m 8 #[s0, .val (.int i), .unset, .unset, .unset] [(.int i)])) (fun tT_ kK_ => XS.iloadN X0.here hx rfl (hb hby at_7) rfl kK_) ?_
  by_cases hc8_5 : i = (0 : Int32)
  · skip
    refine own_st (A := T0.setTop (mkF m 11 #[s0, .val (.int i), .unset, .unset, .unset] [])) (fun tT_ kK_ => XS.ifNo X0.here hx rfl (hb hby at_8) rfl ((if0 _ _).trans (teq hc8_5).2) kK_) ?_
    obtain ⟨T6, X6, e6, st6⟩ := getS2 X0 hx hZ hown (host := "") (Or.inl (hw _ (List.mem_of_getElem? (i := 1) rfl))) Via.refl e0 S_UNCOUNTED (g := (mkF m 11 #[s0, .val (.int i), .unset, .unset, .unset] [])) rfl (hb hby at_11)
    refine own_st (A := T6.setTop (mkF m 14 #[s0, .val (.int i), .unset, .unset, .unset] [(.ref u)])) (fun tT_ kK_ => st6 tT_ kK_) ?_
    refine own_st (A := T6.setTop (mkF m 15 #[s0, .val (.int i), .val (.ref u), .unset, .unset] [])) (fun tT_ kK_ => XS.astoreN X6.here hx rfl (hb hby at_14) rfl rfl (l' := #[s0, .val (.int i), .val (.ref u), .unset, .unset]) rfl kK_) ?_
    refine own_st (A := T6.setTop (mkF m 34 #[s0, .val (.int i), .val (.ref u), .unset, .unset] [])) (fun tT_ kK_ => XS.goto X6.here hx rfl (pc0 := 15) (pc' := 34) rfl (hb hby at_15) (by decide) (by decide) kK_) ?_
    refine own_st (A := T6.setTop (mkF m 35 #[s0, .val (.int i), .val (.ref u), .unset, .unset] [(.ref u)])) (fun tT_ kK_ => XS.aloadN X6.here hx rfl (hb hby at_34) rfl rfl kK_) ?_
    obtain ⟨cq7, kq7, q7a, q7b, q7c⟩ := isOf hZ e6 E_u
    obtain ⟨_, _, ⟨T7, L7, k7, n7⟩, -, X7, ⟨Lc7, hQ7, l7, y7, z7⟩, st7⟩ := X6.virtualBack hx (y := (⟨"com/example/gleanwork/gleanwork/server/Change$FailureLimit$Losses", "byNumber", "()Z"⟩ : MethodName)) (z := (⟨"com/example/gleanwork/gleanwork/server/Change$FailureLimit$Losses", "byNumber", "()Z"⟩ : MethodName)) hown (mvT hZ (hw _ (List.mem_of_getElem? (i := 4) rfl))) (mvT hZ (hw _ (List.mem_of_getElem? (i := 5) rfl))) (notFace_of_selects (args := #[]) (mvT hZ (hw _ (List.mem_of_getElem? (i := 7) rfl)))) (mvT hZ (hw _ (List.mem_of_getElem? (i := 7) rfl))) (mvT hZ (hw _ (List.mem_of_getElem? (i := 6) rfl))) (by decide) (backOf (W := 0) (rmBy l Z a0 hw [] u w 0 h0 n0 S_AS_FAILURES (fun q => absurd q uw) (fun _ => rfl)) hZ (hw _ (List.mem_of_getElem? (i := 8) rfl)) (hw _ (List.mem_of_getElem? (i := 2) rfl)) (by decide) (by decide)) q7a q7c (g := (mkF m 35 #[s0, .val (.int i), .val (.ref u), .unset, .unset] [(.ref u)])) rfl (by rw [hml]; rfl) (Steps.refl _) (argsL := []) (rest := []) (lenOf pd__28_29Z rfl) rfl (by show 2 * 0 + _ ≤ _; exact Nat.le_of_eq rfl) (hb hby at_35) (fun _ _ => ⟨rfl, e6, (by decide : 0 + 0 ≤ _), (by decide : 0 + 0 ≤ _)⟩)
    dsimp only [Pt.U, Pt.locs, Pt.cells, Pt.slots] at X7 l7 y7 z7 st7 hQ7
    subst l7 y7 z7
    obtain ⟨rfl, N7q, e7⟩ := hQ7
    have N7 := Fr.app N0 N7q
    refine own_st (A := T7.setTop (mkF m 38 #[s0, .val (.int i), .val (.ref u), .unset, .unset] [(.int (0 : Int32))])) (fun tT_ kK_ => st7.trans kK_) ?_
    refine own_st (A := T7.setTop (mkF m 39 #[s0, .val (.int i), .val (.ref u), .val (.int (0 : Int32)), .unset] [])) (fun tT_ kK_ => XS.istoreN X7.here hx rfl (hb hby at_38) rfl (l' := #[s0, .val (.int i), .val (.ref u), .val (.int (0 : Int32)), .unset]) rfl kK_) ?_
    refine own_st (A := T7.setTop (mkF m 40 #[s0, .val (.int i), .val (.ref u), .val (.int (0 : Int32)), .unset] [(.int i)])) (fun tT_ kK_ => XS.iloadN X7.here hx rfl (hb hby at_39) rfl kK_) ?_
    refine own_st (A := T7.setTop (mkF m 43 #[s0, .val (.int i), .val (.ref u), .val (.int (0 : Int32)), .unset] [])) (fun tT_ kK_ => XS.ifNo X7.here hx rfl (hb hby at_40) rfl ((if0 _ _).trans (teq hc8_5).2) kK_) ?_
    refine own_st (A := T7.setTop (mkF m 44 #[s0, .val (.int i), .val (.ref u), .val (.int (0 : Int32)), .unset] [(.int (0 : Int32))])) (fun tT_ kK_ => XS.iconst X7.here hx rfl (hb hby at_43) kK_) ?_
    refine own_st (A := T7.setTop (mkF m 46 #[s0, .val (.int i), .val (.ref u), .val (.int (0 : Int32)), .val (.int (0 : Int32))] [])) (fun tT_ kK_ => XS.istore X7.here hx rfl (hb hby at_44) rfl (l' := #[s0, .val (.int i), .val (.ref u), .val (.int (0 : Int32)), .val (.int (0 : Int32))]) rfl kK_) ?_
    refine own_st (A := T7.setTop (mkF m 63 #[s0, .val (.int i), .val (.ref u), .val (.int (0 : Int32)), .val (.int (0 : Int32))] [])) (fun tT_ kK_ => XS.goto X7.here hx rfl (pc0 := 46) (pc' := 63) rfl (hb hby at_46) (by decide) (by decide) kK_) ?_
    refine own_st (A := T7.setTop (mkF m 64 #[s0, .val (.int i), .val (.ref u), .val (.int (0 : Int32)), .val (.int (0 : Int32))] [(.int (0 : Int32))])) (fun tT_ kK_ => XS.iloadN X7.here hx rfl (hb hby at_63) rfl kK_) ?_
    refine own_st (A := T7.setTop (mkF m 66 #[s0, .val (.int i), .val (.ref u), .val (.int (0 : Int32)), .val (.int (0 : Int32))] [(.int (0 : Int32)), (.int (0 : Int32))])) (fun tT_ kK_ => XS.iload X7.here hx rfl (hb hby at_64) rfl kK_) ?_
    refine own_st (A := T7.setTop (mkF m 69 #[s0, .val (.int i), .val (.ref u), .val (.int (0 : Int32)), .val (.int (0 : Int32))] [])) (fun tT_ kK_ => XS.icmpNo X7.here hx rfl (hb hby at_66) rfl (teq (by decide : ((0 : Int32) = (0 : Int32)))).2 kK_) ?_
    refine own_st (A := T7.setTop (mkF m 70 #[s0, .val (.int i), .val (.ref u), .val (.int (0 : Int32)), .val (.int (0 : Int32))] [(.int (0 : Int32))])) (fun tT_ kK_ => XS.iloadN X7.here hx rfl (hb hby at_69) rfl kK_) ?_
    refine own_st (A := T7.setTop (mkF m 80 #[s0, .val (.int i), .val (.ref u), .val (.int (0 : Int32)), .val (.int (0 : Int32))] [])) (fun tT_ kK_ => XS.ifYes X7.here hx rfl (pc0 := 70) (pc' := 80) rfl (hb hby at_70) rfl ((if0 _ _).trans (teq (by decide : ((0 : Int32) = (0 : Int32)))).1) (by decide) (by decide) kK_) ?_
    refine own_st (A := T7.setTop (mkF m 81 #[s0, .val (.int i), .val (.ref u), .val (.int (0 : Int32)), .val (.int (0 : Int32))] [(.int (1 : Int32))])) (fun tT_ kK_ => XS.iconst X7.here hx rfl (hb hby at_80) kK_) ?_
    refine own_st (A := T7.setTop (mkF m 85 #[s0, .val (.int i), .val (.ref u), .val (.int (0 : Int32)), .val (.int (0 : Int32))] [(.int (1 : Int32))])) (fun tT_ kK_ => XS.goto X7.here hx rfl (pc0 := 81) (pc' := 85) rfl (hb hby at_81) (by decide) (by decide) kK_) ?_
    exact own_retN X7 hx hlk (t := .boolean) hret (by simp) (hb hby at_85) ⟨rfl, N7⟩ (by decide) (by decide)
  · skip
    refine own_st (A := T0.setTop (mkF m 18 #[s0, .val (.int i), .unset, .unset, .unset] [])) (fun tT_ kK_ => XS.ifYes X0.here hx rfl (pc0 := 8) (pc' := 18) rfl (hb hby at_8) rfl ((if0 _ _).trans (feq hc8_5).2) (by decide) (by decide) kK_) ?_
    refine own_st (A := T0.setTop (mkF m 19 #[s0, .val (.int i), .unset, .unset, .unset] [(.int i)])) (fun tT_ kK_ => XS.iloadN X0.here hx rfl (hb hby at_18) rfl kK_) ?_
    refine own_st (A := T0.setTop (mkF m 20 #[s0, .val (.int i), .unset, .unset, .unset] [(.int (1 : Int32)), (.int i)])) (fun tT_ kK_ => XS.iconst X0.here hx rfl (hb hby at_19) kK_) ?_
    by_cases hc20_8 : i = (1 : Int32)
    · skip
      refine own_st (A := T0.setTop (mkF m 23 #[s0, .val (.int i), .unset, .unset, .unset] [])) (fun tT_ kK_ => XS.icmpNo X0.here hx rfl (hb hby at_20) rfl (teq hc20_8).2 kK_) ?_
      obtain ⟨T9, X9, e9, st9⟩ := getS2 X0 hx hZ hown (host := "") (Or.inl (hw _ (List.mem_of_getElem? (i := 18) rfl))) Via.refl e0 S_BY_NODES (g := (mkF m 23 #[s0, .val (.int i), .unset, .unset, .unset] [])) rfl (hb hby at_23)
      refine own_st (A := T9.setTop (mkF m 26 #[s0, .val (.int i), .unset, .unset, .unset] [(.ref v)])) (fun tT_ kK_ => st9 tT_ kK_) ?_
      refine own_st (A := T9.setTop (mkF m 27 #[s0, .val (.int i), .val (.ref v), .unset, .unset] [])) (fun tT_ kK_ => XS.astoreN X9.here hx rfl (hb hby at_26) rfl rfl (l' := #[s0, .val (.int i), .val (.ref v), .unset, .unset]) rfl kK_) ?_
      refine own_st (A := T9.setTop (mkF m 34 #[s0, .val (.int i), .val (.ref v), .unset, .unset] [])) (fun tT_ kK_ => XS.goto X9.here hx rfl (pc0 := 27) (pc' := 34) rfl (hb hby at_27) (by decide) (by decide) kK_) ?_
      refine own_st (A := T9.setTop (mkF m 35 #[s0, .val (.int i), .val (.ref v), .unset, .unset] [(.ref v)])) (fun tT_ kK_ => XS.aloadN X9.here hx rfl (hb hby at_34) rfl rfl kK_) ?_
      obtain ⟨cq10, kq10, q10a, q10b, q10c⟩ := isOf hZ e9 E_v
      obtain ⟨_, _, ⟨T10, L10, k10, n10⟩, -, X10, ⟨Lc10, hQ10, l10, y10, z10⟩, st10⟩ := X9.virtualBack hx (y := (⟨"com/example/gleanwork/gleanwork/server/Change$FailureLimit$Losses", "byNumber", "()Z"⟩ : MethodName)) (z := (⟨"com/example/gleanwork/gleanwork/server/Change$FailureLimit$Losses", "byNumber", "()Z"⟩ : MethodName)) hown (mvT hZ (hw _ (List.mem_of_getElem? (i := 4) rfl))) (mvT hZ (hw _ (List.mem_of_getElem? (i := 5) rfl))) (notFace_of_selects (args := #[]) (mvT hZ (hw _ (List.mem_of_getElem? (i := 7) rfl)))) (mvT hZ (hw _ (List.mem_of_getElem? (i := 7) rfl))) (mvT hZ (hw _ (List.mem_of_getElem? (i := 6) rfl))) (by decide) (backOf (W := 0) (rmBy l Z a0 hw [] v w 0 h0 n0 S_AS_FAILURES (fun q => absurd q vw) (fun _ => rfl)) hZ (hw _ (List.mem_of_getElem? (i := 8) rfl)) (hw _ (List.mem_of_getElem? (i := 2) rfl)) (by decide) (by decide)) q10a q10c (g := (mkF m 35 #[s0, .val (.int i), .val (.ref v), .unset, .unset] [(.ref v)])) rfl (by rw [hml]; rfl) (Steps.refl _) (argsL := []) (rest := []) (lenOf pd__28_29Z rfl) rfl (by show 2 * 0 + _ ≤ _; exact Nat.le_of_eq rfl) (hb hby at_35) (fun _ _ => ⟨rfl, e9, (by decide : 0 + 0 ≤ _), (by decide : 0 + 0 ≤ _)⟩)
      dsimp only [Pt.U, Pt.locs, Pt.cells, Pt.slots] at X10 l10 y10 z10 st10 hQ10
      subst l10 y10 z10
      obtain ⟨rfl, N10q, e10⟩ := hQ10
      have N10 := Fr.app N0 N10q
      refine own_st (A := T10.setTop (mkF m 38 #[s0, .val (.int i), .val (.ref v), .unset, .unset] [(.int (0 : Int32))])) (fun tT_ kK_ => st10.trans kK_) ?_
      refine own_st (A := T10.setTop (mkF m 39 #[s0, .val (.int i), .val (.ref v), .val (.int (0 : Int32)), .unset] [])) (fun tT_ kK_ => XS.istoreN X10.here hx rfl (hb hby at_38) rfl (l' := #[s0, .val (.int i), .val (.ref v), .val (.int (0 : Int32)), .unset]) rfl kK_) ?_
      refine own_st (A := T10.setTop (mkF m 40 #[s0, .val (.int i), .val (.ref v), .val (.int (0 : Int32)), .unset] [(.int i)])) (fun tT_ kK_ => XS.iloadN X10.here hx rfl (hb hby at_39) rfl kK_) ?_
      refine own_st (A := T10.setTop (mkF m 49 #[s0, .val (.int i), .val (.ref v), .val (.int (0 : Int32)), .unset] [])) (fun tT_ kK_ => XS.ifYes X10.here hx rfl (pc0 := 40) (pc' := 49) rfl (hb hby at_40) rfl ((if0 _ _).trans (feq hc8_5).2) (by decide) (by decide) kK_) ?_
      refine own_st (A := T10.setTop (mkF m 50 #[s0, .val (.int i), .val (.ref v), .val (.int (0 : Int32)), .unset] [(.int i)])) (fun tT_ kK_ => XS.iloadN X10.here hx rfl (hb hby at_49) rfl kK_) ?_
      refine own_st (A := T10.setTop (mkF m 51 #[s0, .val (.int i), .val (.ref v), .val (.int (0 : Int32)), .unset] [(.int (1 : Int32)), (.int i)])) (fun tT_ kK_ => XS.iconst X10.here hx rfl (hb hby at_50) kK_) ?_
      refine own_st (A := T10.setTop (mkF m 54 #[s0, .val (.int i), .val (.ref v), .val (.int (0 : Int32)), .unset] [])) (fun tT_ kK_ => XS.icmpNo X10.here hx rfl (hb hby at_51) rfl (teq hc20_8).2 kK_) ?_
      refine own_st (A := T10.setTop (mkF m 55 #[s0, .val (.int i), .val (.ref v), .val (.int (0 : Int32)), .unset] [(.int (0 : Int32))])) (fun tT_ kK_ => XS.iconst X10.here hx rfl (hb hby at_54) kK_) ?_
      refine own_st (A := T10.setTop (mkF m 57 #[s0, .val (.int i), .val (.ref v), .val (.int (0 : Int32)), .val (.int (0 : Int32))] [])) (fun tT_ kK_ => XS.istore X10.here hx rfl (hb hby at_55) rfl (l' := #[s0, .val (.int i), .val (.ref v), .val (.int (0 : Int32)), .val (.int (0 : Int32))]) rfl kK_) ?_
      refine own_st (A := T10.setTop (mkF m 63 #[s0, .val (.int i), .val (.ref v), .val (.int (0 : Int32)), .val (.int (0 : Int32))] [])) (fun tT_ kK_ => XS.goto X10.here hx rfl (pc0 := 57) (pc' := 63) rfl (hb hby at_57) (by decide) (by decide) kK_) ?_
      refine own_st (A := T10.setTop (mkF m 64 #[s0, .val (.int i), .val (.ref v), .val (.int (0 : Int32)), .val (.int (0 : Int32))] [(.int (0 : Int32))])) (fun tT_ kK_ => XS.iloadN X10.here hx rfl (hb hby at_63) rfl kK_) ?_
      refine own_st (A := T10.setTop (mkF m 66 #[s0, .val (.int i), .val (.ref v), .val (.int (0 : Int32)), .val (.int (0 : Int32))] [(.int (0 : Int32)), (.int (0 : Int32))])) (fun tT_ kK_ => XS.iload X10.here hx rfl (hb hby at_64) rfl kK_) ?_
      refine own_st (A := T10.setTop (mkF m 69 #[s0, .val (.int i), .val (.ref v), .val (.int (0 : Int32)), .val (.int (0 : Int32))] [])) (fun tT_ kK_ => XS.icmpNo X10.here hx rfl (hb hby at_66) rfl (teq (by decide : ((0 : Int32) = (0 : Int32)))).2 kK_) ?_
      refine own_st (A := T10.setTop (mkF m 70 #[s0, .val (.int i), .val (.ref v), .val (.int (0 : Int32)), .val (.int (0 : Int32))] [(.int (0 : Int32))])) (fun tT_ kK_ => XS.iloadN X10.here hx rfl (hb hby at_69) rfl kK_) ?_
      refine own_st (A := T10.setTop (mkF m 80 #[s0, .val (.int i), .val (.ref v), .val (.int (0 : Int32)), .val (.int (0 : Int32))] [])) (fun tT_ kK_ => XS.ifYes X10.here hx rfl (pc0 := 70) (pc' := 80) rfl (hb hby at_70) rfl ((if0 _ _).trans (teq (by decide : ((0 : Int32) = (0 : Int32)))).1) (by decide) (by decide) kK_) ?_
      refine own_st (A := T10.setTop (mkF m 81 #[s0, .val (.int i), .val (.ref v), .val (.int (0 : Int32)), .val (.int (0 : Int32))] [(.int (1 : Int32))])) (fun tT_ kK_ => XS.iconst X10.here hx rfl (hb hby at_80) kK_) ?_
      refine own_st (A := T10.setTop (mkF m 85 #[s0, .val (.int i), .val (.ref v), .val (.int (0 : Int32)), .val (.int (0 : Int32))] [(.int (1 : Int32))])) (fun tT_ kK_ => XS.goto X10.here hx rfl (pc0 := 81) (pc' := 85) rfl (hb hby at_81) (by decide) (by decide) kK_) ?_
      exact own_retN X10 hx hlk (t := .boolean) hret (by simp) (hb hby at_85) ⟨rfl, N10⟩ (by decide) (by decide)
    · skip
      refine own_st (A := T0.setTop (mkF m 30 #[s0, .val (.int i), .unset, .unset, .unset] [])) (fun tT_ kK_ => XS.icmpYes X0.here hx rfl (pc0 := 20) (pc' := 30) rfl (hb hby at_20) rfl (feq hc20_8).2 (by decide) (by decide) kK_) ?_
      obtain ⟨T11, X11, e11, st11⟩ := getS2 X0 hx hZ hown (host := "") (Or.inl (hw _ (List.mem_of_getElem? (i := 11) rfl))) Via.refl e0 S_AS_FAILURES (g := (mkF m 30 #[s0, .val (.int i), .unset, .unset, .unset] [])) rfl (hb hby at_30)
      refine own_st (A := T11.setTop (mkF m 33 #[s0, .val (.int i), .unset, .unset, .unset] [(.ref w)])) (fun tT_ kK_ => st11 tT_ kK_) ?_
      refine own_st (A := T11.setTop (mkF m 34 #[s0, .val (.int i), .val (.ref w), .unset, .unset] [])) (fun tT_ kK_ => XS.astoreN X11.here hx rfl (hb hby at_33) rfl rfl (l' := #[s0, .val (.int i), .val (.ref w), .unset, .unset]) rfl kK_) ?_
      refine own_st (A := T11.setTop (mkF m 35 #[s0, .val (.int i), .val (.ref w), .unset, .unset] [(.ref w)])) (fun tT_ kK_ => XS.aloadN X11.here hx rfl (hb hby at_34) rfl rfl kK_) ?_
      obtain ⟨cq12, kq12, q12a, q12b, q12c⟩ := isOf hZ e11 E_w
      obtain ⟨_, _, ⟨T12, L12, k12, n12⟩, -, X12, ⟨Lc12, hQ12, l12, y12, z12⟩, st12⟩ := X11.virtualBack hx (y := (⟨"com/example/gleanwork/gleanwork/server/Change$FailureLimit$Losses", "byNumber", "()Z"⟩ : MethodName)) (z := (⟨"com/example/gleanwork/gleanwork/server/Change$FailureLimit$Losses", "byNumber", "()Z"⟩ : MethodName)) hown (mvT hZ (hw _ (List.mem_of_getElem? (i := 4) rfl))) (mvT hZ (hw _ (List.mem_of_getElem? (i := 5) rfl))) (notFace_of_selects (args := #[]) (mvT hZ (hw _ (List.mem_of_getElem? (i := 7) rfl)))) (mvT hZ (hw _ (List.mem_of_getElem? (i := 7) rfl))) (mvT hZ (hw _ (List.mem_of_getElem? (i := 6) rfl))) (by decide) (backOf (W := 0) (rmBy l Z a0 hw [] w w 1 h0 n0 S_AS_FAILURES (fun _ => rfl) (fun q => absurd rfl q)) hZ (hw _ (List.mem_of_getElem? (i := 8) rfl)) (hw _ (List.mem_of_getElem? (i := 2) rfl)) (by decide) (by decide)) q12a q12c (g := (mkF m 35 #[s0, .val (.int i), .val (.ref w), .unset, .unset] [(.ref w)])) rfl (by rw [hml]; rfl) (Steps.refl _) (argsL := []) (rest := []) (lenOf pd__28_29Z rfl) rfl (by show 2 * 0 + _ ≤ _; exact Nat.le_of_eq rfl) (hb hby at_35) (fun _ _ => ⟨rfl, e11, (by decide : 0 + 0 ≤ _), (by decide : 0 + 0 ≤ _)⟩)
      dsimp only [Pt.U, Pt.locs, Pt.cells, Pt.slots] at X12 l12 y12 z12 st12 hQ12
      subst l12 y12 z12
      obtain ⟨rfl, N12q, e12⟩ := hQ12
      have N12 := Fr.app N0 N12q
      refine own_st (A := T12.setTop (mkF m 38 #[s0, .val (.int i), .val (.ref w), .unset, .unset] [(.int (1 : Int32))])) (fun tT_ kK_ => st12.trans kK_) ?_
      refine own_st (A := T12.setTop (mkF m 39 #[s0, .val (.int i), .val (.ref w), .val (.int (1 : Int32)), .unset] [])) (fun tT_ kK_ => XS.istoreN X12.here hx rfl (hb hby at_38) rfl (l' := #[s0, .val (.int i), .val (.ref w), .val (.int (1 : Int32)), .unset]) rfl kK_) ?_
      refine own_st (A := T12.setTop (mkF m 40 #[s0, .val (.int i), .val (.ref w), .val (.int (1 : Int32)), .unset] [(.int i)])) (fun tT_ kK_ => XS.iloadN X12.here hx rfl (hb hby at_39) rfl kK_) ?_
      refine own_st (A := T12.setTop (mkF m 49 #[s0, .val (.int i), .val (.ref w), .val (.int (1 : Int32)), .unset] [])) (fun tT_ kK_ => XS.ifYes X12.here hx rfl (pc0 := 40) (pc' := 49) rfl (hb hby at_40) rfl ((if0 _ _).trans (feq hc8_5).2) (by decide) (by decide) kK_) ?_
      refine own_st (A := T12.setTop (mkF m 50 #[s0, .val (.int i), .val (.ref w), .val (.int (1 : Int32)), .unset] [(.int i)])) (fun tT_ kK_ => XS.iloadN X12.here hx rfl (hb hby at_49) rfl kK_) ?_
      refine own_st (A := T12.setTop (mkF m 51 #[s0, .val (.int i), .val (.ref w), .val (.int (1 : Int32)), .unset] [(.int (1 : Int32)), (.int i)])) (fun tT_ kK_ => XS.iconst X12.here hx rfl (hb hby at_50) kK_) ?_
      refine own_st (A := T12.setTop (mkF m 60 #[s0, .val (.int i), .val (.ref w), .val (.int (1 : Int32)), .unset] [])) (fun tT_ kK_ => XS.icmpYes X12.here hx rfl (pc0 := 51) (pc' := 60) rfl (hb hby at_51) rfl (feq hc20_8).2 (by decide) (by decide) kK_) ?_
      refine own_st (A := T12.setTop (mkF m 61 #[s0, .val (.int i), .val (.ref w), .val (.int (1 : Int32)), .unset] [(.int (1 : Int32))])) (fun tT_ kK_ => XS.iconst X12.here hx rfl (hb hby at_60) kK_) ?_
      refine own_st (A := T12.setTop (mkF m 63 #[s0, .val (.int i), .val (.ref w), .val (.int (1 : Int32)), .val (.int (1 : Int32))] [])) (fun tT_ kK_ => XS.istore X12.here hx rfl (hb hby at_61) rfl (l' := #[s0, .val (.int i), .val (.ref w), .val (.int (1 : Int32)), .val (.int (1 : Int32))]) rfl kK_) ?_
      refine own_st (A := T12.setTop (mkF m 64 #[s0, .val (.int i), .val (.ref w), .val (.int (1 : Int32)), .val (.int (1 : Int32))] [(.int (1 : Int32))])) (fun tT_ kK_ => XS.iloadN X12.here hx rfl (hb hby at_63) rfl kK_) ?_
      refine own_st (A := T12.setTop (mkF m 66 #[s0, .val (.int i), .val (.ref w), .val (.int (1 : Int32)), .val (.int (1 : Int32))] [(.int (1 : Int32)), (.int (1 : Int32))])) (fun tT_ kK_ => XS.iload X12.here hx rfl (hb hby at_64) rfl kK_) ?_
      refine own_st (A := T12.setTop (mkF m 69 #[s0, .val (.int i), .val (.ref w), .val (.int (1 : Int32)), .val (.int (1 : Int32))] [])) (fun tT_ kK_ => XS.icmpNo X12.here hx rfl (hb hby at_66) rfl (teq (by decide : ((1 : Int32) = (1 : Int32)))).2 kK_) ?_
      refine own_st (A := T12.setTop (mkF m 70 #[s0, .val (.int i), .val (.ref w), .val (.int (1 : Int32)), .val (.int (1 : Int32))] [(.int (1 : Int32))])) (fun tT_ kK_ => XS.iloadN X12.here hx rfl (hb hby at_69) rfl kK_) ?_
      refine own_st (A := T12.setTop (mkF m 73 #[s0, .val (.int i), .val (.ref w), .val (.int (1 : Int32)), .val (.int (1 : Int32))] [])) (fun tT_ kK_ => XS.ifNo X12.here hx rfl (hb hby at_70) rfl ((if0 _ _).trans (feq (by decide : ¬ ((1 : Int32) = (0 : Int32)))).1) kK_) ?_
      refine own_st (A := T12.setTop (mkF m 74 #[s0, .val (.int i), .val (.ref w), .val (.int (1 : Int32)), .val (.int (1 : Int32))] [(.ref w)])) (fun tT_ kK_ => XS.aloadN X12.here hx rfl (hb hby at_73) rfl rfl kK_) ?_
      obtain ⟨cq13, kq13, q13a, q13b, q13c⟩ := isOf hZ e12 E_w
      obtain ⟨_, _, ⟨T13, L13, k13, n13⟩, -, X13, ⟨Lc13, hQ13, l13, y13, z13⟩, st13⟩ := X12.virtualBack hx (y := (⟨"com/example/gleanwork/gleanwork/server/Change$FailureLimit$Losses", "counted", "()Z"⟩ : MethodName)) (z := (⟨"com/example/gleanwork/gleanwork/server/Change$FailureLimit$Losses", "counted", "()Z"⟩ : MethodName)) hown (mvT hZ (hw _ (List.mem_of_getElem? (i := 12) rfl))) (mvT hZ (hw _ (List.mem_of_getElem? (i := 13) rfl))) (notFace_of_selects (args := #[]) (mvT hZ (hw _ (List.mem_of_getElem? (i := 15) rfl)))) (mvT hZ (hw _ (List.mem_of_getElem? (i := 15) rfl))) (mvT hZ (hw _ (List.mem_of_getElem? (i := 14) rfl))) (by decide) (backOf (W := 0) (rmCo l Z a0 hw [] w u 1 h0 n0 S_UNCOUNTED (fun q => absurd q uw.symm) (fun _ => rfl)) hZ (hw _ (List.mem_of_getElem? (i := 16) rfl)) (hw _ (List.mem_of_getElem? (i := 2) rfl)) (by decide) (by decide)) q13a q13c (g := (mkF m 74 #[s0, .val (.int i), .val (.ref w), .val (.int (1 : Int32)), .val (.int (1 : Int32))] [(.ref w)])) rfl (by rw [hml]; rfl) (Steps.refl _) (argsL := []) (rest := []) (lenOf pd__28_29Z rfl) rfl (by show 2 * 0 + _ ≤ _; exact Nat.le_of_eq rfl) (hb hby at_74) (fun _ _ => ⟨rfl, e12, (by decide : 0 + 0 ≤ _), (by decide : 0 + 0 ≤ _)⟩)
      dsimp only [Pt.U, Pt.locs, Pt.cells, Pt.slots] at X13 l13 y13 z13 st13 hQ13
      subst l13 y13 z13
      obtain ⟨rfl, N13q, e13⟩ := hQ13
      have N13 := Fr.app N12 N13q
      refine own_st (A := T13.setTop (mkF m 77 #[s0, .val (.int i), .val (.ref w), .val (.int (1 : Int32)), .val (.int (1 : Int32))] [(.int (1 : Int32))])) (fun tT_ kK_ => st13.trans kK_) ?_
      refine own_st (A := T13.setTop (mkF m 80 #[s0, .val (.int i), .val (.ref w), .val (.int (1 : Int32)), .val (.int (1 : Int32))] [])) (fun tT_ kK_ => XS.ifNo X13.here hx rfl (hb hby at_77) rfl ((if0 _ _).trans (feq (by decide : ¬ ((1 : Int32) = (0 : Int32)))).1) kK_) ?_
      refine own_st (A := T13.setTop (mkF m 81 #[s0, .val (.int i), .val (.ref w), .val (.int (1 : Int32)), .val (.int (1 : Int32))] [(.int (1 : Int32))])) (fun tT_ kK_ => XS.iconst X13.here hx rfl (hb hby at_80) kK_) ?_
      refine own_st (A := T13.setTop (mkF m 85 #[s0, .val (.int i), .val (.ref w), .val (.int (1 : Int32)), .val (.int (1 : Int32))] [(.int (1 : Int32))])) (fun tT_ kK_ => XS.goto X13.here hx rfl (pc0 := 81) (pc' := 85) rfl (hb hby at_81) (by decide) (by decide) kK_) ?_
      exact own_retN X13 hx hlk (t := .boolean) hret (by simp) (hb hby at_85) ⟨rfl, N13⟩ (by decide) (by decide)
theorem pn_com_2fexample_2fgleanwork_2fgleanwork_2fserver_2fLossesByNumberPinLaw : plainName "com/example/gleanwork/gleanwork/server/LossesByNumberPinLaw" = true := by first | (simp [plainName, overriddenIn]; done) | decide +kernel
theorem ef_rm0 (m : MethodId) (k : Int32) (u : Addr) (v : Addr) (w : Addr) : entryFrame m #[(.int k)] maxLocals = mkF m 0 #[.val (.int k), .unset, .unset, .unset, .unset] [] := by first | (simp [entryFrame, mkF, argsToLocals, Value.category, maxLocals]; done) | rfl
set_option maxRecDepth 65536 in
set_option maxHeartbeats 40000000 in
theorem rm0 (l : Launch) (Z : State) (a0 : Array Value) (hw : ∀ d ∈ tables_1, d.before a0 Z = true) (ws : List Jvm.Cond) (k : Int32) (u : Addr) (v : Addr) (w : Addr) (h0 : Heap) (n0 : Nat) (S_UNCOUNTED : Sta Z h0 "com/example/gleanwork/gleanwork/server/Change$FailureLimit$Losses" "UNCOUNTED" "Lcom/example/gleanwork/gleanwork/server/Change$FailureLimit$Losses;" (.ref u)) (S_BY_NODES : Sta Z h0 "com/example/gleanwork/gleanwork/server/Change$FailureLimit$Losses" "BY_NODES" "Lcom/example/gleanwork/gleanwork/server/Change$FailureLimit$Losses;" (.ref v)) (S_AS_FAILURES : Sta Z h0 "com/example/gleanwork/gleanwork/server/Change$FailureLimit$Losses" "AS_FAILURES" "Lcom/example/gleanwork/gleanwork/server/Change$FailureLimit$Losses;" (.ref w)) (E_u : Exa Z h0 u "com/example/gleanwork/gleanwork/server/Change$FailureLimit$Losses") (E_v : Exa Z h0 v "com/example/gleanwork/gleanwork/server/Change$FailureLimit$Losses") (E_w : Exa Z h0 w "com/example/gleanwork/gleanwork/server/Change$FailureLimit$Losses") (uv : u ≠ v) (uw : u ≠ w) (vw : v ≠ w) :
    MetFree l x (head1 (Jvm.Cond.code x code maxLocals ret :: ws) room_1) (fun as_ uU_ => as_ = #[(.int k)] ∧ Z.Warmed39 uU_.vm ∧ uU_.heap = h0) (fun _ _ _ _ _ => True) (fun _ uU_ oO_ uE_ => ∃ vV_ lL_, oO_ = .returned vV_ ∧ (fun _ => QLaw) h0 n0 vV_ uE_.heap lL_ ∧ FrameEnd uU_ oO_ uE_ lL_ 0 0) := by
  refine MetFree.of_bodySF (plainFor_of_name pn_com_2fexample_2fgleanwork_2fgleanwork_2fserver_2fLossesByNumberPinLaw) hisR ?_
  intro p e s m args below meth c s₁ Bd hml0 hP hK
  obtain ⟨rfl, hZ, hh⟩ := hP
  have hx := Bd.exec
  have hby := Bd.bytes
  have hml : c.maxLocals = 5 := hml0
  have hown : s.vm.findClass "com/example/gleanwork/gleanwork/server/LossesByNumberPinLaw" = some m.cls := findClass_of_methodNamed Bd.named
  have hnm := (name_of_methodNamed Bd.named Bd.method).1
  have hret := Bd.returns
  have hlk := BodyLoose.notSynchronized Bd
  have X0 : Stand p l e room_1 s m #[(.int k)] below meth c s₁ [] 0 0 := Stand.of_body Bd
  have e0 : s₁.heap = h0 := by rw [← hh, Bd.state]; rfl
  have N0 := Fr.nil n0
  show own_Go p e below s ((fun _ => QLaw) h0 n0) 0 0 (s₁.setTop (entryFrame m #[(.int k)] maxLocals))
  refine own_st (A := s₁.setTop (mkF m 0 #[.val (.int k), .unset, .unset, .unset, .unset] [])) (fun tT_ kK_ => castTop (ef_rm0 m k u v w) kK_) ?_
  refine own_st (A := s₁.setTop (mkF m 1 #[.val (.int k), .unset, .unset, .unset, .unset] [(.int k)])) (fun tT_ kK_ => XS.iloadN X0.here hx rfl (hb hby at_0) rfl kK_) ?_
  refine own_st (A := s₁.setTop (mkF m 3 #[.val (.int k), .unset, .unset, .unset, .unset] [(.int (2147483647 : Int32)), (.int k)])) (fun tT_ kK_ => X0.ldcInt hx hown (mvT hZ (hw _ (List.mem_of_getElem? (i := 0) rfl))) (g := (mkF m 1 #[.val (.int k), .unset, .unset, .unset, .unset] [(.int k)])) rfl (hb hby at_1) tT_ kK_) ?_
  refine own_st (A := s₁.setTop (mkF m 4 #[.val (.int k), .unset, .unset, .unset, .unset] [(.int (k &&& (2147483647 : Int32)))])) (fun tT_ kK_ => XS.iand X0.here hx rfl (hb hby at_3) rfl kK_) ?_
  refine own_st (A := s₁.setTop (mkF m 5 #[.val (.int k), .unset, .unset, .unset, .unset] [(.int (3 : Int32)), (.int (k &&& (2147483647 : Int32)))])) (fun tT_ kK_ => XS.iconst X0.here hx rfl (hb hby at_4) kK_) ?_
  refine own_st (A := s₁.setTop (mkF m 6 #[.val (.int k), .unset, .unset, .unset, .unset] [(.int ((k &&& (2147483647 : Int32)) % (3 : Int32)))])) (fun tT_ kK_ => iremM X0 hx rfl (hb hby at_5) rfl (by decide) kK_) ?_
  refine own_st (A := s₁.setTop (mkF m 7 #[.val (.int k), .val (.int ((k &&& (2147483647 : Int32)) % (3 : Int32))), .unset, .unset, .unset] [])) (fun tT_ kK_ => XS.istoreN X0.here hx rfl (hb hby at_6) rfl (l' := #[.val (.int k), .val (.int ((k &&& (2147483647 : Int32)) % (3 : Int32))), .unset, .unset, .unset]) rfl kK_) ?_
  exact J7 hw X0 hx hZ hby hml hown hlk hret e0 N0 _ _ u v w S_UNCOUNTED S_BY_NODES S_AS_FAILURES E_u E_v E_w uv uw vw
set_option maxRecDepth 65536 in
set_option maxHeartbeats 40000000 in
theorem comes_1 {Post : Tables → Env → Array Value → State → Outcome → State → Prop} (hpost : ∀ tb e args s v u, (limb_1_1.after args s (.returned v) u = true ∧ limb_1_2.after args s (.returned v) u = true ∧ True) → FrameEnd s (.returned v) u (Jvm.fieldLocs frame_1_writes args s ++ Jvm.arrayLocs frame_1_arrays args s ++ Jvm.staticLocs frame_1_statics s) 0 0 → Post tb e args s (.returned v) u) :
    ArmFor flags0 classFile x code maxLocals ret World_1 tables_1 room_1 Calls_1 rest_1 Pre_1 Post := by
  intro l hfl _ _ p e ha hc hk s m args below hf hA hF happ hP
  obtain ⟨hcalls, hrest, hpre⟩ := hP
  obtain ⟨-, -, -, hnamed, -, -, -, hat⟩ := (Spec.applies_iff hf).mp happ
  obtain ⟨hg, hn⟩ := and_e (Cond.before_iff.mp (show (Jvm.Cond.and given_1 narrow_1).before args s = true from hpre))
  obtain ⟨h1, hg1⟩ := and_e hg
  obtain ⟨w0, rfl⟩ : ∃ w0 : Value, args = #[w0] := by
    have hs : args.size = 1 := by simpa [Cond.value, given_1] using h1
    obtain ⟨L⟩ := args
    match L, hs with
    | [w0], _ => exact ⟨w0, rfl⟩
  have hw := fun d (hd : d ∈ tables_1) => atoms_spec (ws := Jvm.Cond.code x code maxLocals ret :: tables_1) hat d (List.mem_cons_of_mem _ hd)
  have hfit : Fit s := fun {y c} hc i hi => by
    obtain ⟨ha, rfl⟩ := Array.getElem?_eq_some_iff.mp hc
    have q := List.all_eq_true.mp ((Array.all_eq_true_iff_forall_mem.mp hF) _ (Array.getElem_mem ha)) i (List.mem_range.mpr hi)
    simpa [Array.getElem?_eq_getElem hi] using q
  have g0 := hg1
  obtain ⟨i0, e0⟩ := is_v g0
  obtain rfl : w0 = (.int i0) := Option.some.inj e0
  have hn : narrow_1.value _ s none s [] = some true := hn
  obtain ⟨c0, hn⟩ := and_e hn
  obtain ⟨c1, hn⟩ := and_e hn
  obtain ⟨c2, hn⟩ := and_e hn
  obtain ⟨c3, hn⟩ := and_e hn
  obtain ⟨c4, hn⟩ := and_e hn
  have c5 := hn
  obtain ⟨a_UNCOUNTED, ev_UNCOUNTED⟩ := exa_v c0
  have st_UNCOUNTED := Sta.start ev_UNCOUNTED (Or.inr ⟨(hw _ (List.mem_of_getElem? (i := 2) rfl)), (hw _ (List.mem_of_getElem? (i := 3) rfl))⟩)
  have ex_UNCOUNTED := Exa.start ev_UNCOUNTED c0
  obtain ⟨a_AS_FAILURES, ev_AS_FAILURES⟩ := exa_v c1
  have st_AS_FAILURES := Sta.start ev_AS_FAILURES (Or.inr ⟨(hw _ (List.mem_of_getElem? (i := 2) rfl)), (hw _ (List.mem_of_getElem? (i := 10) rfl))⟩)
  have ex_AS_FAILURES := Exa.start ev_AS_FAILURES c1
  obtain ⟨a_BY_NODES, ev_BY_NODES⟩ := exa_v c4
  have st_BY_NODES := Sta.start ev_BY_NODES (Or.inr ⟨(hw _ (List.mem_of_getElem? (i := 2) rfl)), (hw _ (List.mem_of_getElem? (i := 19) rfl))⟩)
  have ex_BY_NODES := Exa.start ev_BY_NODES c4
  have fd_UNCOUNTED_ordinal := own_fldI ev_UNCOUNTED c2
  have fd_AS_FAILURES_ordinal := own_fldI ev_AS_FAILURES c3
  have fd_BY_NODES_ordinal := own_fldI ev_BY_NODES c5
  obtain ⟨n, o, h1, h2, h3, _, L, rfl, ⟨rfl, N⟩, hq⟩ := rm0 l s _ hw tables_1 i0 a_UNCOUNTED a_BY_NODES a_AS_FAILURES s.heap s.heap.size st_UNCOUNTED st_BY_NODES st_AS_FAILURES ex_UNCOUNTED ex_BY_NODES ex_AS_FAILURES (fd_UNCOUNTED_ordinal.ne fd_BY_NODES_ordinal (by decide)) (fd_UNCOUNTED_ordinal.ne fd_AS_FAILURES_ordinal (by decide)) (fd_BY_NODES_ordinal.ne fd_AS_FAILURES_ordinal (by decide)) p e ha hc hk s m _ below hf ((Spec.applies_iff_loose hf).mp happ).1 ⟨rfl, State.Warmed39.refl s, rfl⟩ trivial
  refine ⟨n, _, h1, h2, h3, hpost _ _ _ _ _ _ ⟨Cond.after_iff.mpr rfl, Cond.after_iff.mpr (eq_i res_at (Term.int_eval (1)) rfl), trivial⟩ ⟨hq.1, hq.2.1, (hq.2.2.sift fun y hy => Or.inr (N y hy)).mono (by decide) (by decide)⟩⟩
theorem main_1_1 : Claimed_1_1 := comes_1 fun _ _ _ _ _ _ h hF => ⟨h.1, hF⟩
theorem main_1_2 : Claimed_1_2 := comes_1 fun _ _ _ _ _ _ h hF => ⟨h.2.1, hF⟩
end Jvm.Pilot.@@N@@
namespace Jvm.Pilot.@@N@@
open Jvm Jvm.ClassFile Sem Op Lib Jvm.Free Jvm.Stand Jvm.Pilot.@@N@@.Jvm.D
/-! MADE BY PROGRAM (witnessworld.py) out of the Statement's table words and the real class files: 12 classes; the members and pool entries that the words name. The judged class is class 1, her method 1. -/
namespace start1
open Jvm.ClassFile
def u (s : String) : CpInfo := .utf8 (stringToUtf16 s)
/-- a pool by its gaps: so many unusable entries, then the entry; so many at the end -/
def gap : Nat → List CpInfo → List CpInfo
  | 0, r => r
  | n + 1, r => .unusable :: gap n r
def poolList (es : List (Nat × CpInfo)) (last : Nat) : List CpInfo := es.foldr (fun e r => gap e.1 (e.2 :: r)) (gap last [])
def pool (es : List (Nat × CpInfo)) (last : Nat) : Array CpInfo := ⟨poolList es last⟩
def fileOf (pool : Array CpInfo) (this : Nat) (attrs : Array Attribute := #[]) (ms : Array MethodInfo := #[]) (fl : Nat := 33) (sup : Nat := 0) (ifs : Array Nat := #[]) (fds : Array FieldInfo := #[]) : ClassFile where
  minorVersion := 0
  majorVersion := 65
  constantPool := pool
  accessFlags := fl
  thisClass := this
  superClass := sup
  interfaces := ifs
  fields := fds
  methods := ms
  attributes := attrs
def plain (name : String) (sup : Option ClassId) : Class where
  name := name
  kind := .ordinary
  loader := none
  accessFlags := 33
  super := sup
  interfaces := #[]
  cf := none
  fields := #[]
  methods := #[]
  instanceTypes := #[]
  staticTypes := #[]
  resolved := #[]
  callSites := []
  init := .initialized
  statics := none
  mirror := none

def pool0 : Array CpInfo := pool [(5, u "<init>"), (0, u "()V"), (1, .class_ 10), (1, u "java/lang/Object")] 113

def k0m0 : Method := { name := "<init>", desc := "()V", sig := { parameters := [], returnType := none }, accessFlags := 1, code := none }
/-- java/lang/Object -/
def k0 : Class := { plain "java/lang/Object" none with
  accessFlags := 33
  interfaces := #[]
  cf := some (fileOf pool0 8 #[] #[{ accessFlags := 1, nameIndex := 5, descriptorIndex := 6, attributes := #[] }] 33 0 #[] #[])
  fields := #[]
  methods := #[k0m0]
  instanceTypes := #[]
  staticTypes := #[]
  resolved := Array.replicate 124 none
  statics := none }

def pool1 : Array CpInfo := pool [(2, .class_ 4), (1, u "java/lang/Object"), (0, u "<init>"), (0, u "()V"), (0, .integer 2147483647), (0, .fieldref 9 10), (0, .class_ 11), (0, .nameAndType 12 13), (0, u "com/example/gleanwork/gleanwork/server/Change$FailureLimit$Losses"), (0, u "UNCOUNTED"), (0, u "Lcom/example/gleanwork/gleanwork/server/Change$FailureLimit$Losses;"), (0, .fieldref 9 15), (0, .nameAndType 16 13), (0, u "BY_NODES"), (0, .fieldref 9 18), (0, .nameAndType 19 13), (0, u "AS_FAILURES"), (0, .methodref 9 21), (0, .nameAndType 22 23), (0, u "byNumber"), (0, u "()Z"), (0, .methodref 9 25), (0, .nameAndType 26 23), (0, u "counted"), (0, .class_ 28), (0, u "com/example/gleanwork/gleanwork/server/LossesByNumberPinLaw"), (2, u "law"), (0, u "(I)Z")] 10

def k1m0 : Method := { name := "<init>", desc := "()V", sig := { parameters := [], returnType := none }, accessFlags := 2, code := none }
def k1c1 : Code := { maxStack := 2, maxLocals := 5, code := code, exceptionTable := #[], attributes := #[] }
def k1m1 : Method := { name := "law", desc := "(I)Z", sig := { parameters := [.int], returnType := some .boolean }, accessFlags := 9, code := some k1c1 }
/-- com/example/gleanwork/gleanwork/server/LossesByNumberPinLaw -/
def k1 : Class := { plain "com/example/gleanwork/gleanwork/server/LossesByNumberPinLaw" (some 0) with
  accessFlags := 49
  interfaces := #[]
  cf := some (fileOf pool1 27 #[] #[{ accessFlags := 2, nameIndex := 5, descriptorIndex := 6, attributes := #[] }, { accessFlags := 9, nameIndex := 31, descriptorIndex := 32, attributes := #[] }] 49 2 #[] #[])
  fields := #[]
  methods := #[k1m0, k1m1]
  instanceTypes := #[]
  staticTypes := #[]
  resolved := Array.replicate 43 none
  statics := none }

def pool2 : Array CpInfo := pool [(1, .class_ 2), (0, u "java/lang/constant/Constable"), (0, .class_ 4), (0, u "java/lang/Object")] 6

/-- java/lang/constant/Constable -/
def k2 : Class := { plain "java/lang/constant/Constable" (some 0) with
  accessFlags := 1537
  interfaces := #[]
  cf := some (fileOf pool2 1 #[] #[] 1537 3 #[] #[])
  fields := #[]
  methods := #[]
  instanceTypes := #[]
  staticTypes := #[]
  resolved := Array.replicate 11 none
  statics := none }

def pool3 : Array CpInfo := pool [(1, .class_ 2), (0, u "java/lang/Comparable"), (0, .class_ 4), (0, u "java/lang/Object")] 7

/-- java/lang/Comparable -/
def k3 : Class := { plain "java/lang/Comparable" (some 0) with
  accessFlags := 1537
  interfaces := #[]
  cf := some (fileOf pool3 1 #[] #[] 1537 3 #[] #[])
  fields := #[]
  methods := #[]
  instanceTypes := #[]
  staticTypes := #[]
  resolved := Array.replicate 12 none
  statics := none }

def pool4 : Array CpInfo := pool [(1, .class_ 2), (0, u "java/io/Serializable"), (0, .class_ 4), (0, u "java/lang/Object")] 2

/-- java/io/Serializable -/
def k4 : Class := { plain "java/io/Serializable" (some 0) with
  accessFlags := 1537
  interfaces := #[]
  cf := some (fileOf pool4 1 #[] #[] 1537 3 #[] #[])
  fields := #[]
  methods := #[]
  instanceTypes := #[]
  staticTypes := #[]
  resolved := Array.replicate 7 none
  statics := none }

def pool5 : Array CpInfo := pool [(2, .class_ 4), (1, u "java/lang/Enum"), (0, u "name"), (0, u "Ljava/lang/String;"), (2, u "ordinal"), (0, u "I"), (1, .class_ 14), (1, u "java/lang/Object"), (4, u "hash"), (86, .class_ 108), (1, u "java/lang/Enum$EnumDesc"), (2, .class_ 112), (0, u "java/lang/constant/Constable"), (0, .class_ 114), (0, u "java/lang/Comparable"), (0, .class_ 116), (0, u "java/io/Serializable")] 87

/-- java/lang/Enum -/
def k5 : Class := { plain "java/lang/Enum" (some 0) with
  accessFlags := 1057
  interfaces := #[2, 3, 4]
  cf := some (fileOf pool5 2 #[.nestMembers #[106]] #[] 1057 12 #[111, 113, 115] #[{ accessFlags := 18, nameIndex := 5, descriptorIndex := 6, attributes := #[] }, { accessFlags := 18, nameIndex := 9, descriptorIndex := 10, attributes := #[] }, { accessFlags := 2, nameIndex := 19, descriptorIndex := 10, attributes := #[] }])
  fields := #[{ name := "name", type := (.object "java/lang/String"), accessFlags := 18, slot := 0, constantValue := 0 }, { name := "ordinal", type := .int, accessFlags := 18, slot := 1, constantValue := 0 }, { name := "hash", type := .int, accessFlags := 2, slot := 2, constantValue := 0 }]
  methods := #[]
  instanceTypes := #[(.object "java/lang/String"), .int, .int]
  staticTypes := #[]
  resolved := Array.replicate 204 none
  statics := none }

def pool6 : Array CpInfo := pool [(1, .class_ 2), (0, u "com/example/gleanwork/gleanwork/server/Change$FailureLimit$Losses"), (0, .fieldref 1 4), (0, .nameAndType 5 6), (0, u "UNCOUNTED"), (0, u "Lcom/example/gleanwork/gleanwork/server/Change$FailureLimit$Losses;"), (2, u "BY_NODES"), (0, .fieldref 1 11), (0, .nameAndType 12 6), (0, u "AS_FAILURES"), (2, u "$VALUES"), (0, u "[Lcom/example/gleanwork/gleanwork/server/Change$FailureLimit$Losses;"), (6, .class_ 25), (1, u "java/lang/Enum"), (8, u "word"), (0, u "Ljava/lang/String;"), (82, u "counted"), (0, u "()Z"), (0, u "byNumber"), (9, .class_ 131), (0, u "com/example/gleanwork/gleanwork/server/Change")] 41

def k6c0 : Code := { maxStack := 2, maxLocals := 1, code := prog_108_method_5_code, exceptionTable := #[], attributes := #[] }
def k6m0 : Method := { name := "counted", desc := "()Z", sig := { parameters := [], returnType := some .boolean }, accessFlags := 0, code := some k6c0 }
def k6c1 : Code := { maxStack := 2, maxLocals := 1, code := prog_108_method_6_code, exceptionTable := #[], attributes := #[] }
def k6m1 : Method := { name := "byNumber", desc := "()Z", sig := { parameters := [], returnType := some .boolean }, accessFlags := 0, code := some k6c1 }
/-- com/example/gleanwork/gleanwork/server/Change$FailureLimit$Losses -/
def k6 : Class := { plain "com/example/gleanwork/gleanwork/server/Change$FailureLimit$Losses" (some 5) with
  accessFlags := 16432
  interfaces := #[]
  cf := some (fileOf pool6 1 #[.nestHost 130] #[{ accessFlags := 0, nameIndex := 118, descriptorIndex := 119, attributes := #[] }, { accessFlags := 0, nameIndex := 120, descriptorIndex := 119, attributes := #[] }] 16432 23 #[] #[{ accessFlags := 16409, nameIndex := 5, descriptorIndex := 6, attributes := #[] }, { accessFlags := 16409, nameIndex := 9, descriptorIndex := 6, attributes := #[] }, { accessFlags := 16409, nameIndex := 12, descriptorIndex := 6, attributes := #[] }, { accessFlags := 18, nameIndex := 34, descriptorIndex := 35, attributes := #[] }, { accessFlags := 4122, nameIndex := 15, descriptorIndex := 16, attributes := #[] }])
  fields := #[{ name := "UNCOUNTED", type := (.object "com/example/gleanwork/gleanwork/server/Change$FailureLimit$Losses"), accessFlags := 16409, slot := 0, constantValue := 0 }, { name := "BY_NODES", type := (.object "com/example/gleanwork/gleanwork/server/Change$FailureLimit$Losses"), accessFlags := 16409, slot := 1, constantValue := 0 }, { name := "AS_FAILURES", type := (.object "com/example/gleanwork/gleanwork/server/Change$FailureLimit$Losses"), accessFlags := 16409, slot := 2, constantValue := 0 }, { name := "word", type := (.object "java/lang/String"), accessFlags := 18, slot := 3, constantValue := 0 }, { name := "$VALUES", type := (.array (.object "com/example/gleanwork/gleanwork/server/Change$FailureLimit$Losses")), accessFlags := 4122, slot := 3, constantValue := 0 }]
  methods := #[k6m0, k6m1]
  instanceTypes := #[(.object "java/lang/String"), .int, .int, (.object "java/lang/String")]
  staticTypes := #[(.object "com/example/gleanwork/gleanwork/server/Change$FailureLimit$Losses"), (.object "com/example/gleanwork/gleanwork/server/Change$FailureLimit$Losses"), (.object "com/example/gleanwork/gleanwork/server/Change$FailureLimit$Losses"), (.array (.object "com/example/gleanwork/gleanwork/server/Change$FailureLimit$Losses"))]
  resolved := Array.replicate 173 none
  statics := some 0 }

def pool7 : Array CpInfo := pool [(1, u "java/lang/Cloneable"), (0, .class_ 1), (0, u "java/lang/Object"), (0, .class_ 3)] 3

/-- java/lang/Cloneable -/
def k7 : Class := { plain "java/lang/Cloneable" (some 0) with
  accessFlags := 1537
  interfaces := #[]
  cf := some (fileOf pool7 2 #[] #[] 1537 4 #[] #[])
  fields := #[]
  methods := #[]
  instanceTypes := #[]
  staticTypes := #[]
  resolved := Array.replicate 8 none
  statics := none }

/-- the primitive byte -/
def k8 : Class := { plain "byte" none with kind := .primitive 'B', accessFlags := 0x411 }
/-- [B -/
def k9 : Class := { plain "[B" (some 0) with kind := .array 8 .byte, interfaces := #[7, 4], accessFlags := 1041 }

/-- the primitive int -/
def k10 : Class := { plain "int" none with kind := .primitive 'I', accessFlags := 0x411 }
/-- [I -/
def k11 : Class := { plain "[I" (some 0) with kind := .array 10 .int, interfaces := #[7, 4], accessFlags := 1041 }

def heap : Heap := #[{ cls := 6, slots := #[.ref 1, .ref 2, .ref 3, .null], vm := .statics 6 },
  { cls := 6, slots := #[.null, .int 0, .int 0, .null], vm := .none },
  { cls := 6, slots := #[.null, .int 1, .int 0, .null], vm := .none },
  { cls := 6, slots := #[.null, .int 2, .int 0, .null], vm := .none }]
def classes : Array Class := #[k0, k1, k2, k3, k4, k5, k6, k7, k8, k9, k10, k11]
def interned : List (Array UInt16 × Addr) := []
def slotsUsed : Nat := 16
def theMethod : MethodId := ⟨1, 1⟩
def args0 : Array Value := #[.int 5]
def aboutOver (below : List Frame) : State where
  vm := { classes := classes, interned := interned.toArray }
  heap := heap
  slotsUsed := slotsUsed
  threads := #[{ frames := .invoking theMethod args0 :: below }]
def below0 : List Frame := [.native { method := ⟨0, 0⟩, args := #[] }]
def about1 : State := aboutOver below0
def p0 : Program := .bare "" "" ""
def e0 : Env := launch0.env 0 0 0
theorem w_frames : about1.frames = Frame.invoking theMethod args0 :: below0 := rfl
set_option maxRecDepth 65536 in
theorem w_args : argsFit about1.vm theMethod args0 = true := by decide +kernel
set_option maxRecDepth 65536 in
theorem w_heap : heapFits about1 = true := by decide +kernel
set_option maxRecDepth 65536 in
theorem w_runnable : about1.curStatus? = some .runnable := by decide +kernel
set_option maxRecDepth 65536 in
theorem w_alone : about1.alone = true := by decide +kernel
set_option maxRecDepth 65536 in
theorem w_named : about1.methodNamed? x = some theMethod := by decide +kernel
set_option maxRecDepth 65536 in
theorem w_hears : about1.hears theMethod below0 = true := by decide +kernel
set_option maxRecDepth 65536 in
theorem w_ripe : about1.ripe theMethod args0 below0 = true := by decide +kernel
theorem w_running : about1.status = .running := rfl
set_option maxRecDepth 65536 in
theorem w_room : about1.hasRoom e0.platform room_1 = true :=
  launch0.hasRoom_least _ room_1 (by decide +kernel) (by decide +kernel) (by decide +kernel) (by decide +kernel) (by decide +kernel) (by decide +kernel)
theorem allAtoms_all (ts : List Jvm.Cond) (a : Array Jvm.Value) (st : Jvm.State) : (allAtoms ts).before a st = ts.all (fun c => c.before a st) := by
  induction ts with
  | nil => rfl
  | cons c t ih =>
    show (Jvm.Cond.and c (allAtoms t)).before a st = _
    rw [Jvm.Cond.before_and, ih, List.all_cons]
def words1 : List Jvm.Cond := Jvm.Cond.code x code maxLocals ret :: tables_1
/-- a 'code' word, met by the world's own term for the bytes: nothing is compared byte by byte -/
theorem code_word {y : MethodName} {bytes : ByteArray} {mx : Nat} {rt : Option FieldType} {a : Array Value} {s : State} {m : MethodId} {meth : Method} {c : Code} (h1 : s.methodNamed? y = some m) (h2 : s.vm.method? m = some meth) (h3 : meth.code = some c) (h4 : c.code = bytes)
    (h5 : (c.maxLocals == mx && c.exceptionTable.isEmpty && decide (c.maxStack ≤ mostOperands) && decide (meth.sig.returnType = rt) && !meth.locks && decide (parseMethodDescriptor y.desc = some meth.sig)) = true) : (Jvm.Cond.code y bytes mx rt).before a s = true := by
  simp only [Bool.and_eq_true, beq_iff_eq, Bool.not_eq_true', decide_eq_true_eq] at h5
  obtain ⟨⟨⟨⟨⟨g1, g2⟩, g3⟩, g4⟩, g5⟩, g6⟩ := h5
  simp [Cond.before, Cond.holds, Cond.value, h1, h2, h3, h4, g1, g2, g3, g4, g5, g6]
def isCode : Jvm.Cond → Bool
  | .code _ _ _ _ => true
  | _ => false
theorem all_split {L : List Jvm.Cond} {P : Jvm.Cond → Bool} (h1 : L.all (fun c => isCode c || P c) = true) (h2 : ∀ c ∈ L.filter isCode, P c = true) : L.all P = true := by
  refine List.all_eq_true.mpr fun c hc => ?_
  have h := List.all_eq_true.mp h1 c hc
  rcases Bool.eq_false_or_eq_true (isCode c) with hi | hi
  · exact h2 c (List.mem_filter.mpr ⟨hc, hi⟩)
  · simpa [hi] using h
set_option maxRecDepth 65536 in
theorem w_c0 : (Jvm.Cond.code x code maxLocals ret).before args0 about1 = true := code_word (m := ⟨1, 1⟩) (meth := k1m1) (c := k1c1) (by decide +kernel) rfl rfl rfl (by decide +kernel)
set_option maxRecDepth 65536 in
theorem w_c1 : (Jvm.Cond.code ({ cls := "com/example/gleanwork/gleanwork/server/Change$FailureLimit$Losses", name := "byNumber", desc := "()Z" } : Jvm.MethodName) prog_108_method_6_code (1 : Nat) (Option.some Jvm.ClassFile.FieldType.boolean)).before args0 about1 = true := code_word (m := ⟨6, 1⟩) (meth := k6m1) (c := k6c1) (by decide +kernel) rfl rfl rfl (by decide +kernel)
set_option maxRecDepth 65536 in
theorem w_c2 : (Jvm.Cond.code ({ cls := "com/example/gleanwork/gleanwork/server/Change$FailureLimit$Losses", name := "counted", desc := "()Z" } : Jvm.MethodName) prog_108_method_5_code (1 : Nat) (Option.some Jvm.ClassFile.FieldType.boolean)).before args0 about1 = true := code_word (m := ⟨6, 0⟩) (meth := k6m0) (c := k6c0) (by decide +kernel) rfl rfl rfl (by decide +kernel)
def codes1 : List Jvm.Cond := [Jvm.Cond.code x code maxLocals ret, Jvm.Cond.code ({ cls := "com/example/gleanwork/gleanwork/server/Change$FailureLimit$Losses", name := "byNumber", desc := "()Z" } : Jvm.MethodName) prog_108_method_6_code (1 : Nat) (Option.some Jvm.ClassFile.FieldType.boolean), Jvm.Cond.code ({ cls := "com/example/gleanwork/gleanwork/server/Change$FailureLimit$Losses", name := "counted", desc := "()Z" } : Jvm.MethodName) prog_108_method_5_code (1 : Nat) (Option.some Jvm.ClassFile.FieldType.boolean)]
set_option maxRecDepth 65536 in
theorem codes_eq : words1.filter isCode = codes1 := rfl
theorem w_codes : ∀ c ∈ words1.filter isCode, c.before args0 about1 = true := by
  rw [codes_eq]
  intro c hc
  simp only [codes1, List.mem_cons, List.not_mem_nil, or_false] at hc
  rcases hc with rfl | rfl | rfl
  · exact w_c0
  · exact w_c1
  · exact w_c2
set_option maxRecDepth 65536 in
theorem w_t1 : words1.all (fun c => isCode c || c.before args0 about1) = true := by decide +kernel
theorem w_tables : (allAtoms (Jvm.Cond.code x code maxLocals ret :: tables_1)).before args0 about1 = true := by
  rw [allAtoms_all]
  show words1.all (fun c => c.before args0 about1) = true
  refine all_split ?_ w_codes
  rw [w_t1]
set_option maxRecDepth 65536 in
theorem w_case : (Jvm.Cond.and given_1 narrow_1).before args0 about1 = true := by decide +kernel
theorem w_applies : (headSpec (Jvm.Cond.code x code maxLocals ret :: tables_1) room_1).applies x e0.platform about1 = true :=
  (Spec.applies_iff w_frames).mpr ⟨w_running, w_runnable, w_alone, w_named, w_hears, w_ripe, w_room, w_tables⟩
theorem atStart : AtStart classFile x code maxLocals ret World_1 tables_1 room_1 Calls_1 rest_1 Pre_1 launch0 p0 e0 about1 theMethod args0 below0 :=
  ⟨lists_1, trivial, launch0.admits_env _ _ _, launch0.least_env, fairChoices_fair.cas, fairChoices_fair.clock, w_frames, w_args, w_heap, w_applies, trivial, trivial, w_case⟩
end start1
theorem witness_1 : WitnessClaimed_1 := ⟨start1.p0, start1.e0, start1.about1, start1.theMethod, start1.args0, start1.below0, start1.atStart⟩
end Jvm.Pilot.@@N@@
