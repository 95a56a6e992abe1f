import JvmDerived
import JvmDerived.Pilot.@@N@@Statement
import JvmDerived.Pilot.@@N@@Code
set_option linter.unusedVariables false
set_option linter.unusedSimpArgs false
namespace Jvm.Pilot.@@N@@
open Jvm Jvm.ClassFile Sem Op Lib Jvm.Free Jvm.Stand Jvm.LawKit Jvm.RoadKit Bundle Jvm.Pilot.@@N@@.Jvm.D
section OwnGo
variable {p : Program} {l : Launch} {e : Env} {R : Room} {s : State} {m : MethodId} {args : Array Value} {below : List Frame} {meth : Method} {c : Code} {T : State} {locs : List Loc} {cells slots : Nat} {Q : Option Value → Heap → List Loc → Prop} {kc ks : Nat}
/-- from this state the body runs to its return, and Q holds of what it leaves -/
def own_Go (p : Program) (e : Env) (below : List Frame) (s : State) (Q : Option Value → Heap → List Loc → Prop) (kc ks : Nat) (S : State) : Prop :=
  ∃ s₂ o, Steps p.tables e below S s₂ ∧ s₂.status = .running ∧ Ended s₂ below o ∧ ∃ v L, o = .returned v ∧ Q v s₂.heap L ∧ FrameEnd s o s₂ L kc ks
theorem own_st {A B : State} (f : ∀ t, Steps p.tables e below A t → Steps p.tables e below B t) (h : own_Go p e below s Q kc ks A) : own_Go p e below s Q kc ks B := by
  obtain ⟨s₂, o, h1, h2⟩ := h
  exact ⟨s₂, o, f _ h1, h2⟩
theorem own_mono {S : State} {Q' : Option Value → Heap → List Loc → Prop} (h : own_Go p e below s Q kc ks S) (f : ∀ v h L, Q v h L → Q' v h L) : own_Go p e below s Q' kc ks S := by
  obtain ⟨s₂, o, h1, h2, h3, v, L, h4, h5, h6⟩ := h
  exact ⟨s₂, o, h1, h2, h3, v, L, h4, f _ _ _ h5, h6⟩
theorem own_retN (X : Stand p l e R s m args below meth c T locs cells slots) (hx : p.tables.exec = Jvm.exec) (hlk : meth.locks = false) {pc : Nat} {Ls : Array Slot} {z : Int32} {t : FieldType} {rest : List Value} (hret : meth.sig.returnType = some t) (ht : t = .boolean ∨ t = .byte ∨ t = .char ∨ t = .short)
    (hd : decode c.code pc = .ok (.ireturn, 1)) (hq : Q (some (.int (nar t z))) T.heap locs) (hc : cells ≤ kc) (hs : slots ≤ ks) : own_Go p e below s Q kc ks (T.setTop (mkF m pc Ls (.int z :: rest))) := by
  obtain ⟨fs, hr, hrun, hended, hW, hsame⟩ := X.leave (v := some (.int (nar t z))) (fun h => by rw [hret] at h; cases h) hlk
  exact ⟨_, _, retN X hx hret ht hd hr, hrun, hended, _, _, rfl, hq, ⟨_, rfl⟩, hW, hsame.mono hc hs⟩
theorem own_retI (X : Stand p l e R s m args below meth c T locs cells slots) (hx : p.tables.exec = Jvm.exec) (hlk : meth.locks = false) {pc : Nat} {Ls : Array Slot} {z : Int32} {rest : List Value} (hret : meth.sig.returnType = some .int)
    (hd : decode c.code pc = .ok (.ireturn, 1)) (hq : Q (some (.int z)) T.heap locs) (hc : cells ≤ kc) (hs : slots ≤ ks) : own_Go p e below s Q kc ks (T.setTop (mkF m pc Ls (.int z :: rest))) := by
  obtain ⟨fs, hr, hrun, hended, hW, hsame⟩ := X.leave (v := some (.int z)) (fun h => by rw [hret] at h; cases h) hlk
  exact ⟨_, _, retOut X hx hret rfl (Or.inl ⟨rfl, Or.inl rfl, z, rfl⟩) hd hr, hrun, hended, _, _, rfl, hq, ⟨_, rfl⟩, hW, hsame.mono hc hs⟩
theorem own_retJ (X : Stand p l e R s m args below meth c T locs cells slots) (hx : p.tables.exec = Jvm.exec) (hlk : meth.locks = false) {pc : Nat} {Ls : Array Slot} {z : Int64} {rest : List Value} (hret : meth.sig.returnType = some .long)
    (hd : decode c.code pc = .ok (.lreturn, 1)) (hq : Q (some (.long z)) T.heap locs) (hc : cells ≤ kc) (hs : slots ≤ ks) : own_Go p e below s Q kc ks (T.setTop (mkF m pc Ls (.long z :: rest))) := by
  obtain ⟨fs, hr, hrun, hended, hW, hsame⟩ := X.leave (v := some (.long z)) (fun h => by rw [hret] at h; cases h) hlk
  exact ⟨_, _, retOut X hx hret rfl (Or.inr (Or.inl ⟨rfl, rfl, z, rfl⟩)) hd hr, hrun, hended, _, _, rfl, hq, ⟨_, rfl⟩, hW, hsame.mono hc hs⟩
theorem own_retA (X : Stand p l e R s m args below meth c T locs cells slots) (hx : p.tables.exec = Jvm.exec) (hlk : meth.locks = false) {pc : Nat} {Ls : Array Slot} {w : Value} {t : FieldType} {rest : List Value} (hret : meth.sig.returnType = some t) (ht : t.isReference = true) (hw : w.isRef = true)
    (hd : decode c.code pc = .ok (.areturn, 1)) (hq : Q (some w) T.heap locs) (hc : cells ≤ kc) (hs : slots ≤ ks) : own_Go p e below s Q kc ks (T.setTop (mkF m pc Ls (w :: rest))) := by
  obtain ⟨fs, hr, hrun, hended, hW, hsame⟩ := X.leave (v := some w) (fun h => by rw [hret] at h; cases h) hlk
  exact ⟨_, _, retOut X hx hret (by rcases ref_cases hw with rfl | ⟨a, rfl⟩ <;> cases t <;> first | rfl | cases ht) (Or.inr (Or.inr (Or.inr (Or.inr ⟨rfl, ht, hw⟩)))) hd hr, hrun, hended, _, _, rfl, hq, ⟨_, rfl⟩, hW, hsame.mono hc hs⟩
theorem own_retV (X : Stand p l e R s m args below meth c T locs cells slots) (hx : p.tables.exec = Jvm.exec) (hlk : meth.locks = false) {pc : Nat} {Ls : Array Slot} (hret : meth.sig.returnType = none)
    (hd : decode c.code pc = .ok (.return_, 1)) (hq : Q none T.heap locs) (hc : cells ≤ kc) (hs : slots ≤ ks) : own_Go p e below s Q kc ks (T.setTop (mkF m pc Ls [])) := by
  obtain ⟨fs, hr, hrun, hended, hW, hsame⟩ := X.leave (v := none) (fun _ => rfl) hlk
  exact ⟨_, _, X.returnOut hx hret hd hr, hrun, hended, _, _, rfl, hq, ⟨_, rfl⟩, hW, hsame.mono hc hs⟩
end OwnGo
section OwnWords
variable {args : Array Value} {s : State} {t i : Term} {a b : Addr} {C n d : String} {k : Int32} {cl : Cell} {ty : FieldType}
theorem own_fldI (ev : t.eval args s none [] s = some (.ref a)) (h : (Jvm.Cond.eq (Term.field t C n d) (Term.int k)).value args s none s [] = some true) : Fld s s.heap a C n d (.int k) := by
  have e1 := fld_at (C := C) (n := n) (dd := d) ev
  have e2 := Term.int_eval (args := args) (first := s) (o := none) (idx := []) (s := s) k
  refine Fld.start ?_
  cases hv : s.fieldOf? a C n d with
  | none => rw [hv] at e1; simp [Jvm.Cond.value, e1] at h
  | some v => rw [hv] at e1; cases v <;> simp [Jvm.Cond.value, e1, e2] at h; rw [h]
theorem own_len (ev : t.eval args s none [] s = some (.ref a)) (A : Arr s s.heap a cl ty) (h : (Jvm.Cond.eq (Term.length t) (Term.int k)).value args s none s [] = some true) : cl.slots.size < 2 ^ 31 ∧ cl.slots.size.toInt32 = k := by
  have e2 := Term.int_eval (args := args) (first := s) (o := none) (idx := []) (s := s) k
  have e0 := A.fin (Vm.Alike.refl _)
  by_cases hl : cl.slots.size < 2 ^ 31
  · have e1 := len_f ev e0 hl
    simp [Jvm.Cond.value, e1, e2] at h
    exact ⟨hl, h⟩
  · have e1 : (Term.length t).eval args s none [] s = none := by simp [Term.eval, ev, e0]; omega
    simp [Jvm.Cond.value, e1] at h
theorem own_elem {v : Value} (ev : t.eval args s none [] s = some (.ref a)) (A : Arr s s.heap a cl ty) {u : Term} (eu : u.eval args s none [] s = some v) (hv : v.isRef = true) (h : (Jvm.Cond.eq (Term.elem t (Term.int k)) u).value args s none s [] = some true) : cl.slots[k.toNatClampNeg]? = some v := by
  have e2 := Term.int_eval (args := args) (first := s) (o := none) (idx := []) (s := s) k
  obtain ⟨x, y, hx, hy, -, -⟩ := cmp_v (Or.inl h)
  cases eu.symm.trans hy
  obtain ⟨-, q⟩ := elem_in hx ev e2 A.1
  have hk : x.isRef = true := by
    cases x <;> rcases ref_cases hv with rfl | ⟨z, rfl⟩ <;> simp [Jvm.Cond.value, hx, hy] at h ⊢ <;> rfl
  rw [q, gotT (eq_R hx hy hk hv) h]
theorem own_elemR (ev : t.eval args s none [] s = some (.ref a)) (A : Arr s s.heap a cl ty) {u : Term} (eu : u.eval args s none [] s = some (.ref b)) (h : (Jvm.Cond.eq (Term.elem t (Term.int k)) u).value args s none s [] = some true) : cl.slots[k.toNatClampNeg]? = some (.ref b) := own_elem ev A eu rfl h
theorem own_elemN (ev : t.eval args s none [] s = some (.ref a)) (A : Arr s s.heap a cl ty) (h : (Jvm.Cond.eq (Term.elem t (Term.int k)) .null).value args s none s [] = some true) : cl.slots[k.toNatClampNeg]? = some .null := own_elem ev A null_at rfl h
end OwnWords
section OwnMore
theorem own_privSel {s : State} {args : Array Value} {y z z' : MethodName} {C : String} (hs : (Jvm.Cond.selects C z' z).before args s = true) (e : z.cls = y.cls) (hpriv : s.PrivateAt y) (hinst : (Jvm.Cond.instanceMethod y).before args s = true) (hy : y.cls ≠ "java/lang/invoke/MethodHandle" ∧ y.cls ≠ "java/lang/invoke/VarHandle") : (Jvm.Cond.selects y.cls y y).before args s = true := by
  obtain ⟨c, r, m, -, -, h3, -, mk, h5, h6⟩ := Cond.selects_spec hs
  exact selects_self_of_private (e ▸ findClass_of_methodNamed h3) h5 h6 hpriv hinst hy
theorem own_nar_boolean {x : Int32} (h : nar .boolean x = x) : narrow .boolean (.int x) = .int x := congrArg Value.int h
theorem own_fits_boolean {x : Int32} (h : nar .boolean x = x) : fits .boolean (.int x) = true := h ▸ fits_nar_bool x
theorem own_nar_char {x : Int32} (h : nar .char x = x) : narrow .char (.int x) = .int x := congrArg Value.int h
theorem own_fits_char {x : Int32} (h : nar .char x = x) : fits .char (.int x) = true := h ▸ fits_nar_char x
theorem own_nar_ref {v : Value} {C : String} (h : v.isRef = true) : narrow (.object C) v = v := by rcases ref_cases h with rfl | ⟨a, rfl⟩ <;> rfl
theorem own_fits_ref {v : Value} {C : String} (h : v.isRef = true) : fits (.object C) v = true := by rcases ref_cases h with rfl | ⟨a, rfl⟩ <;> rfl
theorem own_c1 {v : Value} (h : v.isRef = true) : v.category = 1 := by rcases ref_cases h with rfl | ⟨a, rfl⟩ <;> rfl
theorem own_ext_of_keep {h h' : Heap} (K : Keep h h' []) : Ext h h' := ⟨K.1, fun a c q => K.2.1 a c q nin0⟩
theorem own_ext_refl (h : Heap) : Ext h h := ⟨Nat.le_refl _, fun _ _ q => q⟩
theorem own_ext_trans {h h' h'' : Heap} (E : Ext h h') (E' : Ext h' h'') : Ext h h'' := ⟨Nat.le_trans E.1 E'.1, fun a c q => E'.2 a c (E.2 a c q)⟩
end OwnMore
def QLaw (n0 : Nat) (v : Option Value) (h : Heap) (L : List Loc) : Prop := v = some (.int 1) ∧ Fr n0 L
def Qv (w : Value) (h0 : Heap) (n0 : Nat) (v : Option Value) (h : Heap) (L : List Loc) : Prop := v = some w ∧ Fr n0 L ∧ h = h0
theorem d1_0 : decode method_2_code 0 = .ok (.iload_n 0, 1) := by decide +kernel
theorem d1_1 : decode method_2_code 1 = .ok (.iconst 1, 1) := by decide +kernel
theorem d1_2 : decode method_2_code 2 = .ok (.if_icmp .ne 7, 3) := by decide +kernel
theorem d1_5 : decode method_2_code 5 = .ok (.getstatic 7, 3) := by decide +kernel
theorem d1_8 : decode method_2_code 8 = .ok (.areturn, 1) := by decide +kernel
theorem d1_9 : decode method_2_code 9 = .ok (.iload_n 0, 1) := by decide +kernel
theorem d1_10 : decode method_2_code 10 = .ok (.iconst 2, 1) := by decide +kernel
theorem d1_11 : decode method_2_code 11 = .ok (.if_icmp .ne 7, 3) := by decide +kernel
theorem d1_14 : decode method_2_code 14 = .ok (.getstatic 13, 3) := by decide +kernel
theorem d1_17 : decode method_2_code 17 = .ok (.areturn, 1) := by decide +kernel
theorem d1_18 : decode method_2_code 18 = .ok (.iload_n 0, 1) := by decide +kernel
theorem d1_19 : decode method_2_code 19 = .ok (.iconst 3, 1) := by decide +kernel
theorem d1_20 : decode method_2_code 20 = .ok (.if_icmp .ne 7, 3) := by decide +kernel
theorem d1_23 : decode method_2_code 23 = .ok (.getstatic 16, 3) := by decide +kernel
theorem d1_26 : decode method_2_code 26 = .ok (.areturn, 1) := by decide +kernel
theorem d1_27 : decode method_2_code 27 = .ok (.iload_n 0, 1) := by decide +kernel
theorem d1_28 : decode method_2_code 28 = .ok (.iconst 4, 1) := by decide +kernel
theorem d1_29 : decode method_2_code 29 = .ok (.if_icmp .ne 7, 3) := by decide +kernel
theorem d1_32 : decode method_2_code 32 = .ok (.getstatic 19, 3) := by decide +kernel
theorem d1_35 : decode method_2_code 35 = .ok (.areturn, 1) := by decide +kernel
theorem d1_36 : decode method_2_code 36 = .ok (.iload_n 0, 1) := by decide +kernel
theorem d1_37 : decode method_2_code 37 = .ok (.iconst 5, 1) := by decide +kernel
theorem d1_38 : decode method_2_code 38 = .ok (.if_icmp .ne 7, 3) := by decide +kernel
theorem d1_41 : decode method_2_code 41 = .ok (.getstatic 22, 3) := by decide +kernel
theorem d1_44 : decode method_2_code 44 = .ok (.areturn, 1) := by decide +kernel
theorem d1_45 : decode method_2_code 45 = .ok (.iload_n 0, 1) := by decide +kernel
theorem d1_46 : decode method_2_code 46 = .ok (.bipush 6, 2) := by decide +kernel
theorem d1_48 : decode method_2_code 48 = .ok (.if_icmp .ne 7, 3) := by decide +kernel
theorem d1_51 : decode method_2_code 51 = .ok (.getstatic 25, 3) := by decide +kernel
theorem d1_54 : decode method_2_code 54 = .ok (.areturn, 1) := by decide +kernel
theorem d1_55 : decode method_2_code 55 = .ok (.iload_n 0, 1) := by decide +kernel
theorem d1_56 : decode method_2_code 56 = .ok (.bipush 7, 2) := by decide +kernel
theorem d1_58 : decode method_2_code 58 = .ok (.if_icmp .ne 7, 3) := by decide +kernel
theorem d1_61 : decode method_2_code 61 = .ok (.getstatic 28, 3) := by decide +kernel
theorem d1_64 : decode method_2_code 64 = .ok (.areturn, 1) := by decide +kernel
theorem d1_65 : decode method_2_code 65 = .ok (.iload_n 0, 1) := by decide +kernel
theorem d1_66 : decode method_2_code 66 = .ok (.bipush 8, 2) := by decide +kernel
theorem d1_68 : decode method_2_code 68 = .ok (.if_icmp .ne 7, 3) := by decide +kernel
theorem d1_71 : decode method_2_code 71 = .ok (.getstatic 31, 3) := by decide +kernel
theorem d1_74 : decode method_2_code 74 = .ok (.areturn, 1) := by decide +kernel
theorem d1_75 : decode method_2_code 75 = .ok (.iload_n 0, 1) := by decide +kernel
theorem d1_76 : decode method_2_code 76 = .ok (.bipush 9, 2) := by decide +kernel
theorem d1_78 : decode method_2_code 78 = .ok (.if_icmp .ne 7, 3) := by decide +kernel
theorem d1_81 : decode method_2_code 81 = .ok (.getstatic 34, 3) := by decide +kernel
theorem d1_84 : decode method_2_code 84 = .ok (.areturn, 1) := by decide +kernel
theorem d1_85 : decode method_2_code 85 = .ok (.iload_n 0, 1) := by decide +kernel
theorem d1_86 : decode method_2_code 86 = .ok (.bipush 10, 2) := by decide +kernel
theorem d1_88 : decode method_2_code 88 = .ok (.if_icmp .ne 7, 3) := by decide +kernel
theorem d1_91 : decode method_2_code 91 = .ok (.getstatic 37, 3) := by decide +kernel
theorem d1_94 : decode method_2_code 94 = .ok (.areturn, 1) := by decide +kernel
theorem d1_95 : decode method_2_code 95 = .ok (.aconst_null, 1) := by decide +kernel
theorem d1_96 : decode method_2_code 96 = .ok (.areturn, 1) := by decide +kernel
theorem pn_com_2fexample_2flibttl_2flibttl_2fChangeOfPinLaw : plainName "com/example/libttl/libttl/ChangeOfPinLaw" = true := by first | (simp [plainName, overriddenIn]; done) | decide +kernel
theorem ef_rmX (mM : MethodId) (b : Int32) (a1 : Addr) (a2 : Addr) (a3 : Addr) (a4 : Addr) (a5 : Addr) (a6 : Addr) (a7 : Addr) (a8 : Addr) (a9 : Addr) (a10 : Addr) (w : Value) : entryFrame mM #[(.int b)] 1 = mkF mM 0 #[.val (.int b)] [] := by first | (simp [entryFrame, mkF, argsToLocals, Value.category]; done) | rfl
set_option maxRecDepth 65536 in
set_option maxHeartbeats 40000000 in
theorem rmX (lL : Launch) (Z : State) (a0 : Array Value) (hw : ∀ d ∈ tables_1, d.before a0 Z = true) (ws : List Jvm.Cond) (b : Int32) (a1 : Addr) (a2 : Addr) (a3 : Addr) (a4 : Addr) (a5 : Addr) (a6 : Addr) (a7 : Addr) (a8 : Addr) (a9 : Addr) (a10 : Addr) (w : Value) (h0 : Heap) (n0 : Nat) (S_ENTERED : Sta Z h0 "com/example/libttl/libttl/LogFormat$Change" "ENTERED" "Lcom/example/libttl/libttl/LogFormat$Change;" (.ref a1)) (S_REMOVED : Sta Z h0 "com/example/libttl/libttl/LogFormat$Change" "REMOVED" "Lcom/example/libttl/libttl/LogFormat$Change;" (.ref a2)) (S_MOVED : Sta Z h0 "com/example/libttl/libttl/LogFormat$Change" "MOVED" "Lcom/example/libttl/libttl/LogFormat$Change;" (.ref a3)) (S_DEADLINE_SET : Sta Z h0 "com/example/libttl/libttl/LogFormat$Change" "DEADLINE_SET" "Lcom/example/libttl/libttl/LogFormat$Change;" (.ref a4)) (S_STRING_SET : Sta Z h0 "com/example/libttl/libttl/LogFormat$Change" "STRING_SET" "Lcom/example/libttl/libttl/LogFormat$Change;" (.ref a5)) (S_PUSHED : Sta Z h0 "com/example/libttl/libttl/LogFormat$Change" "PUSHED" "Lcom/example/libttl/libttl/LogFormat$Change;" (.ref a6)) (S_POPPED : Sta Z h0 "com/example/libttl/libttl/LogFormat$Change" "POPPED" "Lcom/example/libttl/libttl/LogFormat$Change;" (.ref a7)) (S_FIELDS_SET : Sta Z h0 "com/example/libttl/libttl/LogFormat$Change" "FIELDS_SET" "Lcom/example/libttl/libttl/LogFormat$Change;" (.ref a8)) (S_FIELDS_REMOVED : Sta Z h0 "com/example/libttl/libttl/LogFormat$Change" "FIELDS_REMOVED" "Lcom/example/libttl/libttl/LogFormat$Change;" (.ref a9)) (S_FLUSHED : Sta Z h0 "com/example/libttl/libttl/LogFormat$Change" "FLUSHED" "Lcom/example/libttl/libttl/LogFormat$Change;" (.ref a10)) (s1 : b = (1 : Int32) → w = .ref a1) (s2 : b = (2 : Int32) → w = .ref a2) (s3 : b = (3 : Int32) → w = .ref a3) (s4 : b = (4 : Int32) → w = .ref a4) (s5 : b = (5 : Int32) → w = .ref a5) (s6 : b = (6 : Int32) → w = .ref a6) (s7 : b = (7 : Int32) → w = .ref a7) (s8 : b = (8 : Int32) → w = .ref a8) (s9 : b = (9 : Int32) → w = .ref a9) (s10 : b = (10 : Int32) → w = .ref a10) (s0 : ¬ b = (1 : Int32) → ¬ b = (2 : Int32) → ¬ b = (3 : Int32) → ¬ b = (4 : Int32) → ¬ b = (5 : Int32) → ¬ b = (6 : Int32) → ¬ b = (7 : Int32) → ¬ b = (8 : Int32) → ¬ b = (9 : Int32) → ¬ b = (10 : Int32) → w = .null) :
    MetFree lL (⟨"com/example/libttl/libttl/ChangeOfPinLaw", "expected", "(I)Lcom/example/libttl/libttl/LogFormat$Change;"⟩ : MethodName) (head1 (Jvm.Cond.code (⟨"com/example/libttl/libttl/ChangeOfPinLaw", "expected", "(I)Lcom/example/libttl/libttl/LogFormat$Change;"⟩ : MethodName) method_2_code 1 (some (.object "com/example/libttl/libttl/LogFormat$Change")) :: ws) ({ frames := 0, cells := 0, slots := 0, locals := 0 } : Room)) (fun as_ uU_ => as_ = #[(.int b)] ∧ Z.Warmed39 uU_.vm ∧ uU_.heap = h0) (fun _ _ _ _ _ => True) (fun _ uU_ oO_ uE_ => ∃ vV_ lL_, oO_ = .returned vV_ ∧ Qv w h0 n0 vV_ uE_.heap lL_ ∧ FrameEnd uU_ oO_ uE_ lL_ ({ frames := 0, cells := 0, slots := 0, locals := 0 } : Room).cells ({ frames := 0, cells := 0, slots := 0, locals := 0 } : Room).slots) := by
  refine MetFree.of_bodySF (plainFor_of_name pn_com_2fexample_2flibttl_2flibttl_2fChangeOfPinLaw) hisR ?_
  intro pP eE sS mM args below meth cC s₁ Bd hml0 hP hK
  obtain ⟨rfl, hZ, hh⟩ := hP
  have hx := Bd.exec
  have hby := Bd.bytes
  have hml : cC.maxLocals = 1 := hml0
  have hown : sS.vm.findClass "com/example/libttl/libttl/ChangeOfPinLaw" = some mM.cls := findClass_of_methodNamed Bd.named
  have hnm := (name_of_methodNamed Bd.named Bd.method).1
  have hret := Bd.returns
  have hlk := BodyLoose.notSynchronized Bd
  have X0 : Stand pP lL eE ({ frames := 0, cells := 0, slots := 0, locals := 0 } : Room) sS mM #[(.int b)] below meth cC s₁ [] 0 0 := Stand.of_body Bd
  have e0 : s₁.heap = h0 := by rw [← hh, Bd.state]; rfl
  have N0 := Fr.nil n0
  show own_Go pP eE below sS (Qv w h0 n0) 0 0 (s₁.setTop (entryFrame mM #[(.int b)] 1))
  refine own_st (A := s₁.setTop (mkF mM 0 #[.val (.int b)] [])) (fun tT_ kK_ => castTop (ef_rmX mM b a1 a2 a3 a4 a5 a6 a7 a8 a9 a10 w) kK_) ?_
  refine own_st (A := s₁.setTop (mkF mM 1 #[.val (.int b)] [(.int b)])) (fun tT_ kK_ => XS.iloadN X0.here hx rfl (hb hby d1_0) rfl kK_) ?_
  refine own_st (A := s₁.setTop (mkF mM 2 #[.val (.int b)] [(.int (1 : Int32)), (.int b)])) (fun tT_ kK_ => XS.iconst X0.here hx rfl (hb hby d1_1) kK_) ?_
  by_cases hc2_1 : b = (1 : Int32)
  · skip
    refine own_st (A := s₁.setTop (mkF mM 5 #[.val (.int b)] [])) (fun tT_ kK_ => XS.icmpNo X0.here hx rfl (hb hby d1_2) rfl (teq hc2_1).2 kK_) ?_
    obtain ⟨T2, X2, e2, st2⟩ := getS2 X0 hx hZ hown (host := "") (Or.inl (hw _ (List.mem_of_getElem? (i := 25) rfl))) Via.refl e0 S_ENTERED (g := (mkF mM 5 #[.val (.int b)] [])) rfl (hb hby d1_5)
    refine own_st (A := T2.setTop (mkF mM 8 #[.val (.int b)] [(.ref a1)])) (fun tT_ kK_ => st2 tT_ kK_) ?_
    exact own_retA X2 hx hlk hret rfl rfl (hb hby d1_8) (by rw [s1 hc2_1]; exact ⟨rfl, N0, e2⟩) (by decide) (by decide)
  · skip
    refine own_st (A := s₁.setTop (mkF mM 9 #[.val (.int b)] [])) (fun tT_ kK_ => XS.icmpYes X0.here hx rfl (pc0 := 2) (pc' := 9) rfl (hb hby d1_2) rfl (feq hc2_1).2 (by decide) (by decide) kK_) ?_
    refine own_st (A := s₁.setTop (mkF mM 10 #[.val (.int b)] [(.int b)])) (fun tT_ kK_ => XS.iloadN X0.here hx rfl (hb hby d1_9) rfl kK_) ?_
    refine own_st (A := s₁.setTop (mkF mM 11 #[.val (.int b)] [(.int (2 : Int32)), (.int b)])) (fun tT_ kK_ => XS.iconst X0.here hx rfl (hb hby d1_10) kK_) ?_
    by_cases hc11_3 : b = (2 : Int32)
    · skip
      refine own_st (A := s₁.setTop (mkF mM 14 #[.val (.int b)] [])) (fun tT_ kK_ => XS.icmpNo X0.here hx rfl (hb hby d1_11) rfl (teq hc11_3).2 kK_) ?_
      obtain ⟨T4, X4, e4, st4⟩ := getS2 X0 hx hZ hown (host := "") (Or.inl (hw _ (List.mem_of_getElem? (i := 21) rfl))) Via.refl e0 S_REMOVED (g := (mkF mM 14 #[.val (.int b)] [])) rfl (hb hby d1_14)
      refine own_st (A := T4.setTop (mkF mM 17 #[.val (.int b)] [(.ref a2)])) (fun tT_ kK_ => st4 tT_ kK_) ?_
      exact own_retA X4 hx hlk hret rfl rfl (hb hby d1_17) (by rw [s2 hc11_3]; exact ⟨rfl, N0, e4⟩) (by decide) (by decide)
    · skip
      refine own_st (A := s₁.setTop (mkF mM 18 #[.val (.int b)] [])) (fun tT_ kK_ => XS.icmpYes X0.here hx rfl (pc0 := 11) (pc' := 18) rfl (hb hby d1_11) rfl (feq hc11_3).2 (by decide) (by decide) kK_) ?_
      refine own_st (A := s₁.setTop (mkF mM 19 #[.val (.int b)] [(.int b)])) (fun tT_ kK_ => XS.iloadN X0.here hx rfl (hb hby d1_18) rfl kK_) ?_
      refine own_st (A := s₁.setTop (mkF mM 20 #[.val (.int b)] [(.int (3 : Int32)), (.int b)])) (fun tT_ kK_ => XS.iconst X0.here hx rfl (hb hby d1_19) kK_) ?_
      by_cases hc20_5 : b = (3 : Int32)
      · skip
        refine own_st (A := s₁.setTop (mkF mM 23 #[.val (.int b)] [])) (fun tT_ kK_ => XS.icmpNo X0.here hx rfl (hb hby d1_20) rfl (teq hc20_5).2 kK_) ?_
        obtain ⟨T6, X6, e6, st6⟩ := getS2 X0 hx hZ hown (host := "") (Or.inl (hw _ (List.mem_of_getElem? (i := 8) rfl))) Via.refl e0 S_MOVED (g := (mkF mM 23 #[.val (.int b)] [])) rfl (hb hby d1_23)
        refine own_st (A := T6.setTop (mkF mM 26 #[.val (.int b)] [(.ref a3)])) (fun tT_ kK_ => st6 tT_ kK_) ?_
        exact own_retA X6 hx hlk hret rfl rfl (hb hby d1_26) (by rw [s3 hc20_5]; exact ⟨rfl, N0, e6⟩) (by decide) (by decide)
      · skip
        refine own_st (A := s₁.setTop (mkF mM 27 #[.val (.int b)] [])) (fun tT_ kK_ => XS.icmpYes X0.here hx rfl (pc0 := 20) (pc' := 27) rfl (hb hby d1_20) rfl (feq hc20_5).2 (by decide) (by decide) kK_) ?_
        refine own_st (A := s₁.setTop (mkF mM 28 #[.val (.int b)] [(.int b)])) (fun tT_ kK_ => XS.iloadN X0.here hx rfl (hb hby d1_27) rfl kK_) ?_
        refine own_st (A := s₁.setTop (mkF mM 29 #[.val (.int b)] [(.int (4 : Int32)), (.int b)])) (fun tT_ kK_ => XS.iconst X0.here hx rfl (hb hby d1_28) kK_) ?_
        by_cases hc29_7 : b = (4 : Int32)
        · skip
          refine own_st (A := s₁.setTop (mkF mM 32 #[.val (.int b)] [])) (fun tT_ kK_ => XS.icmpNo X0.here hx rfl (hb hby d1_29) rfl (teq hc29_7).2 kK_) ?_
          obtain ⟨T8, X8, e8, st8⟩ := getS2 X0 hx hZ hown (host := "") (Or.inl (hw _ (List.mem_of_getElem? (i := 35) rfl))) Via.refl e0 S_DEADLINE_SET (g := (mkF mM 32 #[.val (.int b)] [])) rfl (hb hby d1_32)
          refine own_st (A := T8.setTop (mkF mM 35 #[.val (.int b)] [(.ref a4)])) (fun tT_ kK_ => st8 tT_ kK_) ?_
          exact own_retA X8 hx hlk hret rfl rfl (hb hby d1_35) (by rw [s4 hc29_7]; exact ⟨rfl, N0, e8⟩) (by decide) (by decide)
        · skip
          refine own_st (A := s₁.setTop (mkF mM 36 #[.val (.int b)] [])) (fun tT_ kK_ => XS.icmpYes X0.here hx rfl (pc0 := 29) (pc' := 36) rfl (hb hby d1_29) rfl (feq hc29_7).2 (by decide) (by decide) kK_) ?_
          refine own_st (A := s₁.setTop (mkF mM 37 #[.val (.int b)] [(.int b)])) (fun tT_ kK_ => XS.iloadN X0.here hx rfl (hb hby d1_36) rfl kK_) ?_
          refine own_st (A := s₁.setTop (mkF mM 38 #[.val (.int b)] [(.int (5 : Int32)), (.int b)])) (fun tT_ kK_ => XS.iconst X0.here hx rfl (hb hby d1_37) kK_) ?_
          by_cases hc38_9 : b = (5 : Int32)
          · skip
            refine own_st (A := s₁.setTop (mkF mM 41 #[.val (.int b)] [])) (fun tT_ kK_ => XS.icmpNo X0.here hx rfl (hb hby d1_38) rfl (teq hc38_9).2 kK_) ?_
            obtain ⟨T10, X10, e10, st10⟩ := getS2 X0 hx hZ hown (host := "") (Or.inl (hw _ (List.mem_of_getElem? (i := 33) rfl))) Via.refl e0 S_STRING_SET (g := (mkF mM 41 #[.val (.int b)] [])) rfl (hb hby d1_41)
            refine own_st (A := T10.setTop (mkF mM 44 #[.val (.int b)] [(.ref a5)])) (fun tT_ kK_ => st10 tT_ kK_) ?_
            exact own_retA X10 hx hlk hret rfl rfl (hb hby d1_44) (by rw [s5 hc38_9]; exact ⟨rfl, N0, e10⟩) (by decide) (by decide)
          · skip
            refine own_st (A := s₁.setTop (mkF mM 45 #[.val (.int b)] [])) (fun tT_ kK_ => XS.icmpYes X0.here hx rfl (pc0 := 38) (pc' := 45) rfl (hb hby d1_38) rfl (feq hc38_9).2 (by decide) (by decide) kK_) ?_
            refine own_st (A := s₁.setTop (mkF mM 46 #[.val (.int b)] [(.int b)])) (fun tT_ kK_ => XS.iloadN X0.here hx rfl (hb hby d1_45) rfl kK_) ?_
            refine own_st (A := s₁.setTop (mkF mM 48 #[.val (.int b)] [(.int (6 : Int32)), (.int b)])) (fun tT_ kK_ => XS.bipush X0.here hx rfl (hb hby d1_46) kK_) ?_
            by_cases hc48_11 : b = (6 : Int32)
            · skip
              refine own_st (A := s₁.setTop (mkF mM 51 #[.val (.int b)] [])) (fun tT_ kK_ => XS.icmpNo X0.here hx rfl (hb hby d1_48) rfl (teq hc48_11).2 kK_) ?_
              obtain ⟨T12, X12, e12, st12⟩ := getS2 X0 hx hZ hown (host := "") (Or.inl (hw _ (List.mem_of_getElem? (i := 29) rfl))) Via.refl e0 S_PUSHED (g := (mkF mM 51 #[.val (.int b)] [])) rfl (hb hby d1_51)
              refine own_st (A := T12.setTop (mkF mM 54 #[.val (.int b)] [(.ref a6)])) (fun tT_ kK_ => st12 tT_ kK_) ?_
              exact own_retA X12 hx hlk hret rfl rfl (hb hby d1_54) (by rw [s6 hc48_11]; exact ⟨rfl, N0, e12⟩) (by decide) (by decide)
            · skip
              refine own_st (A := s₁.setTop (mkF mM 55 #[.val (.int b)] [])) (fun tT_ kK_ => XS.icmpYes X0.here hx rfl (pc0 := 48) (pc' := 55) rfl (hb hby d1_48) rfl (feq hc48_11).2 (by decide) (by decide) kK_) ?_
              refine own_st (A := s₁.setTop (mkF mM 56 #[.val (.int b)] [(.int b)])) (fun tT_ kK_ => XS.iloadN X0.here hx rfl (hb hby d1_55) rfl kK_) ?_
              refine own_st (A := s₁.setTop (mkF mM 58 #[.val (.int b)] [(.int (7 : Int32)), (.int b)])) (fun tT_ kK_ => XS.bipush X0.here hx rfl (hb hby d1_56) kK_) ?_
              by_cases hc58_13 : b = (7 : Int32)
              · skip
                refine own_st (A := s₁.setTop (mkF mM 61 #[.val (.int b)] [])) (fun tT_ kK_ => XS.icmpNo X0.here hx rfl (hb hby d1_58) rfl (teq hc58_13).2 kK_) ?_
                obtain ⟨T14, X14, e14, st14⟩ := getS2 X0 hx hZ hown (host := "") (Or.inl (hw _ (List.mem_of_getElem? (i := 19) rfl))) Via.refl e0 S_POPPED (g := (mkF mM 61 #[.val (.int b)] [])) rfl (hb hby d1_61)
                refine own_st (A := T14.setTop (mkF mM 64 #[.val (.int b)] [(.ref a7)])) (fun tT_ kK_ => st14 tT_ kK_) ?_
                exact own_retA X14 hx hlk hret rfl rfl (hb hby d1_64) (by rw [s7 hc58_13]; exact ⟨rfl, N0, e14⟩) (by decide) (by decide)
              · skip
                refine own_st (A := s₁.setTop (mkF mM 65 #[.val (.int b)] [])) (fun tT_ kK_ => XS.icmpYes X0.here hx rfl (pc0 := 58) (pc' := 65) rfl (hb hby d1_58) rfl (feq hc58_13).2 (by decide) (by decide) kK_) ?_
                refine own_st (A := s₁.setTop (mkF mM 66 #[.val (.int b)] [(.int b)])) (fun tT_ kK_ => XS.iloadN X0.here hx rfl (hb hby d1_65) rfl kK_) ?_
                refine own_st (A := s₁.setTop (mkF mM 68 #[.val (.int b)] [(.int (8 : Int32)), (.int b)])) (fun tT_ kK_ => XS.bipush X0.here hx rfl (hb hby d1_66) kK_) ?_
                by_cases hc68_15 : b = (8 : Int32)
                · skip
                  refine own_st (A := s₁.setTop (mkF mM 71 #[.val (.int b)] [])) (fun tT_ kK_ => XS.icmpNo X0.here hx rfl (hb hby d1_68) rfl (teq hc68_15).2 kK_) ?_
                  obtain ⟨T16, X16, e16, st16⟩ := getS2 X0 hx hZ hown (host := "") (Or.inl (hw _ (List.mem_of_getElem? (i := 23) rfl))) Via.refl e0 S_FIELDS_SET (g := (mkF mM 71 #[.val (.int b)] [])) rfl (hb hby d1_71)
                  refine own_st (A := T16.setTop (mkF mM 74 #[.val (.int b)] [(.ref a8)])) (fun tT_ kK_ => st16 tT_ kK_) ?_
                  exact own_retA X16 hx hlk hret rfl rfl (hb hby d1_74) (by rw [s8 hc68_15]; exact ⟨rfl, N0, e16⟩) (by decide) (by decide)
                · skip
                  refine own_st (A := s₁.setTop (mkF mM 75 #[.val (.int b)] [])) (fun tT_ kK_ => XS.icmpYes X0.here hx rfl (pc0 := 68) (pc' := 75) rfl (hb hby d1_68) rfl (feq hc68_15).2 (by decide) (by decide) kK_) ?_
                  refine own_st (A := s₁.setTop (mkF mM 76 #[.val (.int b)] [(.int b)])) (fun tT_ kK_ => XS.iloadN X0.here hx rfl (hb hby d1_75) rfl kK_) ?_
                  refine own_st (A := s₁.setTop (mkF mM 78 #[.val (.int b)] [(.int (9 : Int32)), (.int b)])) (fun tT_ kK_ => XS.bipush X0.here hx rfl (hb hby d1_76) kK_) ?_
                  by_cases hc78_17 : b = (9 : Int32)
                  · skip
                    refine own_st (A := s₁.setTop (mkF mM 81 #[.val (.int b)] [])) (fun tT_ kK_ => XS.icmpNo X0.here hx rfl (hb hby d1_78) rfl (teq hc78_17).2 kK_) ?_
                    obtain ⟨T18, X18, e18, st18⟩ := getS2 X0 hx hZ hown (host := "") (Or.inl (hw _ (List.mem_of_getElem? (i := 31) rfl))) Via.refl e0 S_FIELDS_REMOVED (g := (mkF mM 81 #[.val (.int b)] [])) rfl (hb hby d1_81)
                    refine own_st (A := T18.setTop (mkF mM 84 #[.val (.int b)] [(.ref a9)])) (fun tT_ kK_ => st18 tT_ kK_) ?_
                    exact own_retA X18 hx hlk hret rfl rfl (hb hby d1_84) (by rw [s9 hc78_17]; exact ⟨rfl, N0, e18⟩) (by decide) (by decide)
                  · skip
                    refine own_st (A := s₁.setTop (mkF mM 85 #[.val (.int b)] [])) (fun tT_ kK_ => XS.icmpYes X0.here hx rfl (pc0 := 78) (pc' := 85) rfl (hb hby d1_78) rfl (feq hc78_17).2 (by decide) (by decide) kK_) ?_
                    refine own_st (A := s₁.setTop (mkF mM 86 #[.val (.int b)] [(.int b)])) (fun tT_ kK_ => XS.iloadN X0.here hx rfl (hb hby d1_85) rfl kK_) ?_
                    refine own_st (A := s₁.setTop (mkF mM 88 #[.val (.int b)] [(.int (10 : Int32)), (.int b)])) (fun tT_ kK_ => XS.bipush X0.here hx rfl (hb hby d1_86) kK_) ?_
                    by_cases hc88_19 : b = (10 : Int32)
                    · skip
                      refine own_st (A := s₁.setTop (mkF mM 91 #[.val (.int b)] [])) (fun tT_ kK_ => XS.icmpNo X0.here hx rfl (hb hby d1_88) rfl (teq hc88_19).2 kK_) ?_
                      obtain ⟨T20, X20, e20, st20⟩ := getS2 X0 hx hZ hown (host := "") (Or.inl (hw _ (List.mem_of_getElem? (i := 27) rfl))) Via.refl e0 S_FLUSHED (g := (mkF mM 91 #[.val (.int b)] [])) rfl (hb hby d1_91)
                      refine own_st (A := T20.setTop (mkF mM 94 #[.val (.int b)] [(.ref a10)])) (fun tT_ kK_ => st20 tT_ kK_) ?_
                      exact own_retA X20 hx hlk hret rfl rfl (hb hby d1_94) (by rw [s10 hc88_19]; exact ⟨rfl, N0, e20⟩) (by decide) (by decide)
                    · skip
                      refine own_st (A := s₁.setTop (mkF mM 95 #[.val (.int b)] [])) (fun tT_ kK_ => XS.icmpYes X0.here hx rfl (pc0 := 88) (pc' := 95) rfl (hb hby d1_88) rfl (feq hc88_19).2 (by decide) (by decide) kK_) ?_
                      refine own_st (A := s₁.setTop (mkF mM 96 #[.val (.int b)] [.null])) (fun tT_ kK_ => XS.aconstNull X0.here hx rfl (hb hby d1_95) kK_) ?_
                      exact own_retA X0 hx hlk hret rfl rfl (hb hby d1_96) (by rw [s0 hc2_1 hc11_3 hc20_5 hc29_7 hc38_9 hc48_11 hc58_13 hc68_15 hc78_17 hc88_19]; exact ⟨rfl, N0, e0⟩) (by decide) (by decide)
theorem own_nlt {b : Int32} (h : (0 : Int32) < b) : ¬ b < 0 := by rw [Int32.lt_iff_toInt_lt] at h ⊢; omega
theorem d2_0 : decode prog_26_method_5_code 0 = .ok (.iload_n 0, 1) := by decide +kernel
theorem d2_1 : decode prog_26_method_5_code 1 = .ok (.ifCond .le 19, 3) := by decide +kernel
theorem d2_4 : decode prog_26_method_5_code 4 = .ok (.iload_n 0, 1) := by decide +kernel
theorem d2_5 : decode prog_26_method_5_code 5 = .ok (.getstatic 57, 3) := by decide +kernel
theorem d2_8 : decode prog_26_method_5_code 8 = .ok (.arraylength, 1) := by decide +kernel
theorem d2_9 : decode prog_26_method_5_code 9 = .ok (.if_icmp .ge 11, 3) := by decide +kernel
theorem d2_12 : decode prog_26_method_5_code 12 = .ok (.getstatic 57, 3) := by decide +kernel
theorem d2_15 : decode prog_26_method_5_code 15 = .ok (.iload_n 0, 1) := by decide +kernel
theorem d2_16 : decode prog_26_method_5_code 16 = .ok (.aaload, 1) := by decide +kernel
theorem d2_17 : decode prog_26_method_5_code 17 = .ok (.goto 4, 3) := by decide +kernel
theorem d2_21 : decode prog_26_method_5_code 21 = .ok (.areturn, 1) := by decide +kernel
theorem d2_20 : decode prog_26_method_5_code 20 = .ok (.aconst_null, 1) := by decide +kernel
theorem pn_com_2fexample_2flibttl_2flibttl_2fLogFormat_24Change : plainName "com/example/libttl/libttl/LogFormat$Change" = true := by first | (simp [plainName, overriddenIn]; done) | decide +kernel
theorem ef_rmO (mM : MethodId) (b : Int32) (t : Addr) (cl : Cell) (w : Value) : entryFrame mM #[(.int b)] 1 = mkF mM 0 #[.val (.int b)] [] := by first | (simp [entryFrame, mkF, argsToLocals, Value.category]; done) | rfl
set_option maxRecDepth 65536 in
set_option maxHeartbeats 40000000 in
theorem rmO (lL : Launch) (Z : State) (a0 : Array Value) (hw : ∀ d ∈ tables_1, d.before a0 Z = true) (ws : List Jvm.Cond) (b : Int32) (t : Addr) (cl : Cell) (w : Value) (h0 : Heap) (n0 : Nat) (S_BY : Sta Z h0 "com/example/libttl/libttl/LogFormat$Change" "BY_CODE" "[Lcom/example/libttl/libttl/LogFormat$Change;" (.ref t)) (Ar : Arr Z h0 t cl (.object "com/example/libttl/libttl/LogFormat$Change")) (sz : cl.slots.size = (11 : Int32).toNatClampNeg) (h_in : (0 : Int32) < b → b < (11 : Int32) → cl.slots[b.toNatClampNeg]? = some w) (h_lo : ¬ (0 : Int32) < b → w = .null) (h_hi : ¬ b < (11 : Int32) → w = .null) (hr : w.isRef = true) :
    MetFree lL (⟨"com/example/libttl/libttl/LogFormat$Change", "of", "(B)Lcom/example/libttl/libttl/LogFormat$Change;"⟩ : MethodName) (head1 (Jvm.Cond.code (⟨"com/example/libttl/libttl/LogFormat$Change", "of", "(B)Lcom/example/libttl/libttl/LogFormat$Change;"⟩ : MethodName) prog_26_method_5_code 1 (some (.object "com/example/libttl/libttl/LogFormat$Change")) :: ws) ({ frames := 0, cells := 0, slots := 0, locals := 0 } : Room)) (fun as_ uU_ => as_ = #[(.int b)] ∧ Z.Warmed39 uU_.vm ∧ uU_.heap = h0) (fun _ _ _ _ _ => True) (fun _ uU_ oO_ uE_ => ∃ vV_ lL_, oO_ = .returned vV_ ∧ Qv w h0 n0 vV_ uE_.heap lL_ ∧ FrameEnd uU_ oO_ uE_ lL_ ({ frames := 0, cells := 0, slots := 0, locals := 0 } : Room).cells ({ frames := 0, cells := 0, slots := 0, locals := 0 } : Room).slots) := by
  refine MetFree.of_bodySF (plainFor_of_name pn_com_2fexample_2flibttl_2flibttl_2fLogFormat_24Change) hisR ?_
  intro pP eE sS mM args below meth cC s₁ Bd hml0 hP hK
  obtain ⟨rfl, hZ, hh⟩ := hP
  have hx := Bd.exec
  have hby := Bd.bytes
  have hml : cC.maxLocals = 1 := hml0
  have hown : sS.vm.findClass "com/example/libttl/libttl/LogFormat$Change" = some mM.cls := findClass_of_methodNamed Bd.named
  have hnm := (name_of_methodNamed Bd.named Bd.method).1
  have hret := Bd.returns
  have hlk := BodyLoose.notSynchronized Bd
  have X0 : Stand pP lL eE ({ frames := 0, cells := 0, slots := 0, locals := 0 } : Room) sS mM #[(.int b)] below meth cC s₁ [] 0 0 := Stand.of_body Bd
  have e0 : s₁.heap = h0 := by rw [← hh, Bd.state]; rfl
  have N0 := Fr.nil n0
  show own_Go pP eE below sS (Qv w h0 n0) 0 0 (s₁.setTop (entryFrame mM #[(.int b)] 1))
  refine own_st (A := s₁.setTop (mkF mM 0 #[.val (.int b)] [])) (fun tT_ kK_ => castTop (ef_rmO mM b t cl w) kK_) ?_
  refine own_st (A := s₁.setTop (mkF mM 1 #[.val (.int b)] [(.int b)])) (fun tT_ kK_ => XS.iloadN X0.here hx rfl (hb hby d2_0) rfl kK_) ?_
  by_cases hc1_21 : (0 : Int32) < b
  · skip
    refine own_st (A := s₁.setTop (mkF mM 4 #[.val (.int b)] [])) (fun tT_ kK_ => XS.ifNo X0.here hx rfl (hb hby d2_1) rfl ((if0 _ _).trans (tlt hc1_21).2.2.2) kK_) ?_
    refine own_st (A := s₁.setTop (mkF mM 5 #[.val (.int b)] [(.int b)])) (fun tT_ kK_ => XS.iloadN X0.here hx rfl (hb hby d2_4) rfl kK_) ?_
    obtain ⟨T22, X22, e22, st22⟩ := getS2 X0 hx hZ hown (host := "") (Or.inl (hw _ (List.mem_of_getElem? (i := 10) rfl))) Via.refl e0 S_BY (g := (mkF mM 5 #[.val (.int b)] [(.int b)])) rfl (hb hby d2_5)
    refine own_st (A := T22.setTop (mkF mM 8 #[.val (.int b)] [(.ref t), (.int b)])) (fun tT_ kK_ => st22 tT_ kK_) ?_
    refine own_st (A := T22.setTop (mkF mM 9 #[.val (.int b)] [(.int (11 : Int32)), (.int b)])) (fun tT_ kK_ => X22.arraylength hx (by rw [e22]; exact Ar.1) (State.isArrayOf_alike hZ.alike Ar.2.1) (g := (mkF mM 8 #[.val (.int b)] [(.ref t), (.int b)])) rfl rfl (hb hby d2_8) tT_ (by rw [len_of sz (by decide)]; exact kK_)) ?_
    by_cases hc9_23 : b < (11 : Int32)
    · skip
      refine own_st (A := T22.setTop (mkF mM 12 #[.val (.int b)] [])) (fun tT_ kK_ => XS.icmpNo X22.here hx rfl (hb hby d2_9) rfl (tlt hc9_23).2.1 kK_) ?_
      obtain ⟨T24, X24, e24, st24⟩ := getS2 X22 hx hZ hown (host := "") (Or.inl (hw _ (List.mem_of_getElem? (i := 10) rfl))) Via.refl e22 S_BY (g := (mkF mM 12 #[.val (.int b)] [])) rfl (hb hby d2_12)
      refine own_st (A := T24.setTop (mkF mM 15 #[.val (.int b)] [(.ref t)])) (fun tT_ kK_ => st24 tT_ kK_) ?_
      refine own_st (A := T24.setTop (mkF mM 16 #[.val (.int b)] [(.int b), (.ref t)])) (fun tT_ kK_ => XS.iloadN X24.here hx rfl (hb hby d2_15) rfl kK_) ?_
      refine own_st (A := T24.setTop (mkF mM 17 #[.val (.int b)] [w])) (fun tT_ kK_ => X24.aaload hx (j := b) (v := w) (by rw [e24]; exact Ar.1) (State.isArrayOf_alike hZ.alike Ar.2.1) rfl Ar.2.2 (inb_of sz ⟨own_nlt hc1_21, hc9_23⟩) (h_in hc1_21 hc9_23) (g := (mkF mM 16 #[.val (.int b)] [(.int b), (.ref t)])) rfl rfl (hb hby d2_16) tT_ kK_) ?_
      refine own_st (A := T24.setTop (mkF mM 21 #[.val (.int b)] [w])) (fun tT_ kK_ => XS.goto X24.here hx rfl (pc0 := 17) (pc' := 21) rfl (hb hby d2_17) (by decide) (by decide) kK_) ?_
      exact own_retA X24 hx hlk hret rfl hr (hb hby d2_21) ⟨rfl, N0, e24⟩ (by decide) (by decide)
    · skip
      refine own_st (A := T22.setTop (mkF mM 20 #[.val (.int b)] [])) (fun tT_ kK_ => XS.icmpYes X22.here hx rfl (pc0 := 9) (pc' := 20) rfl (hb hby d2_9) rfl (flt hc9_23).2.1 (by decide) (by decide) kK_) ?_
      refine own_st (A := T22.setTop (mkF mM 21 #[.val (.int b)] [.null])) (fun tT_ kK_ => XS.aconstNull X22.here hx rfl (hb hby d2_20) kK_) ?_
      exact own_retA X22 hx hlk hret rfl rfl (hb hby d2_21) (by rw [h_hi hc9_23]; exact ⟨rfl, N0, e22⟩) (by decide) (by decide)
  · skip
    refine own_st (A := s₁.setTop (mkF mM 20 #[.val (.int b)] [])) (fun tT_ kK_ => XS.ifYes X0.here hx rfl (pc0 := 1) (pc' := 20) rfl (hb hby d2_1) rfl ((if0 _ _).trans (flt hc1_21).2.2.2) (by decide) (by decide) kK_) ?_
    refine own_st (A := s₁.setTop (mkF mM 21 #[.val (.int b)] [.null])) (fun tT_ kK_ => XS.aconstNull X0.here hx rfl (hb hby d2_20) kK_) ?_
    exact own_retA X0 hx hlk hret rfl rfl (hb hby d2_21) (by rw [h_lo hc1_21]; exact ⟨rfl, N0, e0⟩) (by decide) (by decide)
theorem d3_0 : decode prog_26_method_4_code 0 = .ok (.aload_n 0, 1) := by decide +kernel
theorem d3_1 : decode prog_26_method_4_code 1 = .ok (.getfield 53, 3) := by decide +kernel
theorem d3_4 : decode prog_26_method_4_code 4 = .ok (.ireturn, 1) := by decide +kernel
theorem ef_rmC (mM : MethodId) (a : Addr) (b : Int32) : entryFrame mM #[(.ref a)] 1 = mkF mM 0 #[.val (.ref a)] [] := by first | (simp [entryFrame, mkF, argsToLocals, Value.category]; done) | rfl
set_option maxRecDepth 65536 in
set_option maxHeartbeats 40000000 in
theorem rmC (lL : Launch) (Z : State) (a0 : Array Value) (hw : ∀ d ∈ tables_1, d.before a0 Z = true) (ws : List Jvm.Cond) (a : Addr) (b : Int32) (h0 : Heap) (n0 : Nat) (F : Fld Z h0 a "com/example/libttl/libttl/LogFormat$Change" "code" "B" (.int b)) (hnar : nar .byte b = b) :
    MetFree lL (⟨"com/example/libttl/libttl/LogFormat$Change", "code", "()B"⟩ : MethodName) (head1 (Jvm.Cond.code (⟨"com/example/libttl/libttl/LogFormat$Change", "code", "()B"⟩ : MethodName) prog_26_method_4_code 1 (some .byte) :: ws) ({ frames := 0, cells := 0, slots := 0, locals := 0 } : Room)) (fun as_ uU_ => as_ = #[(.ref a)] ∧ Z.Warmed39 uU_.vm ∧ uU_.heap = h0) (fun _ _ _ _ _ => True) (fun _ uU_ oO_ uE_ => ∃ vV_ lL_, oO_ = .returned vV_ ∧ Qv (.int b) h0 n0 vV_ uE_.heap lL_ ∧ FrameEnd uU_ oO_ uE_ lL_ ({ frames := 0, cells := 0, slots := 0, locals := 0 } : Room).cells ({ frames := 0, cells := 0, slots := 0, locals := 0 } : Room).slots) := by
  refine MetFree.of_bodySF (plainFor_of_name pn_com_2fexample_2flibttl_2flibttl_2fLogFormat_24Change) hisR ?_
  intro pP eE sS mM args below meth cC s₁ Bd hml0 hP hK
  obtain ⟨rfl, hZ, hh⟩ := hP
  have hx := Bd.exec
  have hby := Bd.bytes
  have hml : cC.maxLocals = 1 := hml0
  have hown : sS.vm.findClass "com/example/libttl/libttl/LogFormat$Change" = some mM.cls := findClass_of_methodNamed Bd.named
  have hnm := (name_of_methodNamed Bd.named Bd.method).1
  have hret := Bd.returns
  have hlk := BodyLoose.notSynchronized Bd
  have X0 : Stand pP lL eE ({ frames := 0, cells := 0, slots := 0, locals := 0 } : Room) sS mM #[(.ref a)] below meth cC s₁ [] 0 0 := Stand.of_body Bd
  have e0 : s₁.heap = h0 := by rw [← hh, Bd.state]; rfl
  have N0 := Fr.nil n0
  show own_Go pP eE below sS (Qv (.int b) h0 n0) 0 0 (s₁.setTop (entryFrame mM #[(.ref a)] 1))
  refine own_st (A := s₁.setTop (mkF mM 0 #[.val (.ref a)] [])) (fun tT_ kK_ => castTop (ef_rmC mM a b) kK_) ?_
  refine own_st (A := s₁.setTop (mkF mM 1 #[.val (.ref a)] [(.ref a)])) (fun tT_ kK_ => XS.aloadN X0.here hx rfl (hb hby d3_0) rfl rfl kK_) ?_
  obtain ⟨T25, X25, e25, st25⟩ := getF X0 hx hZ hown (host := "") (Or.inl (hw _ (List.mem_of_getElem? (i := 17) rfl))) Via.refl e0 F (g := (mkF mM 1 #[.val (.ref a)] [(.ref a)])) rfl rfl (hb hby d3_1)
  refine own_st (A := T25.setTop (mkF mM 4 #[.val (.ref a)] [(.int b)])) (fun tT_ kK_ => st25 tT_ kK_) ?_
  exact own_retN X25 hx hlk (t := .byte) hret (by simp) (hb hby d3_4) (by rw [hnar]; exact ⟨rfl, N0, e25⟩) (by decide) (by decide)
theorem pd__28I_29Lcom_2fexample_2flibttl_2flibttl_2fLogFormat_24Change_3b : parseMethodDescriptor "(I)Lcom/example/libttl/libttl/LogFormat$Change;" = some ⟨[.int], some (.object "com/example/libttl/libttl/LogFormat$Change")⟩ := by decide +kernel
theorem pd__28B_29Lcom_2fexample_2flibttl_2flibttl_2fLogFormat_24Change_3b : parseMethodDescriptor "(B)Lcom/example/libttl/libttl/LogFormat$Change;" = some ⟨[.byte], some (.object "com/example/libttl/libttl/LogFormat$Change")⟩ := by decide +kernel
theorem pd__28_29B : parseMethodDescriptor "()B" = some ⟨[], some .byte⟩ := by decide +kernel
set_option maxRecDepth 65536 in
set_option maxHeartbeats 40000000 in
theorem J3 {pP : Program} {lL : Launch} {eE : Env} {sS : State} {mM : MethodId} {args : Array Value} {below : List Frame} {meth : Method} {cC : Code} {T0 : State} {locs : List Loc} {Z : State} {a0 : Array Value} {h0 : Heap} {n0 : Nat} (hw : ∀ d ∈ tables_1, d.before a0 Z = true) (X0 : Stand pP lL eE room_1 sS mM args below meth cC T0 locs 0 0) (hx : pP.tables.exec = Jvm.exec) (hZ : Z.Warmed39 sS.vm) (hby : cC.code = code) (hml : cC.maxLocals = 4) (hown : sS.vm.findClass "com/example/libttl/libttl/ChangeOfPinLaw" = some mM.cls) (hlk : meth.locks = false) (hret : meth.sig.returnType = ret) (e0 : T0.heap = h0) (N0 : Fr n0 locs) (x0 : Slot) (b : Int32) (a1 : Addr) (a2 : Addr) (a3 : Addr) (a4 : Addr) (a5 : Addr) (a6 : Addr) (a7 : Addr) (a8 : Addr) (a9 : Addr) (a10 : Addr) (t : Addr) (cl : Cell) (w : Value) (S_ENTERED : Sta Z h0 "com/example/libttl/libttl/LogFormat$Change" "ENTERED" "Lcom/example/libttl/libttl/LogFormat$Change;" (.ref a1)) (S_REMOVED : Sta Z h0 "com/example/libttl/libttl/LogFormat$Change" "REMOVED" "Lcom/example/libttl/libttl/LogFormat$Change;" (.ref a2)) (S_MOVED : Sta Z h0 "com/example/libttl/libttl/LogFormat$Change" "MOVED" "Lcom/example/libttl/libttl/LogFormat$Change;" (.ref a3)) (S_DEADLINE_SET : Sta Z h0 "com/example/libttl/libttl/LogFormat$Change" "DEADLINE_SET" "Lcom/example/libttl/libttl/LogFormat$Change;" (.ref a4)) (S_STRING_SET : Sta Z h0 "com/example/libttl/libttl/LogFormat$Change" "STRING_SET" "Lcom/example/libttl/libttl/LogFormat$Change;" (.ref a5)) (S_PUSHED : Sta Z h0 "com/example/libttl/libttl/LogFormat$Change" "PUSHED" "Lcom/example/libttl/libttl/LogFormat$Change;" (.ref a6)) (S_POPPED : Sta Z h0 "com/example/libttl/libttl/LogFormat$Change" "POPPED" "Lcom/example/libttl/libttl/LogFormat$Change;" (.ref a7)) (S_FIELDS_SET : Sta Z h0 "com/example/libttl/libttl/LogFormat$Change" "FIELDS_SET" "Lcom/example/libttl/libttl/LogFormat$Change;" (.ref a8)) (S_FIELDS_REMOVED : Sta Z h0 "com/example/libttl/libttl/LogFormat$Change" "FIELDS_REMOVED" "Lcom/example/libttl/libttl/LogFormat$Change;" (.ref a9)) (S_FLUSHED : Sta Z h0 "com/example/libttl/libttl/LogFormat$Change" "FLUSHED" "Lcom/example/libttl/libttl/LogFormat$Change;" (.ref a10)) (s1 : b = (1 : Int32) → w = .ref a1) (s2 : b = (2 : Int32) → w = .ref a2) (s3 : b = (3 : Int32) → w = .ref a3) (s4 : b = (4 : Int32) → w = .ref a4) (s5 : b = (5 : Int32) → w = .ref a5) (s6 : b = (6 : Int32) → w = .ref a6) (s7 : b = (7 : Int32) → w = .ref a7) (s8 : b = (8 : Int32) → w = .ref a8) (s9 : b = (9 : Int32) → w = .ref a9) (s10 : b = (10 : Int32) → w = .ref a10) (s0 : ¬ b = (1 : Int32) → ¬ b = (2 : Int32) → ¬ b = (3 : Int32) → ¬ b = (4 : Int32) → ¬ b = (5 : Int32) → ¬ b = (6 : Int32) → ¬ b = (7 : Int32) → ¬ b = (8 : Int32) → ¬ b = (9 : Int32) → ¬ b = (10 : Int32) → w = .null) (S_BY : Sta Z h0 "com/example/libttl/libttl/LogFormat$Change" "BY_CODE" "[Lcom/example/libttl/libttl/LogFormat$Change;" (.ref t)) (Ar : Arr Z h0 t cl (.object "com/example/libttl/libttl/LogFormat$Change")) (sz : cl.slots.size = (11 : Int32).toNatClampNeg) (h_in : (0 : Int32) < b → b < (11 : Int32) → cl.slots[b.toNatClampNeg]? = some w) (h_lo : ¬ (0 : Int32) < b → w = .null) (h_hi : ¬ b < (11 : Int32) → w = .null) (hr : w.isRef = true) (hcode : ∀ a, w = .ref a → Exa Z h0 a "com/example/libttl/libttl/LogFormat$Change" ∧ Fld Z h0 a "com/example/libttl/libttl/LogFormat$Change" "code" "B" (.int b) ∧ nar .byte b = b) :
    own_Go pP eE below sS (QLaw n0) 0 0 (T0.setTop (mkF mM 3 #[x0, .val (.int b), .unset, .unset] [])) := by
  refine own_st (A := T0.setTop (mkF mM 4 #[x0, .val (.int b), .unset, .unset] [(.int b)])) (fun tT_ kK_ => XS.iloadN X0.here hx rfl (hb hby at_3) rfl kK_) ?_
  obtain ⟨_, _, ⟨T26, L26, k26, n26⟩, -, X26, ⟨Lc26, hQ26, l26, y26, z26⟩, st26⟩ := Jvm.LawKit.callS X0 hx (y := (⟨"com/example/libttl/libttl/ChangeOfPinLaw", "expected", "(I)Lcom/example/libttl/libttl/LogFormat$Change;"⟩ : MethodName)) hown (mvT hZ (hw _ (List.mem_of_getElem? (i := 0) rfl))) (mvT hZ (hw _ (List.mem_of_getElem? (i := 1) rfl))) (mvT hZ (hw _ (List.mem_of_getElem? (i := 2) rfl))) (mvT hZ (hw _ (List.mem_of_getElem? (i := 3) rfl))) (by decide) (backOf (W := 0) (rmX lL Z a0 hw [] b a1 a2 a3 a4 a5 a6 a7 a8 a9 a10 w h0 n0 S_ENTERED S_REMOVED S_MOVED S_DEADLINE_SET S_STRING_SET S_PUSHED S_POPPED S_FIELDS_SET S_FIELDS_REMOVED S_FLUSHED s1 s2 s3 s4 s5 s6 s7 s8 s9 s10 s0) hZ (hw _ (List.mem_of_getElem? (i := 3) rfl)) (hw _ (List.mem_of_getElem? (i := 2) rfl)) (by decide) (by decide)) (g := (mkF mM 4 #[x0, .val (.int b), .unset, .unset] [(.int b)])) rfl (by rw [hml]; rfl) (argsL := [(.int b)]) (rest := []) (lenOf pd__28I_29Lcom_2fexample_2flibttl_2flibttl_2fLogFormat_24Change_3b rfl) rfl (by show 2 * 0 + _ ≤ _; exact Nat.le_of_eq rfl) (hb hby at_4) (fun _ _ => ⟨rfl, e0, (by decide : 0 + 0 ≤ _), (by decide : 0 + 0 ≤ _)⟩)
  dsimp only [Pt.U, Pt.locs, Pt.cells, Pt.slots] at X26 l26 y26 z26 st26 hQ26
  subst l26 y26 z26
  obtain ⟨rfl, N26q, e26⟩ := hQ26
  have N26 := Fr.app N0 N26q
  refine own_st (A := T26.setTop (mkF mM 7 #[x0, .val (.int b), .unset, .unset] [w])) (fun tT_ kK_ => st26 tT_ kK_) ?_
  refine own_st (A := T26.setTop (mkF mM 8 #[x0, .val (.int b), .val w, .unset] [])) (fun tT_ kK_ => XS.astoreN X26.here hx rfl (hb hby at_7) rfl hr (l' := #[x0, .val (.int b), .val w, .unset]) (by rcases ref_cases hr with hq | ⟨aq, hq⟩ <;> subst hq <;> rfl) kK_) ?_
  refine own_st (A := T26.setTop (mkF mM 9 #[x0, .val (.int b), .val w, .unset] [(.int b)])) (fun tT_ kK_ => XS.iloadN X26.here hx rfl (hb hby at_8) rfl kK_) ?_
  obtain ⟨_, _, ⟨T27, L27, k27, n27⟩, -, X27, ⟨Lc27, hQ27, l27, y27, z27⟩, st27⟩ := Jvm.LawKit.callS X26 hx (y := (⟨"com/example/libttl/libttl/LogFormat$Change", "of", "(B)Lcom/example/libttl/libttl/LogFormat$Change;"⟩ : MethodName)) hown (mvT hZ (hw _ (List.mem_of_getElem? (i := 4) rfl))) (mvT hZ (hw _ (List.mem_of_getElem? (i := 5) rfl))) (mvT hZ (hw _ (List.mem_of_getElem? (i := 6) rfl))) (mvT hZ (hw _ (List.mem_of_getElem? (i := 7) rfl))) (by decide) (backOf (W := 0) (rmO lL Z a0 hw [] b t cl w h0 n0 S_BY Ar sz h_in h_lo h_hi hr) hZ (hw _ (List.mem_of_getElem? (i := 7) rfl)) (hw _ (List.mem_of_getElem? (i := 6) rfl)) (by decide) (by decide)) (g := (mkF mM 9 #[x0, .val (.int b), .val w, .unset] [(.int b)])) rfl (by rw [hml]; rfl) (argsL := [(.int b)]) (rest := []) (lenOf pd__28B_29Lcom_2fexample_2flibttl_2flibttl_2fLogFormat_24Change_3b rfl) rfl (by show 2 * 0 + _ ≤ _; exact Nat.le_of_eq rfl) (hb hby at_9) (fun _ _ => ⟨rfl, e26, (by decide : 0 + 0 ≤ _), (by decide : 0 + 0 ≤ _)⟩)
  dsimp only [Pt.U, Pt.locs, Pt.cells, Pt.slots] at X27 l27 y27 z27 st27 hQ27
  subst l27 y27 z27
  obtain ⟨rfl, N27q, e27⟩ := hQ27
  have N27 := Fr.app N26 N27q
  refine own_st (A := T27.setTop (mkF mM 12 #[x0, .val (.int b), .val w, .unset] [w])) (fun tT_ kK_ => st27 tT_ kK_) ?_
  refine own_st (A := T27.setTop (mkF mM 13 #[x0, .val (.int b), .val w, .val w] [])) (fun tT_ kK_ => XS.astoreN X27.here hx rfl (hb hby at_12) rfl hr (l' := #[x0, .val (.int b), .val w, .val w]) (by rcases ref_cases hr with hq | ⟨aq, hq⟩ <;> subst hq <;> rfl) kK_) ?_
  refine own_st (A := T27.setTop (mkF mM 14 #[x0, .val (.int b), .val w, .val w] [w])) (fun tT_ kK_ => XS.aloadN X27.here hx rfl (hb hby at_13) rfl hr kK_) ?_
  refine own_st (A := T27.setTop (mkF mM 15 #[x0, .val (.int b), .val w, .val w] [w, w])) (fun tT_ kK_ => XS.aloadN X27.here hx rfl (hb hby at_14) rfl hr kK_) ?_
  refine own_st (A := T27.setTop (mkF mM 20 #[x0, .val (.int b), .val w, .val w] [])) (fun tT_ kK_ => Jvm.RoadKit.acmp X27 hx rfl (x := w) (y := w) hr hr (pc0 := 15) (pc' := 20) (same := true) rfl (hb hby at_15) rfl (decide_eq_true rfl) (by decide) (by decide) kK_) ?_
  rcases ref_cases hr with rfl | ⟨a, rfl⟩
  · skip
    refine own_st (A := T27.setTop (mkF mM 21 #[x0, .val (.int b), .val .null, .val .null] [.null])) (fun tT_ kK_ => XS.aloadN X27.here hx rfl (hb hby at_20) rfl rfl kK_) ?_
    refine own_st (A := T27.setTop (mkF mM 32 #[x0, .val (.int b), .val .null, .val .null] [])) (fun tT_ kK_ => XS.ifnullYes X27.here hx rfl (pc0 := 21) (pc' := 32) rfl (hb hby at_21) rfl (by decide) (by decide) kK_) ?_
    refine own_st (A := T27.setTop (mkF mM 33 #[x0, .val (.int b), .val .null, .val .null] [(.int (1 : Int32))])) (fun tT_ kK_ => XS.iconst X27.here hx rfl (hb hby at_32) kK_) ?_
    refine own_st (A := T27.setTop (mkF mM 37 #[x0, .val (.int b), .val .null, .val .null] [(.int (1 : Int32))])) (fun tT_ kK_ => XS.goto X27.here hx rfl (pc0 := 33) (pc' := 37) rfl (hb hby at_33) (by decide) (by decide) kK_) ?_
    exact own_retN X27 hx hlk (t := .boolean) hret (by simp) (hb hby at_37) ⟨rfl, N27⟩ (by decide) (by decide)
  · skip
    refine own_st (A := T27.setTop (mkF mM 21 #[x0, .val (.int b), .val (.ref a), .val (.ref a)] [(.ref a)])) (fun tT_ kK_ => XS.aloadN X27.here hx rfl (hb hby at_20) rfl rfl kK_) ?_
    refine own_st (A := T27.setTop (mkF mM 24 #[x0, .val (.int b), .val (.ref a), .val (.ref a)] [])) (fun tT_ kK_ => XS.ifnullNo X27.here hx rfl (hb hby at_21) rfl kK_) ?_
    refine own_st (A := T27.setTop (mkF mM 25 #[x0, .val (.int b), .val (.ref a), .val (.ref a)] [(.ref a)])) (fun tT_ kK_ => XS.aloadN X27.here hx rfl (hb hby at_24) rfl rfl kK_) ?_
    obtain ⟨cq28, kq28, q28a, q28b, q28c⟩ := isOf hZ e27 (hcode a rfl).1
    obtain ⟨_, _, ⟨T28, L28, k28, n28⟩, -, X28, ⟨Lc28, hQ28, l28, y28, z28⟩, st28⟩ := X27.virtualBack hx (y := (⟨"com/example/libttl/libttl/LogFormat$Change", "code", "()B"⟩ : MethodName)) (z := (⟨"com/example/libttl/libttl/LogFormat$Change", "code", "()B"⟩ : MethodName)) hown (mvT hZ (hw _ (List.mem_of_getElem? (i := 12) rfl))) (mvT hZ (hw _ (List.mem_of_getElem? (i := 13) rfl))) (notFace_of_selects (args := #[]) (mvT hZ (hw _ (List.mem_of_getElem? (i := 15) rfl)))) (mvT hZ (hw _ (List.mem_of_getElem? (i := 15) rfl))) (mvT hZ (hw _ (List.mem_of_getElem? (i := 14) rfl))) (by decide) (backOf (W := 0) (rmC lL Z a0 hw [] a b h0 n0 (hcode a rfl).2.1 (hcode a rfl).2.2) hZ (hw _ (List.mem_of_getElem? (i := 16) rfl)) (hw _ (List.mem_of_getElem? (i := 6) rfl)) (by decide) (by decide)) q28a q28c (g := (mkF mM 25 #[x0, .val (.int b), .val (.ref a), .val (.ref a)] [(.ref a)])) rfl (by rw [hml]; rfl) (Steps.refl _) (argsL := []) (rest := []) (lenOf pd__28_29B rfl) rfl (by show 2 * 0 + _ ≤ _; exact Nat.le_of_eq rfl) (hb hby at_25) (fun _ _ => ⟨rfl, e27, (by decide : 0 + 0 ≤ _), (by decide : 0 + 0 ≤ _)⟩)
    dsimp only [Pt.U, Pt.locs, Pt.cells, Pt.slots] at X28 l28 y28 z28 st28 hQ28
    subst l28 y28 z28
    obtain ⟨rfl, N28q, e28⟩ := hQ28
    have N28 := Fr.app N27 N28q
    refine own_st (A := T28.setTop (mkF mM 28 #[x0, .val (.int b), .val (.ref a), .val (.ref a)] [(.int b)])) (fun tT_ kK_ => st28.trans kK_) ?_
    refine own_st (A := T28.setTop (mkF mM 29 #[x0, .val (.int b), .val (.ref a), .val (.ref a)] [(.int b), (.int b)])) (fun tT_ kK_ => XS.iloadN X28.here hx rfl (hb hby at_28) rfl kK_) ?_
    refine own_st (A := T28.setTop (mkF mM 32 #[x0, .val (.int b), .val (.ref a), .val (.ref a)] [])) (fun tT_ kK_ => XS.icmpNo X28.here hx rfl (hb hby at_29) rfl (teq (rfl : b = b)).2 kK_) ?_
    refine own_st (A := T28.setTop (mkF mM 33 #[x0, .val (.int b), .val (.ref a), .val (.ref a)] [(.int (1 : Int32))])) (fun tT_ kK_ => XS.iconst X28.here hx rfl (hb hby at_32) kK_) ?_
    refine own_st (A := T28.setTop (mkF mM 37 #[x0, .val (.int b), .val (.ref a), .val (.ref a)] [(.int (1 : Int32))])) (fun tT_ kK_ => XS.goto X28.here hx rfl (pc0 := 33) (pc' := 37) rfl (hb hby at_33) (by decide) (by decide) kK_) ?_
    exact own_retN X28 hx hlk (t := .boolean) hret (by simp) (hb hby at_37) ⟨rfl, N28⟩ (by decide) (by decide)
theorem ef_rm0 (mM : MethodId) (x0 : Int32) (a1 : Addr) (a2 : Addr) (a3 : Addr) (a4 : Addr) (a5 : Addr) (a6 : Addr) (a7 : Addr) (a8 : Addr) (a9 : Addr) (a10 : Addr) (t : Addr) (cl : Cell) (w : Value) : entryFrame mM #[(.int x0)] maxLocals = mkF mM 0 #[.val (.int x0), .unset, .unset, .unset] [] := by first | (simp [entryFrame, mkF, argsToLocals, Value.category, maxLocals]; done) | rfl
set_option maxRecDepth 65536 in
set_option maxHeartbeats 40000000 in
theorem rm0 (lL : Launch) (Z : State) (a0 : Array Value) (hw : ∀ d ∈ tables_1, d.before a0 Z = true) (ws : List Jvm.Cond) (x0 : Int32) (a1 : Addr) (a2 : Addr) (a3 : Addr) (a4 : Addr) (a5 : Addr) (a6 : Addr) (a7 : Addr) (a8 : Addr) (a9 : Addr) (a10 : Addr) (t : Addr) (cl : Cell) (w : Value) (h0 : Heap) (n0 : Nat) (S_ENTERED : Sta Z h0 "com/example/libttl/libttl/LogFormat$Change" "ENTERED" "Lcom/example/libttl/libttl/LogFormat$Change;" (.ref a1)) (S_REMOVED : Sta Z h0 "com/example/libttl/libttl/LogFormat$Change" "REMOVED" "Lcom/example/libttl/libttl/LogFormat$Change;" (.ref a2)) (S_MOVED : Sta Z h0 "com/example/libttl/libttl/LogFormat$Change" "MOVED" "Lcom/example/libttl/libttl/LogFormat$Change;" (.ref a3)) (S_DEADLINE_SET : Sta Z h0 "com/example/libttl/libttl/LogFormat$Change" "DEADLINE_SET" "Lcom/example/libttl/libttl/LogFormat$Change;" (.ref a4)) (S_STRING_SET : Sta Z h0 "com/example/libttl/libttl/LogFormat$Change" "STRING_SET" "Lcom/example/libttl/libttl/LogFormat$Change;" (.ref a5)) (S_PUSHED : Sta Z h0 "com/example/libttl/libttl/LogFormat$Change" "PUSHED" "Lcom/example/libttl/libttl/LogFormat$Change;" (.ref a6)) (S_POPPED : Sta Z h0 "com/example/libttl/libttl/LogFormat$Change" "POPPED" "Lcom/example/libttl/libttl/LogFormat$Change;" (.ref a7)) (S_FIELDS_SET : Sta Z h0 "com/example/libttl/libttl/LogFormat$Change" "FIELDS_SET" "Lcom/example/libttl/libttl/LogFormat$Change;" (.ref a8)) (S_FIELDS_REMOVED : Sta Z h0 "com/example/libttl/libttl/LogFormat$Change" "FIELDS_REMOVED" "Lcom/example/libttl/libttl/LogFormat$Change;" (.ref a9)) (S_FLUSHED : Sta Z h0 "com/example/libttl/libttl/LogFormat$Change" "FLUSHED" "Lcom/example/libttl/libttl/LogFormat$Change;" (.ref a10)) (s1 : (((x0).toInt8.toInt32)) = (1 : Int32) → w = .ref a1) (s2 : (((x0).toInt8.toInt32)) = (2 : Int32) → w = .ref a2) (s3 : (((x0).toInt8.toInt32)) = (3 : Int32) → w = .ref a3) (s4 : (((x0).toInt8.toInt32)) = (4 : Int32) → w = .ref a4) (s5 : (((x0).toInt8.toInt32)) = (5 : Int32) → w = .ref a5) (s6 : (((x0).toInt8.toInt32)) = (6 : Int32) → w = .ref a6) (s7 : (((x0).toInt8.toInt32)) = (7 : Int32) → w = .ref a7) (s8 : (((x0).toInt8.toInt32)) = (8 : Int32) → w = .ref a8) (s9 : (((x0).toInt8.toInt32)) = (9 : Int32) → w = .ref a9) (s10 : (((x0).toInt8.toInt32)) = (10 : Int32) → w = .ref a10) (s0 : ¬ (((x0).toInt8.toInt32)) = (1 : Int32) → ¬ (((x0).toInt8.toInt32)) = (2 : Int32) → ¬ (((x0).toInt8.toInt32)) = (3 : Int32) → ¬ (((x0).toInt8.toInt32)) = (4 : Int32) → ¬ (((x0).toInt8.toInt32)) = (5 : Int32) → ¬ (((x0).toInt8.toInt32)) = (6 : Int32) → ¬ (((x0).toInt8.toInt32)) = (7 : Int32) → ¬ (((x0).toInt8.toInt32)) = (8 : Int32) → ¬ (((x0).toInt8.toInt32)) = (9 : Int32) → ¬ (((x0).toInt8.toInt32)) = (10 : Int32) → w = .null) (S_BY : Sta Z h0 "com/example/libttl/libttl/LogFormat$Change" "BY_CODE" "[Lcom/example/libttl/libttl/LogFormat$Change;" (.ref t)) (Ar : Arr Z h0 t cl (.object "com/example/libttl/libttl/LogFormat$Change")) (sz : cl.slots.size = (11 : Int32).toNatClampNeg) (h_in : (0 : Int32) < (((x0).toInt8.toInt32)) → (((x0).toInt8.toInt32)) < (11 : Int32) → cl.slots[(((x0).toInt8.toInt32)).toNatClampNeg]? = some w) (h_lo : ¬ (0 : Int32) < (((x0).toInt8.toInt32)) → w = .null) (h_hi : ¬ (((x0).toInt8.toInt32)) < (11 : Int32) → w = .null) (hr : w.isRef = true) (hcode : ∀ a, w = .ref a → Exa Z h0 a "com/example/libttl/libttl/LogFormat$Change" ∧ Fld Z h0 a "com/example/libttl/libttl/LogFormat$Change" "code" "B" (.int (((x0).toInt8.toInt32))) ∧ nar .byte (((x0).toInt8.toInt32)) = (((x0).toInt8.toInt32))) :
    MetFree lL x (head1 (Jvm.Cond.code x code maxLocals ret :: ws) room_1) (fun as_ uU_ => as_ = #[(.int x0)] ∧ Z.Warmed39 uU_.vm ∧ uU_.heap = h0) (fun _ _ _ _ _ => True) (fun _ uU_ oO_ uE_ => ∃ vV_ lL_, oO_ = .returned vV_ ∧ (fun _ => QLaw) h0 n0 vV_ uE_.heap lL_ ∧ FrameEnd uU_ oO_ uE_ lL_ 0 0) := by
  refine MetFree.of_bodySF (plainFor_of_name pn_com_2fexample_2flibttl_2flibttl_2fChangeOfPinLaw) hisR ?_
  intro pP eE sS mM args below meth cC s₁ Bd hml0 hP hK
  obtain ⟨rfl, hZ, hh⟩ := hP
  have hx := Bd.exec
  have hby := Bd.bytes
  have hml : cC.maxLocals = 4 := hml0
  have hown : sS.vm.findClass "com/example/libttl/libttl/ChangeOfPinLaw" = some mM.cls := findClass_of_methodNamed Bd.named
  have hnm := (name_of_methodNamed Bd.named Bd.method).1
  have hret := Bd.returns
  have hlk := BodyLoose.notSynchronized Bd
  have X0 : Stand pP lL eE room_1 sS mM #[(.int x0)] below meth cC s₁ [] 0 0 := Stand.of_body Bd
  have e0 : s₁.heap = h0 := by rw [← hh, Bd.state]; rfl
  have N0 := Fr.nil n0
  show own_Go pP eE below sS ((fun _ => QLaw) h0 n0) 0 0 (s₁.setTop (entryFrame mM #[(.int x0)] maxLocals))
  refine own_st (A := s₁.setTop (mkF mM 0 #[.val (.int x0), .unset, .unset, .unset] [])) (fun tT_ kK_ => castTop (ef_rm0 mM x0 a1 a2 a3 a4 a5 a6 a7 a8 a9 a10 t cl w) kK_) ?_
  refine own_st (A := s₁.setTop (mkF mM 1 #[.val (.int x0), .unset, .unset, .unset] [(.int x0)])) (fun tT_ kK_ => XS.iloadN X0.here hx rfl (hb hby at_0) rfl kK_) ?_
  refine own_st (A := s₁.setTop (mkF mM 2 #[.val (.int x0), .unset, .unset, .unset] [(.int ((x0).toInt8.toInt32))])) (fun tT_ kK_ => XS.i2b X0.here hx rfl (hb hby at_1) rfl kK_) ?_
  refine own_st (A := s₁.setTop (mkF mM 3 #[.val (.int x0), .val (.int ((x0).toInt8.toInt32)), .unset, .unset] [])) (fun tT_ kK_ => XS.istoreN X0.here hx rfl (hb hby at_2) rfl (l' := #[.val (.int x0), .val (.int ((x0).toInt8.toInt32)), .unset, .unset]) rfl kK_) ?_
  exact J3 hw X0 hx hZ hby hml hown hlk hret e0 N0 _ _ a1 a2 a3 a4 a5 a6 a7 a8 a9 a10 t cl w S_ENTERED S_REMOVED S_MOVED S_DEADLINE_SET S_STRING_SET S_PUSHED S_POPPED S_FIELDS_SET S_FIELDS_REMOVED S_FLUSHED s1 s2 s3 s4 s5 s6 s7 s8 s9 s10 s0 S_BY Ar sz h_in h_lo h_hi hr hcode
theorem own_sel (b : Int32) (a1 : Addr) (a2 : Addr) (a3 : Addr) (a4 : Addr) (a5 : Addr) (a6 : Addr) (a7 : Addr) (a8 : Addr) (a9 : Addr) (a10 : Addr) (cl : Cell) (P : Addr → Prop) (at0 : cl.slots[(0 : Int32).toNatClampNeg]? = some .null) (at1 : cl.slots[(1 : Int32).toNatClampNeg]? = some (.ref a1)) (at2 : cl.slots[(2 : Int32).toNatClampNeg]? = some (.ref a2)) (at3 : cl.slots[(3 : Int32).toNatClampNeg]? = some (.ref a3)) (at4 : cl.slots[(4 : Int32).toNatClampNeg]? = some (.ref a4)) (at5 : cl.slots[(5 : Int32).toNatClampNeg]? = some (.ref a5)) (at6 : cl.slots[(6 : Int32).toNatClampNeg]? = some (.ref a6)) (at7 : cl.slots[(7 : Int32).toNatClampNeg]? = some (.ref a7)) (at8 : cl.slots[(8 : Int32).toNatClampNeg]? = some (.ref a8)) (at9 : cl.slots[(9 : Int32).toNatClampNeg]? = some (.ref a9)) (at10 : cl.slots[(10 : Int32).toNatClampNeg]? = some (.ref a10)) :
    ∃ w : Value, w.isRef = true ∧ (b = (1 : Int32) → w = .ref a1) ∧ (b = (2 : Int32) → w = .ref a2) ∧ (b = (3 : Int32) → w = .ref a3) ∧ (b = (4 : Int32) → w = .ref a4) ∧ (b = (5 : Int32) → w = .ref a5) ∧ (b = (6 : Int32) → w = .ref a6) ∧ (b = (7 : Int32) → w = .ref a7) ∧ (b = (8 : Int32) → w = .ref a8) ∧ (b = (9 : Int32) → w = .ref a9) ∧ (b = (10 : Int32) → w = .ref a10) ∧ (¬ b = (1 : Int32) → ¬ b = (2 : Int32) → ¬ b = (3 : Int32) → ¬ b = (4 : Int32) → ¬ b = (5 : Int32) → ¬ b = (6 : Int32) → ¬ b = (7 : Int32) → ¬ b = (8 : Int32) → ¬ b = (9 : Int32) → ¬ b = (10 : Int32) → w = .null) ∧ ((0 : Int32) < b → b < (11 : Int32) → cl.slots[b.toNatClampNeg]? = some w) ∧ (¬ (0 : Int32) < b → w = .null) ∧ (¬ b < (11 : Int32) → w = .null) ∧ (∀ a, w = .ref a → (b = (1 : Int32) ∧ a = a1) ∨ (b = (2 : Int32) ∧ a = a2) ∨ (b = (3 : Int32) ∧ a = a3) ∨ (b = (4 : Int32) ∧ a = a4) ∨ (b = (5 : Int32) ∧ a = a5) ∨ (b = (6 : Int32) ∧ a = a6) ∨ (b = (7 : Int32) ∧ a = a7) ∨ (b = (8 : Int32) ∧ a = a8) ∨ (b = (9 : Int32) ∧ a = a9) ∨ (b = (10 : Int32) ∧ a = a10)) := by
  by_cases q1 : b = (1 : Int32)
  · subst q1
    exact ⟨.ref a1, rfl, fun _ => rfl, fun q => absurd q (by decide), fun q => absurd q (by decide), fun q => absurd q (by decide), fun q => absurd q (by decide), fun q => absurd q (by decide), fun q => absurd q (by decide), fun q => absurd q (by decide), fun q => absurd q (by decide), fun q => absurd q (by decide), fun q _ _ _ _ _ _ _ _ _ => absurd rfl q, fun _ _ => at1, fun q => absurd (by decide) q, fun q => absurd (by decide) q, fun a q => Or.inl ⟨rfl, (Value.ref.inj q).symm⟩⟩
  by_cases q2 : b = (2 : Int32)
  · subst q2
    exact ⟨.ref a2, rfl, fun q => absurd q (by decide), fun _ => rfl, fun q => absurd q (by decide), fun q => absurd q (by decide), fun q => absurd q (by decide), fun q => absurd q (by decide), fun q => absurd q (by decide), fun q => absurd q (by decide), fun q => absurd q (by decide), fun q => absurd q (by decide), fun _ q _ _ _ _ _ _ _ _ => absurd rfl q, fun _ _ => at2, fun q => absurd (by decide) q, fun q => absurd (by decide) q, fun a q => Or.inr (Or.inl ⟨rfl, (Value.ref.inj q).symm⟩)⟩
  by_cases q3 : b = (3 : Int32)
  · subst q3
    exact ⟨.ref a3, rfl, fun q => absurd q (by decide), fun q => absurd q (by decide), fun _ => rfl, fun q => absurd q (by decide), fun q => absurd q (by decide), fun q => absurd q (by decide), fun q => absurd q (by decide), fun q => absurd q (by decide), fun q => absurd q (by decide), fun q => absurd q (by decide), fun _ _ q _ _ _ _ _ _ _ => absurd rfl q, fun _ _ => at3, fun q => absurd (by decide) q, fun q => absurd (by decide) q, fun a q => Or.inr (Or.inr (Or.inl ⟨rfl, (Value.ref.inj q).symm⟩))⟩
  by_cases q4 : b = (4 : Int32)
  · subst q4
    exact ⟨.ref a4, rfl, fun q => absurd q (by decide), fun q => absurd q (by decide), fun q => absurd q (by decide), fun _ => rfl, fun q => absurd q (by decide), fun q => absurd q (by decide), fun q => absurd q (by decide), fun q => absurd q (by decide), fun q => absurd q (by decide), fun q => absurd q (by decide), fun _ _ _ q _ _ _ _ _ _ => absurd rfl q, fun _ _ => at4, fun q => absurd (by decide) q, fun q => absurd (by decide) q, fun a q => Or.inr (Or.inr (Or.inr (Or.inl ⟨rfl, (Value.ref.inj q).symm⟩)))⟩
  by_cases q5 : b = (5 : Int32)
  · subst q5
    exact ⟨.ref a5, rfl, fun q => absurd q (by decide), fun q => absurd q (by decide), fun q => absurd q (by decide), fun q => absurd q (by decide), fun _ => rfl, fun q => absurd q (by decide), fun q => absurd q (by decide), fun q => absurd q (by decide), fun q => absurd q (by decide), fun q => absurd q (by decide), fun _ _ _ _ q _ _ _ _ _ => absurd rfl q, fun _ _ => at5, fun q => absurd (by decide) q, fun q => absurd (by decide) q, fun a q => Or.inr (Or.inr (Or.inr (Or.inr (Or.inl ⟨rfl, (Value.ref.inj q).symm⟩))))⟩
  by_cases q6 : b = (6 : Int32)
  · subst q6
    exact ⟨.ref a6, rfl, fun q => absurd q (by decide), fun q => absurd q (by decide), fun q => absurd q (by decide), fun q => absurd q (by decide), fun q => absurd q (by decide), fun _ => rfl, fun q => absurd q (by decide), fun q => absurd q (by decide), fun q => absurd q (by decide), fun q => absurd q (by decide), fun _ _ _ _ _ q _ _ _ _ => absurd rfl q, fun _ _ => at6, fun q => absurd (by decide) q, fun q => absurd (by decide) q, fun a q => Or.inr (Or.inr (Or.inr (Or.inr (Or.inr (Or.inl ⟨rfl, (Value.ref.inj q).symm⟩)))))⟩
  by_cases q7 : b = (7 : Int32)
  · subst q7
    exact ⟨.ref a7, rfl, fun q => absurd q (by decide), fun q => absurd q (by decide), fun q => absurd q (by decide), fun q => absurd q (by decide), fun q => absurd q (by decide), fun q => absurd q (by decide), fun _ => rfl, fun q => absurd q (by decide), fun q => absurd q (by decide), fun q => absurd q (by decide), fun _ _ _ _ _ _ q _ _ _ => absurd rfl q, fun _ _ => at7, fun q => absurd (by decide) q, fun q => absurd (by decide) q, fun a q => Or.inr (Or.inr (Or.inr (Or.inr (Or.inr (Or.inr (Or.inl ⟨rfl, (Value.ref.inj q).symm⟩))))))⟩
  by_cases q8 : b = (8 : Int32)
  · subst q8
    exact ⟨.ref a8, rfl, fun q => absurd q (by decide), fun q => absurd q (by decide), fun q => absurd q (by decide), fun q => absurd q (by decide), fun q => absurd q (by decide), fun q => absurd q (by decide), fun q => absurd q (by decide), fun _ => rfl, fun q => absurd q (by decide), fun q => absurd q (by decide), fun _ _ _ _ _ _ _ q _ _ => absurd rfl q, fun _ _ => at8, fun q => absurd (by decide) q, fun q => absurd (by decide) q, fun a q => Or.inr (Or.inr (Or.inr (Or.inr (Or.inr (Or.inr (Or.inr (Or.inl ⟨rfl, (Value.ref.inj q).symm⟩)))))))⟩
  by_cases q9 : b = (9 : Int32)
  · subst q9
    exact ⟨.ref a9, rfl, fun q => absurd q (by decide), fun q => absurd q (by decide), fun q => absurd q (by decide), fun q => absurd q (by decide), fun q => absurd q (by decide), fun q => absurd q (by decide), fun q => absurd q (by decide), fun q => absurd q (by decide), fun _ => rfl, fun q => absurd q (by decide), fun _ _ _ _ _ _ _ _ q _ => absurd rfl q, fun _ _ => at9, fun q => absurd (by decide) q, fun q => absurd (by decide) q, fun a q => Or.inr (Or.inr (Or.inr (Or.inr (Or.inr (Or.inr (Or.inr (Or.inr (Or.inl ⟨rfl, (Value.ref.inj q).symm⟩))))))))⟩
  by_cases q10 : b = (10 : Int32)
  · subst q10
    exact ⟨.ref a10, rfl, fun q => absurd q (by decide), fun q => absurd q (by decide), fun q => absurd q (by decide), fun q => absurd q (by decide), fun q => absurd q (by decide), fun q => absurd q (by decide), fun q => absurd q (by decide), fun q => absurd q (by decide), fun q => absurd q (by decide), fun _ => rfl, fun _ _ _ _ _ _ _ _ _ q  => absurd rfl q, fun _ _ => at10, fun q => absurd (by decide) q, fun q => absurd (by decide) q, fun a q => Or.inr (Or.inr (Or.inr (Or.inr (Or.inr (Or.inr (Or.inr (Or.inr (Or.inr (⟨rfl, (Value.ref.inj q).symm⟩)))))))))⟩
  refine ⟨.null, rfl, fun q => absurd q q1, fun q => absurd q q2, fun q => absurd q q3, fun q => absurd q q4, fun q => absurd q q5, fun q => absurd q q6, fun q => absurd q q7, fun q => absurd q q8, fun q => absurd q q9, fun q => absurd q q10, fun _ _ _ _ _ _ _ _ _ _ => rfl, fun p1 p2 => ?_, fun _ => rfl, fun _ => rfl, fun a q => nomatch q⟩
  exfalso
  rw [Int32.lt_iff_toInt_lt] at p1 p2
  simp only [← Int32.toInt_inj] at q1 q2 q3 q4 q5 q6 q7 q8 q9 q10
  have e0 : (0 : Int32).toInt = 0 := by decide
  have e11 : (11 : Int32).toInt = 11 := by decide
  have e1 : (1 : Int32).toInt = 1 := by decide
  have e2 : (2 : Int32).toInt = 2 := by decide
  have e3 : (3 : Int32).toInt = 3 := by decide
  have e4 : (4 : Int32).toInt = 4 := by decide
  have e5 : (5 : Int32).toInt = 5 := by decide
  have e6 : (6 : Int32).toInt = 6 := by decide
  have e7 : (7 : Int32).toInt = 7 := by decide
  have e8 : (8 : Int32).toInt = 8 := by decide
  have e9 : (9 : Int32).toInt = 9 := by decide
  have e10 : (10 : Int32).toInt = 10 := by decide
  omega
set_option maxRecDepth 65536 in
set_option maxHeartbeats 40000000 in
theorem comes_1 {Post : Tables → Env → Array Value → State → Outcome → State → Prop} (hpost : ∀ tb e args s v u, (limb_1_1.after args s (.returned v) u = true ∧ limb_1_2.after args s (.returned v) u = true ∧ True) → FrameEnd s (.returned v) u (Jvm.fieldLocs frame_1_writes args s ++ Jvm.arrayLocs frame_1_arrays args s ++ Jvm.staticLocs frame_1_statics s) 0 0 → Post tb e args s (.returned v) u) :
    ArmFor flags0 classFile x code maxLocals ret World_1 tables_1 room_1 Calls_1 rest_1 Pre_1 Post := by
  intro l hfl _ _ p e ha hc hk s m args below hf hA hF happ hP
  obtain ⟨hcalls, hrest, hpre⟩ := hP
  obtain ⟨-, -, -, hnamed, -, -, -, hat⟩ := (Spec.applies_iff hf).mp happ
  obtain ⟨hg, hn⟩ := and_e (Cond.before_iff.mp (show (Jvm.Cond.and given_1 narrow_1).before args s = true from hpre))
  obtain ⟨h1, hg1⟩ := and_e hg
  obtain ⟨w0, rfl⟩ : ∃ w0 : Value, args = #[w0] := by
    have hs : args.size = 1 := by simpa [Cond.value, given_1] using h1
    obtain ⟨L⟩ := args
    match L, hs with
    | [w0], _ => exact ⟨w0, rfl⟩
  have hw := fun d (hd : d ∈ tables_1) => atoms_spec (ws := Jvm.Cond.code x code maxLocals ret :: tables_1) hat d (List.mem_cons_of_mem _ hd)
  have hfit : Fit s := fun {y c} hc i hi => by
    obtain ⟨ha, rfl⟩ := Array.getElem?_eq_some_iff.mp hc
    have q := List.all_eq_true.mp ((Array.all_eq_true_iff_forall_mem.mp hF) _ (Array.getElem_mem ha)) i (List.mem_range.mpr hi)
    simpa [Array.getElem?_eq_getElem hi] using q
  have g0 := hg1
  obtain ⟨i0, e0⟩ := is_v g0
  obtain rfl : w0 = (.int i0) := Option.some.inj e0
  have hn : narrow_1.value _ s none s [] = some true := hn
  obtain ⟨c0, hn⟩ := and_e hn
  obtain ⟨c1, hn⟩ := and_e hn
  obtain ⟨c2, hn⟩ := and_e hn
  obtain ⟨c3, hn⟩ := and_e hn
  obtain ⟨c4, hn⟩ := and_e hn
  obtain ⟨c5, hn⟩ := and_e hn
  obtain ⟨c6, hn⟩ := and_e hn
  obtain ⟨c7, hn⟩ := and_e hn
  obtain ⟨c8, hn⟩ := and_e hn
  obtain ⟨c9, hn⟩ := and_e hn
  obtain ⟨c10, hn⟩ := and_e hn
  obtain ⟨c11, hn⟩ := and_e hn
  obtain ⟨c12, hn⟩ := and_e hn
  obtain ⟨c13, hn⟩ := and_e hn
  obtain ⟨c14, hn⟩ := and_e hn
  obtain ⟨c15, hn⟩ := and_e hn
  obtain ⟨c16, hn⟩ := and_e hn
  obtain ⟨c17, hn⟩ := and_e hn
  obtain ⟨c18, hn⟩ := and_e hn
  obtain ⟨c19, hn⟩ := and_e hn
  obtain ⟨c20, hn⟩ := and_e hn
  obtain ⟨c21, hn⟩ := and_e hn
  obtain ⟨c22, hn⟩ := and_e hn
  obtain ⟨c23, hn⟩ := and_e hn
  obtain ⟨c24, hn⟩ := and_e hn
  obtain ⟨c25, hn⟩ := and_e hn
  obtain ⟨c26, hn⟩ := and_e hn
  obtain ⟨c27, hn⟩ := and_e hn
  obtain ⟨c28, hn⟩ := and_e hn
  obtain ⟨c29, hn⟩ := and_e hn
  obtain ⟨c30, hn⟩ := and_e hn
  obtain ⟨c31, hn⟩ := and_e hn
  have c32 := hn
  obtain ⟨a_MOVED, ev_MOVED⟩ := exa_v c0
  have st_MOVED := Sta.start ev_MOVED (Or.inr ⟨(hw _ (List.mem_of_getElem? (i := 6) rfl)), (hw _ (List.mem_of_getElem? (i := 9) rfl))⟩)
  have ex_MOVED := Exa.start ev_MOVED c0
  obtain ⟨a_POPPED, ev_POPPED⟩ := exa_v c5
  have st_POPPED := Sta.start ev_POPPED (Or.inr ⟨(hw _ (List.mem_of_getElem? (i := 6) rfl)), (hw _ (List.mem_of_getElem? (i := 20) rfl))⟩)
  have ex_POPPED := Exa.start ev_POPPED c5
  obtain ⟨a_REMOVED, ev_REMOVED⟩ := exa_v c8
  have st_REMOVED := Sta.start ev_REMOVED (Or.inr ⟨(hw _ (List.mem_of_getElem? (i := 6) rfl)), (hw _ (List.mem_of_getElem? (i := 22) rfl))⟩)
  have ex_REMOVED := Exa.start ev_REMOVED c8
  obtain ⟨a_FIELDS_SET, ev_FIELDS_SET⟩ := exa_v c11
  have st_FIELDS_SET := Sta.start ev_FIELDS_SET (Or.inr ⟨(hw _ (List.mem_of_getElem? (i := 6) rfl)), (hw _ (List.mem_of_getElem? (i := 24) rfl))⟩)
  have ex_FIELDS_SET := Exa.start ev_FIELDS_SET c11
  obtain ⟨a_ENTERED, ev_ENTERED⟩ := exa_v c14
  have st_ENTERED := Sta.start ev_ENTERED (Or.inr ⟨(hw _ (List.mem_of_getElem? (i := 6) rfl)), (hw _ (List.mem_of_getElem? (i := 26) rfl))⟩)
  have ex_ENTERED := Exa.start ev_ENTERED c14
  obtain ⟨a_FLUSHED, ev_FLUSHED⟩ := exa_v c17
  have st_FLUSHED := Sta.start ev_FLUSHED (Or.inr ⟨(hw _ (List.mem_of_getElem? (i := 6) rfl)), (hw _ (List.mem_of_getElem? (i := 28) rfl))⟩)
  have ex_FLUSHED := Exa.start ev_FLUSHED c17
  obtain ⟨a_PUSHED, ev_PUSHED⟩ := exa_v c20
  have st_PUSHED := Sta.start ev_PUSHED (Or.inr ⟨(hw _ (List.mem_of_getElem? (i := 6) rfl)), (hw _ (List.mem_of_getElem? (i := 30) rfl))⟩)
  have ex_PUSHED := Exa.start ev_PUSHED c20
  obtain ⟨a_FIELDS_REMOVED, ev_FIELDS_REMOVED⟩ := exa_v c23
  have st_FIELDS_REMOVED := Sta.start ev_FIELDS_REMOVED (Or.inr ⟨(hw _ (List.mem_of_getElem? (i := 6) rfl)), (hw _ (List.mem_of_getElem? (i := 32) rfl))⟩)
  have ex_FIELDS_REMOVED := Exa.start ev_FIELDS_REMOVED c23
  obtain ⟨a_STRING_SET, ev_STRING_SET⟩ := exa_v c26
  have st_STRING_SET := Sta.start ev_STRING_SET (Or.inr ⟨(hw _ (List.mem_of_getElem? (i := 6) rfl)), (hw _ (List.mem_of_getElem? (i := 34) rfl))⟩)
  have ex_STRING_SET := Exa.start ev_STRING_SET c26
  obtain ⟨a_DEADLINE_SET, ev_DEADLINE_SET⟩ := exa_v c29
  have st_DEADLINE_SET := Sta.start ev_DEADLINE_SET (Or.inr ⟨(hw _ (List.mem_of_getElem? (i := 6) rfl)), (hw _ (List.mem_of_getElem? (i := 36) rfl))⟩)
  have ex_DEADLINE_SET := Exa.start ev_DEADLINE_SET c29
  obtain ⟨a_BY_CODE, ev_BY_CODE⟩ := arr_v c1
  have st_BY_CODE := Sta.start ev_BY_CODE (Or.inr ⟨(hw _ (List.mem_of_getElem? (i := 6) rfl)), (hw _ (List.mem_of_getElem? (i := 11) rfl))⟩)
  obtain ⟨cl_BY_CODE, ar_BY_CODE⟩ := Arr.start ev_BY_CODE c1
  have ln_BY_CODE := own_len ev_BY_CODE ar_BY_CODE c2
  have el_BY_CODE_3 := own_elemR ev_BY_CODE ar_BY_CODE ev_MOVED c3
  have fd_MOVED_code := own_fldI ev_MOVED c4
  have el_BY_CODE_7 := own_elemR ev_BY_CODE ar_BY_CODE ev_POPPED c6
  have fd_POPPED_code := own_fldI ev_POPPED c7
  have el_BY_CODE_2 := own_elemR ev_BY_CODE ar_BY_CODE ev_REMOVED c9
  have fd_REMOVED_code := own_fldI ev_REMOVED c10
  have el_BY_CODE_8 := own_elemR ev_BY_CODE ar_BY_CODE ev_FIELDS_SET c12
  have fd_FIELDS_SET_code := own_fldI ev_FIELDS_SET c13
  have el_BY_CODE_1 := own_elemR ev_BY_CODE ar_BY_CODE ev_ENTERED c15
  have fd_ENTERED_code := own_fldI ev_ENTERED c16
  have el_BY_CODE_10 := own_elemR ev_BY_CODE ar_BY_CODE ev_FLUSHED c18
  have fd_FLUSHED_code := own_fldI ev_FLUSHED c19
  have el_BY_CODE_6 := own_elemR ev_BY_CODE ar_BY_CODE ev_PUSHED c21
  have fd_PUSHED_code := own_fldI ev_PUSHED c22
  have el_BY_CODE_9 := own_elemR ev_BY_CODE ar_BY_CODE ev_FIELDS_REMOVED c24
  have fd_FIELDS_REMOVED_code := own_fldI ev_FIELDS_REMOVED c25
  have el_BY_CODE_5 := own_elemR ev_BY_CODE ar_BY_CODE ev_STRING_SET c27
  have fd_STRING_SET_code := own_fldI ev_STRING_SET c28
  have el_BY_CODE_4 := own_elemR ev_BY_CODE ar_BY_CODE ev_DEADLINE_SET c30
  have fd_DEADLINE_SET_code := own_fldI ev_DEADLINE_SET c31
  have el_BY_CODE_0 := own_elemN ev_BY_CODE ar_BY_CODE c32
  obtain ⟨w, hr, s1, s2, s3, s4, s5, s6, s7, s8, s9, s10, s0, h_in, h_lo, h_hi, hco⟩ := own_sel (((i0).toInt8.toInt32)) a_ENTERED a_REMOVED a_MOVED a_DEADLINE_SET a_STRING_SET a_PUSHED a_POPPED a_FIELDS_SET a_FIELDS_REMOVED a_FLUSHED cl_BY_CODE (fun _ => True) el_BY_CODE_0 el_BY_CODE_1 el_BY_CODE_2 el_BY_CODE_3 el_BY_CODE_4 el_BY_CODE_5 el_BY_CODE_6 el_BY_CODE_7 el_BY_CODE_8 el_BY_CODE_9 el_BY_CODE_10
  have sz : cl_BY_CODE.slots.size = (11 : Int32).toNatClampNeg := by
    rw [← ln_BY_CODE.2]; simp only [Int32.toNatClampNeg, len_toInt ln_BY_CODE.1]; rfl
  have hcode : ∀ a, w = .ref a → Exa s s.heap a "com/example/libttl/libttl/LogFormat$Change" ∧ Fld s s.heap a "com/example/libttl/libttl/LogFormat$Change" "code" "B" (.int (((i0).toInt8.toInt32))) ∧ nar .byte (((i0).toInt8.toInt32)) = (((i0).toInt8.toInt32)) := by
    intro a q
    rcases hco a q with ⟨q1, rfl⟩ | ⟨q1, rfl⟩ | ⟨q1, rfl⟩ | ⟨q1, rfl⟩ | ⟨q1, rfl⟩ | ⟨q1, rfl⟩ | ⟨q1, rfl⟩ | ⟨q1, rfl⟩ | ⟨q1, rfl⟩ | ⟨q1, rfl⟩
    · rw [q1]; exact ⟨ex_ENTERED, fd_ENTERED_code, by decide⟩
    · rw [q1]; exact ⟨ex_REMOVED, fd_REMOVED_code, by decide⟩
    · rw [q1]; exact ⟨ex_MOVED, fd_MOVED_code, by decide⟩
    · rw [q1]; exact ⟨ex_DEADLINE_SET, fd_DEADLINE_SET_code, by decide⟩
    · rw [q1]; exact ⟨ex_STRING_SET, fd_STRING_SET_code, by decide⟩
    · rw [q1]; exact ⟨ex_PUSHED, fd_PUSHED_code, by decide⟩
    · rw [q1]; exact ⟨ex_POPPED, fd_POPPED_code, by decide⟩
    · rw [q1]; exact ⟨ex_FIELDS_SET, fd_FIELDS_SET_code, by decide⟩
    · rw [q1]; exact ⟨ex_FIELDS_REMOVED, fd_FIELDS_REMOVED_code, by decide⟩
    · rw [q1]; exact ⟨ex_FLUSHED, fd_FLUSHED_code, by decide⟩
  obtain ⟨n, o, h1, h2, h3, _, L, rfl, ⟨rfl, N⟩, hq⟩ := rm0 l s _ hw tables_1 i0 a_ENTERED a_REMOVED a_MOVED a_DEADLINE_SET a_STRING_SET a_PUSHED a_POPPED a_FIELDS_SET a_FIELDS_REMOVED a_FLUSHED a_BY_CODE cl_BY_CODE w s.heap s.heap.size st_ENTERED st_REMOVED st_MOVED st_DEADLINE_SET st_STRING_SET st_PUSHED st_POPPED st_FIELDS_SET st_FIELDS_REMOVED st_FLUSHED s1 s2 s3 s4 s5 s6 s7 s8 s9 s10 s0 st_BY_CODE ar_BY_CODE sz h_in h_lo h_hi hr hcode p e ha hc hk s m _ below hf ((Spec.applies_iff_loose hf).mp happ).1 ⟨rfl, State.Warmed39.refl s, rfl⟩ trivial
  refine ⟨n, _, h1, h2, h3, hpost _ _ _ _ _ _ ⟨Cond.after_iff.mpr rfl, Cond.after_iff.mpr (eq_i res_at (Term.int_eval (1)) rfl), trivial⟩ ⟨hq.1, hq.2.1, (hq.2.2.sift fun y hy => Or.inr (N y hy)).mono (by decide) (by decide)⟩⟩
theorem main_1_1 : Claimed_1_1 := comes_1 fun _ _ _ _ _ _ h hF => ⟨h.1, hF⟩
theorem main_1_2 : Claimed_1_2 := comes_1 fun _ _ _ _ _ _ h hF => ⟨h.2.1, hF⟩
end Jvm.Pilot.@@N@@
namespace Jvm.Pilot.@@N@@
open Jvm Jvm.ClassFile Sem Op Lib Jvm.Free Jvm.Stand Jvm.Pilot.@@N@@.Jvm.D
/-! MADE BY PROGRAM (witnessworld.py) out of the Statement's table words and the real class files: 13 classes; the members and pool entries that the words name. The judged class is class 1, her method 2. -/
namespace start1
open Jvm.ClassFile
def u (s : String) : CpInfo := .utf8 (stringToUtf16 s)
/-- a pool by its gaps: so many unusable entries, then the entry; so many at the end -/
def gap : Nat → List CpInfo → List CpInfo
  | 0, r => r
  | n + 1, r => .unusable :: gap n r
def poolList (es : List (Nat × CpInfo)) (last : Nat) : List CpInfo := es.foldr (fun e r => gap e.1 (e.2 :: r)) (gap last [])
def pool (es : List (Nat × CpInfo)) (last : Nat) : Array CpInfo := ⟨poolList es last⟩
def fileOf (pool : Array CpInfo) (this : Nat) (attrs : Array Attribute := #[]) (ms : Array MethodInfo := #[]) (fl : Nat := 33) (sup : Nat := 0) (ifs : Array Nat := #[]) (fds : Array FieldInfo := #[]) : ClassFile where
  minorVersion := 0
  majorVersion := 65
  constantPool := pool
  accessFlags := fl
  thisClass := this
  superClass := sup
  interfaces := ifs
  fields := fds
  methods := ms
  attributes := attrs
def plain (name : String) (sup : Option ClassId) : Class where
  name := name
  kind := .ordinary
  loader := none
  accessFlags := 33
  super := sup
  interfaces := #[]
  cf := none
  fields := #[]
  methods := #[]
  instanceTypes := #[]
  staticTypes := #[]
  resolved := #[]
  callSites := []
  init := .initialized
  statics := none
  mirror := none

def pool0 : Array CpInfo := pool [(5, u "<init>"), (0, u "()V"), (1, .class_ 10), (1, u "java/lang/Object")] 113

def k0m0 : Method := { name := "<init>", desc := "()V", sig := { parameters := [], returnType := none }, accessFlags := 1, code := none }
/-- java/lang/Object -/
def k0 : Class := { plain "java/lang/Object" none with
  accessFlags := 33
  interfaces := #[]
  cf := some (fileOf pool0 8 #[] #[{ accessFlags := 1, nameIndex := 5, descriptorIndex := 6, attributes := #[] }] 33 0 #[] #[])
  fields := #[]
  methods := #[k0m0]
  instanceTypes := #[]
  staticTypes := #[]
  resolved := Array.replicate 124 none
  statics := none }

def pool1 : Array CpInfo := pool [(2, .class_ 4), (1, u "java/lang/Object"), (0, u "<init>"), (0, u "()V"), (0, .fieldref 8 9), (0, .class_ 10), (0, .nameAndType 11 12), (0, u "com/example/libttl/libttl/LogFormat$Change"), (0, u "ENTERED"), (0, u "Lcom/example/libttl/libttl/LogFormat$Change;"), (0, .fieldref 8 14), (0, .nameAndType 15 12), (0, u "REMOVED"), (0, .fieldref 8 17), (0, .nameAndType 18 12), (0, u "MOVED"), (0, .fieldref 8 20), (0, .nameAndType 21 12), (0, u "DEADLINE_SET"), (0, .fieldref 8 23), (0, .nameAndType 24 12), (0, u "STRING_SET"), (0, .fieldref 8 26), (0, .nameAndType 27 12), (0, u "PUSHED"), (0, .fieldref 8 29), (0, .nameAndType 30 12), (0, u "POPPED"), (0, .fieldref 8 32), (0, .nameAndType 33 12), (0, u "FIELDS_SET"), (0, .fieldref 8 35), (0, .nameAndType 36 12), (0, u "FIELDS_REMOVED"), (0, .fieldref 8 38), (0, .nameAndType 39 12), (0, u "FLUSHED"), (0, .methodref 41 42), (0, .class_ 43), (0, .nameAndType 44 45), (0, u "com/example/libttl/libttl/ChangeOfPinLaw"), (0, u "expected"), (0, u "(I)Lcom/example/libttl/libttl/LogFormat$Change;"), (0, .methodref 8 47), (0, .nameAndType 48 49), (0, u "of"), (0, u "(B)Lcom/example/libttl/libttl/LogFormat$Change;"), (0, .methodref 8 51), (0, .nameAndType 52 53), (0, u "code"), (0, u "()B"), (3, u "law"), (0, u "(I)Z")] 6

def k1m0 : Method := { name := "<init>", desc := "()V", sig := { parameters := [], returnType := none }, accessFlags := 2, code := none }
def k1c1 : Code := { maxStack := 2, maxLocals := 1, code := method_2_code, exceptionTable := #[], attributes := #[] }
def k1m1 : Method := { name := "expected", desc := "(I)Lcom/example/libttl/libttl/LogFormat$Change;", sig := { parameters := [.int], returnType := some (.object "com/example/libttl/libttl/LogFormat$Change") }, accessFlags := 10, code := some k1c1 }
def k1c2 : Code := { maxStack := 2, maxLocals := 4, code := code, exceptionTable := #[], attributes := #[] }
def k1m2 : Method := { name := "law", desc := "(I)Z", sig := { parameters := [.int], returnType := some .boolean }, accessFlags := 9, code := some k1c2 }
/-- com/example/libttl/libttl/ChangeOfPinLaw -/
def k1 : Class := { plain "com/example/libttl/libttl/ChangeOfPinLaw" (some 0) with
  accessFlags := 49
  interfaces := #[]
  cf := some (fileOf pool1 41 #[] #[{ accessFlags := 2, nameIndex := 5, descriptorIndex := 6, attributes := #[] }, { accessFlags := 10, nameIndex := 44, descriptorIndex := 45, attributes := #[] }, { accessFlags := 9, nameIndex := 57, descriptorIndex := 58, attributes := #[] }] 49 2 #[] #[])
  fields := #[]
  methods := #[k1m0, k1m1, k1m2]
  instanceTypes := #[]
  staticTypes := #[]
  resolved := Array.replicate 65 none
  statics := none }

def pool2 : Array CpInfo := pool [(1, .class_ 2), (0, u "java/lang/constant/Constable"), (0, .class_ 4), (0, u "java/lang/Object")] 6

/-- java/lang/constant/Constable -/
def k2 : Class := { plain "java/lang/constant/Constable" (some 0) with
  accessFlags := 1537
  interfaces := #[]
  cf := some (fileOf pool2 1 #[] #[] 1537 3 #[] #[])
  fields := #[]
  methods := #[]
  instanceTypes := #[]
  staticTypes := #[]
  resolved := Array.replicate 11 none
  statics := none }

def pool3 : Array CpInfo := pool [(1, .class_ 2), (0, u "java/lang/Comparable"), (0, .class_ 4), (0, u "java/lang/Object")] 7

/-- java/lang/Comparable -/
def k3 : Class := { plain "java/lang/Comparable" (some 0) with
  accessFlags := 1537
  interfaces := #[]
  cf := some (fileOf pool3 1 #[] #[] 1537 3 #[] #[])
  fields := #[]
  methods := #[]
  instanceTypes := #[]
  staticTypes := #[]
  resolved := Array.replicate 12 none
  statics := none }

def pool4 : Array CpInfo := pool [(1, .class_ 2), (0, u "java/io/Serializable"), (0, .class_ 4), (0, u "java/lang/Object")] 2

/-- java/io/Serializable -/
def k4 : Class := { plain "java/io/Serializable" (some 0) with
  accessFlags := 1537
  interfaces := #[]
  cf := some (fileOf pool4 1 #[] #[] 1537 3 #[] #[])
  fields := #[]
  methods := #[]
  instanceTypes := #[]
  staticTypes := #[]
  resolved := Array.replicate 7 none
  statics := none }

def pool5 : Array CpInfo := pool [(2, .class_ 4), (1, u "java/lang/Enum"), (0, u "name"), (0, u "Ljava/lang/String;"), (2, u "ordinal"), (0, u "I"), (1, .class_ 14), (1, u "java/lang/Object"), (4, u "hash"), (86, .class_ 108), (1, u "java/lang/Enum$EnumDesc"), (2, .class_ 112), (0, u "java/lang/constant/Constable"), (0, .class_ 114), (0, u "java/lang/Comparable"), (0, .class_ 116), (0, u "java/io/Serializable")] 87

/-- java/lang/Enum -/
def k5 : Class := { plain "java/lang/Enum" (some 0) with
  accessFlags := 1057
  interfaces := #[2, 3, 4]
  cf := some (fileOf pool5 2 #[.nestMembers #[106]] #[] 1057 12 #[111, 113, 115] #[{ accessFlags := 18, nameIndex := 5, descriptorIndex := 6, attributes := #[] }, { accessFlags := 18, nameIndex := 9, descriptorIndex := 10, attributes := #[] }, { accessFlags := 2, nameIndex := 19, descriptorIndex := 10, attributes := #[] }])
  fields := #[{ name := "name", type := (.object "java/lang/String"), accessFlags := 18, slot := 0, constantValue := 0 }, { name := "ordinal", type := .int, accessFlags := 18, slot := 1, constantValue := 0 }, { name := "hash", type := .int, accessFlags := 2, slot := 2, constantValue := 0 }]
  methods := #[]
  instanceTypes := #[(.object "java/lang/String"), .int, .int]
  staticTypes := #[]
  resolved := Array.replicate 204 none
  statics := none }

def pool6 : Array CpInfo := pool [(1, .class_ 2), (0, u "com/example/libttl/libttl/LogFormat$Change"), (2, u "ENTERED"), (0, u "Lcom/example/libttl/libttl/LogFormat$Change;"), (2, u "REMOVED"), (2, u "MOVED"), (2, u "DEADLINE_SET"), (2, u "STRING_SET"), (2, u "PUSHED"), (2, u "POPPED"), (2, u "FIELDS_SET"), (2, u "FIELDS_REMOVED"), (2, u "FLUSHED"), (2, u "$VALUES"), (0, u "[Lcom/example/libttl/libttl/LogFormat$Change;"), (6, .class_ 46), (1, u "java/lang/Enum"), (6, .fieldref 1 54), (0, .nameAndType 55 56), (0, u "code"), (0, u "B"), (0, .fieldref 1 58), (0, .nameAndType 59 37), (0, u "BY_CODE"), (26, u "()B"), (0, u "of"), (0, u "(B)Lcom/example/libttl/libttl/LogFormat$Change;"), (7, .class_ 97), (0, u "com/example/libttl/libttl/LogFormat")] 2

def k6c0 : Code := { maxStack := 1, maxLocals := 1, code := prog_26_method_4_code, exceptionTable := #[], attributes := #[] }
def k6m0 : Method := { name := "code", desc := "()B", sig := { parameters := [], returnType := some .byte }, accessFlags := 0, code := some k6c0 }
def k6c1 : Code := { maxStack := 2, maxLocals := 1, code := prog_26_method_5_code, exceptionTable := #[], attributes := #[] }
def k6m1 : Method := { name := "of", desc := "(B)Lcom/example/libttl/libttl/LogFormat$Change;", sig := { parameters := [.byte], returnType := some (.object "com/example/libttl/libttl/LogFormat$Change") }, accessFlags := 8, code := some k6c1 }
/-- com/example/libttl/libttl/LogFormat$Change -/
def k6 : Class := { plain "com/example/libttl/libttl/LogFormat$Change" (some 5) with
  accessFlags := 16432
  interfaces := #[]
  cf := some (fileOf pool6 1 #[.nestHost 96] #[{ accessFlags := 0, nameIndex := 55, descriptorIndex := 86, attributes := #[] }, { accessFlags := 8, nameIndex := 87, descriptorIndex := 88, attributes := #[] }] 16432 44 #[] #[{ accessFlags := 16409, nameIndex := 5, descriptorIndex := 6, attributes := #[] }, { accessFlags := 16409, nameIndex := 9, descriptorIndex := 6, attributes := #[] }, { accessFlags := 16409, nameIndex := 12, descriptorIndex := 6, attributes := #[] }, { accessFlags := 16409, nameIndex := 15, descriptorIndex := 6, attributes := #[] }, { accessFlags := 16409, nameIndex := 18, descriptorIndex := 6, attributes := #[] }, { accessFlags := 16409, nameIndex := 21, descriptorIndex := 6, attributes := #[] }, { accessFlags := 16409, nameIndex := 24, descriptorIndex := 6, attributes := #[] }, { accessFlags := 16409, nameIndex := 27, descriptorIndex := 6, attributes := #[] }, { accessFlags := 16409, nameIndex := 30, descriptorIndex := 6, attributes := #[] }, { accessFlags := 16409, nameIndex := 33, descriptorIndex := 6, attributes := #[] }, { accessFlags := 26, nameIndex := 59, descriptorIndex := 37, attributes := #[] }, { accessFlags := 18, nameIndex := 55, descriptorIndex := 56, attributes := #[] }, { accessFlags := 4122, nameIndex := 36, descriptorIndex := 37, attributes := #[] }])
  fields := #[{ name := "ENTERED", type := (.object "com/example/libttl/libttl/LogFormat$Change"), accessFlags := 16409, slot := 0, constantValue := 0 }, { name := "REMOVED", type := (.object "com/example/libttl/libttl/LogFormat$Change"), accessFlags := 16409, slot := 1, constantValue := 0 }, { name := "MOVED", type := (.object "com/example/libttl/libttl/LogFormat$Change"), accessFlags := 16409, slot := 2, constantValue := 0 }, { name := "DEADLINE_SET", type := (.object "com/example/libttl/libttl/LogFormat$Change"), accessFlags := 16409, slot := 3, constantValue := 0 }, { name := "STRING_SET", type := (.object "com/example/libttl/libttl/LogFormat$Change"), accessFlags := 16409, slot := 4, constantValue := 0 }, { name := "PUSHED", type := (.object "com/example/libttl/libttl/LogFormat$Change"), accessFlags := 16409, slot := 5, constantValue := 0 }, { name := "POPPED", type := (.object "com/example/libttl/libttl/LogFormat$Change"), accessFlags := 16409, slot := 6, constantValue := 0 }, { name := "FIELDS_SET", type := (.object "com/example/libttl/libttl/LogFormat$Change"), accessFlags := 16409, slot := 7, constantValue := 0 }, { name := "FIELDS_REMOVED", type := (.object "com/example/libttl/libttl/LogFormat$Change"), accessFlags := 16409, slot := 8, constantValue := 0 }, { name := "FLUSHED", type := (.object "com/example/libttl/libttl/LogFormat$Change"), accessFlags := 16409, slot := 9, constantValue := 0 }, { name := "BY_CODE", type := (.array (.object "com/example/libttl/libttl/LogFormat$Change")), accessFlags := 26, slot := 10, constantValue := 0 }, { name := "code", type := .byte, accessFlags := 18, slot := 3, constantValue := 0 }, { name := "$VALUES", type := (.array (.object "com/example/libttl/libttl/LogFormat$Change")), accessFlags := 4122, slot := 11, constantValue := 0 }]
  methods := #[k6m0, k6m1]
  instanceTypes := #[(.object "java/lang/String"), .int, .int, .byte]
  staticTypes := #[(.object "com/example/libttl/libttl/LogFormat$Change"), (.object "com/example/libttl/libttl/LogFormat$Change"), (.object "com/example/libttl/libttl/LogFormat$Change"), (.object "com/example/libttl/libttl/LogFormat$Change"), (.object "com/example/libttl/libttl/LogFormat$Change"), (.object "com/example/libttl/libttl/LogFormat$Change"), (.object "com/example/libttl/libttl/LogFormat$Change"), (.object "com/example/libttl/libttl/LogFormat$Change"), (.object "com/example/libttl/libttl/LogFormat$Change"), (.object "com/example/libttl/libttl/LogFormat$Change"), (.array (.object "com/example/libttl/libttl/LogFormat$Change")), (.array (.object "com/example/libttl/libttl/LogFormat$Change"))]
  resolved := Array.replicate 100 none
  statics := some 0 }

def pool7 : Array CpInfo := pool [(1, u "java/lang/Cloneable"), (0, .class_ 1), (0, u "java/lang/Object"), (0, .class_ 3)] 3

/-- java/lang/Cloneable -/
def k7 : Class := { plain "java/lang/Cloneable" (some 0) with
  accessFlags := 1537
  interfaces := #[]
  cf := some (fileOf pool7 2 #[] #[] 1537 4 #[] #[])
  fields := #[]
  methods := #[]
  instanceTypes := #[]
  staticTypes := #[]
  resolved := Array.replicate 8 none
  statics := none }

/-- the primitive byte -/
def k8 : Class := { plain "byte" none with kind := .primitive 'B', accessFlags := 0x411 }
/-- [B -/
def k9 : Class := { plain "[B" (some 0) with kind := .array 8 .byte, interfaces := #[7, 4], accessFlags := 1041 }

/-- the primitive int -/
def k10 : Class := { plain "int" none with kind := .primitive 'I', accessFlags := 0x411 }
/-- [I -/
def k11 : Class := { plain "[I" (some 0) with kind := .array 10 .int, interfaces := #[7, 4], accessFlags := 1041 }

/-- [Lcom/example/libttl/libttl/LogFormat$Change; -/
def k12 : Class := { plain "[Lcom/example/libttl/libttl/LogFormat$Change;" (some 0) with kind := .array 6 (.object "com/example/libttl/libttl/LogFormat$Change"), interfaces := #[7, 4], accessFlags := 1041 }

def heap : Heap := #[{ cls := 6, slots := #[.ref 2, .ref 3, .ref 4, .ref 5, .ref 6, .ref 7, .ref 8, .ref 9, .ref 10, .ref 11, .ref 1, .null], vm := .statics 6 },
  { cls := 12, slots := #[.null, .ref 2, .ref 3, .ref 4, .ref 5, .ref 6, .ref 7, .ref 8, .ref 9, .ref 10, .ref 11], vm := .none },
  { cls := 6, slots := #[.null, .int 1, .int 0, .int 1], vm := .none },
  { cls := 6, slots := #[.null, .int 2, .int 0, .int 2], vm := .none },
  { cls := 6, slots := #[.null, .int 3, .int 0, .int 3], vm := .none },
  { cls := 6, slots := #[.null, .int 4, .int 0, .int 4], vm := .none },
  { cls := 6, slots := #[.null, .int 5, .int 0, .int 5], vm := .none },
  { cls := 6, slots := #[.null, .int 6, .int 0, .int 6], vm := .none },
  { cls := 6, slots := #[.null, .int 7, .int 0, .int 7], vm := .none },
  { cls := 6, slots := #[.null, .int 8, .int 0, .int 8], vm := .none },
  { cls := 6, slots := #[.null, .int 9, .int 0, .int 9], vm := .none },
  { cls := 6, slots := #[.null, .int 10, .int 0, .int 10], vm := .none }]
def classes : Array Class := #[k0, k1, k2, k3, k4, k5, k6, k7, k8, k9, k10, k11, k12]
def interned : List (Array UInt16 × Addr) := []
def slotsUsed : Nat := 63
def theMethod : MethodId := ⟨1, 2⟩
def args0 : Array Value := #[.int 5]
def aboutOver (below : List Frame) : State where
  vm := { classes := classes, interned := interned.toArray }
  heap := heap
  slotsUsed := slotsUsed
  threads := #[{ frames := .invoking theMethod args0 :: below }]
def below0 : List Frame := [.native { method := ⟨0, 0⟩, args := #[] }]
def about1 : State := aboutOver below0
def p0 : Program := .bare "" "" ""
def e0 : Env := launch0.env 0 0 0
theorem w_frames : about1.frames = Frame.invoking theMethod args0 :: below0 := rfl
set_option maxRecDepth 65536 in
theorem w_args : argsFit about1.vm theMethod args0 = true := by decide +kernel
set_option maxRecDepth 65536 in
theorem w_heap : heapFits about1 = true := by decide +kernel
set_option maxRecDepth 65536 in
theorem w_runnable : about1.curStatus? = some .runnable := by decide +kernel
set_option maxRecDepth 65536 in
theorem w_alone : about1.alone = true := by decide +kernel
set_option maxRecDepth 65536 in
theorem w_named : about1.methodNamed? x = some theMethod := by decide +kernel
set_option maxRecDepth 65536 in
theorem w_hears : about1.hears theMethod below0 = true := by decide +kernel
set_option maxRecDepth 65536 in
theorem w_ripe : about1.ripe theMethod args0 below0 = true := by decide +kernel
theorem w_running : about1.status = .running := rfl
set_option maxRecDepth 65536 in
theorem w_room : about1.hasRoom e0.platform room_1 = true :=
  launch0.hasRoom_least _ room_1 (by decide +kernel) (by decide +kernel) (by decide +kernel) (by decide +kernel) (by decide +kernel) (by decide +kernel)
theorem allAtoms_all (ts : List Jvm.Cond) (a : Array Jvm.Value) (st : Jvm.State) : (allAtoms ts).before a st = ts.all (fun c => c.before a st) := by
  induction ts with
  | nil => rfl
  | cons c t ih =>
    show (Jvm.Cond.and c (allAtoms t)).before a st = _
    rw [Jvm.Cond.before_and, ih, List.all_cons]
def words1 : List Jvm.Cond := Jvm.Cond.code x code maxLocals ret :: tables_1
/-- a 'code' word, met by the world's own term for the bytes: nothing is compared byte by byte -/
theorem code_word {y : MethodName} {bytes : ByteArray} {mx : Nat} {rt : Option FieldType} {a : Array Value} {s : State} {m : MethodId} {meth : Method} {c : Code} (h1 : s.methodNamed? y = some m) (h2 : s.vm.method? m = some meth) (h3 : meth.code = some c) (h4 : c.code = bytes)
    (h5 : (c.maxLocals == mx && c.exceptionTable.isEmpty && decide (c.maxStack ≤ mostOperands) && decide (meth.sig.returnType = rt) && !meth.locks && decide (parseMethodDescriptor y.desc = some meth.sig)) = true) : (Jvm.Cond.code y bytes mx rt).before a s = true := by
  simp only [Bool.and_eq_true, beq_iff_eq, Bool.not_eq_true', decide_eq_true_eq] at h5
  obtain ⟨⟨⟨⟨⟨g1, g2⟩, g3⟩, g4⟩, g5⟩, g6⟩ := h5
  simp [Cond.before, Cond.holds, Cond.value, h1, h2, h3, h4, g1, g2, g3, g4, g5, g6]
def isCode : Jvm.Cond → Bool
  | .code _ _ _ _ => true
  | _ => false
theorem all_split {L : List Jvm.Cond} {P : Jvm.Cond → Bool} (h1 : L.all (fun c => isCode c || P c) = true) (h2 : ∀ c ∈ L.filter isCode, P c = true) : L.all P = true := by
  refine List.all_eq_true.mpr fun c hc => ?_
  have h := List.all_eq_true.mp h1 c hc
  rcases Bool.eq_false_or_eq_true (isCode c) with hi | hi
  · exact h2 c (List.mem_filter.mpr ⟨hc, hi⟩)
  · simpa [hi] using h
set_option maxRecDepth 65536 in
theorem w_c0 : (Jvm.Cond.code x code maxLocals ret).before args0 about1 = true := code_word (m := ⟨1, 2⟩) (meth := k1m2) (c := k1c2) (by decide +kernel) rfl rfl rfl (by decide +kernel)
set_option maxRecDepth 65536 in
theorem w_c1 : (Jvm.Cond.code ({ cls := "com/example/libttl/libttl/ChangeOfPinLaw", name := "expected", desc := "(I)Lcom/example/libttl/libttl/LogFormat$Change;" } : Jvm.MethodName) method_2_code (1 : Nat) (Option.some (Jvm.ClassFile.FieldType.object "com/example/libttl/libttl/LogFormat$Change"))).before args0 about1 = true := code_word (m := ⟨1, 1⟩) (meth := k1m1) (c := k1c1) (by decide +kernel) rfl rfl rfl (by decide +kernel)
set_option maxRecDepth 65536 in
theorem w_c2 : (Jvm.Cond.code ({ cls := "com/example/libttl/libttl/LogFormat$Change", name := "of", desc := "(B)Lcom/example/libttl/libttl/LogFormat$Change;" } : Jvm.MethodName) prog_26_method_5_code (1 : Nat) (Option.some (Jvm.ClassFile.FieldType.object "com/example/libttl/libttl/LogFormat$Change"))).before args0 about1 = true := code_word (m := ⟨6, 1⟩) (meth := k6m1) (c := k6c1) (by decide +kernel) rfl rfl rfl (by decide +kernel)
set_option maxRecDepth 65536 in
theorem w_c3 : (Jvm.Cond.code ({ cls := "com/example/libttl/libttl/LogFormat$Change", name := "code", desc := "()B" } : Jvm.MethodName) prog_26_method_4_code (1 : Nat) (Option.some Jvm.ClassFile.FieldType.byte)).before args0 about1 = true := code_word (m := ⟨6, 0⟩) (meth := k6m0) (c := k6c0) (by decide +kernel) rfl rfl rfl (by decide +kernel)
def codes1 : List Jvm.Cond := [Jvm.Cond.code x code maxLocals ret, Jvm.Cond.code ({ cls := "com/example/libttl/libttl/ChangeOfPinLaw", name := "expected", desc := "(I)Lcom/example/libttl/libttl/LogFormat$Change;" } : Jvm.MethodName) method_2_code (1 : Nat) (Option.some (Jvm.ClassFile.FieldType.object "com/example/libttl/libttl/LogFormat$Change")), Jvm.Cond.code ({ cls := "com/example/libttl/libttl/LogFormat$Change", name := "of", desc := "(B)Lcom/example/libttl/libttl/LogFormat$Change;" } : Jvm.MethodName) prog_26_method_5_code (1 : Nat) (Option.some (Jvm.ClassFile.FieldType.object "com/example/libttl/libttl/LogFormat$Change")), Jvm.Cond.code ({ cls := "com/example/libttl/libttl/LogFormat$Change", name := "code", desc := "()B" } : Jvm.MethodName) prog_26_method_4_code (1 : Nat) (Option.some Jvm.ClassFile.FieldType.byte)]
set_option maxRecDepth 65536 in
theorem codes_eq : words1.filter isCode = codes1 := rfl
theorem w_codes : ∀ c ∈ words1.filter isCode, c.before args0 about1 = true := by
  rw [codes_eq]
  intro c hc
  simp only [codes1, List.mem_cons, List.not_mem_nil, or_false] at hc
  rcases hc with rfl | rfl | rfl | rfl
  · exact w_c0
  · exact w_c1
  · exact w_c2
  · exact w_c3
set_option maxRecDepth 65536 in
theorem w_t1 : (words1.take 24).all (fun c => isCode c || c.before args0 about1) = true := by decide +kernel
set_option maxRecDepth 65536 in
theorem w_t2 : (words1.drop 24).all (fun c => isCode c || c.before args0 about1) = true := by decide +kernel
theorem w_tables : (allAtoms (Jvm.Cond.code x code maxLocals ret :: tables_1)).before args0 about1 = true := by
  rw [allAtoms_all]
  show words1.all (fun c => c.before args0 about1) = true
  refine all_split ?_ w_codes
  rw [← List.take_append_drop 24 words1, List.all_append, w_t1, w_t2]
  rfl
set_option maxRecDepth 65536 in
theorem w_case : (Jvm.Cond.and given_1 narrow_1).before args0 about1 = true := by decide +kernel
theorem w_applies : (headSpec (Jvm.Cond.code x code maxLocals ret :: tables_1) room_1).applies x e0.platform about1 = true :=
  (Spec.applies_iff w_frames).mpr ⟨w_running, w_runnable, w_alone, w_named, w_hears, w_ripe, w_room, w_tables⟩
theorem atStart : AtStart classFile x code maxLocals ret World_1 tables_1 room_1 Calls_1 rest_1 Pre_1 launch0 p0 e0 about1 theMethod args0 below0 :=
  ⟨lists_1, trivial, launch0.admits_env _ _ _, launch0.least_env, fairChoices_fair.cas, fairChoices_fair.clock, w_frames, w_args, w_heap, w_applies, trivial, trivial, w_case⟩
end start1
theorem witness_1 : WitnessClaimed_1 := ⟨start1.p0, start1.e0, start1.about1, start1.theMethod, start1.args0, start1.below0, start1.atStart⟩
end Jvm.Pilot.@@N@@
