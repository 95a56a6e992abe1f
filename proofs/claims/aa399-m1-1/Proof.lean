import JvmDerived
import JvmDerived.Pilot.@@N@@Statement
import JvmDerived.Pilot.@@N@@Code
set_option linter.unusedVariables false
set_option linter.unusedSimpArgs false
namespace Jvm.Pilot.@@N@@
open Jvm Jvm.ClassFile Sem Op Lib Jvm.Free Jvm.Stand Jvm.LawKit Jvm.RoadKit Bundle Jvm.Pilot.@@N@@.Jvm.D
set_option maxRecDepth 65536
set_option maxHeartbeats 40000000
section OwnGo
variable {p : Program} {l : Launch} {e : Env} {R : Room} {s : State} {m : MethodId} {args : Array Value} {below : List Frame} {meth : Method} {c : Code} {T : State} {locs : List Loc} {cells slots : Nat} {Q : Option Value → Heap → List Loc → Prop} {kc ks : Nat}
/-- from this state the body runs to its return, and Q holds of what it leaves -/
def own_Go (p : Program) (e : Env) (below : List Frame) (s : State) (Q : Option Value → Heap → List Loc → Prop) (kc ks : Nat) (S : State) : Prop :=
  ∃ s₂ o, Steps p.tables e below S s₂ ∧ s₂.status = .running ∧ Ended s₂ below o ∧ ∃ v L, o = .returned v ∧ Q v s₂.heap L ∧ FrameEnd s o s₂ L kc ks
theorem own_st {A B : State} (f : ∀ t, Steps p.tables e below A t → Steps p.tables e below B t) (h : own_Go p e below s Q kc ks A) : own_Go p e below s Q kc ks B := by
  obtain ⟨s₂, o, h1, h2⟩ := h
  exact ⟨s₂, o, f _ h1, h2⟩
theorem own_mono {S : State} {Q' : Option Value → Heap → List Loc → Prop} (h : own_Go p e below s Q kc ks S) (f : ∀ v h L, Q v h L → Q' v h L) : own_Go p e below s Q' kc ks S := by
  obtain ⟨s₂, o, h1, h2, h3, v, L, h4, h5, h6⟩ := h
  exact ⟨s₂, o, h1, h2, h3, v, L, h4, f _ _ _ h5, h6⟩
theorem own_retN (X : Stand p l e R s m args below meth c T locs cells slots) (hx : p.tables.exec = Jvm.exec) (hlk : meth.locks = false) {pc : Nat} {Ls : Array Slot} {z : Int32} {t : FieldType} {rest : List Value} (hret : meth.sig.returnType = some t) (ht : t = .boolean ∨ t = .byte ∨ t = .char ∨ t = .short)
    (hd : decode c.code pc = .ok (.ireturn, 1)) (hq : Q (some (.int (nar t z))) T.heap locs) (hc : cells ≤ kc) (hs : slots ≤ ks) : own_Go p e below s Q kc ks (T.setTop (mkF m pc Ls (.int z :: rest))) := by
  obtain ⟨fs, hr, hrun, hended, hW, hsame⟩ := X.leave (v := some (.int (nar t z))) (fun h => by rw [hret] at h; cases h) hlk
  exact ⟨_, _, retN X hx hret ht hd hr, hrun, hended, _, _, rfl, hq, ⟨_, rfl⟩, hW, hsame.mono hc hs⟩
theorem own_retI (X : Stand p l e R s m args below meth c T locs cells slots) (hx : p.tables.exec = Jvm.exec) (hlk : meth.locks = false) {pc : Nat} {Ls : Array Slot} {z : Int32} {rest : List Value} (hret : meth.sig.returnType = some .int)
    (hd : decode c.code pc = .ok (.ireturn, 1)) (hq : Q (some (.int z)) T.heap locs) (hc : cells ≤ kc) (hs : slots ≤ ks) : own_Go p e below s Q kc ks (T.setTop (mkF m pc Ls (.int z :: rest))) := by
  obtain ⟨fs, hr, hrun, hended, hW, hsame⟩ := X.leave (v := some (.int z)) (fun h => by rw [hret] at h; cases h) hlk
  exact ⟨_, _, retOut X hx hret rfl (Or.inl ⟨rfl, Or.inl rfl, z, rfl⟩) hd hr, hrun, hended, _, _, rfl, hq, ⟨_, rfl⟩, hW, hsame.mono hc hs⟩
theorem own_retJ (X : Stand p l e R s m args below meth c T locs cells slots) (hx : p.tables.exec = Jvm.exec) (hlk : meth.locks = false) {pc : Nat} {Ls : Array Slot} {z : Int64} {rest : List Value} (hret : meth.sig.returnType = some .long)
    (hd : decode c.code pc = .ok (.lreturn, 1)) (hq : Q (some (.long z)) T.heap locs) (hc : cells ≤ kc) (hs : slots ≤ ks) : own_Go p e below s Q kc ks (T.setTop (mkF m pc Ls (.long z :: rest))) := by
  obtain ⟨fs, hr, hrun, hended, hW, hsame⟩ := X.leave (v := some (.long z)) (fun h => by rw [hret] at h; cases h) hlk
  exact ⟨_, _, retOut X hx hret rfl (Or.inr (Or.inl ⟨rfl, rfl, z, rfl⟩)) hd hr, hrun, hended, _, _, rfl, hq, ⟨_, rfl⟩, hW, hsame.mono hc hs⟩
theorem own_retD (X : Stand p l e R s m args below meth c T locs cells slots) (hx : p.tables.exec = Jvm.exec) (hlk : meth.locks = false) {pc : Nat} {Ls : Array Slot} {z : UInt64} {rest : List Value} (hret : meth.sig.returnType = some .double)
    (hd : decode c.code pc = .ok (.dreturn, 1)) (hq : Q (some (.double z)) T.heap locs) (hc : cells ≤ kc) (hs : slots ≤ ks) : own_Go p e below s Q kc ks (T.setTop (mkF m pc Ls (.double z :: rest))) := by
  obtain ⟨fs, hr, hrun, hended, hW, hsame⟩ := X.leave (v := some (.double z)) (fun h => by rw [hret] at h; cases h) hlk
  exact ⟨_, _, retOut X hx hret rfl (Or.inr (Or.inr (Or.inl ⟨rfl, rfl, z, rfl⟩))) hd hr, hrun, hended, _, _, rfl, hq, ⟨_, rfl⟩, hW, hsame.mono hc hs⟩
theorem own_retA (X : Stand p l e R s m args below meth c T locs cells slots) (hx : p.tables.exec = Jvm.exec) (hlk : meth.locks = false) {pc : Nat} {Ls : Array Slot} {w : Value} {t : FieldType} {rest : List Value} (hret : meth.sig.returnType = some t) (ht : t.isReference = true) (hw : w.isRef = true)
    (hd : decode c.code pc = .ok (.areturn, 1)) (hq : Q (some w) T.heap locs) (hc : cells ≤ kc) (hs : slots ≤ ks) : own_Go p e below s Q kc ks (T.setTop (mkF m pc Ls (w :: rest))) := by
  obtain ⟨fs, hr, hrun, hended, hW, hsame⟩ := X.leave (v := some w) (fun h => by rw [hret] at h; cases h) hlk
  exact ⟨_, _, retOut X hx hret (by rcases ref_cases hw with rfl | ⟨a, rfl⟩ <;> cases t <;> first | rfl | cases ht) (Or.inr (Or.inr (Or.inr (Or.inr ⟨rfl, ht, hw⟩)))) hd hr, hrun, hended, _, _, rfl, hq, ⟨_, rfl⟩, hW, hsame.mono hc hs⟩
theorem own_retV (X : Stand p l e R s m args below meth c T locs cells slots) (hx : p.tables.exec = Jvm.exec) (hlk : meth.locks = false) {pc : Nat} {Ls : Array Slot} (hret : meth.sig.returnType = none)
    (hd : decode c.code pc = .ok (.return_, 1)) (hq : Q none T.heap locs) (hc : cells ≤ kc) (hs : slots ≤ ks) : own_Go p e below s Q kc ks (T.setTop (mkF m pc Ls [])) := by
  obtain ⟨fs, hr, hrun, hended, hW, hsame⟩ := X.leave (v := none) (fun _ => rfl) hlk
  exact ⟨_, _, X.returnOut hx hret hd hr, hrun, hended, _, _, rfl, hq, ⟨_, rfl⟩, hW, hsame.mono hc hs⟩
end OwnGo
section OwnWords
variable {args : Array Value} {s : State} {t i : Term} {a b : Addr} {C n d : String} {k : Int32} {cl : Cell} {ty : FieldType}
theorem own_fldI (ev : t.eval args s none [] s = some (.ref a)) (h : (Jvm.Cond.eq (Term.field t C n d) (Term.int k)).value args s none s [] = some true) : Fld s s.heap a C n d (.int k) := by
  have e1 := fld_at (C := C) (n := n) (dd := d) ev
  have e2 := Term.int_eval (args := args) (first := s) (o := none) (idx := []) (s := s) k
  refine Fld.start ?_
  cases hv : s.fieldOf? a C n d with
  | none => rw [hv] at e1; simp [Jvm.Cond.value, e1] at h
  | some v => rw [hv] at e1; cases v <;> simp [Jvm.Cond.value, e1, e2] at h; rw [h]
theorem own_len (ev : t.eval args s none [] s = some (.ref a)) (A : Arr s s.heap a cl ty) (h : (Jvm.Cond.eq (Term.length t) (Term.int k)).value args s none s [] = some true) : cl.slots.size < 2 ^ 31 ∧ cl.slots.size.toInt32 = k := by
  have e2 := Term.int_eval (args := args) (first := s) (o := none) (idx := []) (s := s) k
  have e0 := A.fin (Vm.Alike.refl _)
  by_cases hl : cl.slots.size < 2 ^ 31
  · have e1 := len_f ev e0 hl
    simp [Jvm.Cond.value, e1, e2] at h
    exact ⟨hl, h⟩
  · have e1 : (Term.length t).eval args s none [] s = none := by simp [Term.eval, ev, e0]; omega
    simp [Jvm.Cond.value, e1] at h
theorem own_elem {v : Value} (ev : t.eval args s none [] s = some (.ref a)) (A : Arr s s.heap a cl ty) {u : Term} (eu : u.eval args s none [] s = some v) (hv : v.isRef = true) (h : (Jvm.Cond.eq (Term.elem t (Term.int k)) u).value args s none s [] = some true) : cl.slots[k.toNatClampNeg]? = some v := by
  have e2 := Term.int_eval (args := args) (first := s) (o := none) (idx := []) (s := s) k
  obtain ⟨x, y, hx, hy, -, -⟩ := cmp_v (Or.inl h)
  cases eu.symm.trans hy
  obtain ⟨-, q⟩ := elem_in hx ev e2 A.1
  have hk : x.isRef = true := by
    cases x <;> rcases ref_cases hv with rfl | ⟨z, rfl⟩ <;> simp [Jvm.Cond.value, hx, hy] at h ⊢ <;> rfl
  rw [q, gotT (eq_R hx hy hk hv) h]
theorem own_elemR (ev : t.eval args s none [] s = some (.ref a)) (A : Arr s s.heap a cl ty) {u : Term} (eu : u.eval args s none [] s = some (.ref b)) (h : (Jvm.Cond.eq (Term.elem t (Term.int k)) u).value args s none s [] = some true) : cl.slots[k.toNatClampNeg]? = some (.ref b) := own_elem ev A eu rfl h
theorem own_elemN (ev : t.eval args s none [] s = some (.ref a)) (A : Arr s s.heap a cl ty) (h : (Jvm.Cond.eq (Term.elem t (Term.int k)) .null).value args s none s [] = some true) : cl.slots[k.toNatClampNeg]? = some .null := own_elem ev A null_at rfl h
end OwnWords
section OwnMore
theorem own_privSel {s : State} {args : Array Value} {y z z' : MethodName} {C : String} (hs : (Jvm.Cond.selects C z' z).before args s = true) (e : z.cls = y.cls) (hpriv : s.PrivateAt y) (hinst : (Jvm.Cond.instanceMethod y).before args s = true) (hy : y.cls ≠ "java/lang/invoke/MethodHandle" ∧ y.cls ≠ "java/lang/invoke/VarHandle") : (Jvm.Cond.selects y.cls y y).before args s = true := by
  obtain ⟨c, r, m, -, -, h3, -, mk, h5, h6⟩ := Cond.selects_spec hs
  exact selects_self_of_private (e ▸ findClass_of_methodNamed h3) h5 h6 hpriv hinst hy
theorem own_nar_boolean {x : Int32} (h : nar .boolean x = x) : narrow .boolean (.int x) = .int x := congrArg Value.int h
theorem own_fits_boolean {x : Int32} (h : nar .boolean x = x) : fits .boolean (.int x) = true := h ▸ fits_nar_bool x
theorem own_nar_char {x : Int32} (h : nar .char x = x) : narrow .char (.int x) = .int x := congrArg Value.int h
theorem own_fits_char {x : Int32} (h : nar .char x = x) : fits .char (.int x) = true := h ▸ fits_nar_char x
theorem own_nar_ref {v : Value} {C : String} (h : v.isRef = true) : narrow (.object C) v = v := by rcases ref_cases h with rfl | ⟨a, rfl⟩ <;> rfl
theorem own_fits_ref {v : Value} {C : String} (h : v.isRef = true) : fits (.object C) v = true := by rcases ref_cases h with rfl | ⟨a, rfl⟩ <;> rfl
theorem own_c1 {v : Value} (h : v.isRef = true) : v.category = 1 := by rcases ref_cases h with rfl | ⟨a, rfl⟩ <;> rfl
theorem own_ext_of_keep {h h' : Heap} (K : Keep h h' []) : Ext h h' := ⟨K.1, fun a c q => K.2.1 a c q nin0⟩
theorem own_ext_refl (h : Heap) : Ext h h := ⟨Nat.le_refl _, fun _ _ q => q⟩
theorem own_ext_trans {h h' h'' : Heap} (E : Ext h h') (E' : Ext h' h'') : Ext h h'' := ⟨Nat.le_trans E.1 E'.1, fun a c q => E'.2 a c (E.2 a c q)⟩
end OwnMore
theorem own_j {p : Program} {e : Env} {below : List Frame} {s : State} {Q : Option Value → Heap → List Loc → Prop} {kc ks : Nat} {T : State} {m : MethodId} {c0 : Nat} {L : Array Slot} {S0 : List Value} (c : Nat) (S : List Value) (f : ∀ t, Steps p.tables e below (T.setTop (mkF m c L S)) t → Steps p.tables e below (T.setTop (mkF m c0 L S0)) t) (h : own_Go p e below s Q kc ks (T.setTop (mkF m c L S))) : own_Go p e below s Q kc ks (T.setTop (mkF m c0 L S0)) := own_st f h
theorem own_k {p : Program} {e : Env} {below : List Frame} {s : State} {Q : Option Value → Heap → List Loc → Prop} {kc ks : Nat} {T : State} {m : MethodId} {c0 : Nat} {L : Array Slot} {S0 : List Value} (T' : State) (c : Nat) (S : List Value) (f : ∀ t, Steps p.tables e below (T'.setTop (mkF m c L S)) t → Steps p.tables e below (T.setTop (mkF m c0 L S0)) t) (h : own_Go p e below s Q kc ks (T'.setTop (mkF m c L S))) : own_Go p e below s Q kc ks (T.setTop (mkF m c0 L S0)) := own_st f h
theorem own_N {L L1 L2 : List Loc} {n : Nat} (l : L = L1 ++ L2) (a : Fr n L1) (b : Fr n L2) : Fr n L := by subst l; exact Fr.app a b
theorem own_cs {p : Program} {l : Launch} {e : Env} {R : Room} {s : State} {m : MethodId} {args : Array Value} {below : List Frame} {meth : Method} {c : Code} {T : State} {locs : List Loc} {cells slots : Nat} (X : Stand p l e R s m args below meth c T locs cells slots) (c' s' : Nat) (hc : cells = c') (hs : slots = s') : Stand p l e R s m args below meth c T locs c' s' := by subst hc hs; exact X
abbrev own_tb (a0 : Array Value) (Z : State) : Prop := ∀ d ∈ tables_1, d.before a0 Z = true
abbrev own_Ct (lL : Launch) (Z : State) (y : MethodName) (bytes : ByteArray) (mx : Nat) (rt : Option FieldType) (ws : List Jvm.Cond) (rm : Room) (A : Array Value) (h0 : Heap) (Q : Option Value → Heap → List Loc → Prop) : Prop := MetFree lL y (head1 (Jvm.Cond.code y bytes mx rt :: ws) rm) (fun as_ uU_ => as_ = A ∧ Z.Warmed39 uU_.vm ∧ uU_.heap = h0) (fun _ _ _ _ _ => True) (fun _ uU_ oO_ uE_ => ∃ vV_ lL_, oO_ = .returned vV_ ∧ Q vV_ uE_.heap lL_ ∧ FrameEnd uU_ oO_ uE_ lL_ rm.cells rm.slots)
theorem own_body {lL : Launch} {Z : State} {y : MethodName} {bytes : ByteArray} {mx : Nat} {rt : Option FieldType} {ws : List Jvm.Cond} {rm : Room} {A : Array Value} {L : Array Slot} {h0 : Heap} {Q : Option Value → Heap → List Loc → Prop} (pn : plainFor y = true) (kc ks : Nat) (hc : rm.cells = kc) (hs : rm.slots = ks) (hE : ∀ mM, entryFrame mM A mx = mkF mM 0 L [])
    (k : ∀ (pP : Program) (eE : Env) (sS : State) (mM : MethodId) (below : List Frame) (meth : Method) (cC : Code) (s₁ : State), Z.Warmed39 sS.vm → pP.tables.exec = Jvm.exec → cC.code = bytes → cC.maxLocals = mx → sS.vm.findClass y.cls = some mM.cls → meth.name = y.name → meth.sig.returnType = rt → meth.locks = false → Stand pP lL eE rm sS mM A below meth cC s₁ [] 0 0 → s₁.heap = h0 → own_Go pP eE below sS Q kc ks (s₁.setTop (mkF mM 0 L []))) : own_Ct lL Z y bytes mx rt ws rm A h0 Q := by
  subst hc hs
  refine MetFree.of_bodySF pn hisR ?_
  intro pP eE sS mM args below meth cC s₁ Bd hml hP hK
  obtain ⟨rfl, hZ, hh⟩ := hP
  have := k pP eE sS mM below meth cC s₁ hZ Bd.exec Bd.bytes hml (findClass_of_methodNamed Bd.named) (name_of_methodNamed Bd.named Bd.method).1 Bd.returns (BodyLoose.notSynchronized Bd) (Stand.of_body Bd) (by rw [← hh, Bd.state]; rfl)
  rw [← hE] at this; exact this
theorem ow {a0 : Array Value} {Z : State} (hw : own_tb a0 Z) (i : Nat) {d : Jvm.Cond} (h : tables_1[i]? = some d) : d.before a0 Z = true := hw _ (List.mem_of_getElem? h)
theorem o_iload {p : Program} {e : Env} {below : List Frame} {s : State} {Q : Option Value → Heap → List Loc → Prop} {kc ks : Nat} {T : State} {m : MethodId} {s' : State} {l : Launch} {R : Room} {args : Array Value} {meth : Method} {c : Code} {locs : List Loc} {cells slots : Nat} {pc : Nat} {L : Array Slot} {S : List Value} (n : Nat) (X : Stand p l e R s' m args below meth c T locs cells slots) (hx : p.tables.exec = Jvm.exec) {k : Nat} {v : Int32} (hd : decode c.code pc = .ok (.iload k, 2)) (hl : L[k]? = some (.val (.int v))) (hn : pc + 2 = n) (h : own_Go p e below s Q kc ks (T.setTop (mkF m n L (.int v :: S)))) : own_Go p e below s Q kc ks (T.setTop (mkF m pc L S)) := by
  subst hn; exact own_st (fun t k => XS.iload X.here hx rfl hd hl k) h
theorem o_iloadN {p : Program} {e : Env} {below : List Frame} {s : State} {Q : Option Value → Heap → List Loc → Prop} {kc ks : Nat} {T : State} {m : MethodId} {s' : State} {l : Launch} {R : Room} {args : Array Value} {meth : Method} {c : Code} {locs : List Loc} {cells slots : Nat} {pc : Nat} {L : Array Slot} {S : List Value} (n : Nat) (X : Stand p l e R s' m args below meth c T locs cells slots) (hx : p.tables.exec = Jvm.exec) {k : Fin 4} {v : Int32} (hd : decode c.code pc = .ok (.iload_n k, 1)) (hl : L[k.val]? = some (.val (.int v))) (hn : pc + 1 = n) (h : own_Go p e below s Q kc ks (T.setTop (mkF m n L (.int v :: S)))) : own_Go p e below s Q kc ks (T.setTop (mkF m pc L S)) := by
  subst hn; exact own_st (fun t k => XS.iloadN X.here hx rfl hd hl k) h
theorem o_lload {p : Program} {e : Env} {below : List Frame} {s : State} {Q : Option Value → Heap → List Loc → Prop} {kc ks : Nat} {T : State} {m : MethodId} {s' : State} {l : Launch} {R : Room} {args : Array Value} {meth : Method} {c : Code} {locs : List Loc} {cells slots : Nat} {pc : Nat} {L : Array Slot} {S : List Value} (n : Nat) (X : Stand p l e R s' m args below meth c T locs cells slots) (hx : p.tables.exec = Jvm.exec) {k : Nat} {v : Int64} (hd : decode c.code pc = .ok (.lload k, 2)) (hl : L[k]? = some (.val (.long v))) (hn : pc + 2 = n) (h : own_Go p e below s Q kc ks (T.setTop (mkF m n L (.long v :: S)))) : own_Go p e below s Q kc ks (T.setTop (mkF m pc L S)) := by
  subst hn; exact own_st (fun t k => XS.lload X.here hx rfl hd hl k) h
theorem o_lloadN {p : Program} {e : Env} {below : List Frame} {s : State} {Q : Option Value → Heap → List Loc → Prop} {kc ks : Nat} {T : State} {m : MethodId} {s' : State} {l : Launch} {R : Room} {args : Array Value} {meth : Method} {c : Code} {locs : List Loc} {cells slots : Nat} {pc : Nat} {L : Array Slot} {S : List Value} (n : Nat) (X : Stand p l e R s' m args below meth c T locs cells slots) (hx : p.tables.exec = Jvm.exec) {k : Fin 4} {v : Int64} (hd : decode c.code pc = .ok (.lload_n k, 1)) (hl : L[k.val]? = some (.val (.long v))) (hn : pc + 1 = n) (h : own_Go p e below s Q kc ks (T.setTop (mkF m n L (.long v :: S)))) : own_Go p e below s Q kc ks (T.setTop (mkF m pc L S)) := by
  subst hn; exact own_st (fun t k => XS.lloadN X.here hx rfl hd hl k) h
theorem o_aload {p : Program} {e : Env} {below : List Frame} {s : State} {Q : Option Value → Heap → List Loc → Prop} {kc ks : Nat} {T : State} {m : MethodId} {s' : State} {l : Launch} {R : Room} {args : Array Value} {meth : Method} {c : Code} {locs : List Loc} {cells slots : Nat} {pc : Nat} {L : Array Slot} {S : List Value} (n : Nat) (X : Stand p l e R s' m args below meth c T locs cells slots) (hx : p.tables.exec = Jvm.exec) {k : Nat} {v : Value} (hd : decode c.code pc = .ok (.aload k, 2)) (hl : L[k]? = some (.val v)) (hv : v.isRef = true) (hn : pc + 2 = n) (h : own_Go p e below s Q kc ks (T.setTop (mkF m n L (v :: S)))) : own_Go p e below s Q kc ks (T.setTop (mkF m pc L S)) := by
  subst hn; exact own_st (fun t k => XS.aload X.here hx rfl hd hl hv k) h
theorem o_aloadN {p : Program} {e : Env} {below : List Frame} {s : State} {Q : Option Value → Heap → List Loc → Prop} {kc ks : Nat} {T : State} {m : MethodId} {s' : State} {l : Launch} {R : Room} {args : Array Value} {meth : Method} {c : Code} {locs : List Loc} {cells slots : Nat} {pc : Nat} {L : Array Slot} {S : List Value} (n : Nat) (X : Stand p l e R s' m args below meth c T locs cells slots) (hx : p.tables.exec = Jvm.exec) {k : Fin 4} {v : Value} (hd : decode c.code pc = .ok (.aload_n k, 1)) (hl : L[k.val]? = some (.val v)) (hv : v.isRef = true) (hn : pc + 1 = n) (h : own_Go p e below s Q kc ks (T.setTop (mkF m n L (v :: S)))) : own_Go p e below s Q kc ks (T.setTop (mkF m pc L S)) := by
  subst hn; exact own_st (fun t k => XS.aloadN X.here hx rfl hd hl hv k) h
theorem o_iconst {p : Program} {e : Env} {below : List Frame} {s : State} {Q : Option Value → Heap → List Loc → Prop} {kc ks : Nat} {T : State} {m : MethodId} {s' : State} {l : Launch} {R : Room} {args : Array Value} {meth : Method} {c : Code} {locs : List Loc} {cells slots : Nat} {pc : Nat} {L : Array Slot} {S : List Value} (n : Nat) (z : Int32) (X : Stand p l e R s' m args below meth c T locs cells slots) (hx : p.tables.exec = Jvm.exec) {i : Int} (hd : decode c.code pc = .ok (.iconst i, 1)) (hz : Int32.ofInt i = z) (hn : pc + 1 = n) (h : own_Go p e below s Q kc ks (T.setTop (mkF m n L (.int z :: S)))) : own_Go p e below s Q kc ks (T.setTop (mkF m pc L S)) := by
  subst hn hz; exact own_st (fun t k => XS.iconst X.here hx rfl hd k) h
theorem o_bipush {p : Program} {e : Env} {below : List Frame} {s : State} {Q : Option Value → Heap → List Loc → Prop} {kc ks : Nat} {T : State} {m : MethodId} {s' : State} {l : Launch} {R : Room} {args : Array Value} {meth : Method} {c : Code} {locs : List Loc} {cells slots : Nat} {pc : Nat} {L : Array Slot} {S : List Value} (n : Nat) (z : Int32) (X : Stand p l e R s' m args below meth c T locs cells slots) (hx : p.tables.exec = Jvm.exec) {i : Int} (hd : decode c.code pc = .ok (.bipush i, 2)) (hz : (Int8.ofInt i).toInt32 = z) (hn : pc + 2 = n) (h : own_Go p e below s Q kc ks (T.setTop (mkF m n L (.int z :: S)))) : own_Go p e below s Q kc ks (T.setTop (mkF m pc L S)) := by
  subst hn hz; exact own_st (fun t k => XS.bipush X.here hx rfl hd k) h
theorem o_sipush {p : Program} {e : Env} {below : List Frame} {s : State} {Q : Option Value → Heap → List Loc → Prop} {kc ks : Nat} {T : State} {m : MethodId} {s' : State} {l : Launch} {R : Room} {args : Array Value} {meth : Method} {c : Code} {locs : List Loc} {cells slots : Nat} {pc : Nat} {L : Array Slot} {S : List Value} (n : Nat) (z : Int32) (X : Stand p l e R s' m args below meth c T locs cells slots) (hx : p.tables.exec = Jvm.exec) {i : Int} (hd : decode c.code pc = .ok (.sipush i, 3)) (hz : (Int16.ofInt i).toInt32 = z) (hn : pc + 3 = n) (h : own_Go p e below s Q kc ks (T.setTop (mkF m n L (.int z :: S)))) : own_Go p e below s Q kc ks (T.setTop (mkF m pc L S)) := by
  subst hn hz; exact own_st (fun t k => XS.sipush X.here hx rfl hd k) h
theorem o_dup {p : Program} {e : Env} {below : List Frame} {s : State} {Q : Option Value → Heap → List Loc → Prop} {kc ks : Nat} {T : State} {m : MethodId} {s' : State} {l : Launch} {R : Room} {args : Array Value} {meth : Method} {c : Code} {locs : List Loc} {cells slots : Nat} {pc : Nat} {L : Array Slot} {S : List Value} (n : Nat) (X : Stand p l e R s' m args below meth c T locs cells slots) (hx : p.tables.exec = Jvm.exec) {x : Value} (hd : decode c.code pc = .ok (.dup, 1)) (hc : x.category = 1) (hn : pc + 1 = n) (h : own_Go p e below s Q kc ks (T.setTop (mkF m n L (x :: x :: S)))) : own_Go p e below s Q kc ks (T.setTop (mkF m pc L (x :: S))) := by
  subst hn; exact own_st (fun t k => XS.dup X.here hx rfl hd rfl hc k) h
theorem o_icmpNo {p : Program} {e : Env} {below : List Frame} {s : State} {Q : Option Value → Heap → List Loc → Prop} {kc ks : Nat} {T : State} {m : MethodId} {s' : State} {l : Launch} {R : Room} {args : Array Value} {meth : Method} {c : Code} {locs : List Loc} {cells slots : Nat} {pc : Nat} {L : Array Slot} {S : List Value} (n : Nat) (X : Stand p l e R s' m args below meth c T locs cells slots) (hx : p.tables.exec = Jvm.exec) {cd : ClassFile.Cond} {x y : Int32} {o : Int} (hd : decode c.code pc = .ok (.if_icmp cd o, 3)) (hc : if_icmp.holds cd x y = false) (hn : pc + 3 = n) (h : own_Go p e below s Q kc ks (T.setTop (mkF m n L S))) : own_Go p e below s Q kc ks (T.setTop (mkF m pc L (.int y :: .int x :: S))) := by
  subst hn; exact own_st (fun t k => XS.icmpNo X.here hx rfl hd rfl hc k) h
theorem o_icmpYes {p : Program} {e : Env} {below : List Frame} {s : State} {Q : Option Value → Heap → List Loc → Prop} {kc ks : Nat} {T : State} {m : MethodId} {s' : State} {l : Launch} {R : Room} {args : Array Value} {meth : Method} {c : Code} {locs : List Loc} {cells slots : Nat} {pc : Nat} {L : Array Slot} {S : List Value} (n : Nat) (X : Stand p l e R s' m args below meth c T locs cells slots) (hx : p.tables.exec = Jvm.exec) {cd : ClassFile.Cond} {x y : Int32} {o : Int} (hd : decode c.code pc = .ok (.if_icmp cd o, 3)) (hc : if_icmp.holds cd x y = true) (hp : 0 ≤ (pc : Int) + o ∧ ((pc : Int) + o).toNat = n) (h : own_Go p e below s Q kc ks (T.setTop (mkF m n L S))) : own_Go p e below s Q kc ks (T.setTop (mkF m pc L (.int y :: .int x :: S))) := by
  exact own_st (fun t k => XS.icmpYes X.here hx rfl (pc0 := pc) (pc' := n) rfl hd rfl hc hp.1 hp.2 k) h
theorem o_ifNo {p : Program} {e : Env} {below : List Frame} {s : State} {Q : Option Value → Heap → List Loc → Prop} {kc ks : Nat} {T : State} {m : MethodId} {s' : State} {l : Launch} {R : Room} {args : Array Value} {meth : Method} {c : Code} {locs : List Loc} {cells slots : Nat} {pc : Nat} {L : Array Slot} {S : List Value} (n : Nat) (X : Stand p l e R s' m args below meth c T locs cells slots) (hx : p.tables.exec = Jvm.exec) {cd : ClassFile.Cond} {x : Int32} {o : Int} (hd : decode c.code pc = .ok (.ifCond cd o, 3)) (hc : ifCond.holds cd x = false) (hn : pc + 3 = n) (h : own_Go p e below s Q kc ks (T.setTop (mkF m n L S))) : own_Go p e below s Q kc ks (T.setTop (mkF m pc L (.int x :: S))) := by
  subst hn; exact own_st (fun t k => XS.ifNo X.here hx rfl hd rfl hc k) h
theorem o_ifYes {p : Program} {e : Env} {below : List Frame} {s : State} {Q : Option Value → Heap → List Loc → Prop} {kc ks : Nat} {T : State} {m : MethodId} {s' : State} {l : Launch} {R : Room} {args : Array Value} {meth : Method} {c : Code} {locs : List Loc} {cells slots : Nat} {pc : Nat} {L : Array Slot} {S : List Value} (n : Nat) (X : Stand p l e R s' m args below meth c T locs cells slots) (hx : p.tables.exec = Jvm.exec) {cd : ClassFile.Cond} {x : Int32} {o : Int} (hd : decode c.code pc = .ok (.ifCond cd o, 3)) (hc : ifCond.holds cd x = true) (hp : 0 ≤ (pc : Int) + o ∧ ((pc : Int) + o).toNat = n) (h : own_Go p e below s Q kc ks (T.setTop (mkF m n L S))) : own_Go p e below s Q kc ks (T.setTop (mkF m pc L (.int x :: S))) := by
  exact own_st (fun t k => XS.ifYes X.here hx rfl (pc0 := pc) (pc' := n) rfl hd rfl hc hp.1 hp.2 k) h
theorem o_goto {p : Program} {e : Env} {below : List Frame} {s : State} {Q : Option Value → Heap → List Loc → Prop} {kc ks : Nat} {T : State} {m : MethodId} {s' : State} {l : Launch} {R : Room} {args : Array Value} {meth : Method} {c : Code} {locs : List Loc} {cells slots : Nat} {pc : Nat} {L : Array Slot} {S : List Value} (n : Nat) (X : Stand p l e R s' m args below meth c T locs cells slots) (hx : p.tables.exec = Jvm.exec) {o : Int} (hd : decode c.code pc = .ok (.goto o, 3)) (hp : 0 ≤ (pc : Int) + o ∧ ((pc : Int) + o).toNat = n) (h : own_Go p e below s Q kc ks (T.setTop (mkF m n L S))) : own_Go p e below s Q kc ks (T.setTop (mkF m pc L S)) := by
  exact own_st (fun t k => XS.goto X.here hx rfl (pc0 := pc) (pc' := n) rfl hd hp.1 hp.2 k) h
abbrev yn0 : MethodName := ⟨"com/example/gleanwork/gleanwork/schedule/RecentAverageAddPinLaw", "v", "(JI)I"⟩
abbrev yn1 : MethodName := ⟨"com/example/gleanwork/gleanwork/schedule/RecentAverage", "<init>", "()V"⟩
abbrev yn2 : MethodName := ⟨"com/example/gleanwork/gleanwork/schedule/RecentAverage", "add", "(D)V"⟩
abbrev yn3 : MethodName := ⟨"java/lang/Math", "min", "(II)I"⟩
abbrev yn4 : MethodName := ⟨"com/example/gleanwork/gleanwork/schedule/RecentAverage", "count", "()I"⟩
abbrev yn5 : MethodName := ⟨"java/util/OptionalDouble", "<init>", "(D)V"⟩
abbrev yn6 : MethodName := ⟨"java/util/OptionalDouble", "of", "(D)Ljava/util/OptionalDouble;"⟩
abbrev yn7 : MethodName := ⟨"java/util/OptionalDouble", "empty", "()Ljava/util/OptionalDouble;"⟩
abbrev yn8 : MethodName := ⟨"com/example/gleanwork/gleanwork/schedule/RecentAverage", "value", "()Ljava/util/OptionalDouble;"⟩
abbrev yn9 : MethodName := ⟨"java/util/OptionalDouble", "isPresent", "()Z"⟩
abbrev yn10 : MethodName := ⟨"java/util/OptionalDouble", "getAsDouble", "()D"⟩
abbrev yn11 : MethodName := ⟨"com/example/gleanwork/gleanwork/schedule/RecentAverageAddPinLaw", "term", "(III[I[J[J)J"⟩
variable {pP : Program} {lL : Launch} {eE : Env} {sS : State} {mM : MethodId} {args : Array Value} {below : List Frame} {meth : Method} {cC : Code} {T0 : State} {locs : List Loc} {Z : State} {a0 : Array Value} {h0 : Heap} {n0 : Nat}
def QLaw (n0 : Nat) (v : Option Value) (h : Heap) (L : List Loc) : Prop := v = some (.int 1) ∧ Fr n0 L
section OwnDy
open Jvm.FP.Core
/-- the double x is z * 2^-j -/
def Dy (x : UInt64) (z : Int) (j : Nat) : Prop := j ≤ 40 ∧ ∃ s c q, val64 x = .fin s c q ∧ signed s (c * 2 ^ (q + 1074).toNat) = z * ((2 ^ (1074 - j) : Nat) : Int)
theorem own_p53 : (2 : Nat) ^ 53 = 9007199254740992 := by decide
/-- a number of 53 digits isn't rounded -/
theorem own_rnd {s : Bool} {c m j : Nat} {q : Int} (hj : j ≤ 40) (hq : -2400 ≤ q) (hm : m < 2 ^ 53) (h : c * 2 ^ (q + 2400).toNat = m * 2 ^ (2400 - j)) :
    ∃ c' q', round b64 (.fin s c q) = .fin s c' q' ∧ -1074 ≤ q' ∧ c' * 2 ^ (q' + 1074).toNat = m * 2 ^ (1074 - j) := by
  by_cases h0 : m = 0
  · subst h0
    have hc : c = 0 := by
      rw [Nat.zero_mul] at h
      rcases Nat.mul_eq_zero.mp h with q | q
      · exact q
      · exact absurd q (Nat.ne_of_gt (Nat.two_pow_pos _))
    subst hc
    exact ⟨0, b64.qmin, rfl, by decide, by simp⟩
  · have L1 := Nat.log2_self_le h0
    have L2 : m < 2 ^ (m.log2 + 1) := Nat.lt_log2_self
    have L3 : m.log2 < 53 := (Nat.log2_lt h0).mpr hm
    obtain ⟨t, ht⟩ : ∃ t, t + m.log2 = 52 := ⟨52 - m.log2, by omega⟩
    have F : FP.Core.fits b64 (.fin s (m * 2 ^ t) (-(j : Int) - t)) := by
      refine ⟨?_, ?_, ?_, Or.inr ?_⟩
      · show m * 2 ^ t < 2 ^ 53
        rw [show 53 = (m.log2 + 1) + t by omega, Nat.pow_add]
        exact (Nat.mul_lt_mul_right (Nat.two_pow_pos t)).mpr L2
      · show (-1074 : Int) ≤ _
        omega
      · show _ ≤ (971 : Int)
        omega
      · show 2 ^ 52 ≤ m * 2 ^ t
        rw [show 52 = m.log2 + t by omega, Nat.pow_add]
        exact Nat.mul_le_mul_right _ L1
    refine ⟨m * 2 ^ t, -(j : Int) - t, ?_, by omega, ?_⟩
    · refine roundRatio_exact good_b64 (by decide) F ?_
      rw [Nat.mul_one]
      obtain ⟨Q, hQ⟩ : ∃ Q : Nat, q = (Q : Int) - 2400 := ⟨(q + 2400).toNat, by omega⟩
      subst hQ
      have e1 : ((Q : Int) - 2400 + 2400).toNat = Q := by omega
      rw [e1] at h
      have P := Nat.two_pow_pos
      by_cases g : 2400 ≤ Q + j + t
      · have e2 : ((Q : Int) - 2400 - (-(j : Int) - t)).toNat = Q + j + t - 2400 := by omega
        have e3 : (-(j : Int) - t - ((Q : Int) - 2400)).toNat = 0 := by omega
        rw [e2, e3, Nat.pow_zero, Nat.mul_one]
        apply Nat.eq_of_mul_eq_mul_right (P (2400 - j - t))
        rw [Nat.mul_assoc, Nat.mul_assoc, ← Nat.pow_add, ← Nat.pow_add, show Q + j + t - 2400 + (2400 - j - t) = Q by omega, show t + (2400 - j - t) = 2400 - j by omega]
        exact h
      · have e2 : ((Q : Int) - 2400 - (-(j : Int) - t)).toNat = 0 := by omega
        have e3 : (-(j : Int) - t - ((Q : Int) - 2400)).toNat = 2400 - j - t - Q := by omega
        rw [e2, e3, Nat.pow_zero, Nat.mul_one]
        apply Nat.eq_of_mul_eq_mul_right (P Q)
        rw [Nat.mul_assoc, Nat.mul_assoc, ← Nat.pow_add, ← Nat.pow_add, show t + (2400 - j - t - Q + Q) = 2400 - j by omega]
        exact h
    · rw [show (-(j : Int) - t + 1074).toNat = 1074 - j - t by omega, Nat.mul_assoc, ← Nat.pow_add, show t + (1074 - j - t) = 1074 - j by omega]
theorem own_signed_abs (s : Bool) (c : Nat) : (signed s c).natAbs = c := natAbs_signed s c
theorem own_pw (a b : Nat) : ((2 ^ a : Nat) : Int) * ((2 ^ b : Nat) : Int) = ((2 ^ (a + b) : Nat) : Int) := by rw [Nat.pow_add, Int.natCast_mul]
theorem own_Dy_mul {x y : UInt64} {z w : Int} {i j : Nat} (hx : Dy x z i) (hy : Dy y w j) (hij : i + j ≤ 40) (hb : (z * w).natAbs < 9007199254740992) : Dy (FP.dmul x y) (z * w) (i + j) := by
  obtain ⟨-, s, c, q, ex, vx⟩ := hx
  obtain ⟨-, t, d, r, ey, vy⟩ := hy
  have fx := val64_fits x
  have fy := val64_fits y
  rw [ex] at fx
  rw [ey] at fy
  have q1 : (-1074 : Int) ≤ q := fx.2.1
  have r1 : (-1074 : Int) ≤ r := fy.2.1
  have ax := congrArg Int.natAbs vx
  have ay := congrArg Int.natAbs vy
  rw [natAbs_signed, Int.natAbs_mul, Int.natAbs_natCast] at ax ay
  have key : (c * d) * 2 ^ (q + r + 2400).toNat = (z * w).natAbs * 2 ^ (2400 - (i + j)) := by
    rw [show (q + r + 2400).toNat = (q + 1074).toNat + (r + 1074).toNat + 252 by omega, Nat.pow_add, Nat.pow_add, Int.natAbs_mul, show 2400 - (i + j) = (1074 - i) + (1074 - j) + 252 by omega, Nat.pow_add, Nat.pow_add]
    calc c * d * (2 ^ (q + 1074).toNat * 2 ^ (r + 1074).toNat * 2 ^ 252) = (c * 2 ^ (q + 1074).toNat) * (d * 2 ^ (r + 1074).toNat) * 2 ^ 252 := by ac_rfl
      _ = (z.natAbs * 2 ^ (1074 - i)) * (w.natAbs * 2 ^ (1074 - j)) * 2 ^ 252 := by rw [ax, ay]
      _ = z.natAbs * w.natAbs * (2 ^ (1074 - i) * 2 ^ (1074 - j) * 2 ^ 252) := by ac_rfl
  obtain ⟨c', q', hr, -, hv⟩ := own_rnd (s := (s != t)) hij (by omega) (by rw [own_p53]; exact hb) key
  refine ⟨hij, (s != t), c', q', ?_, ?_⟩
  · show val64 (FP.Core.dmul x y) = _
    rw [val64_dmul, ex, ey]; exact hr
  · rw [hv]
    have sx : signed s (c * 2 ^ (q + 1074).toNat) * signed t (d * 2 ^ (r + 1074).toNat) = signed (s != t) ((c * 2 ^ (q + 1074).toNat) * (d * 2 ^ (r + 1074).toNat)) := by
      cases s <;> cases t <;> simp [signed, Int.natCast_mul, Int.neg_mul, Int.mul_neg]
    have e : signed (s != t) ((z * w).natAbs * 2 ^ (1074 - (i + j))) * ((2 ^ 1074 : Nat) : Int) = (z * w * ((2 ^ (1074 - (i + j)) : Nat) : Int)) * ((2 ^ 1074 : Nat) : Int) := by
      rw [← signed_mul]
      have a1 : (z * w).natAbs * 2 ^ (1074 - (i + j)) * 2 ^ 1074 = (c * 2 ^ (q + 1074).toNat) * (d * 2 ^ (r + 1074).toNat) := by
        rw [ax, ay, Int.natAbs_mul, Nat.mul_assoc, ← Nat.pow_add, show 1074 - (i + j) + 1074 = (1074 - i) + (1074 - j) by omega, Nat.pow_add]; ac_rfl
      rw [a1, ← sx, vx, vy, Int.mul_assoc (z * w), own_pw, show 1074 - (i + j) + 1074 = (1074 - i) + (1074 - j) by omega, ← own_pw]; ac_rfl
    exact Int.eq_of_mul_eq_mul_right (Int.natCast_ne_zero.mpr (Nat.ne_of_gt (Nat.two_pow_pos 1074))) e
theorem own_Dy_add {x y : UInt64} {z w : Int} {j : Nat} (hx : Dy x z j) (hy : Dy y w j) (hb : (z + w).natAbs < 9007199254740992) : Dy (FP.dadd x y) (z + w) j := by
  obtain ⟨hj, s, c, q, ex, vx⟩ := hx
  obtain ⟨-, t, d, r, ey, vy⟩ := hy
  have e5 : 1074 - j + 1326 = 2400 - j := by clear ex vx ey vy hb; omega
  have fx := val64_fits x
  have fy := val64_fits y
  rw [ex] at fx
  rw [ey] at fy
  obtain ⟨sg, n, e, h1, h2, h3⟩ := sum_units fx fy
  have e1 : (-1074 : Int) ≤ e := h2
  have h3 : signed sg (n * 2 ^ (e + 1074).toNat) = (z + w) * ((2 ^ (1074 - j) : Nat) : Int) := by
    have a1 : zval b64 (.fin s c q) = signed s (c * 2 ^ (q + 1074).toNat) := by
      show signed s (c * 2 ^ (q - (-1074)).toNat) = _
      rw [Int.sub_neg]
    have a2 : zval b64 (.fin t d r) = signed t (d * 2 ^ (r + 1074).toNat) := by
      show signed t (d * 2 ^ (r - (-1074)).toNat) = _
      rw [Int.sub_neg]
    have a3 : signed sg (inUnits n e b64.qmin) = signed sg (n * 2 ^ (e + 1074).toNat) := by
      show signed sg (n * 2 ^ (e - (-1074)).toNat) = _
      rw [Int.sub_neg]
    rw [a1, a2, a3, vx, vy, ← Int.add_mul] at h3
    exact h3
  have an := congrArg Int.natAbs h3
  rw [natAbs_signed, Int.natAbs_mul, Int.natAbs_natCast] at an
  have key : n * 2 ^ (e + 2400).toNat = (z + w).natAbs * 2 ^ (2400 - j) := by
    rw [show (e + 2400).toNat = (e + 1074).toNat + 1326 by omega, Nat.pow_add, ← Nat.mul_assoc, an, Nat.mul_assoc, ← Nat.pow_add, e5]
  obtain ⟨c', q', hr, -, hv⟩ := own_rnd (s := sg) hj (by omega) (by rw [own_p53]; exact hb) key
  refine ⟨hj, sg, c', q', ?_, ?_⟩
  · show val64 (FP.Core.dadd x y) = _
    rw [val64_dadd, ex, ey, h1]; exact hr
  · rw [hv, ← an]; exact h3
theorem own_Dy_l2d {a : Int64} (h : B53 a) : Dy (FP.l2d a) a.toInt 0 := by
  obtain ⟨c, q, e⟩ := l2d_shape a
  have w := whole_zval good_b64 (val64_fits (l2d a)) (l2d_whole h)
  refine ⟨by omega, _, c, q, e, ?_⟩
  rw [e] at w
  have a1 : zval b64 (.fin (decide (a.toInt < 0)) c q) = signed (decide (a.toInt < 0)) (c * 2 ^ (q + 1074).toNat) := by
    show signed (decide (a.toInt < 0)) (c * 2 ^ (q - (-1074)).toNat) = _
    rw [Int.sub_neg]
  rw [a1] at w
  exact w
theorem own_Dy_i2d (x : Int32) : Dy (FP.i2d x) x.toInt 0 := by
  rw [i2d_w]
  have r := rng32 x
  have e : x.toInt64.toInt = x.toInt := Int32.toInt_toInt64 x
  rw [← e]
  exact own_Dy_l2d ⟨by omega, by omega⟩
theorem own_Dy_q : Dy 4598175219545276416 1 2 := by
  refine ⟨by omega, false, 2 ^ 52, -54, by decide +kernel, by decide +kernel⟩
theorem own_Dy_t : Dy 4604930618986332160 3 2 := by
  refine ⟨by omega, false, 3 * 2 ^ 51, -53, by decide +kernel, by decide +kernel⟩
theorem own_Dy_cmp {x y : UInt64} {z w : Int} {i j : Nat} (hx : Dy x z i) (hy : Dy y w j) (h : z * ((2 ^ (1074 - i) : Nat) : Int) = w * ((2 ^ (1074 - j) : Nat) : Int)) (o : CmpOp) : cmpValue (FP.dcmp x y) o = 0 := by
  obtain ⟨-, s, c, q, ex, vx⟩ := hx
  obtain ⟨-, t, d, r, ey, vy⟩ := hy
  have a1 : zval b64 (val64 x) = signed s (c * 2 ^ (q + 1074).toNat) := by
    rw [ex]; show signed s (c * 2 ^ (q - (-1074)).toNat) = _
    rw [Int.sub_neg]
  have a2 : zval b64 (val64 y) = signed t (d * 2 ^ (r + 1074).toNat) := by
    rw [ey]; show signed t (d * 2 ^ (r - (-1074)).toNat) = _
    rw [Int.sub_neg]
  have e : FP.dcmp x y = some .eq := dcmp_eq.mpr ⟨by rw [ex]; simp, by rw [ey]; simp, by rw [a1, a2, vx, vy, h]⟩
  rw [e]; rfl
end OwnDy

section OwnAvg
open Jvm.FP.Core
theorem own_Dy_nn {x : UInt64} {z : Int} {j : Nat} (h : Dy x z j) : Jvm.Free.Fl.NoNaN64 x := by
  obtain ⟨-, s, c, q, e, -⟩ := h
  exact Jvm.Free.Fl.val64_no.mpr (by rw [e]; simp)
theorem own_Dy_up {x : UInt64} {z : Int} {j : Nat} (h : Dy x z j) (m : Nat) (P : Int) (hP : P = ((2 ^ m : Nat) : Int)) (hm : j + m ≤ 40) : Dy x (P * z) (j + m) := by
  obtain ⟨-, s, c, q, e, v⟩ := h
  refine ⟨hm, s, c, q, e, ?_⟩
  have e5 : 1074 - j = m + (1074 - (j + m)) := by clear e v hP; omega
  rw [v, hP, e5, Nat.pow_add, Int.natCast_mul]
  ac_rfl
/-- x is the average w / 4^k of values of 16 bits -/
def Av (x : UInt64) (w : Int) (k : Nat) (B : Int) : Prop := Dy x w (2 * k) ∧ -B ≤ w ∧ w ≤ B
def stp (x a : UInt64) : UInt64 := FP.dadd (FP.dmul 4598175219545276416 x) (FP.dmul 4604930618986332160 a)
theorem own_av0 {x : Int32} (h1 : -32768 ≤ x.toInt) (h2 : x.toInt ≤ 32768) : Av (FP.i2d x) x.toInt 0 32768 := ⟨own_Dy_i2d x, h1, h2⟩
theorem own_stp {a : UInt64} {x : Int32} {w : Int} {k : Nat} {P : Int} (h1 : -32768 ≤ x.toInt) (h2 : x.toInt ≤ 32768) (ha : Av a w k (32768 * P)) (hP : P = ((2 ^ (2 * k) : Nat) : Int)) (hk : k ≤ 9) (hP1 : 1 ≤ P) (hP2 : P ≤ 262144) :
    Jvm.Free.Fl.NoNaN64 (FP.dmul 4598175219545276416 (FP.i2d x)) ∧ Jvm.Free.Fl.NoNaN64 (FP.dmul 4604930618986332160 a) ∧ Jvm.Free.Fl.NoNaN64 (stp (FP.i2d x) a) ∧ Av (stp (FP.i2d x) a) (P * x.toInt + 3 * w) (k + 1) (32768 * (4 * P)) := by
  obtain ⟨da, b1, b2⟩ := ha
  have m1 : P * x.toInt ≤ P * 32768 := Int.mul_le_mul_of_nonneg_left h2 (by omega)
  have m2 : P * (-32768) ≤ P * x.toInt := Int.mul_le_mul_of_nonneg_left h1 (by omega)
  have d1 := own_Dy_mul own_Dy_q (own_Dy_i2d x) (by omega) (by omega)
  have d2 := own_Dy_mul own_Dy_t da (by omega) (by omega)
  rw [Int.one_mul] at d1
  have d3 := own_Dy_up d1 (2 * k) P hP (by omega)
  have e : 2 + 0 + 2 * k = 2 + 2 * k := by omega
  rw [e] at d3
  have d4 := own_Dy_add d3 d2 (by omega)
  have e' : 2 + 2 * k = 2 * (k + 1) := by omega
  rw [e'] at d4
  exact ⟨own_Dy_nn d1, own_Dy_nn d2, own_Dy_nn d4, d4, by omega, by omega⟩
theorem own_last {a : UInt64} {W P : Int} {k : Nat} {p s : Int64} (ha : Av a W k (32768 * P)) (hp : p.toInt = P) (hP : P = ((2 ^ (2 * k) : Nat) : Int)) (hk : k ≤ 9) (hP1 : 1 ≤ P) (hP2 : P ≤ 262144) (hs : s.toInt = W) :
    Jvm.Free.Fl.NoNaN64 (FP.dmul a (FP.l2d p)) ∧ ∀ o, cmpValue (FP.dcmp (FP.dmul a (FP.l2d p)) (FP.l2d s)) o = 0 := by
  obtain ⟨da, b1, b2⟩ := ha
  have bW : W.natAbs ≤ 8589934592 := by omega
  have bP : P.natAbs ≤ 262144 := by omega
  have d1 := own_Dy_mul da (own_Dy_l2d (a := p) ⟨by omega, by omega⟩) (by omega) (by
    rw [hp, Int.natAbs_mul]
    exact Nat.lt_of_le_of_lt (Nat.mul_le_mul bW bP) (by decide))
  have d2 := own_Dy_l2d (a := s) ⟨by omega, by omega⟩
  refine ⟨own_Dy_nn d1, fun o => own_Dy_cmp d1 d2 ?_ o⟩
  have e5 : 1074 - 0 = 2 * k + (1074 - (2 * k + 0)) := by clear da d1 d2 hP; omega
  rw [hp, hs, hP, e5, Nat.pow_add, Int.natCast_mul]
  ac_rfl
/-- a long that is z, no carry -/
theorem own_Lmul {x : Int32} {c : Int64} {C : Int} (hc : c.toInt = C) (h0 : 0 ≤ C) (h1 : C ≤ 4294967296) (b1 : -32768 ≤ x.toInt) (b2 : x.toInt ≤ 32768) : (c * x.toInt64).toInt = C * x.toInt := by
  have e : x.toInt64.toInt = x.toInt := Int32.toInt_toInt64 x
  have m1 : C * x.toInt ≤ C * 32768 := Int.mul_le_mul_of_nonneg_left b2 h0
  have m2 : C * (-32768) ≤ C * x.toInt := Int.mul_le_mul_of_nonneg_left b1 h0
  rw [int64_mul (by rw [hc, e]; omega) (by rw [hc, e]; omega), hc, e]
theorem own_Ladd {x y : Int64} {X Y : Int} (hx : x.toInt = X) (hy : y.toInt = Y) (h1 : -1000000000000000 ≤ X) (h2 : X ≤ 1000000000000000) (h3 : -1000000000000000 ≤ Y) (h4 : Y ≤ 1000000000000000) : (x + y).toInt = X + Y := by
  rw [int64_add (by omega) (by omega), hx, hy]
theorem own_mod13 (a : Int32) : ((a &&& (2147483647 : Int32)) % (13 : Int32)) = 0 ∨ ((a &&& (2147483647 : Int32)) % (13 : Int32)) = 1 ∨ ((a &&& (2147483647 : Int32)) % (13 : Int32)) = 2 ∨ ((a &&& (2147483647 : Int32)) % (13 : Int32)) = 3 ∨ ((a &&& (2147483647 : Int32)) % (13 : Int32)) = 4 ∨ ((a &&& (2147483647 : Int32)) % (13 : Int32)) = 5 ∨ ((a &&& (2147483647 : Int32)) % (13 : Int32)) = 6 ∨ ((a &&& (2147483647 : Int32)) % (13 : Int32)) = 7 ∨ ((a &&& (2147483647 : Int32)) % (13 : Int32)) = 8 ∨ ((a &&& (2147483647 : Int32)) % (13 : Int32)) = 9 ∨ ((a &&& (2147483647 : Int32)) % (13 : Int32)) = 10 ∨ ((a &&& (2147483647 : Int32)) % (13 : Int32)) = 11 ∨ ((a &&& (2147483647 : Int32)) % (13 : Int32)) = 12 := by
  have m := c_mask a 2147483647 31 (by decide) (by decide)
  have q := (c_irem (a &&& (2147483647 : Int32)) 13 13 (by decide)).1 (by omega)
  have e0 : (0 : Int32).toInt = 0 := by decide
  have e1 : (1 : Int32).toInt = 1 := by decide
  have e2 : (2 : Int32).toInt = 2 := by decide
  have e3 : (3 : Int32).toInt = 3 := by decide
  have e4 : (4 : Int32).toInt = 4 := by decide
  have e5 : (5 : Int32).toInt = 5 := by decide
  have e6 : (6 : Int32).toInt = 6 := by decide
  have e7 : (7 : Int32).toInt = 7 := by decide
  have e8 : (8 : Int32).toInt = 8 := by decide
  have e9 : (9 : Int32).toInt = 9 := by decide
  have e10 : (10 : Int32).toInt = 10 := by decide
  have e11 : (11 : Int32).toInt = 11 := by decide
  have e12 : (12 : Int32).toInt = 12 := by decide
  simp only [← Int32.toInt_inj]
  omega
end OwnAvg

def Q0 (h0 : Heap) (n0 : Nat) (v : Option Value) (h : Heap) (L : List Loc) : Prop := v = none ∧ Fr n0 L ∧ h = h0
def Qw (w : Value) (h0 : Heap) (n0 : Nat) (v : Option Value) (h : Heap) (L : List Loc) : Prop := v = some w ∧ Fr n0 L ∧ h = h0
def Qz (h0 : Heap) (n0 : Nat) (v : Option Value) (h : Heap) (L : List Loc) : Prop := ∃ z : Int32, v = some (.int z) ∧ Fr n0 L ∧ h = h0 ∧ -32768 ≤ z.toInt ∧ z.toInt ≤ 32768
def Ra (Z : State) (h : Heap) (a d : Addr) (k : ClassId) (c o : Int32) (g : UInt64) (vs : List Value) : Prop := Exa Z h a "com/example/gleanwork/gleanwork/schedule/RecentAverage" ∧ Fld Z h a "com/example/gleanwork/gleanwork/schedule/RecentAverage" "values" "[D" (.ref d) ∧ Fld Z h a "com/example/gleanwork/gleanwork/schedule/RecentAverage" "count" "I" (.int c) ∧ Fld Z h a "com/example/gleanwork/gleanwork/schedule/RecentAverage" "oldest" "I" (.int o) ∧ Fld Z h a "com/example/gleanwork/gleanwork/schedule/RecentAverage" "average" "D" (.double g) ∧ Arv Z h d k .double 10 vs (.double 0)
def QI (Z : State) (a : Addr) (h0 : Heap) (n0 : Nat) (v : Option Value) (h : Heap) (L : List Loc) : Prop := ∃ d k, v = none ∧ Fr n0 L ∧ Keep h0 h [a] ∧ Ra Z h a d k 0 0 0 [.double 0, .double 0, .double 0, .double 0, .double 0, .double 0, .double 0, .double 0, .double 0, .double 0] ∧ h0.size ≤ d
def QA (Z : State) (a d : Addr) (k : ClassId) (c o : Int32) (g : UInt64) (vs : List Value) (h0 : Heap) (n0 : Nat) (v : Option Value) (h : Heap) (L : List Loc) : Prop := v = none ∧ Fr n0 L ∧ Keep h0 h [a, d] ∧ Ra Z h a d k c o g vs
def Od (Z : State) (h : Heap) (a : Addr) (g : UInt64) : Prop := Exa Z h a "java/util/OptionalDouble" ∧ Fld Z h a "java/util/OptionalDouble" "isPresent" "Z" (.int 1) ∧ Fld Z h a "java/util/OptionalDouble" "value" "D" (.double g)
def QO (Z : State) (g : UInt64) (h0 : Heap) (n0 : Nat) (v : Option Value) (h : Heap) (L : List Loc) : Prop := ∃ p, v = some (.ref p) ∧ Fr n0 L ∧ Ext h0 h ∧ Od Z h p g
def QOI (Z : State) (a : Addr) (g : UInt64) (h0 : Heap) (n0 : Nat) (v : Option Value) (h : Heap) (L : List Loc) : Prop := v = none ∧ Fr n0 L ∧ Keep h0 h [a] ∧ Od Z h a g
theorem d1_0 : decode method_2_code 0 = .ok (.lload_n 0, 1) := by decide +kernel
theorem d1_1 : decode method_2_code 1 = .ok (.bipush 16, 2) := by decide +kernel
theorem d1_3 : decode method_2_code 3 = .ok (.iload_n 2, 1) := by decide +kernel
theorem d1_4 : decode method_2_code 4 = .ok (.imul, 1) := by decide +kernel
theorem d1_5 : decode method_2_code 5 = .ok (.lushr, 1) := by decide +kernel
theorem d1_6 : decode method_2_code 6 = .ok (.l2i, 1) := by decide +kernel
theorem d1_7 : decode method_2_code 7 = .ok (.i2s, 1) := by decide +kernel
theorem d1_8 : decode method_2_code 8 = .ok (.ireturn, 1) := by decide +kernel
theorem pn_com_2fexample_2fgleanwork_2fgleanwork_2fschedule_2fRecentAverageAddPinLaw : plainName "com/example/gleanwork/gleanwork/schedule/RecentAverageAddPinLaw" = true := by first | (simp [plainName, overriddenIn]; done) | decide +kernel
theorem ef_rmv (mM : MethodId) (y : Int64) (i' : Int32) : entryFrame mM #[.long y, .int i'] 3 = mkF mM 0 #[.val (.long y), .second, .val (.int i')] [] := by first | (simp [entryFrame, mkF, argsToLocals, Value.category]; done) | rfl
theorem rmv (lL : Launch) (Z : State) (a0 : Array Value) (hw : own_tb a0 Z) (ws : List Jvm.Cond) (y : Int64) (i' : Int32) (h0 : Heap) (n0 : Nat)  :
    own_Ct lL Z yn0 method_2_code 3 (some .int) ws (⟨0, 0, 0, 0⟩ : Room) #[.long y, .int i'] h0 (Qz h0 n0) := by
  refine own_body (plainFor_of_name pn_com_2fexample_2fgleanwork_2fgleanwork_2fschedule_2fRecentAverageAddPinLaw) 0 0 rfl rfl (fun mM => ef_rmv mM y i') fun pP eE sS mM below meth cC s₁ hZ hx hby hml hown hnm hret hlk X0 e0 => ?_
  have N0 := Fr.nil n0
  refine o_lloadN 1 X0 hx (hb hby d1_0) rfl rfl ?_
  refine o_bipush 3 16 X0 hx (hb hby d1_1) rfl rfl ?_
  refine o_iloadN 4 X0 hx (hb hby d1_3) rfl rfl ?_
  refine own_j 5 [(.int ((16 : Int32) * i')), .long y] (fun t_ k_ => XS.imul X0.here hx rfl (hb hby d1_4) rfl k_) ?_
  refine own_j 6 [(.long ((y.toUInt64 >>> (((16 : Int32) * i') &&& 0x3f).toInt64.toUInt64).toInt64))] (fun t_ k_ => XS.lushr X0.here hx rfl (hb hby d1_5) rfl k_) ?_
  refine own_j 7 [(.int ((((y.toUInt64 >>> (((16 : Int32) * i') &&& 0x3f).toInt64.toUInt64).toInt64)).toInt32))] (fun t_ k_ => XS.l2i X0.here hx rfl (hb hby d1_6) rfl k_) ?_
  refine own_j 8 [(.int ((((((y.toUInt64 >>> (((16 : Int32) * i') &&& 0x3f).toInt64.toUInt64).toInt64)).toInt32)).toInt16.toInt32))] (fun t_ k_ => XS.i2s X0.here hx rfl (hb hby d1_7) rfl k_) ?_
  exact own_retI X0 hx hlk hret (hb hby d1_8) ⟨_, rfl, N0, e0, (c_i2s _).2.1, Int.le_of_lt (c_i2s _).2.2⟩ (by decide) (by decide)
theorem d2_0 : decode prog_71_method_1_code 0 = .ok (.aload_n 0, 1) := by decide +kernel
theorem d2_1 : decode prog_71_method_1_code 1 = .ok (.invokespecial 1, 3) := by decide +kernel
theorem d2_4 : decode prog_71_method_1_code 4 = .ok (.aload_n 0, 1) := by decide +kernel
theorem d2_5 : decode prog_71_method_1_code 5 = .ok (.bipush 10, 2) := by decide +kernel
theorem d2_7 : decode prog_71_method_1_code 7 = .ok (.newarray .double, 2) := by decide +kernel
theorem d2_9 : decode prog_71_method_1_code 9 = .ok (.putfield 9, 3) := by decide +kernel
theorem d2_12 : decode prog_71_method_1_code 12 = .ok (.return_, 1) := by decide +kernel
theorem pn_com_2fexample_2fgleanwork_2fgleanwork_2fschedule_2fRecentAverage : plainName "com/example/gleanwork/gleanwork/schedule/RecentAverage" = true := by first | (simp [plainName, overriddenIn]; done) | decide +kernel
theorem ef_rmI (mM : MethodId) (a : Addr) : entryFrame mM #[.ref a] 1 = mkF mM 0 #[.val (.ref a)] [] := by first | (simp [entryFrame, mkF, argsToLocals, Value.category]; done) | rfl
theorem rmI (lL : Launch) (Z : State) (a0 : Array Value) (hw : own_tb a0 Z) (ws : List Jvm.Cond) (a : Addr) (h0 : Heap) (n0 : Nat) (g_a : n0 ≤ a) (E_a : Exa Z h0 a "com/example/gleanwork/gleanwork/schedule/RecentAverage") (F_a_values : Fld Z h0 a "com/example/gleanwork/gleanwork/schedule/RecentAverage" "values" "[D" .null) (F_a_count : Fld Z h0 a "com/example/gleanwork/gleanwork/schedule/RecentAverage" "count" "I" (.int 0)) (F_a_oldest : Fld Z h0 a "com/example/gleanwork/gleanwork/schedule/RecentAverage" "oldest" "I" (.int 0)) (F_a_average : Fld Z h0 a "com/example/gleanwork/gleanwork/schedule/RecentAverage" "average" "D" (.double 0)) (Zn : n0 ≤ h0.size) :
    own_Ct lL Z yn1 prog_71_method_1_code 1 none ws (⟨1, 1, 10, 12⟩ : Room) #[.ref a] h0 (QI Z a h0 n0) := by
  refine own_body (plainFor_of_name pn_com_2fexample_2fgleanwork_2fgleanwork_2fschedule_2fRecentAverage) 1 10 rfl rfl (fun mM => ef_rmI mM a) fun pP eE sS mM below meth cC s₁ hZ hx hby hml hown hnm hret hlk X0 e0 => ?_
  have N0 := Fr.nil n0
  have Kp := Keep.refl h0 [a]
  refine o_aloadN 1 X0 hx (hb hby d2_0) rfl rfl rfl ?_
  obtain ⟨T1, X1, e1, st1⟩ := initO X0 hx hZ hown (ow hw 31 rfl) (ow hw 32 rfl) (ow hw 33 rfl) e0 (g := (mkF mM 1 #[.val (.ref a)] [.ref a])) rfl (by rw [hml]; rfl) rfl (hb hby d2_1) (by decide) (W := 0) (by show 2 * 0 + _ ≤ _; exact Nat.le_of_eq rfl) (by decide)
  refine own_k T1 4 [] st1 ?_
  refine o_aloadN 5 X1 hx (hb hby d2_4) rfl rfl rfl ?_
  refine o_bipush 7 10 X1 hx (hb hby d2_5) rfl rfl ?_
  obtain ⟨T2, h2, k2, X2, e2, E2, A2, st2⟩ := newP X1 hx hZ (ow hw 34 rfl) e1 (g := (mkF mM 7 #[.val (.ref a)] [.int 10, .ref a])) rfl (hb hby d2_7) rfl (by decide) (cap := 10) (by decide) (by decide) (by decide) (by decide)
  obtain ⟨b2, g2⟩ : ∃ z, z = h0.size := ⟨_, rfl⟩
  rw [← g2] at A2 st2
  have ne_a_b2 : a ≠ b2 := Nat.ne_of_lt (Nat.lt_of_lt_of_le E_a.lt (Nat.le_of_eq g2.symm))
  have g_b2 : n0 ≤ b2 := Nat.le_trans Zn (Nat.le_of_eq g2.symm)
  have b_b2 : h0.size ≤ b2 := Nat.le_trans Kp.1 (Nat.le_of_eq g2.symm)
  have F_a_values := F_a_values.ext E2
  have F_a_count := F_a_count.ext E2
  have F_a_oldest := F_a_oldest.ext E2
  have F_a_average := F_a_average.ext E2
  have E_a := E_a.ext E2
  have Zn := Nat.le_trans Zn E2.1
  have Kp := Kp.ext E2
  have A_b2 : Arv Z h2 b2 k2 .double 10 [.double 0, .double 0, .double 0, .double 0, .double 0, .double 0, .double 0, .double 0, .double 0, .double 0] (.double 0) := (Arv.new A2 (by decide)).pad (pad_rep [] (.double 0) 10)
  refine own_k T2 9 [.ref b2, .ref a] st2 ?_
  obtain ⟨T3, h3, X3, e3, W3, st3⟩ := putF X2 hx hZ hown (host := "") (Or.inl (ow hw 35 rfl)) Via.refl e2 F_a_values E_a (Or.inr ⟨(ow hw 36 rfl), rfl, hnm⟩) (ow hw 26 rfl) (ty := (.array .double)) (by decide) rfl rfl (g := (mkF mM 9 #[.val (.ref a)] [.ref b2, .ref a])) rfl rfl (hb hby d2_9)
  have N3 := Fr.snoc X3 N0 g_a
  have F_a_values := F_a_values.same W3
  have F_a_count := F_a_count.other W3 (Or.inr (slot_ne (Or.inl (ow hw 47 rfl)) (Or.inr (ow hw 36 rfl)) (by decide) (t := .int) (t' := (.array .double)) (by decide) (by decide)))
  have F_a_oldest := F_a_oldest.other W3 (Or.inr (slot_ne (Or.inl (ow hw 71 rfl)) (Or.inr (ow hw 36 rfl)) (by decide) (t := .int) (t' := (.array .double)) (by decide) (by decide)))
  have F_a_average := F_a_average.other W3 (Or.inr (slot_ne (Or.inl (ow hw 73 rfl)) (Or.inr (ow hw 36 rfl)) (by decide) (t := .double) (t' := (.array .double)) (by decide) (by decide)))
  have E_a := E_a.wr W3
  have A_b2 := A_b2.other W3 (Ne.symm ne_a_b2)
  have Zn := Nat.le_trans Zn (Keep.of_wr W3).1
  have Kp := Kp.wr W3 (Or.inl (List.mem_of_getElem? (i := 0) rfl))
  refine own_k T3 12 [] st3 ?_
  exact own_retV X3 hx hlk hret (hb hby d2_12) (by rw [e3]; exact ⟨_, _, rfl, N3, Kp, ⟨E_a, F_a_values, F_a_count, F_a_oldest, F_a_average, A_b2⟩, b_b2⟩) (by decide) (by decide)
theorem d9_78 : decode prog_71_method_2_code 78 = .ok (.iload_n 3, 1) := by decide +kernel
theorem d9_79 : decode prog_71_method_2_code 79 = .ok (.aload_n 0, 1) := by decide +kernel
theorem d9_80 : decode prog_71_method_2_code 80 = .ok (.getfield 13, 3) := by decide +kernel
theorem d9_83 : decode prog_71_method_2_code 83 = .ok (.if_icmp .ge 40, 3) := by decide +kernel
theorem d9_86 : decode prog_71_method_2_code 86 = .ok (.aload_n 0, 1) := by decide +kernel
theorem d9_87 : decode prog_71_method_2_code 87 = .ok (.ldc2_w 24, 3) := by decide +kernel
theorem d9_90 : decode prog_71_method_2_code 90 = .ok (.aload_n 0, 1) := by decide +kernel
theorem d9_91 : decode prog_71_method_2_code 91 = .ok (.getfield 9, 3) := by decide +kernel
theorem d9_94 : decode prog_71_method_2_code 94 = .ok (.aload_n 0, 1) := by decide +kernel
theorem d9_95 : decode prog_71_method_2_code 95 = .ok (.getfield 17, 3) := by decide +kernel
theorem d9_98 : decode prog_71_method_2_code 98 = .ok (.iload_n 3, 1) := by decide +kernel
theorem d9_99 : decode prog_71_method_2_code 99 = .ok (.iadd, 1) := by decide +kernel
theorem d9_100 : decode prog_71_method_2_code 100 = .ok (.bipush 10, 2) := by decide +kernel
theorem d9_102 : decode prog_71_method_2_code 102 = .ok (.irem, 1) := by decide +kernel
theorem d9_103 : decode prog_71_method_2_code 103 = .ok (.daload, 1) := by decide +kernel
theorem d9_104 : decode prog_71_method_2_code 104 = .ok (.dmul, 1) := by decide +kernel
theorem d9_105 : decode prog_71_method_2_code 105 = .ok (.ldc2_w 26, 3) := by decide +kernel
theorem d9_108 : decode prog_71_method_2_code 108 = .ok (.aload_n 0, 1) := by decide +kernel
theorem d9_109 : decode prog_71_method_2_code 109 = .ok (.getfield 20, 3) := by decide +kernel
theorem d9_112 : decode prog_71_method_2_code 112 = .ok (.dmul, 1) := by decide +kernel
theorem d9_113 : decode prog_71_method_2_code 113 = .ok (.dadd, 1) := by decide +kernel
theorem d9_114 : decode prog_71_method_2_code 114 = .ok (.putfield 20, 3) := by decide +kernel
theorem d9_117 : decode prog_71_method_2_code 117 = .ok (.iinc 3 1, 3) := by decide +kernel
theorem d9_120 : decode prog_71_method_2_code 120 = .ok (.goto (-42), 3) := by decide +kernel
theorem RT (hw : own_tb a0 Z) (X0 : Stand pP lL eE (⟨0, 0, 0, 0⟩ : Room) sS mM args below meth cC T0 locs 0 0) (hx : pP.tables.exec = Jvm.exec) (hZ : Z.Warmed39 sS.vm) (hby : cC.code = prog_71_method_2_code) (hml : cC.maxLocals = 4) (hown : sS.vm.findClass "com/example/gleanwork/gleanwork/schedule/RecentAverage" = some mM.cls) (hlk : meth.locks = false) (hret : meth.sig.returnType = none) (e0 : T0.heap = h0) (N0 : Fr n0 locs) (aa : Addr) (dd : Addr) (kd : ClassId) (xx : UInt64) (cc : Int32) (oo : Int32) (ii : Int32) (ii' : Int32) (gg : UInt64) (yy : UInt64) (vs : List Value) (Qv : Option Value → Heap → List Loc → Prop) (g_aa : n0 ≤ aa) (nad : aa ≠ dd) (ra : Ra Z h0 aa dd kd cc oo gg vs) (hlt : ii < cc) (bi : ¬ ((oo + ii) % (10 : Int32)) < 0 ∧ ((oo + ii) % (10 : Int32)) < 10) (hv : vs.getD ((oo + ii) % (10 : Int32)).toNatClampNeg (.double 0) = .double yy) (na : Jvm.Free.Fl.NoNaN64 (FP.dmul 4598175219545276416 yy)) (nb : Jvm.Free.Fl.NoNaN64 (FP.dmul 4604930618986332160 gg)) (nc : Jvm.Free.Fl.NoNaN64 (stp yy gg)) (hi : ii + (1 : Int32) = ii') (kont : ∀ (T' : State) (L' : List Loc) (h' : Heap), Stand pP lL eE (⟨0, 0, 0, 0⟩ : Room) sS mM args below meth cC T' L' 0 0 → T'.heap = h' → Fr n0 L' → Keep h0 h' [aa, dd] → Ra Z h' aa dd kd cc oo (stp yy gg) vs → own_Go pP eE below sS (Qv) 0 0 (T'.setTop (mkF mM 78 #[.val (.ref aa), .val (.double xx), .second, .val (.int ii')] []))) :
    own_Go pP eE below sS (Qv) 0 0 (T0.setTop (mkF mM 78 #[.val (.ref aa), .val (.double xx), .second, .val (.int ii)] [])) := by
  subst hi
  obtain ⟨E_aa, F_aa_values, F_aa_count, F_aa_oldest, F_aa_average, A_dd⟩ := ra
  have Kp := Keep.refl h0 [aa, dd]
  refine o_iloadN 79 X0 hx (hb hby d9_78) rfl rfl ?_
  refine o_aloadN 80 X0 hx (hb hby d9_79) rfl rfl rfl ?_
  obtain ⟨T4, X4, e4, st4⟩ := getF X0 hx hZ hown (host := "") (Or.inl (ow hw 46 rfl)) Via.refl e0 F_aa_count (g := (mkF mM 80 #[.val (.ref aa), .val (.double xx), .second, .val (.int ii)] [.ref aa, .int ii])) rfl rfl (hb hby d9_80)
  refine own_k T4 83 [.int cc, .int ii] st4 ?_
  refine o_icmpNo 86 X4 hx (hb hby d9_83) (tlt hlt).2.1 rfl ?_
  refine o_aloadN 87 X4 hx (hb hby d9_86) rfl rfl rfl ?_
  refine own_j 90 [(.double (4598175219545276416 : UInt64)), .ref aa] (fun t_ k_ => X4.ldc2DoubleC hx hown (mvT hZ (ow hw 74 rfl)) (g := (mkF mM 87 #[.val (.ref aa), .val (.double xx), .second, .val (.int ii)] [.ref aa])) rfl (hb hby d9_87) t_ k_) ?_
  refine o_aloadN 91 X4 hx (hb hby d9_90) rfl rfl rfl ?_
  obtain ⟨T5, X5, e5, st5⟩ := getF X4 hx hZ hown (host := "") (Or.inl (ow hw 35 rfl)) Via.refl e4 F_aa_values (g := (mkF mM 91 #[.val (.ref aa), .val (.double xx), .second, .val (.int ii)] [.ref aa, (.double (4598175219545276416 : UInt64)), .ref aa])) rfl rfl (hb hby d9_91)
  refine own_k T5 94 [.ref dd, (.double (4598175219545276416 : UInt64)), .ref aa] st5 ?_
  refine o_aloadN 95 X5 hx (hb hby d9_94) rfl rfl rfl ?_
  obtain ⟨T6, X6, e6, st6⟩ := getF X5 hx hZ hown (host := "") (Or.inl (ow hw 70 rfl)) Via.refl e5 F_aa_oldest (g := (mkF mM 95 #[.val (.ref aa), .val (.double xx), .second, .val (.int ii)] [.ref aa, .ref dd, (.double (4598175219545276416 : UInt64)), .ref aa])) rfl rfl (hb hby d9_95)
  refine own_k T6 98 [.int oo, .ref dd, (.double (4598175219545276416 : UInt64)), .ref aa] st6 ?_
  refine o_iloadN 99 X6 hx (hb hby d9_98) rfl rfl ?_
  refine own_j 100 [(.int (oo + ii)), .ref dd, (.double (4598175219545276416 : UInt64)), .ref aa] (fun t_ k_ => XS.iadd X6.here hx rfl (hb hby d9_99) rfl k_) ?_
  refine o_bipush 102 10 X6 hx (hb hby d9_100) rfl rfl ?_
  refine own_j 103 [(.int ((oo + ii) % (10 : Int32))), .ref dd, (.double (4598175219545276416 : UInt64)), .ref aa] (fun t_ k_ => iremM X6 hx rfl (hb hby d9_102) rfl (by decide) k_) ?_
  obtain ⟨cl7, Ar7, q7, S7, Nn7, H7, G7⟩ := id A_dd
  refine own_j 104 [.double yy, (.double (4598175219545276416 : UInt64)), .ref aa] (fun t_ k_ => X6.daload hx (j := ((oo + ii) % (10 : Int32))) (v := (.double yy)) (by rw [e6]; exact Ar7.1) (State.isArrayOf_alike hZ.alike Ar7.2.1) Ar7.2.2 (inb_of S7 bi) (H7.at (inb_of S7 bi) hv) (g := (mkF mM 103 #[.val (.ref aa), .val (.double xx), .second, .val (.int ii)] [(.int ((oo + ii) % (10 : Int32))), .ref dd, (.double (4598175219545276416 : UInt64)), .ref aa])) rfl rfl (hb hby d9_103) t_ k_) ?_
  refine own_j 105 [(.double (FP.dmul (4598175219545276416 : UInt64) yy)), .ref aa] (fun t_ k_ => XS.dmulS X6.here hx rfl (hb hby d9_104) rfl na rfl k_) ?_
  refine own_j 108 [(.double (4604930618986332160 : UInt64)), (.double (FP.dmul (4598175219545276416 : UInt64) yy)), .ref aa] (fun t_ k_ => X6.ldc2DoubleC hx hown (mvT hZ (ow hw 75 rfl)) (g := (mkF mM 105 #[.val (.ref aa), .val (.double xx), .second, .val (.int ii)] [(.double (FP.dmul (4598175219545276416 : UInt64) yy)), .ref aa])) rfl (hb hby d9_105) t_ k_) ?_
  refine o_aloadN 109 X6 hx (hb hby d9_108) rfl rfl rfl ?_
  obtain ⟨T8, X8, e8, st8⟩ := getF X6 hx hZ hown (host := "") (Or.inl (ow hw 72 rfl)) Via.refl e6 F_aa_average (g := (mkF mM 109 #[.val (.ref aa), .val (.double xx), .second, .val (.int ii)] [.ref aa, (.double (4604930618986332160 : UInt64)), (.double (FP.dmul (4598175219545276416 : UInt64) yy)), .ref aa])) rfl rfl (hb hby d9_109)
  refine own_k T8 112 [.double gg, (.double (4604930618986332160 : UInt64)), (.double (FP.dmul (4598175219545276416 : UInt64) yy)), .ref aa] st8 ?_
  refine own_j 113 [(.double (FP.dmul (4604930618986332160 : UInt64) gg)), (.double (FP.dmul (4598175219545276416 : UInt64) yy)), .ref aa] (fun t_ k_ => XS.dmulS X8.here hx rfl (hb hby d9_112) rfl nb rfl k_) ?_
  refine own_j 114 [(.double (stp yy gg)), .ref aa] (fun t_ k_ => XS.daddS X8.here hx rfl (hb hby d9_113) rfl nc rfl k_) ?_
  obtain ⟨T9, h9, X9, e9, W9, st9⟩ := putF X8 hx hZ hown (host := "") (Or.inl (ow hw 72 rfl)) Via.refl e8 F_aa_average E_aa (Or.inl (ow hw 73 rfl)) (ow hw 26 rfl) (ty := .double) (by decide) rfl rfl (g := (mkF mM 114 #[.val (.ref aa), .val (.double xx), .second, .val (.int ii)] [(.double (stp yy gg)), .ref aa])) rfl rfl (hb hby d9_114)
  have N9 := Fr.snoc X9 N0 g_aa
  have F_aa_values := F_aa_values.other W9 (Or.inr (slot_ne (Or.inr (ow hw 36 rfl)) (Or.inl (ow hw 73 rfl)) (by decide) (t := (.array .double)) (t' := .double) (by decide) (by decide)))
  have F_aa_count := F_aa_count.other W9 (Or.inr (slot_ne (Or.inl (ow hw 47 rfl)) (Or.inl (ow hw 73 rfl)) (by decide) (t := .int) (t' := .double) (by decide) (by decide)))
  have F_aa_oldest := F_aa_oldest.other W9 (Or.inr (slot_ne (Or.inl (ow hw 71 rfl)) (Or.inl (ow hw 73 rfl)) (by decide) (t := .int) (t' := .double) (by decide) (by decide)))
  have F_aa_average := F_aa_average.same W9
  have E_aa := E_aa.wr W9
  have A_dd := A_dd.other W9 (Ne.symm nad)
  have Kp := Kp.wr W9 (Or.inl (List.mem_of_getElem? (i := 0) rfl))
  refine own_k T9 117 [] st9 ?_
  let Lv10 : Array Slot := #[.val (.ref aa), .val (.double xx), .second, .val (.int (ii + (1 : Int32)))]
  refine own_st (A := T9.setTop (mkF mM 120 Lv10 [])) (fun t_ k_ => XS.iinc X9.here hx rfl (hb hby d9_117) rfl (l' := Lv10) rfl k_) ?_
  refine o_goto 78 X9 hx (hb hby d9_120) (by decide) ?_
  exact kont T9 _ h9 X9 e9 N9 Kp ⟨E_aa, F_aa_values, F_aa_count, F_aa_oldest, F_aa_average, A_dd⟩
theorem d9_0 : decode prog_71_method_2_code 0 = .ok (.aload_n 0, 1) := by decide +kernel
theorem d9_1 : decode prog_71_method_2_code 1 = .ok (.getfield 13, 3) := by decide +kernel
theorem d9_4 : decode prog_71_method_2_code 4 = .ok (.bipush 10, 2) := by decide +kernel
theorem d9_6 : decode prog_71_method_2_code 6 = .ok (.if_icmp .ge 34, 3) := by decide +kernel
theorem d9_9 : decode prog_71_method_2_code 9 = .ok (.aload_n 0, 1) := by decide +kernel
theorem d9_10 : decode prog_71_method_2_code 10 = .ok (.getfield 9, 3) := by decide +kernel
theorem d9_13 : decode prog_71_method_2_code 13 = .ok (.aload_n 0, 1) := by decide +kernel
theorem d9_14 : decode prog_71_method_2_code 14 = .ok (.getfield 17, 3) := by decide +kernel
theorem d9_17 : decode prog_71_method_2_code 17 = .ok (.aload_n 0, 1) := by decide +kernel
theorem d9_18 : decode prog_71_method_2_code 18 = .ok (.getfield 13, 3) := by decide +kernel
theorem d9_21 : decode prog_71_method_2_code 21 = .ok (.iadd, 1) := by decide +kernel
theorem d9_22 : decode prog_71_method_2_code 22 = .ok (.bipush 10, 2) := by decide +kernel
theorem d9_24 : decode prog_71_method_2_code 24 = .ok (.irem, 1) := by decide +kernel
theorem d9_25 : decode prog_71_method_2_code 25 = .ok (.dload_n 1, 1) := by decide +kernel
theorem d9_26 : decode prog_71_method_2_code 26 = .ok (.dastore, 1) := by decide +kernel
theorem d9_27 : decode prog_71_method_2_code 27 = .ok (.aload_n 0, 1) := by decide +kernel
theorem d9_28 : decode prog_71_method_2_code 28 = .ok (.dup, 1) := by decide +kernel
theorem d9_29 : decode prog_71_method_2_code 29 = .ok (.getfield 13, 3) := by decide +kernel
theorem d9_32 : decode prog_71_method_2_code 32 = .ok (.iconst 1, 1) := by decide +kernel
theorem d9_33 : decode prog_71_method_2_code 33 = .ok (.iadd, 1) := by decide +kernel
theorem d9_34 : decode prog_71_method_2_code 34 = .ok (.putfield 13, 3) := by decide +kernel
theorem d9_37 : decode prog_71_method_2_code 37 = .ok (.goto 26, 3) := by decide +kernel
theorem d9_63 : decode prog_71_method_2_code 63 = .ok (.aload_n 0, 1) := by decide +kernel
theorem d9_64 : decode prog_71_method_2_code 64 = .ok (.aload_n 0, 1) := by decide +kernel
theorem d9_65 : decode prog_71_method_2_code 65 = .ok (.getfield 9, 3) := by decide +kernel
theorem d9_68 : decode prog_71_method_2_code 68 = .ok (.aload_n 0, 1) := by decide +kernel
theorem d9_69 : decode prog_71_method_2_code 69 = .ok (.getfield 17, 3) := by decide +kernel
theorem d9_72 : decode prog_71_method_2_code 72 = .ok (.daload, 1) := by decide +kernel
theorem d9_73 : decode prog_71_method_2_code 73 = .ok (.putfield 20, 3) := by decide +kernel
theorem d9_76 : decode prog_71_method_2_code 76 = .ok (.iconst 1, 1) := by decide +kernel
theorem d9_77 : decode prog_71_method_2_code 77 = .ok (.istore_n 3, 1) := by decide +kernel
theorem d9_123 : decode prog_71_method_2_code 123 = .ok (.return_, 1) := by decide +kernel
theorem ef_rmA1 (mM : MethodId) (aa : Addr) (dd : Addr) (kd : ClassId) (gg : UInt64) (w0 : Int32) : entryFrame mM #[.ref aa, (.double (FP.i2d w0))] 4 = mkF mM 0 #[.val (.ref aa), .val (.double (FP.i2d w0)), .second, .unset] [] := by first | (simp [entryFrame, mkF, argsToLocals, Value.category]; done) | rfl
theorem rmA1 (lL : Launch) (Z : State) (a0 : Array Value) (hw : own_tb a0 Z) (ws : List Jvm.Cond) (aa : Addr) (dd : Addr) (kd : ClassId) (gg : UInt64) (w0 : Int32) (h0 : Heap) (n0 : Nat) (g_aa : n0 ≤ aa) (g_dd : n0 ≤ dd) (nad : aa ≠ dd) (ra : Ra Z h0 aa dd kd 0 0 gg [.double 0, .double 0, .double 0, .double 0, .double 0, .double 0, .double 0, .double 0, .double 0, .double 0]) (bl0 : -32768 ≤ w0.toInt) (bu0 : w0.toInt ≤ 32768) :
    own_Ct lL Z yn2 prog_71_method_2_code 4 none ws (⟨0, 0, 0, 0⟩ : Room) #[.ref aa, (.double (FP.i2d w0))] h0 (QA Z aa dd kd 1 0 (FP.i2d w0) [.double (FP.i2d w0), .double 0, .double 0, .double 0, .double 0, .double 0, .double 0, .double 0, .double 0, .double 0] h0 n0) := by
  refine own_body (plainFor_of_name pn_com_2fexample_2fgleanwork_2fgleanwork_2fschedule_2fRecentAverage) 0 0 rfl rfl (fun mM => ef_rmA1 mM aa dd kd gg w0) fun pP eE sS mM below meth cC s₁ hZ hx hby hml hown hnm hret hlk X0 e0 => ?_
  have N0 := Fr.nil n0
  obtain ⟨E_aa, F_aa_values, F_aa_count, F_aa_oldest, F_aa_average, A_dd⟩ := ra
  have Kp := Keep.refl h0 [aa, dd]
  refine o_aloadN 1 X0 hx (hb hby d9_0) rfl rfl rfl ?_
  obtain ⟨T11, X11, e11, st11⟩ := getF X0 hx hZ hown (host := "") (Or.inl (ow hw 46 rfl)) Via.refl e0 F_aa_count (g := (mkF mM 1 #[.val (.ref aa), .val (.double (FP.i2d w0)), .second, .unset] [.ref aa])) rfl rfl (hb hby d9_1)
  refine own_k T11 4 [.int 0] st11 ?_
  refine o_bipush 6 10 X11 hx (hb hby d9_4) rfl rfl ?_
  refine o_icmpNo 9 X11 hx (hb hby d9_6) (tlt (by decide : ((0 : Int32) < (10 : Int32)))).2.1 rfl ?_
  refine o_aloadN 10 X11 hx (hb hby d9_9) rfl rfl rfl ?_
  obtain ⟨T12, X12, e12, st12⟩ := getF X11 hx hZ hown (host := "") (Or.inl (ow hw 35 rfl)) Via.refl e11 F_aa_values (g := (mkF mM 10 #[.val (.ref aa), .val (.double (FP.i2d w0)), .second, .unset] [.ref aa])) rfl rfl (hb hby d9_10)
  refine own_k T12 13 [.ref dd] st12 ?_
  refine o_aloadN 14 X12 hx (hb hby d9_13) rfl rfl rfl ?_
  obtain ⟨T13, X13, e13, st13⟩ := getF X12 hx hZ hown (host := "") (Or.inl (ow hw 70 rfl)) Via.refl e12 F_aa_oldest (g := (mkF mM 14 #[.val (.ref aa), .val (.double (FP.i2d w0)), .second, .unset] [.ref aa, .ref dd])) rfl rfl (hb hby d9_14)
  refine own_k T13 17 [.int 0, .ref dd] st13 ?_
  refine o_aloadN 18 X13 hx (hb hby d9_17) rfl rfl rfl ?_
  obtain ⟨T14, X14, e14, st14⟩ := getF X13 hx hZ hown (host := "") (Or.inl (ow hw 46 rfl)) Via.refl e13 F_aa_count (g := (mkF mM 18 #[.val (.ref aa), .val (.double (FP.i2d w0)), .second, .unset] [.ref aa, .int 0, .ref dd])) rfl rfl (hb hby d9_18)
  refine own_k T14 21 [.int 0, .int 0, .ref dd] st14 ?_
  refine own_j 22 [.int 0, .ref dd] (fun t_ k_ => XS.iadd X14.here hx rfl (hb hby d9_21) rfl k_) ?_
  refine o_bipush 24 10 X14 hx (hb hby d9_22) rfl rfl ?_
  refine own_j 25 [.int 0, .ref dd] (fun t_ k_ => iremM X14 hx rfl (hb hby d9_24) rfl (by decide) k_) ?_
  refine own_j 26 [(.double (FP.i2d w0)), .int 0, .ref dd] (fun t_ k_ => XS.dloadN X14.here hx rfl (hb hby d9_25) rfl k_) ?_
  obtain ⟨cl15, Ar15, q15, S15, Nn15, H15, G15⟩ := id A_dd
  obtain ⟨T16, h16, X16, e16, W16, st16⟩ := stD X14 hx hZ e14 Ar15 (j := (0 : Int32)) (inb_of S15 ⟨by decide, by decide⟩) (g := (mkF mM 26 #[.val (.ref aa), .val (.double (FP.i2d w0)), .second, .unset] [(.double (FP.i2d w0)), .int 0, .ref dd])) rfl rfl (hb hby d9_26)
  have N16 := Fr.snoc X16 N0 g_dd
  have F_aa_values := F_aa_values.other W16 (Or.inl nad)
  have F_aa_count := F_aa_count.other W16 (Or.inl nad)
  have F_aa_oldest := F_aa_oldest.other W16 (Or.inl nad)
  have F_aa_average := F_aa_average.other W16 (Or.inl nad)
  have E_aa := E_aa.wr W16
  have Kp := Kp.wr W16 (Or.inl (List.mem_of_getElem? (i := 1) rfl))
  have A_dd : Arv Z h16 dd kd .double 10 [(.double (FP.i2d w0)), .double 0, .double 0, .double 0, .double 0, .double 0, .double 0, .double 0, .double 0, .double 0] (.double 0) := Arv.set Ar15 q15 S15 Nn15 H15 G15 rfl W16 0 rfl (Nat.le_of_ble_eq_true rfl)
  refine own_k T16 27 [] st16 ?_
  refine o_aloadN 28 X16 hx (hb hby d9_27) rfl rfl rfl ?_
  refine o_dup 29 X16 hx (hb hby d9_28) rfl rfl ?_
  obtain ⟨T17, X17, e17, st17⟩ := getF X16 hx hZ hown (host := "") (Or.inl (ow hw 46 rfl)) Via.refl e16 F_aa_count (g := (mkF mM 29 #[.val (.ref aa), .val (.double (FP.i2d w0)), .second, .unset] [.ref aa, .ref aa])) rfl rfl (hb hby d9_29)
  refine own_k T17 32 [.int 0, .ref aa] st17 ?_
  refine o_iconst 33 1 X17 hx (hb hby d9_32) rfl rfl ?_
  refine own_j 34 [.int 1, .ref aa] (fun t_ k_ => XS.iadd X17.here hx rfl (hb hby d9_33) rfl k_) ?_
  obtain ⟨T18, h18, X18, e18, W18, st18⟩ := putF X17 hx hZ hown (host := "") (Or.inl (ow hw 46 rfl)) Via.refl e17 F_aa_count E_aa (Or.inl (ow hw 47 rfl)) (ow hw 26 rfl) (ty := .int) (by decide) rfl rfl (g := (mkF mM 34 #[.val (.ref aa), .val (.double (FP.i2d w0)), .second, .unset] [.int 1, .ref aa])) rfl rfl (hb hby d9_34)
  have N18 := Fr.snoc X18 N16 g_aa
  have F_aa_values := F_aa_values.other W18 (Or.inr (slot_ne (Or.inr (ow hw 36 rfl)) (Or.inl (ow hw 47 rfl)) (by decide) (t := (.array .double)) (t' := .int) (by decide) (by decide)))
  have F_aa_count := F_aa_count.same W18
  have F_aa_oldest := F_aa_oldest.other W18 (Or.inr (slot_ne (Or.inl (ow hw 71 rfl)) (Or.inl (ow hw 47 rfl)) (by decide) (t := .int) (t' := .int) (by decide) (by decide)))
  have F_aa_average := F_aa_average.other W18 (Or.inr (slot_ne (Or.inl (ow hw 73 rfl)) (Or.inl (ow hw 47 rfl)) (by decide) (t := .double) (t' := .int) (by decide) (by decide)))
  have E_aa := E_aa.wr W18
  have A_dd := A_dd.other W18 (Ne.symm nad)
  have Kp := Kp.wr W18 (Or.inl (List.mem_of_getElem? (i := 0) rfl))
  refine own_k T18 37 [] st18 ?_
  refine o_goto 63 X18 hx (hb hby d9_37) (by decide) ?_
  refine o_aloadN 64 X18 hx (hb hby d9_63) rfl rfl rfl ?_
  refine o_aloadN 65 X18 hx (hb hby d9_64) rfl rfl rfl ?_
  obtain ⟨T19, X19, e19, st19⟩ := getF X18 hx hZ hown (host := "") (Or.inl (ow hw 35 rfl)) Via.refl e18 F_aa_values (g := (mkF mM 65 #[.val (.ref aa), .val (.double (FP.i2d w0)), .second, .unset] [.ref aa, .ref aa])) rfl rfl (hb hby d9_65)
  refine own_k T19 68 [.ref dd, .ref aa] st19 ?_
  refine o_aloadN 69 X19 hx (hb hby d9_68) rfl rfl rfl ?_
  obtain ⟨T20, X20, e20, st20⟩ := getF X19 hx hZ hown (host := "") (Or.inl (ow hw 70 rfl)) Via.refl e19 F_aa_oldest (g := (mkF mM 69 #[.val (.ref aa), .val (.double (FP.i2d w0)), .second, .unset] [.ref aa, .ref dd, .ref aa])) rfl rfl (hb hby d9_69)
  refine own_k T20 72 [.int 0, .ref dd, .ref aa] st20 ?_
  obtain ⟨cl21, Ar21, q21, S21, Nn21, H21, G21⟩ := id A_dd
  have hin21 : ¬ ((0 : Int32) < 0 ∨ cl21.slots.size ≤ ((0 : Int32)).toNatClampNeg) := inb_of S21 ⟨by decide, by decide⟩
  refine own_j 73 [(.double (FP.i2d w0)), .ref aa] (fun t_ k_ => X20.daload hx (j := (0 : Int32)) (v := (.double (FP.i2d w0))) (by rw [e20]; exact Ar21.1) (State.isArrayOf_alike hZ.alike Ar21.2.1) Ar21.2.2 hin21 (H21.at hin21 rfl) (g := (mkF mM 72 #[.val (.ref aa), .val (.double (FP.i2d w0)), .second, .unset] [.int 0, .ref dd, .ref aa])) rfl rfl (hb hby d9_72) t_ k_) ?_
  obtain ⟨T22, h22, X22, e22, W22, st22⟩ := putF X20 hx hZ hown (host := "") (Or.inl (ow hw 72 rfl)) Via.refl e20 F_aa_average E_aa (Or.inl (ow hw 73 rfl)) (ow hw 26 rfl) (ty := .double) (by decide) rfl rfl (g := (mkF mM 73 #[.val (.ref aa), .val (.double (FP.i2d w0)), .second, .unset] [(.double (FP.i2d w0)), .ref aa])) rfl rfl (hb hby d9_73)
  have N22 := Fr.snoc X22 N18 g_aa
  have F_aa_values := F_aa_values.other W22 (Or.inr (slot_ne (Or.inr (ow hw 36 rfl)) (Or.inl (ow hw 73 rfl)) (by decide) (t := (.array .double)) (t' := .double) (by decide) (by decide)))
  have F_aa_count := F_aa_count.other W22 (Or.inr (slot_ne (Or.inl (ow hw 47 rfl)) (Or.inl (ow hw 73 rfl)) (by decide) (t := .int) (t' := .double) (by decide) (by decide)))
  have F_aa_oldest := F_aa_oldest.other W22 (Or.inr (slot_ne (Or.inl (ow hw 71 rfl)) (Or.inl (ow hw 73 rfl)) (by decide) (t := .int) (t' := .double) (by decide) (by decide)))
  have F_aa_average := F_aa_average.same W22
  have E_aa := E_aa.wr W22
  have A_dd := A_dd.other W22 (Ne.symm nad)
  have Kp := Kp.wr W22 (Or.inl (List.mem_of_getElem? (i := 0) rfl))
  refine own_k T22 76 [] st22 ?_
  refine o_iconst 77 1 X22 hx (hb hby d9_76) rfl rfl ?_
  let Lv23 : Array Slot := #[.val (.ref aa), .val (.double (FP.i2d w0)), .second, .val (.int 1)]
  refine own_st (A := T22.setTop (mkF mM 78 Lv23 [])) (fun t_ k_ => XS.istoreN X22.here hx rfl (hb hby d9_77) rfl (l' := Lv23) rfl k_) ?_
  refine o_iloadN 79 X22 hx (hb hby d9_78) rfl rfl ?_
  refine o_aloadN 80 X22 hx (hb hby d9_79) rfl rfl rfl ?_
  obtain ⟨T24, X24, e24, st24⟩ := getF X22 hx hZ hown (host := "") (Or.inl (ow hw 46 rfl)) Via.refl e22 F_aa_count (g := (mkF mM 80 Lv23 [.ref aa, .int 1])) rfl rfl (hb hby d9_80)
  refine own_k T24 83 [.int 1, .int 1] st24 ?_
  refine o_icmpYes 123 X24 hx (hb hby d9_83) (flt (by decide : ¬ ((1 : Int32) < (1 : Int32)))).2.1 (by decide) ?_
  exact own_retV X24 hx hlk hret (hb hby d9_123) (by rw [e24]; exact ⟨rfl, N22, Kp, E_aa, F_aa_values, F_aa_count, F_aa_oldest, F_aa_average, A_dd⟩) (by decide) (by decide)
theorem ef_rmA2 (mM : MethodId) (aa : Addr) (dd : Addr) (kd : ClassId) (gg : UInt64) (w0 : Int32) (w1 : Int32) : entryFrame mM #[.ref aa, (.double (FP.i2d w1))] 4 = mkF mM 0 #[.val (.ref aa), .val (.double (FP.i2d w1)), .second, .unset] [] := by first | (simp [entryFrame, mkF, argsToLocals, Value.category]; done) | rfl
theorem rmA2 (lL : Launch) (Z : State) (a0 : Array Value) (hw : own_tb a0 Z) (ws : List Jvm.Cond) (aa : Addr) (dd : Addr) (kd : ClassId) (gg : UInt64) (w0 : Int32) (w1 : Int32) (h0 : Heap) (n0 : Nat) (g_aa : n0 ≤ aa) (g_dd : n0 ≤ dd) (nad : aa ≠ dd) (ra : Ra Z h0 aa dd kd 1 0 gg [.double (FP.i2d w0), .double 0, .double 0, .double 0, .double 0, .double 0, .double 0, .double 0, .double 0, .double 0]) (bl0 : -32768 ≤ w0.toInt) (bu0 : w0.toInt ≤ 32768) (bl1 : -32768 ≤ w1.toInt) (bu1 : w1.toInt ≤ 32768) :
    own_Ct lL Z yn2 prog_71_method_2_code 4 none ws (⟨0, 0, 0, 0⟩ : Room) #[.ref aa, (.double (FP.i2d w1))] h0 (QA Z aa dd kd 2 0 (stp (FP.i2d w1) (FP.i2d w0)) [.double (FP.i2d w0), .double (FP.i2d w1), .double 0, .double 0, .double 0, .double 0, .double 0, .double 0, .double 0, .double 0] h0 n0) := by
  refine own_body (plainFor_of_name pn_com_2fexample_2fgleanwork_2fgleanwork_2fschedule_2fRecentAverage) 0 0 rfl rfl (fun mM => ef_rmA2 mM aa dd kd gg w0 w1) fun pP eE sS mM below meth cC s₁ hZ hx hby hml hown hnm hret hlk X0 e0 => ?_
  have N0 := Fr.nil n0
  obtain ⟨E_aa, F_aa_values, F_aa_count, F_aa_oldest, F_aa_average, A_dd⟩ := ra
  have Kp := Keep.refl h0 [aa, dd]
  refine o_aloadN 1 X0 hx (hb hby d9_0) rfl rfl rfl ?_
  obtain ⟨T25, X25, e25, st25⟩ := getF X0 hx hZ hown (host := "") (Or.inl (ow hw 46 rfl)) Via.refl e0 F_aa_count (g := (mkF mM 1 #[.val (.ref aa), .val (.double (FP.i2d w1)), .second, .unset] [.ref aa])) rfl rfl (hb hby d9_1)
  refine own_k T25 4 [.int 1] st25 ?_
  refine o_bipush 6 10 X25 hx (hb hby d9_4) rfl rfl ?_
  refine o_icmpNo 9 X25 hx (hb hby d9_6) (tlt (by decide : ((1 : Int32) < (10 : Int32)))).2.1 rfl ?_
  refine o_aloadN 10 X25 hx (hb hby d9_9) rfl rfl rfl ?_
  obtain ⟨T26, X26, e26, st26⟩ := getF X25 hx hZ hown (host := "") (Or.inl (ow hw 35 rfl)) Via.refl e25 F_aa_values (g := (mkF mM 10 #[.val (.ref aa), .val (.double (FP.i2d w1)), .second, .unset] [.ref aa])) rfl rfl (hb hby d9_10)
  refine own_k T26 13 [.ref dd] st26 ?_
  refine o_aloadN 14 X26 hx (hb hby d9_13) rfl rfl rfl ?_
  obtain ⟨T27, X27, e27, st27⟩ := getF X26 hx hZ hown (host := "") (Or.inl (ow hw 70 rfl)) Via.refl e26 F_aa_oldest (g := (mkF mM 14 #[.val (.ref aa), .val (.double (FP.i2d w1)), .second, .unset] [.ref aa, .ref dd])) rfl rfl (hb hby d9_14)
  refine own_k T27 17 [.int 0, .ref dd] st27 ?_
  refine o_aloadN 18 X27 hx (hb hby d9_17) rfl rfl rfl ?_
  obtain ⟨T28, X28, e28, st28⟩ := getF X27 hx hZ hown (host := "") (Or.inl (ow hw 46 rfl)) Via.refl e27 F_aa_count (g := (mkF mM 18 #[.val (.ref aa), .val (.double (FP.i2d w1)), .second, .unset] [.ref aa, .int 0, .ref dd])) rfl rfl (hb hby d9_18)
  refine own_k T28 21 [.int 1, .int 0, .ref dd] st28 ?_
  refine own_j 22 [.int 1, .ref dd] (fun t_ k_ => XS.iadd X28.here hx rfl (hb hby d9_21) rfl k_) ?_
  refine o_bipush 24 10 X28 hx (hb hby d9_22) rfl rfl ?_
  refine own_j 25 [.int 1, .ref dd] (fun t_ k_ => iremM X28 hx rfl (hb hby d9_24) rfl (by decide) k_) ?_
  refine own_j 26 [(.double (FP.i2d w1)), .int 1, .ref dd] (fun t_ k_ => XS.dloadN X28.here hx rfl (hb hby d9_25) rfl k_) ?_
  obtain ⟨cl29, Ar29, q29, S29, Nn29, H29, G29⟩ := id A_dd
  obtain ⟨T30, h30, X30, e30, W30, st30⟩ := stD X28 hx hZ e28 Ar29 (j := (1 : Int32)) (inb_of S29 ⟨by decide, by decide⟩) (g := (mkF mM 26 #[.val (.ref aa), .val (.double (FP.i2d w1)), .second, .unset] [(.double (FP.i2d w1)), .int 1, .ref dd])) rfl rfl (hb hby d9_26)
  have N30 := Fr.snoc X30 N0 g_dd
  have F_aa_values := F_aa_values.other W30 (Or.inl nad)
  have F_aa_count := F_aa_count.other W30 (Or.inl nad)
  have F_aa_oldest := F_aa_oldest.other W30 (Or.inl nad)
  have F_aa_average := F_aa_average.other W30 (Or.inl nad)
  have E_aa := E_aa.wr W30
  have Kp := Kp.wr W30 (Or.inl (List.mem_of_getElem? (i := 1) rfl))
  have A_dd : Arv Z h30 dd kd .double 10 [(.double (FP.i2d w0)), (.double (FP.i2d w1)), .double 0, .double 0, .double 0, .double 0, .double 0, .double 0, .double 0, .double 0] (.double 0) := Arv.set Ar29 q29 S29 Nn29 H29 G29 rfl W30 1 rfl (Nat.le_of_ble_eq_true rfl)
  refine own_k T30 27 [] st30 ?_
  refine o_aloadN 28 X30 hx (hb hby d9_27) rfl rfl rfl ?_
  refine o_dup 29 X30 hx (hb hby d9_28) rfl rfl ?_
  obtain ⟨T31, X31, e31, st31⟩ := getF X30 hx hZ hown (host := "") (Or.inl (ow hw 46 rfl)) Via.refl e30 F_aa_count (g := (mkF mM 29 #[.val (.ref aa), .val (.double (FP.i2d w1)), .second, .unset] [.ref aa, .ref aa])) rfl rfl (hb hby d9_29)
  refine own_k T31 32 [.int 1, .ref aa] st31 ?_
  refine o_iconst 33 1 X31 hx (hb hby d9_32) rfl rfl ?_
  refine own_j 34 [.int 2, .ref aa] (fun t_ k_ => XS.iadd X31.here hx rfl (hb hby d9_33) rfl k_) ?_
  obtain ⟨T32, h32, X32, e32, W32, st32⟩ := putF X31 hx hZ hown (host := "") (Or.inl (ow hw 46 rfl)) Via.refl e31 F_aa_count E_aa (Or.inl (ow hw 47 rfl)) (ow hw 26 rfl) (ty := .int) (by decide) rfl rfl (g := (mkF mM 34 #[.val (.ref aa), .val (.double (FP.i2d w1)), .second, .unset] [.int 2, .ref aa])) rfl rfl (hb hby d9_34)
  have N32 := Fr.snoc X32 N30 g_aa
  have F_aa_values := F_aa_values.other W32 (Or.inr (slot_ne (Or.inr (ow hw 36 rfl)) (Or.inl (ow hw 47 rfl)) (by decide) (t := (.array .double)) (t' := .int) (by decide) (by decide)))
  have F_aa_count := F_aa_count.same W32
  have F_aa_oldest := F_aa_oldest.other W32 (Or.inr (slot_ne (Or.inl (ow hw 71 rfl)) (Or.inl (ow hw 47 rfl)) (by decide) (t := .int) (t' := .int) (by decide) (by decide)))
  have F_aa_average := F_aa_average.other W32 (Or.inr (slot_ne (Or.inl (ow hw 73 rfl)) (Or.inl (ow hw 47 rfl)) (by decide) (t := .double) (t' := .int) (by decide) (by decide)))
  have E_aa := E_aa.wr W32
  have A_dd := A_dd.other W32 (Ne.symm nad)
  have Kp := Kp.wr W32 (Or.inl (List.mem_of_getElem? (i := 0) rfl))
  refine own_k T32 37 [] st32 ?_
  refine o_goto 63 X32 hx (hb hby d9_37) (by decide) ?_
  refine o_aloadN 64 X32 hx (hb hby d9_63) rfl rfl rfl ?_
  refine o_aloadN 65 X32 hx (hb hby d9_64) rfl rfl rfl ?_
  obtain ⟨T33, X33, e33, st33⟩ := getF X32 hx hZ hown (host := "") (Or.inl (ow hw 35 rfl)) Via.refl e32 F_aa_values (g := (mkF mM 65 #[.val (.ref aa), .val (.double (FP.i2d w1)), .second, .unset] [.ref aa, .ref aa])) rfl rfl (hb hby d9_65)
  refine own_k T33 68 [.ref dd, .ref aa] st33 ?_
  refine o_aloadN 69 X33 hx (hb hby d9_68) rfl rfl rfl ?_
  obtain ⟨T34, X34, e34, st34⟩ := getF X33 hx hZ hown (host := "") (Or.inl (ow hw 70 rfl)) Via.refl e33 F_aa_oldest (g := (mkF mM 69 #[.val (.ref aa), .val (.double (FP.i2d w1)), .second, .unset] [.ref aa, .ref dd, .ref aa])) rfl rfl (hb hby d9_69)
  refine own_k T34 72 [.int 0, .ref dd, .ref aa] st34 ?_
  obtain ⟨cl35, Ar35, q35, S35, Nn35, H35, G35⟩ := id A_dd
  have hin35 : ¬ ((0 : Int32) < 0 ∨ cl35.slots.size ≤ ((0 : Int32)).toNatClampNeg) := inb_of S35 ⟨by decide, by decide⟩
  refine own_j 73 [(.double (FP.i2d w0)), .ref aa] (fun t_ k_ => X34.daload hx (j := (0 : Int32)) (v := (.double (FP.i2d w0))) (by rw [e34]; exact Ar35.1) (State.isArrayOf_alike hZ.alike Ar35.2.1) Ar35.2.2 hin35 (H35.at hin35 rfl) (g := (mkF mM 72 #[.val (.ref aa), .val (.double (FP.i2d w1)), .second, .unset] [.int 0, .ref dd, .ref aa])) rfl rfl (hb hby d9_72) t_ k_) ?_
  obtain ⟨T36, h36, X36, e36, W36, st36⟩ := putF X34 hx hZ hown (host := "") (Or.inl (ow hw 72 rfl)) Via.refl e34 F_aa_average E_aa (Or.inl (ow hw 73 rfl)) (ow hw 26 rfl) (ty := .double) (by decide) rfl rfl (g := (mkF mM 73 #[.val (.ref aa), .val (.double (FP.i2d w1)), .second, .unset] [(.double (FP.i2d w0)), .ref aa])) rfl rfl (hb hby d9_73)
  have N36 := Fr.snoc X36 N32 g_aa
  have F_aa_values := F_aa_values.other W36 (Or.inr (slot_ne (Or.inr (ow hw 36 rfl)) (Or.inl (ow hw 73 rfl)) (by decide) (t := (.array .double)) (t' := .double) (by decide) (by decide)))
  have F_aa_count := F_aa_count.other W36 (Or.inr (slot_ne (Or.inl (ow hw 47 rfl)) (Or.inl (ow hw 73 rfl)) (by decide) (t := .int) (t' := .double) (by decide) (by decide)))
  have F_aa_oldest := F_aa_oldest.other W36 (Or.inr (slot_ne (Or.inl (ow hw 71 rfl)) (Or.inl (ow hw 73 rfl)) (by decide) (t := .int) (t' := .double) (by decide) (by decide)))
  have F_aa_average := F_aa_average.same W36
  have E_aa := E_aa.wr W36
  have A_dd := A_dd.other W36 (Ne.symm nad)
  have Kp := Kp.wr W36 (Or.inl (List.mem_of_getElem? (i := 0) rfl))
  refine own_k T36 76 [] st36 ?_
  refine o_iconst 77 1 X36 hx (hb hby d9_76) rfl rfl ?_
  let Lv37 : Array Slot := #[.val (.ref aa), .val (.double (FP.i2d w1)), .second, .val (.int 1)]
  refine own_st (A := T36.setTop (mkF mM 78 Lv37 [])) (fun t_ k_ => XS.istoreN X36.here hx rfl (hb hby d9_77) rfl (l' := Lv37) rfl k_) ?_
  have av0 : Av (FP.i2d w0) w0.toInt 0 (32768 * 1) := own_av0 bl0 bu0
  obtain ⟨na, nb, nc, av1⟩ := own_stp (P := 1) bl1 bu1 av0 (by decide) (by decide) (by decide) (by decide)
  refine RT hw X36 hx hZ hby hml hown hlk hret e36 N36 aa dd kd _ 2 0 1 2 (FP.i2d w0) (FP.i2d w1) _ _ g_aa nad ⟨E_aa, F_aa_values, F_aa_count, F_aa_oldest, F_aa_average, A_dd⟩ (by decide) ⟨by decide, by decide⟩ rfl na nb nc rfl (fun T38 L38 h38 X38 e38 N38 K38 ra => ?_)
  have Kp := Kp.trans K38 (allS (Or.inl (List.mem_of_getElem? (i := 0) rfl)) (allS (Or.inl (List.mem_of_getElem? (i := 1) rfl)) all0))
  obtain ⟨E_aa, F_aa_values, F_aa_count, F_aa_oldest, F_aa_average, A_dd⟩ := ra
  refine o_iloadN 79 X38 hx (hb hby d9_78) rfl rfl ?_
  refine o_aloadN 80 X38 hx (hb hby d9_79) rfl rfl rfl ?_
  obtain ⟨T39, X39, e39, st39⟩ := getF X38 hx hZ hown (host := "") (Or.inl (ow hw 46 rfl)) Via.refl e38 F_aa_count (g := (mkF mM 80 #[.val (.ref aa), .val (.double (FP.i2d w1)), .second, .val (.int 2)] [.ref aa, .int 2])) rfl rfl (hb hby d9_80)
  refine own_k T39 83 [.int 2, .int 2] st39 ?_
  refine o_icmpYes 123 X39 hx (hb hby d9_83) (flt (by decide : ¬ ((2 : Int32) < (2 : Int32)))).2.1 (by decide) ?_
  exact own_retV X39 hx hlk hret (hb hby d9_123) (by rw [e39]; exact ⟨rfl, N38, Kp, E_aa, F_aa_values, F_aa_count, F_aa_oldest, F_aa_average, A_dd⟩) (by decide) (by decide)
theorem ef_rmA3 (mM : MethodId) (aa : Addr) (dd : Addr) (kd : ClassId) (gg : UInt64) (w0 : Int32) (w1 : Int32) (w2 : Int32) : entryFrame mM #[.ref aa, (.double (FP.i2d w2))] 4 = mkF mM 0 #[.val (.ref aa), .val (.double (FP.i2d w2)), .second, .unset] [] := by first | (simp [entryFrame, mkF, argsToLocals, Value.category]; done) | rfl
theorem rmA3 (lL : Launch) (Z : State) (a0 : Array Value) (hw : own_tb a0 Z) (ws : List Jvm.Cond) (aa : Addr) (dd : Addr) (kd : ClassId) (gg : UInt64) (w0 : Int32) (w1 : Int32) (w2 : Int32) (h0 : Heap) (n0 : Nat) (g_aa : n0 ≤ aa) (g_dd : n0 ≤ dd) (nad : aa ≠ dd) (ra : Ra Z h0 aa dd kd 2 0 gg [.double (FP.i2d w0), .double (FP.i2d w1), .double 0, .double 0, .double 0, .double 0, .double 0, .double 0, .double 0, .double 0]) (bl0 : -32768 ≤ w0.toInt) (bu0 : w0.toInt ≤ 32768) (bl1 : -32768 ≤ w1.toInt) (bu1 : w1.toInt ≤ 32768) (bl2 : -32768 ≤ w2.toInt) (bu2 : w2.toInt ≤ 32768) :
    own_Ct lL Z yn2 prog_71_method_2_code 4 none ws (⟨0, 0, 0, 0⟩ : Room) #[.ref aa, (.double (FP.i2d w2))] h0 (QA Z aa dd kd 3 0 (stp (FP.i2d w2) (stp (FP.i2d w1) (FP.i2d w0))) [.double (FP.i2d w0), .double (FP.i2d w1), .double (FP.i2d w2), .double 0, .double 0, .double 0, .double 0, .double 0, .double 0, .double 0] h0 n0) := by
  refine own_body (plainFor_of_name pn_com_2fexample_2fgleanwork_2fgleanwork_2fschedule_2fRecentAverage) 0 0 rfl rfl (fun mM => ef_rmA3 mM aa dd kd gg w0 w1 w2) fun pP eE sS mM below meth cC s₁ hZ hx hby hml hown hnm hret hlk X0 e0 => ?_
  have N0 := Fr.nil n0
  obtain ⟨E_aa, F_aa_values, F_aa_count, F_aa_oldest, F_aa_average, A_dd⟩ := ra
  have Kp := Keep.refl h0 [aa, dd]
  refine o_aloadN 1 X0 hx (hb hby d9_0) rfl rfl rfl ?_
  obtain ⟨T40, X40, e40, st40⟩ := getF X0 hx hZ hown (host := "") (Or.inl (ow hw 46 rfl)) Via.refl e0 F_aa_count (g := (mkF mM 1 #[.val (.ref aa), .val (.double (FP.i2d w2)), .second, .unset] [.ref aa])) rfl rfl (hb hby d9_1)
  refine own_k T40 4 [.int 2] st40 ?_
  refine o_bipush 6 10 X40 hx (hb hby d9_4) rfl rfl ?_
  refine o_icmpNo 9 X40 hx (hb hby d9_6) (tlt (by decide : ((2 : Int32) < (10 : Int32)))).2.1 rfl ?_
  refine o_aloadN 10 X40 hx (hb hby d9_9) rfl rfl rfl ?_
  obtain ⟨T41, X41, e41, st41⟩ := getF X40 hx hZ hown (host := "") (Or.inl (ow hw 35 rfl)) Via.refl e40 F_aa_values (g := (mkF mM 10 #[.val (.ref aa), .val (.double (FP.i2d w2)), .second, .unset] [.ref aa])) rfl rfl (hb hby d9_10)
  refine own_k T41 13 [.ref dd] st41 ?_
  refine o_aloadN 14 X41 hx (hb hby d9_13) rfl rfl rfl ?_
  obtain ⟨T42, X42, e42, st42⟩ := getF X41 hx hZ hown (host := "") (Or.inl (ow hw 70 rfl)) Via.refl e41 F_aa_oldest (g := (mkF mM 14 #[.val (.ref aa), .val (.double (FP.i2d w2)), .second, .unset] [.ref aa, .ref dd])) rfl rfl (hb hby d9_14)
  refine own_k T42 17 [.int 0, .ref dd] st42 ?_
  refine o_aloadN 18 X42 hx (hb hby d9_17) rfl rfl rfl ?_
  obtain ⟨T43, X43, e43, st43⟩ := getF X42 hx hZ hown (host := "") (Or.inl (ow hw 46 rfl)) Via.refl e42 F_aa_count (g := (mkF mM 18 #[.val (.ref aa), .val (.double (FP.i2d w2)), .second, .unset] [.ref aa, .int 0, .ref dd])) rfl rfl (hb hby d9_18)
  refine own_k T43 21 [.int 2, .int 0, .ref dd] st43 ?_
  refine own_j 22 [.int 2, .ref dd] (fun t_ k_ => XS.iadd X43.here hx rfl (hb hby d9_21) rfl k_) ?_
  refine o_bipush 24 10 X43 hx (hb hby d9_22) rfl rfl ?_
  refine own_j 25 [.int 2, .ref dd] (fun t_ k_ => iremM X43 hx rfl (hb hby d9_24) rfl (by decide) k_) ?_
  refine own_j 26 [(.double (FP.i2d w2)), .int 2, .ref dd] (fun t_ k_ => XS.dloadN X43.here hx rfl (hb hby d9_25) rfl k_) ?_
  obtain ⟨cl44, Ar44, q44, S44, Nn44, H44, G44⟩ := id A_dd
  obtain ⟨T45, h45, X45, e45, W45, st45⟩ := stD X43 hx hZ e43 Ar44 (j := (2 : Int32)) (inb_of S44 ⟨by decide, by decide⟩) (g := (mkF mM 26 #[.val (.ref aa), .val (.double (FP.i2d w2)), .second, .unset] [(.double (FP.i2d w2)), .int 2, .ref dd])) rfl rfl (hb hby d9_26)
  have N45 := Fr.snoc X45 N0 g_dd
  have F_aa_values := F_aa_values.other W45 (Or.inl nad)
  have F_aa_count := F_aa_count.other W45 (Or.inl nad)
  have F_aa_oldest := F_aa_oldest.other W45 (Or.inl nad)
  have F_aa_average := F_aa_average.other W45 (Or.inl nad)
  have E_aa := E_aa.wr W45
  have Kp := Kp.wr W45 (Or.inl (List.mem_of_getElem? (i := 1) rfl))
  have A_dd : Arv Z h45 dd kd .double 10 [(.double (FP.i2d w0)), (.double (FP.i2d w1)), (.double (FP.i2d w2)), .double 0, .double 0, .double 0, .double 0, .double 0, .double 0, .double 0] (.double 0) := Arv.set Ar44 q44 S44 Nn44 H44 G44 rfl W45 2 rfl (Nat.le_of_ble_eq_true rfl)
  refine own_k T45 27 [] st45 ?_
  refine o_aloadN 28 X45 hx (hb hby d9_27) rfl rfl rfl ?_
  refine o_dup 29 X45 hx (hb hby d9_28) rfl rfl ?_
  obtain ⟨T46, X46, e46, st46⟩ := getF X45 hx hZ hown (host := "") (Or.inl (ow hw 46 rfl)) Via.refl e45 F_aa_count (g := (mkF mM 29 #[.val (.ref aa), .val (.double (FP.i2d w2)), .second, .unset] [.ref aa, .ref aa])) rfl rfl (hb hby d9_29)
  refine own_k T46 32 [.int 2, .ref aa] st46 ?_
  refine o_iconst 33 1 X46 hx (hb hby d9_32) rfl rfl ?_
  refine own_j 34 [.int 3, .ref aa] (fun t_ k_ => XS.iadd X46.here hx rfl (hb hby d9_33) rfl k_) ?_
  obtain ⟨T47, h47, X47, e47, W47, st47⟩ := putF X46 hx hZ hown (host := "") (Or.inl (ow hw 46 rfl)) Via.refl e46 F_aa_count E_aa (Or.inl (ow hw 47 rfl)) (ow hw 26 rfl) (ty := .int) (by decide) rfl rfl (g := (mkF mM 34 #[.val (.ref aa), .val (.double (FP.i2d w2)), .second, .unset] [.int 3, .ref aa])) rfl rfl (hb hby d9_34)
  have N47 := Fr.snoc X47 N45 g_aa
  have F_aa_values := F_aa_values.other W47 (Or.inr (slot_ne (Or.inr (ow hw 36 rfl)) (Or.inl (ow hw 47 rfl)) (by decide) (t := (.array .double)) (t' := .int) (by decide) (by decide)))
  have F_aa_count := F_aa_count.same W47
  have F_aa_oldest := F_aa_oldest.other W47 (Or.inr (slot_ne (Or.inl (ow hw 71 rfl)) (Or.inl (ow hw 47 rfl)) (by decide) (t := .int) (t' := .int) (by decide) (by decide)))
  have F_aa_average := F_aa_average.other W47 (Or.inr (slot_ne (Or.inl (ow hw 73 rfl)) (Or.inl (ow hw 47 rfl)) (by decide) (t := .double) (t' := .int) (by decide) (by decide)))
  have E_aa := E_aa.wr W47
  have A_dd := A_dd.other W47 (Ne.symm nad)
  have Kp := Kp.wr W47 (Or.inl (List.mem_of_getElem? (i := 0) rfl))
  refine own_k T47 37 [] st47 ?_
  refine o_goto 63 X47 hx (hb hby d9_37) (by decide) ?_
  refine o_aloadN 64 X47 hx (hb hby d9_63) rfl rfl rfl ?_
  refine o_aloadN 65 X47 hx (hb hby d9_64) rfl rfl rfl ?_
  obtain ⟨T48, X48, e48, st48⟩ := getF X47 hx hZ hown (host := "") (Or.inl (ow hw 35 rfl)) Via.refl e47 F_aa_values (g := (mkF mM 65 #[.val (.ref aa), .val (.double (FP.i2d w2)), .second, .unset] [.ref aa, .ref aa])) rfl rfl (hb hby d9_65)
  refine own_k T48 68 [.ref dd, .ref aa] st48 ?_
  refine o_aloadN 69 X48 hx (hb hby d9_68) rfl rfl rfl ?_
  obtain ⟨T49, X49, e49, st49⟩ := getF X48 hx hZ hown (host := "") (Or.inl (ow hw 70 rfl)) Via.refl e48 F_aa_oldest (g := (mkF mM 69 #[.val (.ref aa), .val (.double (FP.i2d w2)), .second, .unset] [.ref aa, .ref dd, .ref aa])) rfl rfl (hb hby d9_69)
  refine own_k T49 72 [.int 0, .ref dd, .ref aa] st49 ?_
  obtain ⟨cl50, Ar50, q50, S50, Nn50, H50, G50⟩ := id A_dd
  have hin50 : ¬ ((0 : Int32) < 0 ∨ cl50.slots.size ≤ ((0 : Int32)).toNatClampNeg) := inb_of S50 ⟨by decide, by decide⟩
  refine own_j 73 [(.double (FP.i2d w0)), .ref aa] (fun t_ k_ => X49.daload hx (j := (0 : Int32)) (v := (.double (FP.i2d w0))) (by rw [e49]; exact Ar50.1) (State.isArrayOf_alike hZ.alike Ar50.2.1) Ar50.2.2 hin50 (H50.at hin50 rfl) (g := (mkF mM 72 #[.val (.ref aa), .val (.double (FP.i2d w2)), .second, .unset] [.int 0, .ref dd, .ref aa])) rfl rfl (hb hby d9_72) t_ k_) ?_
  obtain ⟨T51, h51, X51, e51, W51, st51⟩ := putF X49 hx hZ hown (host := "") (Or.inl (ow hw 72 rfl)) Via.refl e49 F_aa_average E_aa (Or.inl (ow hw 73 rfl)) (ow hw 26 rfl) (ty := .double) (by decide) rfl rfl (g := (mkF mM 73 #[.val (.ref aa), .val (.double (FP.i2d w2)), .second, .unset] [(.double (FP.i2d w0)), .ref aa])) rfl rfl (hb hby d9_73)
  have N51 := Fr.snoc X51 N47 g_aa
  have F_aa_values := F_aa_values.other W51 (Or.inr (slot_ne (Or.inr (ow hw 36 rfl)) (Or.inl (ow hw 73 rfl)) (by decide) (t := (.array .double)) (t' := .double) (by decide) (by decide)))
  have F_aa_count := F_aa_count.other W51 (Or.inr (slot_ne (Or.inl (ow hw 47 rfl)) (Or.inl (ow hw 73 rfl)) (by decide) (t := .int) (t' := .double) (by decide) (by decide)))
  have F_aa_oldest := F_aa_oldest.other W51 (Or.inr (slot_ne (Or.inl (ow hw 71 rfl)) (Or.inl (ow hw 73 rfl)) (by decide) (t := .int) (t' := .double) (by decide) (by decide)))
  have F_aa_average := F_aa_average.same W51
  have E_aa := E_aa.wr W51
  have A_dd := A_dd.other W51 (Ne.symm nad)
  have Kp := Kp.wr W51 (Or.inl (List.mem_of_getElem? (i := 0) rfl))
  refine own_k T51 76 [] st51 ?_
  refine o_iconst 77 1 X51 hx (hb hby d9_76) rfl rfl ?_
  let Lv52 : Array Slot := #[.val (.ref aa), .val (.double (FP.i2d w2)), .second, .val (.int 1)]
  refine own_st (A := T51.setTop (mkF mM 78 Lv52 [])) (fun t_ k_ => XS.istoreN X51.here hx rfl (hb hby d9_77) rfl (l' := Lv52) rfl k_) ?_
  have av0 : Av (FP.i2d w0) w0.toInt 0 (32768 * 1) := own_av0 bl0 bu0
  obtain ⟨na, nb, nc, av1⟩ := own_stp (P := 1) bl1 bu1 av0 (by decide) (by decide) (by decide) (by decide)
  have av1 : Av _ (1 * w1.toInt + 3 * w0.toInt) 1 (32768 * 4) := av1
  refine RT hw X51 hx hZ hby hml hown hlk hret e51 N51 aa dd kd _ 3 0 1 2 (FP.i2d w0) (FP.i2d w1) _ _ g_aa nad ⟨E_aa, F_aa_values, F_aa_count, F_aa_oldest, F_aa_average, A_dd⟩ (by decide) ⟨by decide, by decide⟩ rfl na nb nc rfl (fun T53 L53 h53 X53 e53 N53 K53 ra => ?_)
  have Kp := Kp.trans K53 (allS (Or.inl (List.mem_of_getElem? (i := 0) rfl)) (allS (Or.inl (List.mem_of_getElem? (i := 1) rfl)) all0))
  obtain ⟨na, nb, nc, av2⟩ := own_stp (P := 4) bl2 bu2 av1 (by decide) (by decide) (by decide) (by decide)
  refine RT hw X53 hx hZ hby hml hown hlk hret e53 N53 aa dd kd _ 3 0 2 3 (stp (FP.i2d w1) (FP.i2d w0)) (FP.i2d w2) _ _ g_aa nad ra (by decide) ⟨by decide, by decide⟩ rfl na nb nc rfl (fun T54 L54 h54 X54 e54 N54 K54 ra => ?_)
  have Kp := Kp.trans K54 (allS (Or.inl (List.mem_of_getElem? (i := 0) rfl)) (allS (Or.inl (List.mem_of_getElem? (i := 1) rfl)) all0))
  obtain ⟨E_aa, F_aa_values, F_aa_count, F_aa_oldest, F_aa_average, A_dd⟩ := ra
  refine o_iloadN 79 X54 hx (hb hby d9_78) rfl rfl ?_
  refine o_aloadN 80 X54 hx (hb hby d9_79) rfl rfl rfl ?_
  obtain ⟨T55, X55, e55, st55⟩ := getF X54 hx hZ hown (host := "") (Or.inl (ow hw 46 rfl)) Via.refl e54 F_aa_count (g := (mkF mM 80 #[.val (.ref aa), .val (.double (FP.i2d w2)), .second, .val (.int 3)] [.ref aa, .int 3])) rfl rfl (hb hby d9_80)
  refine own_k T55 83 [.int 3, .int 3] st55 ?_
  refine o_icmpYes 123 X55 hx (hb hby d9_83) (flt (by decide : ¬ ((3 : Int32) < (3 : Int32)))).2.1 (by decide) ?_
  exact own_retV X55 hx hlk hret (hb hby d9_123) (by rw [e55]; exact ⟨rfl, N54, Kp, E_aa, F_aa_values, F_aa_count, F_aa_oldest, F_aa_average, A_dd⟩) (by decide) (by decide)
theorem ef_rmA4 (mM : MethodId) (aa : Addr) (dd : Addr) (kd : ClassId) (gg : UInt64) (w0 : Int32) (w1 : Int32) (w2 : Int32) (w3 : Int32) : entryFrame mM #[.ref aa, (.double (FP.i2d w3))] 4 = mkF mM 0 #[.val (.ref aa), .val (.double (FP.i2d w3)), .second, .unset] [] := by first | (simp [entryFrame, mkF, argsToLocals, Value.category]; done) | rfl
theorem rmA4 (lL : Launch) (Z : State) (a0 : Array Value) (hw : own_tb a0 Z) (ws : List Jvm.Cond) (aa : Addr) (dd : Addr) (kd : ClassId) (gg : UInt64) (w0 : Int32) (w1 : Int32) (w2 : Int32) (w3 : Int32) (h0 : Heap) (n0 : Nat) (g_aa : n0 ≤ aa) (g_dd : n0 ≤ dd) (nad : aa ≠ dd) (ra : Ra Z h0 aa dd kd 3 0 gg [.double (FP.i2d w0), .double (FP.i2d w1), .double (FP.i2d w2), .double 0, .double 0, .double 0, .double 0, .double 0, .double 0, .double 0]) (bl0 : -32768 ≤ w0.toInt) (bu0 : w0.toInt ≤ 32768) (bl1 : -32768 ≤ w1.toInt) (bu1 : w1.toInt ≤ 32768) (bl2 : -32768 ≤ w2.toInt) (bu2 : w2.toInt ≤ 32768) (bl3 : -32768 ≤ w3.toInt) (bu3 : w3.toInt ≤ 32768) :
    own_Ct lL Z yn2 prog_71_method_2_code 4 none ws (⟨0, 0, 0, 0⟩ : Room) #[.ref aa, (.double (FP.i2d w3))] h0 (QA Z aa dd kd 4 0 (stp (FP.i2d w3) (stp (FP.i2d w2) (stp (FP.i2d w1) (FP.i2d w0)))) [.double (FP.i2d w0), .double (FP.i2d w1), .double (FP.i2d w2), .double (FP.i2d w3), .double 0, .double 0, .double 0, .double 0, .double 0, .double 0] h0 n0) := by
  refine own_body (plainFor_of_name pn_com_2fexample_2fgleanwork_2fgleanwork_2fschedule_2fRecentAverage) 0 0 rfl rfl (fun mM => ef_rmA4 mM aa dd kd gg w0 w1 w2 w3) fun pP eE sS mM below meth cC s₁ hZ hx hby hml hown hnm hret hlk X0 e0 => ?_
  have N0 := Fr.nil n0
  obtain ⟨E_aa, F_aa_values, F_aa_count, F_aa_oldest, F_aa_average, A_dd⟩ := ra
  have Kp := Keep.refl h0 [aa, dd]
  refine o_aloadN 1 X0 hx (hb hby d9_0) rfl rfl rfl ?_
  obtain ⟨T56, X56, e56, st56⟩ := getF X0 hx hZ hown (host := "") (Or.inl (ow hw 46 rfl)) Via.refl e0 F_aa_count (g := (mkF mM 1 #[.val (.ref aa), .val (.double (FP.i2d w3)), .second, .unset] [.ref aa])) rfl rfl (hb hby d9_1)
  refine own_k T56 4 [.int 3] st56 ?_
  refine o_bipush 6 10 X56 hx (hb hby d9_4) rfl rfl ?_
  refine o_icmpNo 9 X56 hx (hb hby d9_6) (tlt (by decide : ((3 : Int32) < (10 : Int32)))).2.1 rfl ?_
  refine o_aloadN 10 X56 hx (hb hby d9_9) rfl rfl rfl ?_
  obtain ⟨T57, X57, e57, st57⟩ := getF X56 hx hZ hown (host := "") (Or.inl (ow hw 35 rfl)) Via.refl e56 F_aa_values (g := (mkF mM 10 #[.val (.ref aa), .val (.double (FP.i2d w3)), .second, .unset] [.ref aa])) rfl rfl (hb hby d9_10)
  refine own_k T57 13 [.ref dd] st57 ?_
  refine o_aloadN 14 X57 hx (hb hby d9_13) rfl rfl rfl ?_
  obtain ⟨T58, X58, e58, st58⟩ := getF X57 hx hZ hown (host := "") (Or.inl (ow hw 70 rfl)) Via.refl e57 F_aa_oldest (g := (mkF mM 14 #[.val (.ref aa), .val (.double (FP.i2d w3)), .second, .unset] [.ref aa, .ref dd])) rfl rfl (hb hby d9_14)
  refine own_k T58 17 [.int 0, .ref dd] st58 ?_
  refine o_aloadN 18 X58 hx (hb hby d9_17) rfl rfl rfl ?_
  obtain ⟨T59, X59, e59, st59⟩ := getF X58 hx hZ hown (host := "") (Or.inl (ow hw 46 rfl)) Via.refl e58 F_aa_count (g := (mkF mM 18 #[.val (.ref aa), .val (.double (FP.i2d w3)), .second, .unset] [.ref aa, .int 0, .ref dd])) rfl rfl (hb hby d9_18)
  refine own_k T59 21 [.int 3, .int 0, .ref dd] st59 ?_
  refine own_j 22 [.int 3, .ref dd] (fun t_ k_ => XS.iadd X59.here hx rfl (hb hby d9_21) rfl k_) ?_
  refine o_bipush 24 10 X59 hx (hb hby d9_22) rfl rfl ?_
  refine own_j 25 [.int 3, .ref dd] (fun t_ k_ => iremM X59 hx rfl (hb hby d9_24) rfl (by decide) k_) ?_
  refine own_j 26 [(.double (FP.i2d w3)), .int 3, .ref dd] (fun t_ k_ => XS.dloadN X59.here hx rfl (hb hby d9_25) rfl k_) ?_
  obtain ⟨cl60, Ar60, q60, S60, Nn60, H60, G60⟩ := id A_dd
  obtain ⟨T61, h61, X61, e61, W61, st61⟩ := stD X59 hx hZ e59 Ar60 (j := (3 : Int32)) (inb_of S60 ⟨by decide, by decide⟩) (g := (mkF mM 26 #[.val (.ref aa), .val (.double (FP.i2d w3)), .second, .unset] [(.double (FP.i2d w3)), .int 3, .ref dd])) rfl rfl (hb hby d9_26)
  have N61 := Fr.snoc X61 N0 g_dd
  have F_aa_values := F_aa_values.other W61 (Or.inl nad)
  have F_aa_count := F_aa_count.other W61 (Or.inl nad)
  have F_aa_oldest := F_aa_oldest.other W61 (Or.inl nad)
  have F_aa_average := F_aa_average.other W61 (Or.inl nad)
  have E_aa := E_aa.wr W61
  have Kp := Kp.wr W61 (Or.inl (List.mem_of_getElem? (i := 1) rfl))
  have A_dd : Arv Z h61 dd kd .double 10 [(.double (FP.i2d w0)), (.double (FP.i2d w1)), (.double (FP.i2d w2)), (.double (FP.i2d w3)), .double 0, .double 0, .double 0, .double 0, .double 0, .double 0] (.double 0) := Arv.set Ar60 q60 S60 Nn60 H60 G60 rfl W61 3 rfl (Nat.le_of_ble_eq_true rfl)
  refine own_k T61 27 [] st61 ?_
  refine o_aloadN 28 X61 hx (hb hby d9_27) rfl rfl rfl ?_
  refine o_dup 29 X61 hx (hb hby d9_28) rfl rfl ?_
  obtain ⟨T62, X62, e62, st62⟩ := getF X61 hx hZ hown (host := "") (Or.inl (ow hw 46 rfl)) Via.refl e61 F_aa_count (g := (mkF mM 29 #[.val (.ref aa), .val (.double (FP.i2d w3)), .second, .unset] [.ref aa, .ref aa])) rfl rfl (hb hby d9_29)
  refine own_k T62 32 [.int 3, .ref aa] st62 ?_
  refine o_iconst 33 1 X62 hx (hb hby d9_32) rfl rfl ?_
  refine own_j 34 [.int 4, .ref aa] (fun t_ k_ => XS.iadd X62.here hx rfl (hb hby d9_33) rfl k_) ?_
  obtain ⟨T63, h63, X63, e63, W63, st63⟩ := putF X62 hx hZ hown (host := "") (Or.inl (ow hw 46 rfl)) Via.refl e62 F_aa_count E_aa (Or.inl (ow hw 47 rfl)) (ow hw 26 rfl) (ty := .int) (by decide) rfl rfl (g := (mkF mM 34 #[.val (.ref aa), .val (.double (FP.i2d w3)), .second, .unset] [.int 4, .ref aa])) rfl rfl (hb hby d9_34)
  have N63 := Fr.snoc X63 N61 g_aa
  have F_aa_values := F_aa_values.other W63 (Or.inr (slot_ne (Or.inr (ow hw 36 rfl)) (Or.inl (ow hw 47 rfl)) (by decide) (t := (.array .double)) (t' := .int) (by decide) (by decide)))
  have F_aa_count := F_aa_count.same W63
  have F_aa_oldest := F_aa_oldest.other W63 (Or.inr (slot_ne (Or.inl (ow hw 71 rfl)) (Or.inl (ow hw 47 rfl)) (by decide) (t := .int) (t' := .int) (by decide) (by decide)))
  have F_aa_average := F_aa_average.other W63 (Or.inr (slot_ne (Or.inl (ow hw 73 rfl)) (Or.inl (ow hw 47 rfl)) (by decide) (t := .double) (t' := .int) (by decide) (by decide)))
  have E_aa := E_aa.wr W63
  have A_dd := A_dd.other W63 (Ne.symm nad)
  have Kp := Kp.wr W63 (Or.inl (List.mem_of_getElem? (i := 0) rfl))
  refine own_k T63 37 [] st63 ?_
  refine o_goto 63 X63 hx (hb hby d9_37) (by decide) ?_
  refine o_aloadN 64 X63 hx (hb hby d9_63) rfl rfl rfl ?_
  refine o_aloadN 65 X63 hx (hb hby d9_64) rfl rfl rfl ?_
  obtain ⟨T64, X64, e64, st64⟩ := getF X63 hx hZ hown (host := "") (Or.inl (ow hw 35 rfl)) Via.refl e63 F_aa_values (g := (mkF mM 65 #[.val (.ref aa), .val (.double (FP.i2d w3)), .second, .unset] [.ref aa, .ref aa])) rfl rfl (hb hby d9_65)
  refine own_k T64 68 [.ref dd, .ref aa] st64 ?_
  refine o_aloadN 69 X64 hx (hb hby d9_68) rfl rfl rfl ?_
  obtain ⟨T65, X65, e65, st65⟩ := getF X64 hx hZ hown (host := "") (Or.inl (ow hw 70 rfl)) Via.refl e64 F_aa_oldest (g := (mkF mM 69 #[.val (.ref aa), .val (.double (FP.i2d w3)), .second, .unset] [.ref aa, .ref dd, .ref aa])) rfl rfl (hb hby d9_69)
  refine own_k T65 72 [.int 0, .ref dd, .ref aa] st65 ?_
  obtain ⟨cl66, Ar66, q66, S66, Nn66, H66, G66⟩ := id A_dd
  have hin66 : ¬ ((0 : Int32) < 0 ∨ cl66.slots.size ≤ ((0 : Int32)).toNatClampNeg) := inb_of S66 ⟨by decide, by decide⟩
  refine own_j 73 [(.double (FP.i2d w0)), .ref aa] (fun t_ k_ => X65.daload hx (j := (0 : Int32)) (v := (.double (FP.i2d w0))) (by rw [e65]; exact Ar66.1) (State.isArrayOf_alike hZ.alike Ar66.2.1) Ar66.2.2 hin66 (H66.at hin66 rfl) (g := (mkF mM 72 #[.val (.ref aa), .val (.double (FP.i2d w3)), .second, .unset] [.int 0, .ref dd, .ref aa])) rfl rfl (hb hby d9_72) t_ k_) ?_
  obtain ⟨T67, h67, X67, e67, W67, st67⟩ := putF X65 hx hZ hown (host := "") (Or.inl (ow hw 72 rfl)) Via.refl e65 F_aa_average E_aa (Or.inl (ow hw 73 rfl)) (ow hw 26 rfl) (ty := .double) (by decide) rfl rfl (g := (mkF mM 73 #[.val (.ref aa), .val (.double (FP.i2d w3)), .second, .unset] [(.double (FP.i2d w0)), .ref aa])) rfl rfl (hb hby d9_73)
  have N67 := Fr.snoc X67 N63 g_aa
  have F_aa_values := F_aa_values.other W67 (Or.inr (slot_ne (Or.inr (ow hw 36 rfl)) (Or.inl (ow hw 73 rfl)) (by decide) (t := (.array .double)) (t' := .double) (by decide) (by decide)))
  have F_aa_count := F_aa_count.other W67 (Or.inr (slot_ne (Or.inl (ow hw 47 rfl)) (Or.inl (ow hw 73 rfl)) (by decide) (t := .int) (t' := .double) (by decide) (by decide)))
  have F_aa_oldest := F_aa_oldest.other W67 (Or.inr (slot_ne (Or.inl (ow hw 71 rfl)) (Or.inl (ow hw 73 rfl)) (by decide) (t := .int) (t' := .double) (by decide) (by decide)))
  have F_aa_average := F_aa_average.same W67
  have E_aa := E_aa.wr W67
  have A_dd := A_dd.other W67 (Ne.symm nad)
  have Kp := Kp.wr W67 (Or.inl (List.mem_of_getElem? (i := 0) rfl))
  refine own_k T67 76 [] st67 ?_
  refine o_iconst 77 1 X67 hx (hb hby d9_76) rfl rfl ?_
  let Lv68 : Array Slot := #[.val (.ref aa), .val (.double (FP.i2d w3)), .second, .val (.int 1)]
  refine own_st (A := T67.setTop (mkF mM 78 Lv68 [])) (fun t_ k_ => XS.istoreN X67.here hx rfl (hb hby d9_77) rfl (l' := Lv68) rfl k_) ?_
  have av0 : Av (FP.i2d w0) w0.toInt 0 (32768 * 1) := own_av0 bl0 bu0
  obtain ⟨na, nb, nc, av1⟩ := own_stp (P := 1) bl1 bu1 av0 (by decide) (by decide) (by decide) (by decide)
  have av1 : Av _ (1 * w1.toInt + 3 * w0.toInt) 1 (32768 * 4) := av1
  refine RT hw X67 hx hZ hby hml hown hlk hret e67 N67 aa dd kd _ 4 0 1 2 (FP.i2d w0) (FP.i2d w1) _ _ g_aa nad ⟨E_aa, F_aa_values, F_aa_count, F_aa_oldest, F_aa_average, A_dd⟩ (by decide) ⟨by decide, by decide⟩ rfl na nb nc rfl (fun T69 L69 h69 X69 e69 N69 K69 ra => ?_)
  have Kp := Kp.trans K69 (allS (Or.inl (List.mem_of_getElem? (i := 0) rfl)) (allS (Or.inl (List.mem_of_getElem? (i := 1) rfl)) all0))
  obtain ⟨na, nb, nc, av2⟩ := own_stp (P := 4) bl2 bu2 av1 (by decide) (by decide) (by decide) (by decide)
  have av2 : Av _ (4 * w2.toInt + 3 * (1 * w1.toInt + 3 * w0.toInt)) 2 (32768 * 16) := av2
  refine RT hw X69 hx hZ hby hml hown hlk hret e69 N69 aa dd kd _ 4 0 2 3 (stp (FP.i2d w1) (FP.i2d w0)) (FP.i2d w2) _ _ g_aa nad ra (by decide) ⟨by decide, by decide⟩ rfl na nb nc rfl (fun T70 L70 h70 X70 e70 N70 K70 ra => ?_)
  have Kp := Kp.trans K70 (allS (Or.inl (List.mem_of_getElem? (i := 0) rfl)) (allS (Or.inl (List.mem_of_getElem? (i := 1) rfl)) all0))
  obtain ⟨na, nb, nc, av3⟩ := own_stp (P := 16) bl3 bu3 av2 (by decide) (by decide) (by decide) (by decide)
  refine RT hw X70 hx hZ hby hml hown hlk hret e70 N70 aa dd kd _ 4 0 3 4 (stp (FP.i2d w2) (stp (FP.i2d w1) (FP.i2d w0))) (FP.i2d w3) _ _ g_aa nad ra (by decide) ⟨by decide, by decide⟩ rfl na nb nc rfl (fun T71 L71 h71 X71 e71 N71 K71 ra => ?_)
  have Kp := Kp.trans K71 (allS (Or.inl (List.mem_of_getElem? (i := 0) rfl)) (allS (Or.inl (List.mem_of_getElem? (i := 1) rfl)) all0))
  obtain ⟨E_aa, F_aa_values, F_aa_count, F_aa_oldest, F_aa_average, A_dd⟩ := ra
  refine o_iloadN 79 X71 hx (hb hby d9_78) rfl rfl ?_
  refine o_aloadN 80 X71 hx (hb hby d9_79) rfl rfl rfl ?_
  obtain ⟨T72, X72, e72, st72⟩ := getF X71 hx hZ hown (host := "") (Or.inl (ow hw 46 rfl)) Via.refl e71 F_aa_count (g := (mkF mM 80 #[.val (.ref aa), .val (.double (FP.i2d w3)), .second, .val (.int 4)] [.ref aa, .int 4])) rfl rfl (hb hby d9_80)
  refine own_k T72 83 [.int 4, .int 4] st72 ?_
  refine o_icmpYes 123 X72 hx (hb hby d9_83) (flt (by decide : ¬ ((4 : Int32) < (4 : Int32)))).2.1 (by decide) ?_
  exact own_retV X72 hx hlk hret (hb hby d9_123) (by rw [e72]; exact ⟨rfl, N71, Kp, E_aa, F_aa_values, F_aa_count, F_aa_oldest, F_aa_average, A_dd⟩) (by decide) (by decide)
theorem ef_rmA5 (mM : MethodId) (aa : Addr) (dd : Addr) (kd : ClassId) (gg : UInt64) (w0 : Int32) (w1 : Int32) (w2 : Int32) (w3 : Int32) (w4 : Int32) : entryFrame mM #[.ref aa, (.double (FP.i2d w4))] 4 = mkF mM 0 #[.val (.ref aa), .val (.double (FP.i2d w4)), .second, .unset] [] := by first | (simp [entryFrame, mkF, argsToLocals, Value.category]; done) | rfl
theorem rmA5 (lL : Launch) (Z : State) (a0 : Array Value) (hw : own_tb a0 Z) (ws : List Jvm.Cond) (aa : Addr) (dd : Addr) (kd : ClassId) (gg : UInt64) (w0 : Int32) (w1 : Int32) (w2 : Int32) (w3 : Int32) (w4 : Int32) (h0 : Heap) (n0 : Nat) (g_aa : n0 ≤ aa) (g_dd : n0 ≤ dd) (nad : aa ≠ dd) (ra : Ra Z h0 aa dd kd 4 0 gg [.double (FP.i2d w0), .double (FP.i2d w1), .double (FP.i2d w2), .double (FP.i2d w3), .double 0, .double 0, .double 0, .double 0, .double 0, .double 0]) (bl0 : -32768 ≤ w0.toInt) (bu0 : w0.toInt ≤ 32768) (bl1 : -32768 ≤ w1.toInt) (bu1 : w1.toInt ≤ 32768) (bl2 : -32768 ≤ w2.toInt) (bu2 : w2.toInt ≤ 32768) (bl3 : -32768 ≤ w3.toInt) (bu3 : w3.toInt ≤ 32768) (bl4 : -32768 ≤ w4.toInt) (bu4 : w4.toInt ≤ 32768) :
    own_Ct lL Z yn2 prog_71_method_2_code 4 none ws (⟨0, 0, 0, 0⟩ : Room) #[.ref aa, (.double (FP.i2d w4))] h0 (QA Z aa dd kd 5 0 (stp (FP.i2d w4) (stp (FP.i2d w3) (stp (FP.i2d w2) (stp (FP.i2d w1) (FP.i2d w0))))) [.double (FP.i2d w0), .double (FP.i2d w1), .double (FP.i2d w2), .double (FP.i2d w3), .double (FP.i2d w4), .double 0, .double 0, .double 0, .double 0, .double 0] h0 n0) := by
  refine own_body (plainFor_of_name pn_com_2fexample_2fgleanwork_2fgleanwork_2fschedule_2fRecentAverage) 0 0 rfl rfl (fun mM => ef_rmA5 mM aa dd kd gg w0 w1 w2 w3 w4) fun pP eE sS mM below meth cC s₁ hZ hx hby hml hown hnm hret hlk X0 e0 => ?_
  have N0 := Fr.nil n0
  obtain ⟨E_aa, F_aa_values, F_aa_count, F_aa_oldest, F_aa_average, A_dd⟩ := ra
  have Kp := Keep.refl h0 [aa, dd]
  refine o_aloadN 1 X0 hx (hb hby d9_0) rfl rfl rfl ?_
  obtain ⟨T73, X73, e73, st73⟩ := getF X0 hx hZ hown (host := "") (Or.inl (ow hw 46 rfl)) Via.refl e0 F_aa_count (g := (mkF mM 1 #[.val (.ref aa), .val (.double (FP.i2d w4)), .second, .unset] [.ref aa])) rfl rfl (hb hby d9_1)
  refine own_k T73 4 [.int 4] st73 ?_
  refine o_bipush 6 10 X73 hx (hb hby d9_4) rfl rfl ?_
  refine o_icmpNo 9 X73 hx (hb hby d9_6) (tlt (by decide : ((4 : Int32) < (10 : Int32)))).2.1 rfl ?_
  refine o_aloadN 10 X73 hx (hb hby d9_9) rfl rfl rfl ?_
  obtain ⟨T74, X74, e74, st74⟩ := getF X73 hx hZ hown (host := "") (Or.inl (ow hw 35 rfl)) Via.refl e73 F_aa_values (g := (mkF mM 10 #[.val (.ref aa), .val (.double (FP.i2d w4)), .second, .unset] [.ref aa])) rfl rfl (hb hby d9_10)
  refine own_k T74 13 [.ref dd] st74 ?_
  refine o_aloadN 14 X74 hx (hb hby d9_13) rfl rfl rfl ?_
  obtain ⟨T75, X75, e75, st75⟩ := getF X74 hx hZ hown (host := "") (Or.inl (ow hw 70 rfl)) Via.refl e74 F_aa_oldest (g := (mkF mM 14 #[.val (.ref aa), .val (.double (FP.i2d w4)), .second, .unset] [.ref aa, .ref dd])) rfl rfl (hb hby d9_14)
  refine own_k T75 17 [.int 0, .ref dd] st75 ?_
  refine o_aloadN 18 X75 hx (hb hby d9_17) rfl rfl rfl ?_
  obtain ⟨T76, X76, e76, st76⟩ := getF X75 hx hZ hown (host := "") (Or.inl (ow hw 46 rfl)) Via.refl e75 F_aa_count (g := (mkF mM 18 #[.val (.ref aa), .val (.double (FP.i2d w4)), .second, .unset] [.ref aa, .int 0, .ref dd])) rfl rfl (hb hby d9_18)
  refine own_k T76 21 [.int 4, .int 0, .ref dd] st76 ?_
  refine own_j 22 [.int 4, .ref dd] (fun t_ k_ => XS.iadd X76.here hx rfl (hb hby d9_21) rfl k_) ?_
  refine o_bipush 24 10 X76 hx (hb hby d9_22) rfl rfl ?_
  refine own_j 25 [.int 4, .ref dd] (fun t_ k_ => iremM X76 hx rfl (hb hby d9_24) rfl (by decide) k_) ?_
  refine own_j 26 [(.double (FP.i2d w4)), .int 4, .ref dd] (fun t_ k_ => XS.dloadN X76.here hx rfl (hb hby d9_25) rfl k_) ?_
  obtain ⟨cl77, Ar77, q77, S77, Nn77, H77, G77⟩ := id A_dd
  obtain ⟨T78, h78, X78, e78, W78, st78⟩ := stD X76 hx hZ e76 Ar77 (j := (4 : Int32)) (inb_of S77 ⟨by decide, by decide⟩) (g := (mkF mM 26 #[.val (.ref aa), .val (.double (FP.i2d w4)), .second, .unset] [(.double (FP.i2d w4)), .int 4, .ref dd])) rfl rfl (hb hby d9_26)
  have N78 := Fr.snoc X78 N0 g_dd
  have F_aa_values := F_aa_values.other W78 (Or.inl nad)
  have F_aa_count := F_aa_count.other W78 (Or.inl nad)
  have F_aa_oldest := F_aa_oldest.other W78 (Or.inl nad)
  have F_aa_average := F_aa_average.other W78 (Or.inl nad)
  have E_aa := E_aa.wr W78
  have Kp := Kp.wr W78 (Or.inl (List.mem_of_getElem? (i := 1) rfl))
  have A_dd : Arv Z h78 dd kd .double 10 [(.double (FP.i2d w0)), (.double (FP.i2d w1)), (.double (FP.i2d w2)), (.double (FP.i2d w3)), (.double (FP.i2d w4)), .double 0, .double 0, .double 0, .double 0, .double 0] (.double 0) := Arv.set Ar77 q77 S77 Nn77 H77 G77 rfl W78 4 rfl (Nat.le_of_ble_eq_true rfl)
  refine own_k T78 27 [] st78 ?_
  refine o_aloadN 28 X78 hx (hb hby d9_27) rfl rfl rfl ?_
  refine o_dup 29 X78 hx (hb hby d9_28) rfl rfl ?_
  obtain ⟨T79, X79, e79, st79⟩ := getF X78 hx hZ hown (host := "") (Or.inl (ow hw 46 rfl)) Via.refl e78 F_aa_count (g := (mkF mM 29 #[.val (.ref aa), .val (.double (FP.i2d w4)), .second, .unset] [.ref aa, .ref aa])) rfl rfl (hb hby d9_29)
  refine own_k T79 32 [.int 4, .ref aa] st79 ?_
  refine o_iconst 33 1 X79 hx (hb hby d9_32) rfl rfl ?_
  refine own_j 34 [.int 5, .ref aa] (fun t_ k_ => XS.iadd X79.here hx rfl (hb hby d9_33) rfl k_) ?_
  obtain ⟨T80, h80, X80, e80, W80, st80⟩ := putF X79 hx hZ hown (host := "") (Or.inl (ow hw 46 rfl)) Via.refl e79 F_aa_count E_aa (Or.inl (ow hw 47 rfl)) (ow hw 26 rfl) (ty := .int) (by decide) rfl rfl (g := (mkF mM 34 #[.val (.ref aa), .val (.double (FP.i2d w4)), .second, .unset] [.int 5, .ref aa])) rfl rfl (hb hby d9_34)
  have N80 := Fr.snoc X80 N78 g_aa
  have F_aa_values := F_aa_values.other W80 (Or.inr (slot_ne (Or.inr (ow hw 36 rfl)) (Or.inl (ow hw 47 rfl)) (by decide) (t := (.array .double)) (t' := .int) (by decide) (by decide)))
  have F_aa_count := F_aa_count.same W80
  have F_aa_oldest := F_aa_oldest.other W80 (Or.inr (slot_ne (Or.inl (ow hw 71 rfl)) (Or.inl (ow hw 47 rfl)) (by decide) (t := .int) (t' := .int) (by decide) (by decide)))
  have F_aa_average := F_aa_average.other W80 (Or.inr (slot_ne (Or.inl (ow hw 73 rfl)) (Or.inl (ow hw 47 rfl)) (by decide) (t := .double) (t' := .int) (by decide) (by decide)))
  have E_aa := E_aa.wr W80
  have A_dd := A_dd.other W80 (Ne.symm nad)
  have Kp := Kp.wr W80 (Or.inl (List.mem_of_getElem? (i := 0) rfl))
  refine own_k T80 37 [] st80 ?_
  refine o_goto 63 X80 hx (hb hby d9_37) (by decide) ?_
  refine o_aloadN 64 X80 hx (hb hby d9_63) rfl rfl rfl ?_
  refine o_aloadN 65 X80 hx (hb hby d9_64) rfl rfl rfl ?_
  obtain ⟨T81, X81, e81, st81⟩ := getF X80 hx hZ hown (host := "") (Or.inl (ow hw 35 rfl)) Via.refl e80 F_aa_values (g := (mkF mM 65 #[.val (.ref aa), .val (.double (FP.i2d w4)), .second, .unset] [.ref aa, .ref aa])) rfl rfl (hb hby d9_65)
  refine own_k T81 68 [.ref dd, .ref aa] st81 ?_
  refine o_aloadN 69 X81 hx (hb hby d9_68) rfl rfl rfl ?_
  obtain ⟨T82, X82, e82, st82⟩ := getF X81 hx hZ hown (host := "") (Or.inl (ow hw 70 rfl)) Via.refl e81 F_aa_oldest (g := (mkF mM 69 #[.val (.ref aa), .val (.double (FP.i2d w4)), .second, .unset] [.ref aa, .ref dd, .ref aa])) rfl rfl (hb hby d9_69)
  refine own_k T82 72 [.int 0, .ref dd, .ref aa] st82 ?_
  obtain ⟨cl83, Ar83, q83, S83, Nn83, H83, G83⟩ := id A_dd
  have hin83 : ¬ ((0 : Int32) < 0 ∨ cl83.slots.size ≤ ((0 : Int32)).toNatClampNeg) := inb_of S83 ⟨by decide, by decide⟩
  refine own_j 73 [(.double (FP.i2d w0)), .ref aa] (fun t_ k_ => X82.daload hx (j := (0 : Int32)) (v := (.double (FP.i2d w0))) (by rw [e82]; exact Ar83.1) (State.isArrayOf_alike hZ.alike Ar83.2.1) Ar83.2.2 hin83 (H83.at hin83 rfl) (g := (mkF mM 72 #[.val (.ref aa), .val (.double (FP.i2d w4)), .second, .unset] [.int 0, .ref dd, .ref aa])) rfl rfl (hb hby d9_72) t_ k_) ?_
  obtain ⟨T84, h84, X84, e84, W84, st84⟩ := putF X82 hx hZ hown (host := "") (Or.inl (ow hw 72 rfl)) Via.refl e82 F_aa_average E_aa (Or.inl (ow hw 73 rfl)) (ow hw 26 rfl) (ty := .double) (by decide) rfl rfl (g := (mkF mM 73 #[.val (.ref aa), .val (.double (FP.i2d w4)), .second, .unset] [(.double (FP.i2d w0)), .ref aa])) rfl rfl (hb hby d9_73)
  have N84 := Fr.snoc X84 N80 g_aa
  have F_aa_values := F_aa_values.other W84 (Or.inr (slot_ne (Or.inr (ow hw 36 rfl)) (Or.inl (ow hw 73 rfl)) (by decide) (t := (.array .double)) (t' := .double) (by decide) (by decide)))
  have F_aa_count := F_aa_count.other W84 (Or.inr (slot_ne (Or.inl (ow hw 47 rfl)) (Or.inl (ow hw 73 rfl)) (by decide) (t := .int) (t' := .double) (by decide) (by decide)))
  have F_aa_oldest := F_aa_oldest.other W84 (Or.inr (slot_ne (Or.inl (ow hw 71 rfl)) (Or.inl (ow hw 73 rfl)) (by decide) (t := .int) (t' := .double) (by decide) (by decide)))
  have F_aa_average := F_aa_average.same W84
  have E_aa := E_aa.wr W84
  have A_dd := A_dd.other W84 (Ne.symm nad)
  have Kp := Kp.wr W84 (Or.inl (List.mem_of_getElem? (i := 0) rfl))
  refine own_k T84 76 [] st84 ?_
  refine o_iconst 77 1 X84 hx (hb hby d9_76) rfl rfl ?_
  let Lv85 : Array Slot := #[.val (.ref aa), .val (.double (FP.i2d w4)), .second, .val (.int 1)]
  refine own_st (A := T84.setTop (mkF mM 78 Lv85 [])) (fun t_ k_ => XS.istoreN X84.here hx rfl (hb hby d9_77) rfl (l' := Lv85) rfl k_) ?_
  have av0 : Av (FP.i2d w0) w0.toInt 0 (32768 * 1) := own_av0 bl0 bu0
  obtain ⟨na, nb, nc, av1⟩ := own_stp (P := 1) bl1 bu1 av0 (by decide) (by decide) (by decide) (by decide)
  have av1 : Av _ (1 * w1.toInt + 3 * w0.toInt) 1 (32768 * 4) := av1
  refine RT hw X84 hx hZ hby hml hown hlk hret e84 N84 aa dd kd _ 5 0 1 2 (FP.i2d w0) (FP.i2d w1) _ _ g_aa nad ⟨E_aa, F_aa_values, F_aa_count, F_aa_oldest, F_aa_average, A_dd⟩ (by decide) ⟨by decide, by decide⟩ rfl na nb nc rfl (fun T86 L86 h86 X86 e86 N86 K86 ra => ?_)
  have Kp := Kp.trans K86 (allS (Or.inl (List.mem_of_getElem? (i := 0) rfl)) (allS (Or.inl (List.mem_of_getElem? (i := 1) rfl)) all0))
  obtain ⟨na, nb, nc, av2⟩ := own_stp (P := 4) bl2 bu2 av1 (by decide) (by decide) (by decide) (by decide)
  have av2 : Av _ (4 * w2.toInt + 3 * (1 * w1.toInt + 3 * w0.toInt)) 2 (32768 * 16) := av2
  refine RT hw X86 hx hZ hby hml hown hlk hret e86 N86 aa dd kd _ 5 0 2 3 (stp (FP.i2d w1) (FP.i2d w0)) (FP.i2d w2) _ _ g_aa nad ra (by decide) ⟨by decide, by decide⟩ rfl na nb nc rfl (fun T87 L87 h87 X87 e87 N87 K87 ra => ?_)
  have Kp := Kp.trans K87 (allS (Or.inl (List.mem_of_getElem? (i := 0) rfl)) (allS (Or.inl (List.mem_of_getElem? (i := 1) rfl)) all0))
  obtain ⟨na, nb, nc, av3⟩ := own_stp (P := 16) bl3 bu3 av2 (by decide) (by decide) (by decide) (by decide)
  have av3 : Av _ (16 * w3.toInt + 3 * (4 * w2.toInt + 3 * (1 * w1.toInt + 3 * w0.toInt))) 3 (32768 * 64) := av3
  refine RT hw X87 hx hZ hby hml hown hlk hret e87 N87 aa dd kd _ 5 0 3 4 (stp (FP.i2d w2) (stp (FP.i2d w1) (FP.i2d w0))) (FP.i2d w3) _ _ g_aa nad ra (by decide) ⟨by decide, by decide⟩ rfl na nb nc rfl (fun T88 L88 h88 X88 e88 N88 K88 ra => ?_)
  have Kp := Kp.trans K88 (allS (Or.inl (List.mem_of_getElem? (i := 0) rfl)) (allS (Or.inl (List.mem_of_getElem? (i := 1) rfl)) all0))
  obtain ⟨na, nb, nc, av4⟩ := own_stp (P := 64) bl4 bu4 av3 (by decide) (by decide) (by decide) (by decide)
  refine RT hw X88 hx hZ hby hml hown hlk hret e88 N88 aa dd kd _ 5 0 4 5 (stp (FP.i2d w3) (stp (FP.i2d w2) (stp (FP.i2d w1) (FP.i2d w0)))) (FP.i2d w4) _ _ g_aa nad ra (by decide) ⟨by decide, by decide⟩ rfl na nb nc rfl (fun T89 L89 h89 X89 e89 N89 K89 ra => ?_)
  have Kp := Kp.trans K89 (allS (Or.inl (List.mem_of_getElem? (i := 0) rfl)) (allS (Or.inl (List.mem_of_getElem? (i := 1) rfl)) all0))
  obtain ⟨E_aa, F_aa_values, F_aa_count, F_aa_oldest, F_aa_average, A_dd⟩ := ra
  refine o_iloadN 79 X89 hx (hb hby d9_78) rfl rfl ?_
  refine o_aloadN 80 X89 hx (hb hby d9_79) rfl rfl rfl ?_
  obtain ⟨T90, X90, e90, st90⟩ := getF X89 hx hZ hown (host := "") (Or.inl (ow hw 46 rfl)) Via.refl e89 F_aa_count (g := (mkF mM 80 #[.val (.ref aa), .val (.double (FP.i2d w4)), .second, .val (.int 5)] [.ref aa, .int 5])) rfl rfl (hb hby d9_80)
  refine own_k T90 83 [.int 5, .int 5] st90 ?_
  refine o_icmpYes 123 X90 hx (hb hby d9_83) (flt (by decide : ¬ ((5 : Int32) < (5 : Int32)))).2.1 (by decide) ?_
  exact own_retV X90 hx hlk hret (hb hby d9_123) (by rw [e90]; exact ⟨rfl, N89, Kp, E_aa, F_aa_values, F_aa_count, F_aa_oldest, F_aa_average, A_dd⟩) (by decide) (by decide)
theorem ef_rmA6 (mM : MethodId) (aa : Addr) (dd : Addr) (kd : ClassId) (gg : UInt64) (w0 : Int32) (w1 : Int32) (w2 : Int32) (w3 : Int32) (w4 : Int32) (w5 : Int32) : entryFrame mM #[.ref aa, (.double (FP.i2d w5))] 4 = mkF mM 0 #[.val (.ref aa), .val (.double (FP.i2d w5)), .second, .unset] [] := by first | (simp [entryFrame, mkF, argsToLocals, Value.category]; done) | rfl
theorem rmA6 (lL : Launch) (Z : State) (a0 : Array Value) (hw : own_tb a0 Z) (ws : List Jvm.Cond) (aa : Addr) (dd : Addr) (kd : ClassId) (gg : UInt64) (w0 : Int32) (w1 : Int32) (w2 : Int32) (w3 : Int32) (w4 : Int32) (w5 : Int32) (h0 : Heap) (n0 : Nat) (g_aa : n0 ≤ aa) (g_dd : n0 ≤ dd) (nad : aa ≠ dd) (ra : Ra Z h0 aa dd kd 5 0 gg [.double (FP.i2d w0), .double (FP.i2d w1), .double (FP.i2d w2), .double (FP.i2d w3), .double (FP.i2d w4), .double 0, .double 0, .double 0, .double 0, .double 0]) (bl0 : -32768 ≤ w0.toInt) (bu0 : w0.toInt ≤ 32768) (bl1 : -32768 ≤ w1.toInt) (bu1 : w1.toInt ≤ 32768) (bl2 : -32768 ≤ w2.toInt) (bu2 : w2.toInt ≤ 32768) (bl3 : -32768 ≤ w3.toInt) (bu3 : w3.toInt ≤ 32768) (bl4 : -32768 ≤ w4.toInt) (bu4 : w4.toInt ≤ 32768) (bl5 : -32768 ≤ w5.toInt) (bu5 : w5.toInt ≤ 32768) :
    own_Ct lL Z yn2 prog_71_method_2_code 4 none ws (⟨0, 0, 0, 0⟩ : Room) #[.ref aa, (.double (FP.i2d w5))] h0 (QA Z aa dd kd 6 0 (stp (FP.i2d w5) (stp (FP.i2d w4) (stp (FP.i2d w3) (stp (FP.i2d w2) (stp (FP.i2d w1) (FP.i2d w0)))))) [.double (FP.i2d w0), .double (FP.i2d w1), .double (FP.i2d w2), .double (FP.i2d w3), .double (FP.i2d w4), .double (FP.i2d w5), .double 0, .double 0, .double 0, .double 0] h0 n0) := by
  refine own_body (plainFor_of_name pn_com_2fexample_2fgleanwork_2fgleanwork_2fschedule_2fRecentAverage) 0 0 rfl rfl (fun mM => ef_rmA6 mM aa dd kd gg w0 w1 w2 w3 w4 w5) fun pP eE sS mM below meth cC s₁ hZ hx hby hml hown hnm hret hlk X0 e0 => ?_
  have N0 := Fr.nil n0
  obtain ⟨E_aa, F_aa_values, F_aa_count, F_aa_oldest, F_aa_average, A_dd⟩ := ra
  have Kp := Keep.refl h0 [aa, dd]
  refine o_aloadN 1 X0 hx (hb hby d9_0) rfl rfl rfl ?_
  obtain ⟨T91, X91, e91, st91⟩ := getF X0 hx hZ hown (host := "") (Or.inl (ow hw 46 rfl)) Via.refl e0 F_aa_count (g := (mkF mM 1 #[.val (.ref aa), .val (.double (FP.i2d w5)), .second, .unset] [.ref aa])) rfl rfl (hb hby d9_1)
  refine own_k T91 4 [.int 5] st91 ?_
  refine o_bipush 6 10 X91 hx (hb hby d9_4) rfl rfl ?_
  refine o_icmpNo 9 X91 hx (hb hby d9_6) (tlt (by decide : ((5 : Int32) < (10 : Int32)))).2.1 rfl ?_
  refine o_aloadN 10 X91 hx (hb hby d9_9) rfl rfl rfl ?_
  obtain ⟨T92, X92, e92, st92⟩ := getF X91 hx hZ hown (host := "") (Or.inl (ow hw 35 rfl)) Via.refl e91 F_aa_values (g := (mkF mM 10 #[.val (.ref aa), .val (.double (FP.i2d w5)), .second, .unset] [.ref aa])) rfl rfl (hb hby d9_10)
  refine own_k T92 13 [.ref dd] st92 ?_
  refine o_aloadN 14 X92 hx (hb hby d9_13) rfl rfl rfl ?_
  obtain ⟨T93, X93, e93, st93⟩ := getF X92 hx hZ hown (host := "") (Or.inl (ow hw 70 rfl)) Via.refl e92 F_aa_oldest (g := (mkF mM 14 #[.val (.ref aa), .val (.double (FP.i2d w5)), .second, .unset] [.ref aa, .ref dd])) rfl rfl (hb hby d9_14)
  refine own_k T93 17 [.int 0, .ref dd] st93 ?_
  refine o_aloadN 18 X93 hx (hb hby d9_17) rfl rfl rfl ?_
  obtain ⟨T94, X94, e94, st94⟩ := getF X93 hx hZ hown (host := "") (Or.inl (ow hw 46 rfl)) Via.refl e93 F_aa_count (g := (mkF mM 18 #[.val (.ref aa), .val (.double (FP.i2d w5)), .second, .unset] [.ref aa, .int 0, .ref dd])) rfl rfl (hb hby d9_18)
  refine own_k T94 21 [.int 5, .int 0, .ref dd] st94 ?_
  refine own_j 22 [.int 5, .ref dd] (fun t_ k_ => XS.iadd X94.here hx rfl (hb hby d9_21) rfl k_) ?_
  refine o_bipush 24 10 X94 hx (hb hby d9_22) rfl rfl ?_
  refine own_j 25 [.int 5, .ref dd] (fun t_ k_ => iremM X94 hx rfl (hb hby d9_24) rfl (by decide) k_) ?_
  refine own_j 26 [(.double (FP.i2d w5)), .int 5, .ref dd] (fun t_ k_ => XS.dloadN X94.here hx rfl (hb hby d9_25) rfl k_) ?_
  obtain ⟨cl95, Ar95, q95, S95, Nn95, H95, G95⟩ := id A_dd
  obtain ⟨T96, h96, X96, e96, W96, st96⟩ := stD X94 hx hZ e94 Ar95 (j := (5 : Int32)) (inb_of S95 ⟨by decide, by decide⟩) (g := (mkF mM 26 #[.val (.ref aa), .val (.double (FP.i2d w5)), .second, .unset] [(.double (FP.i2d w5)), .int 5, .ref dd])) rfl rfl (hb hby d9_26)
  have N96 := Fr.snoc X96 N0 g_dd
  have F_aa_values := F_aa_values.other W96 (Or.inl nad)
  have F_aa_count := F_aa_count.other W96 (Or.inl nad)
  have F_aa_oldest := F_aa_oldest.other W96 (Or.inl nad)
  have F_aa_average := F_aa_average.other W96 (Or.inl nad)
  have E_aa := E_aa.wr W96
  have Kp := Kp.wr W96 (Or.inl (List.mem_of_getElem? (i := 1) rfl))
  have A_dd : Arv Z h96 dd kd .double 10 [(.double (FP.i2d w0)), (.double (FP.i2d w1)), (.double (FP.i2d w2)), (.double (FP.i2d w3)), (.double (FP.i2d w4)), (.double (FP.i2d w5)), .double 0, .double 0, .double 0, .double 0] (.double 0) := Arv.set Ar95 q95 S95 Nn95 H95 G95 rfl W96 5 rfl (Nat.le_of_ble_eq_true rfl)
  refine own_k T96 27 [] st96 ?_
  refine o_aloadN 28 X96 hx (hb hby d9_27) rfl rfl rfl ?_
  refine o_dup 29 X96 hx (hb hby d9_28) rfl rfl ?_
  obtain ⟨T97, X97, e97, st97⟩ := getF X96 hx hZ hown (host := "") (Or.inl (ow hw 46 rfl)) Via.refl e96 F_aa_count (g := (mkF mM 29 #[.val (.ref aa), .val (.double (FP.i2d w5)), .second, .unset] [.ref aa, .ref aa])) rfl rfl (hb hby d9_29)
  refine own_k T97 32 [.int 5, .ref aa] st97 ?_
  refine o_iconst 33 1 X97 hx (hb hby d9_32) rfl rfl ?_
  refine own_j 34 [.int 6, .ref aa] (fun t_ k_ => XS.iadd X97.here hx rfl (hb hby d9_33) rfl k_) ?_
  obtain ⟨T98, h98, X98, e98, W98, st98⟩ := putF X97 hx hZ hown (host := "") (Or.inl (ow hw 46 rfl)) Via.refl e97 F_aa_count E_aa (Or.inl (ow hw 47 rfl)) (ow hw 26 rfl) (ty := .int) (by decide) rfl rfl (g := (mkF mM 34 #[.val (.ref aa), .val (.double (FP.i2d w5)), .second, .unset] [.int 6, .ref aa])) rfl rfl (hb hby d9_34)
  have N98 := Fr.snoc X98 N96 g_aa
  have F_aa_values := F_aa_values.other W98 (Or.inr (slot_ne (Or.inr (ow hw 36 rfl)) (Or.inl (ow hw 47 rfl)) (by decide) (t := (.array .double)) (t' := .int) (by decide) (by decide)))
  have F_aa_count := F_aa_count.same W98
  have F_aa_oldest := F_aa_oldest.other W98 (Or.inr (slot_ne (Or.inl (ow hw 71 rfl)) (Or.inl (ow hw 47 rfl)) (by decide) (t := .int) (t' := .int) (by decide) (by decide)))
  have F_aa_average := F_aa_average.other W98 (Or.inr (slot_ne (Or.inl (ow hw 73 rfl)) (Or.inl (ow hw 47 rfl)) (by decide) (t := .double) (t' := .int) (by decide) (by decide)))
  have E_aa := E_aa.wr W98
  have A_dd := A_dd.other W98 (Ne.symm nad)
  have Kp := Kp.wr W98 (Or.inl (List.mem_of_getElem? (i := 0) rfl))
  refine own_k T98 37 [] st98 ?_
  refine o_goto 63 X98 hx (hb hby d9_37) (by decide) ?_
  refine o_aloadN 64 X98 hx (hb hby d9_63) rfl rfl rfl ?_
  refine o_aloadN 65 X98 hx (hb hby d9_64) rfl rfl rfl ?_
  obtain ⟨T99, X99, e99, st99⟩ := getF X98 hx hZ hown (host := "") (Or.inl (ow hw 35 rfl)) Via.refl e98 F_aa_values (g := (mkF mM 65 #[.val (.ref aa), .val (.double (FP.i2d w5)), .second, .unset] [.ref aa, .ref aa])) rfl rfl (hb hby d9_65)
  refine own_k T99 68 [.ref dd, .ref aa] st99 ?_
  refine o_aloadN 69 X99 hx (hb hby d9_68) rfl rfl rfl ?_
  obtain ⟨T100, X100, e100, st100⟩ := getF X99 hx hZ hown (host := "") (Or.inl (ow hw 70 rfl)) Via.refl e99 F_aa_oldest (g := (mkF mM 69 #[.val (.ref aa), .val (.double (FP.i2d w5)), .second, .unset] [.ref aa, .ref dd, .ref aa])) rfl rfl (hb hby d9_69)
  refine own_k T100 72 [.int 0, .ref dd, .ref aa] st100 ?_
  obtain ⟨cl101, Ar101, q101, S101, Nn101, H101, G101⟩ := id A_dd
  have hin101 : ¬ ((0 : Int32) < 0 ∨ cl101.slots.size ≤ ((0 : Int32)).toNatClampNeg) := inb_of S101 ⟨by decide, by decide⟩
  refine own_j 73 [(.double (FP.i2d w0)), .ref aa] (fun t_ k_ => X100.daload hx (j := (0 : Int32)) (v := (.double (FP.i2d w0))) (by rw [e100]; exact Ar101.1) (State.isArrayOf_alike hZ.alike Ar101.2.1) Ar101.2.2 hin101 (H101.at hin101 rfl) (g := (mkF mM 72 #[.val (.ref aa), .val (.double (FP.i2d w5)), .second, .unset] [.int 0, .ref dd, .ref aa])) rfl rfl (hb hby d9_72) t_ k_) ?_
  obtain ⟨T102, h102, X102, e102, W102, st102⟩ := putF X100 hx hZ hown (host := "") (Or.inl (ow hw 72 rfl)) Via.refl e100 F_aa_average E_aa (Or.inl (ow hw 73 rfl)) (ow hw 26 rfl) (ty := .double) (by decide) rfl rfl (g := (mkF mM 73 #[.val (.ref aa), .val (.double (FP.i2d w5)), .second, .unset] [(.double (FP.i2d w0)), .ref aa])) rfl rfl (hb hby d9_73)
  have N102 := Fr.snoc X102 N98 g_aa
  have F_aa_values := F_aa_values.other W102 (Or.inr (slot_ne (Or.inr (ow hw 36 rfl)) (Or.inl (ow hw 73 rfl)) (by decide) (t := (.array .double)) (t' := .double) (by decide) (by decide)))
  have F_aa_count := F_aa_count.other W102 (Or.inr (slot_ne (Or.inl (ow hw 47 rfl)) (Or.inl (ow hw 73 rfl)) (by decide) (t := .int) (t' := .double) (by decide) (by decide)))
  have F_aa_oldest := F_aa_oldest.other W102 (Or.inr (slot_ne (Or.inl (ow hw 71 rfl)) (Or.inl (ow hw 73 rfl)) (by decide) (t := .int) (t' := .double) (by decide) (by decide)))
  have F_aa_average := F_aa_average.same W102
  have E_aa := E_aa.wr W102
  have A_dd := A_dd.other W102 (Ne.symm nad)
  have Kp := Kp.wr W102 (Or.inl (List.mem_of_getElem? (i := 0) rfl))
  refine own_k T102 76 [] st102 ?_
  refine o_iconst 77 1 X102 hx (hb hby d9_76) rfl rfl ?_
  let Lv103 : Array Slot := #[.val (.ref aa), .val (.double (FP.i2d w5)), .second, .val (.int 1)]
  refine own_st (A := T102.setTop (mkF mM 78 Lv103 [])) (fun t_ k_ => XS.istoreN X102.here hx rfl (hb hby d9_77) rfl (l' := Lv103) rfl k_) ?_
  have av0 : Av (FP.i2d w0) w0.toInt 0 (32768 * 1) := own_av0 bl0 bu0
  obtain ⟨na, nb, nc, av1⟩ := own_stp (P := 1) bl1 bu1 av0 (by decide) (by decide) (by decide) (by decide)
  have av1 : Av _ (1 * w1.toInt + 3 * w0.toInt) 1 (32768 * 4) := av1
  refine RT hw X102 hx hZ hby hml hown hlk hret e102 N102 aa dd kd _ 6 0 1 2 (FP.i2d w0) (FP.i2d w1) _ _ g_aa nad ⟨E_aa, F_aa_values, F_aa_count, F_aa_oldest, F_aa_average, A_dd⟩ (by decide) ⟨by decide, by decide⟩ rfl na nb nc rfl (fun T104 L104 h104 X104 e104 N104 K104 ra => ?_)
  have Kp := Kp.trans K104 (allS (Or.inl (List.mem_of_getElem? (i := 0) rfl)) (allS (Or.inl (List.mem_of_getElem? (i := 1) rfl)) all0))
  obtain ⟨na, nb, nc, av2⟩ := own_stp (P := 4) bl2 bu2 av1 (by decide) (by decide) (by decide) (by decide)
  have av2 : Av _ (4 * w2.toInt + 3 * (1 * w1.toInt + 3 * w0.toInt)) 2 (32768 * 16) := av2
  refine RT hw X104 hx hZ hby hml hown hlk hret e104 N104 aa dd kd _ 6 0 2 3 (stp (FP.i2d w1) (FP.i2d w0)) (FP.i2d w2) _ _ g_aa nad ra (by decide) ⟨by decide, by decide⟩ rfl na nb nc rfl (fun T105 L105 h105 X105 e105 N105 K105 ra => ?_)
  have Kp := Kp.trans K105 (allS (Or.inl (List.mem_of_getElem? (i := 0) rfl)) (allS (Or.inl (List.mem_of_getElem? (i := 1) rfl)) all0))
  obtain ⟨na, nb, nc, av3⟩ := own_stp (P := 16) bl3 bu3 av2 (by decide) (by decide) (by decide) (by decide)
  have av3 : Av _ (16 * w3.toInt + 3 * (4 * w2.toInt + 3 * (1 * w1.toInt + 3 * w0.toInt))) 3 (32768 * 64) := av3
  refine RT hw X105 hx hZ hby hml hown hlk hret e105 N105 aa dd kd _ 6 0 3 4 (stp (FP.i2d w2) (stp (FP.i2d w1) (FP.i2d w0))) (FP.i2d w3) _ _ g_aa nad ra (by decide) ⟨by decide, by decide⟩ rfl na nb nc rfl (fun T106 L106 h106 X106 e106 N106 K106 ra => ?_)
  have Kp := Kp.trans K106 (allS (Or.inl (List.mem_of_getElem? (i := 0) rfl)) (allS (Or.inl (List.mem_of_getElem? (i := 1) rfl)) all0))
  obtain ⟨na, nb, nc, av4⟩ := own_stp (P := 64) bl4 bu4 av3 (by decide) (by decide) (by decide) (by decide)
  have av4 : Av _ (64 * w4.toInt + 3 * (16 * w3.toInt + 3 * (4 * w2.toInt + 3 * (1 * w1.toInt + 3 * w0.toInt)))) 4 (32768 * 256) := av4
  refine RT hw X106 hx hZ hby hml hown hlk hret e106 N106 aa dd kd _ 6 0 4 5 (stp (FP.i2d w3) (stp (FP.i2d w2) (stp (FP.i2d w1) (FP.i2d w0)))) (FP.i2d w4) _ _ g_aa nad ra (by decide) ⟨by decide, by decide⟩ rfl na nb nc rfl (fun T107 L107 h107 X107 e107 N107 K107 ra => ?_)
  have Kp := Kp.trans K107 (allS (Or.inl (List.mem_of_getElem? (i := 0) rfl)) (allS (Or.inl (List.mem_of_getElem? (i := 1) rfl)) all0))
  obtain ⟨na, nb, nc, av5⟩ := own_stp (P := 256) bl5 bu5 av4 (by decide) (by decide) (by decide) (by decide)
  refine RT hw X107 hx hZ hby hml hown hlk hret e107 N107 aa dd kd _ 6 0 5 6 (stp (FP.i2d w4) (stp (FP.i2d w3) (stp (FP.i2d w2) (stp (FP.i2d w1) (FP.i2d w0))))) (FP.i2d w5) _ _ g_aa nad ra (by decide) ⟨by decide, by decide⟩ rfl na nb nc rfl (fun T108 L108 h108 X108 e108 N108 K108 ra => ?_)
  have Kp := Kp.trans K108 (allS (Or.inl (List.mem_of_getElem? (i := 0) rfl)) (allS (Or.inl (List.mem_of_getElem? (i := 1) rfl)) all0))
  obtain ⟨E_aa, F_aa_values, F_aa_count, F_aa_oldest, F_aa_average, A_dd⟩ := ra
  refine o_iloadN 79 X108 hx (hb hby d9_78) rfl rfl ?_
  refine o_aloadN 80 X108 hx (hb hby d9_79) rfl rfl rfl ?_
  obtain ⟨T109, X109, e109, st109⟩ := getF X108 hx hZ hown (host := "") (Or.inl (ow hw 46 rfl)) Via.refl e108 F_aa_count (g := (mkF mM 80 #[.val (.ref aa), .val (.double (FP.i2d w5)), .second, .val (.int 6)] [.ref aa, .int 6])) rfl rfl (hb hby d9_80)
  refine own_k T109 83 [.int 6, .int 6] st109 ?_
  refine o_icmpYes 123 X109 hx (hb hby d9_83) (flt (by decide : ¬ ((6 : Int32) < (6 : Int32)))).2.1 (by decide) ?_
  exact own_retV X109 hx hlk hret (hb hby d9_123) (by rw [e109]; exact ⟨rfl, N108, Kp, E_aa, F_aa_values, F_aa_count, F_aa_oldest, F_aa_average, A_dd⟩) (by decide) (by decide)
theorem ef_rmA7 (mM : MethodId) (aa : Addr) (dd : Addr) (kd : ClassId) (gg : UInt64) (w0 : Int32) (w1 : Int32) (w2 : Int32) (w3 : Int32) (w4 : Int32) (w5 : Int32) (w6 : Int32) : entryFrame mM #[.ref aa, (.double (FP.i2d w6))] 4 = mkF mM 0 #[.val (.ref aa), .val (.double (FP.i2d w6)), .second, .unset] [] := by first | (simp [entryFrame, mkF, argsToLocals, Value.category]; done) | rfl
theorem rmA7 (lL : Launch) (Z : State) (a0 : Array Value) (hw : own_tb a0 Z) (ws : List Jvm.Cond) (aa : Addr) (dd : Addr) (kd : ClassId) (gg : UInt64) (w0 : Int32) (w1 : Int32) (w2 : Int32) (w3 : Int32) (w4 : Int32) (w5 : Int32) (w6 : Int32) (h0 : Heap) (n0 : Nat) (g_aa : n0 ≤ aa) (g_dd : n0 ≤ dd) (nad : aa ≠ dd) (ra : Ra Z h0 aa dd kd 6 0 gg [.double (FP.i2d w0), .double (FP.i2d w1), .double (FP.i2d w2), .double (FP.i2d w3), .double (FP.i2d w4), .double (FP.i2d w5), .double 0, .double 0, .double 0, .double 0]) (bl0 : -32768 ≤ w0.toInt) (bu0 : w0.toInt ≤ 32768) (bl1 : -32768 ≤ w1.toInt) (bu1 : w1.toInt ≤ 32768) (bl2 : -32768 ≤ w2.toInt) (bu2 : w2.toInt ≤ 32768) (bl3 : -32768 ≤ w3.toInt) (bu3 : w3.toInt ≤ 32768) (bl4 : -32768 ≤ w4.toInt) (bu4 : w4.toInt ≤ 32768) (bl5 : -32768 ≤ w5.toInt) (bu5 : w5.toInt ≤ 32768) (bl6 : -32768 ≤ w6.toInt) (bu6 : w6.toInt ≤ 32768) :
    own_Ct lL Z yn2 prog_71_method_2_code 4 none ws (⟨0, 0, 0, 0⟩ : Room) #[.ref aa, (.double (FP.i2d w6))] h0 (QA Z aa dd kd 7 0 (stp (FP.i2d w6) (stp (FP.i2d w5) (stp (FP.i2d w4) (stp (FP.i2d w3) (stp (FP.i2d w2) (stp (FP.i2d w1) (FP.i2d w0))))))) [.double (FP.i2d w0), .double (FP.i2d w1), .double (FP.i2d w2), .double (FP.i2d w3), .double (FP.i2d w4), .double (FP.i2d w5), .double (FP.i2d w6), .double 0, .double 0, .double 0] h0 n0) := by
  refine own_body (plainFor_of_name pn_com_2fexample_2fgleanwork_2fgleanwork_2fschedule_2fRecentAverage) 0 0 rfl rfl (fun mM => ef_rmA7 mM aa dd kd gg w0 w1 w2 w3 w4 w5 w6) fun pP eE sS mM below meth cC s₁ hZ hx hby hml hown hnm hret hlk X0 e0 => ?_
  have N0 := Fr.nil n0
  obtain ⟨E_aa, F_aa_values, F_aa_count, F_aa_oldest, F_aa_average, A_dd⟩ := ra
  have Kp := Keep.refl h0 [aa, dd]
  refine o_aloadN 1 X0 hx (hb hby d9_0) rfl rfl rfl ?_
  obtain ⟨T110, X110, e110, st110⟩ := getF X0 hx hZ hown (host := "") (Or.inl (ow hw 46 rfl)) Via.refl e0 F_aa_count (g := (mkF mM 1 #[.val (.ref aa), .val (.double (FP.i2d w6)), .second, .unset] [.ref aa])) rfl rfl (hb hby d9_1)
  refine own_k T110 4 [.int 6] st110 ?_
  refine o_bipush 6 10 X110 hx (hb hby d9_4) rfl rfl ?_
  refine o_icmpNo 9 X110 hx (hb hby d9_6) (tlt (by decide : ((6 : Int32) < (10 : Int32)))).2.1 rfl ?_
  refine o_aloadN 10 X110 hx (hb hby d9_9) rfl rfl rfl ?_
  obtain ⟨T111, X111, e111, st111⟩ := getF X110 hx hZ hown (host := "") (Or.inl (ow hw 35 rfl)) Via.refl e110 F_aa_values (g := (mkF mM 10 #[.val (.ref aa), .val (.double (FP.i2d w6)), .second, .unset] [.ref aa])) rfl rfl (hb hby d9_10)
  refine own_k T111 13 [.ref dd] st111 ?_
  refine o_aloadN 14 X111 hx (hb hby d9_13) rfl rfl rfl ?_
  obtain ⟨T112, X112, e112, st112⟩ := getF X111 hx hZ hown (host := "") (Or.inl (ow hw 70 rfl)) Via.refl e111 F_aa_oldest (g := (mkF mM 14 #[.val (.ref aa), .val (.double (FP.i2d w6)), .second, .unset] [.ref aa, .ref dd])) rfl rfl (hb hby d9_14)
  refine own_k T112 17 [.int 0, .ref dd] st112 ?_
  refine o_aloadN 18 X112 hx (hb hby d9_17) rfl rfl rfl ?_
  obtain ⟨T113, X113, e113, st113⟩ := getF X112 hx hZ hown (host := "") (Or.inl (ow hw 46 rfl)) Via.refl e112 F_aa_count (g := (mkF mM 18 #[.val (.ref aa), .val (.double (FP.i2d w6)), .second, .unset] [.ref aa, .int 0, .ref dd])) rfl rfl (hb hby d9_18)
  refine own_k T113 21 [.int 6, .int 0, .ref dd] st113 ?_
  refine own_j 22 [.int 6, .ref dd] (fun t_ k_ => XS.iadd X113.here hx rfl (hb hby d9_21) rfl k_) ?_
  refine o_bipush 24 10 X113 hx (hb hby d9_22) rfl rfl ?_
  refine own_j 25 [.int 6, .ref dd] (fun t_ k_ => iremM X113 hx rfl (hb hby d9_24) rfl (by decide) k_) ?_
  refine own_j 26 [(.double (FP.i2d w6)), .int 6, .ref dd] (fun t_ k_ => XS.dloadN X113.here hx rfl (hb hby d9_25) rfl k_) ?_
  obtain ⟨cl114, Ar114, q114, S114, Nn114, H114, G114⟩ := id A_dd
  obtain ⟨T115, h115, X115, e115, W115, st115⟩ := stD X113 hx hZ e113 Ar114 (j := (6 : Int32)) (inb_of S114 ⟨by decide, by decide⟩) (g := (mkF mM 26 #[.val (.ref aa), .val (.double (FP.i2d w6)), .second, .unset] [(.double (FP.i2d w6)), .int 6, .ref dd])) rfl rfl (hb hby d9_26)
  have N115 := Fr.snoc X115 N0 g_dd
  have F_aa_values := F_aa_values.other W115 (Or.inl nad)
  have F_aa_count := F_aa_count.other W115 (Or.inl nad)
  have F_aa_oldest := F_aa_oldest.other W115 (Or.inl nad)
  have F_aa_average := F_aa_average.other W115 (Or.inl nad)
  have E_aa := E_aa.wr W115
  have Kp := Kp.wr W115 (Or.inl (List.mem_of_getElem? (i := 1) rfl))
  have A_dd : Arv Z h115 dd kd .double 10 [(.double (FP.i2d w0)), (.double (FP.i2d w1)), (.double (FP.i2d w2)), (.double (FP.i2d w3)), (.double (FP.i2d w4)), (.double (FP.i2d w5)), (.double (FP.i2d w6)), .double 0, .double 0, .double 0] (.double 0) := Arv.set Ar114 q114 S114 Nn114 H114 G114 rfl W115 6 rfl (Nat.le_of_ble_eq_true rfl)
  refine own_k T115 27 [] st115 ?_
  refine o_aloadN 28 X115 hx (hb hby d9_27) rfl rfl rfl ?_
  refine o_dup 29 X115 hx (hb hby d9_28) rfl rfl ?_
  obtain ⟨T116, X116, e116, st116⟩ := getF X115 hx hZ hown (host := "") (Or.inl (ow hw 46 rfl)) Via.refl e115 F_aa_count (g := (mkF mM 29 #[.val (.ref aa), .val (.double (FP.i2d w6)), .second, .unset] [.ref aa, .ref aa])) rfl rfl (hb hby d9_29)
  refine own_k T116 32 [.int 6, .ref aa] st116 ?_
  refine o_iconst 33 1 X116 hx (hb hby d9_32) rfl rfl ?_
  refine own_j 34 [.int 7, .ref aa] (fun t_ k_ => XS.iadd X116.here hx rfl (hb hby d9_33) rfl k_) ?_
  obtain ⟨T117, h117, X117, e117, W117, st117⟩ := putF X116 hx hZ hown (host := "") (Or.inl (ow hw 46 rfl)) Via.refl e116 F_aa_count E_aa (Or.inl (ow hw 47 rfl)) (ow hw 26 rfl) (ty := .int) (by decide) rfl rfl (g := (mkF mM 34 #[.val (.ref aa), .val (.double (FP.i2d w6)), .second, .unset] [.int 7, .ref aa])) rfl rfl (hb hby d9_34)
  have N117 := Fr.snoc X117 N115 g_aa
  have F_aa_values := F_aa_values.other W117 (Or.inr (slot_ne (Or.inr (ow hw 36 rfl)) (Or.inl (ow hw 47 rfl)) (by decide) (t := (.array .double)) (t' := .int) (by decide) (by decide)))
  have F_aa_count := F_aa_count.same W117
  have F_aa_oldest := F_aa_oldest.other W117 (Or.inr (slot_ne (Or.inl (ow hw 71 rfl)) (Or.inl (ow hw 47 rfl)) (by decide) (t := .int) (t' := .int) (by decide) (by decide)))
  have F_aa_average := F_aa_average.other W117 (Or.inr (slot_ne (Or.inl (ow hw 73 rfl)) (Or.inl (ow hw 47 rfl)) (by decide) (t := .double) (t' := .int) (by decide) (by decide)))
  have E_aa := E_aa.wr W117
  have A_dd := A_dd.other W117 (Ne.symm nad)
  have Kp := Kp.wr W117 (Or.inl (List.mem_of_getElem? (i := 0) rfl))
  refine own_k T117 37 [] st117 ?_
  refine o_goto 63 X117 hx (hb hby d9_37) (by decide) ?_
  refine o_aloadN 64 X117 hx (hb hby d9_63) rfl rfl rfl ?_
  refine o_aloadN 65 X117 hx (hb hby d9_64) rfl rfl rfl ?_
  obtain ⟨T118, X118, e118, st118⟩ := getF X117 hx hZ hown (host := "") (Or.inl (ow hw 35 rfl)) Via.refl e117 F_aa_values (g := (mkF mM 65 #[.val (.ref aa), .val (.double (FP.i2d w6)), .second, .unset] [.ref aa, .ref aa])) rfl rfl (hb hby d9_65)
  refine own_k T118 68 [.ref dd, .ref aa] st118 ?_
  refine o_aloadN 69 X118 hx (hb hby d9_68) rfl rfl rfl ?_
  obtain ⟨T119, X119, e119, st119⟩ := getF X118 hx hZ hown (host := "") (Or.inl (ow hw 70 rfl)) Via.refl e118 F_aa_oldest (g := (mkF mM 69 #[.val (.ref aa), .val (.double (FP.i2d w6)), .second, .unset] [.ref aa, .ref dd, .ref aa])) rfl rfl (hb hby d9_69)
  refine own_k T119 72 [.int 0, .ref dd, .ref aa] st119 ?_
  obtain ⟨cl120, Ar120, q120, S120, Nn120, H120, G120⟩ := id A_dd
  have hin120 : ¬ ((0 : Int32) < 0 ∨ cl120.slots.size ≤ ((0 : Int32)).toNatClampNeg) := inb_of S120 ⟨by decide, by decide⟩
  refine own_j 73 [(.double (FP.i2d w0)), .ref aa] (fun t_ k_ => X119.daload hx (j := (0 : Int32)) (v := (.double (FP.i2d w0))) (by rw [e119]; exact Ar120.1) (State.isArrayOf_alike hZ.alike Ar120.2.1) Ar120.2.2 hin120 (H120.at hin120 rfl) (g := (mkF mM 72 #[.val (.ref aa), .val (.double (FP.i2d w6)), .second, .unset] [.int 0, .ref dd, .ref aa])) rfl rfl (hb hby d9_72) t_ k_) ?_
  obtain ⟨T121, h121, X121, e121, W121, st121⟩ := putF X119 hx hZ hown (host := "") (Or.inl (ow hw 72 rfl)) Via.refl e119 F_aa_average E_aa (Or.inl (ow hw 73 rfl)) (ow hw 26 rfl) (ty := .double) (by decide) rfl rfl (g := (mkF mM 73 #[.val (.ref aa), .val (.double (FP.i2d w6)), .second, .unset] [(.double (FP.i2d w0)), .ref aa])) rfl rfl (hb hby d9_73)
  have N121 := Fr.snoc X121 N117 g_aa
  have F_aa_values := F_aa_values.other W121 (Or.inr (slot_ne (Or.inr (ow hw 36 rfl)) (Or.inl (ow hw 73 rfl)) (by decide) (t := (.array .double)) (t' := .double) (by decide) (by decide)))
  have F_aa_count := F_aa_count.other W121 (Or.inr (slot_ne (Or.inl (ow hw 47 rfl)) (Or.inl (ow hw 73 rfl)) (by decide) (t := .int) (t' := .double) (by decide) (by decide)))
  have F_aa_oldest := F_aa_oldest.other W121 (Or.inr (slot_ne (Or.inl (ow hw 71 rfl)) (Or.inl (ow hw 73 rfl)) (by decide) (t := .int) (t' := .double) (by decide) (by decide)))
  have F_aa_average := F_aa_average.same W121
  have E_aa := E_aa.wr W121
  have A_dd := A_dd.other W121 (Ne.symm nad)
  have Kp := Kp.wr W121 (Or.inl (List.mem_of_getElem? (i := 0) rfl))
  refine own_k T121 76 [] st121 ?_
  refine o_iconst 77 1 X121 hx (hb hby d9_76) rfl rfl ?_
  let Lv122 : Array Slot := #[.val (.ref aa), .val (.double (FP.i2d w6)), .second, .val (.int 1)]
  refine own_st (A := T121.setTop (mkF mM 78 Lv122 [])) (fun t_ k_ => XS.istoreN X121.here hx rfl (hb hby d9_77) rfl (l' := Lv122) rfl k_) ?_
  have av0 : Av (FP.i2d w0) w0.toInt 0 (32768 * 1) := own_av0 bl0 bu0
  obtain ⟨na, nb, nc, av1⟩ := own_stp (P := 1) bl1 bu1 av0 (by decide) (by decide) (by decide) (by decide)
  have av1 : Av _ (1 * w1.toInt + 3 * w0.toInt) 1 (32768 * 4) := av1
  refine RT hw X121 hx hZ hby hml hown hlk hret e121 N121 aa dd kd _ 7 0 1 2 (FP.i2d w0) (FP.i2d w1) _ _ g_aa nad ⟨E_aa, F_aa_values, F_aa_count, F_aa_oldest, F_aa_average, A_dd⟩ (by decide) ⟨by decide, by decide⟩ rfl na nb nc rfl (fun T123 L123 h123 X123 e123 N123 K123 ra => ?_)
  have Kp := Kp.trans K123 (allS (Or.inl (List.mem_of_getElem? (i := 0) rfl)) (allS (Or.inl (List.mem_of_getElem? (i := 1) rfl)) all0))
  obtain ⟨na, nb, nc, av2⟩ := own_stp (P := 4) bl2 bu2 av1 (by decide) (by decide) (by decide) (by decide)
  have av2 : Av _ (4 * w2.toInt + 3 * (1 * w1.toInt + 3 * w0.toInt)) 2 (32768 * 16) := av2
  refine RT hw X123 hx hZ hby hml hown hlk hret e123 N123 aa dd kd _ 7 0 2 3 (stp (FP.i2d w1) (FP.i2d w0)) (FP.i2d w2) _ _ g_aa nad ra (by decide) ⟨by decide, by decide⟩ rfl na nb nc rfl (fun T124 L124 h124 X124 e124 N124 K124 ra => ?_)
  have Kp := Kp.trans K124 (allS (Or.inl (List.mem_of_getElem? (i := 0) rfl)) (allS (Or.inl (List.mem_of_getElem? (i := 1) rfl)) all0))
  obtain ⟨na, nb, nc, av3⟩ := own_stp (P := 16) bl3 bu3 av2 (by decide) (by decide) (by decide) (by decide)
  have av3 : Av _ (16 * w3.toInt + 3 * (4 * w2.toInt + 3 * (1 * w1.toInt + 3 * w0.toInt))) 3 (32768 * 64) := av3
  refine RT hw X124 hx hZ hby hml hown hlk hret e124 N124 aa dd kd _ 7 0 3 4 (stp (FP.i2d w2) (stp (FP.i2d w1) (FP.i2d w0))) (FP.i2d w3) _ _ g_aa nad ra (by decide) ⟨by decide, by decide⟩ rfl na nb nc rfl (fun T125 L125 h125 X125 e125 N125 K125 ra => ?_)
  have Kp := Kp.trans K125 (allS (Or.inl (List.mem_of_getElem? (i := 0) rfl)) (allS (Or.inl (List.mem_of_getElem? (i := 1) rfl)) all0))
  obtain ⟨na, nb, nc, av4⟩ := own_stp (P := 64) bl4 bu4 av3 (by decide) (by decide) (by decide) (by decide)
  have av4 : Av _ (64 * w4.toInt + 3 * (16 * w3.toInt + 3 * (4 * w2.toInt + 3 * (1 * w1.toInt + 3 * w0.toInt)))) 4 (32768 * 256) := av4
  refine RT hw X125 hx hZ hby hml hown hlk hret e125 N125 aa dd kd _ 7 0 4 5 (stp (FP.i2d w3) (stp (FP.i2d w2) (stp (FP.i2d w1) (FP.i2d w0)))) (FP.i2d w4) _ _ g_aa nad ra (by decide) ⟨by decide, by decide⟩ rfl na nb nc rfl (fun T126 L126 h126 X126 e126 N126 K126 ra => ?_)
  have Kp := Kp.trans K126 (allS (Or.inl (List.mem_of_getElem? (i := 0) rfl)) (allS (Or.inl (List.mem_of_getElem? (i := 1) rfl)) all0))
  obtain ⟨na, nb, nc, av5⟩ := own_stp (P := 256) bl5 bu5 av4 (by decide) (by decide) (by decide) (by decide)
  have av5 : Av _ (256 * w5.toInt + 3 * (64 * w4.toInt + 3 * (16 * w3.toInt + 3 * (4 * w2.toInt + 3 * (1 * w1.toInt + 3 * w0.toInt))))) 5 (32768 * 1024) := av5
  refine RT hw X126 hx hZ hby hml hown hlk hret e126 N126 aa dd kd _ 7 0 5 6 (stp (FP.i2d w4) (stp (FP.i2d w3) (stp (FP.i2d w2) (stp (FP.i2d w1) (FP.i2d w0))))) (FP.i2d w5) _ _ g_aa nad ra (by decide) ⟨by decide, by decide⟩ rfl na nb nc rfl (fun T127 L127 h127 X127 e127 N127 K127 ra => ?_)
  have Kp := Kp.trans K127 (allS (Or.inl (List.mem_of_getElem? (i := 0) rfl)) (allS (Or.inl (List.mem_of_getElem? (i := 1) rfl)) all0))
  obtain ⟨na, nb, nc, av6⟩ := own_stp (P := 1024) bl6 bu6 av5 (by decide) (by decide) (by decide) (by decide)
  refine RT hw X127 hx hZ hby hml hown hlk hret e127 N127 aa dd kd _ 7 0 6 7 (stp (FP.i2d w5) (stp (FP.i2d w4) (stp (FP.i2d w3) (stp (FP.i2d w2) (stp (FP.i2d w1) (FP.i2d w0)))))) (FP.i2d w6) _ _ g_aa nad ra (by decide) ⟨by decide, by decide⟩ rfl na nb nc rfl (fun T128 L128 h128 X128 e128 N128 K128 ra => ?_)
  have Kp := Kp.trans K128 (allS (Or.inl (List.mem_of_getElem? (i := 0) rfl)) (allS (Or.inl (List.mem_of_getElem? (i := 1) rfl)) all0))
  obtain ⟨E_aa, F_aa_values, F_aa_count, F_aa_oldest, F_aa_average, A_dd⟩ := ra
  refine o_iloadN 79 X128 hx (hb hby d9_78) rfl rfl ?_
  refine o_aloadN 80 X128 hx (hb hby d9_79) rfl rfl rfl ?_
  obtain ⟨T129, X129, e129, st129⟩ := getF X128 hx hZ hown (host := "") (Or.inl (ow hw 46 rfl)) Via.refl e128 F_aa_count (g := (mkF mM 80 #[.val (.ref aa), .val (.double (FP.i2d w6)), .second, .val (.int 7)] [.ref aa, .int 7])) rfl rfl (hb hby d9_80)
  refine own_k T129 83 [.int 7, .int 7] st129 ?_
  refine o_icmpYes 123 X129 hx (hb hby d9_83) (flt (by decide : ¬ ((7 : Int32) < (7 : Int32)))).2.1 (by decide) ?_
  exact own_retV X129 hx hlk hret (hb hby d9_123) (by rw [e129]; exact ⟨rfl, N128, Kp, E_aa, F_aa_values, F_aa_count, F_aa_oldest, F_aa_average, A_dd⟩) (by decide) (by decide)
theorem ef_rmA8 (mM : MethodId) (aa : Addr) (dd : Addr) (kd : ClassId) (gg : UInt64) (w0 : Int32) (w1 : Int32) (w2 : Int32) (w3 : Int32) (w4 : Int32) (w5 : Int32) (w6 : Int32) (w7 : Int32) : entryFrame mM #[.ref aa, (.double (FP.i2d w7))] 4 = mkF mM 0 #[.val (.ref aa), .val (.double (FP.i2d w7)), .second, .unset] [] := by first | (simp [entryFrame, mkF, argsToLocals, Value.category]; done) | rfl
theorem rmA8 (lL : Launch) (Z : State) (a0 : Array Value) (hw : own_tb a0 Z) (ws : List Jvm.Cond) (aa : Addr) (dd : Addr) (kd : ClassId) (gg : UInt64) (w0 : Int32) (w1 : Int32) (w2 : Int32) (w3 : Int32) (w4 : Int32) (w5 : Int32) (w6 : Int32) (w7 : Int32) (h0 : Heap) (n0 : Nat) (g_aa : n0 ≤ aa) (g_dd : n0 ≤ dd) (nad : aa ≠ dd) (ra : Ra Z h0 aa dd kd 7 0 gg [.double (FP.i2d w0), .double (FP.i2d w1), .double (FP.i2d w2), .double (FP.i2d w3), .double (FP.i2d w4), .double (FP.i2d w5), .double (FP.i2d w6), .double 0, .double 0, .double 0]) (bl0 : -32768 ≤ w0.toInt) (bu0 : w0.toInt ≤ 32768) (bl1 : -32768 ≤ w1.toInt) (bu1 : w1.toInt ≤ 32768) (bl2 : -32768 ≤ w2.toInt) (bu2 : w2.toInt ≤ 32768) (bl3 : -32768 ≤ w3.toInt) (bu3 : w3.toInt ≤ 32768) (bl4 : -32768 ≤ w4.toInt) (bu4 : w4.toInt ≤ 32768) (bl5 : -32768 ≤ w5.toInt) (bu5 : w5.toInt ≤ 32768) (bl6 : -32768 ≤ w6.toInt) (bu6 : w6.toInt ≤ 32768) (bl7 : -32768 ≤ w7.toInt) (bu7 : w7.toInt ≤ 32768) :
    own_Ct lL Z yn2 prog_71_method_2_code 4 none ws (⟨0, 0, 0, 0⟩ : Room) #[.ref aa, (.double (FP.i2d w7))] h0 (QA Z aa dd kd 8 0 (stp (FP.i2d w7) (stp (FP.i2d w6) (stp (FP.i2d w5) (stp (FP.i2d w4) (stp (FP.i2d w3) (stp (FP.i2d w2) (stp (FP.i2d w1) (FP.i2d w0)))))))) [.double (FP.i2d w0), .double (FP.i2d w1), .double (FP.i2d w2), .double (FP.i2d w3), .double (FP.i2d w4), .double (FP.i2d w5), .double (FP.i2d w6), .double (FP.i2d w7), .double 0, .double 0] h0 n0) := by
  refine own_body (plainFor_of_name pn_com_2fexample_2fgleanwork_2fgleanwork_2fschedule_2fRecentAverage) 0 0 rfl rfl (fun mM => ef_rmA8 mM aa dd kd gg w0 w1 w2 w3 w4 w5 w6 w7) fun pP eE sS mM below meth cC s₁ hZ hx hby hml hown hnm hret hlk X0 e0 => ?_
  have N0 := Fr.nil n0
  obtain ⟨E_aa, F_aa_values, F_aa_count, F_aa_oldest, F_aa_average, A_dd⟩ := ra
  have Kp := Keep.refl h0 [aa, dd]
  refine o_aloadN 1 X0 hx (hb hby d9_0) rfl rfl rfl ?_
  obtain ⟨T130, X130, e130, st130⟩ := getF X0 hx hZ hown (host := "") (Or.inl (ow hw 46 rfl)) Via.refl e0 F_aa_count (g := (mkF mM 1 #[.val (.ref aa), .val (.double (FP.i2d w7)), .second, .unset] [.ref aa])) rfl rfl (hb hby d9_1)
  refine own_k T130 4 [.int 7] st130 ?_
  refine o_bipush 6 10 X130 hx (hb hby d9_4) rfl rfl ?_
  refine o_icmpNo 9 X130 hx (hb hby d9_6) (tlt (by decide : ((7 : Int32) < (10 : Int32)))).2.1 rfl ?_
  refine o_aloadN 10 X130 hx (hb hby d9_9) rfl rfl rfl ?_
  obtain ⟨T131, X131, e131, st131⟩ := getF X130 hx hZ hown (host := "") (Or.inl (ow hw 35 rfl)) Via.refl e130 F_aa_values (g := (mkF mM 10 #[.val (.ref aa), .val (.double (FP.i2d w7)), .second, .unset] [.ref aa])) rfl rfl (hb hby d9_10)
  refine own_k T131 13 [.ref dd] st131 ?_
  refine o_aloadN 14 X131 hx (hb hby d9_13) rfl rfl rfl ?_
  obtain ⟨T132, X132, e132, st132⟩ := getF X131 hx hZ hown (host := "") (Or.inl (ow hw 70 rfl)) Via.refl e131 F_aa_oldest (g := (mkF mM 14 #[.val (.ref aa), .val (.double (FP.i2d w7)), .second, .unset] [.ref aa, .ref dd])) rfl rfl (hb hby d9_14)
  refine own_k T132 17 [.int 0, .ref dd] st132 ?_
  refine o_aloadN 18 X132 hx (hb hby d9_17) rfl rfl rfl ?_
  obtain ⟨T133, X133, e133, st133⟩ := getF X132 hx hZ hown (host := "") (Or.inl (ow hw 46 rfl)) Via.refl e132 F_aa_count (g := (mkF mM 18 #[.val (.ref aa), .val (.double (FP.i2d w7)), .second, .unset] [.ref aa, .int 0, .ref dd])) rfl rfl (hb hby d9_18)
  refine own_k T133 21 [.int 7, .int 0, .ref dd] st133 ?_
  refine own_j 22 [.int 7, .ref dd] (fun t_ k_ => XS.iadd X133.here hx rfl (hb hby d9_21) rfl k_) ?_
  refine o_bipush 24 10 X133 hx (hb hby d9_22) rfl rfl ?_
  refine own_j 25 [.int 7, .ref dd] (fun t_ k_ => iremM X133 hx rfl (hb hby d9_24) rfl (by decide) k_) ?_
  refine own_j 26 [(.double (FP.i2d w7)), .int 7, .ref dd] (fun t_ k_ => XS.dloadN X133.here hx rfl (hb hby d9_25) rfl k_) ?_
  obtain ⟨cl134, Ar134, q134, S134, Nn134, H134, G134⟩ := id A_dd
  obtain ⟨T135, h135, X135, e135, W135, st135⟩ := stD X133 hx hZ e133 Ar134 (j := (7 : Int32)) (inb_of S134 ⟨by decide, by decide⟩) (g := (mkF mM 26 #[.val (.ref aa), .val (.double (FP.i2d w7)), .second, .unset] [(.double (FP.i2d w7)), .int 7, .ref dd])) rfl rfl (hb hby d9_26)
  have N135 := Fr.snoc X135 N0 g_dd
  have F_aa_values := F_aa_values.other W135 (Or.inl nad)
  have F_aa_count := F_aa_count.other W135 (Or.inl nad)
  have F_aa_oldest := F_aa_oldest.other W135 (Or.inl nad)
  have F_aa_average := F_aa_average.other W135 (Or.inl nad)
  have E_aa := E_aa.wr W135
  have Kp := Kp.wr W135 (Or.inl (List.mem_of_getElem? (i := 1) rfl))
  have A_dd : Arv Z h135 dd kd .double 10 [(.double (FP.i2d w0)), (.double (FP.i2d w1)), (.double (FP.i2d w2)), (.double (FP.i2d w3)), (.double (FP.i2d w4)), (.double (FP.i2d w5)), (.double (FP.i2d w6)), (.double (FP.i2d w7)), .double 0, .double 0] (.double 0) := Arv.set Ar134 q134 S134 Nn134 H134 G134 rfl W135 7 rfl (Nat.le_of_ble_eq_true rfl)
  refine own_k T135 27 [] st135 ?_
  refine o_aloadN 28 X135 hx (hb hby d9_27) rfl rfl rfl ?_
  refine o_dup 29 X135 hx (hb hby d9_28) rfl rfl ?_
  obtain ⟨T136, X136, e136, st136⟩ := getF X135 hx hZ hown (host := "") (Or.inl (ow hw 46 rfl)) Via.refl e135 F_aa_count (g := (mkF mM 29 #[.val (.ref aa), .val (.double (FP.i2d w7)), .second, .unset] [.ref aa, .ref aa])) rfl rfl (hb hby d9_29)
  refine own_k T136 32 [.int 7, .ref aa] st136 ?_
  refine o_iconst 33 1 X136 hx (hb hby d9_32) rfl rfl ?_
  refine own_j 34 [.int 8, .ref aa] (fun t_ k_ => XS.iadd X136.here hx rfl (hb hby d9_33) rfl k_) ?_
  obtain ⟨T137, h137, X137, e137, W137, st137⟩ := putF X136 hx hZ hown (host := "") (Or.inl (ow hw 46 rfl)) Via.refl e136 F_aa_count E_aa (Or.inl (ow hw 47 rfl)) (ow hw 26 rfl) (ty := .int) (by decide) rfl rfl (g := (mkF mM 34 #[.val (.ref aa), .val (.double (FP.i2d w7)), .second, .unset] [.int 8, .ref aa])) rfl rfl (hb hby d9_34)
  have N137 := Fr.snoc X137 N135 g_aa
  have F_aa_values := F_aa_values.other W137 (Or.inr (slot_ne (Or.inr (ow hw 36 rfl)) (Or.inl (ow hw 47 rfl)) (by decide) (t := (.array .double)) (t' := .int) (by decide) (by decide)))
  have F_aa_count := F_aa_count.same W137
  have F_aa_oldest := F_aa_oldest.other W137 (Or.inr (slot_ne (Or.inl (ow hw 71 rfl)) (Or.inl (ow hw 47 rfl)) (by decide) (t := .int) (t' := .int) (by decide) (by decide)))
  have F_aa_average := F_aa_average.other W137 (Or.inr (slot_ne (Or.inl (ow hw 73 rfl)) (Or.inl (ow hw 47 rfl)) (by decide) (t := .double) (t' := .int) (by decide) (by decide)))
  have E_aa := E_aa.wr W137
  have A_dd := A_dd.other W137 (Ne.symm nad)
  have Kp := Kp.wr W137 (Or.inl (List.mem_of_getElem? (i := 0) rfl))
  refine own_k T137 37 [] st137 ?_
  refine o_goto 63 X137 hx (hb hby d9_37) (by decide) ?_
  refine o_aloadN 64 X137 hx (hb hby d9_63) rfl rfl rfl ?_
  refine o_aloadN 65 X137 hx (hb hby d9_64) rfl rfl rfl ?_
  obtain ⟨T138, X138, e138, st138⟩ := getF X137 hx hZ hown (host := "") (Or.inl (ow hw 35 rfl)) Via.refl e137 F_aa_values (g := (mkF mM 65 #[.val (.ref aa), .val (.double (FP.i2d w7)), .second, .unset] [.ref aa, .ref aa])) rfl rfl (hb hby d9_65)
  refine own_k T138 68 [.ref dd, .ref aa] st138 ?_
  refine o_aloadN 69 X138 hx (hb hby d9_68) rfl rfl rfl ?_
  obtain ⟨T139, X139, e139, st139⟩ := getF X138 hx hZ hown (host := "") (Or.inl (ow hw 70 rfl)) Via.refl e138 F_aa_oldest (g := (mkF mM 69 #[.val (.ref aa), .val (.double (FP.i2d w7)), .second, .unset] [.ref aa, .ref dd, .ref aa])) rfl rfl (hb hby d9_69)
  refine own_k T139 72 [.int 0, .ref dd, .ref aa] st139 ?_
  obtain ⟨cl140, Ar140, q140, S140, Nn140, H140, G140⟩ := id A_dd
  have hin140 : ¬ ((0 : Int32) < 0 ∨ cl140.slots.size ≤ ((0 : Int32)).toNatClampNeg) := inb_of S140 ⟨by decide, by decide⟩
  refine own_j 73 [(.double (FP.i2d w0)), .ref aa] (fun t_ k_ => X139.daload hx (j := (0 : Int32)) (v := (.double (FP.i2d w0))) (by rw [e139]; exact Ar140.1) (State.isArrayOf_alike hZ.alike Ar140.2.1) Ar140.2.2 hin140 (H140.at hin140 rfl) (g := (mkF mM 72 #[.val (.ref aa), .val (.double (FP.i2d w7)), .second, .unset] [.int 0, .ref dd, .ref aa])) rfl rfl (hb hby d9_72) t_ k_) ?_
  obtain ⟨T141, h141, X141, e141, W141, st141⟩ := putF X139 hx hZ hown (host := "") (Or.inl (ow hw 72 rfl)) Via.refl e139 F_aa_average E_aa (Or.inl (ow hw 73 rfl)) (ow hw 26 rfl) (ty := .double) (by decide) rfl rfl (g := (mkF mM 73 #[.val (.ref aa), .val (.double (FP.i2d w7)), .second, .unset] [(.double (FP.i2d w0)), .ref aa])) rfl rfl (hb hby d9_73)
  have N141 := Fr.snoc X141 N137 g_aa
  have F_aa_values := F_aa_values.other W141 (Or.inr (slot_ne (Or.inr (ow hw 36 rfl)) (Or.inl (ow hw 73 rfl)) (by decide) (t := (.array .double)) (t' := .double) (by decide) (by decide)))
  have F_aa_count := F_aa_count.other W141 (Or.inr (slot_ne (Or.inl (ow hw 47 rfl)) (Or.inl (ow hw 73 rfl)) (by decide) (t := .int) (t' := .double) (by decide) (by decide)))
  have F_aa_oldest := F_aa_oldest.other W141 (Or.inr (slot_ne (Or.inl (ow hw 71 rfl)) (Or.inl (ow hw 73 rfl)) (by decide) (t := .int) (t' := .double) (by decide) (by decide)))
  have F_aa_average := F_aa_average.same W141
  have E_aa := E_aa.wr W141
  have A_dd := A_dd.other W141 (Ne.symm nad)
  have Kp := Kp.wr W141 (Or.inl (List.mem_of_getElem? (i := 0) rfl))
  refine own_k T141 76 [] st141 ?_
  refine o_iconst 77 1 X141 hx (hb hby d9_76) rfl rfl ?_
  let Lv142 : Array Slot := #[.val (.ref aa), .val (.double (FP.i2d w7)), .second, .val (.int 1)]
  refine own_st (A := T141.setTop (mkF mM 78 Lv142 [])) (fun t_ k_ => XS.istoreN X141.here hx rfl (hb hby d9_77) rfl (l' := Lv142) rfl k_) ?_
  have av0 : Av (FP.i2d w0) w0.toInt 0 (32768 * 1) := own_av0 bl0 bu0
  obtain ⟨na, nb, nc, av1⟩ := own_stp (P := 1) bl1 bu1 av0 (by decide) (by decide) (by decide) (by decide)
  have av1 : Av _ (1 * w1.toInt + 3 * w0.toInt) 1 (32768 * 4) := av1
  refine RT hw X141 hx hZ hby hml hown hlk hret e141 N141 aa dd kd _ 8 0 1 2 (FP.i2d w0) (FP.i2d w1) _ _ g_aa nad ⟨E_aa, F_aa_values, F_aa_count, F_aa_oldest, F_aa_average, A_dd⟩ (by decide) ⟨by decide, by decide⟩ rfl na nb nc rfl (fun T143 L143 h143 X143 e143 N143 K143 ra => ?_)
  have Kp := Kp.trans K143 (allS (Or.inl (List.mem_of_getElem? (i := 0) rfl)) (allS (Or.inl (List.mem_of_getElem? (i := 1) rfl)) all0))
  obtain ⟨na, nb, nc, av2⟩ := own_stp (P := 4) bl2 bu2 av1 (by decide) (by decide) (by decide) (by decide)
  have av2 : Av _ (4 * w2.toInt + 3 * (1 * w1.toInt + 3 * w0.toInt)) 2 (32768 * 16) := av2
  refine RT hw X143 hx hZ hby hml hown hlk hret e143 N143 aa dd kd _ 8 0 2 3 (stp (FP.i2d w1) (FP.i2d w0)) (FP.i2d w2) _ _ g_aa nad ra (by decide) ⟨by decide, by decide⟩ rfl na nb nc rfl (fun T144 L144 h144 X144 e144 N144 K144 ra => ?_)
  have Kp := Kp.trans K144 (allS (Or.inl (List.mem_of_getElem? (i := 0) rfl)) (allS (Or.inl (List.mem_of_getElem? (i := 1) rfl)) all0))
  obtain ⟨na, nb, nc, av3⟩ := own_stp (P := 16) bl3 bu3 av2 (by decide) (by decide) (by decide) (by decide)
  have av3 : Av _ (16 * w3.toInt + 3 * (4 * w2.toInt + 3 * (1 * w1.toInt + 3 * w0.toInt))) 3 (32768 * 64) := av3
  refine RT hw X144 hx hZ hby hml hown hlk hret e144 N144 aa dd kd _ 8 0 3 4 (stp (FP.i2d w2) (stp (FP.i2d w1) (FP.i2d w0))) (FP.i2d w3) _ _ g_aa nad ra (by decide) ⟨by decide, by decide⟩ rfl na nb nc rfl (fun T145 L145 h145 X145 e145 N145 K145 ra => ?_)
  have Kp := Kp.trans K145 (allS (Or.inl (List.mem_of_getElem? (i := 0) rfl)) (allS (Or.inl (List.mem_of_getElem? (i := 1) rfl)) all0))
  obtain ⟨na, nb, nc, av4⟩ := own_stp (P := 64) bl4 bu4 av3 (by decide) (by decide) (by decide) (by decide)
  have av4 : Av _ (64 * w4.toInt + 3 * (16 * w3.toInt + 3 * (4 * w2.toInt + 3 * (1 * w1.toInt + 3 * w0.toInt)))) 4 (32768 * 256) := av4
  refine RT hw X145 hx hZ hby hml hown hlk hret e145 N145 aa dd kd _ 8 0 4 5 (stp (FP.i2d w3) (stp (FP.i2d w2) (stp (FP.i2d w1) (FP.i2d w0)))) (FP.i2d w4) _ _ g_aa nad ra (by decide) ⟨by decide, by decide⟩ rfl na nb nc rfl (fun T146 L146 h146 X146 e146 N146 K146 ra => ?_)
  have Kp := Kp.trans K146 (allS (Or.inl (List.mem_of_getElem? (i := 0) rfl)) (allS (Or.inl (List.mem_of_getElem? (i := 1) rfl)) all0))
  obtain ⟨na, nb, nc, av5⟩ := own_stp (P := 256) bl5 bu5 av4 (by decide) (by decide) (by decide) (by decide)
  have av5 : Av _ (256 * w5.toInt + 3 * (64 * w4.toInt + 3 * (16 * w3.toInt + 3 * (4 * w2.toInt + 3 * (1 * w1.toInt + 3 * w0.toInt))))) 5 (32768 * 1024) := av5
  refine RT hw X146 hx hZ hby hml hown hlk hret e146 N146 aa dd kd _ 8 0 5 6 (stp (FP.i2d w4) (stp (FP.i2d w3) (stp (FP.i2d w2) (stp (FP.i2d w1) (FP.i2d w0))))) (FP.i2d w5) _ _ g_aa nad ra (by decide) ⟨by decide, by decide⟩ rfl na nb nc rfl (fun T147 L147 h147 X147 e147 N147 K147 ra => ?_)
  have Kp := Kp.trans K147 (allS (Or.inl (List.mem_of_getElem? (i := 0) rfl)) (allS (Or.inl (List.mem_of_getElem? (i := 1) rfl)) all0))
  obtain ⟨na, nb, nc, av6⟩ := own_stp (P := 1024) bl6 bu6 av5 (by decide) (by decide) (by decide) (by decide)
  have av6 : Av _ (1024 * w6.toInt + 3 * (256 * w5.toInt + 3 * (64 * w4.toInt + 3 * (16 * w3.toInt + 3 * (4 * w2.toInt + 3 * (1 * w1.toInt + 3 * w0.toInt)))))) 6 (32768 * 4096) := av6
  refine RT hw X147 hx hZ hby hml hown hlk hret e147 N147 aa dd kd _ 8 0 6 7 (stp (FP.i2d w5) (stp (FP.i2d w4) (stp (FP.i2d w3) (stp (FP.i2d w2) (stp (FP.i2d w1) (FP.i2d w0)))))) (FP.i2d w6) _ _ g_aa nad ra (by decide) ⟨by decide, by decide⟩ rfl na nb nc rfl (fun T148 L148 h148 X148 e148 N148 K148 ra => ?_)
  have Kp := Kp.trans K148 (allS (Or.inl (List.mem_of_getElem? (i := 0) rfl)) (allS (Or.inl (List.mem_of_getElem? (i := 1) rfl)) all0))
  obtain ⟨na, nb, nc, av7⟩ := own_stp (P := 4096) bl7 bu7 av6 (by decide) (by decide) (by decide) (by decide)
  refine RT hw X148 hx hZ hby hml hown hlk hret e148 N148 aa dd kd _ 8 0 7 8 (stp (FP.i2d w6) (stp (FP.i2d w5) (stp (FP.i2d w4) (stp (FP.i2d w3) (stp (FP.i2d w2) (stp (FP.i2d w1) (FP.i2d w0))))))) (FP.i2d w7) _ _ g_aa nad ra (by decide) ⟨by decide, by decide⟩ rfl na nb nc rfl (fun T149 L149 h149 X149 e149 N149 K149 ra => ?_)
  have Kp := Kp.trans K149 (allS (Or.inl (List.mem_of_getElem? (i := 0) rfl)) (allS (Or.inl (List.mem_of_getElem? (i := 1) rfl)) all0))
  obtain ⟨E_aa, F_aa_values, F_aa_count, F_aa_oldest, F_aa_average, A_dd⟩ := ra
  refine o_iloadN 79 X149 hx (hb hby d9_78) rfl rfl ?_
  refine o_aloadN 80 X149 hx (hb hby d9_79) rfl rfl rfl ?_
  obtain ⟨T150, X150, e150, st150⟩ := getF X149 hx hZ hown (host := "") (Or.inl (ow hw 46 rfl)) Via.refl e149 F_aa_count (g := (mkF mM 80 #[.val (.ref aa), .val (.double (FP.i2d w7)), .second, .val (.int 8)] [.ref aa, .int 8])) rfl rfl (hb hby d9_80)
  refine own_k T150 83 [.int 8, .int 8] st150 ?_
  refine o_icmpYes 123 X150 hx (hb hby d9_83) (flt (by decide : ¬ ((8 : Int32) < (8 : Int32)))).2.1 (by decide) ?_
  exact own_retV X150 hx hlk hret (hb hby d9_123) (by rw [e150]; exact ⟨rfl, N149, Kp, E_aa, F_aa_values, F_aa_count, F_aa_oldest, F_aa_average, A_dd⟩) (by decide) (by decide)
theorem ef_rmA9 (mM : MethodId) (aa : Addr) (dd : Addr) (kd : ClassId) (gg : UInt64) (w0 : Int32) (w1 : Int32) (w2 : Int32) (w3 : Int32) (w4 : Int32) (w5 : Int32) (w6 : Int32) (w7 : Int32) (w8 : Int32) : entryFrame mM #[.ref aa, (.double (FP.i2d w8))] 4 = mkF mM 0 #[.val (.ref aa), .val (.double (FP.i2d w8)), .second, .unset] [] := by first | (simp [entryFrame, mkF, argsToLocals, Value.category]; done) | rfl
theorem rmA9 (lL : Launch) (Z : State) (a0 : Array Value) (hw : own_tb a0 Z) (ws : List Jvm.Cond) (aa : Addr) (dd : Addr) (kd : ClassId) (gg : UInt64) (w0 : Int32) (w1 : Int32) (w2 : Int32) (w3 : Int32) (w4 : Int32) (w5 : Int32) (w6 : Int32) (w7 : Int32) (w8 : Int32) (h0 : Heap) (n0 : Nat) (g_aa : n0 ≤ aa) (g_dd : n0 ≤ dd) (nad : aa ≠ dd) (ra : Ra Z h0 aa dd kd 8 0 gg [.double (FP.i2d w0), .double (FP.i2d w1), .double (FP.i2d w2), .double (FP.i2d w3), .double (FP.i2d w4), .double (FP.i2d w5), .double (FP.i2d w6), .double (FP.i2d w7), .double 0, .double 0]) (bl0 : -32768 ≤ w0.toInt) (bu0 : w0.toInt ≤ 32768) (bl1 : -32768 ≤ w1.toInt) (bu1 : w1.toInt ≤ 32768) (bl2 : -32768 ≤ w2.toInt) (bu2 : w2.toInt ≤ 32768) (bl3 : -32768 ≤ w3.toInt) (bu3 : w3.toInt ≤ 32768) (bl4 : -32768 ≤ w4.toInt) (bu4 : w4.toInt ≤ 32768) (bl5 : -32768 ≤ w5.toInt) (bu5 : w5.toInt ≤ 32768) (bl6 : -32768 ≤ w6.toInt) (bu6 : w6.toInt ≤ 32768) (bl7 : -32768 ≤ w7.toInt) (bu7 : w7.toInt ≤ 32768) (bl8 : -32768 ≤ w8.toInt) (bu8 : w8.toInt ≤ 32768) :
    own_Ct lL Z yn2 prog_71_method_2_code 4 none ws (⟨0, 0, 0, 0⟩ : Room) #[.ref aa, (.double (FP.i2d w8))] h0 (QA Z aa dd kd 9 0 (stp (FP.i2d w8) (stp (FP.i2d w7) (stp (FP.i2d w6) (stp (FP.i2d w5) (stp (FP.i2d w4) (stp (FP.i2d w3) (stp (FP.i2d w2) (stp (FP.i2d w1) (FP.i2d w0))))))))) [.double (FP.i2d w0), .double (FP.i2d w1), .double (FP.i2d w2), .double (FP.i2d w3), .double (FP.i2d w4), .double (FP.i2d w5), .double (FP.i2d w6), .double (FP.i2d w7), .double (FP.i2d w8), .double 0] h0 n0) := by
  refine own_body (plainFor_of_name pn_com_2fexample_2fgleanwork_2fgleanwork_2fschedule_2fRecentAverage) 0 0 rfl rfl (fun mM => ef_rmA9 mM aa dd kd gg w0 w1 w2 w3 w4 w5 w6 w7 w8) fun pP eE sS mM below meth cC s₁ hZ hx hby hml hown hnm hret hlk X0 e0 => ?_
  have N0 := Fr.nil n0
  obtain ⟨E_aa, F_aa_values, F_aa_count, F_aa_oldest, F_aa_average, A_dd⟩ := ra
  have Kp := Keep.refl h0 [aa, dd]
  refine o_aloadN 1 X0 hx (hb hby d9_0) rfl rfl rfl ?_
  obtain ⟨T151, X151, e151, st151⟩ := getF X0 hx hZ hown (host := "") (Or.inl (ow hw 46 rfl)) Via.refl e0 F_aa_count (g := (mkF mM 1 #[.val (.ref aa), .val (.double (FP.i2d w8)), .second, .unset] [.ref aa])) rfl rfl (hb hby d9_1)
  refine own_k T151 4 [.int 8] st151 ?_
  refine o_bipush 6 10 X151 hx (hb hby d9_4) rfl rfl ?_
  refine o_icmpNo 9 X151 hx (hb hby d9_6) (tlt (by decide : ((8 : Int32) < (10 : Int32)))).2.1 rfl ?_
  refine o_aloadN 10 X151 hx (hb hby d9_9) rfl rfl rfl ?_
  obtain ⟨T152, X152, e152, st152⟩ := getF X151 hx hZ hown (host := "") (Or.inl (ow hw 35 rfl)) Via.refl e151 F_aa_values (g := (mkF mM 10 #[.val (.ref aa), .val (.double (FP.i2d w8)), .second, .unset] [.ref aa])) rfl rfl (hb hby d9_10)
  refine own_k T152 13 [.ref dd] st152 ?_
  refine o_aloadN 14 X152 hx (hb hby d9_13) rfl rfl rfl ?_
  obtain ⟨T153, X153, e153, st153⟩ := getF X152 hx hZ hown (host := "") (Or.inl (ow hw 70 rfl)) Via.refl e152 F_aa_oldest (g := (mkF mM 14 #[.val (.ref aa), .val (.double (FP.i2d w8)), .second, .unset] [.ref aa, .ref dd])) rfl rfl (hb hby d9_14)
  refine own_k T153 17 [.int 0, .ref dd] st153 ?_
  refine o_aloadN 18 X153 hx (hb hby d9_17) rfl rfl rfl ?_
  obtain ⟨T154, X154, e154, st154⟩ := getF X153 hx hZ hown (host := "") (Or.inl (ow hw 46 rfl)) Via.refl e153 F_aa_count (g := (mkF mM 18 #[.val (.ref aa), .val (.double (FP.i2d w8)), .second, .unset] [.ref aa, .int 0, .ref dd])) rfl rfl (hb hby d9_18)
  refine own_k T154 21 [.int 8, .int 0, .ref dd] st154 ?_
  refine own_j 22 [.int 8, .ref dd] (fun t_ k_ => XS.iadd X154.here hx rfl (hb hby d9_21) rfl k_) ?_
  refine o_bipush 24 10 X154 hx (hb hby d9_22) rfl rfl ?_
  refine own_j 25 [.int 8, .ref dd] (fun t_ k_ => iremM X154 hx rfl (hb hby d9_24) rfl (by decide) k_) ?_
  refine own_j 26 [(.double (FP.i2d w8)), .int 8, .ref dd] (fun t_ k_ => XS.dloadN X154.here hx rfl (hb hby d9_25) rfl k_) ?_
  obtain ⟨cl155, Ar155, q155, S155, Nn155, H155, G155⟩ := id A_dd
  obtain ⟨T156, h156, X156, e156, W156, st156⟩ := stD X154 hx hZ e154 Ar155 (j := (8 : Int32)) (inb_of S155 ⟨by decide, by decide⟩) (g := (mkF mM 26 #[.val (.ref aa), .val (.double (FP.i2d w8)), .second, .unset] [(.double (FP.i2d w8)), .int 8, .ref dd])) rfl rfl (hb hby d9_26)
  have N156 := Fr.snoc X156 N0 g_dd
  have F_aa_values := F_aa_values.other W156 (Or.inl nad)
  have F_aa_count := F_aa_count.other W156 (Or.inl nad)
  have F_aa_oldest := F_aa_oldest.other W156 (Or.inl nad)
  have F_aa_average := F_aa_average.other W156 (Or.inl nad)
  have E_aa := E_aa.wr W156
  have Kp := Kp.wr W156 (Or.inl (List.mem_of_getElem? (i := 1) rfl))
  have A_dd : Arv Z h156 dd kd .double 10 [(.double (FP.i2d w0)), (.double (FP.i2d w1)), (.double (FP.i2d w2)), (.double (FP.i2d w3)), (.double (FP.i2d w4)), (.double (FP.i2d w5)), (.double (FP.i2d w6)), (.double (FP.i2d w7)), (.double (FP.i2d w8)), .double 0] (.double 0) := Arv.set Ar155 q155 S155 Nn155 H155 G155 rfl W156 8 rfl (Nat.le_of_ble_eq_true rfl)
  refine own_k T156 27 [] st156 ?_
  refine o_aloadN 28 X156 hx (hb hby d9_27) rfl rfl rfl ?_
  refine o_dup 29 X156 hx (hb hby d9_28) rfl rfl ?_
  obtain ⟨T157, X157, e157, st157⟩ := getF X156 hx hZ hown (host := "") (Or.inl (ow hw 46 rfl)) Via.refl e156 F_aa_count (g := (mkF mM 29 #[.val (.ref aa), .val (.double (FP.i2d w8)), .second, .unset] [.ref aa, .ref aa])) rfl rfl (hb hby d9_29)
  refine own_k T157 32 [.int 8, .ref aa] st157 ?_
  refine o_iconst 33 1 X157 hx (hb hby d9_32) rfl rfl ?_
  refine own_j 34 [.int 9, .ref aa] (fun t_ k_ => XS.iadd X157.here hx rfl (hb hby d9_33) rfl k_) ?_
  obtain ⟨T158, h158, X158, e158, W158, st158⟩ := putF X157 hx hZ hown (host := "") (Or.inl (ow hw 46 rfl)) Via.refl e157 F_aa_count E_aa (Or.inl (ow hw 47 rfl)) (ow hw 26 rfl) (ty := .int) (by decide) rfl rfl (g := (mkF mM 34 #[.val (.ref aa), .val (.double (FP.i2d w8)), .second, .unset] [.int 9, .ref aa])) rfl rfl (hb hby d9_34)
  have N158 := Fr.snoc X158 N156 g_aa
  have F_aa_values := F_aa_values.other W158 (Or.inr (slot_ne (Or.inr (ow hw 36 rfl)) (Or.inl (ow hw 47 rfl)) (by decide) (t := (.array .double)) (t' := .int) (by decide) (by decide)))
  have F_aa_count := F_aa_count.same W158
  have F_aa_oldest := F_aa_oldest.other W158 (Or.inr (slot_ne (Or.inl (ow hw 71 rfl)) (Or.inl (ow hw 47 rfl)) (by decide) (t := .int) (t' := .int) (by decide) (by decide)))
  have F_aa_average := F_aa_average.other W158 (Or.inr (slot_ne (Or.inl (ow hw 73 rfl)) (Or.inl (ow hw 47 rfl)) (by decide) (t := .double) (t' := .int) (by decide) (by decide)))
  have E_aa := E_aa.wr W158
  have A_dd := A_dd.other W158 (Ne.symm nad)
  have Kp := Kp.wr W158 (Or.inl (List.mem_of_getElem? (i := 0) rfl))
  refine own_k T158 37 [] st158 ?_
  refine o_goto 63 X158 hx (hb hby d9_37) (by decide) ?_
  refine o_aloadN 64 X158 hx (hb hby d9_63) rfl rfl rfl ?_
  refine o_aloadN 65 X158 hx (hb hby d9_64) rfl rfl rfl ?_
  obtain ⟨T159, X159, e159, st159⟩ := getF X158 hx hZ hown (host := "") (Or.inl (ow hw 35 rfl)) Via.refl e158 F_aa_values (g := (mkF mM 65 #[.val (.ref aa), .val (.double (FP.i2d w8)), .second, .unset] [.ref aa, .ref aa])) rfl rfl (hb hby d9_65)
  refine own_k T159 68 [.ref dd, .ref aa] st159 ?_
  refine o_aloadN 69 X159 hx (hb hby d9_68) rfl rfl rfl ?_
  obtain ⟨T160, X160, e160, st160⟩ := getF X159 hx hZ hown (host := "") (Or.inl (ow hw 70 rfl)) Via.refl e159 F_aa_oldest (g := (mkF mM 69 #[.val (.ref aa), .val (.double (FP.i2d w8)), .second, .unset] [.ref aa, .ref dd, .ref aa])) rfl rfl (hb hby d9_69)
  refine own_k T160 72 [.int 0, .ref dd, .ref aa] st160 ?_
  obtain ⟨cl161, Ar161, q161, S161, Nn161, H161, G161⟩ := id A_dd
  have hin161 : ¬ ((0 : Int32) < 0 ∨ cl161.slots.size ≤ ((0 : Int32)).toNatClampNeg) := inb_of S161 ⟨by decide, by decide⟩
  refine own_j 73 [(.double (FP.i2d w0)), .ref aa] (fun t_ k_ => X160.daload hx (j := (0 : Int32)) (v := (.double (FP.i2d w0))) (by rw [e160]; exact Ar161.1) (State.isArrayOf_alike hZ.alike Ar161.2.1) Ar161.2.2 hin161 (H161.at hin161 rfl) (g := (mkF mM 72 #[.val (.ref aa), .val (.double (FP.i2d w8)), .second, .unset] [.int 0, .ref dd, .ref aa])) rfl rfl (hb hby d9_72) t_ k_) ?_
  obtain ⟨T162, h162, X162, e162, W162, st162⟩ := putF X160 hx hZ hown (host := "") (Or.inl (ow hw 72 rfl)) Via.refl e160 F_aa_average E_aa (Or.inl (ow hw 73 rfl)) (ow hw 26 rfl) (ty := .double) (by decide) rfl rfl (g := (mkF mM 73 #[.val (.ref aa), .val (.double (FP.i2d w8)), .second, .unset] [(.double (FP.i2d w0)), .ref aa])) rfl rfl (hb hby d9_73)
  have N162 := Fr.snoc X162 N158 g_aa
  have F_aa_values := F_aa_values.other W162 (Or.inr (slot_ne (Or.inr (ow hw 36 rfl)) (Or.inl (ow hw 73 rfl)) (by decide) (t := (.array .double)) (t' := .double) (by decide) (by decide)))
  have F_aa_count := F_aa_count.other W162 (Or.inr (slot_ne (Or.inl (ow hw 47 rfl)) (Or.inl (ow hw 73 rfl)) (by decide) (t := .int) (t' := .double) (by decide) (by decide)))
  have F_aa_oldest := F_aa_oldest.other W162 (Or.inr (slot_ne (Or.inl (ow hw 71 rfl)) (Or.inl (ow hw 73 rfl)) (by decide) (t := .int) (t' := .double) (by decide) (by decide)))
  have F_aa_average := F_aa_average.same W162
  have E_aa := E_aa.wr W162
  have A_dd := A_dd.other W162 (Ne.symm nad)
  have Kp := Kp.wr W162 (Or.inl (List.mem_of_getElem? (i := 0) rfl))
  refine own_k T162 76 [] st162 ?_
  refine o_iconst 77 1 X162 hx (hb hby d9_76) rfl rfl ?_
  let Lv163 : Array Slot := #[.val (.ref aa), .val (.double (FP.i2d w8)), .second, .val (.int 1)]
  refine own_st (A := T162.setTop (mkF mM 78 Lv163 [])) (fun t_ k_ => XS.istoreN X162.here hx rfl (hb hby d9_77) rfl (l' := Lv163) rfl k_) ?_
  have av0 : Av (FP.i2d w0) w0.toInt 0 (32768 * 1) := own_av0 bl0 bu0
  obtain ⟨na, nb, nc, av1⟩ := own_stp (P := 1) bl1 bu1 av0 (by decide) (by decide) (by decide) (by decide)
  have av1 : Av _ (1 * w1.toInt + 3 * w0.toInt) 1 (32768 * 4) := av1
  refine RT hw X162 hx hZ hby hml hown hlk hret e162 N162 aa dd kd _ 9 0 1 2 (FP.i2d w0) (FP.i2d w1) _ _ g_aa nad ⟨E_aa, F_aa_values, F_aa_count, F_aa_oldest, F_aa_average, A_dd⟩ (by decide) ⟨by decide, by decide⟩ rfl na nb nc rfl (fun T164 L164 h164 X164 e164 N164 K164 ra => ?_)
  have Kp := Kp.trans K164 (allS (Or.inl (List.mem_of_getElem? (i := 0) rfl)) (allS (Or.inl (List.mem_of_getElem? (i := 1) rfl)) all0))
  obtain ⟨na, nb, nc, av2⟩ := own_stp (P := 4) bl2 bu2 av1 (by decide) (by decide) (by decide) (by decide)
  have av2 : Av _ (4 * w2.toInt + 3 * (1 * w1.toInt + 3 * w0.toInt)) 2 (32768 * 16) := av2
  refine RT hw X164 hx hZ hby hml hown hlk hret e164 N164 aa dd kd _ 9 0 2 3 (stp (FP.i2d w1) (FP.i2d w0)) (FP.i2d w2) _ _ g_aa nad ra (by decide) ⟨by decide, by decide⟩ rfl na nb nc rfl (fun T165 L165 h165 X165 e165 N165 K165 ra => ?_)
  have Kp := Kp.trans K165 (allS (Or.inl (List.mem_of_getElem? (i := 0) rfl)) (allS (Or.inl (List.mem_of_getElem? (i := 1) rfl)) all0))
  obtain ⟨na, nb, nc, av3⟩ := own_stp (P := 16) bl3 bu3 av2 (by decide) (by decide) (by decide) (by decide)
  have av3 : Av _ (16 * w3.toInt + 3 * (4 * w2.toInt + 3 * (1 * w1.toInt + 3 * w0.toInt))) 3 (32768 * 64) := av3
  refine RT hw X165 hx hZ hby hml hown hlk hret e165 N165 aa dd kd _ 9 0 3 4 (stp (FP.i2d w2) (stp (FP.i2d w1) (FP.i2d w0))) (FP.i2d w3) _ _ g_aa nad ra (by decide) ⟨by decide, by decide⟩ rfl na nb nc rfl (fun T166 L166 h166 X166 e166 N166 K166 ra => ?_)
  have Kp := Kp.trans K166 (allS (Or.inl (List.mem_of_getElem? (i := 0) rfl)) (allS (Or.inl (List.mem_of_getElem? (i := 1) rfl)) all0))
  obtain ⟨na, nb, nc, av4⟩ := own_stp (P := 64) bl4 bu4 av3 (by decide) (by decide) (by decide) (by decide)
  have av4 : Av _ (64 * w4.toInt + 3 * (16 * w3.toInt + 3 * (4 * w2.toInt + 3 * (1 * w1.toInt + 3 * w0.toInt)))) 4 (32768 * 256) := av4
  refine RT hw X166 hx hZ hby hml hown hlk hret e166 N166 aa dd kd _ 9 0 4 5 (stp (FP.i2d w3) (stp (FP.i2d w2) (stp (FP.i2d w1) (FP.i2d w0)))) (FP.i2d w4) _ _ g_aa nad ra (by decide) ⟨by decide, by decide⟩ rfl na nb nc rfl (fun T167 L167 h167 X167 e167 N167 K167 ra => ?_)
  have Kp := Kp.trans K167 (allS (Or.inl (List.mem_of_getElem? (i := 0) rfl)) (allS (Or.inl (List.mem_of_getElem? (i := 1) rfl)) all0))
  obtain ⟨na, nb, nc, av5⟩ := own_stp (P := 256) bl5 bu5 av4 (by decide) (by decide) (by decide) (by decide)
  have av5 : Av _ (256 * w5.toInt + 3 * (64 * w4.toInt + 3 * (16 * w3.toInt + 3 * (4 * w2.toInt + 3 * (1 * w1.toInt + 3 * w0.toInt))))) 5 (32768 * 1024) := av5
  refine RT hw X167 hx hZ hby hml hown hlk hret e167 N167 aa dd kd _ 9 0 5 6 (stp (FP.i2d w4) (stp (FP.i2d w3) (stp (FP.i2d w2) (stp (FP.i2d w1) (FP.i2d w0))))) (FP.i2d w5) _ _ g_aa nad ra (by decide) ⟨by decide, by decide⟩ rfl na nb nc rfl (fun T168 L168 h168 X168 e168 N168 K168 ra => ?_)
  have Kp := Kp.trans K168 (allS (Or.inl (List.mem_of_getElem? (i := 0) rfl)) (allS (Or.inl (List.mem_of_getElem? (i := 1) rfl)) all0))
  obtain ⟨na, nb, nc, av6⟩ := own_stp (P := 1024) bl6 bu6 av5 (by decide) (by decide) (by decide) (by decide)
  have av6 : Av _ (1024 * w6.toInt + 3 * (256 * w5.toInt + 3 * (64 * w4.toInt + 3 * (16 * w3.toInt + 3 * (4 * w2.toInt + 3 * (1 * w1.toInt + 3 * w0.toInt)))))) 6 (32768 * 4096) := av6
  refine RT hw X168 hx hZ hby hml hown hlk hret e168 N168 aa dd kd _ 9 0 6 7 (stp (FP.i2d w5) (stp (FP.i2d w4) (stp (FP.i2d w3) (stp (FP.i2d w2) (stp (FP.i2d w1) (FP.i2d w0)))))) (FP.i2d w6) _ _ g_aa nad ra (by decide) ⟨by decide, by decide⟩ rfl na nb nc rfl (fun T169 L169 h169 X169 e169 N169 K169 ra => ?_)
  have Kp := Kp.trans K169 (allS (Or.inl (List.mem_of_getElem? (i := 0) rfl)) (allS (Or.inl (List.mem_of_getElem? (i := 1) rfl)) all0))
  obtain ⟨na, nb, nc, av7⟩ := own_stp (P := 4096) bl7 bu7 av6 (by decide) (by decide) (by decide) (by decide)
  have av7 : Av _ (4096 * w7.toInt + 3 * (1024 * w6.toInt + 3 * (256 * w5.toInt + 3 * (64 * w4.toInt + 3 * (16 * w3.toInt + 3 * (4 * w2.toInt + 3 * (1 * w1.toInt + 3 * w0.toInt))))))) 7 (32768 * 16384) := av7
  refine RT hw X169 hx hZ hby hml hown hlk hret e169 N169 aa dd kd _ 9 0 7 8 (stp (FP.i2d w6) (stp (FP.i2d w5) (stp (FP.i2d w4) (stp (FP.i2d w3) (stp (FP.i2d w2) (stp (FP.i2d w1) (FP.i2d w0))))))) (FP.i2d w7) _ _ g_aa nad ra (by decide) ⟨by decide, by decide⟩ rfl na nb nc rfl (fun T170 L170 h170 X170 e170 N170 K170 ra => ?_)
  have Kp := Kp.trans K170 (allS (Or.inl (List.mem_of_getElem? (i := 0) rfl)) (allS (Or.inl (List.mem_of_getElem? (i := 1) rfl)) all0))
  obtain ⟨na, nb, nc, av8⟩ := own_stp (P := 16384) bl8 bu8 av7 (by decide) (by decide) (by decide) (by decide)
  refine RT hw X170 hx hZ hby hml hown hlk hret e170 N170 aa dd kd _ 9 0 8 9 (stp (FP.i2d w7) (stp (FP.i2d w6) (stp (FP.i2d w5) (stp (FP.i2d w4) (stp (FP.i2d w3) (stp (FP.i2d w2) (stp (FP.i2d w1) (FP.i2d w0)))))))) (FP.i2d w8) _ _ g_aa nad ra (by decide) ⟨by decide, by decide⟩ rfl na nb nc rfl (fun T171 L171 h171 X171 e171 N171 K171 ra => ?_)
  have Kp := Kp.trans K171 (allS (Or.inl (List.mem_of_getElem? (i := 0) rfl)) (allS (Or.inl (List.mem_of_getElem? (i := 1) rfl)) all0))
  obtain ⟨E_aa, F_aa_values, F_aa_count, F_aa_oldest, F_aa_average, A_dd⟩ := ra
  refine o_iloadN 79 X171 hx (hb hby d9_78) rfl rfl ?_
  refine o_aloadN 80 X171 hx (hb hby d9_79) rfl rfl rfl ?_
  obtain ⟨T172, X172, e172, st172⟩ := getF X171 hx hZ hown (host := "") (Or.inl (ow hw 46 rfl)) Via.refl e171 F_aa_count (g := (mkF mM 80 #[.val (.ref aa), .val (.double (FP.i2d w8)), .second, .val (.int 9)] [.ref aa, .int 9])) rfl rfl (hb hby d9_80)
  refine own_k T172 83 [.int 9, .int 9] st172 ?_
  refine o_icmpYes 123 X172 hx (hb hby d9_83) (flt (by decide : ¬ ((9 : Int32) < (9 : Int32)))).2.1 (by decide) ?_
  exact own_retV X172 hx hlk hret (hb hby d9_123) (by rw [e172]; exact ⟨rfl, N171, Kp, E_aa, F_aa_values, F_aa_count, F_aa_oldest, F_aa_average, A_dd⟩) (by decide) (by decide)
theorem ef_rmA10 (mM : MethodId) (aa : Addr) (dd : Addr) (kd : ClassId) (gg : UInt64) (w0 : Int32) (w1 : Int32) (w2 : Int32) (w3 : Int32) (w4 : Int32) (w5 : Int32) (w6 : Int32) (w7 : Int32) (w8 : Int32) (w9 : Int32) : entryFrame mM #[.ref aa, (.double (FP.i2d w9))] 4 = mkF mM 0 #[.val (.ref aa), .val (.double (FP.i2d w9)), .second, .unset] [] := by first | (simp [entryFrame, mkF, argsToLocals, Value.category]; done) | rfl
theorem rmA10 (lL : Launch) (Z : State) (a0 : Array Value) (hw : own_tb a0 Z) (ws : List Jvm.Cond) (aa : Addr) (dd : Addr) (kd : ClassId) (gg : UInt64) (w0 : Int32) (w1 : Int32) (w2 : Int32) (w3 : Int32) (w4 : Int32) (w5 : Int32) (w6 : Int32) (w7 : Int32) (w8 : Int32) (w9 : Int32) (h0 : Heap) (n0 : Nat) (g_aa : n0 ≤ aa) (g_dd : n0 ≤ dd) (nad : aa ≠ dd) (ra : Ra Z h0 aa dd kd 9 0 gg [.double (FP.i2d w0), .double (FP.i2d w1), .double (FP.i2d w2), .double (FP.i2d w3), .double (FP.i2d w4), .double (FP.i2d w5), .double (FP.i2d w6), .double (FP.i2d w7), .double (FP.i2d w8), .double 0]) (bl0 : -32768 ≤ w0.toInt) (bu0 : w0.toInt ≤ 32768) (bl1 : -32768 ≤ w1.toInt) (bu1 : w1.toInt ≤ 32768) (bl2 : -32768 ≤ w2.toInt) (bu2 : w2.toInt ≤ 32768) (bl3 : -32768 ≤ w3.toInt) (bu3 : w3.toInt ≤ 32768) (bl4 : -32768 ≤ w4.toInt) (bu4 : w4.toInt ≤ 32768) (bl5 : -32768 ≤ w5.toInt) (bu5 : w5.toInt ≤ 32768) (bl6 : -32768 ≤ w6.toInt) (bu6 : w6.toInt ≤ 32768) (bl7 : -32768 ≤ w7.toInt) (bu7 : w7.toInt ≤ 32768) (bl8 : -32768 ≤ w8.toInt) (bu8 : w8.toInt ≤ 32768) (bl9 : -32768 ≤ w9.toInt) (bu9 : w9.toInt ≤ 32768) :
    own_Ct lL Z yn2 prog_71_method_2_code 4 none ws (⟨0, 0, 0, 0⟩ : Room) #[.ref aa, (.double (FP.i2d w9))] h0 (QA Z aa dd kd 10 0 (stp (FP.i2d w9) (stp (FP.i2d w8) (stp (FP.i2d w7) (stp (FP.i2d w6) (stp (FP.i2d w5) (stp (FP.i2d w4) (stp (FP.i2d w3) (stp (FP.i2d w2) (stp (FP.i2d w1) (FP.i2d w0)))))))))) [.double (FP.i2d w0), .double (FP.i2d w1), .double (FP.i2d w2), .double (FP.i2d w3), .double (FP.i2d w4), .double (FP.i2d w5), .double (FP.i2d w6), .double (FP.i2d w7), .double (FP.i2d w8), .double (FP.i2d w9)] h0 n0) := by
  refine own_body (plainFor_of_name pn_com_2fexample_2fgleanwork_2fgleanwork_2fschedule_2fRecentAverage) 0 0 rfl rfl (fun mM => ef_rmA10 mM aa dd kd gg w0 w1 w2 w3 w4 w5 w6 w7 w8 w9) fun pP eE sS mM below meth cC s₁ hZ hx hby hml hown hnm hret hlk X0 e0 => ?_
  have N0 := Fr.nil n0
  obtain ⟨E_aa, F_aa_values, F_aa_count, F_aa_oldest, F_aa_average, A_dd⟩ := ra
  have Kp := Keep.refl h0 [aa, dd]
  refine o_aloadN 1 X0 hx (hb hby d9_0) rfl rfl rfl ?_
  obtain ⟨T173, X173, e173, st173⟩ := getF X0 hx hZ hown (host := "") (Or.inl (ow hw 46 rfl)) Via.refl e0 F_aa_count (g := (mkF mM 1 #[.val (.ref aa), .val (.double (FP.i2d w9)), .second, .unset] [.ref aa])) rfl rfl (hb hby d9_1)
  refine own_k T173 4 [.int 9] st173 ?_
  refine o_bipush 6 10 X173 hx (hb hby d9_4) rfl rfl ?_
  refine o_icmpNo 9 X173 hx (hb hby d9_6) (tlt (by decide : ((9 : Int32) < (10 : Int32)))).2.1 rfl ?_
  refine o_aloadN 10 X173 hx (hb hby d9_9) rfl rfl rfl ?_
  obtain ⟨T174, X174, e174, st174⟩ := getF X173 hx hZ hown (host := "") (Or.inl (ow hw 35 rfl)) Via.refl e173 F_aa_values (g := (mkF mM 10 #[.val (.ref aa), .val (.double (FP.i2d w9)), .second, .unset] [.ref aa])) rfl rfl (hb hby d9_10)
  refine own_k T174 13 [.ref dd] st174 ?_
  refine o_aloadN 14 X174 hx (hb hby d9_13) rfl rfl rfl ?_
  obtain ⟨T175, X175, e175, st175⟩ := getF X174 hx hZ hown (host := "") (Or.inl (ow hw 70 rfl)) Via.refl e174 F_aa_oldest (g := (mkF mM 14 #[.val (.ref aa), .val (.double (FP.i2d w9)), .second, .unset] [.ref aa, .ref dd])) rfl rfl (hb hby d9_14)
  refine own_k T175 17 [.int 0, .ref dd] st175 ?_
  refine o_aloadN 18 X175 hx (hb hby d9_17) rfl rfl rfl ?_
  obtain ⟨T176, X176, e176, st176⟩ := getF X175 hx hZ hown (host := "") (Or.inl (ow hw 46 rfl)) Via.refl e175 F_aa_count (g := (mkF mM 18 #[.val (.ref aa), .val (.double (FP.i2d w9)), .second, .unset] [.ref aa, .int 0, .ref dd])) rfl rfl (hb hby d9_18)
  refine own_k T176 21 [.int 9, .int 0, .ref dd] st176 ?_
  refine own_j 22 [.int 9, .ref dd] (fun t_ k_ => XS.iadd X176.here hx rfl (hb hby d9_21) rfl k_) ?_
  refine o_bipush 24 10 X176 hx (hb hby d9_22) rfl rfl ?_
  refine own_j 25 [.int 9, .ref dd] (fun t_ k_ => iremM X176 hx rfl (hb hby d9_24) rfl (by decide) k_) ?_
  refine own_j 26 [(.double (FP.i2d w9)), .int 9, .ref dd] (fun t_ k_ => XS.dloadN X176.here hx rfl (hb hby d9_25) rfl k_) ?_
  obtain ⟨cl177, Ar177, q177, S177, Nn177, H177, G177⟩ := id A_dd
  obtain ⟨T178, h178, X178, e178, W178, st178⟩ := stD X176 hx hZ e176 Ar177 (j := (9 : Int32)) (inb_of S177 ⟨by decide, by decide⟩) (g := (mkF mM 26 #[.val (.ref aa), .val (.double (FP.i2d w9)), .second, .unset] [(.double (FP.i2d w9)), .int 9, .ref dd])) rfl rfl (hb hby d9_26)
  have N178 := Fr.snoc X178 N0 g_dd
  have F_aa_values := F_aa_values.other W178 (Or.inl nad)
  have F_aa_count := F_aa_count.other W178 (Or.inl nad)
  have F_aa_oldest := F_aa_oldest.other W178 (Or.inl nad)
  have F_aa_average := F_aa_average.other W178 (Or.inl nad)
  have E_aa := E_aa.wr W178
  have Kp := Kp.wr W178 (Or.inl (List.mem_of_getElem? (i := 1) rfl))
  have A_dd : Arv Z h178 dd kd .double 10 [(.double (FP.i2d w0)), (.double (FP.i2d w1)), (.double (FP.i2d w2)), (.double (FP.i2d w3)), (.double (FP.i2d w4)), (.double (FP.i2d w5)), (.double (FP.i2d w6)), (.double (FP.i2d w7)), (.double (FP.i2d w8)), (.double (FP.i2d w9))] (.double 0) := Arv.set Ar177 q177 S177 Nn177 H177 G177 rfl W178 9 rfl (Nat.le_of_ble_eq_true rfl)
  refine own_k T178 27 [] st178 ?_
  refine o_aloadN 28 X178 hx (hb hby d9_27) rfl rfl rfl ?_
  refine o_dup 29 X178 hx (hb hby d9_28) rfl rfl ?_
  obtain ⟨T179, X179, e179, st179⟩ := getF X178 hx hZ hown (host := "") (Or.inl (ow hw 46 rfl)) Via.refl e178 F_aa_count (g := (mkF mM 29 #[.val (.ref aa), .val (.double (FP.i2d w9)), .second, .unset] [.ref aa, .ref aa])) rfl rfl (hb hby d9_29)
  refine own_k T179 32 [.int 9, .ref aa] st179 ?_
  refine o_iconst 33 1 X179 hx (hb hby d9_32) rfl rfl ?_
  refine own_j 34 [.int 10, .ref aa] (fun t_ k_ => XS.iadd X179.here hx rfl (hb hby d9_33) rfl k_) ?_
  obtain ⟨T180, h180, X180, e180, W180, st180⟩ := putF X179 hx hZ hown (host := "") (Or.inl (ow hw 46 rfl)) Via.refl e179 F_aa_count E_aa (Or.inl (ow hw 47 rfl)) (ow hw 26 rfl) (ty := .int) (by decide) rfl rfl (g := (mkF mM 34 #[.val (.ref aa), .val (.double (FP.i2d w9)), .second, .unset] [.int 10, .ref aa])) rfl rfl (hb hby d9_34)
  have N180 := Fr.snoc X180 N178 g_aa
  have F_aa_values := F_aa_values.other W180 (Or.inr (slot_ne (Or.inr (ow hw 36 rfl)) (Or.inl (ow hw 47 rfl)) (by decide) (t := (.array .double)) (t' := .int) (by decide) (by decide)))
  have F_aa_count := F_aa_count.same W180
  have F_aa_oldest := F_aa_oldest.other W180 (Or.inr (slot_ne (Or.inl (ow hw 71 rfl)) (Or.inl (ow hw 47 rfl)) (by decide) (t := .int) (t' := .int) (by decide) (by decide)))
  have F_aa_average := F_aa_average.other W180 (Or.inr (slot_ne (Or.inl (ow hw 73 rfl)) (Or.inl (ow hw 47 rfl)) (by decide) (t := .double) (t' := .int) (by decide) (by decide)))
  have E_aa := E_aa.wr W180
  have A_dd := A_dd.other W180 (Ne.symm nad)
  have Kp := Kp.wr W180 (Or.inl (List.mem_of_getElem? (i := 0) rfl))
  refine own_k T180 37 [] st180 ?_
  refine o_goto 63 X180 hx (hb hby d9_37) (by decide) ?_
  refine o_aloadN 64 X180 hx (hb hby d9_63) rfl rfl rfl ?_
  refine o_aloadN 65 X180 hx (hb hby d9_64) rfl rfl rfl ?_
  obtain ⟨T181, X181, e181, st181⟩ := getF X180 hx hZ hown (host := "") (Or.inl (ow hw 35 rfl)) Via.refl e180 F_aa_values (g := (mkF mM 65 #[.val (.ref aa), .val (.double (FP.i2d w9)), .second, .unset] [.ref aa, .ref aa])) rfl rfl (hb hby d9_65)
  refine own_k T181 68 [.ref dd, .ref aa] st181 ?_
  refine o_aloadN 69 X181 hx (hb hby d9_68) rfl rfl rfl ?_
  obtain ⟨T182, X182, e182, st182⟩ := getF X181 hx hZ hown (host := "") (Or.inl (ow hw 70 rfl)) Via.refl e181 F_aa_oldest (g := (mkF mM 69 #[.val (.ref aa), .val (.double (FP.i2d w9)), .second, .unset] [.ref aa, .ref dd, .ref aa])) rfl rfl (hb hby d9_69)
  refine own_k T182 72 [.int 0, .ref dd, .ref aa] st182 ?_
  obtain ⟨cl183, Ar183, q183, S183, Nn183, H183, G183⟩ := id A_dd
  have hin183 : ¬ ((0 : Int32) < 0 ∨ cl183.slots.size ≤ ((0 : Int32)).toNatClampNeg) := inb_of S183 ⟨by decide, by decide⟩
  refine own_j 73 [(.double (FP.i2d w0)), .ref aa] (fun t_ k_ => X182.daload hx (j := (0 : Int32)) (v := (.double (FP.i2d w0))) (by rw [e182]; exact Ar183.1) (State.isArrayOf_alike hZ.alike Ar183.2.1) Ar183.2.2 hin183 (H183.at hin183 rfl) (g := (mkF mM 72 #[.val (.ref aa), .val (.double (FP.i2d w9)), .second, .unset] [.int 0, .ref dd, .ref aa])) rfl rfl (hb hby d9_72) t_ k_) ?_
  obtain ⟨T184, h184, X184, e184, W184, st184⟩ := putF X182 hx hZ hown (host := "") (Or.inl (ow hw 72 rfl)) Via.refl e182 F_aa_average E_aa (Or.inl (ow hw 73 rfl)) (ow hw 26 rfl) (ty := .double) (by decide) rfl rfl (g := (mkF mM 73 #[.val (.ref aa), .val (.double (FP.i2d w9)), .second, .unset] [(.double (FP.i2d w0)), .ref aa])) rfl rfl (hb hby d9_73)
  have N184 := Fr.snoc X184 N180 g_aa
  have F_aa_values := F_aa_values.other W184 (Or.inr (slot_ne (Or.inr (ow hw 36 rfl)) (Or.inl (ow hw 73 rfl)) (by decide) (t := (.array .double)) (t' := .double) (by decide) (by decide)))
  have F_aa_count := F_aa_count.other W184 (Or.inr (slot_ne (Or.inl (ow hw 47 rfl)) (Or.inl (ow hw 73 rfl)) (by decide) (t := .int) (t' := .double) (by decide) (by decide)))
  have F_aa_oldest := F_aa_oldest.other W184 (Or.inr (slot_ne (Or.inl (ow hw 71 rfl)) (Or.inl (ow hw 73 rfl)) (by decide) (t := .int) (t' := .double) (by decide) (by decide)))
  have F_aa_average := F_aa_average.same W184
  have E_aa := E_aa.wr W184
  have A_dd := A_dd.other W184 (Ne.symm nad)
  have Kp := Kp.wr W184 (Or.inl (List.mem_of_getElem? (i := 0) rfl))
  refine own_k T184 76 [] st184 ?_
  refine o_iconst 77 1 X184 hx (hb hby d9_76) rfl rfl ?_
  let Lv185 : Array Slot := #[.val (.ref aa), .val (.double (FP.i2d w9)), .second, .val (.int 1)]
  refine own_st (A := T184.setTop (mkF mM 78 Lv185 [])) (fun t_ k_ => XS.istoreN X184.here hx rfl (hb hby d9_77) rfl (l' := Lv185) rfl k_) ?_
  have av0 : Av (FP.i2d w0) w0.toInt 0 (32768 * 1) := own_av0 bl0 bu0
  obtain ⟨na, nb, nc, av1⟩ := own_stp (P := 1) bl1 bu1 av0 (by decide) (by decide) (by decide) (by decide)
  have av1 : Av _ (1 * w1.toInt + 3 * w0.toInt) 1 (32768 * 4) := av1
  refine RT hw X184 hx hZ hby hml hown hlk hret e184 N184 aa dd kd _ 10 0 1 2 (FP.i2d w0) (FP.i2d w1) _ _ g_aa nad ⟨E_aa, F_aa_values, F_aa_count, F_aa_oldest, F_aa_average, A_dd⟩ (by decide) ⟨by decide, by decide⟩ rfl na nb nc rfl (fun T186 L186 h186 X186 e186 N186 K186 ra => ?_)
  have Kp := Kp.trans K186 (allS (Or.inl (List.mem_of_getElem? (i := 0) rfl)) (allS (Or.inl (List.mem_of_getElem? (i := 1) rfl)) all0))
  obtain ⟨na, nb, nc, av2⟩ := own_stp (P := 4) bl2 bu2 av1 (by decide) (by decide) (by decide) (by decide)
  have av2 : Av _ (4 * w2.toInt + 3 * (1 * w1.toInt + 3 * w0.toInt)) 2 (32768 * 16) := av2
  refine RT hw X186 hx hZ hby hml hown hlk hret e186 N186 aa dd kd _ 10 0 2 3 (stp (FP.i2d w1) (FP.i2d w0)) (FP.i2d w2) _ _ g_aa nad ra (by decide) ⟨by decide, by decide⟩ rfl na nb nc rfl (fun T187 L187 h187 X187 e187 N187 K187 ra => ?_)
  have Kp := Kp.trans K187 (allS (Or.inl (List.mem_of_getElem? (i := 0) rfl)) (allS (Or.inl (List.mem_of_getElem? (i := 1) rfl)) all0))
  obtain ⟨na, nb, nc, av3⟩ := own_stp (P := 16) bl3 bu3 av2 (by decide) (by decide) (by decide) (by decide)
  have av3 : Av _ (16 * w3.toInt + 3 * (4 * w2.toInt + 3 * (1 * w1.toInt + 3 * w0.toInt))) 3 (32768 * 64) := av3
  refine RT hw X187 hx hZ hby hml hown hlk hret e187 N187 aa dd kd _ 10 0 3 4 (stp (FP.i2d w2) (stp (FP.i2d w1) (FP.i2d w0))) (FP.i2d w3) _ _ g_aa nad ra (by decide) ⟨by decide, by decide⟩ rfl na nb nc rfl (fun T188 L188 h188 X188 e188 N188 K188 ra => ?_)
  have Kp := Kp.trans K188 (allS (Or.inl (List.mem_of_getElem? (i := 0) rfl)) (allS (Or.inl (List.mem_of_getElem? (i := 1) rfl)) all0))
  obtain ⟨na, nb, nc, av4⟩ := own_stp (P := 64) bl4 bu4 av3 (by decide) (by decide) (by decide) (by decide)
  have av4 : Av _ (64 * w4.toInt + 3 * (16 * w3.toInt + 3 * (4 * w2.toInt + 3 * (1 * w1.toInt + 3 * w0.toInt)))) 4 (32768 * 256) := av4
  refine RT hw X188 hx hZ hby hml hown hlk hret e188 N188 aa dd kd _ 10 0 4 5 (stp (FP.i2d w3) (stp (FP.i2d w2) (stp (FP.i2d w1) (FP.i2d w0)))) (FP.i2d w4) _ _ g_aa nad ra (by decide) ⟨by decide, by decide⟩ rfl na nb nc rfl (fun T189 L189 h189 X189 e189 N189 K189 ra => ?_)
  have Kp := Kp.trans K189 (allS (Or.inl (List.mem_of_getElem? (i := 0) rfl)) (allS (Or.inl (List.mem_of_getElem? (i := 1) rfl)) all0))
  obtain ⟨na, nb, nc, av5⟩ := own_stp (P := 256) bl5 bu5 av4 (by decide) (by decide) (by decide) (by decide)
  have av5 : Av _ (256 * w5.toInt + 3 * (64 * w4.toInt + 3 * (16 * w3.toInt + 3 * (4 * w2.toInt + 3 * (1 * w1.toInt + 3 * w0.toInt))))) 5 (32768 * 1024) := av5
  refine RT hw X189 hx hZ hby hml hown hlk hret e189 N189 aa dd kd _ 10 0 5 6 (stp (FP.i2d w4) (stp (FP.i2d w3) (stp (FP.i2d w2) (stp (FP.i2d w1) (FP.i2d w0))))) (FP.i2d w5) _ _ g_aa nad ra (by decide) ⟨by decide, by decide⟩ rfl na nb nc rfl (fun T190 L190 h190 X190 e190 N190 K190 ra => ?_)
  have Kp := Kp.trans K190 (allS (Or.inl (List.mem_of_getElem? (i := 0) rfl)) (allS (Or.inl (List.mem_of_getElem? (i := 1) rfl)) all0))
  obtain ⟨na, nb, nc, av6⟩ := own_stp (P := 1024) bl6 bu6 av5 (by decide) (by decide) (by decide) (by decide)
  have av6 : Av _ (1024 * w6.toInt + 3 * (256 * w5.toInt + 3 * (64 * w4.toInt + 3 * (16 * w3.toInt + 3 * (4 * w2.toInt + 3 * (1 * w1.toInt + 3 * w0.toInt)))))) 6 (32768 * 4096) := av6
  refine RT hw X190 hx hZ hby hml hown hlk hret e190 N190 aa dd kd _ 10 0 6 7 (stp (FP.i2d w5) (stp (FP.i2d w4) (stp (FP.i2d w3) (stp (FP.i2d w2) (stp (FP.i2d w1) (FP.i2d w0)))))) (FP.i2d w6) _ _ g_aa nad ra (by decide) ⟨by decide, by decide⟩ rfl na nb nc rfl (fun T191 L191 h191 X191 e191 N191 K191 ra => ?_)
  have Kp := Kp.trans K191 (allS (Or.inl (List.mem_of_getElem? (i := 0) rfl)) (allS (Or.inl (List.mem_of_getElem? (i := 1) rfl)) all0))
  obtain ⟨na, nb, nc, av7⟩ := own_stp (P := 4096) bl7 bu7 av6 (by decide) (by decide) (by decide) (by decide)
  have av7 : Av _ (4096 * w7.toInt + 3 * (1024 * w6.toInt + 3 * (256 * w5.toInt + 3 * (64 * w4.toInt + 3 * (16 * w3.toInt + 3 * (4 * w2.toInt + 3 * (1 * w1.toInt + 3 * w0.toInt))))))) 7 (32768 * 16384) := av7
  refine RT hw X191 hx hZ hby hml hown hlk hret e191 N191 aa dd kd _ 10 0 7 8 (stp (FP.i2d w6) (stp (FP.i2d w5) (stp (FP.i2d w4) (stp (FP.i2d w3) (stp (FP.i2d w2) (stp (FP.i2d w1) (FP.i2d w0))))))) (FP.i2d w7) _ _ g_aa nad ra (by decide) ⟨by decide, by decide⟩ rfl na nb nc rfl (fun T192 L192 h192 X192 e192 N192 K192 ra => ?_)
  have Kp := Kp.trans K192 (allS (Or.inl (List.mem_of_getElem? (i := 0) rfl)) (allS (Or.inl (List.mem_of_getElem? (i := 1) rfl)) all0))
  obtain ⟨na, nb, nc, av8⟩ := own_stp (P := 16384) bl8 bu8 av7 (by decide) (by decide) (by decide) (by decide)
  have av8 : Av _ (16384 * w8.toInt + 3 * (4096 * w7.toInt + 3 * (1024 * w6.toInt + 3 * (256 * w5.toInt + 3 * (64 * w4.toInt + 3 * (16 * w3.toInt + 3 * (4 * w2.toInt + 3 * (1 * w1.toInt + 3 * w0.toInt)))))))) 8 (32768 * 65536) := av8
  refine RT hw X192 hx hZ hby hml hown hlk hret e192 N192 aa dd kd _ 10 0 8 9 (stp (FP.i2d w7) (stp (FP.i2d w6) (stp (FP.i2d w5) (stp (FP.i2d w4) (stp (FP.i2d w3) (stp (FP.i2d w2) (stp (FP.i2d w1) (FP.i2d w0)))))))) (FP.i2d w8) _ _ g_aa nad ra (by decide) ⟨by decide, by decide⟩ rfl na nb nc rfl (fun T193 L193 h193 X193 e193 N193 K193 ra => ?_)
  have Kp := Kp.trans K193 (allS (Or.inl (List.mem_of_getElem? (i := 0) rfl)) (allS (Or.inl (List.mem_of_getElem? (i := 1) rfl)) all0))
  obtain ⟨na, nb, nc, av9⟩ := own_stp (P := 65536) bl9 bu9 av8 (by decide) (by decide) (by decide) (by decide)
  refine RT hw X193 hx hZ hby hml hown hlk hret e193 N193 aa dd kd _ 10 0 9 10 (stp (FP.i2d w8) (stp (FP.i2d w7) (stp (FP.i2d w6) (stp (FP.i2d w5) (stp (FP.i2d w4) (stp (FP.i2d w3) (stp (FP.i2d w2) (stp (FP.i2d w1) (FP.i2d w0))))))))) (FP.i2d w9) _ _ g_aa nad ra (by decide) ⟨by decide, by decide⟩ rfl na nb nc rfl (fun T194 L194 h194 X194 e194 N194 K194 ra => ?_)
  have Kp := Kp.trans K194 (allS (Or.inl (List.mem_of_getElem? (i := 0) rfl)) (allS (Or.inl (List.mem_of_getElem? (i := 1) rfl)) all0))
  obtain ⟨E_aa, F_aa_values, F_aa_count, F_aa_oldest, F_aa_average, A_dd⟩ := ra
  refine o_iloadN 79 X194 hx (hb hby d9_78) rfl rfl ?_
  refine o_aloadN 80 X194 hx (hb hby d9_79) rfl rfl rfl ?_
  obtain ⟨T195, X195, e195, st195⟩ := getF X194 hx hZ hown (host := "") (Or.inl (ow hw 46 rfl)) Via.refl e194 F_aa_count (g := (mkF mM 80 #[.val (.ref aa), .val (.double (FP.i2d w9)), .second, .val (.int 10)] [.ref aa, .int 10])) rfl rfl (hb hby d9_80)
  refine own_k T195 83 [.int 10, .int 10] st195 ?_
  refine o_icmpYes 123 X195 hx (hb hby d9_83) (flt (by decide : ¬ ((10 : Int32) < (10 : Int32)))).2.1 (by decide) ?_
  exact own_retV X195 hx hlk hret (hb hby d9_123) (by rw [e195]; exact ⟨rfl, N194, Kp, E_aa, F_aa_values, F_aa_count, F_aa_oldest, F_aa_average, A_dd⟩) (by decide) (by decide)
theorem d9_40 : decode prog_71_method_2_code 40 = .ok (.aload_n 0, 1) := by decide +kernel
theorem d9_41 : decode prog_71_method_2_code 41 = .ok (.getfield 9, 3) := by decide +kernel
theorem d9_44 : decode prog_71_method_2_code 44 = .ok (.aload_n 0, 1) := by decide +kernel
theorem d9_45 : decode prog_71_method_2_code 45 = .ok (.getfield 17, 3) := by decide +kernel
theorem d9_48 : decode prog_71_method_2_code 48 = .ok (.dload_n 1, 1) := by decide +kernel
theorem d9_49 : decode prog_71_method_2_code 49 = .ok (.dastore, 1) := by decide +kernel
theorem d9_50 : decode prog_71_method_2_code 50 = .ok (.aload_n 0, 1) := by decide +kernel
theorem d9_51 : decode prog_71_method_2_code 51 = .ok (.aload_n 0, 1) := by decide +kernel
theorem d9_52 : decode prog_71_method_2_code 52 = .ok (.getfield 17, 3) := by decide +kernel
theorem d9_55 : decode prog_71_method_2_code 55 = .ok (.iconst 1, 1) := by decide +kernel
theorem d9_56 : decode prog_71_method_2_code 56 = .ok (.iadd, 1) := by decide +kernel
theorem d9_57 : decode prog_71_method_2_code 57 = .ok (.bipush 10, 2) := by decide +kernel
theorem d9_59 : decode prog_71_method_2_code 59 = .ok (.irem, 1) := by decide +kernel
theorem d9_60 : decode prog_71_method_2_code 60 = .ok (.putfield 17, 3) := by decide +kernel
theorem ef_rmA11 (mM : MethodId) (aa : Addr) (dd : Addr) (kd : ClassId) (gg : UInt64) (w1 : Int32) (w2 : Int32) (w3 : Int32) (w4 : Int32) (w5 : Int32) (w6 : Int32) (w7 : Int32) (w8 : Int32) (w9 : Int32) (w10 : Int32) (w0 : Int32) : entryFrame mM #[.ref aa, (.double (FP.i2d w10))] 4 = mkF mM 0 #[.val (.ref aa), .val (.double (FP.i2d w10)), .second, .unset] [] := by first | (simp [entryFrame, mkF, argsToLocals, Value.category]; done) | rfl
theorem rmA11 (lL : Launch) (Z : State) (a0 : Array Value) (hw : own_tb a0 Z) (ws : List Jvm.Cond) (aa : Addr) (dd : Addr) (kd : ClassId) (gg : UInt64) (w1 : Int32) (w2 : Int32) (w3 : Int32) (w4 : Int32) (w5 : Int32) (w6 : Int32) (w7 : Int32) (w8 : Int32) (w9 : Int32) (w10 : Int32) (w0 : Int32) (h0 : Heap) (n0 : Nat) (g_aa : n0 ≤ aa) (g_dd : n0 ≤ dd) (nad : aa ≠ dd) (ra : Ra Z h0 aa dd kd 10 0 gg [.double (FP.i2d w0), .double (FP.i2d w1), .double (FP.i2d w2), .double (FP.i2d w3), .double (FP.i2d w4), .double (FP.i2d w5), .double (FP.i2d w6), .double (FP.i2d w7), .double (FP.i2d w8), .double (FP.i2d w9)]) (bl1 : -32768 ≤ w1.toInt) (bu1 : w1.toInt ≤ 32768) (bl2 : -32768 ≤ w2.toInt) (bu2 : w2.toInt ≤ 32768) (bl3 : -32768 ≤ w3.toInt) (bu3 : w3.toInt ≤ 32768) (bl4 : -32768 ≤ w4.toInt) (bu4 : w4.toInt ≤ 32768) (bl5 : -32768 ≤ w5.toInt) (bu5 : w5.toInt ≤ 32768) (bl6 : -32768 ≤ w6.toInt) (bu6 : w6.toInt ≤ 32768) (bl7 : -32768 ≤ w7.toInt) (bu7 : w7.toInt ≤ 32768) (bl8 : -32768 ≤ w8.toInt) (bu8 : w8.toInt ≤ 32768) (bl9 : -32768 ≤ w9.toInt) (bu9 : w9.toInt ≤ 32768) (bl10 : -32768 ≤ w10.toInt) (bu10 : w10.toInt ≤ 32768) :
    own_Ct lL Z yn2 prog_71_method_2_code 4 none ws (⟨0, 0, 0, 0⟩ : Room) #[.ref aa, (.double (FP.i2d w10))] h0 (QA Z aa dd kd 10 1 (stp (FP.i2d w10) (stp (FP.i2d w9) (stp (FP.i2d w8) (stp (FP.i2d w7) (stp (FP.i2d w6) (stp (FP.i2d w5) (stp (FP.i2d w4) (stp (FP.i2d w3) (stp (FP.i2d w2) (FP.i2d w1)))))))))) [.double (FP.i2d w10), .double (FP.i2d w1), .double (FP.i2d w2), .double (FP.i2d w3), .double (FP.i2d w4), .double (FP.i2d w5), .double (FP.i2d w6), .double (FP.i2d w7), .double (FP.i2d w8), .double (FP.i2d w9)] h0 n0) := by
  refine own_body (plainFor_of_name pn_com_2fexample_2fgleanwork_2fgleanwork_2fschedule_2fRecentAverage) 0 0 rfl rfl (fun mM => ef_rmA11 mM aa dd kd gg w1 w2 w3 w4 w5 w6 w7 w8 w9 w10 w0) fun pP eE sS mM below meth cC s₁ hZ hx hby hml hown hnm hret hlk X0 e0 => ?_
  have N0 := Fr.nil n0
  obtain ⟨E_aa, F_aa_values, F_aa_count, F_aa_oldest, F_aa_average, A_dd⟩ := ra
  have Kp := Keep.refl h0 [aa, dd]
  refine o_aloadN 1 X0 hx (hb hby d9_0) rfl rfl rfl ?_
  obtain ⟨T196, X196, e196, st196⟩ := getF X0 hx hZ hown (host := "") (Or.inl (ow hw 46 rfl)) Via.refl e0 F_aa_count (g := (mkF mM 1 #[.val (.ref aa), .val (.double (FP.i2d w10)), .second, .unset] [.ref aa])) rfl rfl (hb hby d9_1)
  refine own_k T196 4 [.int 10] st196 ?_
  refine o_bipush 6 10 X196 hx (hb hby d9_4) rfl rfl ?_
  refine o_icmpYes 40 X196 hx (hb hby d9_6) (flt (by decide : ¬ ((10 : Int32) < (10 : Int32)))).2.1 (by decide) ?_
  refine o_aloadN 41 X196 hx (hb hby d9_40) rfl rfl rfl ?_
  obtain ⟨T197, X197, e197, st197⟩ := getF X196 hx hZ hown (host := "") (Or.inl (ow hw 35 rfl)) Via.refl e196 F_aa_values (g := (mkF mM 41 #[.val (.ref aa), .val (.double (FP.i2d w10)), .second, .unset] [.ref aa])) rfl rfl (hb hby d9_41)
  refine own_k T197 44 [.ref dd] st197 ?_
  refine o_aloadN 45 X197 hx (hb hby d9_44) rfl rfl rfl ?_
  obtain ⟨T198, X198, e198, st198⟩ := getF X197 hx hZ hown (host := "") (Or.inl (ow hw 70 rfl)) Via.refl e197 F_aa_oldest (g := (mkF mM 45 #[.val (.ref aa), .val (.double (FP.i2d w10)), .second, .unset] [.ref aa, .ref dd])) rfl rfl (hb hby d9_45)
  refine own_k T198 48 [.int 0, .ref dd] st198 ?_
  refine own_j 49 [(.double (FP.i2d w10)), .int 0, .ref dd] (fun t_ k_ => XS.dloadN X198.here hx rfl (hb hby d9_48) rfl k_) ?_
  obtain ⟨cl199, Ar199, q199, S199, Nn199, H199, G199⟩ := id A_dd
  obtain ⟨T200, h200, X200, e200, W200, st200⟩ := stD X198 hx hZ e198 Ar199 (j := (0 : Int32)) (inb_of S199 ⟨by decide, by decide⟩) (g := (mkF mM 49 #[.val (.ref aa), .val (.double (FP.i2d w10)), .second, .unset] [(.double (FP.i2d w10)), .int 0, .ref dd])) rfl rfl (hb hby d9_49)
  have N200 := Fr.snoc X200 N0 g_dd
  have F_aa_values := F_aa_values.other W200 (Or.inl nad)
  have F_aa_count := F_aa_count.other W200 (Or.inl nad)
  have F_aa_oldest := F_aa_oldest.other W200 (Or.inl nad)
  have F_aa_average := F_aa_average.other W200 (Or.inl nad)
  have E_aa := E_aa.wr W200
  have Kp := Kp.wr W200 (Or.inl (List.mem_of_getElem? (i := 1) rfl))
  have A_dd : Arv Z h200 dd kd .double 10 [(.double (FP.i2d w10)), (.double (FP.i2d w1)), (.double (FP.i2d w2)), (.double (FP.i2d w3)), (.double (FP.i2d w4)), (.double (FP.i2d w5)), (.double (FP.i2d w6)), (.double (FP.i2d w7)), (.double (FP.i2d w8)), (.double (FP.i2d w9))] (.double 0) := Arv.set Ar199 q199 S199 Nn199 H199 G199 rfl W200 0 rfl (Nat.le_of_ble_eq_true rfl)
  refine own_k T200 50 [] st200 ?_
  refine o_aloadN 51 X200 hx (hb hby d9_50) rfl rfl rfl ?_
  refine o_aloadN 52 X200 hx (hb hby d9_51) rfl rfl rfl ?_
  obtain ⟨T201, X201, e201, st201⟩ := getF X200 hx hZ hown (host := "") (Or.inl (ow hw 70 rfl)) Via.refl e200 F_aa_oldest (g := (mkF mM 52 #[.val (.ref aa), .val (.double (FP.i2d w10)), .second, .unset] [.ref aa, .ref aa])) rfl rfl (hb hby d9_52)
  refine own_k T201 55 [.int 0, .ref aa] st201 ?_
  refine o_iconst 56 1 X201 hx (hb hby d9_55) rfl rfl ?_
  refine own_j 57 [.int 1, .ref aa] (fun t_ k_ => XS.iadd X201.here hx rfl (hb hby d9_56) rfl k_) ?_
  refine o_bipush 59 10 X201 hx (hb hby d9_57) rfl rfl ?_
  refine own_j 60 [.int 1, .ref aa] (fun t_ k_ => iremM X201 hx rfl (hb hby d9_59) rfl (by decide) k_) ?_
  obtain ⟨T202, h202, X202, e202, W202, st202⟩ := putF X201 hx hZ hown (host := "") (Or.inl (ow hw 70 rfl)) Via.refl e201 F_aa_oldest E_aa (Or.inl (ow hw 71 rfl)) (ow hw 26 rfl) (ty := .int) (by decide) rfl rfl (g := (mkF mM 60 #[.val (.ref aa), .val (.double (FP.i2d w10)), .second, .unset] [.int 1, .ref aa])) rfl rfl (hb hby d9_60)
  have N202 := Fr.snoc X202 N200 g_aa
  have F_aa_values := F_aa_values.other W202 (Or.inr (slot_ne (Or.inr (ow hw 36 rfl)) (Or.inl (ow hw 71 rfl)) (by decide) (t := (.array .double)) (t' := .int) (by decide) (by decide)))
  have F_aa_count := F_aa_count.other W202 (Or.inr (slot_ne (Or.inl (ow hw 47 rfl)) (Or.inl (ow hw 71 rfl)) (by decide) (t := .int) (t' := .int) (by decide) (by decide)))
  have F_aa_oldest := F_aa_oldest.same W202
  have F_aa_average := F_aa_average.other W202 (Or.inr (slot_ne (Or.inl (ow hw 73 rfl)) (Or.inl (ow hw 71 rfl)) (by decide) (t := .double) (t' := .int) (by decide) (by decide)))
  have E_aa := E_aa.wr W202
  have A_dd := A_dd.other W202 (Ne.symm nad)
  have Kp := Kp.wr W202 (Or.inl (List.mem_of_getElem? (i := 0) rfl))
  refine own_k T202 63 [] st202 ?_
  refine o_aloadN 64 X202 hx (hb hby d9_63) rfl rfl rfl ?_
  refine o_aloadN 65 X202 hx (hb hby d9_64) rfl rfl rfl ?_
  obtain ⟨T203, X203, e203, st203⟩ := getF X202 hx hZ hown (host := "") (Or.inl (ow hw 35 rfl)) Via.refl e202 F_aa_values (g := (mkF mM 65 #[.val (.ref aa), .val (.double (FP.i2d w10)), .second, .unset] [.ref aa, .ref aa])) rfl rfl (hb hby d9_65)
  refine own_k T203 68 [.ref dd, .ref aa] st203 ?_
  refine o_aloadN 69 X203 hx (hb hby d9_68) rfl rfl rfl ?_
  obtain ⟨T204, X204, e204, st204⟩ := getF X203 hx hZ hown (host := "") (Or.inl (ow hw 70 rfl)) Via.refl e203 F_aa_oldest (g := (mkF mM 69 #[.val (.ref aa), .val (.double (FP.i2d w10)), .second, .unset] [.ref aa, .ref dd, .ref aa])) rfl rfl (hb hby d9_69)
  refine own_k T204 72 [.int 1, .ref dd, .ref aa] st204 ?_
  obtain ⟨cl205, Ar205, q205, S205, Nn205, H205, G205⟩ := id A_dd
  have hin205 : ¬ ((1 : Int32) < 0 ∨ cl205.slots.size ≤ ((1 : Int32)).toNatClampNeg) := inb_of S205 ⟨by decide, by decide⟩
  refine own_j 73 [(.double (FP.i2d w1)), .ref aa] (fun t_ k_ => X204.daload hx (j := (1 : Int32)) (v := (.double (FP.i2d w1))) (by rw [e204]; exact Ar205.1) (State.isArrayOf_alike hZ.alike Ar205.2.1) Ar205.2.2 hin205 (H205.at hin205 rfl) (g := (mkF mM 72 #[.val (.ref aa), .val (.double (FP.i2d w10)), .second, .unset] [.int 1, .ref dd, .ref aa])) rfl rfl (hb hby d9_72) t_ k_) ?_
  obtain ⟨T206, h206, X206, e206, W206, st206⟩ := putF X204 hx hZ hown (host := "") (Or.inl (ow hw 72 rfl)) Via.refl e204 F_aa_average E_aa (Or.inl (ow hw 73 rfl)) (ow hw 26 rfl) (ty := .double) (by decide) rfl rfl (g := (mkF mM 73 #[.val (.ref aa), .val (.double (FP.i2d w10)), .second, .unset] [(.double (FP.i2d w1)), .ref aa])) rfl rfl (hb hby d9_73)
  have N206 := Fr.snoc X206 N202 g_aa
  have F_aa_values := F_aa_values.other W206 (Or.inr (slot_ne (Or.inr (ow hw 36 rfl)) (Or.inl (ow hw 73 rfl)) (by decide) (t := (.array .double)) (t' := .double) (by decide) (by decide)))
  have F_aa_count := F_aa_count.other W206 (Or.inr (slot_ne (Or.inl (ow hw 47 rfl)) (Or.inl (ow hw 73 rfl)) (by decide) (t := .int) (t' := .double) (by decide) (by decide)))
  have F_aa_oldest := F_aa_oldest.other W206 (Or.inr (slot_ne (Or.inl (ow hw 71 rfl)) (Or.inl (ow hw 73 rfl)) (by decide) (t := .int) (t' := .double) (by decide) (by decide)))
  have F_aa_average := F_aa_average.same W206
  have E_aa := E_aa.wr W206
  have A_dd := A_dd.other W206 (Ne.symm nad)
  have Kp := Kp.wr W206 (Or.inl (List.mem_of_getElem? (i := 0) rfl))
  refine own_k T206 76 [] st206 ?_
  refine o_iconst 77 1 X206 hx (hb hby d9_76) rfl rfl ?_
  let Lv207 : Array Slot := #[.val (.ref aa), .val (.double (FP.i2d w10)), .second, .val (.int 1)]
  refine own_st (A := T206.setTop (mkF mM 78 Lv207 [])) (fun t_ k_ => XS.istoreN X206.here hx rfl (hb hby d9_77) rfl (l' := Lv207) rfl k_) ?_
  have av0 : Av (FP.i2d w1) w1.toInt 0 (32768 * 1) := own_av0 bl1 bu1
  obtain ⟨na, nb, nc, av1⟩ := own_stp (P := 1) bl2 bu2 av0 (by decide) (by decide) (by decide) (by decide)
  have av1 : Av _ (1 * w2.toInt + 3 * w1.toInt) 1 (32768 * 4) := av1
  refine RT hw X206 hx hZ hby hml hown hlk hret e206 N206 aa dd kd _ 10 1 1 2 (FP.i2d w1) (FP.i2d w2) _ _ g_aa nad ⟨E_aa, F_aa_values, F_aa_count, F_aa_oldest, F_aa_average, A_dd⟩ (by decide) ⟨by decide, by decide⟩ rfl na nb nc rfl (fun T208 L208 h208 X208 e208 N208 K208 ra => ?_)
  have Kp := Kp.trans K208 (allS (Or.inl (List.mem_of_getElem? (i := 0) rfl)) (allS (Or.inl (List.mem_of_getElem? (i := 1) rfl)) all0))
  obtain ⟨na, nb, nc, av2⟩ := own_stp (P := 4) bl3 bu3 av1 (by decide) (by decide) (by decide) (by decide)
  have av2 : Av _ (4 * w3.toInt + 3 * (1 * w2.toInt + 3 * w1.toInt)) 2 (32768 * 16) := av2
  refine RT hw X208 hx hZ hby hml hown hlk hret e208 N208 aa dd kd _ 10 1 2 3 (stp (FP.i2d w2) (FP.i2d w1)) (FP.i2d w3) _ _ g_aa nad ra (by decide) ⟨by decide, by decide⟩ rfl na nb nc rfl (fun T209 L209 h209 X209 e209 N209 K209 ra => ?_)
  have Kp := Kp.trans K209 (allS (Or.inl (List.mem_of_getElem? (i := 0) rfl)) (allS (Or.inl (List.mem_of_getElem? (i := 1) rfl)) all0))
  obtain ⟨na, nb, nc, av3⟩ := own_stp (P := 16) bl4 bu4 av2 (by decide) (by decide) (by decide) (by decide)
  have av3 : Av _ (16 * w4.toInt + 3 * (4 * w3.toInt + 3 * (1 * w2.toInt + 3 * w1.toInt))) 3 (32768 * 64) := av3
  refine RT hw X209 hx hZ hby hml hown hlk hret e209 N209 aa dd kd _ 10 1 3 4 (stp (FP.i2d w3) (stp (FP.i2d w2) (FP.i2d w1))) (FP.i2d w4) _ _ g_aa nad ra (by decide) ⟨by decide, by decide⟩ rfl na nb nc rfl (fun T210 L210 h210 X210 e210 N210 K210 ra => ?_)
  have Kp := Kp.trans K210 (allS (Or.inl (List.mem_of_getElem? (i := 0) rfl)) (allS (Or.inl (List.mem_of_getElem? (i := 1) rfl)) all0))
  obtain ⟨na, nb, nc, av4⟩ := own_stp (P := 64) bl5 bu5 av3 (by decide) (by decide) (by decide) (by decide)
  have av4 : Av _ (64 * w5.toInt + 3 * (16 * w4.toInt + 3 * (4 * w3.toInt + 3 * (1 * w2.toInt + 3 * w1.toInt)))) 4 (32768 * 256) := av4
  refine RT hw X210 hx hZ hby hml hown hlk hret e210 N210 aa dd kd _ 10 1 4 5 (stp (FP.i2d w4) (stp (FP.i2d w3) (stp (FP.i2d w2) (FP.i2d w1)))) (FP.i2d w5) _ _ g_aa nad ra (by decide) ⟨by decide, by decide⟩ rfl na nb nc rfl (fun T211 L211 h211 X211 e211 N211 K211 ra => ?_)
  have Kp := Kp.trans K211 (allS (Or.inl (List.mem_of_getElem? (i := 0) rfl)) (allS (Or.inl (List.mem_of_getElem? (i := 1) rfl)) all0))
  obtain ⟨na, nb, nc, av5⟩ := own_stp (P := 256) bl6 bu6 av4 (by decide) (by decide) (by decide) (by decide)
  have av5 : Av _ (256 * w6.toInt + 3 * (64 * w5.toInt + 3 * (16 * w4.toInt + 3 * (4 * w3.toInt + 3 * (1 * w2.toInt + 3 * w1.toInt))))) 5 (32768 * 1024) := av5
  refine RT hw X211 hx hZ hby hml hown hlk hret e211 N211 aa dd kd _ 10 1 5 6 (stp (FP.i2d w5) (stp (FP.i2d w4) (stp (FP.i2d w3) (stp (FP.i2d w2) (FP.i2d w1))))) (FP.i2d w6) _ _ g_aa nad ra (by decide) ⟨by decide, by decide⟩ rfl na nb nc rfl (fun T212 L212 h212 X212 e212 N212 K212 ra => ?_)
  have Kp := Kp.trans K212 (allS (Or.inl (List.mem_of_getElem? (i := 0) rfl)) (allS (Or.inl (List.mem_of_getElem? (i := 1) rfl)) all0))
  obtain ⟨na, nb, nc, av6⟩ := own_stp (P := 1024) bl7 bu7 av5 (by decide) (by decide) (by decide) (by decide)
  have av6 : Av _ (1024 * w7.toInt + 3 * (256 * w6.toInt + 3 * (64 * w5.toInt + 3 * (16 * w4.toInt + 3 * (4 * w3.toInt + 3 * (1 * w2.toInt + 3 * w1.toInt)))))) 6 (32768 * 4096) := av6
  refine RT hw X212 hx hZ hby hml hown hlk hret e212 N212 aa dd kd _ 10 1 6 7 (stp (FP.i2d w6) (stp (FP.i2d w5) (stp (FP.i2d w4) (stp (FP.i2d w3) (stp (FP.i2d w2) (FP.i2d w1)))))) (FP.i2d w7) _ _ g_aa nad ra (by decide) ⟨by decide, by decide⟩ rfl na nb nc rfl (fun T213 L213 h213 X213 e213 N213 K213 ra => ?_)
  have Kp := Kp.trans K213 (allS (Or.inl (List.mem_of_getElem? (i := 0) rfl)) (allS (Or.inl (List.mem_of_getElem? (i := 1) rfl)) all0))
  obtain ⟨na, nb, nc, av7⟩ := own_stp (P := 4096) bl8 bu8 av6 (by decide) (by decide) (by decide) (by decide)
  have av7 : Av _ (4096 * w8.toInt + 3 * (1024 * w7.toInt + 3 * (256 * w6.toInt + 3 * (64 * w5.toInt + 3 * (16 * w4.toInt + 3 * (4 * w3.toInt + 3 * (1 * w2.toInt + 3 * w1.toInt))))))) 7 (32768 * 16384) := av7
  refine RT hw X213 hx hZ hby hml hown hlk hret e213 N213 aa dd kd _ 10 1 7 8 (stp (FP.i2d w7) (stp (FP.i2d w6) (stp (FP.i2d w5) (stp (FP.i2d w4) (stp (FP.i2d w3) (stp (FP.i2d w2) (FP.i2d w1))))))) (FP.i2d w8) _ _ g_aa nad ra (by decide) ⟨by decide, by decide⟩ rfl na nb nc rfl (fun T214 L214 h214 X214 e214 N214 K214 ra => ?_)
  have Kp := Kp.trans K214 (allS (Or.inl (List.mem_of_getElem? (i := 0) rfl)) (allS (Or.inl (List.mem_of_getElem? (i := 1) rfl)) all0))
  obtain ⟨na, nb, nc, av8⟩ := own_stp (P := 16384) bl9 bu9 av7 (by decide) (by decide) (by decide) (by decide)
  have av8 : Av _ (16384 * w9.toInt + 3 * (4096 * w8.toInt + 3 * (1024 * w7.toInt + 3 * (256 * w6.toInt + 3 * (64 * w5.toInt + 3 * (16 * w4.toInt + 3 * (4 * w3.toInt + 3 * (1 * w2.toInt + 3 * w1.toInt)))))))) 8 (32768 * 65536) := av8
  refine RT hw X214 hx hZ hby hml hown hlk hret e214 N214 aa dd kd _ 10 1 8 9 (stp (FP.i2d w8) (stp (FP.i2d w7) (stp (FP.i2d w6) (stp (FP.i2d w5) (stp (FP.i2d w4) (stp (FP.i2d w3) (stp (FP.i2d w2) (FP.i2d w1)))))))) (FP.i2d w9) _ _ g_aa nad ra (by decide) ⟨by decide, by decide⟩ rfl na nb nc rfl (fun T215 L215 h215 X215 e215 N215 K215 ra => ?_)
  have Kp := Kp.trans K215 (allS (Or.inl (List.mem_of_getElem? (i := 0) rfl)) (allS (Or.inl (List.mem_of_getElem? (i := 1) rfl)) all0))
  obtain ⟨na, nb, nc, av9⟩ := own_stp (P := 65536) bl10 bu10 av8 (by decide) (by decide) (by decide) (by decide)
  refine RT hw X215 hx hZ hby hml hown hlk hret e215 N215 aa dd kd _ 10 1 9 10 (stp (FP.i2d w9) (stp (FP.i2d w8) (stp (FP.i2d w7) (stp (FP.i2d w6) (stp (FP.i2d w5) (stp (FP.i2d w4) (stp (FP.i2d w3) (stp (FP.i2d w2) (FP.i2d w1))))))))) (FP.i2d w10) _ _ g_aa nad ra (by decide) ⟨by decide, by decide⟩ rfl na nb nc rfl (fun T216 L216 h216 X216 e216 N216 K216 ra => ?_)
  have Kp := Kp.trans K216 (allS (Or.inl (List.mem_of_getElem? (i := 0) rfl)) (allS (Or.inl (List.mem_of_getElem? (i := 1) rfl)) all0))
  obtain ⟨E_aa, F_aa_values, F_aa_count, F_aa_oldest, F_aa_average, A_dd⟩ := ra
  refine o_iloadN 79 X216 hx (hb hby d9_78) rfl rfl ?_
  refine o_aloadN 80 X216 hx (hb hby d9_79) rfl rfl rfl ?_
  obtain ⟨T217, X217, e217, st217⟩ := getF X216 hx hZ hown (host := "") (Or.inl (ow hw 46 rfl)) Via.refl e216 F_aa_count (g := (mkF mM 80 #[.val (.ref aa), .val (.double (FP.i2d w10)), .second, .val (.int 10)] [.ref aa, .int 10])) rfl rfl (hb hby d9_80)
  refine own_k T217 83 [.int 10, .int 10] st217 ?_
  refine o_icmpYes 123 X217 hx (hb hby d9_83) (flt (by decide : ¬ ((10 : Int32) < (10 : Int32)))).2.1 (by decide) ?_
  exact own_retV X217 hx hlk hret (hb hby d9_123) (by rw [e217]; exact ⟨rfl, N216, Kp, E_aa, F_aa_values, F_aa_count, F_aa_oldest, F_aa_average, A_dd⟩) (by decide) (by decide)
theorem ef_rmA12 (mM : MethodId) (aa : Addr) (dd : Addr) (kd : ClassId) (gg : UInt64) (w2 : Int32) (w3 : Int32) (w4 : Int32) (w5 : Int32) (w6 : Int32) (w7 : Int32) (w8 : Int32) (w9 : Int32) (w10 : Int32) (w11 : Int32) (w0 : Int32) (w1 : Int32) : entryFrame mM #[.ref aa, (.double (FP.i2d w11))] 4 = mkF mM 0 #[.val (.ref aa), .val (.double (FP.i2d w11)), .second, .unset] [] := by first | (simp [entryFrame, mkF, argsToLocals, Value.category]; done) | rfl
theorem rmA12 (lL : Launch) (Z : State) (a0 : Array Value) (hw : own_tb a0 Z) (ws : List Jvm.Cond) (aa : Addr) (dd : Addr) (kd : ClassId) (gg : UInt64) (w2 : Int32) (w3 : Int32) (w4 : Int32) (w5 : Int32) (w6 : Int32) (w7 : Int32) (w8 : Int32) (w9 : Int32) (w10 : Int32) (w11 : Int32) (w0 : Int32) (w1 : Int32) (h0 : Heap) (n0 : Nat) (g_aa : n0 ≤ aa) (g_dd : n0 ≤ dd) (nad : aa ≠ dd) (ra : Ra Z h0 aa dd kd 10 1 gg [.double (FP.i2d w10), .double (FP.i2d w1), .double (FP.i2d w2), .double (FP.i2d w3), .double (FP.i2d w4), .double (FP.i2d w5), .double (FP.i2d w6), .double (FP.i2d w7), .double (FP.i2d w8), .double (FP.i2d w9)]) (bl2 : -32768 ≤ w2.toInt) (bu2 : w2.toInt ≤ 32768) (bl3 : -32768 ≤ w3.toInt) (bu3 : w3.toInt ≤ 32768) (bl4 : -32768 ≤ w4.toInt) (bu4 : w4.toInt ≤ 32768) (bl5 : -32768 ≤ w5.toInt) (bu5 : w5.toInt ≤ 32768) (bl6 : -32768 ≤ w6.toInt) (bu6 : w6.toInt ≤ 32768) (bl7 : -32768 ≤ w7.toInt) (bu7 : w7.toInt ≤ 32768) (bl8 : -32768 ≤ w8.toInt) (bu8 : w8.toInt ≤ 32768) (bl9 : -32768 ≤ w9.toInt) (bu9 : w9.toInt ≤ 32768) (bl10 : -32768 ≤ w10.toInt) (bu10 : w10.toInt ≤ 32768) (bl11 : -32768 ≤ w11.toInt) (bu11 : w11.toInt ≤ 32768) :
    own_Ct lL Z yn2 prog_71_method_2_code 4 none ws (⟨0, 0, 0, 0⟩ : Room) #[.ref aa, (.double (FP.i2d w11))] h0 (QA Z aa dd kd 10 2 (stp (FP.i2d w11) (stp (FP.i2d w10) (stp (FP.i2d w9) (stp (FP.i2d w8) (stp (FP.i2d w7) (stp (FP.i2d w6) (stp (FP.i2d w5) (stp (FP.i2d w4) (stp (FP.i2d w3) (FP.i2d w2)))))))))) [.double (FP.i2d w10), .double (FP.i2d w11), .double (FP.i2d w2), .double (FP.i2d w3), .double (FP.i2d w4), .double (FP.i2d w5), .double (FP.i2d w6), .double (FP.i2d w7), .double (FP.i2d w8), .double (FP.i2d w9)] h0 n0) := by
  refine own_body (plainFor_of_name pn_com_2fexample_2fgleanwork_2fgleanwork_2fschedule_2fRecentAverage) 0 0 rfl rfl (fun mM => ef_rmA12 mM aa dd kd gg w2 w3 w4 w5 w6 w7 w8 w9 w10 w11 w0 w1) fun pP eE sS mM below meth cC s₁ hZ hx hby hml hown hnm hret hlk X0 e0 => ?_
  have N0 := Fr.nil n0
  obtain ⟨E_aa, F_aa_values, F_aa_count, F_aa_oldest, F_aa_average, A_dd⟩ := ra
  have Kp := Keep.refl h0 [aa, dd]
  refine o_aloadN 1 X0 hx (hb hby d9_0) rfl rfl rfl ?_
  obtain ⟨T218, X218, e218, st218⟩ := getF X0 hx hZ hown (host := "") (Or.inl (ow hw 46 rfl)) Via.refl e0 F_aa_count (g := (mkF mM 1 #[.val (.ref aa), .val (.double (FP.i2d w11)), .second, .unset] [.ref aa])) rfl rfl (hb hby d9_1)
  refine own_k T218 4 [.int 10] st218 ?_
  refine o_bipush 6 10 X218 hx (hb hby d9_4) rfl rfl ?_
  refine o_icmpYes 40 X218 hx (hb hby d9_6) (flt (by decide : ¬ ((10 : Int32) < (10 : Int32)))).2.1 (by decide) ?_
  refine o_aloadN 41 X218 hx (hb hby d9_40) rfl rfl rfl ?_
  obtain ⟨T219, X219, e219, st219⟩ := getF X218 hx hZ hown (host := "") (Or.inl (ow hw 35 rfl)) Via.refl e218 F_aa_values (g := (mkF mM 41 #[.val (.ref aa), .val (.double (FP.i2d w11)), .second, .unset] [.ref aa])) rfl rfl (hb hby d9_41)
  refine own_k T219 44 [.ref dd] st219 ?_
  refine o_aloadN 45 X219 hx (hb hby d9_44) rfl rfl rfl ?_
  obtain ⟨T220, X220, e220, st220⟩ := getF X219 hx hZ hown (host := "") (Or.inl (ow hw 70 rfl)) Via.refl e219 F_aa_oldest (g := (mkF mM 45 #[.val (.ref aa), .val (.double (FP.i2d w11)), .second, .unset] [.ref aa, .ref dd])) rfl rfl (hb hby d9_45)
  refine own_k T220 48 [.int 1, .ref dd] st220 ?_
  refine own_j 49 [(.double (FP.i2d w11)), .int 1, .ref dd] (fun t_ k_ => XS.dloadN X220.here hx rfl (hb hby d9_48) rfl k_) ?_
  obtain ⟨cl221, Ar221, q221, S221, Nn221, H221, G221⟩ := id A_dd
  obtain ⟨T222, h222, X222, e222, W222, st222⟩ := stD X220 hx hZ e220 Ar221 (j := (1 : Int32)) (inb_of S221 ⟨by decide, by decide⟩) (g := (mkF mM 49 #[.val (.ref aa), .val (.double (FP.i2d w11)), .second, .unset] [(.double (FP.i2d w11)), .int 1, .ref dd])) rfl rfl (hb hby d9_49)
  have N222 := Fr.snoc X222 N0 g_dd
  have F_aa_values := F_aa_values.other W222 (Or.inl nad)
  have F_aa_count := F_aa_count.other W222 (Or.inl nad)
  have F_aa_oldest := F_aa_oldest.other W222 (Or.inl nad)
  have F_aa_average := F_aa_average.other W222 (Or.inl nad)
  have E_aa := E_aa.wr W222
  have Kp := Kp.wr W222 (Or.inl (List.mem_of_getElem? (i := 1) rfl))
  have A_dd : Arv Z h222 dd kd .double 10 [(.double (FP.i2d w10)), (.double (FP.i2d w11)), (.double (FP.i2d w2)), (.double (FP.i2d w3)), (.double (FP.i2d w4)), (.double (FP.i2d w5)), (.double (FP.i2d w6)), (.double (FP.i2d w7)), (.double (FP.i2d w8)), (.double (FP.i2d w9))] (.double 0) := Arv.set Ar221 q221 S221 Nn221 H221 G221 rfl W222 1 rfl (Nat.le_of_ble_eq_true rfl)
  refine own_k T222 50 [] st222 ?_
  refine o_aloadN 51 X222 hx (hb hby d9_50) rfl rfl rfl ?_
  refine o_aloadN 52 X222 hx (hb hby d9_51) rfl rfl rfl ?_
  obtain ⟨T223, X223, e223, st223⟩ := getF X222 hx hZ hown (host := "") (Or.inl (ow hw 70 rfl)) Via.refl e222 F_aa_oldest (g := (mkF mM 52 #[.val (.ref aa), .val (.double (FP.i2d w11)), .second, .unset] [.ref aa, .ref aa])) rfl rfl (hb hby d9_52)
  refine own_k T223 55 [.int 1, .ref aa] st223 ?_
  refine o_iconst 56 1 X223 hx (hb hby d9_55) rfl rfl ?_
  refine own_j 57 [.int 2, .ref aa] (fun t_ k_ => XS.iadd X223.here hx rfl (hb hby d9_56) rfl k_) ?_
  refine o_bipush 59 10 X223 hx (hb hby d9_57) rfl rfl ?_
  refine own_j 60 [.int 2, .ref aa] (fun t_ k_ => iremM X223 hx rfl (hb hby d9_59) rfl (by decide) k_) ?_
  obtain ⟨T224, h224, X224, e224, W224, st224⟩ := putF X223 hx hZ hown (host := "") (Or.inl (ow hw 70 rfl)) Via.refl e223 F_aa_oldest E_aa (Or.inl (ow hw 71 rfl)) (ow hw 26 rfl) (ty := .int) (by decide) rfl rfl (g := (mkF mM 60 #[.val (.ref aa), .val (.double (FP.i2d w11)), .second, .unset] [.int 2, .ref aa])) rfl rfl (hb hby d9_60)
  have N224 := Fr.snoc X224 N222 g_aa
  have F_aa_values := F_aa_values.other W224 (Or.inr (slot_ne (Or.inr (ow hw 36 rfl)) (Or.inl (ow hw 71 rfl)) (by decide) (t := (.array .double)) (t' := .int) (by decide) (by decide)))
  have F_aa_count := F_aa_count.other W224 (Or.inr (slot_ne (Or.inl (ow hw 47 rfl)) (Or.inl (ow hw 71 rfl)) (by decide) (t := .int) (t' := .int) (by decide) (by decide)))
  have F_aa_oldest := F_aa_oldest.same W224
  have F_aa_average := F_aa_average.other W224 (Or.inr (slot_ne (Or.inl (ow hw 73 rfl)) (Or.inl (ow hw 71 rfl)) (by decide) (t := .double) (t' := .int) (by decide) (by decide)))
  have E_aa := E_aa.wr W224
  have A_dd := A_dd.other W224 (Ne.symm nad)
  have Kp := Kp.wr W224 (Or.inl (List.mem_of_getElem? (i := 0) rfl))
  refine own_k T224 63 [] st224 ?_
  refine o_aloadN 64 X224 hx (hb hby d9_63) rfl rfl rfl ?_
  refine o_aloadN 65 X224 hx (hb hby d9_64) rfl rfl rfl ?_
  obtain ⟨T225, X225, e225, st225⟩ := getF X224 hx hZ hown (host := "") (Or.inl (ow hw 35 rfl)) Via.refl e224 F_aa_values (g := (mkF mM 65 #[.val (.ref aa), .val (.double (FP.i2d w11)), .second, .unset] [.ref aa, .ref aa])) rfl rfl (hb hby d9_65)
  refine own_k T225 68 [.ref dd, .ref aa] st225 ?_
  refine o_aloadN 69 X225 hx (hb hby d9_68) rfl rfl rfl ?_
  obtain ⟨T226, X226, e226, st226⟩ := getF X225 hx hZ hown (host := "") (Or.inl (ow hw 70 rfl)) Via.refl e225 F_aa_oldest (g := (mkF mM 69 #[.val (.ref aa), .val (.double (FP.i2d w11)), .second, .unset] [.ref aa, .ref dd, .ref aa])) rfl rfl (hb hby d9_69)
  refine own_k T226 72 [.int 2, .ref dd, .ref aa] st226 ?_
  obtain ⟨cl227, Ar227, q227, S227, Nn227, H227, G227⟩ := id A_dd
  have hin227 : ¬ ((2 : Int32) < 0 ∨ cl227.slots.size ≤ ((2 : Int32)).toNatClampNeg) := inb_of S227 ⟨by decide, by decide⟩
  refine own_j 73 [(.double (FP.i2d w2)), .ref aa] (fun t_ k_ => X226.daload hx (j := (2 : Int32)) (v := (.double (FP.i2d w2))) (by rw [e226]; exact Ar227.1) (State.isArrayOf_alike hZ.alike Ar227.2.1) Ar227.2.2 hin227 (H227.at hin227 rfl) (g := (mkF mM 72 #[.val (.ref aa), .val (.double (FP.i2d w11)), .second, .unset] [.int 2, .ref dd, .ref aa])) rfl rfl (hb hby d9_72) t_ k_) ?_
  obtain ⟨T228, h228, X228, e228, W228, st228⟩ := putF X226 hx hZ hown (host := "") (Or.inl (ow hw 72 rfl)) Via.refl e226 F_aa_average E_aa (Or.inl (ow hw 73 rfl)) (ow hw 26 rfl) (ty := .double) (by decide) rfl rfl (g := (mkF mM 73 #[.val (.ref aa), .val (.double (FP.i2d w11)), .second, .unset] [(.double (FP.i2d w2)), .ref aa])) rfl rfl (hb hby d9_73)
  have N228 := Fr.snoc X228 N224 g_aa
  have F_aa_values := F_aa_values.other W228 (Or.inr (slot_ne (Or.inr (ow hw 36 rfl)) (Or.inl (ow hw 73 rfl)) (by decide) (t := (.array .double)) (t' := .double) (by decide) (by decide)))
  have F_aa_count := F_aa_count.other W228 (Or.inr (slot_ne (Or.inl (ow hw 47 rfl)) (Or.inl (ow hw 73 rfl)) (by decide) (t := .int) (t' := .double) (by decide) (by decide)))
  have F_aa_oldest := F_aa_oldest.other W228 (Or.inr (slot_ne (Or.inl (ow hw 71 rfl)) (Or.inl (ow hw 73 rfl)) (by decide) (t := .int) (t' := .double) (by decide) (by decide)))
  have F_aa_average := F_aa_average.same W228
  have E_aa := E_aa.wr W228
  have A_dd := A_dd.other W228 (Ne.symm nad)
  have Kp := Kp.wr W228 (Or.inl (List.mem_of_getElem? (i := 0) rfl))
  refine own_k T228 76 [] st228 ?_
  refine o_iconst 77 1 X228 hx (hb hby d9_76) rfl rfl ?_
  let Lv229 : Array Slot := #[.val (.ref aa), .val (.double (FP.i2d w11)), .second, .val (.int 1)]
  refine own_st (A := T228.setTop (mkF mM 78 Lv229 [])) (fun t_ k_ => XS.istoreN X228.here hx rfl (hb hby d9_77) rfl (l' := Lv229) rfl k_) ?_
  have av0 : Av (FP.i2d w2) w2.toInt 0 (32768 * 1) := own_av0 bl2 bu2
  obtain ⟨na, nb, nc, av1⟩ := own_stp (P := 1) bl3 bu3 av0 (by decide) (by decide) (by decide) (by decide)
  have av1 : Av _ (1 * w3.toInt + 3 * w2.toInt) 1 (32768 * 4) := av1
  refine RT hw X228 hx hZ hby hml hown hlk hret e228 N228 aa dd kd _ 10 2 1 2 (FP.i2d w2) (FP.i2d w3) _ _ g_aa nad ⟨E_aa, F_aa_values, F_aa_count, F_aa_oldest, F_aa_average, A_dd⟩ (by decide) ⟨by decide, by decide⟩ rfl na nb nc rfl (fun T230 L230 h230 X230 e230 N230 K230 ra => ?_)
  have Kp := Kp.trans K230 (allS (Or.inl (List.mem_of_getElem? (i := 0) rfl)) (allS (Or.inl (List.mem_of_getElem? (i := 1) rfl)) all0))
  obtain ⟨na, nb, nc, av2⟩ := own_stp (P := 4) bl4 bu4 av1 (by decide) (by decide) (by decide) (by decide)
  have av2 : Av _ (4 * w4.toInt + 3 * (1 * w3.toInt + 3 * w2.toInt)) 2 (32768 * 16) := av2
  refine RT hw X230 hx hZ hby hml hown hlk hret e230 N230 aa dd kd _ 10 2 2 3 (stp (FP.i2d w3) (FP.i2d w2)) (FP.i2d w4) _ _ g_aa nad ra (by decide) ⟨by decide, by decide⟩ rfl na nb nc rfl (fun T231 L231 h231 X231 e231 N231 K231 ra => ?_)
  have Kp := Kp.trans K231 (allS (Or.inl (List.mem_of_getElem? (i := 0) rfl)) (allS (Or.inl (List.mem_of_getElem? (i := 1) rfl)) all0))
  obtain ⟨na, nb, nc, av3⟩ := own_stp (P := 16) bl5 bu5 av2 (by decide) (by decide) (by decide) (by decide)
  have av3 : Av _ (16 * w5.toInt + 3 * (4 * w4.toInt + 3 * (1 * w3.toInt + 3 * w2.toInt))) 3 (32768 * 64) := av3
  refine RT hw X231 hx hZ hby hml hown hlk hret e231 N231 aa dd kd _ 10 2 3 4 (stp (FP.i2d w4) (stp (FP.i2d w3) (FP.i2d w2))) (FP.i2d w5) _ _ g_aa nad ra (by decide) ⟨by decide, by decide⟩ rfl na nb nc rfl (fun T232 L232 h232 X232 e232 N232 K232 ra => ?_)
  have Kp := Kp.trans K232 (allS (Or.inl (List.mem_of_getElem? (i := 0) rfl)) (allS (Or.inl (List.mem_of_getElem? (i := 1) rfl)) all0))
  obtain ⟨na, nb, nc, av4⟩ := own_stp (P := 64) bl6 bu6 av3 (by decide) (by decide) (by decide) (by decide)
  have av4 : Av _ (64 * w6.toInt + 3 * (16 * w5.toInt + 3 * (4 * w4.toInt + 3 * (1 * w3.toInt + 3 * w2.toInt)))) 4 (32768 * 256) := av4
  refine RT hw X232 hx hZ hby hml hown hlk hret e232 N232 aa dd kd _ 10 2 4 5 (stp (FP.i2d w5) (stp (FP.i2d w4) (stp (FP.i2d w3) (FP.i2d w2)))) (FP.i2d w6) _ _ g_aa nad ra (by decide) ⟨by decide, by decide⟩ rfl na nb nc rfl (fun T233 L233 h233 X233 e233 N233 K233 ra => ?_)
  have Kp := Kp.trans K233 (allS (Or.inl (List.mem_of_getElem? (i := 0) rfl)) (allS (Or.inl (List.mem_of_getElem? (i := 1) rfl)) all0))
  obtain ⟨na, nb, nc, av5⟩ := own_stp (P := 256) bl7 bu7 av4 (by decide) (by decide) (by decide) (by decide)
  have av5 : Av _ (256 * w7.toInt + 3 * (64 * w6.toInt + 3 * (16 * w5.toInt + 3 * (4 * w4.toInt + 3 * (1 * w3.toInt + 3 * w2.toInt))))) 5 (32768 * 1024) := av5
  refine RT hw X233 hx hZ hby hml hown hlk hret e233 N233 aa dd kd _ 10 2 5 6 (stp (FP.i2d w6) (stp (FP.i2d w5) (stp (FP.i2d w4) (stp (FP.i2d w3) (FP.i2d w2))))) (FP.i2d w7) _ _ g_aa nad ra (by decide) ⟨by decide, by decide⟩ rfl na nb nc rfl (fun T234 L234 h234 X234 e234 N234 K234 ra => ?_)
  have Kp := Kp.trans K234 (allS (Or.inl (List.mem_of_getElem? (i := 0) rfl)) (allS (Or.inl (List.mem_of_getElem? (i := 1) rfl)) all0))
  obtain ⟨na, nb, nc, av6⟩ := own_stp (P := 1024) bl8 bu8 av5 (by decide) (by decide) (by decide) (by decide)
  have av6 : Av _ (1024 * w8.toInt + 3 * (256 * w7.toInt + 3 * (64 * w6.toInt + 3 * (16 * w5.toInt + 3 * (4 * w4.toInt + 3 * (1 * w3.toInt + 3 * w2.toInt)))))) 6 (32768 * 4096) := av6
  refine RT hw X234 hx hZ hby hml hown hlk hret e234 N234 aa dd kd _ 10 2 6 7 (stp (FP.i2d w7) (stp (FP.i2d w6) (stp (FP.i2d w5) (stp (FP.i2d w4) (stp (FP.i2d w3) (FP.i2d w2)))))) (FP.i2d w8) _ _ g_aa nad ra (by decide) ⟨by decide, by decide⟩ rfl na nb nc rfl (fun T235 L235 h235 X235 e235 N235 K235 ra => ?_)
  have Kp := Kp.trans K235 (allS (Or.inl (List.mem_of_getElem? (i := 0) rfl)) (allS (Or.inl (List.mem_of_getElem? (i := 1) rfl)) all0))
  obtain ⟨na, nb, nc, av7⟩ := own_stp (P := 4096) bl9 bu9 av6 (by decide) (by decide) (by decide) (by decide)
  have av7 : Av _ (4096 * w9.toInt + 3 * (1024 * w8.toInt + 3 * (256 * w7.toInt + 3 * (64 * w6.toInt + 3 * (16 * w5.toInt + 3 * (4 * w4.toInt + 3 * (1 * w3.toInt + 3 * w2.toInt))))))) 7 (32768 * 16384) := av7
  refine RT hw X235 hx hZ hby hml hown hlk hret e235 N235 aa dd kd _ 10 2 7 8 (stp (FP.i2d w8) (stp (FP.i2d w7) (stp (FP.i2d w6) (stp (FP.i2d w5) (stp (FP.i2d w4) (stp (FP.i2d w3) (FP.i2d w2))))))) (FP.i2d w9) _ _ g_aa nad ra (by decide) ⟨by decide, by decide⟩ rfl na nb nc rfl (fun T236 L236 h236 X236 e236 N236 K236 ra => ?_)
  have Kp := Kp.trans K236 (allS (Or.inl (List.mem_of_getElem? (i := 0) rfl)) (allS (Or.inl (List.mem_of_getElem? (i := 1) rfl)) all0))
  obtain ⟨na, nb, nc, av8⟩ := own_stp (P := 16384) bl10 bu10 av7 (by decide) (by decide) (by decide) (by decide)
  have av8 : Av _ (16384 * w10.toInt + 3 * (4096 * w9.toInt + 3 * (1024 * w8.toInt + 3 * (256 * w7.toInt + 3 * (64 * w6.toInt + 3 * (16 * w5.toInt + 3 * (4 * w4.toInt + 3 * (1 * w3.toInt + 3 * w2.toInt)))))))) 8 (32768 * 65536) := av8
  refine RT hw X236 hx hZ hby hml hown hlk hret e236 N236 aa dd kd _ 10 2 8 9 (stp (FP.i2d w9) (stp (FP.i2d w8) (stp (FP.i2d w7) (stp (FP.i2d w6) (stp (FP.i2d w5) (stp (FP.i2d w4) (stp (FP.i2d w3) (FP.i2d w2)))))))) (FP.i2d w10) _ _ g_aa nad ra (by decide) ⟨by decide, by decide⟩ rfl na nb nc rfl (fun T237 L237 h237 X237 e237 N237 K237 ra => ?_)
  have Kp := Kp.trans K237 (allS (Or.inl (List.mem_of_getElem? (i := 0) rfl)) (allS (Or.inl (List.mem_of_getElem? (i := 1) rfl)) all0))
  obtain ⟨na, nb, nc, av9⟩ := own_stp (P := 65536) bl11 bu11 av8 (by decide) (by decide) (by decide) (by decide)
  refine RT hw X237 hx hZ hby hml hown hlk hret e237 N237 aa dd kd _ 10 2 9 10 (stp (FP.i2d w10) (stp (FP.i2d w9) (stp (FP.i2d w8) (stp (FP.i2d w7) (stp (FP.i2d w6) (stp (FP.i2d w5) (stp (FP.i2d w4) (stp (FP.i2d w3) (FP.i2d w2))))))))) (FP.i2d w11) _ _ g_aa nad ra (by decide) ⟨by decide, by decide⟩ rfl na nb nc rfl (fun T238 L238 h238 X238 e238 N238 K238 ra => ?_)
  have Kp := Kp.trans K238 (allS (Or.inl (List.mem_of_getElem? (i := 0) rfl)) (allS (Or.inl (List.mem_of_getElem? (i := 1) rfl)) all0))
  obtain ⟨E_aa, F_aa_values, F_aa_count, F_aa_oldest, F_aa_average, A_dd⟩ := ra
  refine o_iloadN 79 X238 hx (hb hby d9_78) rfl rfl ?_
  refine o_aloadN 80 X238 hx (hb hby d9_79) rfl rfl rfl ?_
  obtain ⟨T239, X239, e239, st239⟩ := getF X238 hx hZ hown (host := "") (Or.inl (ow hw 46 rfl)) Via.refl e238 F_aa_count (g := (mkF mM 80 #[.val (.ref aa), .val (.double (FP.i2d w11)), .second, .val (.int 10)] [.ref aa, .int 10])) rfl rfl (hb hby d9_80)
  refine own_k T239 83 [.int 10, .int 10] st239 ?_
  refine o_icmpYes 123 X239 hx (hb hby d9_83) (flt (by decide : ¬ ((10 : Int32) < (10 : Int32)))).2.1 (by decide) ?_
  exact own_retV X239 hx hlk hret (hb hby d9_123) (by rw [e239]; exact ⟨rfl, N238, Kp, E_aa, F_aa_values, F_aa_count, F_aa_oldest, F_aa_average, A_dd⟩) (by decide) (by decide)
theorem d4_0 : decode jdk_29_method_69_code 0 = .ok (.iload_n 0, 1) := by decide +kernel
theorem d4_1 : decode jdk_29_method_69_code 1 = .ok (.iload_n 1, 1) := by decide +kernel
theorem d4_2 : decode jdk_29_method_69_code 2 = .ok (.if_icmp .gt 7, 3) := by decide +kernel
theorem d4_5 : decode jdk_29_method_69_code 5 = .ok (.iload_n 0, 1) := by decide +kernel
theorem d4_6 : decode jdk_29_method_69_code 6 = .ok (.goto 4, 3) := by decide +kernel
theorem d4_10 : decode jdk_29_method_69_code 10 = .ok (.ireturn, 1) := by decide +kernel
theorem pn_java_2flang_2fMath_4 : plainFor yn3 = true := by decide +kernel
theorem ef_rmM0 (mM : MethodId)  : entryFrame mM #[.int 0, .int 10] 2 = mkF mM 0 #[.val (.int 0), .val (.int 10)] [] := by first | (simp [entryFrame, mkF, argsToLocals, Value.category]; done) | rfl
theorem rmM0 (lL : Launch) (Z : State) (a0 : Array Value) (hw : own_tb a0 Z) (ws : List Jvm.Cond)  (h0 : Heap) (n0 : Nat)  :
    own_Ct lL Z yn3 jdk_29_method_69_code 2 (some .int) ws (⟨0, 0, 0, 0⟩ : Room) #[.int 0, .int 10] h0 (Qw (.int 0) h0 n0) := by
  refine own_body pn_java_2flang_2fMath_4 0 0 rfl rfl (fun mM => ef_rmM0 mM) fun pP eE sS mM below meth cC s₁ hZ hx hby hml hown hnm hret hlk X0 e0 => ?_
  have N0 := Fr.nil n0
  refine o_iloadN 1 X0 hx (hb hby d4_0) rfl rfl ?_
  refine o_iloadN 2 X0 hx (hb hby d4_1) rfl rfl ?_
  refine o_icmpNo 5 X0 hx (hb hby d4_2) (flt (by decide : ¬ ((10 : Int32) < (0 : Int32)))).2.2.1 rfl ?_
  refine o_iloadN 6 X0 hx (hb hby d4_5) rfl rfl ?_
  refine o_goto 10 X0 hx (hb hby d4_6) (by decide) ?_
  exact own_retI X0 hx hlk hret (hb hby d4_10) ⟨rfl, N0, e0⟩ (by decide) (by decide)
theorem ef_rmM1 (mM : MethodId)  : entryFrame mM #[.int 1, .int 10] 2 = mkF mM 0 #[.val (.int 1), .val (.int 10)] [] := by first | (simp [entryFrame, mkF, argsToLocals, Value.category]; done) | rfl
theorem rmM1 (lL : Launch) (Z : State) (a0 : Array Value) (hw : own_tb a0 Z) (ws : List Jvm.Cond)  (h0 : Heap) (n0 : Nat)  :
    own_Ct lL Z yn3 jdk_29_method_69_code 2 (some .int) ws (⟨0, 0, 0, 0⟩ : Room) #[.int 1, .int 10] h0 (Qw (.int 1) h0 n0) := by
  refine own_body pn_java_2flang_2fMath_4 0 0 rfl rfl (fun mM => ef_rmM1 mM) fun pP eE sS mM below meth cC s₁ hZ hx hby hml hown hnm hret hlk X0 e0 => ?_
  have N0 := Fr.nil n0
  refine o_iloadN 1 X0 hx (hb hby d4_0) rfl rfl ?_
  refine o_iloadN 2 X0 hx (hb hby d4_1) rfl rfl ?_
  refine o_icmpNo 5 X0 hx (hb hby d4_2) (flt (by decide : ¬ ((10 : Int32) < (1 : Int32)))).2.2.1 rfl ?_
  refine o_iloadN 6 X0 hx (hb hby d4_5) rfl rfl ?_
  refine o_goto 10 X0 hx (hb hby d4_6) (by decide) ?_
  exact own_retI X0 hx hlk hret (hb hby d4_10) ⟨rfl, N0, e0⟩ (by decide) (by decide)
theorem ef_rmM2 (mM : MethodId)  : entryFrame mM #[.int 2, .int 10] 2 = mkF mM 0 #[.val (.int 2), .val (.int 10)] [] := by first | (simp [entryFrame, mkF, argsToLocals, Value.category]; done) | rfl
theorem rmM2 (lL : Launch) (Z : State) (a0 : Array Value) (hw : own_tb a0 Z) (ws : List Jvm.Cond)  (h0 : Heap) (n0 : Nat)  :
    own_Ct lL Z yn3 jdk_29_method_69_code 2 (some .int) ws (⟨0, 0, 0, 0⟩ : Room) #[.int 2, .int 10] h0 (Qw (.int 2) h0 n0) := by
  refine own_body pn_java_2flang_2fMath_4 0 0 rfl rfl (fun mM => ef_rmM2 mM) fun pP eE sS mM below meth cC s₁ hZ hx hby hml hown hnm hret hlk X0 e0 => ?_
  have N0 := Fr.nil n0
  refine o_iloadN 1 X0 hx (hb hby d4_0) rfl rfl ?_
  refine o_iloadN 2 X0 hx (hb hby d4_1) rfl rfl ?_
  refine o_icmpNo 5 X0 hx (hb hby d4_2) (flt (by decide : ¬ ((10 : Int32) < (2 : Int32)))).2.2.1 rfl ?_
  refine o_iloadN 6 X0 hx (hb hby d4_5) rfl rfl ?_
  refine o_goto 10 X0 hx (hb hby d4_6) (by decide) ?_
  exact own_retI X0 hx hlk hret (hb hby d4_10) ⟨rfl, N0, e0⟩ (by decide) (by decide)
theorem ef_rmM3 (mM : MethodId)  : entryFrame mM #[.int 3, .int 10] 2 = mkF mM 0 #[.val (.int 3), .val (.int 10)] [] := by first | (simp [entryFrame, mkF, argsToLocals, Value.category]; done) | rfl
theorem rmM3 (lL : Launch) (Z : State) (a0 : Array Value) (hw : own_tb a0 Z) (ws : List Jvm.Cond)  (h0 : Heap) (n0 : Nat)  :
    own_Ct lL Z yn3 jdk_29_method_69_code 2 (some .int) ws (⟨0, 0, 0, 0⟩ : Room) #[.int 3, .int 10] h0 (Qw (.int 3) h0 n0) := by
  refine own_body pn_java_2flang_2fMath_4 0 0 rfl rfl (fun mM => ef_rmM3 mM) fun pP eE sS mM below meth cC s₁ hZ hx hby hml hown hnm hret hlk X0 e0 => ?_
  have N0 := Fr.nil n0
  refine o_iloadN 1 X0 hx (hb hby d4_0) rfl rfl ?_
  refine o_iloadN 2 X0 hx (hb hby d4_1) rfl rfl ?_
  refine o_icmpNo 5 X0 hx (hb hby d4_2) (flt (by decide : ¬ ((10 : Int32) < (3 : Int32)))).2.2.1 rfl ?_
  refine o_iloadN 6 X0 hx (hb hby d4_5) rfl rfl ?_
  refine o_goto 10 X0 hx (hb hby d4_6) (by decide) ?_
  exact own_retI X0 hx hlk hret (hb hby d4_10) ⟨rfl, N0, e0⟩ (by decide) (by decide)
theorem ef_rmM4 (mM : MethodId)  : entryFrame mM #[.int 4, .int 10] 2 = mkF mM 0 #[.val (.int 4), .val (.int 10)] [] := by first | (simp [entryFrame, mkF, argsToLocals, Value.category]; done) | rfl
theorem rmM4 (lL : Launch) (Z : State) (a0 : Array Value) (hw : own_tb a0 Z) (ws : List Jvm.Cond)  (h0 : Heap) (n0 : Nat)  :
    own_Ct lL Z yn3 jdk_29_method_69_code 2 (some .int) ws (⟨0, 0, 0, 0⟩ : Room) #[.int 4, .int 10] h0 (Qw (.int 4) h0 n0) := by
  refine own_body pn_java_2flang_2fMath_4 0 0 rfl rfl (fun mM => ef_rmM4 mM) fun pP eE sS mM below meth cC s₁ hZ hx hby hml hown hnm hret hlk X0 e0 => ?_
  have N0 := Fr.nil n0
  refine o_iloadN 1 X0 hx (hb hby d4_0) rfl rfl ?_
  refine o_iloadN 2 X0 hx (hb hby d4_1) rfl rfl ?_
  refine o_icmpNo 5 X0 hx (hb hby d4_2) (flt (by decide : ¬ ((10 : Int32) < (4 : Int32)))).2.2.1 rfl ?_
  refine o_iloadN 6 X0 hx (hb hby d4_5) rfl rfl ?_
  refine o_goto 10 X0 hx (hb hby d4_6) (by decide) ?_
  exact own_retI X0 hx hlk hret (hb hby d4_10) ⟨rfl, N0, e0⟩ (by decide) (by decide)
theorem ef_rmM5 (mM : MethodId)  : entryFrame mM #[.int 5, .int 10] 2 = mkF mM 0 #[.val (.int 5), .val (.int 10)] [] := by first | (simp [entryFrame, mkF, argsToLocals, Value.category]; done) | rfl
theorem rmM5 (lL : Launch) (Z : State) (a0 : Array Value) (hw : own_tb a0 Z) (ws : List Jvm.Cond)  (h0 : Heap) (n0 : Nat)  :
    own_Ct lL Z yn3 jdk_29_method_69_code 2 (some .int) ws (⟨0, 0, 0, 0⟩ : Room) #[.int 5, .int 10] h0 (Qw (.int 5) h0 n0) := by
  refine own_body pn_java_2flang_2fMath_4 0 0 rfl rfl (fun mM => ef_rmM5 mM) fun pP eE sS mM below meth cC s₁ hZ hx hby hml hown hnm hret hlk X0 e0 => ?_
  have N0 := Fr.nil n0
  refine o_iloadN 1 X0 hx (hb hby d4_0) rfl rfl ?_
  refine o_iloadN 2 X0 hx (hb hby d4_1) rfl rfl ?_
  refine o_icmpNo 5 X0 hx (hb hby d4_2) (flt (by decide : ¬ ((10 : Int32) < (5 : Int32)))).2.2.1 rfl ?_
  refine o_iloadN 6 X0 hx (hb hby d4_5) rfl rfl ?_
  refine o_goto 10 X0 hx (hb hby d4_6) (by decide) ?_
  exact own_retI X0 hx hlk hret (hb hby d4_10) ⟨rfl, N0, e0⟩ (by decide) (by decide)
theorem ef_rmM6 (mM : MethodId)  : entryFrame mM #[.int 6, .int 10] 2 = mkF mM 0 #[.val (.int 6), .val (.int 10)] [] := by first | (simp [entryFrame, mkF, argsToLocals, Value.category]; done) | rfl
theorem rmM6 (lL : Launch) (Z : State) (a0 : Array Value) (hw : own_tb a0 Z) (ws : List Jvm.Cond)  (h0 : Heap) (n0 : Nat)  :
    own_Ct lL Z yn3 jdk_29_method_69_code 2 (some .int) ws (⟨0, 0, 0, 0⟩ : Room) #[.int 6, .int 10] h0 (Qw (.int 6) h0 n0) := by
  refine own_body pn_java_2flang_2fMath_4 0 0 rfl rfl (fun mM => ef_rmM6 mM) fun pP eE sS mM below meth cC s₁ hZ hx hby hml hown hnm hret hlk X0 e0 => ?_
  have N0 := Fr.nil n0
  refine o_iloadN 1 X0 hx (hb hby d4_0) rfl rfl ?_
  refine o_iloadN 2 X0 hx (hb hby d4_1) rfl rfl ?_
  refine o_icmpNo 5 X0 hx (hb hby d4_2) (flt (by decide : ¬ ((10 : Int32) < (6 : Int32)))).2.2.1 rfl ?_
  refine o_iloadN 6 X0 hx (hb hby d4_5) rfl rfl ?_
  refine o_goto 10 X0 hx (hb hby d4_6) (by decide) ?_
  exact own_retI X0 hx hlk hret (hb hby d4_10) ⟨rfl, N0, e0⟩ (by decide) (by decide)
theorem ef_rmM7 (mM : MethodId)  : entryFrame mM #[.int 7, .int 10] 2 = mkF mM 0 #[.val (.int 7), .val (.int 10)] [] := by first | (simp [entryFrame, mkF, argsToLocals, Value.category]; done) | rfl
theorem rmM7 (lL : Launch) (Z : State) (a0 : Array Value) (hw : own_tb a0 Z) (ws : List Jvm.Cond)  (h0 : Heap) (n0 : Nat)  :
    own_Ct lL Z yn3 jdk_29_method_69_code 2 (some .int) ws (⟨0, 0, 0, 0⟩ : Room) #[.int 7, .int 10] h0 (Qw (.int 7) h0 n0) := by
  refine own_body pn_java_2flang_2fMath_4 0 0 rfl rfl (fun mM => ef_rmM7 mM) fun pP eE sS mM below meth cC s₁ hZ hx hby hml hown hnm hret hlk X0 e0 => ?_
  have N0 := Fr.nil n0
  refine o_iloadN 1 X0 hx (hb hby d4_0) rfl rfl ?_
  refine o_iloadN 2 X0 hx (hb hby d4_1) rfl rfl ?_
  refine o_icmpNo 5 X0 hx (hb hby d4_2) (flt (by decide : ¬ ((10 : Int32) < (7 : Int32)))).2.2.1 rfl ?_
  refine o_iloadN 6 X0 hx (hb hby d4_5) rfl rfl ?_
  refine o_goto 10 X0 hx (hb hby d4_6) (by decide) ?_
  exact own_retI X0 hx hlk hret (hb hby d4_10) ⟨rfl, N0, e0⟩ (by decide) (by decide)
theorem ef_rmM8 (mM : MethodId)  : entryFrame mM #[.int 8, .int 10] 2 = mkF mM 0 #[.val (.int 8), .val (.int 10)] [] := by first | (simp [entryFrame, mkF, argsToLocals, Value.category]; done) | rfl
theorem rmM8 (lL : Launch) (Z : State) (a0 : Array Value) (hw : own_tb a0 Z) (ws : List Jvm.Cond)  (h0 : Heap) (n0 : Nat)  :
    own_Ct lL Z yn3 jdk_29_method_69_code 2 (some .int) ws (⟨0, 0, 0, 0⟩ : Room) #[.int 8, .int 10] h0 (Qw (.int 8) h0 n0) := by
  refine own_body pn_java_2flang_2fMath_4 0 0 rfl rfl (fun mM => ef_rmM8 mM) fun pP eE sS mM below meth cC s₁ hZ hx hby hml hown hnm hret hlk X0 e0 => ?_
  have N0 := Fr.nil n0
  refine o_iloadN 1 X0 hx (hb hby d4_0) rfl rfl ?_
  refine o_iloadN 2 X0 hx (hb hby d4_1) rfl rfl ?_
  refine o_icmpNo 5 X0 hx (hb hby d4_2) (flt (by decide : ¬ ((10 : Int32) < (8 : Int32)))).2.2.1 rfl ?_
  refine o_iloadN 6 X0 hx (hb hby d4_5) rfl rfl ?_
  refine o_goto 10 X0 hx (hb hby d4_6) (by decide) ?_
  exact own_retI X0 hx hlk hret (hb hby d4_10) ⟨rfl, N0, e0⟩ (by decide) (by decide)
theorem ef_rmM9 (mM : MethodId)  : entryFrame mM #[.int 9, .int 10] 2 = mkF mM 0 #[.val (.int 9), .val (.int 10)] [] := by first | (simp [entryFrame, mkF, argsToLocals, Value.category]; done) | rfl
theorem rmM9 (lL : Launch) (Z : State) (a0 : Array Value) (hw : own_tb a0 Z) (ws : List Jvm.Cond)  (h0 : Heap) (n0 : Nat)  :
    own_Ct lL Z yn3 jdk_29_method_69_code 2 (some .int) ws (⟨0, 0, 0, 0⟩ : Room) #[.int 9, .int 10] h0 (Qw (.int 9) h0 n0) := by
  refine own_body pn_java_2flang_2fMath_4 0 0 rfl rfl (fun mM => ef_rmM9 mM) fun pP eE sS mM below meth cC s₁ hZ hx hby hml hown hnm hret hlk X0 e0 => ?_
  have N0 := Fr.nil n0
  refine o_iloadN 1 X0 hx (hb hby d4_0) rfl rfl ?_
  refine o_iloadN 2 X0 hx (hb hby d4_1) rfl rfl ?_
  refine o_icmpNo 5 X0 hx (hb hby d4_2) (flt (by decide : ¬ ((10 : Int32) < (9 : Int32)))).2.2.1 rfl ?_
  refine o_iloadN 6 X0 hx (hb hby d4_5) rfl rfl ?_
  refine o_goto 10 X0 hx (hb hby d4_6) (by decide) ?_
  exact own_retI X0 hx hlk hret (hb hby d4_10) ⟨rfl, N0, e0⟩ (by decide) (by decide)
theorem ef_rmM10 (mM : MethodId)  : entryFrame mM #[.int 10, .int 10] 2 = mkF mM 0 #[.val (.int 10), .val (.int 10)] [] := by first | (simp [entryFrame, mkF, argsToLocals, Value.category]; done) | rfl
theorem rmM10 (lL : Launch) (Z : State) (a0 : Array Value) (hw : own_tb a0 Z) (ws : List Jvm.Cond)  (h0 : Heap) (n0 : Nat)  :
    own_Ct lL Z yn3 jdk_29_method_69_code 2 (some .int) ws (⟨0, 0, 0, 0⟩ : Room) #[.int 10, .int 10] h0 (Qw (.int 10) h0 n0) := by
  refine own_body pn_java_2flang_2fMath_4 0 0 rfl rfl (fun mM => ef_rmM10 mM) fun pP eE sS mM below meth cC s₁ hZ hx hby hml hown hnm hret hlk X0 e0 => ?_
  have N0 := Fr.nil n0
  refine o_iloadN 1 X0 hx (hb hby d4_0) rfl rfl ?_
  refine o_iloadN 2 X0 hx (hb hby d4_1) rfl rfl ?_
  refine o_icmpNo 5 X0 hx (hb hby d4_2) (flt (by decide : ¬ ((10 : Int32) < (10 : Int32)))).2.2.1 rfl ?_
  refine o_iloadN 6 X0 hx (hb hby d4_5) rfl rfl ?_
  refine o_goto 10 X0 hx (hb hby d4_6) (by decide) ?_
  exact own_retI X0 hx hlk hret (hb hby d4_10) ⟨rfl, N0, e0⟩ (by decide) (by decide)
theorem d4_9 : decode jdk_29_method_69_code 9 = .ok (.iload_n 1, 1) := by decide +kernel
theorem ef_rmM11 (mM : MethodId)  : entryFrame mM #[.int 11, .int 10] 2 = mkF mM 0 #[.val (.int 11), .val (.int 10)] [] := by first | (simp [entryFrame, mkF, argsToLocals, Value.category]; done) | rfl
theorem rmM11 (lL : Launch) (Z : State) (a0 : Array Value) (hw : own_tb a0 Z) (ws : List Jvm.Cond)  (h0 : Heap) (n0 : Nat)  :
    own_Ct lL Z yn3 jdk_29_method_69_code 2 (some .int) ws (⟨0, 0, 0, 0⟩ : Room) #[.int 11, .int 10] h0 (Qw (.int 10) h0 n0) := by
  refine own_body pn_java_2flang_2fMath_4 0 0 rfl rfl (fun mM => ef_rmM11 mM) fun pP eE sS mM below meth cC s₁ hZ hx hby hml hown hnm hret hlk X0 e0 => ?_
  have N0 := Fr.nil n0
  refine o_iloadN 1 X0 hx (hb hby d4_0) rfl rfl ?_
  refine o_iloadN 2 X0 hx (hb hby d4_1) rfl rfl ?_
  refine o_icmpYes 9 X0 hx (hb hby d4_2) (tlt (by decide : ((10 : Int32) < (11 : Int32)))).2.2.1 (by decide) ?_
  refine o_iloadN 10 X0 hx (hb hby d4_9) rfl rfl ?_
  exact own_retI X0 hx hlk hret (hb hby d4_10) ⟨rfl, N0, e0⟩ (by decide) (by decide)
theorem ef_rmM12 (mM : MethodId)  : entryFrame mM #[.int 12, .int 10] 2 = mkF mM 0 #[.val (.int 12), .val (.int 10)] [] := by first | (simp [entryFrame, mkF, argsToLocals, Value.category]; done) | rfl
theorem rmM12 (lL : Launch) (Z : State) (a0 : Array Value) (hw : own_tb a0 Z) (ws : List Jvm.Cond)  (h0 : Heap) (n0 : Nat)  :
    own_Ct lL Z yn3 jdk_29_method_69_code 2 (some .int) ws (⟨0, 0, 0, 0⟩ : Room) #[.int 12, .int 10] h0 (Qw (.int 10) h0 n0) := by
  refine own_body pn_java_2flang_2fMath_4 0 0 rfl rfl (fun mM => ef_rmM12 mM) fun pP eE sS mM below meth cC s₁ hZ hx hby hml hown hnm hret hlk X0 e0 => ?_
  have N0 := Fr.nil n0
  refine o_iloadN 1 X0 hx (hb hby d4_0) rfl rfl ?_
  refine o_iloadN 2 X0 hx (hb hby d4_1) rfl rfl ?_
  refine o_icmpYes 9 X0 hx (hb hby d4_2) (tlt (by decide : ((10 : Int32) < (12 : Int32)))).2.2.1 (by decide) ?_
  refine o_iloadN 10 X0 hx (hb hby d4_9) rfl rfl ?_
  exact own_retI X0 hx hlk hret (hb hby d4_10) ⟨rfl, N0, e0⟩ (by decide) (by decide)
theorem d5_0 : decode prog_71_method_4_code 0 = .ok (.aload_n 0, 1) := by decide +kernel
theorem d5_1 : decode prog_71_method_4_code 1 = .ok (.getfield 13, 3) := by decide +kernel
theorem d5_4 : decode prog_71_method_4_code 4 = .ok (.ireturn, 1) := by decide +kernel
theorem ef_rmC (mM : MethodId) (aa : Addr) (y : Int32) : entryFrame mM #[.ref aa] 1 = mkF mM 0 #[.val (.ref aa)] [] := by first | (simp [entryFrame, mkF, argsToLocals, Value.category]; done) | rfl
theorem rmC (lL : Launch) (Z : State) (a0 : Array Value) (hw : own_tb a0 Z) (ws : List Jvm.Cond) (aa : Addr) (y : Int32) (h0 : Heap) (n0 : Nat) (fc : Fld Z h0 aa "com/example/gleanwork/gleanwork/schedule/RecentAverage" "count" "I" (.int y)) :
    own_Ct lL Z yn4 prog_71_method_4_code 1 (some .int) ws (⟨0, 0, 0, 0⟩ : Room) #[.ref aa] h0 (Qw (.int y) h0 n0) := by
  refine own_body (plainFor_of_name pn_com_2fexample_2fgleanwork_2fgleanwork_2fschedule_2fRecentAverage) 0 0 rfl rfl (fun mM => ef_rmC mM aa y) fun pP eE sS mM below meth cC s₁ hZ hx hby hml hown hnm hret hlk X0 e0 => ?_
  have N0 := Fr.nil n0
  refine o_aloadN 1 X0 hx (hb hby d5_0) rfl rfl rfl ?_
  obtain ⟨T240, X240, e240, st240⟩ := getF X0 hx hZ hown (host := "") (Or.inl (ow hw 46 rfl)) Via.refl e0 fc (g := (mkF mM 1 #[.val (.ref aa)] [.ref aa])) rfl rfl (hb hby d5_1)
  refine own_k T240 4 [.int y] st240 ?_
  exact own_retI X240 hx hlk hret (hb hby d5_4) ⟨rfl, N0, e240⟩ (by decide) (by decide)
theorem d11_0 : decode jdk_2648_method_3_code 0 = .ok (.aload_n 0, 1) := by decide +kernel
theorem d11_1 : decode jdk_2648_method_3_code 1 = .ok (.invokespecial 1, 3) := by decide +kernel
theorem d11_4 : decode jdk_2648_method_3_code 4 = .ok (.aload_n 0, 1) := by decide +kernel
theorem d11_5 : decode jdk_2648_method_3_code 5 = .ok (.iconst 1, 1) := by decide +kernel
theorem d11_6 : decode jdk_2648_method_3_code 6 = .ok (.putfield 7, 3) := by decide +kernel
theorem d11_9 : decode jdk_2648_method_3_code 9 = .ok (.aload_n 0, 1) := by decide +kernel
theorem d11_10 : decode jdk_2648_method_3_code 10 = .ok (.dload_n 1, 1) := by decide +kernel
theorem d11_11 : decode jdk_2648_method_3_code 11 = .ok (.putfield 17, 3) := by decide +kernel
theorem d11_14 : decode jdk_2648_method_3_code 14 = .ok (.return_, 1) := by decide +kernel
theorem pn_java_2futil_2fOptionalDouble : plainName "java/util/OptionalDouble" = true := by first | (simp [plainName, overriddenIn]; done) | decide +kernel
theorem ef_rmOI (mM : MethodId) (a : Addr) (gg : UInt64) : entryFrame mM #[.ref a, .double gg] 3 = mkF mM 0 #[.val (.ref a), .val (.double gg), .second] [] := by first | (simp [entryFrame, mkF, argsToLocals, Value.category]; done) | rfl
theorem rmOI (lL : Launch) (Z : State) (a0 : Array Value) (hw : own_tb a0 Z) (ws : List Jvm.Cond) (a : Addr) (gg : UInt64) (h0 : Heap) (n0 : Nat) (g_a : n0 ≤ a) (E_a : Exa Z h0 a "java/util/OptionalDouble") (F_a_isPresent : Fld Z h0 a "java/util/OptionalDouble" "isPresent" "Z" (.int 0)) (F_a_value : Fld Z h0 a "java/util/OptionalDouble" "value" "D" (.double 0)) :
    own_Ct lL Z yn5 jdk_2648_method_3_code 3 none ws (⟨1, 0, 0, 12⟩ : Room) #[.ref a, .double gg] h0 (QOI Z a gg h0 n0) := by
  refine own_body (plainFor_of_name pn_java_2futil_2fOptionalDouble) 0 0 rfl rfl (fun mM => ef_rmOI mM a gg) fun pP eE sS mM below meth cC s₁ hZ hx hby hml hown hnm hret hlk X0 e0 => ?_
  have N0 := Fr.nil n0
  have Kp := Keep.refl h0 [a]
  refine o_aloadN 1 X0 hx (hb hby d11_0) rfl rfl rfl ?_
  obtain ⟨T241, X241, e241, st241⟩ := initO X0 hx hZ hown (ow hw 85 rfl) (ow hw 32 rfl) (ow hw 33 rfl) e0 (g := (mkF mM 1 #[.val (.ref a), .val (.double gg), .second] [.ref a])) rfl (by rw [hml]; rfl) rfl (hb hby d11_1) (by decide) (W := 0) (by show 2 * 0 + _ ≤ _; exact Nat.le_of_eq rfl) (by decide)
  refine own_k T241 4 [] st241 ?_
  refine o_aloadN 5 X241 hx (hb hby d11_4) rfl rfl rfl ?_
  refine o_iconst 6 1 X241 hx (hb hby d11_5) rfl rfl ?_
  obtain ⟨T242, h242, X242, e242, W242, st242⟩ := putFN X241 hx hZ hown (ow hw 63 rfl) Via.refl e241 F_a_isPresent E_a (Or.inr ⟨(ow hw 64 rfl), rfl, hnm⟩) (ow hw 80 rfl) (ty := .boolean) (v' := (.int 1)) (by decide) rfl (by decide) (g := (mkF mM 6 #[.val (.ref a), .val (.double gg), .second] [.int 1, .ref a])) rfl rfl (hb hby d11_6)
  have N242 := Fr.snoc X242 N0 g_a
  have F_a_isPresent := F_a_isPresent.same W242
  have F_a_value := F_a_value.other W242 (Or.inr (slot_ne (Or.inr (ow hw 87 rfl)) (Or.inr (ow hw 64 rfl)) (by decide) (t := .double) (t' := .boolean) (by decide) (by decide)))
  have E_a := E_a.wr W242
  have Kp := Kp.wr W242 (Or.inl (List.mem_of_getElem? (i := 0) rfl))
  refine own_k T242 9 [] st242 ?_
  refine o_aloadN 10 X242 hx (hb hby d11_9) rfl rfl rfl ?_
  refine own_j 11 [.double gg, .ref a] (fun t_ k_ => XS.dloadN X242.here hx rfl (hb hby d11_10) rfl k_) ?_
  obtain ⟨T243, h243, X243, e243, W243, st243⟩ := putF X242 hx hZ hown (host := "") (Or.inl (ow hw 86 rfl)) Via.refl e242 F_a_value E_a (Or.inr ⟨(ow hw 87 rfl), rfl, hnm⟩) (ow hw 80 rfl) (ty := .double) (by decide) rfl rfl (g := (mkF mM 11 #[.val (.ref a), .val (.double gg), .second] [.double gg, .ref a])) rfl rfl (hb hby d11_11)
  have N243 := Fr.snoc X243 N242 g_a
  have F_a_isPresent := F_a_isPresent.other W243 (Or.inr (slot_ne (Or.inr (ow hw 64 rfl)) (Or.inr (ow hw 87 rfl)) (by decide) (t := .boolean) (t' := .double) (by decide) (by decide)))
  have F_a_value := F_a_value.same W243
  have E_a := E_a.wr W243
  have Kp := Kp.wr W243 (Or.inl (List.mem_of_getElem? (i := 0) rfl))
  refine own_k T243 14 [] st243 ?_
  exact own_retV X243 hx hlk hret (hb hby d11_14) (by rw [e243]; exact ⟨rfl, N243, Kp, E_a, F_a_isPresent, F_a_value⟩) (by decide) (by decide)
theorem d10_0 : decode jdk_2648_method_4_code 0 = .ok (.new 8, 3) := by decide +kernel
theorem d10_3 : decode jdk_2648_method_4_code 3 = .ok (.dup, 1) := by decide +kernel
theorem d10_4 : decode jdk_2648_method_4_code 4 = .ok (.dload_n 0, 1) := by decide +kernel
theorem d10_5 : decode jdk_2648_method_4_code 5 = .ok (.invokespecial 25, 3) := by decide +kernel
theorem pd__28D_29V : parseMethodDescriptor "(D)V" = some ⟨[.double], none⟩ := by decide +kernel
theorem d10_8 : decode jdk_2648_method_4_code 8 = .ok (.areturn, 1) := by decide +kernel
theorem ef_rmOf (mM : MethodId) (gg : UInt64) : entryFrame mM #[.double gg] 2 = mkF mM 0 #[.val (.double gg), .second] [] := by first | (simp [entryFrame, mkF, argsToLocals, Value.category]; done) | rfl
theorem rmOf (lL : Launch) (Z : State) (a0 : Array Value) (hw : own_tb a0 Z) (ws : List Jvm.Cond) (gg : UInt64) (h0 : Heap) (n0 : Nat) (Zn : n0 ≤ h0.size) :
    own_Ct lL Z yn6 jdk_2648_method_4_code 2 (some (.object "java/util/OptionalDouble")) ws (⟨2, 1, 2, 27⟩ : Room) #[.double gg] h0 (QO Z gg h0 n0) := by
  refine own_body (plainFor_of_name pn_java_2futil_2fOptionalDouble) 1 2 rfl rfl (fun mM => ef_rmOf mM gg) fun pP eE sS mM below meth cC s₁ hZ hx hby hml hown hnm hret hlk X0 e0 => ?_
  have N0 := Fr.nil n0
  have Kp := Keep.refl h0 []
  obtain ⟨T244, h244, X244, e244, E244, A244, D244, -, st244⟩ := newO X0 hx hZ hown (ow hw 79 rfl) (ow hw 80 rfl) (ow hw 55 rfl) e0 (g := (mkF mM 0 #[.val (.double gg), .second] [])) rfl (hb hby d10_0) (by decide) (by decide)
  obtain ⟨b244, g244⟩ : ∃ z, z = h0.size := ⟨_, rfl⟩
  rw [← g244] at A244 D244 st244
  have g_b244 : n0 ≤ b244 := Nat.le_trans Zn (Nat.le_of_eq g244.symm)
  have b_b244 : h0.size ≤ b244 := Nat.le_trans Kp.1 (Nat.le_of_eq g244.symm)
  have Zn := Nat.le_trans Zn E244.1
  have Kp := Kp.ext E244
  have E_b244 := A244
  have F_b244_isPresent : Fld Z h244 b244 "java/util/OptionalDouble" "isPresent" "Z" (.int 0) := D244 (Or.inr (ow hw 64 rfl)) (ty := .boolean) (by decide)
  have F_b244_value : Fld Z h244 b244 "java/util/OptionalDouble" "value" "D" (.double 0) := D244 (Or.inr (ow hw 87 rfl)) (ty := .double) (by decide)
  refine own_k T244 3 [.ref b244] st244 ?_
  refine o_dup 4 X244 hx (hb hby d10_3) rfl rfl ?_
  refine own_j 5 [.double gg, .ref b244, .ref b244] (fun t_ k_ => XS.dloadN X244.here hx rfl (hb hby d10_4) rfl k_) ?_
  obtain ⟨_, _, ⟨T245, L245, k245, n245⟩, -, X245, ⟨Lc245, hQ245, l245, y245, z245⟩, st245⟩ := X244.specialBack hx (y := yn5) rfl hown (mvT hZ (ow hw 81 rfl)) (mvT hZ (ow hw 82 rfl)) (mvT hZ (ow hw 84 rfl)) (by decide) (backOf (W := 1) (rmOI lL Z a0 hw [] b244 gg h244 n0 g_b244 E_b244 F_b244_isPresent F_b244_value) hZ (ow hw 84 rfl) (ow hw 55 rfl) (by decide) (by decide)) (g := (mkF mM 5 #[.val (.double gg), .second] [.double gg, .ref b244, .ref b244])) rfl (by rw [hml]; rfl) (Steps.refl _) (a := b244) (argsL := [.double gg]) (rest := [.ref b244]) (lenOf pd__28D_29V rfl) rfl (by show 2 * 0 + _ ≤ _; exact Nat.le_of_eq rfl) (hb hby d10_5) (fun _ _ => ⟨rfl, e244, (by decide : 1 + 0 ≤ _), (by decide : 2 + 0 ≤ _)⟩)
  dsimp only [Pt.U, Pt.locs, Pt.cells, Pt.slots] at X245 l245 y245 z245 st245 hQ245
  have X245 := own_cs X245 1 2 y245 z245
  obtain ⟨rfl, N245q, K245, od245⟩ := hQ245
  have N245 := own_N l245 N0 N245q
  have e245 : T245.heap = T245.heap := rfl
  refine own_k T245 8 [.ref b244] (fun t_ k_ => st245.trans k_) ?_
  have E_b244 := E_b244.keep K245
  have Zn := Nat.le_trans Zn K245.1
  have Kp := Kp.trans K245 (allS (Or.inr b_b244) all0)
  exact own_retA X245 hx hlk hret rfl rfl (hb hby d10_8) (by rw [e245]; exact ⟨_, rfl, N245, own_ext_of_keep Kp, od245⟩) (by decide) (by decide)
theorem d7_0 : decode jdk_2648_method_2_code 0 = .ok (.getstatic 21, 3) := by decide +kernel
theorem d7_3 : decode jdk_2648_method_2_code 3 = .ok (.areturn, 1) := by decide +kernel
theorem ef_rmOE (mM : MethodId) (em : Addr) : entryFrame mM #[] 0 = mkF mM 0 #[] [] := by first | (simp [entryFrame, mkF, argsToLocals, Value.category]; done) | rfl
theorem rmOE (lL : Launch) (Z : State) (a0 : Array Value) (hw : own_tb a0 Z) (ws : List Jvm.Cond) (em : Addr) (h0 : Heap) (n0 : Nat) (S_em : Sta Z h0 "java/util/OptionalDouble" "EMPTY" "Ljava/util/OptionalDouble;" (.ref em)) :
    own_Ct lL Z yn7 jdk_2648_method_2_code 0 (some (.object "java/util/OptionalDouble")) ws (⟨0, 0, 0, 0⟩ : Room) #[] h0 (Qw (.ref em) h0 n0) := by
  refine own_body (plainFor_of_name pn_java_2futil_2fOptionalDouble) 0 0 rfl rfl (fun mM => ef_rmOE mM em) fun pP eE sS mM below meth cC s₁ hZ hx hby hml hown hnm hret hlk X0 e0 => ?_
  have N0 := Fr.nil n0
  obtain ⟨T246, X246, e246, st246⟩ := getS2 X0 hx hZ hown (host := "") (Or.inl (ow hw 57 rfl)) Via.refl e0 S_em (g := (mkF mM 0 #[] [])) rfl (hb hby d7_0)
  refine own_k T246 3 [.ref em] st246 ?_
  exact own_retA X246 hx hlk hret rfl rfl (hb hby d7_3) ⟨rfl, N0, e246⟩ (by decide) (by decide)
theorem d6_0 : decode prog_71_method_6_code 0 = .ok (.aload_n 0, 1) := by decide +kernel
theorem d6_1 : decode prog_71_method_6_code 1 = .ok (.getfield 13, 3) := by decide +kernel
theorem d6_4 : decode prog_71_method_6_code 4 = .ok (.ifCond .ne 9, 3) := by decide +kernel
theorem d6_7 : decode prog_71_method_6_code 7 = .ok (.invokestatic 53, 3) := by decide +kernel
theorem pd__28_29Ljava_2futil_2fOptionalDouble_3b : parseMethodDescriptor "()Ljava/util/OptionalDouble;" = some ⟨[], some (.object "java/util/OptionalDouble")⟩ := by decide +kernel
theorem d6_10 : decode prog_71_method_6_code 10 = .ok (.goto 10, 3) := by decide +kernel
theorem d6_20 : decode prog_71_method_6_code 20 = .ok (.areturn, 1) := by decide +kernel
theorem ef_rmV0 (mM : MethodId) (aa : Addr) (em : Addr) : entryFrame mM #[.ref aa] 1 = mkF mM 0 #[.val (.ref aa)] [] := by first | (simp [entryFrame, mkF, argsToLocals, Value.category]; done) | rfl
theorem rmV0 (lL : Launch) (Z : State) (a0 : Array Value) (hw : own_tb a0 Z) (ws : List Jvm.Cond) (aa : Addr) (em : Addr) (h0 : Heap) (n0 : Nat) (fc : Fld Z h0 aa "com/example/gleanwork/gleanwork/schedule/RecentAverage" "count" "I" (.int 0)) (S_em : Sta Z h0 "java/util/OptionalDouble" "EMPTY" "Ljava/util/OptionalDouble;" (.ref em)) :
    own_Ct lL Z yn8 prog_71_method_6_code 1 (some (.object "java/util/OptionalDouble")) ws (⟨1, 0, 0, 11⟩ : Room) #[.ref aa] h0 (Qw (.ref em) h0 n0) := by
  refine own_body (plainFor_of_name pn_com_2fexample_2fgleanwork_2fgleanwork_2fschedule_2fRecentAverage) 0 0 rfl rfl (fun mM => ef_rmV0 mM aa em) fun pP eE sS mM below meth cC s₁ hZ hx hby hml hown hnm hret hlk X0 e0 => ?_
  have N0 := Fr.nil n0
  refine o_aloadN 1 X0 hx (hb hby d6_0) rfl rfl rfl ?_
  obtain ⟨T247, X247, e247, st247⟩ := getF X0 hx hZ hown (host := "") (Or.inl (ow hw 46 rfl)) Via.refl e0 fc (g := (mkF mM 1 #[.val (.ref aa)] [.ref aa])) rfl rfl (hb hby d6_1)
  refine own_k T247 4 [.int 0] st247 ?_
  refine o_ifNo 7 X247 hx (hb hby d6_4) ((if0 _ _).trans (teq (by decide : ((0 : Int32) = (0 : Int32)))).2) rfl ?_
  obtain ⟨_, _, ⟨T248, L248, k248, n248⟩, -, X248, ⟨Lc248, hQ248, l248, y248, z248⟩, st248⟩ := Jvm.LawKit.callS X247 hx (y := yn7) hown (mvT hZ (ow hw 53 rfl)) (mvT hZ (ow hw 54 rfl)) (mvT hZ (ow hw 55 rfl)) (mvT hZ (ow hw 56 rfl)) (by decide) (backOf (W := 0) (rmOE lL Z a0 hw [] em h0 n0 S_em) hZ (ow hw 56 rfl) (ow hw 55 rfl) (by decide) (by decide)) (g := (mkF mM 7 #[.val (.ref aa)] [])) rfl (by rw [hml]; rfl) (argsL := []) (rest := []) (lenOf pd__28_29Ljava_2futil_2fOptionalDouble_3b rfl) rfl (by show 2 * 0 + _ ≤ _; exact Nat.le_of_eq rfl) (hb hby d6_7) (fun _ _ => ⟨rfl, e247, (by decide : 0 + 0 ≤ _), (by decide : 0 + 0 ≤ _)⟩)
  dsimp only [Pt.U, Pt.locs, Pt.cells, Pt.slots] at X248 l248 y248 z248 st248 hQ248
  have X248 := own_cs X248 0 0 y248 z248
  obtain ⟨rfl, N248q, e248⟩ := hQ248
  have N248 := own_N l248 N0 N248q
  refine own_k T248 10 [.ref em] st248 ?_
  refine o_goto 20 X248 hx (hb hby d6_10) (by decide) ?_
  exact own_retA X248 hx hlk hret rfl rfl (hb hby d6_20) ⟨rfl, N248, e248⟩ (by decide) (by decide)
theorem d6_13 : decode prog_71_method_6_code 13 = .ok (.aload_n 0, 1) := by decide +kernel
theorem d6_14 : decode prog_71_method_6_code 14 = .ok (.getfield 20, 3) := by decide +kernel
theorem d6_17 : decode prog_71_method_6_code 17 = .ok (.invokestatic 59, 3) := by decide +kernel
theorem pd__28D_29Ljava_2futil_2fOptionalDouble_3b : parseMethodDescriptor "(D)Ljava/util/OptionalDouble;" = some ⟨[.double], some (.object "java/util/OptionalDouble")⟩ := by decide +kernel
theorem ef_rmV (mM : MethodId) (aa : Addr) (y : Int32) (gg : UInt64) : entryFrame mM #[.ref aa] 1 = mkF mM 0 #[.val (.ref aa)] [] := by first | (simp [entryFrame, mkF, argsToLocals, Value.category]; done) | rfl
theorem rmV (lL : Launch) (Z : State) (a0 : Array Value) (hw : own_tb a0 Z) (ws : List Jvm.Cond) (aa : Addr) (y : Int32) (gg : UInt64) (h0 : Heap) (n0 : Nat) (Zn : n0 ≤ h0.size) (fc : Fld Z h0 aa "com/example/gleanwork/gleanwork/schedule/RecentAverage" "count" "I" (.int y)) (fg : Fld Z h0 aa "com/example/gleanwork/gleanwork/schedule/RecentAverage" "average" "D" (.double gg)) (hy : ¬ y = (0 : Int32)) :
    own_Ct lL Z yn8 prog_71_method_6_code 1 (some (.object "java/util/OptionalDouble")) ws (⟨3, 1, 2, 40⟩ : Room) #[.ref aa] h0 (QO Z gg h0 n0) := by
  refine own_body (plainFor_of_name pn_com_2fexample_2fgleanwork_2fgleanwork_2fschedule_2fRecentAverage) 1 2 rfl rfl (fun mM => ef_rmV mM aa y gg) fun pP eE sS mM below meth cC s₁ hZ hx hby hml hown hnm hret hlk X0 e0 => ?_
  have N0 := Fr.nil n0
  refine o_aloadN 1 X0 hx (hb hby d6_0) rfl rfl rfl ?_
  obtain ⟨T249, X249, e249, st249⟩ := getF X0 hx hZ hown (host := "") (Or.inl (ow hw 46 rfl)) Via.refl e0 fc (g := (mkF mM 1 #[.val (.ref aa)] [.ref aa])) rfl rfl (hb hby d6_1)
  refine own_k T249 4 [.int y] st249 ?_
  refine o_ifYes 13 X249 hx (hb hby d6_4) ((if0 _ _).trans (feq hy).2) (by decide) ?_
  refine o_aloadN 14 X249 hx (hb hby d6_13) rfl rfl rfl ?_
  obtain ⟨T250, X250, e250, st250⟩ := getF X249 hx hZ hown (host := "") (Or.inl (ow hw 72 rfl)) Via.refl e249 fg (g := (mkF mM 14 #[.val (.ref aa)] [.ref aa])) rfl rfl (hb hby d6_14)
  refine own_k T250 17 [.double gg] st250 ?_
  obtain ⟨_, _, ⟨T251, L251, k251, n251⟩, -, X251, ⟨Lc251, hQ251, l251, y251, z251⟩, st251⟩ := Jvm.LawKit.callS X250 hx (y := yn6) hown (mvT hZ (ow hw 76 rfl)) (mvT hZ (ow hw 77 rfl)) (mvT hZ (ow hw 55 rfl)) (mvT hZ (ow hw 78 rfl)) (by decide) (backOf (W := 0) (rmOf lL Z a0 hw [] gg h0 n0 Zn) hZ (ow hw 78 rfl) (ow hw 55 rfl) (by decide) (by decide)) (g := (mkF mM 17 #[.val (.ref aa)] [.double gg])) rfl (by rw [hml]; rfl) (argsL := [.double gg]) (rest := []) (lenOf pd__28D_29Ljava_2futil_2fOptionalDouble_3b rfl) rfl (by show 2 * 0 + _ ≤ _; exact Nat.le_of_eq rfl) (hb hby d6_17) (fun _ _ => ⟨rfl, e250, (by decide : 0 + 1 ≤ _), (by decide : 0 + 2 ≤ _)⟩)
  dsimp only [Pt.U, Pt.locs, Pt.cells, Pt.slots] at X251 l251 y251 z251 st251 hQ251
  have X251 := own_cs X251 1 2 y251 z251
  obtain ⟨p251, rfl, N251q, E251, od251⟩ := hQ251
  have N251 := own_N l251 N0 N251q
  have e251 : T251.heap = T251.heap := rfl
  refine own_k T251 20 [.ref p251] st251 ?_
  exact own_retA X251 hx hlk hret rfl rfl (hb hby d6_20) (by rw [e251]; exact ⟨_, rfl, N251, E251, od251⟩) (by decide) (by decide)
theorem d8_0 : decode jdk_2648_method_6_code 0 = .ok (.aload_n 0, 1) := by decide +kernel
theorem d8_1 : decode jdk_2648_method_6_code 1 = .ok (.getfield 7, 3) := by decide +kernel
theorem d8_4 : decode jdk_2648_method_6_code 4 = .ok (.ireturn, 1) := by decide +kernel
theorem ef_rmP0 (mM : MethodId) (a : Addr) : entryFrame mM #[.ref a] 1 = mkF mM 0 #[.val (.ref a)] [] := by first | (simp [entryFrame, mkF, argsToLocals, Value.category]; done) | rfl
theorem rmP0 (lL : Launch) (Z : State) (a0 : Array Value) (hw : own_tb a0 Z) (ws : List Jvm.Cond) (a : Addr) (h0 : Heap) (n0 : Nat) (fp : Fld Z h0 a "java/util/OptionalDouble" "isPresent" "Z" (.int 0)) :
    own_Ct lL Z yn9 jdk_2648_method_6_code 1 (some .boolean) ws (⟨0, 0, 0, 0⟩ : Room) #[.ref a] h0 (Qw (.int 0) h0 n0) := by
  refine own_body (plainFor_of_name pn_java_2futil_2fOptionalDouble) 0 0 rfl rfl (fun mM => ef_rmP0 mM a) fun pP eE sS mM below meth cC s₁ hZ hx hby hml hown hnm hret hlk X0 e0 => ?_
  have N0 := Fr.nil n0
  refine o_aloadN 1 X0 hx (hb hby d8_0) rfl rfl rfl ?_
  obtain ⟨T252, X252, e252, st252⟩ := getF X0 hx hZ hown (host := "") (Or.inl (ow hw 63 rfl)) Via.refl e0 fp (g := (mkF mM 1 #[.val (.ref a)] [.ref a])) rfl rfl (hb hby d8_1)
  refine own_k T252 4 [.int 0] st252 ?_
  exact own_retN X252 hx hlk (t := .boolean) hret (by simp) (hb hby d8_4) ⟨rfl, N0, e252⟩ (by decide) (by decide)
theorem ef_rmP1 (mM : MethodId) (a : Addr) : entryFrame mM #[.ref a] 1 = mkF mM 0 #[.val (.ref a)] [] := by first | (simp [entryFrame, mkF, argsToLocals, Value.category]; done) | rfl
theorem rmP1 (lL : Launch) (Z : State) (a0 : Array Value) (hw : own_tb a0 Z) (ws : List Jvm.Cond) (a : Addr) (h0 : Heap) (n0 : Nat) (fp : Fld Z h0 a "java/util/OptionalDouble" "isPresent" "Z" (.int 1)) :
    own_Ct lL Z yn9 jdk_2648_method_6_code 1 (some .boolean) ws (⟨0, 0, 0, 0⟩ : Room) #[.ref a] h0 (Qw (.int 1) h0 n0) := by
  refine own_body (plainFor_of_name pn_java_2futil_2fOptionalDouble) 0 0 rfl rfl (fun mM => ef_rmP1 mM a) fun pP eE sS mM below meth cC s₁ hZ hx hby hml hown hnm hret hlk X0 e0 => ?_
  have N0 := Fr.nil n0
  refine o_aloadN 1 X0 hx (hb hby d8_0) rfl rfl rfl ?_
  obtain ⟨T253, X253, e253, st253⟩ := getF X0 hx hZ hown (host := "") (Or.inl (ow hw 63 rfl)) Via.refl e0 fp (g := (mkF mM 1 #[.val (.ref a)] [.ref a])) rfl rfl (hb hby d8_1)
  refine own_k T253 4 [.int 1] st253 ?_
  exact own_retN X253 hx hlk (t := .boolean) hret (by simp) (hb hby d8_4) ⟨rfl, N0, e253⟩ (by decide) (by decide)
theorem d13_0 : decode jdk_2648_method_5_code 0 = .ok (.aload_n 0, 1) := by decide +kernel
theorem d13_1 : decode jdk_2648_method_5_code 1 = .ok (.getfield 7, 3) := by decide +kernel
theorem d13_4 : decode jdk_2648_method_5_code 4 = .ok (.ifCond .ne 13, 3) := by decide +kernel
theorem d13_17 : decode jdk_2648_method_5_code 17 = .ok (.aload_n 0, 1) := by decide +kernel
theorem d13_18 : decode jdk_2648_method_5_code 18 = .ok (.getfield 17, 3) := by decide +kernel
theorem d13_21 : decode jdk_2648_method_5_code 21 = .ok (.dreturn, 1) := by decide +kernel
theorem ef_rmG (mM : MethodId) (a : Addr) (gg : UInt64) : entryFrame mM #[.ref a] 1 = mkF mM 0 #[.val (.ref a)] [] := by first | (simp [entryFrame, mkF, argsToLocals, Value.category]; done) | rfl
theorem rmG (lL : Launch) (Z : State) (a0 : Array Value) (hw : own_tb a0 Z) (ws : List Jvm.Cond) (a : Addr) (gg : UInt64) (h0 : Heap) (n0 : Nat) (od : Od Z h0 a gg) :
    own_Ct lL Z yn10 jdk_2648_method_5_code 1 (some .double) ws (⟨0, 0, 0, 0⟩ : Room) #[.ref a] h0 (Qw (.double gg) h0 n0) := by
  refine own_body (plainFor_of_name pn_java_2futil_2fOptionalDouble) 0 0 rfl rfl (fun mM => ef_rmG mM a gg) fun pP eE sS mM below meth cC s₁ hZ hx hby hml hown hnm hret hlk X0 e0 => ?_
  have N0 := Fr.nil n0
  refine o_aloadN 1 X0 hx (hb hby d13_0) rfl rfl rfl ?_
  obtain ⟨T254, X254, e254, st254⟩ := getF X0 hx hZ hown (host := "") (Or.inl (ow hw 63 rfl)) Via.refl e0 od.2.1 (g := (mkF mM 1 #[.val (.ref a)] [.ref a])) rfl rfl (hb hby d13_1)
  refine own_k T254 4 [.int 1] st254 ?_
  refine o_ifYes 17 X254 hx (hb hby d13_4) ((if0 _ _).trans (feq (by decide : ¬ ((1 : Int32) = (0 : Int32)))).2) (by decide) ?_
  refine o_aloadN 18 X254 hx (hb hby d13_17) rfl rfl rfl ?_
  obtain ⟨T255, X255, e255, st255⟩ := getF X254 hx hZ hown (host := "") (Or.inl (ow hw 86 rfl)) Via.refl e254 od.2.2 (g := (mkF mM 18 #[.val (.ref a)] [.ref a])) rfl rfl (hb hby d13_18)
  refine own_k T255 21 [.double gg] st255 ?_
  exact own_retD X255 hx hlk hret (hb hby d13_21) ⟨rfl, N0, e255⟩ (by decide) (by decide)
theorem d12_0 : decode method_3_code 0 = .ok (.iload_n 0, 1) := by decide +kernel
theorem d12_1 : decode method_3_code 1 = .ok (.iload_n 1, 1) := by decide +kernel
theorem d12_2 : decode method_3_code 2 = .ok (.if_icmp .le 5, 3) := by decide +kernel
theorem d12_7 : decode method_3_code 7 = .ok (.aload 4, 2) := by decide +kernel
theorem d12_9 : decode method_3_code 9 = .ok (.iload_n 1, 1) := by decide +kernel
theorem d12_10 : decode method_3_code 10 = .ok (.iload_n 0, 1) := by decide +kernel
theorem d12_11 : decode method_3_code 11 = .ok (.isub, 1) := by decide +kernel
theorem d12_12 : decode method_3_code 12 = .ok (.laload, 1) := by decide +kernel
theorem d12_13 : decode method_3_code 13 = .ok (.aload 5, 2) := by decide +kernel
theorem d12_15 : decode method_3_code 15 = .ok (.iload_n 0, 1) := by decide +kernel
theorem d12_16 : decode method_3_code 16 = .ok (.iconst 2, 1) := by decide +kernel
theorem d12_17 : decode method_3_code 17 = .ok (.isub, 1) := by decide +kernel
theorem d12_18 : decode method_3_code 18 = .ok (.laload, 1) := by decide +kernel
theorem d12_19 : decode method_3_code 19 = .ok (.lmul, 1) := by decide +kernel
theorem d12_20 : decode method_3_code 20 = .ok (.aload_n 3, 1) := by decide +kernel
theorem d12_21 : decode method_3_code 21 = .ok (.iload_n 2, 1) := by decide +kernel
theorem d12_22 : decode method_3_code 22 = .ok (.iload_n 0, 1) := by decide +kernel
theorem d12_23 : decode method_3_code 23 = .ok (.iadd, 1) := by decide +kernel
theorem d12_24 : decode method_3_code 24 = .ok (.iconst 1, 1) := by decide +kernel
theorem d12_25 : decode method_3_code 25 = .ok (.isub, 1) := by decide +kernel
theorem d12_26 : decode method_3_code 26 = .ok (.iaload, 1) := by decide +kernel
theorem d12_27 : decode method_3_code 27 = .ok (.i2l, 1) := by decide +kernel
theorem d12_28 : decode method_3_code 28 = .ok (.lmul, 1) := by decide +kernel
theorem d12_29 : decode method_3_code 29 = .ok (.lreturn, 1) := by decide +kernel
theorem ef_rmT (mM : MethodId) (j' : Int32) (m' : Int32) (s' : Int32) (av : Addr) (a3 : Addr) (a4 : Addr) (cl3 : Cell) (cl4 : Cell) (clv : Cell) (c3 : Int64) (c4 : Int64) (wv : Int32) : entryFrame mM #[.int j', .int m', .int s', .ref av, .ref a3, .ref a4] 6 = mkF mM 0 #[.val (.int j'), .val (.int m'), .val (.int s'), .val (.ref av), .val (.ref a3), .val (.ref a4)] [] := by first | (simp [entryFrame, mkF, argsToLocals, Value.category]; done) | rfl
theorem rmT (lL : Launch) (Z : State) (a0 : Array Value) (hw : own_tb a0 Z) (ws : List Jvm.Cond) (j' : Int32) (m' : Int32) (s' : Int32) (av : Addr) (a3 : Addr) (a4 : Addr) (cl3 : Cell) (cl4 : Cell) (clv : Cell) (c3 : Int64) (c4 : Int64) (wv : Int32) (h0 : Heap) (n0 : Nat) (hl : ¬ m' < j') (Ar3 : Arr Z h0 a3 cl3 .long) (hi3 : ¬ ((m' - j') < 0 ∨ cl3.slots.size ≤ ((m' - j')).toNatClampNeg)) (ha3 : cl3.slots[((m' - j')).toNatClampNeg]? = some (.long c3)) (Ar4 : Arr Z h0 a4 cl4 .long) (hi4 : ¬ ((j' - (2 : Int32)) < 0 ∨ cl4.slots.size ≤ ((j' - (2 : Int32))).toNatClampNeg)) (ha4 : cl4.slots[((j' - (2 : Int32))).toNatClampNeg]? = some (.long c4)) (Arv : Arr Z h0 av clv .int) (hiv : ¬ (((s' + j') - (1 : Int32)) < 0 ∨ clv.slots.size ≤ (((s' + j') - (1 : Int32))).toNatClampNeg)) (hav : clv.slots[(((s' + j') - (1 : Int32))).toNatClampNeg]? = some (.int wv)) :
    own_Ct lL Z yn11 method_3_code 6 (some .long) ws (⟨0, 0, 0, 0⟩ : Room) #[.int j', .int m', .int s', .ref av, .ref a3, .ref a4] h0 (Qw (.long ((c3 * c4) * (wv).toInt64)) h0 n0) := by
  refine own_body (plainFor_of_name pn_com_2fexample_2fgleanwork_2fgleanwork_2fschedule_2fRecentAverageAddPinLaw) 0 0 rfl rfl (fun mM => ef_rmT mM j' m' s' av a3 a4 cl3 cl4 clv c3 c4 wv) fun pP eE sS mM below meth cC s₁ hZ hx hby hml hown hnm hret hlk X0 e0 => ?_
  have N0 := Fr.nil n0
  refine o_iloadN 1 X0 hx (hb hby d12_0) rfl rfl ?_
  refine o_iloadN 2 X0 hx (hb hby d12_1) rfl rfl ?_
  refine o_icmpYes 7 X0 hx (hb hby d12_2) (flt hl).2.2.2 (by decide) ?_
  refine o_aload 9 X0 hx (hb hby d12_7) rfl rfl rfl ?_
  refine o_iloadN 10 X0 hx (hb hby d12_9) rfl rfl ?_
  refine o_iloadN 11 X0 hx (hb hby d12_10) rfl rfl ?_
  refine own_j 12 [(.int (m' - j')), .ref a3] (fun t_ k_ => XS.isub X0.here hx rfl (hb hby d12_11) rfl k_) ?_
  refine own_j 13 [.long c3] (fun t_ k_ => X0.laload hx (j := (m' - j')) (v := (.long c3)) (by rw [e0]; exact Ar3.1) (State.isArrayOf_alike hZ.alike Ar3.2.1) Ar3.2.2 hi3 ha3 (g := (mkF mM 12 #[.val (.int j'), .val (.int m'), .val (.int s'), .val (.ref av), .val (.ref a3), .val (.ref a4)] [(.int (m' - j')), .ref a3])) rfl rfl (hb hby d12_12) t_ k_) ?_
  refine o_aload 15 X0 hx (hb hby d12_13) rfl rfl rfl ?_
  refine o_iloadN 16 X0 hx (hb hby d12_15) rfl rfl ?_
  refine o_iconst 17 2 X0 hx (hb hby d12_16) rfl rfl ?_
  refine own_j 18 [(.int (j' - (2 : Int32))), .ref a4, .long c3] (fun t_ k_ => XS.isub X0.here hx rfl (hb hby d12_17) rfl k_) ?_
  refine own_j 19 [.long c4, .long c3] (fun t_ k_ => X0.laload hx (j := (j' - (2 : Int32))) (v := (.long c4)) (by rw [e0]; exact Ar4.1) (State.isArrayOf_alike hZ.alike Ar4.2.1) Ar4.2.2 hi4 ha4 (g := (mkF mM 18 #[.val (.int j'), .val (.int m'), .val (.int s'), .val (.ref av), .val (.ref a3), .val (.ref a4)] [(.int (j' - (2 : Int32))), .ref a4, .long c3])) rfl rfl (hb hby d12_18) t_ k_) ?_
  refine own_j 20 [(.long (c3 * c4))] (fun t_ k_ => XS.lmul X0.here hx rfl (hb hby d12_19) rfl k_) ?_
  refine o_aloadN 21 X0 hx (hb hby d12_20) rfl rfl rfl ?_
  refine o_iloadN 22 X0 hx (hb hby d12_21) rfl rfl ?_
  refine o_iloadN 23 X0 hx (hb hby d12_22) rfl rfl ?_
  refine own_j 24 [(.int (s' + j')), .ref av, (.long (c3 * c4))] (fun t_ k_ => XS.iadd X0.here hx rfl (hb hby d12_23) rfl k_) ?_
  refine o_iconst 25 1 X0 hx (hb hby d12_24) rfl rfl ?_
  refine own_j 26 [(.int ((s' + j') - (1 : Int32))), .ref av, (.long (c3 * c4))] (fun t_ k_ => XS.isub X0.here hx rfl (hb hby d12_25) rfl k_) ?_
  refine own_j 27 [.int wv, (.long (c3 * c4))] (fun t_ k_ => X0.iaload hx (j := ((s' + j') - (1 : Int32))) (v := (.int wv)) (by rw [e0]; exact Arv.1) (State.isArrayOf_alike hZ.alike Arv.2.1) Arv.2.2 hiv hav (g := (mkF mM 26 #[.val (.int j'), .val (.int m'), .val (.int s'), .val (.ref av), .val (.ref a3), .val (.ref a4)] [(.int ((s' + j') - (1 : Int32))), .ref av, (.long (c3 * c4))])) rfl rfl (hb hby d12_26) t_ k_) ?_
  refine own_j 28 [(.long ((wv).toInt64)), (.long (c3 * c4))] (fun t_ k_ => XS.i2l X0.here hx rfl (hb hby d12_27) rfl k_) ?_
  refine own_j 29 [(.long ((c3 * c4) * ((wv).toInt64)))] (fun t_ k_ => XS.lmul X0.here hx rfl (hb hby d12_28) rfl k_) ?_
  exact own_retJ X0 hx hlk hret (hb hby d12_29) ⟨rfl, N0, e0⟩ (by decide) (by decide)
theorem d12_5 : decode method_3_code 5 = .ok (.lconst 0, 1) := by decide +kernel
theorem d12_6 : decode method_3_code 6 = .ok (.lreturn, 1) := by decide +kernel
theorem ef_rmT0 (mM : MethodId) (j' : Int32) (m' : Int32) (s' : Int32) (av : Addr) (a3 : Addr) (a4 : Addr) : entryFrame mM #[.int j', .int m', .int s', .ref av, .ref a3, .ref a4] 6 = mkF mM 0 #[.val (.int j'), .val (.int m'), .val (.int s'), .val (.ref av), .val (.ref a3), .val (.ref a4)] [] := by first | (simp [entryFrame, mkF, argsToLocals, Value.category]; done) | rfl
theorem rmT0 (lL : Launch) (Z : State) (a0 : Array Value) (hw : own_tb a0 Z) (ws : List Jvm.Cond) (j' : Int32) (m' : Int32) (s' : Int32) (av : Addr) (a3 : Addr) (a4 : Addr) (h0 : Heap) (n0 : Nat) (hl : m' < j') :
    own_Ct lL Z yn11 method_3_code 6 (some .long) ws (⟨0, 0, 0, 0⟩ : Room) #[.int j', .int m', .int s', .ref av, .ref a3, .ref a4] h0 (Qw (.long 0) h0 n0) := by
  refine own_body (plainFor_of_name pn_com_2fexample_2fgleanwork_2fgleanwork_2fschedule_2fRecentAverageAddPinLaw) 0 0 rfl rfl (fun mM => ef_rmT0 mM j' m' s' av a3 a4) fun pP eE sS mM below meth cC s₁ hZ hx hby hml hown hnm hret hlk X0 e0 => ?_
  have N0 := Fr.nil n0
  refine o_iloadN 1 X0 hx (hb hby d12_0) rfl rfl ?_
  refine o_iloadN 2 X0 hx (hb hby d12_1) rfl rfl ?_
  refine o_icmpNo 5 X0 hx (hb hby d12_2) (tlt hl).2.2.2 rfl ?_
  refine own_j 6 [.long 0] (fun t_ k_ => XS.lconst X0.here hx rfl (hb hby d12_5) k_) ?_
  exact own_retJ X0 hx hlk hret (hb hby d12_6) ⟨rfl, N0, e0⟩ (by decide) (by decide)
theorem SA1 (hw : own_tb a0 Z) (X0 : Stand pP lL eE room_1 sS mM args below meth cC T0 locs 5 46) (hx : pP.tables.exec = Jvm.exec) (hZ : Z.Warmed39 sS.vm) (hby : cC.code = code) (hml : cC.maxLocals = 17) (hown : sS.vm.findClass "com/example/gleanwork/gleanwork/schedule/RecentAverageAddPinLaw" = some mM.cls) (hlk : meth.locks = false) (hret : meth.sig.returnType = ret) (e0 : T0.heap = h0) (N0 : Fr n0 locs) (u0 : Int32) (u1 : Int64) (u2 : Int64) (u3 : Int64) (nn : Int32) (w0 : Int32) (w1 : Int32) (w2 : Int32) (w3 : Int32) (w4 : Int32) (w5 : Int32) (w6 : Int32) (w7 : Int32) (w8 : Int32) (w9 : Int32) (w10 : Int32) (w11 : Int32) (vv : Addr) (kv : ClassId) (t3 : Addr) (k3 : ClassId) (t4 : Addr) (k4 : ClassId) (aa : Addr) (dd : Addr) (kd : ClassId) (O : Old Z n0 h0) (Zn : n0 ≤ h0.size) (g_aa : n0 ≤ aa) (g_dd : n0 ≤ dd) (A_vv : Arv Z h0 vv kv .int 12 [.int w0, .int w1, .int w2, .int w3, .int w4, .int w5, .int w6, .int w7, .int w8, .int w9, .int w10, .int w11] (.int 0)) (A_t3 : Arv Z h0 t3 k3 .long 10 [.long 1, .long 3, .long 9, .long 27, .long 81, .long 243, .long 729, .long 2187, .long 6561, .long 19683] (.long 0)) (A_t4 : Arv Z h0 t4 k4 .long 10 [.long 1, .long 4, .long 16, .long 64, .long 256, .long 1024, .long 4096, .long 16384, .long 65536, .long 262144] (.long 0)) (nq0 : vv ≠ aa) (nq1 : vv ≠ dd) (nq2 : t3 ≠ aa) (nq3 : t3 ≠ dd) (nq4 : t4 ≠ aa) (nq5 : t4 ≠ dd) (nq6 : aa ≠ dd) (ra : Ra Z h0 aa dd kd 0 0 0 [.double 0, .double 0, .double 0, .double 0, .double 0, .double 0, .double 0, .double 0, .double 0, .double 0]) (bl0 : -32768 ≤ w0.toInt) (bl1 : -32768 ≤ w1.toInt) (bl2 : -32768 ≤ w2.toInt) (bl3 : -32768 ≤ w3.toInt) (bl4 : -32768 ≤ w4.toInt) (bl5 : -32768 ≤ w5.toInt) (bl6 : -32768 ≤ w6.toInt) (bl7 : -32768 ≤ w7.toInt) (bl8 : -32768 ≤ w8.toInt) (bl9 : -32768 ≤ w9.toInt) (bl10 : -32768 ≤ w10.toInt) (bl11 : -32768 ≤ w11.toInt) (bu0 : w0.toInt ≤ 32768) (bu1 : w1.toInt ≤ 32768) (bu2 : w2.toInt ≤ 32768) (bu3 : w3.toInt ≤ 32768) (bu4 : w4.toInt ≤ 32768) (bu5 : w5.toInt ≤ 32768) (bu6 : w6.toInt ≤ 32768) (bu7 : w7.toInt ≤ 32768) (bu8 : w8.toInt ≤ 32768) (bu9 : w9.toInt ≤ 32768) (bu10 : w10.toInt ≤ 32768) (bu11 : w11.toInt ≤ 32768) (hn : ¬ nn < (1 : Int32)) (kont : ∀ (T' : State) (L' : List Loc) (h' : Heap), Stand pP lL eE room_1 sS mM args below meth cC T' L' 5 46 → T'.heap = h' → Fr n0 L' → Old Z n0 h' → n0 ≤ h'.size → Arv Z h' vv kv .int 12 [.int w0, .int w1, .int w2, .int w3, .int w4, .int w5, .int w6, .int w7, .int w8, .int w9, .int w10, .int w11] (.int 0) → Arv Z h' t3 k3 .long 10 [.long 1, .long 3, .long 9, .long 27, .long 81, .long 243, .long 729, .long 2187, .long 6561, .long 19683] (.long 0) → Arv Z h' t4 k4 .long 10 [.long 1, .long 4, .long 16, .long 64, .long 256, .long 1024, .long 4096, .long 16384, .long 65536, .long 262144] (.long 0) → Ra Z h' aa dd kd 1 0 (FP.i2d w0) [.double (FP.i2d w0), .double 0, .double 0, .double 0, .double 0, .double 0, .double 0, .double 0, .double 0, .double 0] → own_Go pP eE below sS (QLaw n0) 24 192 (T'.setTop (mkF mM 294 #[.val (.int u0), .val (.long u1), .second, .val (.long u2), .second, .val (.long u3), .second, .val (.int nn), .val (.ref vv), .val (.ref t3), .val (.ref t4), .val (.ref aa), .unset, .unset, .unset, .unset, .unset] []))) :
    own_Go pP eE below sS (QLaw n0) 24 192 (T0.setTop (mkF mM 278 #[.val (.int u0), .val (.long u1), .second, .val (.long u2), .second, .val (.long u3), .second, .val (.int nn), .val (.ref vv), .val (.ref t3), .val (.ref t4), .val (.ref aa), .unset, .unset, .unset, .unset, .unset] [])) := by
  refine o_iload 280 X0 hx (hb hby at_278) rfl rfl ?_
  refine o_iconst 281 1 X0 hx (hb hby at_280) rfl rfl ?_
  refine o_icmpNo 284 X0 hx (hb hby at_281) (flt hn).1 rfl ?_
  refine o_aload 286 X0 hx (hb hby at_284) rfl rfl rfl ?_
  refine o_aload 288 X0 hx (hb hby at_286) rfl rfl rfl ?_
  refine o_iconst 289 0 X0 hx (hb hby at_288) rfl rfl ?_
  obtain ⟨cl256, Ar256, q256, S256, Nn256, H256, G256⟩ := id A_vv
  have hin256 : ¬ ((0 : Int32) < 0 ∨ cl256.slots.size ≤ ((0 : Int32)).toNatClampNeg) := inb_of S256 ⟨by decide, by decide⟩
  refine own_j 290 [.int w0, .ref aa] (fun t_ k_ => X0.iaload hx (j := (0 : Int32)) (v := (.int w0)) (by rw [e0]; exact Ar256.1) (State.isArrayOf_alike hZ.alike Ar256.2.1) Ar256.2.2 hin256 (H256.at hin256 rfl) (g := (mkF mM 289 #[.val (.int u0), .val (.long u1), .second, .val (.long u2), .second, .val (.long u3), .second, .val (.int nn), .val (.ref vv), .val (.ref t3), .val (.ref t4), .val (.ref aa), .unset, .unset, .unset, .unset, .unset] [.int 0, .ref vv, .ref aa])) rfl rfl (hb hby at_289) t_ k_) ?_
  refine own_j 291 [(.double (FP.i2d w0)), .ref aa] (fun t_ k_ => XS.i2dS X0.here hx rfl (hb hby at_290) rfl rfl k_) ?_
  obtain ⟨cq257, kq257, q257a, q257b, q257c⟩ := isOf hZ e0 ra.1
  obtain ⟨_, _, ⟨T257, L257, k257, n257⟩, -, X257, ⟨Lc257, hQ257, l257, y257, z257⟩, st257⟩ := X0.virtualBack hx (y := yn2) (z := yn2) hown (mvT hZ (ow hw 65 rfl)) (mvT hZ (ow hw 66 rfl)) (notFace_of_selects (args := #[]) (mvT hZ (ow hw 68 rfl))) (mvT hZ (ow hw 68 rfl)) (mvT hZ (ow hw 67 rfl)) (by decide) (backOf (W := 0) (rmA1 lL Z a0 hw [] aa dd kd 0 w0 h0 n0 g_aa g_dd nq6 ra bl0 bu0) hZ (ow hw 69 rfl) (ow hw 27 rfl) (by decide) (by decide)) q257a q257c (g := (mkF mM 291 #[.val (.int u0), .val (.long u1), .second, .val (.long u2), .second, .val (.long u3), .second, .val (.int nn), .val (.ref vv), .val (.ref t3), .val (.ref t4), .val (.ref aa), .unset, .unset, .unset, .unset, .unset] [(.double (FP.i2d w0)), .ref aa])) rfl (by rw [hml]; rfl) (Steps.refl _) (argsL := [(.double (FP.i2d w0))]) (rest := []) (lenOf pd__28D_29V rfl) rfl (by show 2 * 0 + _ ≤ _; exact Nat.le_of_eq rfl) (hb hby at_291) (fun _ _ => ⟨rfl, e0, (by decide : 5 + 0 ≤ _), (by decide : 46 + 0 ≤ _)⟩)
  dsimp only [Pt.U, Pt.locs, Pt.cells, Pt.slots] at X257 l257 y257 z257 st257 hQ257
  have X257 := own_cs X257 5 46 y257 z257
  obtain ⟨rfl, N257q, K257, ra⟩ := hQ257
  have N257 := own_N l257 N0 N257q
  have e257 : T257.heap = T257.heap := rfl
  refine own_k T257 294 [] (fun t_ k_ => st257.trans k_) ?_
  have A_vv := A_vv.keep K257 (ninS nq0 (ninS nq1 nin0))
  have A_t3 := A_t3.keep K257 (ninS nq2 (ninS nq3 nin0))
  have A_t4 := A_t4.keep K257 (ninS nq4 (ninS nq5 nin0))
  have O := O.keep K257 (allS g_aa (allS g_dd all0))
  have Zn := Nat.le_trans Zn K257.1
  exact kont T257 _ T257.heap X257 e257 N257 O Zn A_vv A_t3 A_t4 ra
theorem SA2 (hw : own_tb a0 Z) (X0 : Stand pP lL eE room_1 sS mM args below meth cC T0 locs 5 46) (hx : pP.tables.exec = Jvm.exec) (hZ : Z.Warmed39 sS.vm) (hby : cC.code = code) (hml : cC.maxLocals = 17) (hown : sS.vm.findClass "com/example/gleanwork/gleanwork/schedule/RecentAverageAddPinLaw" = some mM.cls) (hlk : meth.locks = false) (hret : meth.sig.returnType = ret) (e0 : T0.heap = h0) (N0 : Fr n0 locs) (u0 : Int32) (u1 : Int64) (u2 : Int64) (u3 : Int64) (nn : Int32) (w0 : Int32) (w1 : Int32) (w2 : Int32) (w3 : Int32) (w4 : Int32) (w5 : Int32) (w6 : Int32) (w7 : Int32) (w8 : Int32) (w9 : Int32) (w10 : Int32) (w11 : Int32) (vv : Addr) (kv : ClassId) (t3 : Addr) (k3 : ClassId) (t4 : Addr) (k4 : ClassId) (aa : Addr) (dd : Addr) (kd : ClassId) (O : Old Z n0 h0) (Zn : n0 ≤ h0.size) (g_aa : n0 ≤ aa) (g_dd : n0 ≤ dd) (A_vv : Arv Z h0 vv kv .int 12 [.int w0, .int w1, .int w2, .int w3, .int w4, .int w5, .int w6, .int w7, .int w8, .int w9, .int w10, .int w11] (.int 0)) (A_t3 : Arv Z h0 t3 k3 .long 10 [.long 1, .long 3, .long 9, .long 27, .long 81, .long 243, .long 729, .long 2187, .long 6561, .long 19683] (.long 0)) (A_t4 : Arv Z h0 t4 k4 .long 10 [.long 1, .long 4, .long 16, .long 64, .long 256, .long 1024, .long 4096, .long 16384, .long 65536, .long 262144] (.long 0)) (nq0 : vv ≠ aa) (nq1 : vv ≠ dd) (nq2 : t3 ≠ aa) (nq3 : t3 ≠ dd) (nq4 : t4 ≠ aa) (nq5 : t4 ≠ dd) (nq6 : aa ≠ dd) (ra : Ra Z h0 aa dd kd 1 0 (FP.i2d w0) [.double (FP.i2d w0), .double 0, .double 0, .double 0, .double 0, .double 0, .double 0, .double 0, .double 0, .double 0]) (bl0 : -32768 ≤ w0.toInt) (bl1 : -32768 ≤ w1.toInt) (bl2 : -32768 ≤ w2.toInt) (bl3 : -32768 ≤ w3.toInt) (bl4 : -32768 ≤ w4.toInt) (bl5 : -32768 ≤ w5.toInt) (bl6 : -32768 ≤ w6.toInt) (bl7 : -32768 ≤ w7.toInt) (bl8 : -32768 ≤ w8.toInt) (bl9 : -32768 ≤ w9.toInt) (bl10 : -32768 ≤ w10.toInt) (bl11 : -32768 ≤ w11.toInt) (bu0 : w0.toInt ≤ 32768) (bu1 : w1.toInt ≤ 32768) (bu2 : w2.toInt ≤ 32768) (bu3 : w3.toInt ≤ 32768) (bu4 : w4.toInt ≤ 32768) (bu5 : w5.toInt ≤ 32768) (bu6 : w6.toInt ≤ 32768) (bu7 : w7.toInt ≤ 32768) (bu8 : w8.toInt ≤ 32768) (bu9 : w9.toInt ≤ 32768) (bu10 : w10.toInt ≤ 32768) (bu11 : w11.toInt ≤ 32768) (hn : ¬ nn < (2 : Int32)) (kont : ∀ (T' : State) (L' : List Loc) (h' : Heap), Stand pP lL eE room_1 sS mM args below meth cC T' L' 5 46 → T'.heap = h' → Fr n0 L' → Old Z n0 h' → n0 ≤ h'.size → Arv Z h' vv kv .int 12 [.int w0, .int w1, .int w2, .int w3, .int w4, .int w5, .int w6, .int w7, .int w8, .int w9, .int w10, .int w11] (.int 0) → Arv Z h' t3 k3 .long 10 [.long 1, .long 3, .long 9, .long 27, .long 81, .long 243, .long 729, .long 2187, .long 6561, .long 19683] (.long 0) → Arv Z h' t4 k4 .long 10 [.long 1, .long 4, .long 16, .long 64, .long 256, .long 1024, .long 4096, .long 16384, .long 65536, .long 262144] (.long 0) → Ra Z h' aa dd kd 2 0 (stp (FP.i2d w1) (FP.i2d w0)) [.double (FP.i2d w0), .double (FP.i2d w1), .double 0, .double 0, .double 0, .double 0, .double 0, .double 0, .double 0, .double 0] → own_Go pP eE below sS (QLaw n0) 24 192 (T'.setTop (mkF mM 310 #[.val (.int u0), .val (.long u1), .second, .val (.long u2), .second, .val (.long u3), .second, .val (.int nn), .val (.ref vv), .val (.ref t3), .val (.ref t4), .val (.ref aa), .unset, .unset, .unset, .unset, .unset] []))) :
    own_Go pP eE below sS (QLaw n0) 24 192 (T0.setTop (mkF mM 294 #[.val (.int u0), .val (.long u1), .second, .val (.long u2), .second, .val (.long u3), .second, .val (.int nn), .val (.ref vv), .val (.ref t3), .val (.ref t4), .val (.ref aa), .unset, .unset, .unset, .unset, .unset] [])) := by
  refine o_iload 296 X0 hx (hb hby at_294) rfl rfl ?_
  refine o_iconst 297 2 X0 hx (hb hby at_296) rfl rfl ?_
  refine o_icmpNo 300 X0 hx (hb hby at_297) (flt hn).1 rfl ?_
  refine o_aload 302 X0 hx (hb hby at_300) rfl rfl rfl ?_
  refine o_aload 304 X0 hx (hb hby at_302) rfl rfl rfl ?_
  refine o_iconst 305 1 X0 hx (hb hby at_304) rfl rfl ?_
  obtain ⟨cl258, Ar258, q258, S258, Nn258, H258, G258⟩ := id A_vv
  have hin258 : ¬ ((1 : Int32) < 0 ∨ cl258.slots.size ≤ ((1 : Int32)).toNatClampNeg) := inb_of S258 ⟨by decide, by decide⟩
  refine own_j 306 [.int w1, .ref aa] (fun t_ k_ => X0.iaload hx (j := (1 : Int32)) (v := (.int w1)) (by rw [e0]; exact Ar258.1) (State.isArrayOf_alike hZ.alike Ar258.2.1) Ar258.2.2 hin258 (H258.at hin258 rfl) (g := (mkF mM 305 #[.val (.int u0), .val (.long u1), .second, .val (.long u2), .second, .val (.long u3), .second, .val (.int nn), .val (.ref vv), .val (.ref t3), .val (.ref t4), .val (.ref aa), .unset, .unset, .unset, .unset, .unset] [.int 1, .ref vv, .ref aa])) rfl rfl (hb hby at_305) t_ k_) ?_
  refine own_j 307 [(.double (FP.i2d w1)), .ref aa] (fun t_ k_ => XS.i2dS X0.here hx rfl (hb hby at_306) rfl rfl k_) ?_
  obtain ⟨cq259, kq259, q259a, q259b, q259c⟩ := isOf hZ e0 ra.1
  obtain ⟨_, _, ⟨T259, L259, k259, n259⟩, -, X259, ⟨Lc259, hQ259, l259, y259, z259⟩, st259⟩ := X0.virtualBack hx (y := yn2) (z := yn2) hown (mvT hZ (ow hw 65 rfl)) (mvT hZ (ow hw 66 rfl)) (notFace_of_selects (args := #[]) (mvT hZ (ow hw 68 rfl))) (mvT hZ (ow hw 68 rfl)) (mvT hZ (ow hw 67 rfl)) (by decide) (backOf (W := 0) (rmA2 lL Z a0 hw [] aa dd kd (FP.i2d w0) w0 w1 h0 n0 g_aa g_dd nq6 ra bl0 bu0 bl1 bu1) hZ (ow hw 69 rfl) (ow hw 27 rfl) (by decide) (by decide)) q259a q259c (g := (mkF mM 307 #[.val (.int u0), .val (.long u1), .second, .val (.long u2), .second, .val (.long u3), .second, .val (.int nn), .val (.ref vv), .val (.ref t3), .val (.ref t4), .val (.ref aa), .unset, .unset, .unset, .unset, .unset] [(.double (FP.i2d w1)), .ref aa])) rfl (by rw [hml]; rfl) (Steps.refl _) (argsL := [(.double (FP.i2d w1))]) (rest := []) (lenOf pd__28D_29V rfl) rfl (by show 2 * 0 + _ ≤ _; exact Nat.le_of_eq rfl) (hb hby at_307) (fun _ _ => ⟨rfl, e0, (by decide : 5 + 0 ≤ _), (by decide : 46 + 0 ≤ _)⟩)
  dsimp only [Pt.U, Pt.locs, Pt.cells, Pt.slots] at X259 l259 y259 z259 st259 hQ259
  have X259 := own_cs X259 5 46 y259 z259
  obtain ⟨rfl, N259q, K259, ra⟩ := hQ259
  have N259 := own_N l259 N0 N259q
  have e259 : T259.heap = T259.heap := rfl
  refine own_k T259 310 [] (fun t_ k_ => st259.trans k_) ?_
  have A_vv := A_vv.keep K259 (ninS nq0 (ninS nq1 nin0))
  have A_t3 := A_t3.keep K259 (ninS nq2 (ninS nq3 nin0))
  have A_t4 := A_t4.keep K259 (ninS nq4 (ninS nq5 nin0))
  have O := O.keep K259 (allS g_aa (allS g_dd all0))
  have Zn := Nat.le_trans Zn K259.1
  exact kont T259 _ T259.heap X259 e259 N259 O Zn A_vv A_t3 A_t4 ra
theorem SA3 (hw : own_tb a0 Z) (X0 : Stand pP lL eE room_1 sS mM args below meth cC T0 locs 5 46) (hx : pP.tables.exec = Jvm.exec) (hZ : Z.Warmed39 sS.vm) (hby : cC.code = code) (hml : cC.maxLocals = 17) (hown : sS.vm.findClass "com/example/gleanwork/gleanwork/schedule/RecentAverageAddPinLaw" = some mM.cls) (hlk : meth.locks = false) (hret : meth.sig.returnType = ret) (e0 : T0.heap = h0) (N0 : Fr n0 locs) (u0 : Int32) (u1 : Int64) (u2 : Int64) (u3 : Int64) (nn : Int32) (w0 : Int32) (w1 : Int32) (w2 : Int32) (w3 : Int32) (w4 : Int32) (w5 : Int32) (w6 : Int32) (w7 : Int32) (w8 : Int32) (w9 : Int32) (w10 : Int32) (w11 : Int32) (vv : Addr) (kv : ClassId) (t3 : Addr) (k3 : ClassId) (t4 : Addr) (k4 : ClassId) (aa : Addr) (dd : Addr) (kd : ClassId) (O : Old Z n0 h0) (Zn : n0 ≤ h0.size) (g_aa : n0 ≤ aa) (g_dd : n0 ≤ dd) (A_vv : Arv Z h0 vv kv .int 12 [.int w0, .int w1, .int w2, .int w3, .int w4, .int w5, .int w6, .int w7, .int w8, .int w9, .int w10, .int w11] (.int 0)) (A_t3 : Arv Z h0 t3 k3 .long 10 [.long 1, .long 3, .long 9, .long 27, .long 81, .long 243, .long 729, .long 2187, .long 6561, .long 19683] (.long 0)) (A_t4 : Arv Z h0 t4 k4 .long 10 [.long 1, .long 4, .long 16, .long 64, .long 256, .long 1024, .long 4096, .long 16384, .long 65536, .long 262144] (.long 0)) (nq0 : vv ≠ aa) (nq1 : vv ≠ dd) (nq2 : t3 ≠ aa) (nq3 : t3 ≠ dd) (nq4 : t4 ≠ aa) (nq5 : t4 ≠ dd) (nq6 : aa ≠ dd) (ra : Ra Z h0 aa dd kd 2 0 (stp (FP.i2d w1) (FP.i2d w0)) [.double (FP.i2d w0), .double (FP.i2d w1), .double 0, .double 0, .double 0, .double 0, .double 0, .double 0, .double 0, .double 0]) (bl0 : -32768 ≤ w0.toInt) (bl1 : -32768 ≤ w1.toInt) (bl2 : -32768 ≤ w2.toInt) (bl3 : -32768 ≤ w3.toInt) (bl4 : -32768 ≤ w4.toInt) (bl5 : -32768 ≤ w5.toInt) (bl6 : -32768 ≤ w6.toInt) (bl7 : -32768 ≤ w7.toInt) (bl8 : -32768 ≤ w8.toInt) (bl9 : -32768 ≤ w9.toInt) (bl10 : -32768 ≤ w10.toInt) (bl11 : -32768 ≤ w11.toInt) (bu0 : w0.toInt ≤ 32768) (bu1 : w1.toInt ≤ 32768) (bu2 : w2.toInt ≤ 32768) (bu3 : w3.toInt ≤ 32768) (bu4 : w4.toInt ≤ 32768) (bu5 : w5.toInt ≤ 32768) (bu6 : w6.toInt ≤ 32768) (bu7 : w7.toInt ≤ 32768) (bu8 : w8.toInt ≤ 32768) (bu9 : w9.toInt ≤ 32768) (bu10 : w10.toInt ≤ 32768) (bu11 : w11.toInt ≤ 32768) (hn : ¬ nn < (3 : Int32)) (kont : ∀ (T' : State) (L' : List Loc) (h' : Heap), Stand pP lL eE room_1 sS mM args below meth cC T' L' 5 46 → T'.heap = h' → Fr n0 L' → Old Z n0 h' → n0 ≤ h'.size → Arv Z h' vv kv .int 12 [.int w0, .int w1, .int w2, .int w3, .int w4, .int w5, .int w6, .int w7, .int w8, .int w9, .int w10, .int w11] (.int 0) → Arv Z h' t3 k3 .long 10 [.long 1, .long 3, .long 9, .long 27, .long 81, .long 243, .long 729, .long 2187, .long 6561, .long 19683] (.long 0) → Arv Z h' t4 k4 .long 10 [.long 1, .long 4, .long 16, .long 64, .long 256, .long 1024, .long 4096, .long 16384, .long 65536, .long 262144] (.long 0) → Ra Z h' aa dd kd 3 0 (stp (FP.i2d w2) (stp (FP.i2d w1) (FP.i2d w0))) [.double (FP.i2d w0), .double (FP.i2d w1), .double (FP.i2d w2), .double 0, .double 0, .double 0, .double 0, .double 0, .double 0, .double 0] → own_Go pP eE below sS (QLaw n0) 24 192 (T'.setTop (mkF mM 326 #[.val (.int u0), .val (.long u1), .second, .val (.long u2), .second, .val (.long u3), .second, .val (.int nn), .val (.ref vv), .val (.ref t3), .val (.ref t4), .val (.ref aa), .unset, .unset, .unset, .unset, .unset] []))) :
    own_Go pP eE below sS (QLaw n0) 24 192 (T0.setTop (mkF mM 310 #[.val (.int u0), .val (.long u1), .second, .val (.long u2), .second, .val (.long u3), .second, .val (.int nn), .val (.ref vv), .val (.ref t3), .val (.ref t4), .val (.ref aa), .unset, .unset, .unset, .unset, .unset] [])) := by
  refine o_iload 312 X0 hx (hb hby at_310) rfl rfl ?_
  refine o_iconst 313 3 X0 hx (hb hby at_312) rfl rfl ?_
  refine o_icmpNo 316 X0 hx (hb hby at_313) (flt hn).1 rfl ?_
  refine o_aload 318 X0 hx (hb hby at_316) rfl rfl rfl ?_
  refine o_aload 320 X0 hx (hb hby at_318) rfl rfl rfl ?_
  refine o_iconst 321 2 X0 hx (hb hby at_320) rfl rfl ?_
  obtain ⟨cl260, Ar260, q260, S260, Nn260, H260, G260⟩ := id A_vv
  have hin260 : ¬ ((2 : Int32) < 0 ∨ cl260.slots.size ≤ ((2 : Int32)).toNatClampNeg) := inb_of S260 ⟨by decide, by decide⟩
  refine own_j 322 [.int w2, .ref aa] (fun t_ k_ => X0.iaload hx (j := (2 : Int32)) (v := (.int w2)) (by rw [e0]; exact Ar260.1) (State.isArrayOf_alike hZ.alike Ar260.2.1) Ar260.2.2 hin260 (H260.at hin260 rfl) (g := (mkF mM 321 #[.val (.int u0), .val (.long u1), .second, .val (.long u2), .second, .val (.long u3), .second, .val (.int nn), .val (.ref vv), .val (.ref t3), .val (.ref t4), .val (.ref aa), .unset, .unset, .unset, .unset, .unset] [.int 2, .ref vv, .ref aa])) rfl rfl (hb hby at_321) t_ k_) ?_
  refine own_j 323 [(.double (FP.i2d w2)), .ref aa] (fun t_ k_ => XS.i2dS X0.here hx rfl (hb hby at_322) rfl rfl k_) ?_
  obtain ⟨cq261, kq261, q261a, q261b, q261c⟩ := isOf hZ e0 ra.1
  obtain ⟨_, _, ⟨T261, L261, k261, n261⟩, -, X261, ⟨Lc261, hQ261, l261, y261, z261⟩, st261⟩ := X0.virtualBack hx (y := yn2) (z := yn2) hown (mvT hZ (ow hw 65 rfl)) (mvT hZ (ow hw 66 rfl)) (notFace_of_selects (args := #[]) (mvT hZ (ow hw 68 rfl))) (mvT hZ (ow hw 68 rfl)) (mvT hZ (ow hw 67 rfl)) (by decide) (backOf (W := 0) (rmA3 lL Z a0 hw [] aa dd kd (stp (FP.i2d w1) (FP.i2d w0)) w0 w1 w2 h0 n0 g_aa g_dd nq6 ra bl0 bu0 bl1 bu1 bl2 bu2) hZ (ow hw 69 rfl) (ow hw 27 rfl) (by decide) (by decide)) q261a q261c (g := (mkF mM 323 #[.val (.int u0), .val (.long u1), .second, .val (.long u2), .second, .val (.long u3), .second, .val (.int nn), .val (.ref vv), .val (.ref t3), .val (.ref t4), .val (.ref aa), .unset, .unset, .unset, .unset, .unset] [(.double (FP.i2d w2)), .ref aa])) rfl (by rw [hml]; rfl) (Steps.refl _) (argsL := [(.double (FP.i2d w2))]) (rest := []) (lenOf pd__28D_29V rfl) rfl (by show 2 * 0 + _ ≤ _; exact Nat.le_of_eq rfl) (hb hby at_323) (fun _ _ => ⟨rfl, e0, (by decide : 5 + 0 ≤ _), (by decide : 46 + 0 ≤ _)⟩)
  dsimp only [Pt.U, Pt.locs, Pt.cells, Pt.slots] at X261 l261 y261 z261 st261 hQ261
  have X261 := own_cs X261 5 46 y261 z261
  obtain ⟨rfl, N261q, K261, ra⟩ := hQ261
  have N261 := own_N l261 N0 N261q
  have e261 : T261.heap = T261.heap := rfl
  refine own_k T261 326 [] (fun t_ k_ => st261.trans k_) ?_
  have A_vv := A_vv.keep K261 (ninS nq0 (ninS nq1 nin0))
  have A_t3 := A_t3.keep K261 (ninS nq2 (ninS nq3 nin0))
  have A_t4 := A_t4.keep K261 (ninS nq4 (ninS nq5 nin0))
  have O := O.keep K261 (allS g_aa (allS g_dd all0))
  have Zn := Nat.le_trans Zn K261.1
  exact kont T261 _ T261.heap X261 e261 N261 O Zn A_vv A_t3 A_t4 ra
theorem SA4 (hw : own_tb a0 Z) (X0 : Stand pP lL eE room_1 sS mM args below meth cC T0 locs 5 46) (hx : pP.tables.exec = Jvm.exec) (hZ : Z.Warmed39 sS.vm) (hby : cC.code = code) (hml : cC.maxLocals = 17) (hown : sS.vm.findClass "com/example/gleanwork/gleanwork/schedule/RecentAverageAddPinLaw" = some mM.cls) (hlk : meth.locks = false) (hret : meth.sig.returnType = ret) (e0 : T0.heap = h0) (N0 : Fr n0 locs) (u0 : Int32) (u1 : Int64) (u2 : Int64) (u3 : Int64) (nn : Int32) (w0 : Int32) (w1 : Int32) (w2 : Int32) (w3 : Int32) (w4 : Int32) (w5 : Int32) (w6 : Int32) (w7 : Int32) (w8 : Int32) (w9 : Int32) (w10 : Int32) (w11 : Int32) (vv : Addr) (kv : ClassId) (t3 : Addr) (k3 : ClassId) (t4 : Addr) (k4 : ClassId) (aa : Addr) (dd : Addr) (kd : ClassId) (O : Old Z n0 h0) (Zn : n0 ≤ h0.size) (g_aa : n0 ≤ aa) (g_dd : n0 ≤ dd) (A_vv : Arv Z h0 vv kv .int 12 [.int w0, .int w1, .int w2, .int w3, .int w4, .int w5, .int w6, .int w7, .int w8, .int w9, .int w10, .int w11] (.int 0)) (A_t3 : Arv Z h0 t3 k3 .long 10 [.long 1, .long 3, .long 9, .long 27, .long 81, .long 243, .long 729, .long 2187, .long 6561, .long 19683] (.long 0)) (A_t4 : Arv Z h0 t4 k4 .long 10 [.long 1, .long 4, .long 16, .long 64, .long 256, .long 1024, .long 4096, .long 16384, .long 65536, .long 262144] (.long 0)) (nq0 : vv ≠ aa) (nq1 : vv ≠ dd) (nq2 : t3 ≠ aa) (nq3 : t3 ≠ dd) (nq4 : t4 ≠ aa) (nq5 : t4 ≠ dd) (nq6 : aa ≠ dd) (ra : Ra Z h0 aa dd kd 3 0 (stp (FP.i2d w2) (stp (FP.i2d w1) (FP.i2d w0))) [.double (FP.i2d w0), .double (FP.i2d w1), .double (FP.i2d w2), .double 0, .double 0, .double 0, .double 0, .double 0, .double 0, .double 0]) (bl0 : -32768 ≤ w0.toInt) (bl1 : -32768 ≤ w1.toInt) (bl2 : -32768 ≤ w2.toInt) (bl3 : -32768 ≤ w3.toInt) (bl4 : -32768 ≤ w4.toInt) (bl5 : -32768 ≤ w5.toInt) (bl6 : -32768 ≤ w6.toInt) (bl7 : -32768 ≤ w7.toInt) (bl8 : -32768 ≤ w8.toInt) (bl9 : -32768 ≤ w9.toInt) (bl10 : -32768 ≤ w10.toInt) (bl11 : -32768 ≤ w11.toInt) (bu0 : w0.toInt ≤ 32768) (bu1 : w1.toInt ≤ 32768) (bu2 : w2.toInt ≤ 32768) (bu3 : w3.toInt ≤ 32768) (bu4 : w4.toInt ≤ 32768) (bu5 : w5.toInt ≤ 32768) (bu6 : w6.toInt ≤ 32768) (bu7 : w7.toInt ≤ 32768) (bu8 : w8.toInt ≤ 32768) (bu9 : w9.toInt ≤ 32768) (bu10 : w10.toInt ≤ 32768) (bu11 : w11.toInt ≤ 32768) (hn : ¬ nn < (4 : Int32)) (kont : ∀ (T' : State) (L' : List Loc) (h' : Heap), Stand pP lL eE room_1 sS mM args below meth cC T' L' 5 46 → T'.heap = h' → Fr n0 L' → Old Z n0 h' → n0 ≤ h'.size → Arv Z h' vv kv .int 12 [.int w0, .int w1, .int w2, .int w3, .int w4, .int w5, .int w6, .int w7, .int w8, .int w9, .int w10, .int w11] (.int 0) → Arv Z h' t3 k3 .long 10 [.long 1, .long 3, .long 9, .long 27, .long 81, .long 243, .long 729, .long 2187, .long 6561, .long 19683] (.long 0) → Arv Z h' t4 k4 .long 10 [.long 1, .long 4, .long 16, .long 64, .long 256, .long 1024, .long 4096, .long 16384, .long 65536, .long 262144] (.long 0) → Ra Z h' aa dd kd 4 0 (stp (FP.i2d w3) (stp (FP.i2d w2) (stp (FP.i2d w1) (FP.i2d w0)))) [.double (FP.i2d w0), .double (FP.i2d w1), .double (FP.i2d w2), .double (FP.i2d w3), .double 0, .double 0, .double 0, .double 0, .double 0, .double 0] → own_Go pP eE below sS (QLaw n0) 24 192 (T'.setTop (mkF mM 342 #[.val (.int u0), .val (.long u1), .second, .val (.long u2), .second, .val (.long u3), .second, .val (.int nn), .val (.ref vv), .val (.ref t3), .val (.ref t4), .val (.ref aa), .unset, .unset, .unset, .unset, .unset] []))) :
    own_Go pP eE below sS (QLaw n0) 24 192 (T0.setTop (mkF mM 326 #[.val (.int u0), .val (.long u1), .second, .val (.long u2), .second, .val (.long u3), .second, .val (.int nn), .val (.ref vv), .val (.ref t3), .val (.ref t4), .val (.ref aa), .unset, .unset, .unset, .unset, .unset] [])) := by
  refine o_iload 328 X0 hx (hb hby at_326) rfl rfl ?_
  refine o_iconst 329 4 X0 hx (hb hby at_328) rfl rfl ?_
  refine o_icmpNo 332 X0 hx (hb hby at_329) (flt hn).1 rfl ?_
  refine o_aload 334 X0 hx (hb hby at_332) rfl rfl rfl ?_
  refine o_aload 336 X0 hx (hb hby at_334) rfl rfl rfl ?_
  refine o_iconst 337 3 X0 hx (hb hby at_336) rfl rfl ?_
  obtain ⟨cl262, Ar262, q262, S262, Nn262, H262, G262⟩ := id A_vv
  have hin262 : ¬ ((3 : Int32) < 0 ∨ cl262.slots.size ≤ ((3 : Int32)).toNatClampNeg) := inb_of S262 ⟨by decide, by decide⟩
  refine own_j 338 [.int w3, .ref aa] (fun t_ k_ => X0.iaload hx (j := (3 : Int32)) (v := (.int w3)) (by rw [e0]; exact Ar262.1) (State.isArrayOf_alike hZ.alike Ar262.2.1) Ar262.2.2 hin262 (H262.at hin262 rfl) (g := (mkF mM 337 #[.val (.int u0), .val (.long u1), .second, .val (.long u2), .second, .val (.long u3), .second, .val (.int nn), .val (.ref vv), .val (.ref t3), .val (.ref t4), .val (.ref aa), .unset, .unset, .unset, .unset, .unset] [.int 3, .ref vv, .ref aa])) rfl rfl (hb hby at_337) t_ k_) ?_
  refine own_j 339 [(.double (FP.i2d w3)), .ref aa] (fun t_ k_ => XS.i2dS X0.here hx rfl (hb hby at_338) rfl rfl k_) ?_
  obtain ⟨cq263, kq263, q263a, q263b, q263c⟩ := isOf hZ e0 ra.1
  obtain ⟨_, _, ⟨T263, L263, k263, n263⟩, -, X263, ⟨Lc263, hQ263, l263, y263, z263⟩, st263⟩ := X0.virtualBack hx (y := yn2) (z := yn2) hown (mvT hZ (ow hw 65 rfl)) (mvT hZ (ow hw 66 rfl)) (notFace_of_selects (args := #[]) (mvT hZ (ow hw 68 rfl))) (mvT hZ (ow hw 68 rfl)) (mvT hZ (ow hw 67 rfl)) (by decide) (backOf (W := 0) (rmA4 lL Z a0 hw [] aa dd kd (stp (FP.i2d w2) (stp (FP.i2d w1) (FP.i2d w0))) w0 w1 w2 w3 h0 n0 g_aa g_dd nq6 ra bl0 bu0 bl1 bu1 bl2 bu2 bl3 bu3) hZ (ow hw 69 rfl) (ow hw 27 rfl) (by decide) (by decide)) q263a q263c (g := (mkF mM 339 #[.val (.int u0), .val (.long u1), .second, .val (.long u2), .second, .val (.long u3), .second, .val (.int nn), .val (.ref vv), .val (.ref t3), .val (.ref t4), .val (.ref aa), .unset, .unset, .unset, .unset, .unset] [(.double (FP.i2d w3)), .ref aa])) rfl (by rw [hml]; rfl) (Steps.refl _) (argsL := [(.double (FP.i2d w3))]) (rest := []) (lenOf pd__28D_29V rfl) rfl (by show 2 * 0 + _ ≤ _; exact Nat.le_of_eq rfl) (hb hby at_339) (fun _ _ => ⟨rfl, e0, (by decide : 5 + 0 ≤ _), (by decide : 46 + 0 ≤ _)⟩)
  dsimp only [Pt.U, Pt.locs, Pt.cells, Pt.slots] at X263 l263 y263 z263 st263 hQ263
  have X263 := own_cs X263 5 46 y263 z263
  obtain ⟨rfl, N263q, K263, ra⟩ := hQ263
  have N263 := own_N l263 N0 N263q
  have e263 : T263.heap = T263.heap := rfl
  refine own_k T263 342 [] (fun t_ k_ => st263.trans k_) ?_
  have A_vv := A_vv.keep K263 (ninS nq0 (ninS nq1 nin0))
  have A_t3 := A_t3.keep K263 (ninS nq2 (ninS nq3 nin0))
  have A_t4 := A_t4.keep K263 (ninS nq4 (ninS nq5 nin0))
  have O := O.keep K263 (allS g_aa (allS g_dd all0))
  have Zn := Nat.le_trans Zn K263.1
  exact kont T263 _ T263.heap X263 e263 N263 O Zn A_vv A_t3 A_t4 ra
theorem SA5 (hw : own_tb a0 Z) (X0 : Stand pP lL eE room_1 sS mM args below meth cC T0 locs 5 46) (hx : pP.tables.exec = Jvm.exec) (hZ : Z.Warmed39 sS.vm) (hby : cC.code = code) (hml : cC.maxLocals = 17) (hown : sS.vm.findClass "com/example/gleanwork/gleanwork/schedule/RecentAverageAddPinLaw" = some mM.cls) (hlk : meth.locks = false) (hret : meth.sig.returnType = ret) (e0 : T0.heap = h0) (N0 : Fr n0 locs) (u0 : Int32) (u1 : Int64) (u2 : Int64) (u3 : Int64) (nn : Int32) (w0 : Int32) (w1 : Int32) (w2 : Int32) (w3 : Int32) (w4 : Int32) (w5 : Int32) (w6 : Int32) (w7 : Int32) (w8 : Int32) (w9 : Int32) (w10 : Int32) (w11 : Int32) (vv : Addr) (kv : ClassId) (t3 : Addr) (k3 : ClassId) (t4 : Addr) (k4 : ClassId) (aa : Addr) (dd : Addr) (kd : ClassId) (O : Old Z n0 h0) (Zn : n0 ≤ h0.size) (g_aa : n0 ≤ aa) (g_dd : n0 ≤ dd) (A_vv : Arv Z h0 vv kv .int 12 [.int w0, .int w1, .int w2, .int w3, .int w4, .int w5, .int w6, .int w7, .int w8, .int w9, .int w10, .int w11] (.int 0)) (A_t3 : Arv Z h0 t3 k3 .long 10 [.long 1, .long 3, .long 9, .long 27, .long 81, .long 243, .long 729, .long 2187, .long 6561, .long 19683] (.long 0)) (A_t4 : Arv Z h0 t4 k4 .long 10 [.long 1, .long 4, .long 16, .long 64, .long 256, .long 1024, .long 4096, .long 16384, .long 65536, .long 262144] (.long 0)) (nq0 : vv ≠ aa) (nq1 : vv ≠ dd) (nq2 : t3 ≠ aa) (nq3 : t3 ≠ dd) (nq4 : t4 ≠ aa) (nq5 : t4 ≠ dd) (nq6 : aa ≠ dd) (ra : Ra Z h0 aa dd kd 4 0 (stp (FP.i2d w3) (stp (FP.i2d w2) (stp (FP.i2d w1) (FP.i2d w0)))) [.double (FP.i2d w0), .double (FP.i2d w1), .double (FP.i2d w2), .double (FP.i2d w3), .double 0, .double 0, .double 0, .double 0, .double 0, .double 0]) (bl0 : -32768 ≤ w0.toInt) (bl1 : -32768 ≤ w1.toInt) (bl2 : -32768 ≤ w2.toInt) (bl3 : -32768 ≤ w3.toInt) (bl4 : -32768 ≤ w4.toInt) (bl5 : -32768 ≤ w5.toInt) (bl6 : -32768 ≤ w6.toInt) (bl7 : -32768 ≤ w7.toInt) (bl8 : -32768 ≤ w8.toInt) (bl9 : -32768 ≤ w9.toInt) (bl10 : -32768 ≤ w10.toInt) (bl11 : -32768 ≤ w11.toInt) (bu0 : w0.toInt ≤ 32768) (bu1 : w1.toInt ≤ 32768) (bu2 : w2.toInt ≤ 32768) (bu3 : w3.toInt ≤ 32768) (bu4 : w4.toInt ≤ 32768) (bu5 : w5.toInt ≤ 32768) (bu6 : w6.toInt ≤ 32768) (bu7 : w7.toInt ≤ 32768) (bu8 : w8.toInt ≤ 32768) (bu9 : w9.toInt ≤ 32768) (bu10 : w10.toInt ≤ 32768) (bu11 : w11.toInt ≤ 32768) (hn : ¬ nn < (5 : Int32)) (kont : ∀ (T' : State) (L' : List Loc) (h' : Heap), Stand pP lL eE room_1 sS mM args below meth cC T' L' 5 46 → T'.heap = h' → Fr n0 L' → Old Z n0 h' → n0 ≤ h'.size → Arv Z h' vv kv .int 12 [.int w0, .int w1, .int w2, .int w3, .int w4, .int w5, .int w6, .int w7, .int w8, .int w9, .int w10, .int w11] (.int 0) → Arv Z h' t3 k3 .long 10 [.long 1, .long 3, .long 9, .long 27, .long 81, .long 243, .long 729, .long 2187, .long 6561, .long 19683] (.long 0) → Arv Z h' t4 k4 .long 10 [.long 1, .long 4, .long 16, .long 64, .long 256, .long 1024, .long 4096, .long 16384, .long 65536, .long 262144] (.long 0) → Ra Z h' aa dd kd 5 0 (stp (FP.i2d w4) (stp (FP.i2d w3) (stp (FP.i2d w2) (stp (FP.i2d w1) (FP.i2d w0))))) [.double (FP.i2d w0), .double (FP.i2d w1), .double (FP.i2d w2), .double (FP.i2d w3), .double (FP.i2d w4), .double 0, .double 0, .double 0, .double 0, .double 0] → own_Go pP eE below sS (QLaw n0) 24 192 (T'.setTop (mkF mM 358 #[.val (.int u0), .val (.long u1), .second, .val (.long u2), .second, .val (.long u3), .second, .val (.int nn), .val (.ref vv), .val (.ref t3), .val (.ref t4), .val (.ref aa), .unset, .unset, .unset, .unset, .unset] []))) :
    own_Go pP eE below sS (QLaw n0) 24 192 (T0.setTop (mkF mM 342 #[.val (.int u0), .val (.long u1), .second, .val (.long u2), .second, .val (.long u3), .second, .val (.int nn), .val (.ref vv), .val (.ref t3), .val (.ref t4), .val (.ref aa), .unset, .unset, .unset, .unset, .unset] [])) := by
  refine o_iload 344 X0 hx (hb hby at_342) rfl rfl ?_
  refine o_iconst 345 5 X0 hx (hb hby at_344) rfl rfl ?_
  refine o_icmpNo 348 X0 hx (hb hby at_345) (flt hn).1 rfl ?_
  refine o_aload 350 X0 hx (hb hby at_348) rfl rfl rfl ?_
  refine o_aload 352 X0 hx (hb hby at_350) rfl rfl rfl ?_
  refine o_iconst 353 4 X0 hx (hb hby at_352) rfl rfl ?_
  obtain ⟨cl264, Ar264, q264, S264, Nn264, H264, G264⟩ := id A_vv
  have hin264 : ¬ ((4 : Int32) < 0 ∨ cl264.slots.size ≤ ((4 : Int32)).toNatClampNeg) := inb_of S264 ⟨by decide, by decide⟩
  refine own_j 354 [.int w4, .ref aa] (fun t_ k_ => X0.iaload hx (j := (4 : Int32)) (v := (.int w4)) (by rw [e0]; exact Ar264.1) (State.isArrayOf_alike hZ.alike Ar264.2.1) Ar264.2.2 hin264 (H264.at hin264 rfl) (g := (mkF mM 353 #[.val (.int u0), .val (.long u1), .second, .val (.long u2), .second, .val (.long u3), .second, .val (.int nn), .val (.ref vv), .val (.ref t3), .val (.ref t4), .val (.ref aa), .unset, .unset, .unset, .unset, .unset] [.int 4, .ref vv, .ref aa])) rfl rfl (hb hby at_353) t_ k_) ?_
  refine own_j 355 [(.double (FP.i2d w4)), .ref aa] (fun t_ k_ => XS.i2dS X0.here hx rfl (hb hby at_354) rfl rfl k_) ?_
  obtain ⟨cq265, kq265, q265a, q265b, q265c⟩ := isOf hZ e0 ra.1
  obtain ⟨_, _, ⟨T265, L265, k265, n265⟩, -, X265, ⟨Lc265, hQ265, l265, y265, z265⟩, st265⟩ := X0.virtualBack hx (y := yn2) (z := yn2) hown (mvT hZ (ow hw 65 rfl)) (mvT hZ (ow hw 66 rfl)) (notFace_of_selects (args := #[]) (mvT hZ (ow hw 68 rfl))) (mvT hZ (ow hw 68 rfl)) (mvT hZ (ow hw 67 rfl)) (by decide) (backOf (W := 0) (rmA5 lL Z a0 hw [] aa dd kd (stp (FP.i2d w3) (stp (FP.i2d w2) (stp (FP.i2d w1) (FP.i2d w0)))) w0 w1 w2 w3 w4 h0 n0 g_aa g_dd nq6 ra bl0 bu0 bl1 bu1 bl2 bu2 bl3 bu3 bl4 bu4) hZ (ow hw 69 rfl) (ow hw 27 rfl) (by decide) (by decide)) q265a q265c (g := (mkF mM 355 #[.val (.int u0), .val (.long u1), .second, .val (.long u2), .second, .val (.long u3), .second, .val (.int nn), .val (.ref vv), .val (.ref t3), .val (.ref t4), .val (.ref aa), .unset, .unset, .unset, .unset, .unset] [(.double (FP.i2d w4)), .ref aa])) rfl (by rw [hml]; rfl) (Steps.refl _) (argsL := [(.double (FP.i2d w4))]) (rest := []) (lenOf pd__28D_29V rfl) rfl (by show 2 * 0 + _ ≤ _; exact Nat.le_of_eq rfl) (hb hby at_355) (fun _ _ => ⟨rfl, e0, (by decide : 5 + 0 ≤ _), (by decide : 46 + 0 ≤ _)⟩)
  dsimp only [Pt.U, Pt.locs, Pt.cells, Pt.slots] at X265 l265 y265 z265 st265 hQ265
  have X265 := own_cs X265 5 46 y265 z265
  obtain ⟨rfl, N265q, K265, ra⟩ := hQ265
  have N265 := own_N l265 N0 N265q
  have e265 : T265.heap = T265.heap := rfl
  refine own_k T265 358 [] (fun t_ k_ => st265.trans k_) ?_
  have A_vv := A_vv.keep K265 (ninS nq0 (ninS nq1 nin0))
  have A_t3 := A_t3.keep K265 (ninS nq2 (ninS nq3 nin0))
  have A_t4 := A_t4.keep K265 (ninS nq4 (ninS nq5 nin0))
  have O := O.keep K265 (allS g_aa (allS g_dd all0))
  have Zn := Nat.le_trans Zn K265.1
  exact kont T265 _ T265.heap X265 e265 N265 O Zn A_vv A_t3 A_t4 ra
theorem SA6 (hw : own_tb a0 Z) (X0 : Stand pP lL eE room_1 sS mM args below meth cC T0 locs 5 46) (hx : pP.tables.exec = Jvm.exec) (hZ : Z.Warmed39 sS.vm) (hby : cC.code = code) (hml : cC.maxLocals = 17) (hown : sS.vm.findClass "com/example/gleanwork/gleanwork/schedule/RecentAverageAddPinLaw" = some mM.cls) (hlk : meth.locks = false) (hret : meth.sig.returnType = ret) (e0 : T0.heap = h0) (N0 : Fr n0 locs) (u0 : Int32) (u1 : Int64) (u2 : Int64) (u3 : Int64) (nn : Int32) (w0 : Int32) (w1 : Int32) (w2 : Int32) (w3 : Int32) (w4 : Int32) (w5 : Int32) (w6 : Int32) (w7 : Int32) (w8 : Int32) (w9 : Int32) (w10 : Int32) (w11 : Int32) (vv : Addr) (kv : ClassId) (t3 : Addr) (k3 : ClassId) (t4 : Addr) (k4 : ClassId) (aa : Addr) (dd : Addr) (kd : ClassId) (O : Old Z n0 h0) (Zn : n0 ≤ h0.size) (g_aa : n0 ≤ aa) (g_dd : n0 ≤ dd) (A_vv : Arv Z h0 vv kv .int 12 [.int w0, .int w1, .int w2, .int w3, .int w4, .int w5, .int w6, .int w7, .int w8, .int w9, .int w10, .int w11] (.int 0)) (A_t3 : Arv Z h0 t3 k3 .long 10 [.long 1, .long 3, .long 9, .long 27, .long 81, .long 243, .long 729, .long 2187, .long 6561, .long 19683] (.long 0)) (A_t4 : Arv Z h0 t4 k4 .long 10 [.long 1, .long 4, .long 16, .long 64, .long 256, .long 1024, .long 4096, .long 16384, .long 65536, .long 262144] (.long 0)) (nq0 : vv ≠ aa) (nq1 : vv ≠ dd) (nq2 : t3 ≠ aa) (nq3 : t3 ≠ dd) (nq4 : t4 ≠ aa) (nq5 : t4 ≠ dd) (nq6 : aa ≠ dd) (ra : Ra Z h0 aa dd kd 5 0 (stp (FP.i2d w4) (stp (FP.i2d w3) (stp (FP.i2d w2) (stp (FP.i2d w1) (FP.i2d w0))))) [.double (FP.i2d w0), .double (FP.i2d w1), .double (FP.i2d w2), .double (FP.i2d w3), .double (FP.i2d w4), .double 0, .double 0, .double 0, .double 0, .double 0]) (bl0 : -32768 ≤ w0.toInt) (bl1 : -32768 ≤ w1.toInt) (bl2 : -32768 ≤ w2.toInt) (bl3 : -32768 ≤ w3.toInt) (bl4 : -32768 ≤ w4.toInt) (bl5 : -32768 ≤ w5.toInt) (bl6 : -32768 ≤ w6.toInt) (bl7 : -32768 ≤ w7.toInt) (bl8 : -32768 ≤ w8.toInt) (bl9 : -32768 ≤ w9.toInt) (bl10 : -32768 ≤ w10.toInt) (bl11 : -32768 ≤ w11.toInt) (bu0 : w0.toInt ≤ 32768) (bu1 : w1.toInt ≤ 32768) (bu2 : w2.toInt ≤ 32768) (bu3 : w3.toInt ≤ 32768) (bu4 : w4.toInt ≤ 32768) (bu5 : w5.toInt ≤ 32768) (bu6 : w6.toInt ≤ 32768) (bu7 : w7.toInt ≤ 32768) (bu8 : w8.toInt ≤ 32768) (bu9 : w9.toInt ≤ 32768) (bu10 : w10.toInt ≤ 32768) (bu11 : w11.toInt ≤ 32768) (hn : ¬ nn < (6 : Int32)) (kont : ∀ (T' : State) (L' : List Loc) (h' : Heap), Stand pP lL eE room_1 sS mM args below meth cC T' L' 5 46 → T'.heap = h' → Fr n0 L' → Old Z n0 h' → n0 ≤ h'.size → Arv Z h' vv kv .int 12 [.int w0, .int w1, .int w2, .int w3, .int w4, .int w5, .int w6, .int w7, .int w8, .int w9, .int w10, .int w11] (.int 0) → Arv Z h' t3 k3 .long 10 [.long 1, .long 3, .long 9, .long 27, .long 81, .long 243, .long 729, .long 2187, .long 6561, .long 19683] (.long 0) → Arv Z h' t4 k4 .long 10 [.long 1, .long 4, .long 16, .long 64, .long 256, .long 1024, .long 4096, .long 16384, .long 65536, .long 262144] (.long 0) → Ra Z h' aa dd kd 6 0 (stp (FP.i2d w5) (stp (FP.i2d w4) (stp (FP.i2d w3) (stp (FP.i2d w2) (stp (FP.i2d w1) (FP.i2d w0)))))) [.double (FP.i2d w0), .double (FP.i2d w1), .double (FP.i2d w2), .double (FP.i2d w3), .double (FP.i2d w4), .double (FP.i2d w5), .double 0, .double 0, .double 0, .double 0] → own_Go pP eE below sS (QLaw n0) 24 192 (T'.setTop (mkF mM 375 #[.val (.int u0), .val (.long u1), .second, .val (.long u2), .second, .val (.long u3), .second, .val (.int nn), .val (.ref vv), .val (.ref t3), .val (.ref t4), .val (.ref aa), .unset, .unset, .unset, .unset, .unset] []))) :
    own_Go pP eE below sS (QLaw n0) 24 192 (T0.setTop (mkF mM 358 #[.val (.int u0), .val (.long u1), .second, .val (.long u2), .second, .val (.long u3), .second, .val (.int nn), .val (.ref vv), .val (.ref t3), .val (.ref t4), .val (.ref aa), .unset, .unset, .unset, .unset, .unset] [])) := by
  refine o_iload 360 X0 hx (hb hby at_358) rfl rfl ?_
  refine o_bipush 362 6 X0 hx (hb hby at_360) rfl rfl ?_
  refine o_icmpNo 365 X0 hx (hb hby at_362) (flt hn).1 rfl ?_
  refine o_aload 367 X0 hx (hb hby at_365) rfl rfl rfl ?_
  refine o_aload 369 X0 hx (hb hby at_367) rfl rfl rfl ?_
  refine o_iconst 370 5 X0 hx (hb hby at_369) rfl rfl ?_
  obtain ⟨cl266, Ar266, q266, S266, Nn266, H266, G266⟩ := id A_vv
  have hin266 : ¬ ((5 : Int32) < 0 ∨ cl266.slots.size ≤ ((5 : Int32)).toNatClampNeg) := inb_of S266 ⟨by decide, by decide⟩
  refine own_j 371 [.int w5, .ref aa] (fun t_ k_ => X0.iaload hx (j := (5 : Int32)) (v := (.int w5)) (by rw [e0]; exact Ar266.1) (State.isArrayOf_alike hZ.alike Ar266.2.1) Ar266.2.2 hin266 (H266.at hin266 rfl) (g := (mkF mM 370 #[.val (.int u0), .val (.long u1), .second, .val (.long u2), .second, .val (.long u3), .second, .val (.int nn), .val (.ref vv), .val (.ref t3), .val (.ref t4), .val (.ref aa), .unset, .unset, .unset, .unset, .unset] [.int 5, .ref vv, .ref aa])) rfl rfl (hb hby at_370) t_ k_) ?_
  refine own_j 372 [(.double (FP.i2d w5)), .ref aa] (fun t_ k_ => XS.i2dS X0.here hx rfl (hb hby at_371) rfl rfl k_) ?_
  obtain ⟨cq267, kq267, q267a, q267b, q267c⟩ := isOf hZ e0 ra.1
  obtain ⟨_, _, ⟨T267, L267, k267, n267⟩, -, X267, ⟨Lc267, hQ267, l267, y267, z267⟩, st267⟩ := X0.virtualBack hx (y := yn2) (z := yn2) hown (mvT hZ (ow hw 65 rfl)) (mvT hZ (ow hw 66 rfl)) (notFace_of_selects (args := #[]) (mvT hZ (ow hw 68 rfl))) (mvT hZ (ow hw 68 rfl)) (mvT hZ (ow hw 67 rfl)) (by decide) (backOf (W := 0) (rmA6 lL Z a0 hw [] aa dd kd (stp (FP.i2d w4) (stp (FP.i2d w3) (stp (FP.i2d w2) (stp (FP.i2d w1) (FP.i2d w0))))) w0 w1 w2 w3 w4 w5 h0 n0 g_aa g_dd nq6 ra bl0 bu0 bl1 bu1 bl2 bu2 bl3 bu3 bl4 bu4 bl5 bu5) hZ (ow hw 69 rfl) (ow hw 27 rfl) (by decide) (by decide)) q267a q267c (g := (mkF mM 372 #[.val (.int u0), .val (.long u1), .second, .val (.long u2), .second, .val (.long u3), .second, .val (.int nn), .val (.ref vv), .val (.ref t3), .val (.ref t4), .val (.ref aa), .unset, .unset, .unset, .unset, .unset] [(.double (FP.i2d w5)), .ref aa])) rfl (by rw [hml]; rfl) (Steps.refl _) (argsL := [(.double (FP.i2d w5))]) (rest := []) (lenOf pd__28D_29V rfl) rfl (by show 2 * 0 + _ ≤ _; exact Nat.le_of_eq rfl) (hb hby at_372) (fun _ _ => ⟨rfl, e0, (by decide : 5 + 0 ≤ _), (by decide : 46 + 0 ≤ _)⟩)
  dsimp only [Pt.U, Pt.locs, Pt.cells, Pt.slots] at X267 l267 y267 z267 st267 hQ267
  have X267 := own_cs X267 5 46 y267 z267
  obtain ⟨rfl, N267q, K267, ra⟩ := hQ267
  have N267 := own_N l267 N0 N267q
  have e267 : T267.heap = T267.heap := rfl
  refine own_k T267 375 [] (fun t_ k_ => st267.trans k_) ?_
  have A_vv := A_vv.keep K267 (ninS nq0 (ninS nq1 nin0))
  have A_t3 := A_t3.keep K267 (ninS nq2 (ninS nq3 nin0))
  have A_t4 := A_t4.keep K267 (ninS nq4 (ninS nq5 nin0))
  have O := O.keep K267 (allS g_aa (allS g_dd all0))
  have Zn := Nat.le_trans Zn K267.1
  exact kont T267 _ T267.heap X267 e267 N267 O Zn A_vv A_t3 A_t4 ra
theorem SA7 (hw : own_tb a0 Z) (X0 : Stand pP lL eE room_1 sS mM args below meth cC T0 locs 5 46) (hx : pP.tables.exec = Jvm.exec) (hZ : Z.Warmed39 sS.vm) (hby : cC.code = code) (hml : cC.maxLocals = 17) (hown : sS.vm.findClass "com/example/gleanwork/gleanwork/schedule/RecentAverageAddPinLaw" = some mM.cls) (hlk : meth.locks = false) (hret : meth.sig.returnType = ret) (e0 : T0.heap = h0) (N0 : Fr n0 locs) (u0 : Int32) (u1 : Int64) (u2 : Int64) (u3 : Int64) (nn : Int32) (w0 : Int32) (w1 : Int32) (w2 : Int32) (w3 : Int32) (w4 : Int32) (w5 : Int32) (w6 : Int32) (w7 : Int32) (w8 : Int32) (w9 : Int32) (w10 : Int32) (w11 : Int32) (vv : Addr) (kv : ClassId) (t3 : Addr) (k3 : ClassId) (t4 : Addr) (k4 : ClassId) (aa : Addr) (dd : Addr) (kd : ClassId) (O : Old Z n0 h0) (Zn : n0 ≤ h0.size) (g_aa : n0 ≤ aa) (g_dd : n0 ≤ dd) (A_vv : Arv Z h0 vv kv .int 12 [.int w0, .int w1, .int w2, .int w3, .int w4, .int w5, .int w6, .int w7, .int w8, .int w9, .int w10, .int w11] (.int 0)) (A_t3 : Arv Z h0 t3 k3 .long 10 [.long 1, .long 3, .long 9, .long 27, .long 81, .long 243, .long 729, .long 2187, .long 6561, .long 19683] (.long 0)) (A_t4 : Arv Z h0 t4 k4 .long 10 [.long 1, .long 4, .long 16, .long 64, .long 256, .long 1024, .long 4096, .long 16384, .long 65536, .long 262144] (.long 0)) (nq0 : vv ≠ aa) (nq1 : vv ≠ dd) (nq2 : t3 ≠ aa) (nq3 : t3 ≠ dd) (nq4 : t4 ≠ aa) (nq5 : t4 ≠ dd) (nq6 : aa ≠ dd) (ra : Ra Z h0 aa dd kd 6 0 (stp (FP.i2d w5) (stp (FP.i2d w4) (stp (FP.i2d w3) (stp (FP.i2d w2) (stp (FP.i2d w1) (FP.i2d w0)))))) [.double (FP.i2d w0), .double (FP.i2d w1), .double (FP.i2d w2), .double (FP.i2d w3), .double (FP.i2d w4), .double (FP.i2d w5), .double 0, .double 0, .double 0, .double 0]) (bl0 : -32768 ≤ w0.toInt) (bl1 : -32768 ≤ w1.toInt) (bl2 : -32768 ≤ w2.toInt) (bl3 : -32768 ≤ w3.toInt) (bl4 : -32768 ≤ w4.toInt) (bl5 : -32768 ≤ w5.toInt) (bl6 : -32768 ≤ w6.toInt) (bl7 : -32768 ≤ w7.toInt) (bl8 : -32768 ≤ w8.toInt) (bl9 : -32768 ≤ w9.toInt) (bl10 : -32768 ≤ w10.toInt) (bl11 : -32768 ≤ w11.toInt) (bu0 : w0.toInt ≤ 32768) (bu1 : w1.toInt ≤ 32768) (bu2 : w2.toInt ≤ 32768) (bu3 : w3.toInt ≤ 32768) (bu4 : w4.toInt ≤ 32768) (bu5 : w5.toInt ≤ 32768) (bu6 : w6.toInt ≤ 32768) (bu7 : w7.toInt ≤ 32768) (bu8 : w8.toInt ≤ 32768) (bu9 : w9.toInt ≤ 32768) (bu10 : w10.toInt ≤ 32768) (bu11 : w11.toInt ≤ 32768) (hn : ¬ nn < (7 : Int32)) (kont : ∀ (T' : State) (L' : List Loc) (h' : Heap), Stand pP lL eE room_1 sS mM args below meth cC T' L' 5 46 → T'.heap = h' → Fr n0 L' → Old Z n0 h' → n0 ≤ h'.size → Arv Z h' vv kv .int 12 [.int w0, .int w1, .int w2, .int w3, .int w4, .int w5, .int w6, .int w7, .int w8, .int w9, .int w10, .int w11] (.int 0) → Arv Z h' t3 k3 .long 10 [.long 1, .long 3, .long 9, .long 27, .long 81, .long 243, .long 729, .long 2187, .long 6561, .long 19683] (.long 0) → Arv Z h' t4 k4 .long 10 [.long 1, .long 4, .long 16, .long 64, .long 256, .long 1024, .long 4096, .long 16384, .long 65536, .long 262144] (.long 0) → Ra Z h' aa dd kd 7 0 (stp (FP.i2d w6) (stp (FP.i2d w5) (stp (FP.i2d w4) (stp (FP.i2d w3) (stp (FP.i2d w2) (stp (FP.i2d w1) (FP.i2d w0))))))) [.double (FP.i2d w0), .double (FP.i2d w1), .double (FP.i2d w2), .double (FP.i2d w3), .double (FP.i2d w4), .double (FP.i2d w5), .double (FP.i2d w6), .double 0, .double 0, .double 0] → own_Go pP eE below sS (QLaw n0) 24 192 (T'.setTop (mkF mM 393 #[.val (.int u0), .val (.long u1), .second, .val (.long u2), .second, .val (.long u3), .second, .val (.int nn), .val (.ref vv), .val (.ref t3), .val (.ref t4), .val (.ref aa), .unset, .unset, .unset, .unset, .unset] []))) :
    own_Go pP eE below sS (QLaw n0) 24 192 (T0.setTop (mkF mM 375 #[.val (.int u0), .val (.long u1), .second, .val (.long u2), .second, .val (.long u3), .second, .val (.int nn), .val (.ref vv), .val (.ref t3), .val (.ref t4), .val (.ref aa), .unset, .unset, .unset, .unset, .unset] [])) := by
  refine o_iload 377 X0 hx (hb hby at_375) rfl rfl ?_
  refine o_bipush 379 7 X0 hx (hb hby at_377) rfl rfl ?_
  refine o_icmpNo 382 X0 hx (hb hby at_379) (flt hn).1 rfl ?_
  refine o_aload 384 X0 hx (hb hby at_382) rfl rfl rfl ?_
  refine o_aload 386 X0 hx (hb hby at_384) rfl rfl rfl ?_
  refine o_bipush 388 6 X0 hx (hb hby at_386) rfl rfl ?_
  obtain ⟨cl268, Ar268, q268, S268, Nn268, H268, G268⟩ := id A_vv
  have hin268 : ¬ ((6 : Int32) < 0 ∨ cl268.slots.size ≤ ((6 : Int32)).toNatClampNeg) := inb_of S268 ⟨by decide, by decide⟩
  refine own_j 389 [.int w6, .ref aa] (fun t_ k_ => X0.iaload hx (j := (6 : Int32)) (v := (.int w6)) (by rw [e0]; exact Ar268.1) (State.isArrayOf_alike hZ.alike Ar268.2.1) Ar268.2.2 hin268 (H268.at hin268 rfl) (g := (mkF mM 388 #[.val (.int u0), .val (.long u1), .second, .val (.long u2), .second, .val (.long u3), .second, .val (.int nn), .val (.ref vv), .val (.ref t3), .val (.ref t4), .val (.ref aa), .unset, .unset, .unset, .unset, .unset] [.int 6, .ref vv, .ref aa])) rfl rfl (hb hby at_388) t_ k_) ?_
  refine own_j 390 [(.double (FP.i2d w6)), .ref aa] (fun t_ k_ => XS.i2dS X0.here hx rfl (hb hby at_389) rfl rfl k_) ?_
  obtain ⟨cq269, kq269, q269a, q269b, q269c⟩ := isOf hZ e0 ra.1
  obtain ⟨_, _, ⟨T269, L269, k269, n269⟩, -, X269, ⟨Lc269, hQ269, l269, y269, z269⟩, st269⟩ := X0.virtualBack hx (y := yn2) (z := yn2) hown (mvT hZ (ow hw 65 rfl)) (mvT hZ (ow hw 66 rfl)) (notFace_of_selects (args := #[]) (mvT hZ (ow hw 68 rfl))) (mvT hZ (ow hw 68 rfl)) (mvT hZ (ow hw 67 rfl)) (by decide) (backOf (W := 0) (rmA7 lL Z a0 hw [] aa dd kd (stp (FP.i2d w5) (stp (FP.i2d w4) (stp (FP.i2d w3) (stp (FP.i2d w2) (stp (FP.i2d w1) (FP.i2d w0)))))) w0 w1 w2 w3 w4 w5 w6 h0 n0 g_aa g_dd nq6 ra bl0 bu0 bl1 bu1 bl2 bu2 bl3 bu3 bl4 bu4 bl5 bu5 bl6 bu6) hZ (ow hw 69 rfl) (ow hw 27 rfl) (by decide) (by decide)) q269a q269c (g := (mkF mM 390 #[.val (.int u0), .val (.long u1), .second, .val (.long u2), .second, .val (.long u3), .second, .val (.int nn), .val (.ref vv), .val (.ref t3), .val (.ref t4), .val (.ref aa), .unset, .unset, .unset, .unset, .unset] [(.double (FP.i2d w6)), .ref aa])) rfl (by rw [hml]; rfl) (Steps.refl _) (argsL := [(.double (FP.i2d w6))]) (rest := []) (lenOf pd__28D_29V rfl) rfl (by show 2 * 0 + _ ≤ _; exact Nat.le_of_eq rfl) (hb hby at_390) (fun _ _ => ⟨rfl, e0, (by decide : 5 + 0 ≤ _), (by decide : 46 + 0 ≤ _)⟩)
  dsimp only [Pt.U, Pt.locs, Pt.cells, Pt.slots] at X269 l269 y269 z269 st269 hQ269
  have X269 := own_cs X269 5 46 y269 z269
  obtain ⟨rfl, N269q, K269, ra⟩ := hQ269
  have N269 := own_N l269 N0 N269q
  have e269 : T269.heap = T269.heap := rfl
  refine own_k T269 393 [] (fun t_ k_ => st269.trans k_) ?_
  have A_vv := A_vv.keep K269 (ninS nq0 (ninS nq1 nin0))
  have A_t3 := A_t3.keep K269 (ninS nq2 (ninS nq3 nin0))
  have A_t4 := A_t4.keep K269 (ninS nq4 (ninS nq5 nin0))
  have O := O.keep K269 (allS g_aa (allS g_dd all0))
  have Zn := Nat.le_trans Zn K269.1
  exact kont T269 _ T269.heap X269 e269 N269 O Zn A_vv A_t3 A_t4 ra
theorem SA8 (hw : own_tb a0 Z) (X0 : Stand pP lL eE room_1 sS mM args below meth cC T0 locs 5 46) (hx : pP.tables.exec = Jvm.exec) (hZ : Z.Warmed39 sS.vm) (hby : cC.code = code) (hml : cC.maxLocals = 17) (hown : sS.vm.findClass "com/example/gleanwork/gleanwork/schedule/RecentAverageAddPinLaw" = some mM.cls) (hlk : meth.locks = false) (hret : meth.sig.returnType = ret) (e0 : T0.heap = h0) (N0 : Fr n0 locs) (u0 : Int32) (u1 : Int64) (u2 : Int64) (u3 : Int64) (nn : Int32) (w0 : Int32) (w1 : Int32) (w2 : Int32) (w3 : Int32) (w4 : Int32) (w5 : Int32) (w6 : Int32) (w7 : Int32) (w8 : Int32) (w9 : Int32) (w10 : Int32) (w11 : Int32) (vv : Addr) (kv : ClassId) (t3 : Addr) (k3 : ClassId) (t4 : Addr) (k4 : ClassId) (aa : Addr) (dd : Addr) (kd : ClassId) (O : Old Z n0 h0) (Zn : n0 ≤ h0.size) (g_aa : n0 ≤ aa) (g_dd : n0 ≤ dd) (A_vv : Arv Z h0 vv kv .int 12 [.int w0, .int w1, .int w2, .int w3, .int w4, .int w5, .int w6, .int w7, .int w8, .int w9, .int w10, .int w11] (.int 0)) (A_t3 : Arv Z h0 t3 k3 .long 10 [.long 1, .long 3, .long 9, .long 27, .long 81, .long 243, .long 729, .long 2187, .long 6561, .long 19683] (.long 0)) (A_t4 : Arv Z h0 t4 k4 .long 10 [.long 1, .long 4, .long 16, .long 64, .long 256, .long 1024, .long 4096, .long 16384, .long 65536, .long 262144] (.long 0)) (nq0 : vv ≠ aa) (nq1 : vv ≠ dd) (nq2 : t3 ≠ aa) (nq3 : t3 ≠ dd) (nq4 : t4 ≠ aa) (nq5 : t4 ≠ dd) (nq6 : aa ≠ dd) (ra : Ra Z h0 aa dd kd 7 0 (stp (FP.i2d w6) (stp (FP.i2d w5) (stp (FP.i2d w4) (stp (FP.i2d w3) (stp (FP.i2d w2) (stp (FP.i2d w1) (FP.i2d w0))))))) [.double (FP.i2d w0), .double (FP.i2d w1), .double (FP.i2d w2), .double (FP.i2d w3), .double (FP.i2d w4), .double (FP.i2d w5), .double (FP.i2d w6), .double 0, .double 0, .double 0]) (bl0 : -32768 ≤ w0.toInt) (bl1 : -32768 ≤ w1.toInt) (bl2 : -32768 ≤ w2.toInt) (bl3 : -32768 ≤ w3.toInt) (bl4 : -32768 ≤ w4.toInt) (bl5 : -32768 ≤ w5.toInt) (bl6 : -32768 ≤ w6.toInt) (bl7 : -32768 ≤ w7.toInt) (bl8 : -32768 ≤ w8.toInt) (bl9 : -32768 ≤ w9.toInt) (bl10 : -32768 ≤ w10.toInt) (bl11 : -32768 ≤ w11.toInt) (bu0 : w0.toInt ≤ 32768) (bu1 : w1.toInt ≤ 32768) (bu2 : w2.toInt ≤ 32768) (bu3 : w3.toInt ≤ 32768) (bu4 : w4.toInt ≤ 32768) (bu5 : w5.toInt ≤ 32768) (bu6 : w6.toInt ≤ 32768) (bu7 : w7.toInt ≤ 32768) (bu8 : w8.toInt ≤ 32768) (bu9 : w9.toInt ≤ 32768) (bu10 : w10.toInt ≤ 32768) (bu11 : w11.toInt ≤ 32768) (hn : ¬ nn < (8 : Int32)) (kont : ∀ (T' : State) (L' : List Loc) (h' : Heap), Stand pP lL eE room_1 sS mM args below meth cC T' L' 5 46 → T'.heap = h' → Fr n0 L' → Old Z n0 h' → n0 ≤ h'.size → Arv Z h' vv kv .int 12 [.int w0, .int w1, .int w2, .int w3, .int w4, .int w5, .int w6, .int w7, .int w8, .int w9, .int w10, .int w11] (.int 0) → Arv Z h' t3 k3 .long 10 [.long 1, .long 3, .long 9, .long 27, .long 81, .long 243, .long 729, .long 2187, .long 6561, .long 19683] (.long 0) → Arv Z h' t4 k4 .long 10 [.long 1, .long 4, .long 16, .long 64, .long 256, .long 1024, .long 4096, .long 16384, .long 65536, .long 262144] (.long 0) → Ra Z h' aa dd kd 8 0 (stp (FP.i2d w7) (stp (FP.i2d w6) (stp (FP.i2d w5) (stp (FP.i2d w4) (stp (FP.i2d w3) (stp (FP.i2d w2) (stp (FP.i2d w1) (FP.i2d w0)))))))) [.double (FP.i2d w0), .double (FP.i2d w1), .double (FP.i2d w2), .double (FP.i2d w3), .double (FP.i2d w4), .double (FP.i2d w5), .double (FP.i2d w6), .double (FP.i2d w7), .double 0, .double 0] → own_Go pP eE below sS (QLaw n0) 24 192 (T'.setTop (mkF mM 411 #[.val (.int u0), .val (.long u1), .second, .val (.long u2), .second, .val (.long u3), .second, .val (.int nn), .val (.ref vv), .val (.ref t3), .val (.ref t4), .val (.ref aa), .unset, .unset, .unset, .unset, .unset] []))) :
    own_Go pP eE below sS (QLaw n0) 24 192 (T0.setTop (mkF mM 393 #[.val (.int u0), .val (.long u1), .second, .val (.long u2), .second, .val (.long u3), .second, .val (.int nn), .val (.ref vv), .val (.ref t3), .val (.ref t4), .val (.ref aa), .unset, .unset, .unset, .unset, .unset] [])) := by
  refine o_iload 395 X0 hx (hb hby at_393) rfl rfl ?_
  refine o_bipush 397 8 X0 hx (hb hby at_395) rfl rfl ?_
  refine o_icmpNo 400 X0 hx (hb hby at_397) (flt hn).1 rfl ?_
  refine o_aload 402 X0 hx (hb hby at_400) rfl rfl rfl ?_
  refine o_aload 404 X0 hx (hb hby at_402) rfl rfl rfl ?_
  refine o_bipush 406 7 X0 hx (hb hby at_404) rfl rfl ?_
  obtain ⟨cl270, Ar270, q270, S270, Nn270, H270, G270⟩ := id A_vv
  have hin270 : ¬ ((7 : Int32) < 0 ∨ cl270.slots.size ≤ ((7 : Int32)).toNatClampNeg) := inb_of S270 ⟨by decide, by decide⟩
  refine own_j 407 [.int w7, .ref aa] (fun t_ k_ => X0.iaload hx (j := (7 : Int32)) (v := (.int w7)) (by rw [e0]; exact Ar270.1) (State.isArrayOf_alike hZ.alike Ar270.2.1) Ar270.2.2 hin270 (H270.at hin270 rfl) (g := (mkF mM 406 #[.val (.int u0), .val (.long u1), .second, .val (.long u2), .second, .val (.long u3), .second, .val (.int nn), .val (.ref vv), .val (.ref t3), .val (.ref t4), .val (.ref aa), .unset, .unset, .unset, .unset, .unset] [.int 7, .ref vv, .ref aa])) rfl rfl (hb hby at_406) t_ k_) ?_
  refine own_j 408 [(.double (FP.i2d w7)), .ref aa] (fun t_ k_ => XS.i2dS X0.here hx rfl (hb hby at_407) rfl rfl k_) ?_
  obtain ⟨cq271, kq271, q271a, q271b, q271c⟩ := isOf hZ e0 ra.1
  obtain ⟨_, _, ⟨T271, L271, k271, n271⟩, -, X271, ⟨Lc271, hQ271, l271, y271, z271⟩, st271⟩ := X0.virtualBack hx (y := yn2) (z := yn2) hown (mvT hZ (ow hw 65 rfl)) (mvT hZ (ow hw 66 rfl)) (notFace_of_selects (args := #[]) (mvT hZ (ow hw 68 rfl))) (mvT hZ (ow hw 68 rfl)) (mvT hZ (ow hw 67 rfl)) (by decide) (backOf (W := 0) (rmA8 lL Z a0 hw [] aa dd kd (stp (FP.i2d w6) (stp (FP.i2d w5) (stp (FP.i2d w4) (stp (FP.i2d w3) (stp (FP.i2d w2) (stp (FP.i2d w1) (FP.i2d w0))))))) w0 w1 w2 w3 w4 w5 w6 w7 h0 n0 g_aa g_dd nq6 ra bl0 bu0 bl1 bu1 bl2 bu2 bl3 bu3 bl4 bu4 bl5 bu5 bl6 bu6 bl7 bu7) hZ (ow hw 69 rfl) (ow hw 27 rfl) (by decide) (by decide)) q271a q271c (g := (mkF mM 408 #[.val (.int u0), .val (.long u1), .second, .val (.long u2), .second, .val (.long u3), .second, .val (.int nn), .val (.ref vv), .val (.ref t3), .val (.ref t4), .val (.ref aa), .unset, .unset, .unset, .unset, .unset] [(.double (FP.i2d w7)), .ref aa])) rfl (by rw [hml]; rfl) (Steps.refl _) (argsL := [(.double (FP.i2d w7))]) (rest := []) (lenOf pd__28D_29V rfl) rfl (by show 2 * 0 + _ ≤ _; exact Nat.le_of_eq rfl) (hb hby at_408) (fun _ _ => ⟨rfl, e0, (by decide : 5 + 0 ≤ _), (by decide : 46 + 0 ≤ _)⟩)
  dsimp only [Pt.U, Pt.locs, Pt.cells, Pt.slots] at X271 l271 y271 z271 st271 hQ271
  have X271 := own_cs X271 5 46 y271 z271
  obtain ⟨rfl, N271q, K271, ra⟩ := hQ271
  have N271 := own_N l271 N0 N271q
  have e271 : T271.heap = T271.heap := rfl
  refine own_k T271 411 [] (fun t_ k_ => st271.trans k_) ?_
  have A_vv := A_vv.keep K271 (ninS nq0 (ninS nq1 nin0))
  have A_t3 := A_t3.keep K271 (ninS nq2 (ninS nq3 nin0))
  have A_t4 := A_t4.keep K271 (ninS nq4 (ninS nq5 nin0))
  have O := O.keep K271 (allS g_aa (allS g_dd all0))
  have Zn := Nat.le_trans Zn K271.1
  exact kont T271 _ T271.heap X271 e271 N271 O Zn A_vv A_t3 A_t4 ra
theorem SA9 (hw : own_tb a0 Z) (X0 : Stand pP lL eE room_1 sS mM args below meth cC T0 locs 5 46) (hx : pP.tables.exec = Jvm.exec) (hZ : Z.Warmed39 sS.vm) (hby : cC.code = code) (hml : cC.maxLocals = 17) (hown : sS.vm.findClass "com/example/gleanwork/gleanwork/schedule/RecentAverageAddPinLaw" = some mM.cls) (hlk : meth.locks = false) (hret : meth.sig.returnType = ret) (e0 : T0.heap = h0) (N0 : Fr n0 locs) (u0 : Int32) (u1 : Int64) (u2 : Int64) (u3 : Int64) (nn : Int32) (w0 : Int32) (w1 : Int32) (w2 : Int32) (w3 : Int32) (w4 : Int32) (w5 : Int32) (w6 : Int32) (w7 : Int32) (w8 : Int32) (w9 : Int32) (w10 : Int32) (w11 : Int32) (vv : Addr) (kv : ClassId) (t3 : Addr) (k3 : ClassId) (t4 : Addr) (k4 : ClassId) (aa : Addr) (dd : Addr) (kd : ClassId) (O : Old Z n0 h0) (Zn : n0 ≤ h0.size) (g_aa : n0 ≤ aa) (g_dd : n0 ≤ dd) (A_vv : Arv Z h0 vv kv .int 12 [.int w0, .int w1, .int w2, .int w3, .int w4, .int w5, .int w6, .int w7, .int w8, .int w9, .int w10, .int w11] (.int 0)) (A_t3 : Arv Z h0 t3 k3 .long 10 [.long 1, .long 3, .long 9, .long 27, .long 81, .long 243, .long 729, .long 2187, .long 6561, .long 19683] (.long 0)) (A_t4 : Arv Z h0 t4 k4 .long 10 [.long 1, .long 4, .long 16, .long 64, .long 256, .long 1024, .long 4096, .long 16384, .long 65536, .long 262144] (.long 0)) (nq0 : vv ≠ aa) (nq1 : vv ≠ dd) (nq2 : t3 ≠ aa) (nq3 : t3 ≠ dd) (nq4 : t4 ≠ aa) (nq5 : t4 ≠ dd) (nq6 : aa ≠ dd) (ra : Ra Z h0 aa dd kd 8 0 (stp (FP.i2d w7) (stp (FP.i2d w6) (stp (FP.i2d w5) (stp (FP.i2d w4) (stp (FP.i2d w3) (stp (FP.i2d w2) (stp (FP.i2d w1) (FP.i2d w0)))))))) [.double (FP.i2d w0), .double (FP.i2d w1), .double (FP.i2d w2), .double (FP.i2d w3), .double (FP.i2d w4), .double (FP.i2d w5), .double (FP.i2d w6), .double (FP.i2d w7), .double 0, .double 0]) (bl0 : -32768 ≤ w0.toInt) (bl1 : -32768 ≤ w1.toInt) (bl2 : -32768 ≤ w2.toInt) (bl3 : -32768 ≤ w3.toInt) (bl4 : -32768 ≤ w4.toInt) (bl5 : -32768 ≤ w5.toInt) (bl6 : -32768 ≤ w6.toInt) (bl7 : -32768 ≤ w7.toInt) (bl8 : -32768 ≤ w8.toInt) (bl9 : -32768 ≤ w9.toInt) (bl10 : -32768 ≤ w10.toInt) (bl11 : -32768 ≤ w11.toInt) (bu0 : w0.toInt ≤ 32768) (bu1 : w1.toInt ≤ 32768) (bu2 : w2.toInt ≤ 32768) (bu3 : w3.toInt ≤ 32768) (bu4 : w4.toInt ≤ 32768) (bu5 : w5.toInt ≤ 32768) (bu6 : w6.toInt ≤ 32768) (bu7 : w7.toInt ≤ 32768) (bu8 : w8.toInt ≤ 32768) (bu9 : w9.toInt ≤ 32768) (bu10 : w10.toInt ≤ 32768) (bu11 : w11.toInt ≤ 32768) (hn : ¬ nn < (9 : Int32)) (kont : ∀ (T' : State) (L' : List Loc) (h' : Heap), Stand pP lL eE room_1 sS mM args below meth cC T' L' 5 46 → T'.heap = h' → Fr n0 L' → Old Z n0 h' → n0 ≤ h'.size → Arv Z h' vv kv .int 12 [.int w0, .int w1, .int w2, .int w3, .int w4, .int w5, .int w6, .int w7, .int w8, .int w9, .int w10, .int w11] (.int 0) → Arv Z h' t3 k3 .long 10 [.long 1, .long 3, .long 9, .long 27, .long 81, .long 243, .long 729, .long 2187, .long 6561, .long 19683] (.long 0) → Arv Z h' t4 k4 .long 10 [.long 1, .long 4, .long 16, .long 64, .long 256, .long 1024, .long 4096, .long 16384, .long 65536, .long 262144] (.long 0) → Ra Z h' aa dd kd 9 0 (stp (FP.i2d w8) (stp (FP.i2d w7) (stp (FP.i2d w6) (stp (FP.i2d w5) (stp (FP.i2d w4) (stp (FP.i2d w3) (stp (FP.i2d w2) (stp (FP.i2d w1) (FP.i2d w0))))))))) [.double (FP.i2d w0), .double (FP.i2d w1), .double (FP.i2d w2), .double (FP.i2d w3), .double (FP.i2d w4), .double (FP.i2d w5), .double (FP.i2d w6), .double (FP.i2d w7), .double (FP.i2d w8), .double 0] → own_Go pP eE below sS (QLaw n0) 24 192 (T'.setTop (mkF mM 429 #[.val (.int u0), .val (.long u1), .second, .val (.long u2), .second, .val (.long u3), .second, .val (.int nn), .val (.ref vv), .val (.ref t3), .val (.ref t4), .val (.ref aa), .unset, .unset, .unset, .unset, .unset] []))) :
    own_Go pP eE below sS (QLaw n0) 24 192 (T0.setTop (mkF mM 411 #[.val (.int u0), .val (.long u1), .second, .val (.long u2), .second, .val (.long u3), .second, .val (.int nn), .val (.ref vv), .val (.ref t3), .val (.ref t4), .val (.ref aa), .unset, .unset, .unset, .unset, .unset] [])) := by
  refine o_iload 413 X0 hx (hb hby at_411) rfl rfl ?_
  refine o_bipush 415 9 X0 hx (hb hby at_413) rfl rfl ?_
  refine o_icmpNo 418 X0 hx (hb hby at_415) (flt hn).1 rfl ?_
  refine o_aload 420 X0 hx (hb hby at_418) rfl rfl rfl ?_
  refine o_aload 422 X0 hx (hb hby at_420) rfl rfl rfl ?_
  refine o_bipush 424 8 X0 hx (hb hby at_422) rfl rfl ?_
  obtain ⟨cl272, Ar272, q272, S272, Nn272, H272, G272⟩ := id A_vv
  have hin272 : ¬ ((8 : Int32) < 0 ∨ cl272.slots.size ≤ ((8 : Int32)).toNatClampNeg) := inb_of S272 ⟨by decide, by decide⟩
  refine own_j 425 [.int w8, .ref aa] (fun t_ k_ => X0.iaload hx (j := (8 : Int32)) (v := (.int w8)) (by rw [e0]; exact Ar272.1) (State.isArrayOf_alike hZ.alike Ar272.2.1) Ar272.2.2 hin272 (H272.at hin272 rfl) (g := (mkF mM 424 #[.val (.int u0), .val (.long u1), .second, .val (.long u2), .second, .val (.long u3), .second, .val (.int nn), .val (.ref vv), .val (.ref t3), .val (.ref t4), .val (.ref aa), .unset, .unset, .unset, .unset, .unset] [.int 8, .ref vv, .ref aa])) rfl rfl (hb hby at_424) t_ k_) ?_
  refine own_j 426 [(.double (FP.i2d w8)), .ref aa] (fun t_ k_ => XS.i2dS X0.here hx rfl (hb hby at_425) rfl rfl k_) ?_
  obtain ⟨cq273, kq273, q273a, q273b, q273c⟩ := isOf hZ e0 ra.1
  obtain ⟨_, _, ⟨T273, L273, k273, n273⟩, -, X273, ⟨Lc273, hQ273, l273, y273, z273⟩, st273⟩ := X0.virtualBack hx (y := yn2) (z := yn2) hown (mvT hZ (ow hw 65 rfl)) (mvT hZ (ow hw 66 rfl)) (notFace_of_selects (args := #[]) (mvT hZ (ow hw 68 rfl))) (mvT hZ (ow hw 68 rfl)) (mvT hZ (ow hw 67 rfl)) (by decide) (backOf (W := 0) (rmA9 lL Z a0 hw [] aa dd kd (stp (FP.i2d w7) (stp (FP.i2d w6) (stp (FP.i2d w5) (stp (FP.i2d w4) (stp (FP.i2d w3) (stp (FP.i2d w2) (stp (FP.i2d w1) (FP.i2d w0)))))))) w0 w1 w2 w3 w4 w5 w6 w7 w8 h0 n0 g_aa g_dd nq6 ra bl0 bu0 bl1 bu1 bl2 bu2 bl3 bu3 bl4 bu4 bl5 bu5 bl6 bu6 bl7 bu7 bl8 bu8) hZ (ow hw 69 rfl) (ow hw 27 rfl) (by decide) (by decide)) q273a q273c (g := (mkF mM 426 #[.val (.int u0), .val (.long u1), .second, .val (.long u2), .second, .val (.long u3), .second, .val (.int nn), .val (.ref vv), .val (.ref t3), .val (.ref t4), .val (.ref aa), .unset, .unset, .unset, .unset, .unset] [(.double (FP.i2d w8)), .ref aa])) rfl (by rw [hml]; rfl) (Steps.refl _) (argsL := [(.double (FP.i2d w8))]) (rest := []) (lenOf pd__28D_29V rfl) rfl (by show 2 * 0 + _ ≤ _; exact Nat.le_of_eq rfl) (hb hby at_426) (fun _ _ => ⟨rfl, e0, (by decide : 5 + 0 ≤ _), (by decide : 46 + 0 ≤ _)⟩)
  dsimp only [Pt.U, Pt.locs, Pt.cells, Pt.slots] at X273 l273 y273 z273 st273 hQ273
  have X273 := own_cs X273 5 46 y273 z273
  obtain ⟨rfl, N273q, K273, ra⟩ := hQ273
  have N273 := own_N l273 N0 N273q
  have e273 : T273.heap = T273.heap := rfl
  refine own_k T273 429 [] (fun t_ k_ => st273.trans k_) ?_
  have A_vv := A_vv.keep K273 (ninS nq0 (ninS nq1 nin0))
  have A_t3 := A_t3.keep K273 (ninS nq2 (ninS nq3 nin0))
  have A_t4 := A_t4.keep K273 (ninS nq4 (ninS nq5 nin0))
  have O := O.keep K273 (allS g_aa (allS g_dd all0))
  have Zn := Nat.le_trans Zn K273.1
  exact kont T273 _ T273.heap X273 e273 N273 O Zn A_vv A_t3 A_t4 ra
theorem SA10 (hw : own_tb a0 Z) (X0 : Stand pP lL eE room_1 sS mM args below meth cC T0 locs 5 46) (hx : pP.tables.exec = Jvm.exec) (hZ : Z.Warmed39 sS.vm) (hby : cC.code = code) (hml : cC.maxLocals = 17) (hown : sS.vm.findClass "com/example/gleanwork/gleanwork/schedule/RecentAverageAddPinLaw" = some mM.cls) (hlk : meth.locks = false) (hret : meth.sig.returnType = ret) (e0 : T0.heap = h0) (N0 : Fr n0 locs) (u0 : Int32) (u1 : Int64) (u2 : Int64) (u3 : Int64) (nn : Int32) (w0 : Int32) (w1 : Int32) (w2 : Int32) (w3 : Int32) (w4 : Int32) (w5 : Int32) (w6 : Int32) (w7 : Int32) (w8 : Int32) (w9 : Int32) (w10 : Int32) (w11 : Int32) (vv : Addr) (kv : ClassId) (t3 : Addr) (k3 : ClassId) (t4 : Addr) (k4 : ClassId) (aa : Addr) (dd : Addr) (kd : ClassId) (O : Old Z n0 h0) (Zn : n0 ≤ h0.size) (g_aa : n0 ≤ aa) (g_dd : n0 ≤ dd) (A_vv : Arv Z h0 vv kv .int 12 [.int w0, .int w1, .int w2, .int w3, .int w4, .int w5, .int w6, .int w7, .int w8, .int w9, .int w10, .int w11] (.int 0)) (A_t3 : Arv Z h0 t3 k3 .long 10 [.long 1, .long 3, .long 9, .long 27, .long 81, .long 243, .long 729, .long 2187, .long 6561, .long 19683] (.long 0)) (A_t4 : Arv Z h0 t4 k4 .long 10 [.long 1, .long 4, .long 16, .long 64, .long 256, .long 1024, .long 4096, .long 16384, .long 65536, .long 262144] (.long 0)) (nq0 : vv ≠ aa) (nq1 : vv ≠ dd) (nq2 : t3 ≠ aa) (nq3 : t3 ≠ dd) (nq4 : t4 ≠ aa) (nq5 : t4 ≠ dd) (nq6 : aa ≠ dd) (ra : Ra Z h0 aa dd kd 9 0 (stp (FP.i2d w8) (stp (FP.i2d w7) (stp (FP.i2d w6) (stp (FP.i2d w5) (stp (FP.i2d w4) (stp (FP.i2d w3) (stp (FP.i2d w2) (stp (FP.i2d w1) (FP.i2d w0))))))))) [.double (FP.i2d w0), .double (FP.i2d w1), .double (FP.i2d w2), .double (FP.i2d w3), .double (FP.i2d w4), .double (FP.i2d w5), .double (FP.i2d w6), .double (FP.i2d w7), .double (FP.i2d w8), .double 0]) (bl0 : -32768 ≤ w0.toInt) (bl1 : -32768 ≤ w1.toInt) (bl2 : -32768 ≤ w2.toInt) (bl3 : -32768 ≤ w3.toInt) (bl4 : -32768 ≤ w4.toInt) (bl5 : -32768 ≤ w5.toInt) (bl6 : -32768 ≤ w6.toInt) (bl7 : -32768 ≤ w7.toInt) (bl8 : -32768 ≤ w8.toInt) (bl9 : -32768 ≤ w9.toInt) (bl10 : -32768 ≤ w10.toInt) (bl11 : -32768 ≤ w11.toInt) (bu0 : w0.toInt ≤ 32768) (bu1 : w1.toInt ≤ 32768) (bu2 : w2.toInt ≤ 32768) (bu3 : w3.toInt ≤ 32768) (bu4 : w4.toInt ≤ 32768) (bu5 : w5.toInt ≤ 32768) (bu6 : w6.toInt ≤ 32768) (bu7 : w7.toInt ≤ 32768) (bu8 : w8.toInt ≤ 32768) (bu9 : w9.toInt ≤ 32768) (bu10 : w10.toInt ≤ 32768) (bu11 : w11.toInt ≤ 32768) (hn : ¬ nn < (10 : Int32)) (kont : ∀ (T' : State) (L' : List Loc) (h' : Heap), Stand pP lL eE room_1 sS mM args below meth cC T' L' 5 46 → T'.heap = h' → Fr n0 L' → Old Z n0 h' → n0 ≤ h'.size → Arv Z h' vv kv .int 12 [.int w0, .int w1, .int w2, .int w3, .int w4, .int w5, .int w6, .int w7, .int w8, .int w9, .int w10, .int w11] (.int 0) → Arv Z h' t3 k3 .long 10 [.long 1, .long 3, .long 9, .long 27, .long 81, .long 243, .long 729, .long 2187, .long 6561, .long 19683] (.long 0) → Arv Z h' t4 k4 .long 10 [.long 1, .long 4, .long 16, .long 64, .long 256, .long 1024, .long 4096, .long 16384, .long 65536, .long 262144] (.long 0) → Ra Z h' aa dd kd 10 0 (stp (FP.i2d w9) (stp (FP.i2d w8) (stp (FP.i2d w7) (stp (FP.i2d w6) (stp (FP.i2d w5) (stp (FP.i2d w4) (stp (FP.i2d w3) (stp (FP.i2d w2) (stp (FP.i2d w1) (FP.i2d w0)))))))))) [.double (FP.i2d w0), .double (FP.i2d w1), .double (FP.i2d w2), .double (FP.i2d w3), .double (FP.i2d w4), .double (FP.i2d w5), .double (FP.i2d w6), .double (FP.i2d w7), .double (FP.i2d w8), .double (FP.i2d w9)] → own_Go pP eE below sS (QLaw n0) 24 192 (T'.setTop (mkF mM 447 #[.val (.int u0), .val (.long u1), .second, .val (.long u2), .second, .val (.long u3), .second, .val (.int nn), .val (.ref vv), .val (.ref t3), .val (.ref t4), .val (.ref aa), .unset, .unset, .unset, .unset, .unset] []))) :
    own_Go pP eE below sS (QLaw n0) 24 192 (T0.setTop (mkF mM 429 #[.val (.int u0), .val (.long u1), .second, .val (.long u2), .second, .val (.long u3), .second, .val (.int nn), .val (.ref vv), .val (.ref t3), .val (.ref t4), .val (.ref aa), .unset, .unset, .unset, .unset, .unset] [])) := by
  refine o_iload 431 X0 hx (hb hby at_429) rfl rfl ?_
  refine o_bipush 433 10 X0 hx (hb hby at_431) rfl rfl ?_
  refine o_icmpNo 436 X0 hx (hb hby at_433) (flt hn).1 rfl ?_
  refine o_aload 438 X0 hx (hb hby at_436) rfl rfl rfl ?_
  refine o_aload 440 X0 hx (hb hby at_438) rfl rfl rfl ?_
  refine o_bipush 442 9 X0 hx (hb hby at_440) rfl rfl ?_
  obtain ⟨cl274, Ar274, q274, S274, Nn274, H274, G274⟩ := id A_vv
  have hin274 : ¬ ((9 : Int32) < 0 ∨ cl274.slots.size ≤ ((9 : Int32)).toNatClampNeg) := inb_of S274 ⟨by decide, by decide⟩
  refine own_j 443 [.int w9, .ref aa] (fun t_ k_ => X0.iaload hx (j := (9 : Int32)) (v := (.int w9)) (by rw [e0]; exact Ar274.1) (State.isArrayOf_alike hZ.alike Ar274.2.1) Ar274.2.2 hin274 (H274.at hin274 rfl) (g := (mkF mM 442 #[.val (.int u0), .val (.long u1), .second, .val (.long u2), .second, .val (.long u3), .second, .val (.int nn), .val (.ref vv), .val (.ref t3), .val (.ref t4), .val (.ref aa), .unset, .unset, .unset, .unset, .unset] [.int 9, .ref vv, .ref aa])) rfl rfl (hb hby at_442) t_ k_) ?_
  refine own_j 444 [(.double (FP.i2d w9)), .ref aa] (fun t_ k_ => XS.i2dS X0.here hx rfl (hb hby at_443) rfl rfl k_) ?_
  obtain ⟨cq275, kq275, q275a, q275b, q275c⟩ := isOf hZ e0 ra.1
  obtain ⟨_, _, ⟨T275, L275, k275, n275⟩, -, X275, ⟨Lc275, hQ275, l275, y275, z275⟩, st275⟩ := X0.virtualBack hx (y := yn2) (z := yn2) hown (mvT hZ (ow hw 65 rfl)) (mvT hZ (ow hw 66 rfl)) (notFace_of_selects (args := #[]) (mvT hZ (ow hw 68 rfl))) (mvT hZ (ow hw 68 rfl)) (mvT hZ (ow hw 67 rfl)) (by decide) (backOf (W := 0) (rmA10 lL Z a0 hw [] aa dd kd (stp (FP.i2d w8) (stp (FP.i2d w7) (stp (FP.i2d w6) (stp (FP.i2d w5) (stp (FP.i2d w4) (stp (FP.i2d w3) (stp (FP.i2d w2) (stp (FP.i2d w1) (FP.i2d w0))))))))) w0 w1 w2 w3 w4 w5 w6 w7 w8 w9 h0 n0 g_aa g_dd nq6 ra bl0 bu0 bl1 bu1 bl2 bu2 bl3 bu3 bl4 bu4 bl5 bu5 bl6 bu6 bl7 bu7 bl8 bu8 bl9 bu9) hZ (ow hw 69 rfl) (ow hw 27 rfl) (by decide) (by decide)) q275a q275c (g := (mkF mM 444 #[.val (.int u0), .val (.long u1), .second, .val (.long u2), .second, .val (.long u3), .second, .val (.int nn), .val (.ref vv), .val (.ref t3), .val (.ref t4), .val (.ref aa), .unset, .unset, .unset, .unset, .unset] [(.double (FP.i2d w9)), .ref aa])) rfl (by rw [hml]; rfl) (Steps.refl _) (argsL := [(.double (FP.i2d w9))]) (rest := []) (lenOf pd__28D_29V rfl) rfl (by show 2 * 0 + _ ≤ _; exact Nat.le_of_eq rfl) (hb hby at_444) (fun _ _ => ⟨rfl, e0, (by decide : 5 + 0 ≤ _), (by decide : 46 + 0 ≤ _)⟩)
  dsimp only [Pt.U, Pt.locs, Pt.cells, Pt.slots] at X275 l275 y275 z275 st275 hQ275
  have X275 := own_cs X275 5 46 y275 z275
  obtain ⟨rfl, N275q, K275, ra⟩ := hQ275
  have N275 := own_N l275 N0 N275q
  have e275 : T275.heap = T275.heap := rfl
  refine own_k T275 447 [] (fun t_ k_ => st275.trans k_) ?_
  have A_vv := A_vv.keep K275 (ninS nq0 (ninS nq1 nin0))
  have A_t3 := A_t3.keep K275 (ninS nq2 (ninS nq3 nin0))
  have A_t4 := A_t4.keep K275 (ninS nq4 (ninS nq5 nin0))
  have O := O.keep K275 (allS g_aa (allS g_dd all0))
  have Zn := Nat.le_trans Zn K275.1
  exact kont T275 _ T275.heap X275 e275 N275 O Zn A_vv A_t3 A_t4 ra
theorem SA11 (hw : own_tb a0 Z) (X0 : Stand pP lL eE room_1 sS mM args below meth cC T0 locs 5 46) (hx : pP.tables.exec = Jvm.exec) (hZ : Z.Warmed39 sS.vm) (hby : cC.code = code) (hml : cC.maxLocals = 17) (hown : sS.vm.findClass "com/example/gleanwork/gleanwork/schedule/RecentAverageAddPinLaw" = some mM.cls) (hlk : meth.locks = false) (hret : meth.sig.returnType = ret) (e0 : T0.heap = h0) (N0 : Fr n0 locs) (u0 : Int32) (u1 : Int64) (u2 : Int64) (u3 : Int64) (nn : Int32) (w0 : Int32) (w1 : Int32) (w2 : Int32) (w3 : Int32) (w4 : Int32) (w5 : Int32) (w6 : Int32) (w7 : Int32) (w8 : Int32) (w9 : Int32) (w10 : Int32) (w11 : Int32) (vv : Addr) (kv : ClassId) (t3 : Addr) (k3 : ClassId) (t4 : Addr) (k4 : ClassId) (aa : Addr) (dd : Addr) (kd : ClassId) (O : Old Z n0 h0) (Zn : n0 ≤ h0.size) (g_aa : n0 ≤ aa) (g_dd : n0 ≤ dd) (A_vv : Arv Z h0 vv kv .int 12 [.int w0, .int w1, .int w2, .int w3, .int w4, .int w5, .int w6, .int w7, .int w8, .int w9, .int w10, .int w11] (.int 0)) (A_t3 : Arv Z h0 t3 k3 .long 10 [.long 1, .long 3, .long 9, .long 27, .long 81, .long 243, .long 729, .long 2187, .long 6561, .long 19683] (.long 0)) (A_t4 : Arv Z h0 t4 k4 .long 10 [.long 1, .long 4, .long 16, .long 64, .long 256, .long 1024, .long 4096, .long 16384, .long 65536, .long 262144] (.long 0)) (nq0 : vv ≠ aa) (nq1 : vv ≠ dd) (nq2 : t3 ≠ aa) (nq3 : t3 ≠ dd) (nq4 : t4 ≠ aa) (nq5 : t4 ≠ dd) (nq6 : aa ≠ dd) (ra : Ra Z h0 aa dd kd 10 0 (stp (FP.i2d w9) (stp (FP.i2d w8) (stp (FP.i2d w7) (stp (FP.i2d w6) (stp (FP.i2d w5) (stp (FP.i2d w4) (stp (FP.i2d w3) (stp (FP.i2d w2) (stp (FP.i2d w1) (FP.i2d w0)))))))))) [.double (FP.i2d w0), .double (FP.i2d w1), .double (FP.i2d w2), .double (FP.i2d w3), .double (FP.i2d w4), .double (FP.i2d w5), .double (FP.i2d w6), .double (FP.i2d w7), .double (FP.i2d w8), .double (FP.i2d w9)]) (bl0 : -32768 ≤ w0.toInt) (bl1 : -32768 ≤ w1.toInt) (bl2 : -32768 ≤ w2.toInt) (bl3 : -32768 ≤ w3.toInt) (bl4 : -32768 ≤ w4.toInt) (bl5 : -32768 ≤ w5.toInt) (bl6 : -32768 ≤ w6.toInt) (bl7 : -32768 ≤ w7.toInt) (bl8 : -32768 ≤ w8.toInt) (bl9 : -32768 ≤ w9.toInt) (bl10 : -32768 ≤ w10.toInt) (bl11 : -32768 ≤ w11.toInt) (bu0 : w0.toInt ≤ 32768) (bu1 : w1.toInt ≤ 32768) (bu2 : w2.toInt ≤ 32768) (bu3 : w3.toInt ≤ 32768) (bu4 : w4.toInt ≤ 32768) (bu5 : w5.toInt ≤ 32768) (bu6 : w6.toInt ≤ 32768) (bu7 : w7.toInt ≤ 32768) (bu8 : w8.toInt ≤ 32768) (bu9 : w9.toInt ≤ 32768) (bu10 : w10.toInt ≤ 32768) (bu11 : w11.toInt ≤ 32768) (hn : ¬ nn < (11 : Int32)) (kont : ∀ (T' : State) (L' : List Loc) (h' : Heap), Stand pP lL eE room_1 sS mM args below meth cC T' L' 5 46 → T'.heap = h' → Fr n0 L' → Old Z n0 h' → n0 ≤ h'.size → Arv Z h' vv kv .int 12 [.int w0, .int w1, .int w2, .int w3, .int w4, .int w5, .int w6, .int w7, .int w8, .int w9, .int w10, .int w11] (.int 0) → Arv Z h' t3 k3 .long 10 [.long 1, .long 3, .long 9, .long 27, .long 81, .long 243, .long 729, .long 2187, .long 6561, .long 19683] (.long 0) → Arv Z h' t4 k4 .long 10 [.long 1, .long 4, .long 16, .long 64, .long 256, .long 1024, .long 4096, .long 16384, .long 65536, .long 262144] (.long 0) → Ra Z h' aa dd kd 10 1 (stp (FP.i2d w10) (stp (FP.i2d w9) (stp (FP.i2d w8) (stp (FP.i2d w7) (stp (FP.i2d w6) (stp (FP.i2d w5) (stp (FP.i2d w4) (stp (FP.i2d w3) (stp (FP.i2d w2) (FP.i2d w1)))))))))) [.double (FP.i2d w10), .double (FP.i2d w1), .double (FP.i2d w2), .double (FP.i2d w3), .double (FP.i2d w4), .double (FP.i2d w5), .double (FP.i2d w6), .double (FP.i2d w7), .double (FP.i2d w8), .double (FP.i2d w9)] → own_Go pP eE below sS (QLaw n0) 24 192 (T'.setTop (mkF mM 465 #[.val (.int u0), .val (.long u1), .second, .val (.long u2), .second, .val (.long u3), .second, .val (.int nn), .val (.ref vv), .val (.ref t3), .val (.ref t4), .val (.ref aa), .unset, .unset, .unset, .unset, .unset] []))) :
    own_Go pP eE below sS (QLaw n0) 24 192 (T0.setTop (mkF mM 447 #[.val (.int u0), .val (.long u1), .second, .val (.long u2), .second, .val (.long u3), .second, .val (.int nn), .val (.ref vv), .val (.ref t3), .val (.ref t4), .val (.ref aa), .unset, .unset, .unset, .unset, .unset] [])) := by
  refine o_iload 449 X0 hx (hb hby at_447) rfl rfl ?_
  refine o_bipush 451 11 X0 hx (hb hby at_449) rfl rfl ?_
  refine o_icmpNo 454 X0 hx (hb hby at_451) (flt hn).1 rfl ?_
  refine o_aload 456 X0 hx (hb hby at_454) rfl rfl rfl ?_
  refine o_aload 458 X0 hx (hb hby at_456) rfl rfl rfl ?_
  refine o_bipush 460 10 X0 hx (hb hby at_458) rfl rfl ?_
  obtain ⟨cl276, Ar276, q276, S276, Nn276, H276, G276⟩ := id A_vv
  have hin276 : ¬ ((10 : Int32) < 0 ∨ cl276.slots.size ≤ ((10 : Int32)).toNatClampNeg) := inb_of S276 ⟨by decide, by decide⟩
  refine own_j 461 [.int w10, .ref aa] (fun t_ k_ => X0.iaload hx (j := (10 : Int32)) (v := (.int w10)) (by rw [e0]; exact Ar276.1) (State.isArrayOf_alike hZ.alike Ar276.2.1) Ar276.2.2 hin276 (H276.at hin276 rfl) (g := (mkF mM 460 #[.val (.int u0), .val (.long u1), .second, .val (.long u2), .second, .val (.long u3), .second, .val (.int nn), .val (.ref vv), .val (.ref t3), .val (.ref t4), .val (.ref aa), .unset, .unset, .unset, .unset, .unset] [.int 10, .ref vv, .ref aa])) rfl rfl (hb hby at_460) t_ k_) ?_
  refine own_j 462 [(.double (FP.i2d w10)), .ref aa] (fun t_ k_ => XS.i2dS X0.here hx rfl (hb hby at_461) rfl rfl k_) ?_
  obtain ⟨cq277, kq277, q277a, q277b, q277c⟩ := isOf hZ e0 ra.1
  obtain ⟨_, _, ⟨T277, L277, k277, n277⟩, -, X277, ⟨Lc277, hQ277, l277, y277, z277⟩, st277⟩ := X0.virtualBack hx (y := yn2) (z := yn2) hown (mvT hZ (ow hw 65 rfl)) (mvT hZ (ow hw 66 rfl)) (notFace_of_selects (args := #[]) (mvT hZ (ow hw 68 rfl))) (mvT hZ (ow hw 68 rfl)) (mvT hZ (ow hw 67 rfl)) (by decide) (backOf (W := 0) (rmA11 lL Z a0 hw [] aa dd kd (stp (FP.i2d w9) (stp (FP.i2d w8) (stp (FP.i2d w7) (stp (FP.i2d w6) (stp (FP.i2d w5) (stp (FP.i2d w4) (stp (FP.i2d w3) (stp (FP.i2d w2) (stp (FP.i2d w1) (FP.i2d w0)))))))))) w1 w2 w3 w4 w5 w6 w7 w8 w9 w10 w0 h0 n0 g_aa g_dd nq6 ra bl1 bu1 bl2 bu2 bl3 bu3 bl4 bu4 bl5 bu5 bl6 bu6 bl7 bu7 bl8 bu8 bl9 bu9 bl10 bu10) hZ (ow hw 69 rfl) (ow hw 27 rfl) (by decide) (by decide)) q277a q277c (g := (mkF mM 462 #[.val (.int u0), .val (.long u1), .second, .val (.long u2), .second, .val (.long u3), .second, .val (.int nn), .val (.ref vv), .val (.ref t3), .val (.ref t4), .val (.ref aa), .unset, .unset, .unset, .unset, .unset] [(.double (FP.i2d w10)), .ref aa])) rfl (by rw [hml]; rfl) (Steps.refl _) (argsL := [(.double (FP.i2d w10))]) (rest := []) (lenOf pd__28D_29V rfl) rfl (by show 2 * 0 + _ ≤ _; exact Nat.le_of_eq rfl) (hb hby at_462) (fun _ _ => ⟨rfl, e0, (by decide : 5 + 0 ≤ _), (by decide : 46 + 0 ≤ _)⟩)
  dsimp only [Pt.U, Pt.locs, Pt.cells, Pt.slots] at X277 l277 y277 z277 st277 hQ277
  have X277 := own_cs X277 5 46 y277 z277
  obtain ⟨rfl, N277q, K277, ra⟩ := hQ277
  have N277 := own_N l277 N0 N277q
  have e277 : T277.heap = T277.heap := rfl
  refine own_k T277 465 [] (fun t_ k_ => st277.trans k_) ?_
  have A_vv := A_vv.keep K277 (ninS nq0 (ninS nq1 nin0))
  have A_t3 := A_t3.keep K277 (ninS nq2 (ninS nq3 nin0))
  have A_t4 := A_t4.keep K277 (ninS nq4 (ninS nq5 nin0))
  have O := O.keep K277 (allS g_aa (allS g_dd all0))
  have Zn := Nat.le_trans Zn K277.1
  exact kont T277 _ T277.heap X277 e277 N277 O Zn A_vv A_t3 A_t4 ra
theorem SA12 (hw : own_tb a0 Z) (X0 : Stand pP lL eE room_1 sS mM args below meth cC T0 locs 5 46) (hx : pP.tables.exec = Jvm.exec) (hZ : Z.Warmed39 sS.vm) (hby : cC.code = code) (hml : cC.maxLocals = 17) (hown : sS.vm.findClass "com/example/gleanwork/gleanwork/schedule/RecentAverageAddPinLaw" = some mM.cls) (hlk : meth.locks = false) (hret : meth.sig.returnType = ret) (e0 : T0.heap = h0) (N0 : Fr n0 locs) (u0 : Int32) (u1 : Int64) (u2 : Int64) (u3 : Int64) (nn : Int32) (w0 : Int32) (w1 : Int32) (w2 : Int32) (w3 : Int32) (w4 : Int32) (w5 : Int32) (w6 : Int32) (w7 : Int32) (w8 : Int32) (w9 : Int32) (w10 : Int32) (w11 : Int32) (vv : Addr) (kv : ClassId) (t3 : Addr) (k3 : ClassId) (t4 : Addr) (k4 : ClassId) (aa : Addr) (dd : Addr) (kd : ClassId) (O : Old Z n0 h0) (Zn : n0 ≤ h0.size) (g_aa : n0 ≤ aa) (g_dd : n0 ≤ dd) (A_vv : Arv Z h0 vv kv .int 12 [.int w0, .int w1, .int w2, .int w3, .int w4, .int w5, .int w6, .int w7, .int w8, .int w9, .int w10, .int w11] (.int 0)) (A_t3 : Arv Z h0 t3 k3 .long 10 [.long 1, .long 3, .long 9, .long 27, .long 81, .long 243, .long 729, .long 2187, .long 6561, .long 19683] (.long 0)) (A_t4 : Arv Z h0 t4 k4 .long 10 [.long 1, .long 4, .long 16, .long 64, .long 256, .long 1024, .long 4096, .long 16384, .long 65536, .long 262144] (.long 0)) (nq0 : vv ≠ aa) (nq1 : vv ≠ dd) (nq2 : t3 ≠ aa) (nq3 : t3 ≠ dd) (nq4 : t4 ≠ aa) (nq5 : t4 ≠ dd) (nq6 : aa ≠ dd) (ra : Ra Z h0 aa dd kd 10 1 (stp (FP.i2d w10) (stp (FP.i2d w9) (stp (FP.i2d w8) (stp (FP.i2d w7) (stp (FP.i2d w6) (stp (FP.i2d w5) (stp (FP.i2d w4) (stp (FP.i2d w3) (stp (FP.i2d w2) (FP.i2d w1)))))))))) [.double (FP.i2d w10), .double (FP.i2d w1), .double (FP.i2d w2), .double (FP.i2d w3), .double (FP.i2d w4), .double (FP.i2d w5), .double (FP.i2d w6), .double (FP.i2d w7), .double (FP.i2d w8), .double (FP.i2d w9)]) (bl0 : -32768 ≤ w0.toInt) (bl1 : -32768 ≤ w1.toInt) (bl2 : -32768 ≤ w2.toInt) (bl3 : -32768 ≤ w3.toInt) (bl4 : -32768 ≤ w4.toInt) (bl5 : -32768 ≤ w5.toInt) (bl6 : -32768 ≤ w6.toInt) (bl7 : -32768 ≤ w7.toInt) (bl8 : -32768 ≤ w8.toInt) (bl9 : -32768 ≤ w9.toInt) (bl10 : -32768 ≤ w10.toInt) (bl11 : -32768 ≤ w11.toInt) (bu0 : w0.toInt ≤ 32768) (bu1 : w1.toInt ≤ 32768) (bu2 : w2.toInt ≤ 32768) (bu3 : w3.toInt ≤ 32768) (bu4 : w4.toInt ≤ 32768) (bu5 : w5.toInt ≤ 32768) (bu6 : w6.toInt ≤ 32768) (bu7 : w7.toInt ≤ 32768) (bu8 : w8.toInt ≤ 32768) (bu9 : w9.toInt ≤ 32768) (bu10 : w10.toInt ≤ 32768) (bu11 : w11.toInt ≤ 32768) (hn : ¬ nn < (12 : Int32)) (kont : ∀ (T' : State) (L' : List Loc) (h' : Heap), Stand pP lL eE room_1 sS mM args below meth cC T' L' 5 46 → T'.heap = h' → Fr n0 L' → Old Z n0 h' → n0 ≤ h'.size → Arv Z h' vv kv .int 12 [.int w0, .int w1, .int w2, .int w3, .int w4, .int w5, .int w6, .int w7, .int w8, .int w9, .int w10, .int w11] (.int 0) → Arv Z h' t3 k3 .long 10 [.long 1, .long 3, .long 9, .long 27, .long 81, .long 243, .long 729, .long 2187, .long 6561, .long 19683] (.long 0) → Arv Z h' t4 k4 .long 10 [.long 1, .long 4, .long 16, .long 64, .long 256, .long 1024, .long 4096, .long 16384, .long 65536, .long 262144] (.long 0) → Ra Z h' aa dd kd 10 2 (stp (FP.i2d w11) (stp (FP.i2d w10) (stp (FP.i2d w9) (stp (FP.i2d w8) (stp (FP.i2d w7) (stp (FP.i2d w6) (stp (FP.i2d w5) (stp (FP.i2d w4) (stp (FP.i2d w3) (FP.i2d w2)))))))))) [.double (FP.i2d w10), .double (FP.i2d w11), .double (FP.i2d w2), .double (FP.i2d w3), .double (FP.i2d w4), .double (FP.i2d w5), .double (FP.i2d w6), .double (FP.i2d w7), .double (FP.i2d w8), .double (FP.i2d w9)] → own_Go pP eE below sS (QLaw n0) 24 192 (T'.setTop (mkF mM 483 #[.val (.int u0), .val (.long u1), .second, .val (.long u2), .second, .val (.long u3), .second, .val (.int nn), .val (.ref vv), .val (.ref t3), .val (.ref t4), .val (.ref aa), .unset, .unset, .unset, .unset, .unset] []))) :
    own_Go pP eE below sS (QLaw n0) 24 192 (T0.setTop (mkF mM 465 #[.val (.int u0), .val (.long u1), .second, .val (.long u2), .second, .val (.long u3), .second, .val (.int nn), .val (.ref vv), .val (.ref t3), .val (.ref t4), .val (.ref aa), .unset, .unset, .unset, .unset, .unset] [])) := by
  refine o_iload 467 X0 hx (hb hby at_465) rfl rfl ?_
  refine o_bipush 469 12 X0 hx (hb hby at_467) rfl rfl ?_
  refine o_icmpNo 472 X0 hx (hb hby at_469) (flt hn).1 rfl ?_
  refine o_aload 474 X0 hx (hb hby at_472) rfl rfl rfl ?_
  refine o_aload 476 X0 hx (hb hby at_474) rfl rfl rfl ?_
  refine o_bipush 478 11 X0 hx (hb hby at_476) rfl rfl ?_
  obtain ⟨cl278, Ar278, q278, S278, Nn278, H278, G278⟩ := id A_vv
  have hin278 : ¬ ((11 : Int32) < 0 ∨ cl278.slots.size ≤ ((11 : Int32)).toNatClampNeg) := inb_of S278 ⟨by decide, by decide⟩
  refine own_j 479 [.int w11, .ref aa] (fun t_ k_ => X0.iaload hx (j := (11 : Int32)) (v := (.int w11)) (by rw [e0]; exact Ar278.1) (State.isArrayOf_alike hZ.alike Ar278.2.1) Ar278.2.2 hin278 (H278.at hin278 rfl) (g := (mkF mM 478 #[.val (.int u0), .val (.long u1), .second, .val (.long u2), .second, .val (.long u3), .second, .val (.int nn), .val (.ref vv), .val (.ref t3), .val (.ref t4), .val (.ref aa), .unset, .unset, .unset, .unset, .unset] [.int 11, .ref vv, .ref aa])) rfl rfl (hb hby at_478) t_ k_) ?_
  refine own_j 480 [(.double (FP.i2d w11)), .ref aa] (fun t_ k_ => XS.i2dS X0.here hx rfl (hb hby at_479) rfl rfl k_) ?_
  obtain ⟨cq279, kq279, q279a, q279b, q279c⟩ := isOf hZ e0 ra.1
  obtain ⟨_, _, ⟨T279, L279, k279, n279⟩, -, X279, ⟨Lc279, hQ279, l279, y279, z279⟩, st279⟩ := X0.virtualBack hx (y := yn2) (z := yn2) hown (mvT hZ (ow hw 65 rfl)) (mvT hZ (ow hw 66 rfl)) (notFace_of_selects (args := #[]) (mvT hZ (ow hw 68 rfl))) (mvT hZ (ow hw 68 rfl)) (mvT hZ (ow hw 67 rfl)) (by decide) (backOf (W := 0) (rmA12 lL Z a0 hw [] aa dd kd (stp (FP.i2d w10) (stp (FP.i2d w9) (stp (FP.i2d w8) (stp (FP.i2d w7) (stp (FP.i2d w6) (stp (FP.i2d w5) (stp (FP.i2d w4) (stp (FP.i2d w3) (stp (FP.i2d w2) (FP.i2d w1)))))))))) w2 w3 w4 w5 w6 w7 w8 w9 w10 w11 w0 w1 h0 n0 g_aa g_dd nq6 ra bl2 bu2 bl3 bu3 bl4 bu4 bl5 bu5 bl6 bu6 bl7 bu7 bl8 bu8 bl9 bu9 bl10 bu10 bl11 bu11) hZ (ow hw 69 rfl) (ow hw 27 rfl) (by decide) (by decide)) q279a q279c (g := (mkF mM 480 #[.val (.int u0), .val (.long u1), .second, .val (.long u2), .second, .val (.long u3), .second, .val (.int nn), .val (.ref vv), .val (.ref t3), .val (.ref t4), .val (.ref aa), .unset, .unset, .unset, .unset, .unset] [(.double (FP.i2d w11)), .ref aa])) rfl (by rw [hml]; rfl) (Steps.refl _) (argsL := [(.double (FP.i2d w11))]) (rest := []) (lenOf pd__28D_29V rfl) rfl (by show 2 * 0 + _ ≤ _; exact Nat.le_of_eq rfl) (hb hby at_480) (fun _ _ => ⟨rfl, e0, (by decide : 5 + 0 ≤ _), (by decide : 46 + 0 ≤ _)⟩)
  dsimp only [Pt.U, Pt.locs, Pt.cells, Pt.slots] at X279 l279 y279 z279 st279 hQ279
  have X279 := own_cs X279 5 46 y279 z279
  obtain ⟨rfl, N279q, K279, ra⟩ := hQ279
  have N279 := own_N l279 N0 N279q
  have e279 : T279.heap = T279.heap := rfl
  refine own_k T279 483 [] (fun t_ k_ => st279.trans k_) ?_
  have A_vv := A_vv.keep K279 (ninS nq0 (ninS nq1 nin0))
  have A_t3 := A_t3.keep K279 (ninS nq2 (ninS nq3 nin0))
  have A_t4 := A_t4.keep K279 (ninS nq4 (ninS nq5 nin0))
  have O := O.keep K279 (allS g_aa (allS g_dd all0))
  have Zn := Nat.le_trans Zn K279.1
  exact kont T279 _ T279.heap X279 e279 N279 O Zn A_vv A_t3 A_t4 ra
theorem pd__28III_5bI_5bJ_5bJ_29J : parseMethodDescriptor "(III[I[J[J)J" = some ⟨[.int, .int, .int, (.array .int), (.array .long), (.array .long)], some .long⟩ := by decide +kernel
theorem ST2 (hw : own_tb a0 Z) (X0 : Stand pP lL eE room_1 sS mM args below meth cC T0 locs 6 48) (hx : pP.tables.exec = Jvm.exec) (hZ : Z.Warmed39 sS.vm) (hby : cC.code = code) (hml : cC.maxLocals = 17) (hown : sS.vm.findClass "com/example/gleanwork/gleanwork/schedule/RecentAverageAddPinLaw" = some mM.cls) (hlk : meth.locks = false) (hret : meth.sig.returnType = ret) (e0 : T0.heap = h0) (N0 : Fr n0 locs) (u0 : Int32) (u1 : Int64) (u2 : Int64) (u3 : Int64) (nn : Int32) (vv : Addr) (kv : ClassId) (t3 : Addr) (k3 : ClassId) (t4 : Addr) (k4 : ClassId) (aa : Addr) (mm : Int32) (pp : Addr) (ss : Int32) (sm : Int64) (lv : List Value) (l3 : List Value) (l4 : List Value) (c3 : Int64) (c4 : Int64) (wv : Int32) (A_vv : Arv Z h0 vv kv .int 12 lv (.int 0)) (A_t3 : Arv Z h0 t3 k3 .long 10 l3 (.long 0)) (A_t4 : Arv Z h0 t4 k4 .long 10 l4 (.long 0)) (hl : ¬ mm < (2 : Int32)) (b3 : ¬ (mm - (2 : Int32)) < 0 ∧ (mm - (2 : Int32)) < 10) (b4 : ¬ ((2 : Int32) - (2 : Int32)) < 0 ∧ ((2 : Int32) - (2 : Int32)) < 10) (bv : ¬ ((ss + (2 : Int32)) - (1 : Int32)) < 0 ∧ ((ss + (2 : Int32)) - (1 : Int32)) < 12) (g3 : l3.getD (mm - (2 : Int32)).toNatClampNeg (.long 0) = .long c3) (g4 : l4.getD ((2 : Int32) - (2 : Int32)).toNatClampNeg (.long 0) = .long c4) (gv : lv.getD ((ss + (2 : Int32)) - (1 : Int32)).toNatClampNeg (.int 0) = .int wv) (kont : ∀ (T' : State) (L' : List Loc), Stand pP lL eE room_1 sS mM args below meth cC T' L' 6 48 → T'.heap = h0 → Fr n0 L' → own_Go pP eE below sS (QLaw n0) 24 192 (T'.setTop (mkF mM 582 #[.val (.int u0), .val (.long u1), .second, .val (.long u2), .second, .val (.long u3), .second, .val (.int nn), .val (.ref vv), .val (.ref t3), .val (.ref t4), .val (.ref aa), .val (.int mm), .val (.ref pp), .val (.int ss), .val (.long (sm + ((c3 * c4) * (wv).toInt64))), .second] []))) :
    own_Go pP eE below sS (QLaw n0) 24 192 (T0.setTop (mkF mM 563 #[.val (.int u0), .val (.long u1), .second, .val (.long u2), .second, .val (.long u3), .second, .val (.int nn), .val (.ref vv), .val (.ref t3), .val (.ref t4), .val (.ref aa), .val (.int mm), .val (.ref pp), .val (.int ss), .val (.long sm), .second] [])) := by
  refine o_lload 565 X0 hx (hb hby at_563) rfl rfl ?_
  refine o_iconst 566 2 X0 hx (hb hby at_565) rfl rfl ?_
  refine o_iload 568 X0 hx (hb hby at_566) rfl rfl ?_
  refine o_iload 570 X0 hx (hb hby at_568) rfl rfl ?_
  refine o_aload 572 X0 hx (hb hby at_570) rfl rfl rfl ?_
  refine o_aload 574 X0 hx (hb hby at_572) rfl rfl rfl ?_
  refine o_aload 576 X0 hx (hb hby at_574) rfl rfl rfl ?_
  obtain ⟨clt3_280, Art3_280, qt3_280, St3_280, Nnt3_280, Ht3_280, Gt3_280⟩ := id A_t3
  obtain ⟨clt4_280, Art4_280, qt4_280, St4_280, Nnt4_280, Ht4_280, Gt4_280⟩ := id A_t4
  obtain ⟨clvv_280, Arvv_280, qvv_280, Svv_280, Nnvv_280, Hvv_280, Gvv_280⟩ := id A_vv
  obtain ⟨_, _, ⟨T281, L281, k281, n281⟩, -, X281, ⟨Lc281, hQ281, l281, y281, z281⟩, st281⟩ := Jvm.LawKit.callS X0 hx (y := yn11) hown (mvT hZ (ow hw 88 rfl)) (mvT hZ (ow hw 89 rfl)) (mvT hZ (ow hw 4 rfl)) (mvT hZ (ow hw 90 rfl)) (by decide) (backOf (W := 2) (rmT lL Z a0 hw [] (2 : Int32) mm ss vv t3 t4 clt3_280 clt4_280 clvv_280 c3 c4 wv h0 n0 hl Art3_280 (inb_of St3_280 b3) (Ht3_280.at (inb_of St3_280 b3) g3) Art4_280 (inb_of St4_280 b4) (Ht4_280.at (inb_of St4_280 b4) g4) Arvv_280 (inb_of Svv_280 bv) (Hvv_280.at (inb_of Svv_280 bv) gv)) hZ (ow hw 90 rfl) (ow hw 4 rfl) (by decide) (by decide)) (g := (mkF mM 576 #[.val (.int u0), .val (.long u1), .second, .val (.long u2), .second, .val (.long u3), .second, .val (.int nn), .val (.ref vv), .val (.ref t3), .val (.ref t4), .val (.ref aa), .val (.int mm), .val (.ref pp), .val (.int ss), .val (.long sm), .second] [.ref t4, .ref t3, .ref vv, .int ss, .int mm, .int 2, .long sm])) rfl (by rw [hml]; rfl) (argsL := [.int 2, .int mm, .int ss, .ref vv, .ref t3, .ref t4]) (rest := [.long sm]) (lenOf pd__28III_5bI_5bJ_5bJ_29J rfl) rfl (by show 2 * 0 + _ ≤ _; exact Nat.le_of_eq rfl) (hb hby at_576) (fun _ _ => ⟨rfl, e0, (by decide : 6 + 0 ≤ _), (by decide : 48 + 0 ≤ _)⟩)
  dsimp only [Pt.U, Pt.locs, Pt.cells, Pt.slots] at X281 l281 y281 z281 st281 hQ281
  have X281 := own_cs X281 6 48 y281 z281
  obtain ⟨rfl, N281q, e281⟩ := hQ281
  have N281 := own_N l281 N0 N281q
  refine own_k T281 579 [(.long ((c3 * c4) * (wv).toInt64)), .long sm] st281 ?_
  refine own_j 580 [(.long (sm + ((c3 * c4) * (wv).toInt64)))] (fun t_ k_ => XS.ladd X281.here hx rfl (hb hby at_579) rfl k_) ?_
  let Lv282 : Array Slot := #[.val (.int u0), .val (.long u1), .second, .val (.long u2), .second, .val (.long u3), .second, .val (.int nn), .val (.ref vv), .val (.ref t3), .val (.ref t4), .val (.ref aa), .val (.int mm), .val (.ref pp), .val (.int ss), .val (.long (sm + ((c3 * c4) * (wv).toInt64))), .second]
  refine own_st (A := T281.setTop (mkF mM 582 Lv282 [])) (fun t_ k_ => XS.lstore X281.here hx rfl (hb hby at_580) rfl (l' := Lv282) rfl k_) ?_
  exact kont T281 _ X281 e281 N281 
theorem SZ2 (hw : own_tb a0 Z) (X0 : Stand pP lL eE room_1 sS mM args below meth cC T0 locs 6 48) (hx : pP.tables.exec = Jvm.exec) (hZ : Z.Warmed39 sS.vm) (hby : cC.code = code) (hml : cC.maxLocals = 17) (hown : sS.vm.findClass "com/example/gleanwork/gleanwork/schedule/RecentAverageAddPinLaw" = some mM.cls) (hlk : meth.locks = false) (hret : meth.sig.returnType = ret) (e0 : T0.heap = h0) (N0 : Fr n0 locs) (u0 : Int32) (u1 : Int64) (u2 : Int64) (u3 : Int64) (nn : Int32) (vv : Addr) (kv : ClassId) (t3 : Addr) (k3 : ClassId) (t4 : Addr) (k4 : ClassId) (aa : Addr) (mm : Int32) (pp : Addr) (ss : Int32) (sm : Int64) (hl : mm < (2 : Int32)) (kont : ∀ (T' : State) (L' : List Loc), Stand pP lL eE room_1 sS mM args below meth cC T' L' 6 48 → T'.heap = h0 → Fr n0 L' → own_Go pP eE below sS (QLaw n0) 24 192 (T'.setTop (mkF mM 582 #[.val (.int u0), .val (.long u1), .second, .val (.long u2), .second, .val (.long u3), .second, .val (.int nn), .val (.ref vv), .val (.ref t3), .val (.ref t4), .val (.ref aa), .val (.int mm), .val (.ref pp), .val (.int ss), .val (.long (sm + (0 : Int64))), .second] []))) :
    own_Go pP eE below sS (QLaw n0) 24 192 (T0.setTop (mkF mM 563 #[.val (.int u0), .val (.long u1), .second, .val (.long u2), .second, .val (.long u3), .second, .val (.int nn), .val (.ref vv), .val (.ref t3), .val (.ref t4), .val (.ref aa), .val (.int mm), .val (.ref pp), .val (.int ss), .val (.long sm), .second] [])) := by
  refine o_lload 565 X0 hx (hb hby at_563) rfl rfl ?_
  refine o_iconst 566 2 X0 hx (hb hby at_565) rfl rfl ?_
  refine o_iload 568 X0 hx (hb hby at_566) rfl rfl ?_
  refine o_iload 570 X0 hx (hb hby at_568) rfl rfl ?_
  refine o_aload 572 X0 hx (hb hby at_570) rfl rfl rfl ?_
  refine o_aload 574 X0 hx (hb hby at_572) rfl rfl rfl ?_
  refine o_aload 576 X0 hx (hb hby at_574) rfl rfl rfl ?_
  obtain ⟨_, _, ⟨T283, L283, k283, n283⟩, -, X283, ⟨Lc283, hQ283, l283, y283, z283⟩, st283⟩ := Jvm.LawKit.callS X0 hx (y := yn11) hown (mvT hZ (ow hw 88 rfl)) (mvT hZ (ow hw 89 rfl)) (mvT hZ (ow hw 4 rfl)) (mvT hZ (ow hw 90 rfl)) (by decide) (backOf (W := 2) (rmT0 lL Z a0 hw [] (2 : Int32) mm ss vv t3 t4 h0 n0 hl) hZ (ow hw 90 rfl) (ow hw 4 rfl) (by decide) (by decide)) (g := (mkF mM 576 #[.val (.int u0), .val (.long u1), .second, .val (.long u2), .second, .val (.long u3), .second, .val (.int nn), .val (.ref vv), .val (.ref t3), .val (.ref t4), .val (.ref aa), .val (.int mm), .val (.ref pp), .val (.int ss), .val (.long sm), .second] [.ref t4, .ref t3, .ref vv, .int ss, .int mm, .int 2, .long sm])) rfl (by rw [hml]; rfl) (argsL := [.int 2, .int mm, .int ss, .ref vv, .ref t3, .ref t4]) (rest := [.long sm]) (lenOf pd__28III_5bI_5bJ_5bJ_29J rfl) rfl (by show 2 * 0 + _ ≤ _; exact Nat.le_of_eq rfl) (hb hby at_576) (fun _ _ => ⟨rfl, e0, (by decide : 6 + 0 ≤ _), (by decide : 48 + 0 ≤ _)⟩)
  dsimp only [Pt.U, Pt.locs, Pt.cells, Pt.slots] at X283 l283 y283 z283 st283 hQ283
  have X283 := own_cs X283 6 48 y283 z283
  obtain ⟨rfl, N283q, e283⟩ := hQ283
  have N283 := own_N l283 N0 N283q
  refine own_k T283 579 [.long 0, .long sm] st283 ?_
  refine own_j 580 [(.long (sm + (0 : Int64)))] (fun t_ k_ => XS.ladd X283.here hx rfl (hb hby at_579) rfl k_) ?_
  let Lv284 : Array Slot := #[.val (.int u0), .val (.long u1), .second, .val (.long u2), .second, .val (.long u3), .second, .val (.int nn), .val (.ref vv), .val (.ref t3), .val (.ref t4), .val (.ref aa), .val (.int mm), .val (.ref pp), .val (.int ss), .val (.long (sm + (0 : Int64))), .second]
  refine own_st (A := T283.setTop (mkF mM 582 Lv284 [])) (fun t_ k_ => XS.lstore X283.here hx rfl (hb hby at_580) rfl (l' := Lv284) rfl k_) ?_
  exact kont T283 _ X283 e283 N283 
theorem ST3 (hw : own_tb a0 Z) (X0 : Stand pP lL eE room_1 sS mM args below meth cC T0 locs 6 48) (hx : pP.tables.exec = Jvm.exec) (hZ : Z.Warmed39 sS.vm) (hby : cC.code = code) (hml : cC.maxLocals = 17) (hown : sS.vm.findClass "com/example/gleanwork/gleanwork/schedule/RecentAverageAddPinLaw" = some mM.cls) (hlk : meth.locks = false) (hret : meth.sig.returnType = ret) (e0 : T0.heap = h0) (N0 : Fr n0 locs) (u0 : Int32) (u1 : Int64) (u2 : Int64) (u3 : Int64) (nn : Int32) (vv : Addr) (kv : ClassId) (t3 : Addr) (k3 : ClassId) (t4 : Addr) (k4 : ClassId) (aa : Addr) (mm : Int32) (pp : Addr) (ss : Int32) (sm : Int64) (lv : List Value) (l3 : List Value) (l4 : List Value) (c3 : Int64) (c4 : Int64) (wv : Int32) (A_vv : Arv Z h0 vv kv .int 12 lv (.int 0)) (A_t3 : Arv Z h0 t3 k3 .long 10 l3 (.long 0)) (A_t4 : Arv Z h0 t4 k4 .long 10 l4 (.long 0)) (hl : ¬ mm < (3 : Int32)) (b3 : ¬ (mm - (3 : Int32)) < 0 ∧ (mm - (3 : Int32)) < 10) (b4 : ¬ ((3 : Int32) - (2 : Int32)) < 0 ∧ ((3 : Int32) - (2 : Int32)) < 10) (bv : ¬ ((ss + (3 : Int32)) - (1 : Int32)) < 0 ∧ ((ss + (3 : Int32)) - (1 : Int32)) < 12) (g3 : l3.getD (mm - (3 : Int32)).toNatClampNeg (.long 0) = .long c3) (g4 : l4.getD ((3 : Int32) - (2 : Int32)).toNatClampNeg (.long 0) = .long c4) (gv : lv.getD ((ss + (3 : Int32)) - (1 : Int32)).toNatClampNeg (.int 0) = .int wv) (kont : ∀ (T' : State) (L' : List Loc), Stand pP lL eE room_1 sS mM args below meth cC T' L' 6 48 → T'.heap = h0 → Fr n0 L' → own_Go pP eE below sS (QLaw n0) 24 192 (T'.setTop (mkF mM 601 #[.val (.int u0), .val (.long u1), .second, .val (.long u2), .second, .val (.long u3), .second, .val (.int nn), .val (.ref vv), .val (.ref t3), .val (.ref t4), .val (.ref aa), .val (.int mm), .val (.ref pp), .val (.int ss), .val (.long (sm + ((c3 * c4) * (wv).toInt64))), .second] []))) :
    own_Go pP eE below sS (QLaw n0) 24 192 (T0.setTop (mkF mM 582 #[.val (.int u0), .val (.long u1), .second, .val (.long u2), .second, .val (.long u3), .second, .val (.int nn), .val (.ref vv), .val (.ref t3), .val (.ref t4), .val (.ref aa), .val (.int mm), .val (.ref pp), .val (.int ss), .val (.long sm), .second] [])) := by
  refine o_lload 584 X0 hx (hb hby at_582) rfl rfl ?_
  refine o_iconst 585 3 X0 hx (hb hby at_584) rfl rfl ?_
  refine o_iload 587 X0 hx (hb hby at_585) rfl rfl ?_
  refine o_iload 589 X0 hx (hb hby at_587) rfl rfl ?_
  refine o_aload 591 X0 hx (hb hby at_589) rfl rfl rfl ?_
  refine o_aload 593 X0 hx (hb hby at_591) rfl rfl rfl ?_
  refine o_aload 595 X0 hx (hb hby at_593) rfl rfl rfl ?_
  obtain ⟨clt3_285, Art3_285, qt3_285, St3_285, Nnt3_285, Ht3_285, Gt3_285⟩ := id A_t3
  obtain ⟨clt4_285, Art4_285, qt4_285, St4_285, Nnt4_285, Ht4_285, Gt4_285⟩ := id A_t4
  obtain ⟨clvv_285, Arvv_285, qvv_285, Svv_285, Nnvv_285, Hvv_285, Gvv_285⟩ := id A_vv
  obtain ⟨_, _, ⟨T286, L286, k286, n286⟩, -, X286, ⟨Lc286, hQ286, l286, y286, z286⟩, st286⟩ := Jvm.LawKit.callS X0 hx (y := yn11) hown (mvT hZ (ow hw 88 rfl)) (mvT hZ (ow hw 89 rfl)) (mvT hZ (ow hw 4 rfl)) (mvT hZ (ow hw 90 rfl)) (by decide) (backOf (W := 2) (rmT lL Z a0 hw [] (3 : Int32) mm ss vv t3 t4 clt3_285 clt4_285 clvv_285 c3 c4 wv h0 n0 hl Art3_285 (inb_of St3_285 b3) (Ht3_285.at (inb_of St3_285 b3) g3) Art4_285 (inb_of St4_285 b4) (Ht4_285.at (inb_of St4_285 b4) g4) Arvv_285 (inb_of Svv_285 bv) (Hvv_285.at (inb_of Svv_285 bv) gv)) hZ (ow hw 90 rfl) (ow hw 4 rfl) (by decide) (by decide)) (g := (mkF mM 595 #[.val (.int u0), .val (.long u1), .second, .val (.long u2), .second, .val (.long u3), .second, .val (.int nn), .val (.ref vv), .val (.ref t3), .val (.ref t4), .val (.ref aa), .val (.int mm), .val (.ref pp), .val (.int ss), .val (.long sm), .second] [.ref t4, .ref t3, .ref vv, .int ss, .int mm, .int 3, .long sm])) rfl (by rw [hml]; rfl) (argsL := [.int 3, .int mm, .int ss, .ref vv, .ref t3, .ref t4]) (rest := [.long sm]) (lenOf pd__28III_5bI_5bJ_5bJ_29J rfl) rfl (by show 2 * 0 + _ ≤ _; exact Nat.le_of_eq rfl) (hb hby at_595) (fun _ _ => ⟨rfl, e0, (by decide : 6 + 0 ≤ _), (by decide : 48 + 0 ≤ _)⟩)
  dsimp only [Pt.U, Pt.locs, Pt.cells, Pt.slots] at X286 l286 y286 z286 st286 hQ286
  have X286 := own_cs X286 6 48 y286 z286
  obtain ⟨rfl, N286q, e286⟩ := hQ286
  have N286 := own_N l286 N0 N286q
  refine own_k T286 598 [(.long ((c3 * c4) * (wv).toInt64)), .long sm] st286 ?_
  refine own_j 599 [(.long (sm + ((c3 * c4) * (wv).toInt64)))] (fun t_ k_ => XS.ladd X286.here hx rfl (hb hby at_598) rfl k_) ?_
  let Lv287 : Array Slot := #[.val (.int u0), .val (.long u1), .second, .val (.long u2), .second, .val (.long u3), .second, .val (.int nn), .val (.ref vv), .val (.ref t3), .val (.ref t4), .val (.ref aa), .val (.int mm), .val (.ref pp), .val (.int ss), .val (.long (sm + ((c3 * c4) * (wv).toInt64))), .second]
  refine own_st (A := T286.setTop (mkF mM 601 Lv287 [])) (fun t_ k_ => XS.lstore X286.here hx rfl (hb hby at_599) rfl (l' := Lv287) rfl k_) ?_
  exact kont T286 _ X286 e286 N286 
theorem SZ3 (hw : own_tb a0 Z) (X0 : Stand pP lL eE room_1 sS mM args below meth cC T0 locs 6 48) (hx : pP.tables.exec = Jvm.exec) (hZ : Z.Warmed39 sS.vm) (hby : cC.code = code) (hml : cC.maxLocals = 17) (hown : sS.vm.findClass "com/example/gleanwork/gleanwork/schedule/RecentAverageAddPinLaw" = some mM.cls) (hlk : meth.locks = false) (hret : meth.sig.returnType = ret) (e0 : T0.heap = h0) (N0 : Fr n0 locs) (u0 : Int32) (u1 : Int64) (u2 : Int64) (u3 : Int64) (nn : Int32) (vv : Addr) (kv : ClassId) (t3 : Addr) (k3 : ClassId) (t4 : Addr) (k4 : ClassId) (aa : Addr) (mm : Int32) (pp : Addr) (ss : Int32) (sm : Int64) (hl : mm < (3 : Int32)) (kont : ∀ (T' : State) (L' : List Loc), Stand pP lL eE room_1 sS mM args below meth cC T' L' 6 48 → T'.heap = h0 → Fr n0 L' → own_Go pP eE below sS (QLaw n0) 24 192 (T'.setTop (mkF mM 601 #[.val (.int u0), .val (.long u1), .second, .val (.long u2), .second, .val (.long u3), .second, .val (.int nn), .val (.ref vv), .val (.ref t3), .val (.ref t4), .val (.ref aa), .val (.int mm), .val (.ref pp), .val (.int ss), .val (.long (sm + (0 : Int64))), .second] []))) :
    own_Go pP eE below sS (QLaw n0) 24 192 (T0.setTop (mkF mM 582 #[.val (.int u0), .val (.long u1), .second, .val (.long u2), .second, .val (.long u3), .second, .val (.int nn), .val (.ref vv), .val (.ref t3), .val (.ref t4), .val (.ref aa), .val (.int mm), .val (.ref pp), .val (.int ss), .val (.long sm), .second] [])) := by
  refine o_lload 584 X0 hx (hb hby at_582) rfl rfl ?_
  refine o_iconst 585 3 X0 hx (hb hby at_584) rfl rfl ?_
  refine o_iload 587 X0 hx (hb hby at_585) rfl rfl ?_
  refine o_iload 589 X0 hx (hb hby at_587) rfl rfl ?_
  refine o_aload 591 X0 hx (hb hby at_589) rfl rfl rfl ?_
  refine o_aload 593 X0 hx (hb hby at_591) rfl rfl rfl ?_
  refine o_aload 595 X0 hx (hb hby at_593) rfl rfl rfl ?_
  obtain ⟨_, _, ⟨T288, L288, k288, n288⟩, -, X288, ⟨Lc288, hQ288, l288, y288, z288⟩, st288⟩ := Jvm.LawKit.callS X0 hx (y := yn11) hown (mvT hZ (ow hw 88 rfl)) (mvT hZ (ow hw 89 rfl)) (mvT hZ (ow hw 4 rfl)) (mvT hZ (ow hw 90 rfl)) (by decide) (backOf (W := 2) (rmT0 lL Z a0 hw [] (3 : Int32) mm ss vv t3 t4 h0 n0 hl) hZ (ow hw 90 rfl) (ow hw 4 rfl) (by decide) (by decide)) (g := (mkF mM 595 #[.val (.int u0), .val (.long u1), .second, .val (.long u2), .second, .val (.long u3), .second, .val (.int nn), .val (.ref vv), .val (.ref t3), .val (.ref t4), .val (.ref aa), .val (.int mm), .val (.ref pp), .val (.int ss), .val (.long sm), .second] [.ref t4, .ref t3, .ref vv, .int ss, .int mm, .int 3, .long sm])) rfl (by rw [hml]; rfl) (argsL := [.int 3, .int mm, .int ss, .ref vv, .ref t3, .ref t4]) (rest := [.long sm]) (lenOf pd__28III_5bI_5bJ_5bJ_29J rfl) rfl (by show 2 * 0 + _ ≤ _; exact Nat.le_of_eq rfl) (hb hby at_595) (fun _ _ => ⟨rfl, e0, (by decide : 6 + 0 ≤ _), (by decide : 48 + 0 ≤ _)⟩)
  dsimp only [Pt.U, Pt.locs, Pt.cells, Pt.slots] at X288 l288 y288 z288 st288 hQ288
  have X288 := own_cs X288 6 48 y288 z288
  obtain ⟨rfl, N288q, e288⟩ := hQ288
  have N288 := own_N l288 N0 N288q
  refine own_k T288 598 [.long 0, .long sm] st288 ?_
  refine own_j 599 [(.long (sm + (0 : Int64)))] (fun t_ k_ => XS.ladd X288.here hx rfl (hb hby at_598) rfl k_) ?_
  let Lv289 : Array Slot := #[.val (.int u0), .val (.long u1), .second, .val (.long u2), .second, .val (.long u3), .second, .val (.int nn), .val (.ref vv), .val (.ref t3), .val (.ref t4), .val (.ref aa), .val (.int mm), .val (.ref pp), .val (.int ss), .val (.long (sm + (0 : Int64))), .second]
  refine own_st (A := T288.setTop (mkF mM 601 Lv289 [])) (fun t_ k_ => XS.lstore X288.here hx rfl (hb hby at_599) rfl (l' := Lv289) rfl k_) ?_
  exact kont T288 _ X288 e288 N288 
theorem ST4 (hw : own_tb a0 Z) (X0 : Stand pP lL eE room_1 sS mM args below meth cC T0 locs 6 48) (hx : pP.tables.exec = Jvm.exec) (hZ : Z.Warmed39 sS.vm) (hby : cC.code = code) (hml : cC.maxLocals = 17) (hown : sS.vm.findClass "com/example/gleanwork/gleanwork/schedule/RecentAverageAddPinLaw" = some mM.cls) (hlk : meth.locks = false) (hret : meth.sig.returnType = ret) (e0 : T0.heap = h0) (N0 : Fr n0 locs) (u0 : Int32) (u1 : Int64) (u2 : Int64) (u3 : Int64) (nn : Int32) (vv : Addr) (kv : ClassId) (t3 : Addr) (k3 : ClassId) (t4 : Addr) (k4 : ClassId) (aa : Addr) (mm : Int32) (pp : Addr) (ss : Int32) (sm : Int64) (lv : List Value) (l3 : List Value) (l4 : List Value) (c3 : Int64) (c4 : Int64) (wv : Int32) (A_vv : Arv Z h0 vv kv .int 12 lv (.int 0)) (A_t3 : Arv Z h0 t3 k3 .long 10 l3 (.long 0)) (A_t4 : Arv Z h0 t4 k4 .long 10 l4 (.long 0)) (hl : ¬ mm < (4 : Int32)) (b3 : ¬ (mm - (4 : Int32)) < 0 ∧ (mm - (4 : Int32)) < 10) (b4 : ¬ ((4 : Int32) - (2 : Int32)) < 0 ∧ ((4 : Int32) - (2 : Int32)) < 10) (bv : ¬ ((ss + (4 : Int32)) - (1 : Int32)) < 0 ∧ ((ss + (4 : Int32)) - (1 : Int32)) < 12) (g3 : l3.getD (mm - (4 : Int32)).toNatClampNeg (.long 0) = .long c3) (g4 : l4.getD ((4 : Int32) - (2 : Int32)).toNatClampNeg (.long 0) = .long c4) (gv : lv.getD ((ss + (4 : Int32)) - (1 : Int32)).toNatClampNeg (.int 0) = .int wv) (kont : ∀ (T' : State) (L' : List Loc), Stand pP lL eE room_1 sS mM args below meth cC T' L' 6 48 → T'.heap = h0 → Fr n0 L' → own_Go pP eE below sS (QLaw n0) 24 192 (T'.setTop (mkF mM 620 #[.val (.int u0), .val (.long u1), .second, .val (.long u2), .second, .val (.long u3), .second, .val (.int nn), .val (.ref vv), .val (.ref t3), .val (.ref t4), .val (.ref aa), .val (.int mm), .val (.ref pp), .val (.int ss), .val (.long (sm + ((c3 * c4) * (wv).toInt64))), .second] []))) :
    own_Go pP eE below sS (QLaw n0) 24 192 (T0.setTop (mkF mM 601 #[.val (.int u0), .val (.long u1), .second, .val (.long u2), .second, .val (.long u3), .second, .val (.int nn), .val (.ref vv), .val (.ref t3), .val (.ref t4), .val (.ref aa), .val (.int mm), .val (.ref pp), .val (.int ss), .val (.long sm), .second] [])) := by
  refine o_lload 603 X0 hx (hb hby at_601) rfl rfl ?_
  refine o_iconst 604 4 X0 hx (hb hby at_603) rfl rfl ?_
  refine o_iload 606 X0 hx (hb hby at_604) rfl rfl ?_
  refine o_iload 608 X0 hx (hb hby at_606) rfl rfl ?_
  refine o_aload 610 X0 hx (hb hby at_608) rfl rfl rfl ?_
  refine o_aload 612 X0 hx (hb hby at_610) rfl rfl rfl ?_
  refine o_aload 614 X0 hx (hb hby at_612) rfl rfl rfl ?_
  obtain ⟨clt3_290, Art3_290, qt3_290, St3_290, Nnt3_290, Ht3_290, Gt3_290⟩ := id A_t3
  obtain ⟨clt4_290, Art4_290, qt4_290, St4_290, Nnt4_290, Ht4_290, Gt4_290⟩ := id A_t4
  obtain ⟨clvv_290, Arvv_290, qvv_290, Svv_290, Nnvv_290, Hvv_290, Gvv_290⟩ := id A_vv
  obtain ⟨_, _, ⟨T291, L291, k291, n291⟩, -, X291, ⟨Lc291, hQ291, l291, y291, z291⟩, st291⟩ := Jvm.LawKit.callS X0 hx (y := yn11) hown (mvT hZ (ow hw 88 rfl)) (mvT hZ (ow hw 89 rfl)) (mvT hZ (ow hw 4 rfl)) (mvT hZ (ow hw 90 rfl)) (by decide) (backOf (W := 2) (rmT lL Z a0 hw [] (4 : Int32) mm ss vv t3 t4 clt3_290 clt4_290 clvv_290 c3 c4 wv h0 n0 hl Art3_290 (inb_of St3_290 b3) (Ht3_290.at (inb_of St3_290 b3) g3) Art4_290 (inb_of St4_290 b4) (Ht4_290.at (inb_of St4_290 b4) g4) Arvv_290 (inb_of Svv_290 bv) (Hvv_290.at (inb_of Svv_290 bv) gv)) hZ (ow hw 90 rfl) (ow hw 4 rfl) (by decide) (by decide)) (g := (mkF mM 614 #[.val (.int u0), .val (.long u1), .second, .val (.long u2), .second, .val (.long u3), .second, .val (.int nn), .val (.ref vv), .val (.ref t3), .val (.ref t4), .val (.ref aa), .val (.int mm), .val (.ref pp), .val (.int ss), .val (.long sm), .second] [.ref t4, .ref t3, .ref vv, .int ss, .int mm, .int 4, .long sm])) rfl (by rw [hml]; rfl) (argsL := [.int 4, .int mm, .int ss, .ref vv, .ref t3, .ref t4]) (rest := [.long sm]) (lenOf pd__28III_5bI_5bJ_5bJ_29J rfl) rfl (by show 2 * 0 + _ ≤ _; exact Nat.le_of_eq rfl) (hb hby at_614) (fun _ _ => ⟨rfl, e0, (by decide : 6 + 0 ≤ _), (by decide : 48 + 0 ≤ _)⟩)
  dsimp only [Pt.U, Pt.locs, Pt.cells, Pt.slots] at X291 l291 y291 z291 st291 hQ291
  have X291 := own_cs X291 6 48 y291 z291
  obtain ⟨rfl, N291q, e291⟩ := hQ291
  have N291 := own_N l291 N0 N291q
  refine own_k T291 617 [(.long ((c3 * c4) * (wv).toInt64)), .long sm] st291 ?_
  refine own_j 618 [(.long (sm + ((c3 * c4) * (wv).toInt64)))] (fun t_ k_ => XS.ladd X291.here hx rfl (hb hby at_617) rfl k_) ?_
  let Lv292 : Array Slot := #[.val (.int u0), .val (.long u1), .second, .val (.long u2), .second, .val (.long u3), .second, .val (.int nn), .val (.ref vv), .val (.ref t3), .val (.ref t4), .val (.ref aa), .val (.int mm), .val (.ref pp), .val (.int ss), .val (.long (sm + ((c3 * c4) * (wv).toInt64))), .second]
  refine own_st (A := T291.setTop (mkF mM 620 Lv292 [])) (fun t_ k_ => XS.lstore X291.here hx rfl (hb hby at_618) rfl (l' := Lv292) rfl k_) ?_
  exact kont T291 _ X291 e291 N291 
theorem SZ4 (hw : own_tb a0 Z) (X0 : Stand pP lL eE room_1 sS mM args below meth cC T0 locs 6 48) (hx : pP.tables.exec = Jvm.exec) (hZ : Z.Warmed39 sS.vm) (hby : cC.code = code) (hml : cC.maxLocals = 17) (hown : sS.vm.findClass "com/example/gleanwork/gleanwork/schedule/RecentAverageAddPinLaw" = some mM.cls) (hlk : meth.locks = false) (hret : meth.sig.returnType = ret) (e0 : T0.heap = h0) (N0 : Fr n0 locs) (u0 : Int32) (u1 : Int64) (u2 : Int64) (u3 : Int64) (nn : Int32) (vv : Addr) (kv : ClassId) (t3 : Addr) (k3 : ClassId) (t4 : Addr) (k4 : ClassId) (aa : Addr) (mm : Int32) (pp : Addr) (ss : Int32) (sm : Int64) (hl : mm < (4 : Int32)) (kont : ∀ (T' : State) (L' : List Loc), Stand pP lL eE room_1 sS mM args below meth cC T' L' 6 48 → T'.heap = h0 → Fr n0 L' → own_Go pP eE below sS (QLaw n0) 24 192 (T'.setTop (mkF mM 620 #[.val (.int u0), .val (.long u1), .second, .val (.long u2), .second, .val (.long u3), .second, .val (.int nn), .val (.ref vv), .val (.ref t3), .val (.ref t4), .val (.ref aa), .val (.int mm), .val (.ref pp), .val (.int ss), .val (.long (sm + (0 : Int64))), .second] []))) :
    own_Go pP eE below sS (QLaw n0) 24 192 (T0.setTop (mkF mM 601 #[.val (.int u0), .val (.long u1), .second, .val (.long u2), .second, .val (.long u3), .second, .val (.int nn), .val (.ref vv), .val (.ref t3), .val (.ref t4), .val (.ref aa), .val (.int mm), .val (.ref pp), .val (.int ss), .val (.long sm), .second] [])) := by
  refine o_lload 603 X0 hx (hb hby at_601) rfl rfl ?_
  refine o_iconst 604 4 X0 hx (hb hby at_603) rfl rfl ?_
  refine o_iload 606 X0 hx (hb hby at_604) rfl rfl ?_
  refine o_iload 608 X0 hx (hb hby at_606) rfl rfl ?_
  refine o_aload 610 X0 hx (hb hby at_608) rfl rfl rfl ?_
  refine o_aload 612 X0 hx (hb hby at_610) rfl rfl rfl ?_
  refine o_aload 614 X0 hx (hb hby at_612) rfl rfl rfl ?_
  obtain ⟨_, _, ⟨T293, L293, k293, n293⟩, -, X293, ⟨Lc293, hQ293, l293, y293, z293⟩, st293⟩ := Jvm.LawKit.callS X0 hx (y := yn11) hown (mvT hZ (ow hw 88 rfl)) (mvT hZ (ow hw 89 rfl)) (mvT hZ (ow hw 4 rfl)) (mvT hZ (ow hw 90 rfl)) (by decide) (backOf (W := 2) (rmT0 lL Z a0 hw [] (4 : Int32) mm ss vv t3 t4 h0 n0 hl) hZ (ow hw 90 rfl) (ow hw 4 rfl) (by decide) (by decide)) (g := (mkF mM 614 #[.val (.int u0), .val (.long u1), .second, .val (.long u2), .second, .val (.long u3), .second, .val (.int nn), .val (.ref vv), .val (.ref t3), .val (.ref t4), .val (.ref aa), .val (.int mm), .val (.ref pp), .val (.int ss), .val (.long sm), .second] [.ref t4, .ref t3, .ref vv, .int ss, .int mm, .int 4, .long sm])) rfl (by rw [hml]; rfl) (argsL := [.int 4, .int mm, .int ss, .ref vv, .ref t3, .ref t4]) (rest := [.long sm]) (lenOf pd__28III_5bI_5bJ_5bJ_29J rfl) rfl (by show 2 * 0 + _ ≤ _; exact Nat.le_of_eq rfl) (hb hby at_614) (fun _ _ => ⟨rfl, e0, (by decide : 6 + 0 ≤ _), (by decide : 48 + 0 ≤ _)⟩)
  dsimp only [Pt.U, Pt.locs, Pt.cells, Pt.slots] at X293 l293 y293 z293 st293 hQ293
  have X293 := own_cs X293 6 48 y293 z293
  obtain ⟨rfl, N293q, e293⟩ := hQ293
  have N293 := own_N l293 N0 N293q
  refine own_k T293 617 [.long 0, .long sm] st293 ?_
  refine own_j 618 [(.long (sm + (0 : Int64)))] (fun t_ k_ => XS.ladd X293.here hx rfl (hb hby at_617) rfl k_) ?_
  let Lv294 : Array Slot := #[.val (.int u0), .val (.long u1), .second, .val (.long u2), .second, .val (.long u3), .second, .val (.int nn), .val (.ref vv), .val (.ref t3), .val (.ref t4), .val (.ref aa), .val (.int mm), .val (.ref pp), .val (.int ss), .val (.long (sm + (0 : Int64))), .second]
  refine own_st (A := T293.setTop (mkF mM 620 Lv294 [])) (fun t_ k_ => XS.lstore X293.here hx rfl (hb hby at_618) rfl (l' := Lv294) rfl k_) ?_
  exact kont T293 _ X293 e293 N293 
theorem ST5 (hw : own_tb a0 Z) (X0 : Stand pP lL eE room_1 sS mM args below meth cC T0 locs 6 48) (hx : pP.tables.exec = Jvm.exec) (hZ : Z.Warmed39 sS.vm) (hby : cC.code = code) (hml : cC.maxLocals = 17) (hown : sS.vm.findClass "com/example/gleanwork/gleanwork/schedule/RecentAverageAddPinLaw" = some mM.cls) (hlk : meth.locks = false) (hret : meth.sig.returnType = ret) (e0 : T0.heap = h0) (N0 : Fr n0 locs) (u0 : Int32) (u1 : Int64) (u2 : Int64) (u3 : Int64) (nn : Int32) (vv : Addr) (kv : ClassId) (t3 : Addr) (k3 : ClassId) (t4 : Addr) (k4 : ClassId) (aa : Addr) (mm : Int32) (pp : Addr) (ss : Int32) (sm : Int64) (lv : List Value) (l3 : List Value) (l4 : List Value) (c3 : Int64) (c4 : Int64) (wv : Int32) (A_vv : Arv Z h0 vv kv .int 12 lv (.int 0)) (A_t3 : Arv Z h0 t3 k3 .long 10 l3 (.long 0)) (A_t4 : Arv Z h0 t4 k4 .long 10 l4 (.long 0)) (hl : ¬ mm < (5 : Int32)) (b3 : ¬ (mm - (5 : Int32)) < 0 ∧ (mm - (5 : Int32)) < 10) (b4 : ¬ ((5 : Int32) - (2 : Int32)) < 0 ∧ ((5 : Int32) - (2 : Int32)) < 10) (bv : ¬ ((ss + (5 : Int32)) - (1 : Int32)) < 0 ∧ ((ss + (5 : Int32)) - (1 : Int32)) < 12) (g3 : l3.getD (mm - (5 : Int32)).toNatClampNeg (.long 0) = .long c3) (g4 : l4.getD ((5 : Int32) - (2 : Int32)).toNatClampNeg (.long 0) = .long c4) (gv : lv.getD ((ss + (5 : Int32)) - (1 : Int32)).toNatClampNeg (.int 0) = .int wv) (kont : ∀ (T' : State) (L' : List Loc), Stand pP lL eE room_1 sS mM args below meth cC T' L' 6 48 → T'.heap = h0 → Fr n0 L' → own_Go pP eE below sS (QLaw n0) 24 192 (T'.setTop (mkF mM 639 #[.val (.int u0), .val (.long u1), .second, .val (.long u2), .second, .val (.long u3), .second, .val (.int nn), .val (.ref vv), .val (.ref t3), .val (.ref t4), .val (.ref aa), .val (.int mm), .val (.ref pp), .val (.int ss), .val (.long (sm + ((c3 * c4) * (wv).toInt64))), .second] []))) :
    own_Go pP eE below sS (QLaw n0) 24 192 (T0.setTop (mkF mM 620 #[.val (.int u0), .val (.long u1), .second, .val (.long u2), .second, .val (.long u3), .second, .val (.int nn), .val (.ref vv), .val (.ref t3), .val (.ref t4), .val (.ref aa), .val (.int mm), .val (.ref pp), .val (.int ss), .val (.long sm), .second] [])) := by
  refine o_lload 622 X0 hx (hb hby at_620) rfl rfl ?_
  refine o_iconst 623 5 X0 hx (hb hby at_622) rfl rfl ?_
  refine o_iload 625 X0 hx (hb hby at_623) rfl rfl ?_
  refine o_iload 627 X0 hx (hb hby at_625) rfl rfl ?_
  refine o_aload 629 X0 hx (hb hby at_627) rfl rfl rfl ?_
  refine o_aload 631 X0 hx (hb hby at_629) rfl rfl rfl ?_
  refine o_aload 633 X0 hx (hb hby at_631) rfl rfl rfl ?_
  obtain ⟨clt3_295, Art3_295, qt3_295, St3_295, Nnt3_295, Ht3_295, Gt3_295⟩ := id A_t3
  obtain ⟨clt4_295, Art4_295, qt4_295, St4_295, Nnt4_295, Ht4_295, Gt4_295⟩ := id A_t4
  obtain ⟨clvv_295, Arvv_295, qvv_295, Svv_295, Nnvv_295, Hvv_295, Gvv_295⟩ := id A_vv
  obtain ⟨_, _, ⟨T296, L296, k296, n296⟩, -, X296, ⟨Lc296, hQ296, l296, y296, z296⟩, st296⟩ := Jvm.LawKit.callS X0 hx (y := yn11) hown (mvT hZ (ow hw 88 rfl)) (mvT hZ (ow hw 89 rfl)) (mvT hZ (ow hw 4 rfl)) (mvT hZ (ow hw 90 rfl)) (by decide) (backOf (W := 2) (rmT lL Z a0 hw [] (5 : Int32) mm ss vv t3 t4 clt3_295 clt4_295 clvv_295 c3 c4 wv h0 n0 hl Art3_295 (inb_of St3_295 b3) (Ht3_295.at (inb_of St3_295 b3) g3) Art4_295 (inb_of St4_295 b4) (Ht4_295.at (inb_of St4_295 b4) g4) Arvv_295 (inb_of Svv_295 bv) (Hvv_295.at (inb_of Svv_295 bv) gv)) hZ (ow hw 90 rfl) (ow hw 4 rfl) (by decide) (by decide)) (g := (mkF mM 633 #[.val (.int u0), .val (.long u1), .second, .val (.long u2), .second, .val (.long u3), .second, .val (.int nn), .val (.ref vv), .val (.ref t3), .val (.ref t4), .val (.ref aa), .val (.int mm), .val (.ref pp), .val (.int ss), .val (.long sm), .second] [.ref t4, .ref t3, .ref vv, .int ss, .int mm, .int 5, .long sm])) rfl (by rw [hml]; rfl) (argsL := [.int 5, .int mm, .int ss, .ref vv, .ref t3, .ref t4]) (rest := [.long sm]) (lenOf pd__28III_5bI_5bJ_5bJ_29J rfl) rfl (by show 2 * 0 + _ ≤ _; exact Nat.le_of_eq rfl) (hb hby at_633) (fun _ _ => ⟨rfl, e0, (by decide : 6 + 0 ≤ _), (by decide : 48 + 0 ≤ _)⟩)
  dsimp only [Pt.U, Pt.locs, Pt.cells, Pt.slots] at X296 l296 y296 z296 st296 hQ296
  have X296 := own_cs X296 6 48 y296 z296
  obtain ⟨rfl, N296q, e296⟩ := hQ296
  have N296 := own_N l296 N0 N296q
  refine own_k T296 636 [(.long ((c3 * c4) * (wv).toInt64)), .long sm] st296 ?_
  refine own_j 637 [(.long (sm + ((c3 * c4) * (wv).toInt64)))] (fun t_ k_ => XS.ladd X296.here hx rfl (hb hby at_636) rfl k_) ?_
  let Lv297 : Array Slot := #[.val (.int u0), .val (.long u1), .second, .val (.long u2), .second, .val (.long u3), .second, .val (.int nn), .val (.ref vv), .val (.ref t3), .val (.ref t4), .val (.ref aa), .val (.int mm), .val (.ref pp), .val (.int ss), .val (.long (sm + ((c3 * c4) * (wv).toInt64))), .second]
  refine own_st (A := T296.setTop (mkF mM 639 Lv297 [])) (fun t_ k_ => XS.lstore X296.here hx rfl (hb hby at_637) rfl (l' := Lv297) rfl k_) ?_
  exact kont T296 _ X296 e296 N296 
theorem SZ5 (hw : own_tb a0 Z) (X0 : Stand pP lL eE room_1 sS mM args below meth cC T0 locs 6 48) (hx : pP.tables.exec = Jvm.exec) (hZ : Z.Warmed39 sS.vm) (hby : cC.code = code) (hml : cC.maxLocals = 17) (hown : sS.vm.findClass "com/example/gleanwork/gleanwork/schedule/RecentAverageAddPinLaw" = some mM.cls) (hlk : meth.locks = false) (hret : meth.sig.returnType = ret) (e0 : T0.heap = h0) (N0 : Fr n0 locs) (u0 : Int32) (u1 : Int64) (u2 : Int64) (u3 : Int64) (nn : Int32) (vv : Addr) (kv : ClassId) (t3 : Addr) (k3 : ClassId) (t4 : Addr) (k4 : ClassId) (aa : Addr) (mm : Int32) (pp : Addr) (ss : Int32) (sm : Int64) (hl : mm < (5 : Int32)) (kont : ∀ (T' : State) (L' : List Loc), Stand pP lL eE room_1 sS mM args below meth cC T' L' 6 48 → T'.heap = h0 → Fr n0 L' → own_Go pP eE below sS (QLaw n0) 24 192 (T'.setTop (mkF mM 639 #[.val (.int u0), .val (.long u1), .second, .val (.long u2), .second, .val (.long u3), .second, .val (.int nn), .val (.ref vv), .val (.ref t3), .val (.ref t4), .val (.ref aa), .val (.int mm), .val (.ref pp), .val (.int ss), .val (.long (sm + (0 : Int64))), .second] []))) :
    own_Go pP eE below sS (QLaw n0) 24 192 (T0.setTop (mkF mM 620 #[.val (.int u0), .val (.long u1), .second, .val (.long u2), .second, .val (.long u3), .second, .val (.int nn), .val (.ref vv), .val (.ref t3), .val (.ref t4), .val (.ref aa), .val (.int mm), .val (.ref pp), .val (.int ss), .val (.long sm), .second] [])) := by
  refine o_lload 622 X0 hx (hb hby at_620) rfl rfl ?_
  refine o_iconst 623 5 X0 hx (hb hby at_622) rfl rfl ?_
  refine o_iload 625 X0 hx (hb hby at_623) rfl rfl ?_
  refine o_iload 627 X0 hx (hb hby at_625) rfl rfl ?_
  refine o_aload 629 X0 hx (hb hby at_627) rfl rfl rfl ?_
  refine o_aload 631 X0 hx (hb hby at_629) rfl rfl rfl ?_
  refine o_aload 633 X0 hx (hb hby at_631) rfl rfl rfl ?_
  obtain ⟨_, _, ⟨T298, L298, k298, n298⟩, -, X298, ⟨Lc298, hQ298, l298, y298, z298⟩, st298⟩ := Jvm.LawKit.callS X0 hx (y := yn11) hown (mvT hZ (ow hw 88 rfl)) (mvT hZ (ow hw 89 rfl)) (mvT hZ (ow hw 4 rfl)) (mvT hZ (ow hw 90 rfl)) (by decide) (backOf (W := 2) (rmT0 lL Z a0 hw [] (5 : Int32) mm ss vv t3 t4 h0 n0 hl) hZ (ow hw 90 rfl) (ow hw 4 rfl) (by decide) (by decide)) (g := (mkF mM 633 #[.val (.int u0), .val (.long u1), .second, .val (.long u2), .second, .val (.long u3), .second, .val (.int nn), .val (.ref vv), .val (.ref t3), .val (.ref t4), .val (.ref aa), .val (.int mm), .val (.ref pp), .val (.int ss), .val (.long sm), .second] [.ref t4, .ref t3, .ref vv, .int ss, .int mm, .int 5, .long sm])) rfl (by rw [hml]; rfl) (argsL := [.int 5, .int mm, .int ss, .ref vv, .ref t3, .ref t4]) (rest := [.long sm]) (lenOf pd__28III_5bI_5bJ_5bJ_29J rfl) rfl (by show 2 * 0 + _ ≤ _; exact Nat.le_of_eq rfl) (hb hby at_633) (fun _ _ => ⟨rfl, e0, (by decide : 6 + 0 ≤ _), (by decide : 48 + 0 ≤ _)⟩)
  dsimp only [Pt.U, Pt.locs, Pt.cells, Pt.slots] at X298 l298 y298 z298 st298 hQ298
  have X298 := own_cs X298 6 48 y298 z298
  obtain ⟨rfl, N298q, e298⟩ := hQ298
  have N298 := own_N l298 N0 N298q
  refine own_k T298 636 [.long 0, .long sm] st298 ?_
  refine own_j 637 [(.long (sm + (0 : Int64)))] (fun t_ k_ => XS.ladd X298.here hx rfl (hb hby at_636) rfl k_) ?_
  let Lv299 : Array Slot := #[.val (.int u0), .val (.long u1), .second, .val (.long u2), .second, .val (.long u3), .second, .val (.int nn), .val (.ref vv), .val (.ref t3), .val (.ref t4), .val (.ref aa), .val (.int mm), .val (.ref pp), .val (.int ss), .val (.long (sm + (0 : Int64))), .second]
  refine own_st (A := T298.setTop (mkF mM 639 Lv299 [])) (fun t_ k_ => XS.lstore X298.here hx rfl (hb hby at_637) rfl (l' := Lv299) rfl k_) ?_
  exact kont T298 _ X298 e298 N298 
theorem ST6 (hw : own_tb a0 Z) (X0 : Stand pP lL eE room_1 sS mM args below meth cC T0 locs 6 48) (hx : pP.tables.exec = Jvm.exec) (hZ : Z.Warmed39 sS.vm) (hby : cC.code = code) (hml : cC.maxLocals = 17) (hown : sS.vm.findClass "com/example/gleanwork/gleanwork/schedule/RecentAverageAddPinLaw" = some mM.cls) (hlk : meth.locks = false) (hret : meth.sig.returnType = ret) (e0 : T0.heap = h0) (N0 : Fr n0 locs) (u0 : Int32) (u1 : Int64) (u2 : Int64) (u3 : Int64) (nn : Int32) (vv : Addr) (kv : ClassId) (t3 : Addr) (k3 : ClassId) (t4 : Addr) (k4 : ClassId) (aa : Addr) (mm : Int32) (pp : Addr) (ss : Int32) (sm : Int64) (lv : List Value) (l3 : List Value) (l4 : List Value) (c3 : Int64) (c4 : Int64) (wv : Int32) (A_vv : Arv Z h0 vv kv .int 12 lv (.int 0)) (A_t3 : Arv Z h0 t3 k3 .long 10 l3 (.long 0)) (A_t4 : Arv Z h0 t4 k4 .long 10 l4 (.long 0)) (hl : ¬ mm < (6 : Int32)) (b3 : ¬ (mm - (6 : Int32)) < 0 ∧ (mm - (6 : Int32)) < 10) (b4 : ¬ ((6 : Int32) - (2 : Int32)) < 0 ∧ ((6 : Int32) - (2 : Int32)) < 10) (bv : ¬ ((ss + (6 : Int32)) - (1 : Int32)) < 0 ∧ ((ss + (6 : Int32)) - (1 : Int32)) < 12) (g3 : l3.getD (mm - (6 : Int32)).toNatClampNeg (.long 0) = .long c3) (g4 : l4.getD ((6 : Int32) - (2 : Int32)).toNatClampNeg (.long 0) = .long c4) (gv : lv.getD ((ss + (6 : Int32)) - (1 : Int32)).toNatClampNeg (.int 0) = .int wv) (kont : ∀ (T' : State) (L' : List Loc), Stand pP lL eE room_1 sS mM args below meth cC T' L' 6 48 → T'.heap = h0 → Fr n0 L' → own_Go pP eE below sS (QLaw n0) 24 192 (T'.setTop (mkF mM 659 #[.val (.int u0), .val (.long u1), .second, .val (.long u2), .second, .val (.long u3), .second, .val (.int nn), .val (.ref vv), .val (.ref t3), .val (.ref t4), .val (.ref aa), .val (.int mm), .val (.ref pp), .val (.int ss), .val (.long (sm + ((c3 * c4) * (wv).toInt64))), .second] []))) :
    own_Go pP eE below sS (QLaw n0) 24 192 (T0.setTop (mkF mM 639 #[.val (.int u0), .val (.long u1), .second, .val (.long u2), .second, .val (.long u3), .second, .val (.int nn), .val (.ref vv), .val (.ref t3), .val (.ref t4), .val (.ref aa), .val (.int mm), .val (.ref pp), .val (.int ss), .val (.long sm), .second] [])) := by
  refine o_lload 641 X0 hx (hb hby at_639) rfl rfl ?_
  refine o_bipush 643 6 X0 hx (hb hby at_641) rfl rfl ?_
  refine o_iload 645 X0 hx (hb hby at_643) rfl rfl ?_
  refine o_iload 647 X0 hx (hb hby at_645) rfl rfl ?_
  refine o_aload 649 X0 hx (hb hby at_647) rfl rfl rfl ?_
  refine o_aload 651 X0 hx (hb hby at_649) rfl rfl rfl ?_
  refine o_aload 653 X0 hx (hb hby at_651) rfl rfl rfl ?_
  obtain ⟨clt3_300, Art3_300, qt3_300, St3_300, Nnt3_300, Ht3_300, Gt3_300⟩ := id A_t3
  obtain ⟨clt4_300, Art4_300, qt4_300, St4_300, Nnt4_300, Ht4_300, Gt4_300⟩ := id A_t4
  obtain ⟨clvv_300, Arvv_300, qvv_300, Svv_300, Nnvv_300, Hvv_300, Gvv_300⟩ := id A_vv
  obtain ⟨_, _, ⟨T301, L301, k301, n301⟩, -, X301, ⟨Lc301, hQ301, l301, y301, z301⟩, st301⟩ := Jvm.LawKit.callS X0 hx (y := yn11) hown (mvT hZ (ow hw 88 rfl)) (mvT hZ (ow hw 89 rfl)) (mvT hZ (ow hw 4 rfl)) (mvT hZ (ow hw 90 rfl)) (by decide) (backOf (W := 2) (rmT lL Z a0 hw [] (6 : Int32) mm ss vv t3 t4 clt3_300 clt4_300 clvv_300 c3 c4 wv h0 n0 hl Art3_300 (inb_of St3_300 b3) (Ht3_300.at (inb_of St3_300 b3) g3) Art4_300 (inb_of St4_300 b4) (Ht4_300.at (inb_of St4_300 b4) g4) Arvv_300 (inb_of Svv_300 bv) (Hvv_300.at (inb_of Svv_300 bv) gv)) hZ (ow hw 90 rfl) (ow hw 4 rfl) (by decide) (by decide)) (g := (mkF mM 653 #[.val (.int u0), .val (.long u1), .second, .val (.long u2), .second, .val (.long u3), .second, .val (.int nn), .val (.ref vv), .val (.ref t3), .val (.ref t4), .val (.ref aa), .val (.int mm), .val (.ref pp), .val (.int ss), .val (.long sm), .second] [.ref t4, .ref t3, .ref vv, .int ss, .int mm, .int 6, .long sm])) rfl (by rw [hml]; rfl) (argsL := [.int 6, .int mm, .int ss, .ref vv, .ref t3, .ref t4]) (rest := [.long sm]) (lenOf pd__28III_5bI_5bJ_5bJ_29J rfl) rfl (by show 2 * 0 + _ ≤ _; exact Nat.le_of_eq rfl) (hb hby at_653) (fun _ _ => ⟨rfl, e0, (by decide : 6 + 0 ≤ _), (by decide : 48 + 0 ≤ _)⟩)
  dsimp only [Pt.U, Pt.locs, Pt.cells, Pt.slots] at X301 l301 y301 z301 st301 hQ301
  have X301 := own_cs X301 6 48 y301 z301
  obtain ⟨rfl, N301q, e301⟩ := hQ301
  have N301 := own_N l301 N0 N301q
  refine own_k T301 656 [(.long ((c3 * c4) * (wv).toInt64)), .long sm] st301 ?_
  refine own_j 657 [(.long (sm + ((c3 * c4) * (wv).toInt64)))] (fun t_ k_ => XS.ladd X301.here hx rfl (hb hby at_656) rfl k_) ?_
  let Lv302 : Array Slot := #[.val (.int u0), .val (.long u1), .second, .val (.long u2), .second, .val (.long u3), .second, .val (.int nn), .val (.ref vv), .val (.ref t3), .val (.ref t4), .val (.ref aa), .val (.int mm), .val (.ref pp), .val (.int ss), .val (.long (sm + ((c3 * c4) * (wv).toInt64))), .second]
  refine own_st (A := T301.setTop (mkF mM 659 Lv302 [])) (fun t_ k_ => XS.lstore X301.here hx rfl (hb hby at_657) rfl (l' := Lv302) rfl k_) ?_
  exact kont T301 _ X301 e301 N301 
theorem SZ6 (hw : own_tb a0 Z) (X0 : Stand pP lL eE room_1 sS mM args below meth cC T0 locs 6 48) (hx : pP.tables.exec = Jvm.exec) (hZ : Z.Warmed39 sS.vm) (hby : cC.code = code) (hml : cC.maxLocals = 17) (hown : sS.vm.findClass "com/example/gleanwork/gleanwork/schedule/RecentAverageAddPinLaw" = some mM.cls) (hlk : meth.locks = false) (hret : meth.sig.returnType = ret) (e0 : T0.heap = h0) (N0 : Fr n0 locs) (u0 : Int32) (u1 : Int64) (u2 : Int64) (u3 : Int64) (nn : Int32) (vv : Addr) (kv : ClassId) (t3 : Addr) (k3 : ClassId) (t4 : Addr) (k4 : ClassId) (aa : Addr) (mm : Int32) (pp : Addr) (ss : Int32) (sm : Int64) (hl : mm < (6 : Int32)) (kont : ∀ (T' : State) (L' : List Loc), Stand pP lL eE room_1 sS mM args below meth cC T' L' 6 48 → T'.heap = h0 → Fr n0 L' → own_Go pP eE below sS (QLaw n0) 24 192 (T'.setTop (mkF mM 659 #[.val (.int u0), .val (.long u1), .second, .val (.long u2), .second, .val (.long u3), .second, .val (.int nn), .val (.ref vv), .val (.ref t3), .val (.ref t4), .val (.ref aa), .val (.int mm), .val (.ref pp), .val (.int ss), .val (.long (sm + (0 : Int64))), .second] []))) :
    own_Go pP eE below sS (QLaw n0) 24 192 (T0.setTop (mkF mM 639 #[.val (.int u0), .val (.long u1), .second, .val (.long u2), .second, .val (.long u3), .second, .val (.int nn), .val (.ref vv), .val (.ref t3), .val (.ref t4), .val (.ref aa), .val (.int mm), .val (.ref pp), .val (.int ss), .val (.long sm), .second] [])) := by
  refine o_lload 641 X0 hx (hb hby at_639) rfl rfl ?_
  refine o_bipush 643 6 X0 hx (hb hby at_641) rfl rfl ?_
  refine o_iload 645 X0 hx (hb hby at_643) rfl rfl ?_
  refine o_iload 647 X0 hx (hb hby at_645) rfl rfl ?_
  refine o_aload 649 X0 hx (hb hby at_647) rfl rfl rfl ?_
  refine o_aload 651 X0 hx (hb hby at_649) rfl rfl rfl ?_
  refine o_aload 653 X0 hx (hb hby at_651) rfl rfl rfl ?_
  obtain ⟨_, _, ⟨T303, L303, k303, n303⟩, -, X303, ⟨Lc303, hQ303, l303, y303, z303⟩, st303⟩ := Jvm.LawKit.callS X0 hx (y := yn11) hown (mvT hZ (ow hw 88 rfl)) (mvT hZ (ow hw 89 rfl)) (mvT hZ (ow hw 4 rfl)) (mvT hZ (ow hw 90 rfl)) (by decide) (backOf (W := 2) (rmT0 lL Z a0 hw [] (6 : Int32) mm ss vv t3 t4 h0 n0 hl) hZ (ow hw 90 rfl) (ow hw 4 rfl) (by decide) (by decide)) (g := (mkF mM 653 #[.val (.int u0), .val (.long u1), .second, .val (.long u2), .second, .val (.long u3), .second, .val (.int nn), .val (.ref vv), .val (.ref t3), .val (.ref t4), .val (.ref aa), .val (.int mm), .val (.ref pp), .val (.int ss), .val (.long sm), .second] [.ref t4, .ref t3, .ref vv, .int ss, .int mm, .int 6, .long sm])) rfl (by rw [hml]; rfl) (argsL := [.int 6, .int mm, .int ss, .ref vv, .ref t3, .ref t4]) (rest := [.long sm]) (lenOf pd__28III_5bI_5bJ_5bJ_29J rfl) rfl (by show 2 * 0 + _ ≤ _; exact Nat.le_of_eq rfl) (hb hby at_653) (fun _ _ => ⟨rfl, e0, (by decide : 6 + 0 ≤ _), (by decide : 48 + 0 ≤ _)⟩)
  dsimp only [Pt.U, Pt.locs, Pt.cells, Pt.slots] at X303 l303 y303 z303 st303 hQ303
  have X303 := own_cs X303 6 48 y303 z303
  obtain ⟨rfl, N303q, e303⟩ := hQ303
  have N303 := own_N l303 N0 N303q
  refine own_k T303 656 [.long 0, .long sm] st303 ?_
  refine own_j 657 [(.long (sm + (0 : Int64)))] (fun t_ k_ => XS.ladd X303.here hx rfl (hb hby at_656) rfl k_) ?_
  let Lv304 : Array Slot := #[.val (.int u0), .val (.long u1), .second, .val (.long u2), .second, .val (.long u3), .second, .val (.int nn), .val (.ref vv), .val (.ref t3), .val (.ref t4), .val (.ref aa), .val (.int mm), .val (.ref pp), .val (.int ss), .val (.long (sm + (0 : Int64))), .second]
  refine own_st (A := T303.setTop (mkF mM 659 Lv304 [])) (fun t_ k_ => XS.lstore X303.here hx rfl (hb hby at_657) rfl (l' := Lv304) rfl k_) ?_
  exact kont T303 _ X303 e303 N303 
theorem ST7 (hw : own_tb a0 Z) (X0 : Stand pP lL eE room_1 sS mM args below meth cC T0 locs 6 48) (hx : pP.tables.exec = Jvm.exec) (hZ : Z.Warmed39 sS.vm) (hby : cC.code = code) (hml : cC.maxLocals = 17) (hown : sS.vm.findClass "com/example/gleanwork/gleanwork/schedule/RecentAverageAddPinLaw" = some mM.cls) (hlk : meth.locks = false) (hret : meth.sig.returnType = ret) (e0 : T0.heap = h0) (N0 : Fr n0 locs) (u0 : Int32) (u1 : Int64) (u2 : Int64) (u3 : Int64) (nn : Int32) (vv : Addr) (kv : ClassId) (t3 : Addr) (k3 : ClassId) (t4 : Addr) (k4 : ClassId) (aa : Addr) (mm : Int32) (pp : Addr) (ss : Int32) (sm : Int64) (lv : List Value) (l3 : List Value) (l4 : List Value) (c3 : Int64) (c4 : Int64) (wv : Int32) (A_vv : Arv Z h0 vv kv .int 12 lv (.int 0)) (A_t3 : Arv Z h0 t3 k3 .long 10 l3 (.long 0)) (A_t4 : Arv Z h0 t4 k4 .long 10 l4 (.long 0)) (hl : ¬ mm < (7 : Int32)) (b3 : ¬ (mm - (7 : Int32)) < 0 ∧ (mm - (7 : Int32)) < 10) (b4 : ¬ ((7 : Int32) - (2 : Int32)) < 0 ∧ ((7 : Int32) - (2 : Int32)) < 10) (bv : ¬ ((ss + (7 : Int32)) - (1 : Int32)) < 0 ∧ ((ss + (7 : Int32)) - (1 : Int32)) < 12) (g3 : l3.getD (mm - (7 : Int32)).toNatClampNeg (.long 0) = .long c3) (g4 : l4.getD ((7 : Int32) - (2 : Int32)).toNatClampNeg (.long 0) = .long c4) (gv : lv.getD ((ss + (7 : Int32)) - (1 : Int32)).toNatClampNeg (.int 0) = .int wv) (kont : ∀ (T' : State) (L' : List Loc), Stand pP lL eE room_1 sS mM args below meth cC T' L' 6 48 → T'.heap = h0 → Fr n0 L' → own_Go pP eE below sS (QLaw n0) 24 192 (T'.setTop (mkF mM 679 #[.val (.int u0), .val (.long u1), .second, .val (.long u2), .second, .val (.long u3), .second, .val (.int nn), .val (.ref vv), .val (.ref t3), .val (.ref t4), .val (.ref aa), .val (.int mm), .val (.ref pp), .val (.int ss), .val (.long (sm + ((c3 * c4) * (wv).toInt64))), .second] []))) :
    own_Go pP eE below sS (QLaw n0) 24 192 (T0.setTop (mkF mM 659 #[.val (.int u0), .val (.long u1), .second, .val (.long u2), .second, .val (.long u3), .second, .val (.int nn), .val (.ref vv), .val (.ref t3), .val (.ref t4), .val (.ref aa), .val (.int mm), .val (.ref pp), .val (.int ss), .val (.long sm), .second] [])) := by
  refine o_lload 661 X0 hx (hb hby at_659) rfl rfl ?_
  refine o_bipush 663 7 X0 hx (hb hby at_661) rfl rfl ?_
  refine o_iload 665 X0 hx (hb hby at_663) rfl rfl ?_
  refine o_iload 667 X0 hx (hb hby at_665) rfl rfl ?_
  refine o_aload 669 X0 hx (hb hby at_667) rfl rfl rfl ?_
  refine o_aload 671 X0 hx (hb hby at_669) rfl rfl rfl ?_
  refine o_aload 673 X0 hx (hb hby at_671) rfl rfl rfl ?_
  obtain ⟨clt3_305, Art3_305, qt3_305, St3_305, Nnt3_305, Ht3_305, Gt3_305⟩ := id A_t3
  obtain ⟨clt4_305, Art4_305, qt4_305, St4_305, Nnt4_305, Ht4_305, Gt4_305⟩ := id A_t4
  obtain ⟨clvv_305, Arvv_305, qvv_305, Svv_305, Nnvv_305, Hvv_305, Gvv_305⟩ := id A_vv
  obtain ⟨_, _, ⟨T306, L306, k306, n306⟩, -, X306, ⟨Lc306, hQ306, l306, y306, z306⟩, st306⟩ := Jvm.LawKit.callS X0 hx (y := yn11) hown (mvT hZ (ow hw 88 rfl)) (mvT hZ (ow hw 89 rfl)) (mvT hZ (ow hw 4 rfl)) (mvT hZ (ow hw 90 rfl)) (by decide) (backOf (W := 2) (rmT lL Z a0 hw [] (7 : Int32) mm ss vv t3 t4 clt3_305 clt4_305 clvv_305 c3 c4 wv h0 n0 hl Art3_305 (inb_of St3_305 b3) (Ht3_305.at (inb_of St3_305 b3) g3) Art4_305 (inb_of St4_305 b4) (Ht4_305.at (inb_of St4_305 b4) g4) Arvv_305 (inb_of Svv_305 bv) (Hvv_305.at (inb_of Svv_305 bv) gv)) hZ (ow hw 90 rfl) (ow hw 4 rfl) (by decide) (by decide)) (g := (mkF mM 673 #[.val (.int u0), .val (.long u1), .second, .val (.long u2), .second, .val (.long u3), .second, .val (.int nn), .val (.ref vv), .val (.ref t3), .val (.ref t4), .val (.ref aa), .val (.int mm), .val (.ref pp), .val (.int ss), .val (.long sm), .second] [.ref t4, .ref t3, .ref vv, .int ss, .int mm, .int 7, .long sm])) rfl (by rw [hml]; rfl) (argsL := [.int 7, .int mm, .int ss, .ref vv, .ref t3, .ref t4]) (rest := [.long sm]) (lenOf pd__28III_5bI_5bJ_5bJ_29J rfl) rfl (by show 2 * 0 + _ ≤ _; exact Nat.le_of_eq rfl) (hb hby at_673) (fun _ _ => ⟨rfl, e0, (by decide : 6 + 0 ≤ _), (by decide : 48 + 0 ≤ _)⟩)
  dsimp only [Pt.U, Pt.locs, Pt.cells, Pt.slots] at X306 l306 y306 z306 st306 hQ306
  have X306 := own_cs X306 6 48 y306 z306
  obtain ⟨rfl, N306q, e306⟩ := hQ306
  have N306 := own_N l306 N0 N306q
  refine own_k T306 676 [(.long ((c3 * c4) * (wv).toInt64)), .long sm] st306 ?_
  refine own_j 677 [(.long (sm + ((c3 * c4) * (wv).toInt64)))] (fun t_ k_ => XS.ladd X306.here hx rfl (hb hby at_676) rfl k_) ?_
  let Lv307 : Array Slot := #[.val (.int u0), .val (.long u1), .second, .val (.long u2), .second, .val (.long u3), .second, .val (.int nn), .val (.ref vv), .val (.ref t3), .val (.ref t4), .val (.ref aa), .val (.int mm), .val (.ref pp), .val (.int ss), .val (.long (sm + ((c3 * c4) * (wv).toInt64))), .second]
  refine own_st (A := T306.setTop (mkF mM 679 Lv307 [])) (fun t_ k_ => XS.lstore X306.here hx rfl (hb hby at_677) rfl (l' := Lv307) rfl k_) ?_
  exact kont T306 _ X306 e306 N306 
theorem SZ7 (hw : own_tb a0 Z) (X0 : Stand pP lL eE room_1 sS mM args below meth cC T0 locs 6 48) (hx : pP.tables.exec = Jvm.exec) (hZ : Z.Warmed39 sS.vm) (hby : cC.code = code) (hml : cC.maxLocals = 17) (hown : sS.vm.findClass "com/example/gleanwork/gleanwork/schedule/RecentAverageAddPinLaw" = some mM.cls) (hlk : meth.locks = false) (hret : meth.sig.returnType = ret) (e0 : T0.heap = h0) (N0 : Fr n0 locs) (u0 : Int32) (u1 : Int64) (u2 : Int64) (u3 : Int64) (nn : Int32) (vv : Addr) (kv : ClassId) (t3 : Addr) (k3 : ClassId) (t4 : Addr) (k4 : ClassId) (aa : Addr) (mm : Int32) (pp : Addr) (ss : Int32) (sm : Int64) (hl : mm < (7 : Int32)) (kont : ∀ (T' : State) (L' : List Loc), Stand pP lL eE room_1 sS mM args below meth cC T' L' 6 48 → T'.heap = h0 → Fr n0 L' → own_Go pP eE below sS (QLaw n0) 24 192 (T'.setTop (mkF mM 679 #[.val (.int u0), .val (.long u1), .second, .val (.long u2), .second, .val (.long u3), .second, .val (.int nn), .val (.ref vv), .val (.ref t3), .val (.ref t4), .val (.ref aa), .val (.int mm), .val (.ref pp), .val (.int ss), .val (.long (sm + (0 : Int64))), .second] []))) :
    own_Go pP eE below sS (QLaw n0) 24 192 (T0.setTop (mkF mM 659 #[.val (.int u0), .val (.long u1), .second, .val (.long u2), .second, .val (.long u3), .second, .val (.int nn), .val (.ref vv), .val (.ref t3), .val (.ref t4), .val (.ref aa), .val (.int mm), .val (.ref pp), .val (.int ss), .val (.long sm), .second] [])) := by
  refine o_lload 661 X0 hx (hb hby at_659) rfl rfl ?_
  refine o_bipush 663 7 X0 hx (hb hby at_661) rfl rfl ?_
  refine o_iload 665 X0 hx (hb hby at_663) rfl rfl ?_
  refine o_iload 667 X0 hx (hb hby at_665) rfl rfl ?_
  refine o_aload 669 X0 hx (hb hby at_667) rfl rfl rfl ?_
  refine o_aload 671 X0 hx (hb hby at_669) rfl rfl rfl ?_
  refine o_aload 673 X0 hx (hb hby at_671) rfl rfl rfl ?_
  obtain ⟨_, _, ⟨T308, L308, k308, n308⟩, -, X308, ⟨Lc308, hQ308, l308, y308, z308⟩, st308⟩ := Jvm.LawKit.callS X0 hx (y := yn11) hown (mvT hZ (ow hw 88 rfl)) (mvT hZ (ow hw 89 rfl)) (mvT hZ (ow hw 4 rfl)) (mvT hZ (ow hw 90 rfl)) (by decide) (backOf (W := 2) (rmT0 lL Z a0 hw [] (7 : Int32) mm ss vv t3 t4 h0 n0 hl) hZ (ow hw 90 rfl) (ow hw 4 rfl) (by decide) (by decide)) (g := (mkF mM 673 #[.val (.int u0), .val (.long u1), .second, .val (.long u2), .second, .val (.long u3), .second, .val (.int nn), .val (.ref vv), .val (.ref t3), .val (.ref t4), .val (.ref aa), .val (.int mm), .val (.ref pp), .val (.int ss), .val (.long sm), .second] [.ref t4, .ref t3, .ref vv, .int ss, .int mm, .int 7, .long sm])) rfl (by rw [hml]; rfl) (argsL := [.int 7, .int mm, .int ss, .ref vv, .ref t3, .ref t4]) (rest := [.long sm]) (lenOf pd__28III_5bI_5bJ_5bJ_29J rfl) rfl (by show 2 * 0 + _ ≤ _; exact Nat.le_of_eq rfl) (hb hby at_673) (fun _ _ => ⟨rfl, e0, (by decide : 6 + 0 ≤ _), (by decide : 48 + 0 ≤ _)⟩)
  dsimp only [Pt.U, Pt.locs, Pt.cells, Pt.slots] at X308 l308 y308 z308 st308 hQ308
  have X308 := own_cs X308 6 48 y308 z308
  obtain ⟨rfl, N308q, e308⟩ := hQ308
  have N308 := own_N l308 N0 N308q
  refine own_k T308 676 [.long 0, .long sm] st308 ?_
  refine own_j 677 [(.long (sm + (0 : Int64)))] (fun t_ k_ => XS.ladd X308.here hx rfl (hb hby at_676) rfl k_) ?_
  let Lv309 : Array Slot := #[.val (.int u0), .val (.long u1), .second, .val (.long u2), .second, .val (.long u3), .second, .val (.int nn), .val (.ref vv), .val (.ref t3), .val (.ref t4), .val (.ref aa), .val (.int mm), .val (.ref pp), .val (.int ss), .val (.long (sm + (0 : Int64))), .second]
  refine own_st (A := T308.setTop (mkF mM 679 Lv309 [])) (fun t_ k_ => XS.lstore X308.here hx rfl (hb hby at_677) rfl (l' := Lv309) rfl k_) ?_
  exact kont T308 _ X308 e308 N308 
theorem ST8 (hw : own_tb a0 Z) (X0 : Stand pP lL eE room_1 sS mM args below meth cC T0 locs 6 48) (hx : pP.tables.exec = Jvm.exec) (hZ : Z.Warmed39 sS.vm) (hby : cC.code = code) (hml : cC.maxLocals = 17) (hown : sS.vm.findClass "com/example/gleanwork/gleanwork/schedule/RecentAverageAddPinLaw" = some mM.cls) (hlk : meth.locks = false) (hret : meth.sig.returnType = ret) (e0 : T0.heap = h0) (N0 : Fr n0 locs) (u0 : Int32) (u1 : Int64) (u2 : Int64) (u3 : Int64) (nn : Int32) (vv : Addr) (kv : ClassId) (t3 : Addr) (k3 : ClassId) (t4 : Addr) (k4 : ClassId) (aa : Addr) (mm : Int32) (pp : Addr) (ss : Int32) (sm : Int64) (lv : List Value) (l3 : List Value) (l4 : List Value) (c3 : Int64) (c4 : Int64) (wv : Int32) (A_vv : Arv Z h0 vv kv .int 12 lv (.int 0)) (A_t3 : Arv Z h0 t3 k3 .long 10 l3 (.long 0)) (A_t4 : Arv Z h0 t4 k4 .long 10 l4 (.long 0)) (hl : ¬ mm < (8 : Int32)) (b3 : ¬ (mm - (8 : Int32)) < 0 ∧ (mm - (8 : Int32)) < 10) (b4 : ¬ ((8 : Int32) - (2 : Int32)) < 0 ∧ ((8 : Int32) - (2 : Int32)) < 10) (bv : ¬ ((ss + (8 : Int32)) - (1 : Int32)) < 0 ∧ ((ss + (8 : Int32)) - (1 : Int32)) < 12) (g3 : l3.getD (mm - (8 : Int32)).toNatClampNeg (.long 0) = .long c3) (g4 : l4.getD ((8 : Int32) - (2 : Int32)).toNatClampNeg (.long 0) = .long c4) (gv : lv.getD ((ss + (8 : Int32)) - (1 : Int32)).toNatClampNeg (.int 0) = .int wv) (kont : ∀ (T' : State) (L' : List Loc), Stand pP lL eE room_1 sS mM args below meth cC T' L' 6 48 → T'.heap = h0 → Fr n0 L' → own_Go pP eE below sS (QLaw n0) 24 192 (T'.setTop (mkF mM 699 #[.val (.int u0), .val (.long u1), .second, .val (.long u2), .second, .val (.long u3), .second, .val (.int nn), .val (.ref vv), .val (.ref t3), .val (.ref t4), .val (.ref aa), .val (.int mm), .val (.ref pp), .val (.int ss), .val (.long (sm + ((c3 * c4) * (wv).toInt64))), .second] []))) :
    own_Go pP eE below sS (QLaw n0) 24 192 (T0.setTop (mkF mM 679 #[.val (.int u0), .val (.long u1), .second, .val (.long u2), .second, .val (.long u3), .second, .val (.int nn), .val (.ref vv), .val (.ref t3), .val (.ref t4), .val (.ref aa), .val (.int mm), .val (.ref pp), .val (.int ss), .val (.long sm), .second] [])) := by
  refine o_lload 681 X0 hx (hb hby at_679) rfl rfl ?_
  refine o_bipush 683 8 X0 hx (hb hby at_681) rfl rfl ?_
  refine o_iload 685 X0 hx (hb hby at_683) rfl rfl ?_
  refine o_iload 687 X0 hx (hb hby at_685) rfl rfl ?_
  refine o_aload 689 X0 hx (hb hby at_687) rfl rfl rfl ?_
  refine o_aload 691 X0 hx (hb hby at_689) rfl rfl rfl ?_
  refine o_aload 693 X0 hx (hb hby at_691) rfl rfl rfl ?_
  obtain ⟨clt3_310, Art3_310, qt3_310, St3_310, Nnt3_310, Ht3_310, Gt3_310⟩ := id A_t3
  obtain ⟨clt4_310, Art4_310, qt4_310, St4_310, Nnt4_310, Ht4_310, Gt4_310⟩ := id A_t4
  obtain ⟨clvv_310, Arvv_310, qvv_310, Svv_310, Nnvv_310, Hvv_310, Gvv_310⟩ := id A_vv
  obtain ⟨_, _, ⟨T311, L311, k311, n311⟩, -, X311, ⟨Lc311, hQ311, l311, y311, z311⟩, st311⟩ := Jvm.LawKit.callS X0 hx (y := yn11) hown (mvT hZ (ow hw 88 rfl)) (mvT hZ (ow hw 89 rfl)) (mvT hZ (ow hw 4 rfl)) (mvT hZ (ow hw 90 rfl)) (by decide) (backOf (W := 2) (rmT lL Z a0 hw [] (8 : Int32) mm ss vv t3 t4 clt3_310 clt4_310 clvv_310 c3 c4 wv h0 n0 hl Art3_310 (inb_of St3_310 b3) (Ht3_310.at (inb_of St3_310 b3) g3) Art4_310 (inb_of St4_310 b4) (Ht4_310.at (inb_of St4_310 b4) g4) Arvv_310 (inb_of Svv_310 bv) (Hvv_310.at (inb_of Svv_310 bv) gv)) hZ (ow hw 90 rfl) (ow hw 4 rfl) (by decide) (by decide)) (g := (mkF mM 693 #[.val (.int u0), .val (.long u1), .second, .val (.long u2), .second, .val (.long u3), .second, .val (.int nn), .val (.ref vv), .val (.ref t3), .val (.ref t4), .val (.ref aa), .val (.int mm), .val (.ref pp), .val (.int ss), .val (.long sm), .second] [.ref t4, .ref t3, .ref vv, .int ss, .int mm, .int 8, .long sm])) rfl (by rw [hml]; rfl) (argsL := [.int 8, .int mm, .int ss, .ref vv, .ref t3, .ref t4]) (rest := [.long sm]) (lenOf pd__28III_5bI_5bJ_5bJ_29J rfl) rfl (by show 2 * 0 + _ ≤ _; exact Nat.le_of_eq rfl) (hb hby at_693) (fun _ _ => ⟨rfl, e0, (by decide : 6 + 0 ≤ _), (by decide : 48 + 0 ≤ _)⟩)
  dsimp only [Pt.U, Pt.locs, Pt.cells, Pt.slots] at X311 l311 y311 z311 st311 hQ311
  have X311 := own_cs X311 6 48 y311 z311
  obtain ⟨rfl, N311q, e311⟩ := hQ311
  have N311 := own_N l311 N0 N311q
  refine own_k T311 696 [(.long ((c3 * c4) * (wv).toInt64)), .long sm] st311 ?_
  refine own_j 697 [(.long (sm + ((c3 * c4) * (wv).toInt64)))] (fun t_ k_ => XS.ladd X311.here hx rfl (hb hby at_696) rfl k_) ?_
  let Lv312 : Array Slot := #[.val (.int u0), .val (.long u1), .second, .val (.long u2), .second, .val (.long u3), .second, .val (.int nn), .val (.ref vv), .val (.ref t3), .val (.ref t4), .val (.ref aa), .val (.int mm), .val (.ref pp), .val (.int ss), .val (.long (sm + ((c3 * c4) * (wv).toInt64))), .second]
  refine own_st (A := T311.setTop (mkF mM 699 Lv312 [])) (fun t_ k_ => XS.lstore X311.here hx rfl (hb hby at_697) rfl (l' := Lv312) rfl k_) ?_
  exact kont T311 _ X311 e311 N311 
theorem SZ8 (hw : own_tb a0 Z) (X0 : Stand pP lL eE room_1 sS mM args below meth cC T0 locs 6 48) (hx : pP.tables.exec = Jvm.exec) (hZ : Z.Warmed39 sS.vm) (hby : cC.code = code) (hml : cC.maxLocals = 17) (hown : sS.vm.findClass "com/example/gleanwork/gleanwork/schedule/RecentAverageAddPinLaw" = some mM.cls) (hlk : meth.locks = false) (hret : meth.sig.returnType = ret) (e0 : T0.heap = h0) (N0 : Fr n0 locs) (u0 : Int32) (u1 : Int64) (u2 : Int64) (u3 : Int64) (nn : Int32) (vv : Addr) (kv : ClassId) (t3 : Addr) (k3 : ClassId) (t4 : Addr) (k4 : ClassId) (aa : Addr) (mm : Int32) (pp : Addr) (ss : Int32) (sm : Int64) (hl : mm < (8 : Int32)) (kont : ∀ (T' : State) (L' : List Loc), Stand pP lL eE room_1 sS mM args below meth cC T' L' 6 48 → T'.heap = h0 → Fr n0 L' → own_Go pP eE below sS (QLaw n0) 24 192 (T'.setTop (mkF mM 699 #[.val (.int u0), .val (.long u1), .second, .val (.long u2), .second, .val (.long u3), .second, .val (.int nn), .val (.ref vv), .val (.ref t3), .val (.ref t4), .val (.ref aa), .val (.int mm), .val (.ref pp), .val (.int ss), .val (.long (sm + (0 : Int64))), .second] []))) :
    own_Go pP eE below sS (QLaw n0) 24 192 (T0.setTop (mkF mM 679 #[.val (.int u0), .val (.long u1), .second, .val (.long u2), .second, .val (.long u3), .second, .val (.int nn), .val (.ref vv), .val (.ref t3), .val (.ref t4), .val (.ref aa), .val (.int mm), .val (.ref pp), .val (.int ss), .val (.long sm), .second] [])) := by
  refine o_lload 681 X0 hx (hb hby at_679) rfl rfl ?_
  refine o_bipush 683 8 X0 hx (hb hby at_681) rfl rfl ?_
  refine o_iload 685 X0 hx (hb hby at_683) rfl rfl ?_
  refine o_iload 687 X0 hx (hb hby at_685) rfl rfl ?_
  refine o_aload 689 X0 hx (hb hby at_687) rfl rfl rfl ?_
  refine o_aload 691 X0 hx (hb hby at_689) rfl rfl rfl ?_
  refine o_aload 693 X0 hx (hb hby at_691) rfl rfl rfl ?_
  obtain ⟨_, _, ⟨T313, L313, k313, n313⟩, -, X313, ⟨Lc313, hQ313, l313, y313, z313⟩, st313⟩ := Jvm.LawKit.callS X0 hx (y := yn11) hown (mvT hZ (ow hw 88 rfl)) (mvT hZ (ow hw 89 rfl)) (mvT hZ (ow hw 4 rfl)) (mvT hZ (ow hw 90 rfl)) (by decide) (backOf (W := 2) (rmT0 lL Z a0 hw [] (8 : Int32) mm ss vv t3 t4 h0 n0 hl) hZ (ow hw 90 rfl) (ow hw 4 rfl) (by decide) (by decide)) (g := (mkF mM 693 #[.val (.int u0), .val (.long u1), .second, .val (.long u2), .second, .val (.long u3), .second, .val (.int nn), .val (.ref vv), .val (.ref t3), .val (.ref t4), .val (.ref aa), .val (.int mm), .val (.ref pp), .val (.int ss), .val (.long sm), .second] [.ref t4, .ref t3, .ref vv, .int ss, .int mm, .int 8, .long sm])) rfl (by rw [hml]; rfl) (argsL := [.int 8, .int mm, .int ss, .ref vv, .ref t3, .ref t4]) (rest := [.long sm]) (lenOf pd__28III_5bI_5bJ_5bJ_29J rfl) rfl (by show 2 * 0 + _ ≤ _; exact Nat.le_of_eq rfl) (hb hby at_693) (fun _ _ => ⟨rfl, e0, (by decide : 6 + 0 ≤ _), (by decide : 48 + 0 ≤ _)⟩)
  dsimp only [Pt.U, Pt.locs, Pt.cells, Pt.slots] at X313 l313 y313 z313 st313 hQ313
  have X313 := own_cs X313 6 48 y313 z313
  obtain ⟨rfl, N313q, e313⟩ := hQ313
  have N313 := own_N l313 N0 N313q
  refine own_k T313 696 [.long 0, .long sm] st313 ?_
  refine own_j 697 [(.long (sm + (0 : Int64)))] (fun t_ k_ => XS.ladd X313.here hx rfl (hb hby at_696) rfl k_) ?_
  let Lv314 : Array Slot := #[.val (.int u0), .val (.long u1), .second, .val (.long u2), .second, .val (.long u3), .second, .val (.int nn), .val (.ref vv), .val (.ref t3), .val (.ref t4), .val (.ref aa), .val (.int mm), .val (.ref pp), .val (.int ss), .val (.long (sm + (0 : Int64))), .second]
  refine own_st (A := T313.setTop (mkF mM 699 Lv314 [])) (fun t_ k_ => XS.lstore X313.here hx rfl (hb hby at_697) rfl (l' := Lv314) rfl k_) ?_
  exact kont T313 _ X313 e313 N313 
theorem ST9 (hw : own_tb a0 Z) (X0 : Stand pP lL eE room_1 sS mM args below meth cC T0 locs 6 48) (hx : pP.tables.exec = Jvm.exec) (hZ : Z.Warmed39 sS.vm) (hby : cC.code = code) (hml : cC.maxLocals = 17) (hown : sS.vm.findClass "com/example/gleanwork/gleanwork/schedule/RecentAverageAddPinLaw" = some mM.cls) (hlk : meth.locks = false) (hret : meth.sig.returnType = ret) (e0 : T0.heap = h0) (N0 : Fr n0 locs) (u0 : Int32) (u1 : Int64) (u2 : Int64) (u3 : Int64) (nn : Int32) (vv : Addr) (kv : ClassId) (t3 : Addr) (k3 : ClassId) (t4 : Addr) (k4 : ClassId) (aa : Addr) (mm : Int32) (pp : Addr) (ss : Int32) (sm : Int64) (lv : List Value) (l3 : List Value) (l4 : List Value) (c3 : Int64) (c4 : Int64) (wv : Int32) (A_vv : Arv Z h0 vv kv .int 12 lv (.int 0)) (A_t3 : Arv Z h0 t3 k3 .long 10 l3 (.long 0)) (A_t4 : Arv Z h0 t4 k4 .long 10 l4 (.long 0)) (hl : ¬ mm < (9 : Int32)) (b3 : ¬ (mm - (9 : Int32)) < 0 ∧ (mm - (9 : Int32)) < 10) (b4 : ¬ ((9 : Int32) - (2 : Int32)) < 0 ∧ ((9 : Int32) - (2 : Int32)) < 10) (bv : ¬ ((ss + (9 : Int32)) - (1 : Int32)) < 0 ∧ ((ss + (9 : Int32)) - (1 : Int32)) < 12) (g3 : l3.getD (mm - (9 : Int32)).toNatClampNeg (.long 0) = .long c3) (g4 : l4.getD ((9 : Int32) - (2 : Int32)).toNatClampNeg (.long 0) = .long c4) (gv : lv.getD ((ss + (9 : Int32)) - (1 : Int32)).toNatClampNeg (.int 0) = .int wv) (kont : ∀ (T' : State) (L' : List Loc), Stand pP lL eE room_1 sS mM args below meth cC T' L' 6 48 → T'.heap = h0 → Fr n0 L' → own_Go pP eE below sS (QLaw n0) 24 192 (T'.setTop (mkF mM 719 #[.val (.int u0), .val (.long u1), .second, .val (.long u2), .second, .val (.long u3), .second, .val (.int nn), .val (.ref vv), .val (.ref t3), .val (.ref t4), .val (.ref aa), .val (.int mm), .val (.ref pp), .val (.int ss), .val (.long (sm + ((c3 * c4) * (wv).toInt64))), .second] []))) :
    own_Go pP eE below sS (QLaw n0) 24 192 (T0.setTop (mkF mM 699 #[.val (.int u0), .val (.long u1), .second, .val (.long u2), .second, .val (.long u3), .second, .val (.int nn), .val (.ref vv), .val (.ref t3), .val (.ref t4), .val (.ref aa), .val (.int mm), .val (.ref pp), .val (.int ss), .val (.long sm), .second] [])) := by
  refine o_lload 701 X0 hx (hb hby at_699) rfl rfl ?_
  refine o_bipush 703 9 X0 hx (hb hby at_701) rfl rfl ?_
  refine o_iload 705 X0 hx (hb hby at_703) rfl rfl ?_
  refine o_iload 707 X0 hx (hb hby at_705) rfl rfl ?_
  refine o_aload 709 X0 hx (hb hby at_707) rfl rfl rfl ?_
  refine o_aload 711 X0 hx (hb hby at_709) rfl rfl rfl ?_
  refine o_aload 713 X0 hx (hb hby at_711) rfl rfl rfl ?_
  obtain ⟨clt3_315, Art3_315, qt3_315, St3_315, Nnt3_315, Ht3_315, Gt3_315⟩ := id A_t3
  obtain ⟨clt4_315, Art4_315, qt4_315, St4_315, Nnt4_315, Ht4_315, Gt4_315⟩ := id A_t4
  obtain ⟨clvv_315, Arvv_315, qvv_315, Svv_315, Nnvv_315, Hvv_315, Gvv_315⟩ := id A_vv
  obtain ⟨_, _, ⟨T316, L316, k316, n316⟩, -, X316, ⟨Lc316, hQ316, l316, y316, z316⟩, st316⟩ := Jvm.LawKit.callS X0 hx (y := yn11) hown (mvT hZ (ow hw 88 rfl)) (mvT hZ (ow hw 89 rfl)) (mvT hZ (ow hw 4 rfl)) (mvT hZ (ow hw 90 rfl)) (by decide) (backOf (W := 2) (rmT lL Z a0 hw [] (9 : Int32) mm ss vv t3 t4 clt3_315 clt4_315 clvv_315 c3 c4 wv h0 n0 hl Art3_315 (inb_of St3_315 b3) (Ht3_315.at (inb_of St3_315 b3) g3) Art4_315 (inb_of St4_315 b4) (Ht4_315.at (inb_of St4_315 b4) g4) Arvv_315 (inb_of Svv_315 bv) (Hvv_315.at (inb_of Svv_315 bv) gv)) hZ (ow hw 90 rfl) (ow hw 4 rfl) (by decide) (by decide)) (g := (mkF mM 713 #[.val (.int u0), .val (.long u1), .second, .val (.long u2), .second, .val (.long u3), .second, .val (.int nn), .val (.ref vv), .val (.ref t3), .val (.ref t4), .val (.ref aa), .val (.int mm), .val (.ref pp), .val (.int ss), .val (.long sm), .second] [.ref t4, .ref t3, .ref vv, .int ss, .int mm, .int 9, .long sm])) rfl (by rw [hml]; rfl) (argsL := [.int 9, .int mm, .int ss, .ref vv, .ref t3, .ref t4]) (rest := [.long sm]) (lenOf pd__28III_5bI_5bJ_5bJ_29J rfl) rfl (by show 2 * 0 + _ ≤ _; exact Nat.le_of_eq rfl) (hb hby at_713) (fun _ _ => ⟨rfl, e0, (by decide : 6 + 0 ≤ _), (by decide : 48 + 0 ≤ _)⟩)
  dsimp only [Pt.U, Pt.locs, Pt.cells, Pt.slots] at X316 l316 y316 z316 st316 hQ316
  have X316 := own_cs X316 6 48 y316 z316
  obtain ⟨rfl, N316q, e316⟩ := hQ316
  have N316 := own_N l316 N0 N316q
  refine own_k T316 716 [(.long ((c3 * c4) * (wv).toInt64)), .long sm] st316 ?_
  refine own_j 717 [(.long (sm + ((c3 * c4) * (wv).toInt64)))] (fun t_ k_ => XS.ladd X316.here hx rfl (hb hby at_716) rfl k_) ?_
  let Lv317 : Array Slot := #[.val (.int u0), .val (.long u1), .second, .val (.long u2), .second, .val (.long u3), .second, .val (.int nn), .val (.ref vv), .val (.ref t3), .val (.ref t4), .val (.ref aa), .val (.int mm), .val (.ref pp), .val (.int ss), .val (.long (sm + ((c3 * c4) * (wv).toInt64))), .second]
  refine own_st (A := T316.setTop (mkF mM 719 Lv317 [])) (fun t_ k_ => XS.lstore X316.here hx rfl (hb hby at_717) rfl (l' := Lv317) rfl k_) ?_
  exact kont T316 _ X316 e316 N316 
theorem SZ9 (hw : own_tb a0 Z) (X0 : Stand pP lL eE room_1 sS mM args below meth cC T0 locs 6 48) (hx : pP.tables.exec = Jvm.exec) (hZ : Z.Warmed39 sS.vm) (hby : cC.code = code) (hml : cC.maxLocals = 17) (hown : sS.vm.findClass "com/example/gleanwork/gleanwork/schedule/RecentAverageAddPinLaw" = some mM.cls) (hlk : meth.locks = false) (hret : meth.sig.returnType = ret) (e0 : T0.heap = h0) (N0 : Fr n0 locs) (u0 : Int32) (u1 : Int64) (u2 : Int64) (u3 : Int64) (nn : Int32) (vv : Addr) (kv : ClassId) (t3 : Addr) (k3 : ClassId) (t4 : Addr) (k4 : ClassId) (aa : Addr) (mm : Int32) (pp : Addr) (ss : Int32) (sm : Int64) (hl : mm < (9 : Int32)) (kont : ∀ (T' : State) (L' : List Loc), Stand pP lL eE room_1 sS mM args below meth cC T' L' 6 48 → T'.heap = h0 → Fr n0 L' → own_Go pP eE below sS (QLaw n0) 24 192 (T'.setTop (mkF mM 719 #[.val (.int u0), .val (.long u1), .second, .val (.long u2), .second, .val (.long u3), .second, .val (.int nn), .val (.ref vv), .val (.ref t3), .val (.ref t4), .val (.ref aa), .val (.int mm), .val (.ref pp), .val (.int ss), .val (.long (sm + (0 : Int64))), .second] []))) :
    own_Go pP eE below sS (QLaw n0) 24 192 (T0.setTop (mkF mM 699 #[.val (.int u0), .val (.long u1), .second, .val (.long u2), .second, .val (.long u3), .second, .val (.int nn), .val (.ref vv), .val (.ref t3), .val (.ref t4), .val (.ref aa), .val (.int mm), .val (.ref pp), .val (.int ss), .val (.long sm), .second] [])) := by
  refine o_lload 701 X0 hx (hb hby at_699) rfl rfl ?_
  refine o_bipush 703 9 X0 hx (hb hby at_701) rfl rfl ?_
  refine o_iload 705 X0 hx (hb hby at_703) rfl rfl ?_
  refine o_iload 707 X0 hx (hb hby at_705) rfl rfl ?_
  refine o_aload 709 X0 hx (hb hby at_707) rfl rfl rfl ?_
  refine o_aload 711 X0 hx (hb hby at_709) rfl rfl rfl ?_
  refine o_aload 713 X0 hx (hb hby at_711) rfl rfl rfl ?_
  obtain ⟨_, _, ⟨T318, L318, k318, n318⟩, -, X318, ⟨Lc318, hQ318, l318, y318, z318⟩, st318⟩ := Jvm.LawKit.callS X0 hx (y := yn11) hown (mvT hZ (ow hw 88 rfl)) (mvT hZ (ow hw 89 rfl)) (mvT hZ (ow hw 4 rfl)) (mvT hZ (ow hw 90 rfl)) (by decide) (backOf (W := 2) (rmT0 lL Z a0 hw [] (9 : Int32) mm ss vv t3 t4 h0 n0 hl) hZ (ow hw 90 rfl) (ow hw 4 rfl) (by decide) (by decide)) (g := (mkF mM 713 #[.val (.int u0), .val (.long u1), .second, .val (.long u2), .second, .val (.long u3), .second, .val (.int nn), .val (.ref vv), .val (.ref t3), .val (.ref t4), .val (.ref aa), .val (.int mm), .val (.ref pp), .val (.int ss), .val (.long sm), .second] [.ref t4, .ref t3, .ref vv, .int ss, .int mm, .int 9, .long sm])) rfl (by rw [hml]; rfl) (argsL := [.int 9, .int mm, .int ss, .ref vv, .ref t3, .ref t4]) (rest := [.long sm]) (lenOf pd__28III_5bI_5bJ_5bJ_29J rfl) rfl (by show 2 * 0 + _ ≤ _; exact Nat.le_of_eq rfl) (hb hby at_713) (fun _ _ => ⟨rfl, e0, (by decide : 6 + 0 ≤ _), (by decide : 48 + 0 ≤ _)⟩)
  dsimp only [Pt.U, Pt.locs, Pt.cells, Pt.slots] at X318 l318 y318 z318 st318 hQ318
  have X318 := own_cs X318 6 48 y318 z318
  obtain ⟨rfl, N318q, e318⟩ := hQ318
  have N318 := own_N l318 N0 N318q
  refine own_k T318 716 [.long 0, .long sm] st318 ?_
  refine own_j 717 [(.long (sm + (0 : Int64)))] (fun t_ k_ => XS.ladd X318.here hx rfl (hb hby at_716) rfl k_) ?_
  let Lv319 : Array Slot := #[.val (.int u0), .val (.long u1), .second, .val (.long u2), .second, .val (.long u3), .second, .val (.int nn), .val (.ref vv), .val (.ref t3), .val (.ref t4), .val (.ref aa), .val (.int mm), .val (.ref pp), .val (.int ss), .val (.long (sm + (0 : Int64))), .second]
  refine own_st (A := T318.setTop (mkF mM 719 Lv319 [])) (fun t_ k_ => XS.lstore X318.here hx rfl (hb hby at_717) rfl (l' := Lv319) rfl k_) ?_
  exact kont T318 _ X318 e318 N318 
theorem ST10 (hw : own_tb a0 Z) (X0 : Stand pP lL eE room_1 sS mM args below meth cC T0 locs 6 48) (hx : pP.tables.exec = Jvm.exec) (hZ : Z.Warmed39 sS.vm) (hby : cC.code = code) (hml : cC.maxLocals = 17) (hown : sS.vm.findClass "com/example/gleanwork/gleanwork/schedule/RecentAverageAddPinLaw" = some mM.cls) (hlk : meth.locks = false) (hret : meth.sig.returnType = ret) (e0 : T0.heap = h0) (N0 : Fr n0 locs) (u0 : Int32) (u1 : Int64) (u2 : Int64) (u3 : Int64) (nn : Int32) (vv : Addr) (kv : ClassId) (t3 : Addr) (k3 : ClassId) (t4 : Addr) (k4 : ClassId) (aa : Addr) (mm : Int32) (pp : Addr) (ss : Int32) (sm : Int64) (lv : List Value) (l3 : List Value) (l4 : List Value) (c3 : Int64) (c4 : Int64) (wv : Int32) (A_vv : Arv Z h0 vv kv .int 12 lv (.int 0)) (A_t3 : Arv Z h0 t3 k3 .long 10 l3 (.long 0)) (A_t4 : Arv Z h0 t4 k4 .long 10 l4 (.long 0)) (hl : ¬ mm < (10 : Int32)) (b3 : ¬ (mm - (10 : Int32)) < 0 ∧ (mm - (10 : Int32)) < 10) (b4 : ¬ ((10 : Int32) - (2 : Int32)) < 0 ∧ ((10 : Int32) - (2 : Int32)) < 10) (bv : ¬ ((ss + (10 : Int32)) - (1 : Int32)) < 0 ∧ ((ss + (10 : Int32)) - (1 : Int32)) < 12) (g3 : l3.getD (mm - (10 : Int32)).toNatClampNeg (.long 0) = .long c3) (g4 : l4.getD ((10 : Int32) - (2 : Int32)).toNatClampNeg (.long 0) = .long c4) (gv : lv.getD ((ss + (10 : Int32)) - (1 : Int32)).toNatClampNeg (.int 0) = .int wv) (kont : ∀ (T' : State) (L' : List Loc), Stand pP lL eE room_1 sS mM args below meth cC T' L' 6 48 → T'.heap = h0 → Fr n0 L' → own_Go pP eE below sS (QLaw n0) 24 192 (T'.setTop (mkF mM 739 #[.val (.int u0), .val (.long u1), .second, .val (.long u2), .second, .val (.long u3), .second, .val (.int nn), .val (.ref vv), .val (.ref t3), .val (.ref t4), .val (.ref aa), .val (.int mm), .val (.ref pp), .val (.int ss), .val (.long (sm + ((c3 * c4) * (wv).toInt64))), .second] []))) :
    own_Go pP eE below sS (QLaw n0) 24 192 (T0.setTop (mkF mM 719 #[.val (.int u0), .val (.long u1), .second, .val (.long u2), .second, .val (.long u3), .second, .val (.int nn), .val (.ref vv), .val (.ref t3), .val (.ref t4), .val (.ref aa), .val (.int mm), .val (.ref pp), .val (.int ss), .val (.long sm), .second] [])) := by
  refine o_lload 721 X0 hx (hb hby at_719) rfl rfl ?_
  refine o_bipush 723 10 X0 hx (hb hby at_721) rfl rfl ?_
  refine o_iload 725 X0 hx (hb hby at_723) rfl rfl ?_
  refine o_iload 727 X0 hx (hb hby at_725) rfl rfl ?_
  refine o_aload 729 X0 hx (hb hby at_727) rfl rfl rfl ?_
  refine o_aload 731 X0 hx (hb hby at_729) rfl rfl rfl ?_
  refine o_aload 733 X0 hx (hb hby at_731) rfl rfl rfl ?_
  obtain ⟨clt3_320, Art3_320, qt3_320, St3_320, Nnt3_320, Ht3_320, Gt3_320⟩ := id A_t3
  obtain ⟨clt4_320, Art4_320, qt4_320, St4_320, Nnt4_320, Ht4_320, Gt4_320⟩ := id A_t4
  obtain ⟨clvv_320, Arvv_320, qvv_320, Svv_320, Nnvv_320, Hvv_320, Gvv_320⟩ := id A_vv
  obtain ⟨_, _, ⟨T321, L321, k321, n321⟩, -, X321, ⟨Lc321, hQ321, l321, y321, z321⟩, st321⟩ := Jvm.LawKit.callS X0 hx (y := yn11) hown (mvT hZ (ow hw 88 rfl)) (mvT hZ (ow hw 89 rfl)) (mvT hZ (ow hw 4 rfl)) (mvT hZ (ow hw 90 rfl)) (by decide) (backOf (W := 2) (rmT lL Z a0 hw [] (10 : Int32) mm ss vv t3 t4 clt3_320 clt4_320 clvv_320 c3 c4 wv h0 n0 hl Art3_320 (inb_of St3_320 b3) (Ht3_320.at (inb_of St3_320 b3) g3) Art4_320 (inb_of St4_320 b4) (Ht4_320.at (inb_of St4_320 b4) g4) Arvv_320 (inb_of Svv_320 bv) (Hvv_320.at (inb_of Svv_320 bv) gv)) hZ (ow hw 90 rfl) (ow hw 4 rfl) (by decide) (by decide)) (g := (mkF mM 733 #[.val (.int u0), .val (.long u1), .second, .val (.long u2), .second, .val (.long u3), .second, .val (.int nn), .val (.ref vv), .val (.ref t3), .val (.ref t4), .val (.ref aa), .val (.int mm), .val (.ref pp), .val (.int ss), .val (.long sm), .second] [.ref t4, .ref t3, .ref vv, .int ss, .int mm, .int 10, .long sm])) rfl (by rw [hml]; rfl) (argsL := [.int 10, .int mm, .int ss, .ref vv, .ref t3, .ref t4]) (rest := [.long sm]) (lenOf pd__28III_5bI_5bJ_5bJ_29J rfl) rfl (by show 2 * 0 + _ ≤ _; exact Nat.le_of_eq rfl) (hb hby at_733) (fun _ _ => ⟨rfl, e0, (by decide : 6 + 0 ≤ _), (by decide : 48 + 0 ≤ _)⟩)
  dsimp only [Pt.U, Pt.locs, Pt.cells, Pt.slots] at X321 l321 y321 z321 st321 hQ321
  have X321 := own_cs X321 6 48 y321 z321
  obtain ⟨rfl, N321q, e321⟩ := hQ321
  have N321 := own_N l321 N0 N321q
  refine own_k T321 736 [(.long ((c3 * c4) * (wv).toInt64)), .long sm] st321 ?_
  refine own_j 737 [(.long (sm + ((c3 * c4) * (wv).toInt64)))] (fun t_ k_ => XS.ladd X321.here hx rfl (hb hby at_736) rfl k_) ?_
  let Lv322 : Array Slot := #[.val (.int u0), .val (.long u1), .second, .val (.long u2), .second, .val (.long u3), .second, .val (.int nn), .val (.ref vv), .val (.ref t3), .val (.ref t4), .val (.ref aa), .val (.int mm), .val (.ref pp), .val (.int ss), .val (.long (sm + ((c3 * c4) * (wv).toInt64))), .second]
  refine own_st (A := T321.setTop (mkF mM 739 Lv322 [])) (fun t_ k_ => XS.lstore X321.here hx rfl (hb hby at_737) rfl (l' := Lv322) rfl k_) ?_
  exact kont T321 _ X321 e321 N321 
theorem SZ10 (hw : own_tb a0 Z) (X0 : Stand pP lL eE room_1 sS mM args below meth cC T0 locs 6 48) (hx : pP.tables.exec = Jvm.exec) (hZ : Z.Warmed39 sS.vm) (hby : cC.code = code) (hml : cC.maxLocals = 17) (hown : sS.vm.findClass "com/example/gleanwork/gleanwork/schedule/RecentAverageAddPinLaw" = some mM.cls) (hlk : meth.locks = false) (hret : meth.sig.returnType = ret) (e0 : T0.heap = h0) (N0 : Fr n0 locs) (u0 : Int32) (u1 : Int64) (u2 : Int64) (u3 : Int64) (nn : Int32) (vv : Addr) (kv : ClassId) (t3 : Addr) (k3 : ClassId) (t4 : Addr) (k4 : ClassId) (aa : Addr) (mm : Int32) (pp : Addr) (ss : Int32) (sm : Int64) (hl : mm < (10 : Int32)) (kont : ∀ (T' : State) (L' : List Loc), Stand pP lL eE room_1 sS mM args below meth cC T' L' 6 48 → T'.heap = h0 → Fr n0 L' → own_Go pP eE below sS (QLaw n0) 24 192 (T'.setTop (mkF mM 739 #[.val (.int u0), .val (.long u1), .second, .val (.long u2), .second, .val (.long u3), .second, .val (.int nn), .val (.ref vv), .val (.ref t3), .val (.ref t4), .val (.ref aa), .val (.int mm), .val (.ref pp), .val (.int ss), .val (.long (sm + (0 : Int64))), .second] []))) :
    own_Go pP eE below sS (QLaw n0) 24 192 (T0.setTop (mkF mM 719 #[.val (.int u0), .val (.long u1), .second, .val (.long u2), .second, .val (.long u3), .second, .val (.int nn), .val (.ref vv), .val (.ref t3), .val (.ref t4), .val (.ref aa), .val (.int mm), .val (.ref pp), .val (.int ss), .val (.long sm), .second] [])) := by
  refine o_lload 721 X0 hx (hb hby at_719) rfl rfl ?_
  refine o_bipush 723 10 X0 hx (hb hby at_721) rfl rfl ?_
  refine o_iload 725 X0 hx (hb hby at_723) rfl rfl ?_
  refine o_iload 727 X0 hx (hb hby at_725) rfl rfl ?_
  refine o_aload 729 X0 hx (hb hby at_727) rfl rfl rfl ?_
  refine o_aload 731 X0 hx (hb hby at_729) rfl rfl rfl ?_
  refine o_aload 733 X0 hx (hb hby at_731) rfl rfl rfl ?_
  obtain ⟨_, _, ⟨T323, L323, k323, n323⟩, -, X323, ⟨Lc323, hQ323, l323, y323, z323⟩, st323⟩ := Jvm.LawKit.callS X0 hx (y := yn11) hown (mvT hZ (ow hw 88 rfl)) (mvT hZ (ow hw 89 rfl)) (mvT hZ (ow hw 4 rfl)) (mvT hZ (ow hw 90 rfl)) (by decide) (backOf (W := 2) (rmT0 lL Z a0 hw [] (10 : Int32) mm ss vv t3 t4 h0 n0 hl) hZ (ow hw 90 rfl) (ow hw 4 rfl) (by decide) (by decide)) (g := (mkF mM 733 #[.val (.int u0), .val (.long u1), .second, .val (.long u2), .second, .val (.long u3), .second, .val (.int nn), .val (.ref vv), .val (.ref t3), .val (.ref t4), .val (.ref aa), .val (.int mm), .val (.ref pp), .val (.int ss), .val (.long sm), .second] [.ref t4, .ref t3, .ref vv, .int ss, .int mm, .int 10, .long sm])) rfl (by rw [hml]; rfl) (argsL := [.int 10, .int mm, .int ss, .ref vv, .ref t3, .ref t4]) (rest := [.long sm]) (lenOf pd__28III_5bI_5bJ_5bJ_29J rfl) rfl (by show 2 * 0 + _ ≤ _; exact Nat.le_of_eq rfl) (hb hby at_733) (fun _ _ => ⟨rfl, e0, (by decide : 6 + 0 ≤ _), (by decide : 48 + 0 ≤ _)⟩)
  dsimp only [Pt.U, Pt.locs, Pt.cells, Pt.slots] at X323 l323 y323 z323 st323 hQ323
  have X323 := own_cs X323 6 48 y323 z323
  obtain ⟨rfl, N323q, e323⟩ := hQ323
  have N323 := own_N l323 N0 N323q
  refine own_k T323 736 [.long 0, .long sm] st323 ?_
  refine own_j 737 [(.long (sm + (0 : Int64)))] (fun t_ k_ => XS.ladd X323.here hx rfl (hb hby at_736) rfl k_) ?_
  let Lv324 : Array Slot := #[.val (.int u0), .val (.long u1), .second, .val (.long u2), .second, .val (.long u3), .second, .val (.int nn), .val (.ref vv), .val (.ref t3), .val (.ref t4), .val (.ref aa), .val (.int mm), .val (.ref pp), .val (.int ss), .val (.long (sm + (0 : Int64))), .second]
  refine own_st (A := T323.setTop (mkF mM 739 Lv324 [])) (fun t_ k_ => XS.lstore X323.here hx rfl (hb hby at_737) rfl (l' := Lv324) rfl k_) ?_
  exact kont T323 _ X323 e323 N323 
theorem pd__28II_29I : parseMethodDescriptor "(II)I" = some ⟨[.int, .int], some .int⟩ := by decide +kernel
theorem pd__28_29I : parseMethodDescriptor "()I" = some ⟨[], some .int⟩ := by decide +kernel
theorem pd__28_29Z : parseMethodDescriptor "()Z" = some ⟨[], some .boolean⟩ := by decide +kernel
theorem J278_0 (hw : own_tb a0 Z) (X0 : Stand pP lL eE room_1 sS mM args below meth cC T0 locs 5 46) (hx : pP.tables.exec = Jvm.exec) (hZ : Z.Warmed39 sS.vm) (hby : cC.code = code) (hml : cC.maxLocals = 17) (hown : sS.vm.findClass "com/example/gleanwork/gleanwork/schedule/RecentAverageAddPinLaw" = some mM.cls) (hlk : meth.locks = false) (hret : meth.sig.returnType = ret) (e0 : T0.heap = h0) (N0 : Fr n0 locs) (u0 : Int32) (u1 : Int64) (u2 : Int64) (u3 : Int64) (w0 : Int32) (w1 : Int32) (w2 : Int32) (w3 : Int32) (w4 : Int32) (w5 : Int32) (w6 : Int32) (w7 : Int32) (w8 : Int32) (w9 : Int32) (w10 : Int32) (w11 : Int32) (vv : Addr) (kv : ClassId) (t3 : Addr) (k3 : ClassId) (t4 : Addr) (k4 : ClassId) (aa : Addr) (dd : Addr) (kd : ClassId) (em : Addr) (O : Old Z n0 h0) (Zn : n0 ≤ h0.size) (g_aa : n0 ≤ aa) (g_dd : n0 ≤ dd) (A_vv : Arv Z h0 vv kv .int 12 [.int w0, .int w1, .int w2, .int w3, .int w4, .int w5, .int w6, .int w7, .int w8, .int w9, .int w10, .int w11] (.int 0)) (A_t3 : Arv Z h0 t3 k3 .long 10 [.long 1, .long 3, .long 9, .long 27, .long 81, .long 243, .long 729, .long 2187, .long 6561, .long 19683] (.long 0)) (A_t4 : Arv Z h0 t4 k4 .long 10 [.long 1, .long 4, .long 16, .long 64, .long 256, .long 1024, .long 4096, .long 16384, .long 65536, .long 262144] (.long 0)) (nq0 : vv ≠ aa) (nq1 : vv ≠ dd) (nq2 : t3 ≠ aa) (nq3 : t3 ≠ dd) (nq4 : t4 ≠ aa) (nq5 : t4 ≠ dd) (nq6 : aa ≠ dd) (ra : Ra Z h0 aa dd kd 0 0 0 [.double 0, .double 0, .double 0, .double 0, .double 0, .double 0, .double 0, .double 0, .double 0, .double 0]) (S_em : Sta Z Z.heap "java/util/OptionalDouble" "EMPTY" "Ljava/util/OptionalDouble;" (.ref em)) (E_em : Exa Z Z.heap em "java/util/OptionalDouble") (F_em : Fld Z Z.heap em "java/util/OptionalDouble" "isPresent" "Z" (.int 0)) (bl0 : -32768 ≤ w0.toInt) (bl1 : -32768 ≤ w1.toInt) (bl2 : -32768 ≤ w2.toInt) (bl3 : -32768 ≤ w3.toInt) (bl4 : -32768 ≤ w4.toInt) (bl5 : -32768 ≤ w5.toInt) (bl6 : -32768 ≤ w6.toInt) (bl7 : -32768 ≤ w7.toInt) (bl8 : -32768 ≤ w8.toInt) (bl9 : -32768 ≤ w9.toInt) (bl10 : -32768 ≤ w10.toInt) (bl11 : -32768 ≤ w11.toInt) (bu0 : w0.toInt ≤ 32768) (bu1 : w1.toInt ≤ 32768) (bu2 : w2.toInt ≤ 32768) (bu3 : w3.toInt ≤ 32768) (bu4 : w4.toInt ≤ 32768) (bu5 : w5.toInt ≤ 32768) (bu6 : w6.toInt ≤ 32768) (bu7 : w7.toInt ≤ 32768) (bu8 : w8.toInt ≤ 32768) (bu9 : w9.toInt ≤ 32768) (bu10 : w10.toInt ≤ 32768) (bu11 : w11.toInt ≤ 32768) :
    own_Go pP eE below sS (QLaw n0) 24 192 (T0.setTop (mkF mM 278 #[.val (.int u0), .val (.long u1), .second, .val (.long u2), .second, .val (.long u3), .second, .val (.int 0), .val (.ref vv), .val (.ref t3), .val (.ref t4), .val (.ref aa), .unset, .unset, .unset, .unset, .unset] [])) := by
  refine o_iload 280 X0 hx (hb hby at_278) rfl rfl ?_
  refine o_iconst 281 1 X0 hx (hb hby at_280) rfl rfl ?_
  refine o_icmpYes 294 X0 hx (hb hby at_281) (tlt (by decide : ((0 : Int32) < (1 : Int32)))).1 (by decide) ?_
  refine o_iload 296 X0 hx (hb hby at_294) rfl rfl ?_
  refine o_iconst 297 2 X0 hx (hb hby at_296) rfl rfl ?_
  refine o_icmpYes 310 X0 hx (hb hby at_297) (tlt (by decide : ((0 : Int32) < (2 : Int32)))).1 (by decide) ?_
  refine o_iload 312 X0 hx (hb hby at_310) rfl rfl ?_
  refine o_iconst 313 3 X0 hx (hb hby at_312) rfl rfl ?_
  refine o_icmpYes 326 X0 hx (hb hby at_313) (tlt (by decide : ((0 : Int32) < (3 : Int32)))).1 (by decide) ?_
  refine o_iload 328 X0 hx (hb hby at_326) rfl rfl ?_
  refine o_iconst 329 4 X0 hx (hb hby at_328) rfl rfl ?_
  refine o_icmpYes 342 X0 hx (hb hby at_329) (tlt (by decide : ((0 : Int32) < (4 : Int32)))).1 (by decide) ?_
  refine o_iload 344 X0 hx (hb hby at_342) rfl rfl ?_
  refine o_iconst 345 5 X0 hx (hb hby at_344) rfl rfl ?_
  refine o_icmpYes 358 X0 hx (hb hby at_345) (tlt (by decide : ((0 : Int32) < (5 : Int32)))).1 (by decide) ?_
  refine o_iload 360 X0 hx (hb hby at_358) rfl rfl ?_
  refine o_bipush 362 6 X0 hx (hb hby at_360) rfl rfl ?_
  refine o_icmpYes 375 X0 hx (hb hby at_362) (tlt (by decide : ((0 : Int32) < (6 : Int32)))).1 (by decide) ?_
  refine o_iload 377 X0 hx (hb hby at_375) rfl rfl ?_
  refine o_bipush 379 7 X0 hx (hb hby at_377) rfl rfl ?_
  refine o_icmpYes 393 X0 hx (hb hby at_379) (tlt (by decide : ((0 : Int32) < (7 : Int32)))).1 (by decide) ?_
  refine o_iload 395 X0 hx (hb hby at_393) rfl rfl ?_
  refine o_bipush 397 8 X0 hx (hb hby at_395) rfl rfl ?_
  refine o_icmpYes 411 X0 hx (hb hby at_397) (tlt (by decide : ((0 : Int32) < (8 : Int32)))).1 (by decide) ?_
  refine o_iload 413 X0 hx (hb hby at_411) rfl rfl ?_
  refine o_bipush 415 9 X0 hx (hb hby at_413) rfl rfl ?_
  refine o_icmpYes 429 X0 hx (hb hby at_415) (tlt (by decide : ((0 : Int32) < (9 : Int32)))).1 (by decide) ?_
  refine o_iload 431 X0 hx (hb hby at_429) rfl rfl ?_
  refine o_bipush 433 10 X0 hx (hb hby at_431) rfl rfl ?_
  refine o_icmpYes 447 X0 hx (hb hby at_433) (tlt (by decide : ((0 : Int32) < (10 : Int32)))).1 (by decide) ?_
  refine o_iload 449 X0 hx (hb hby at_447) rfl rfl ?_
  refine o_bipush 451 11 X0 hx (hb hby at_449) rfl rfl ?_
  refine o_icmpYes 465 X0 hx (hb hby at_451) (tlt (by decide : ((0 : Int32) < (11 : Int32)))).1 (by decide) ?_
  refine o_iload 467 X0 hx (hb hby at_465) rfl rfl ?_
  refine o_bipush 469 12 X0 hx (hb hby at_467) rfl rfl ?_
  refine o_icmpYes 483 X0 hx (hb hby at_469) (tlt (by decide : ((0 : Int32) < (12 : Int32)))).1 (by decide) ?_
  refine o_iload 485 X0 hx (hb hby at_483) rfl rfl ?_
  refine o_bipush 487 10 X0 hx (hb hby at_485) rfl rfl ?_
  obtain ⟨_, _, ⟨T325, L325, k325, n325⟩, -, X325, ⟨Lc325, hQ325, l325, y325, z325⟩, st325⟩ := Jvm.LawKit.callS X0 hx (y := yn3) hown (mvT hZ (ow hw 37 rfl)) (mvT hZ (ow hw 38 rfl)) (mvT hZ (ow hw 39 rfl)) (mvT hZ (ow hw 40 rfl)) (by decide) (backOf (W := 0) (rmM0 lL Z a0 hw []  h0 n0 ) hZ (ow hw 40 rfl) (ow hw 39 rfl) (by decide) (by decide)) (g := (mkF mM 487 #[.val (.int u0), .val (.long u1), .second, .val (.long u2), .second, .val (.long u3), .second, .val (.int 0), .val (.ref vv), .val (.ref t3), .val (.ref t4), .val (.ref aa), .unset, .unset, .unset, .unset, .unset] [.int 10, .int 0])) rfl (by rw [hml]; rfl) (argsL := [.int 0, .int 10]) (rest := []) (lenOf pd__28II_29I rfl) rfl (by show 2 * 0 + _ ≤ _; exact Nat.le_of_eq rfl) (hb hby at_487) (fun _ _ => ⟨rfl, e0, (by decide : 5 + 0 ≤ _), (by decide : 46 + 0 ≤ _)⟩)
  dsimp only [Pt.U, Pt.locs, Pt.cells, Pt.slots] at X325 l325 y325 z325 st325 hQ325
  have X325 := own_cs X325 5 46 y325 z325
  obtain ⟨rfl, N325q, e325⟩ := hQ325
  have N325 := own_N l325 N0 N325q
  refine own_k T325 490 [.int 0] st325 ?_
  let Lv326 : Array Slot := #[.val (.int u0), .val (.long u1), .second, .val (.long u2), .second, .val (.long u3), .second, .val (.int 0), .val (.ref vv), .val (.ref t3), .val (.ref t4), .val (.ref aa), .val (.int 0), .unset, .unset, .unset, .unset]
  refine own_st (A := T325.setTop (mkF mM 492 Lv326 [])) (fun t_ k_ => XS.istore X325.here hx rfl (hb hby at_490) rfl (l' := Lv326) rfl k_) ?_
  refine o_aload 494 X325 hx (hb hby at_492) rfl rfl rfl ?_
  obtain ⟨cq327, kq327, q327a, q327b, q327c⟩ := isOf hZ e325 ra.1
  obtain ⟨_, _, ⟨T327, L327, k327, n327⟩, -, X327, ⟨Lc327, hQ327, l327, y327, z327⟩, st327⟩ := X325.virtualBack hx (y := yn4) (z := yn4) hown (mvT hZ (ow hw 41 rfl)) (mvT hZ (ow hw 42 rfl)) (notFace_of_selects (args := #[]) (mvT hZ (ow hw 44 rfl))) (mvT hZ (ow hw 44 rfl)) (mvT hZ (ow hw 43 rfl)) (by decide) (backOf (W := 0) (rmC lL Z a0 hw [] aa 0 h0 n0 ra.2.2.1) hZ (ow hw 45 rfl) (ow hw 27 rfl) (by decide) (by decide)) q327a q327c (g := (mkF mM 494 Lv326 [.ref aa])) rfl (by rw [hml]; rfl) (Steps.refl _) (argsL := []) (rest := []) (lenOf pd__28_29I rfl) rfl (by show 2 * 0 + _ ≤ _; exact Nat.le_of_eq rfl) (hb hby at_494) (fun _ _ => ⟨rfl, e325, (by decide : 5 + 0 ≤ _), (by decide : 46 + 0 ≤ _)⟩)
  dsimp only [Pt.U, Pt.locs, Pt.cells, Pt.slots] at X327 l327 y327 z327 st327 hQ327
  have X327 := own_cs X327 5 46 y327 z327
  obtain ⟨rfl, N327q, e327⟩ := hQ327
  have N327 := own_N l327 N325 N327q
  refine own_k T327 497 [.int 0] (fun t_ k_ => st327.trans k_) ?_
  refine o_iload 499 X327 hx (hb hby at_497) rfl rfl ?_
  refine o_icmpYes 504 X327 hx (hb hby at_499) (teq (by decide : ((0 : Int32) = (0 : Int32)))).1 (by decide) ?_
  refine o_aload 506 X327 hx (hb hby at_504) rfl rfl rfl ?_
  obtain ⟨cq328, kq328, q328a, q328b, q328c⟩ := isOf hZ e327 ra.1
  obtain ⟨_, _, ⟨T328, L328, k328, n328⟩, -, X328, ⟨Lc328, hQ328, l328, y328, z328⟩, st328⟩ := X327.virtualBack hx (y := yn8) (z := yn8) hown (mvT hZ (ow hw 48 rfl)) (mvT hZ (ow hw 49 rfl)) (notFace_of_selects (args := #[]) (mvT hZ (ow hw 51 rfl))) (mvT hZ (ow hw 51 rfl)) (mvT hZ (ow hw 50 rfl)) (by decide) (backOf (W := 0) (rmV0 lL Z a0 hw [] aa em h0 n0 ra.2.2.1 (S_em.ext O.2)) hZ (ow hw 52 rfl) (ow hw 27 rfl) (by decide) (by decide)) q328a q328c (g := (mkF mM 506 Lv326 [.ref aa])) rfl (by rw [hml]; rfl) (Steps.refl _) (argsL := []) (rest := []) (lenOf pd__28_29Ljava_2futil_2fOptionalDouble_3b rfl) rfl (by show 2 * 0 + _ ≤ _; exact Nat.le_of_eq rfl) (hb hby at_506) (fun _ _ => ⟨rfl, e327, (by decide : 5 + 0 ≤ _), (by decide : 46 + 0 ≤ _)⟩)
  dsimp only [Pt.U, Pt.locs, Pt.cells, Pt.slots] at X328 l328 y328 z328 st328 hQ328
  have X328 := own_cs X328 5 46 y328 z328
  obtain ⟨rfl, N328q, e328⟩ := hQ328
  have N328 := own_N l328 N327 N328q
  refine own_k T328 509 [.ref em] (fun t_ k_ => st328.trans k_) ?_
  let Lv329 : Array Slot := #[.val (.int u0), .val (.long u1), .second, .val (.long u2), .second, .val (.long u3), .second, .val (.int 0), .val (.ref vv), .val (.ref t3), .val (.ref t4), .val (.ref aa), .val (.int 0), .val (.ref em), .unset, .unset, .unset]
  refine own_st (A := T328.setTop (mkF mM 511 Lv329 [])) (fun t_ k_ => XS.astore X328.here hx rfl (hb hby at_509) rfl rfl (l' := Lv329) rfl k_) ?_
  refine o_iload 513 X328 hx (hb hby at_511) rfl rfl ?_
  refine o_ifNo 516 X328 hx (hb hby at_513) ((if0 _ _).trans (teq (by decide : ((0 : Int32) = (0 : Int32)))).2) rfl ?_
  refine o_aload 518 X328 hx (hb hby at_516) rfl rfl rfl ?_
  obtain ⟨cq330, kq330, q330a, q330b, q330c⟩ := isOf hZ e328 (E_em.ext O.2)
  obtain ⟨_, _, ⟨T330, L330, k330, n330⟩, -, X330, ⟨Lc330, hQ330, l330, y330, z330⟩, st330⟩ := X328.virtualBack hx (y := yn9) (z := yn9) hown (mvT hZ (ow hw 58 rfl)) (mvT hZ (ow hw 59 rfl)) (notFace_of_selects (args := #[]) (mvT hZ (ow hw 61 rfl))) (mvT hZ (ow hw 61 rfl)) (mvT hZ (ow hw 60 rfl)) (by decide) (backOf (W := 0) (rmP0 lL Z a0 hw [] em h0 n0 (F_em.ext O.2)) hZ (ow hw 62 rfl) (ow hw 55 rfl) (by decide) (by decide)) q330a q330c (g := (mkF mM 518 Lv329 [.ref em])) rfl (by rw [hml]; rfl) (Steps.refl _) (argsL := []) (rest := []) (lenOf pd__28_29Z rfl) rfl (by show 2 * 0 + _ ≤ _; exact Nat.le_of_eq rfl) (hb hby at_518) (fun _ _ => ⟨rfl, e328, (by decide : 5 + 0 ≤ _), (by decide : 46 + 0 ≤ _)⟩)
  dsimp only [Pt.U, Pt.locs, Pt.cells, Pt.slots] at X330 l330 y330 z330 st330 hQ330
  have X330 := own_cs X330 5 46 y330 z330
  obtain ⟨rfl, N330q, e330⟩ := hQ330
  have N330 := own_N l330 N328 N330q
  refine own_k T330 521 [.int 0] (fun t_ k_ => st330.trans k_) ?_
  refine o_ifNo 524 X330 hx (hb hby at_521) ((if0 _ _).trans (teq (by decide : ((0 : Int32) = (0 : Int32)))).2) rfl ?_
  refine o_iconst 525 1 X330 hx (hb hby at_524) rfl rfl ?_
  refine o_goto 529 X330 hx (hb hby at_525) (by decide) ?_
  exact own_retN X330 hx hlk (t := .boolean) hret (by simp) (hb hby at_529) ⟨rfl, N330⟩ (by decide) (by decide)
theorem pd__28_29D : parseMethodDescriptor "()D" = some ⟨[], some .double⟩ := by decide +kernel
theorem J278_1 (hw : own_tb a0 Z) (X0 : Stand pP lL eE room_1 sS mM args below meth cC T0 locs 5 46) (hx : pP.tables.exec = Jvm.exec) (hZ : Z.Warmed39 sS.vm) (hby : cC.code = code) (hml : cC.maxLocals = 17) (hown : sS.vm.findClass "com/example/gleanwork/gleanwork/schedule/RecentAverageAddPinLaw" = some mM.cls) (hlk : meth.locks = false) (hret : meth.sig.returnType = ret) (e0 : T0.heap = h0) (N0 : Fr n0 locs) (u0 : Int32) (u1 : Int64) (u2 : Int64) (u3 : Int64) (w0 : Int32) (w1 : Int32) (w2 : Int32) (w3 : Int32) (w4 : Int32) (w5 : Int32) (w6 : Int32) (w7 : Int32) (w8 : Int32) (w9 : Int32) (w10 : Int32) (w11 : Int32) (vv : Addr) (kv : ClassId) (t3 : Addr) (k3 : ClassId) (t4 : Addr) (k4 : ClassId) (aa : Addr) (dd : Addr) (kd : ClassId) (em : Addr) (O : Old Z n0 h0) (Zn : n0 ≤ h0.size) (g_aa : n0 ≤ aa) (g_dd : n0 ≤ dd) (A_vv : Arv Z h0 vv kv .int 12 [.int w0, .int w1, .int w2, .int w3, .int w4, .int w5, .int w6, .int w7, .int w8, .int w9, .int w10, .int w11] (.int 0)) (A_t3 : Arv Z h0 t3 k3 .long 10 [.long 1, .long 3, .long 9, .long 27, .long 81, .long 243, .long 729, .long 2187, .long 6561, .long 19683] (.long 0)) (A_t4 : Arv Z h0 t4 k4 .long 10 [.long 1, .long 4, .long 16, .long 64, .long 256, .long 1024, .long 4096, .long 16384, .long 65536, .long 262144] (.long 0)) (nq0 : vv ≠ aa) (nq1 : vv ≠ dd) (nq2 : t3 ≠ aa) (nq3 : t3 ≠ dd) (nq4 : t4 ≠ aa) (nq5 : t4 ≠ dd) (nq6 : aa ≠ dd) (ra : Ra Z h0 aa dd kd 0 0 0 [.double 0, .double 0, .double 0, .double 0, .double 0, .double 0, .double 0, .double 0, .double 0, .double 0]) (S_em : Sta Z Z.heap "java/util/OptionalDouble" "EMPTY" "Ljava/util/OptionalDouble;" (.ref em)) (E_em : Exa Z Z.heap em "java/util/OptionalDouble") (F_em : Fld Z Z.heap em "java/util/OptionalDouble" "isPresent" "Z" (.int 0)) (bl0 : -32768 ≤ w0.toInt) (bl1 : -32768 ≤ w1.toInt) (bl2 : -32768 ≤ w2.toInt) (bl3 : -32768 ≤ w3.toInt) (bl4 : -32768 ≤ w4.toInt) (bl5 : -32768 ≤ w5.toInt) (bl6 : -32768 ≤ w6.toInt) (bl7 : -32768 ≤ w7.toInt) (bl8 : -32768 ≤ w8.toInt) (bl9 : -32768 ≤ w9.toInt) (bl10 : -32768 ≤ w10.toInt) (bl11 : -32768 ≤ w11.toInt) (bu0 : w0.toInt ≤ 32768) (bu1 : w1.toInt ≤ 32768) (bu2 : w2.toInt ≤ 32768) (bu3 : w3.toInt ≤ 32768) (bu4 : w4.toInt ≤ 32768) (bu5 : w5.toInt ≤ 32768) (bu6 : w6.toInt ≤ 32768) (bu7 : w7.toInt ≤ 32768) (bu8 : w8.toInt ≤ 32768) (bu9 : w9.toInt ≤ 32768) (bu10 : w10.toInt ≤ 32768) (bu11 : w11.toInt ≤ 32768) :
    own_Go pP eE below sS (QLaw n0) 24 192 (T0.setTop (mkF mM 278 #[.val (.int u0), .val (.long u1), .second, .val (.long u2), .second, .val (.long u3), .second, .val (.int 1), .val (.ref vv), .val (.ref t3), .val (.ref t4), .val (.ref aa), .unset, .unset, .unset, .unset, .unset] [])) := by
  refine SA1 hw X0 hx hZ hby hml hown hlk hret e0 N0 u0 u1 u2 u3 1 w0 w1 w2 w3 w4 w5 w6 w7 w8 w9 w10 w11 vv kv t3 k3 t4 k4 aa dd kd O Zn g_aa g_dd A_vv A_t3 A_t4 nq0 nq1 nq2 nq3 nq4 nq5 nq6 ra bl0 bl1 bl2 bl3 bl4 bl5 bl6 bl7 bl8 bl9 bl10 bl11 bu0 bu1 bu2 bu3 bu4 bu5 bu6 bu7 bu8 bu9 bu10 bu11 (by decide) (fun T331 L331 h331 X331 e331 N331 O Zn A_vv A_t3 A_t4 ra => ?_)
  refine o_iload 296 X331 hx (hb hby at_294) rfl rfl ?_
  refine o_iconst 297 2 X331 hx (hb hby at_296) rfl rfl ?_
  refine o_icmpYes 310 X331 hx (hb hby at_297) (tlt (by decide : ((1 : Int32) < (2 : Int32)))).1 (by decide) ?_
  refine o_iload 312 X331 hx (hb hby at_310) rfl rfl ?_
  refine o_iconst 313 3 X331 hx (hb hby at_312) rfl rfl ?_
  refine o_icmpYes 326 X331 hx (hb hby at_313) (tlt (by decide : ((1 : Int32) < (3 : Int32)))).1 (by decide) ?_
  refine o_iload 328 X331 hx (hb hby at_326) rfl rfl ?_
  refine o_iconst 329 4 X331 hx (hb hby at_328) rfl rfl ?_
  refine o_icmpYes 342 X331 hx (hb hby at_329) (tlt (by decide : ((1 : Int32) < (4 : Int32)))).1 (by decide) ?_
  refine o_iload 344 X331 hx (hb hby at_342) rfl rfl ?_
  refine o_iconst 345 5 X331 hx (hb hby at_344) rfl rfl ?_
  refine o_icmpYes 358 X331 hx (hb hby at_345) (tlt (by decide : ((1 : Int32) < (5 : Int32)))).1 (by decide) ?_
  refine o_iload 360 X331 hx (hb hby at_358) rfl rfl ?_
  refine o_bipush 362 6 X331 hx (hb hby at_360) rfl rfl ?_
  refine o_icmpYes 375 X331 hx (hb hby at_362) (tlt (by decide : ((1 : Int32) < (6 : Int32)))).1 (by decide) ?_
  refine o_iload 377 X331 hx (hb hby at_375) rfl rfl ?_
  refine o_bipush 379 7 X331 hx (hb hby at_377) rfl rfl ?_
  refine o_icmpYes 393 X331 hx (hb hby at_379) (tlt (by decide : ((1 : Int32) < (7 : Int32)))).1 (by decide) ?_
  refine o_iload 395 X331 hx (hb hby at_393) rfl rfl ?_
  refine o_bipush 397 8 X331 hx (hb hby at_395) rfl rfl ?_
  refine o_icmpYes 411 X331 hx (hb hby at_397) (tlt (by decide : ((1 : Int32) < (8 : Int32)))).1 (by decide) ?_
  refine o_iload 413 X331 hx (hb hby at_411) rfl rfl ?_
  refine o_bipush 415 9 X331 hx (hb hby at_413) rfl rfl ?_
  refine o_icmpYes 429 X331 hx (hb hby at_415) (tlt (by decide : ((1 : Int32) < (9 : Int32)))).1 (by decide) ?_
  refine o_iload 431 X331 hx (hb hby at_429) rfl rfl ?_
  refine o_bipush 433 10 X331 hx (hb hby at_431) rfl rfl ?_
  refine o_icmpYes 447 X331 hx (hb hby at_433) (tlt (by decide : ((1 : Int32) < (10 : Int32)))).1 (by decide) ?_
  refine o_iload 449 X331 hx (hb hby at_447) rfl rfl ?_
  refine o_bipush 451 11 X331 hx (hb hby at_449) rfl rfl ?_
  refine o_icmpYes 465 X331 hx (hb hby at_451) (tlt (by decide : ((1 : Int32) < (11 : Int32)))).1 (by decide) ?_
  refine o_iload 467 X331 hx (hb hby at_465) rfl rfl ?_
  refine o_bipush 469 12 X331 hx (hb hby at_467) rfl rfl ?_
  refine o_icmpYes 483 X331 hx (hb hby at_469) (tlt (by decide : ((1 : Int32) < (12 : Int32)))).1 (by decide) ?_
  refine o_iload 485 X331 hx (hb hby at_483) rfl rfl ?_
  refine o_bipush 487 10 X331 hx (hb hby at_485) rfl rfl ?_
  obtain ⟨_, _, ⟨T332, L332, k332, n332⟩, -, X332, ⟨Lc332, hQ332, l332, y332, z332⟩, st332⟩ := Jvm.LawKit.callS X331 hx (y := yn3) hown (mvT hZ (ow hw 37 rfl)) (mvT hZ (ow hw 38 rfl)) (mvT hZ (ow hw 39 rfl)) (mvT hZ (ow hw 40 rfl)) (by decide) (backOf (W := 0) (rmM1 lL Z a0 hw []  h331 n0 ) hZ (ow hw 40 rfl) (ow hw 39 rfl) (by decide) (by decide)) (g := (mkF mM 487 #[.val (.int u0), .val (.long u1), .second, .val (.long u2), .second, .val (.long u3), .second, .val (.int 1), .val (.ref vv), .val (.ref t3), .val (.ref t4), .val (.ref aa), .unset, .unset, .unset, .unset, .unset] [.int 10, .int 1])) rfl (by rw [hml]; rfl) (argsL := [.int 1, .int 10]) (rest := []) (lenOf pd__28II_29I rfl) rfl (by show 2 * 0 + _ ≤ _; exact Nat.le_of_eq rfl) (hb hby at_487) (fun _ _ => ⟨rfl, e331, (by decide : 5 + 0 ≤ _), (by decide : 46 + 0 ≤ _)⟩)
  dsimp only [Pt.U, Pt.locs, Pt.cells, Pt.slots] at X332 l332 y332 z332 st332 hQ332
  have X332 := own_cs X332 5 46 y332 z332
  obtain ⟨rfl, N332q, e332⟩ := hQ332
  have N332 := own_N l332 N331 N332q
  refine own_k T332 490 [.int 1] st332 ?_
  let Lv333 : Array Slot := #[.val (.int u0), .val (.long u1), .second, .val (.long u2), .second, .val (.long u3), .second, .val (.int 1), .val (.ref vv), .val (.ref t3), .val (.ref t4), .val (.ref aa), .val (.int 1), .unset, .unset, .unset, .unset]
  refine own_st (A := T332.setTop (mkF mM 492 Lv333 [])) (fun t_ k_ => XS.istore X332.here hx rfl (hb hby at_490) rfl (l' := Lv333) rfl k_) ?_
  refine o_aload 494 X332 hx (hb hby at_492) rfl rfl rfl ?_
  obtain ⟨cq334, kq334, q334a, q334b, q334c⟩ := isOf hZ e332 ra.1
  obtain ⟨_, _, ⟨T334, L334, k334, n334⟩, -, X334, ⟨Lc334, hQ334, l334, y334, z334⟩, st334⟩ := X332.virtualBack hx (y := yn4) (z := yn4) hown (mvT hZ (ow hw 41 rfl)) (mvT hZ (ow hw 42 rfl)) (notFace_of_selects (args := #[]) (mvT hZ (ow hw 44 rfl))) (mvT hZ (ow hw 44 rfl)) (mvT hZ (ow hw 43 rfl)) (by decide) (backOf (W := 0) (rmC lL Z a0 hw [] aa 1 h331 n0 ra.2.2.1) hZ (ow hw 45 rfl) (ow hw 27 rfl) (by decide) (by decide)) q334a q334c (g := (mkF mM 494 Lv333 [.ref aa])) rfl (by rw [hml]; rfl) (Steps.refl _) (argsL := []) (rest := []) (lenOf pd__28_29I rfl) rfl (by show 2 * 0 + _ ≤ _; exact Nat.le_of_eq rfl) (hb hby at_494) (fun _ _ => ⟨rfl, e332, (by decide : 5 + 0 ≤ _), (by decide : 46 + 0 ≤ _)⟩)
  dsimp only [Pt.U, Pt.locs, Pt.cells, Pt.slots] at X334 l334 y334 z334 st334 hQ334
  have X334 := own_cs X334 5 46 y334 z334
  obtain ⟨rfl, N334q, e334⟩ := hQ334
  have N334 := own_N l334 N332 N334q
  refine own_k T334 497 [.int 1] (fun t_ k_ => st334.trans k_) ?_
  refine o_iload 499 X334 hx (hb hby at_497) rfl rfl ?_
  refine o_icmpYes 504 X334 hx (hb hby at_499) (teq (by decide : ((1 : Int32) = (1 : Int32)))).1 (by decide) ?_
  refine o_aload 506 X334 hx (hb hby at_504) rfl rfl rfl ?_
  obtain ⟨cq335, kq335, q335a, q335b, q335c⟩ := isOf hZ e334 ra.1
  obtain ⟨_, _, ⟨T335, L335, k335, n335⟩, -, X335, ⟨Lc335, hQ335, l335, y335, z335⟩, st335⟩ := X334.virtualBack hx (y := yn8) (z := yn8) hown (mvT hZ (ow hw 48 rfl)) (mvT hZ (ow hw 49 rfl)) (notFace_of_selects (args := #[]) (mvT hZ (ow hw 51 rfl))) (mvT hZ (ow hw 51 rfl)) (mvT hZ (ow hw 50 rfl)) (by decide) (backOf (W := 0) (rmV lL Z a0 hw [] aa 1 (FP.i2d w0) h331 n0 Zn ra.2.2.1 ra.2.2.2.2.1 (by decide)) hZ (ow hw 52 rfl) (ow hw 27 rfl) (by decide) (by decide)) q335a q335c (g := (mkF mM 506 Lv333 [.ref aa])) rfl (by rw [hml]; rfl) (Steps.refl _) (argsL := []) (rest := []) (lenOf pd__28_29Ljava_2futil_2fOptionalDouble_3b rfl) rfl (by show 2 * 0 + _ ≤ _; exact Nat.le_of_eq rfl) (hb hby at_506) (fun _ _ => ⟨rfl, e334, (by decide : 5 + 1 ≤ _), (by decide : 46 + 2 ≤ _)⟩)
  dsimp only [Pt.U, Pt.locs, Pt.cells, Pt.slots] at X335 l335 y335 z335 st335 hQ335
  have X335 := own_cs X335 6 48 y335 z335
  obtain ⟨p335, rfl, N335q, E335, od⟩ := hQ335
  have N335 := own_N l335 N334 N335q
  have e335 : T335.heap = T335.heap := rfl
  refine own_k T335 509 [.ref p335] (fun t_ k_ => st335.trans k_) ?_
  have O := O.ext E335
  have A_vv := A_vv.ext E335
  have A_t3 := A_t3.ext E335
  have A_t4 := A_t4.ext E335
  have Zn := Nat.le_trans Zn E335.1
  let Lv336 : Array Slot := #[.val (.int u0), .val (.long u1), .second, .val (.long u2), .second, .val (.long u3), .second, .val (.int 1), .val (.ref vv), .val (.ref t3), .val (.ref t4), .val (.ref aa), .val (.int 1), .val (.ref p335), .unset, .unset, .unset]
  refine own_st (A := T335.setTop (mkF mM 511 Lv336 [])) (fun t_ k_ => XS.astore X335.here hx rfl (hb hby at_509) rfl rfl (l' := Lv336) rfl k_) ?_
  refine o_iload 513 X335 hx (hb hby at_511) rfl rfl ?_
  refine o_ifYes 530 X335 hx (hb hby at_513) ((if0 _ _).trans (feq (by decide : ¬ ((1 : Int32) = (0 : Int32)))).2) (by decide) ?_
  refine o_aload 532 X335 hx (hb hby at_530) rfl rfl rfl ?_
  obtain ⟨cq337, kq337, q337a, q337b, q337c⟩ := isOf hZ e335 od.1
  obtain ⟨_, _, ⟨T337, L337, k337, n337⟩, -, X337, ⟨Lc337, hQ337, l337, y337, z337⟩, st337⟩ := X335.virtualBack hx (y := yn9) (z := yn9) hown (mvT hZ (ow hw 58 rfl)) (mvT hZ (ow hw 59 rfl)) (notFace_of_selects (args := #[]) (mvT hZ (ow hw 61 rfl))) (mvT hZ (ow hw 61 rfl)) (mvT hZ (ow hw 60 rfl)) (by decide) (backOf (W := 0) (rmP1 lL Z a0 hw [] p335 T335.heap n0 od.2.1) hZ (ow hw 62 rfl) (ow hw 55 rfl) (by decide) (by decide)) q337a q337c (g := (mkF mM 532 Lv336 [.ref p335])) rfl (by rw [hml]; rfl) (Steps.refl _) (argsL := []) (rest := []) (lenOf pd__28_29Z rfl) rfl (by show 2 * 0 + _ ≤ _; exact Nat.le_of_eq rfl) (hb hby at_532) (fun _ _ => ⟨rfl, e335, (by decide : 6 + 0 ≤ _), (by decide : 48 + 0 ≤ _)⟩)
  dsimp only [Pt.U, Pt.locs, Pt.cells, Pt.slots] at X337 l337 y337 z337 st337 hQ337
  have X337 := own_cs X337 6 48 y337 z337
  obtain ⟨rfl, N337q, e337⟩ := hQ337
  have N337 := own_N l337 N335 N337q
  refine own_k T337 535 [.int 1] (fun t_ k_ => st337.trans k_) ?_
  refine o_ifYes 540 X337 hx (hb hby at_535) ((if0 _ _).trans (feq (by decide : ¬ ((1 : Int32) = (0 : Int32)))).2) (by decide) ?_
  refine o_iload 542 X337 hx (hb hby at_540) rfl rfl ?_
  refine o_iload 544 X337 hx (hb hby at_542) rfl rfl ?_
  refine own_j 545 [.int 0] (fun t_ k_ => XS.isub X337.here hx rfl (hb hby at_544) rfl k_) ?_
  let Lv338 : Array Slot := #[.val (.int u0), .val (.long u1), .second, .val (.long u2), .second, .val (.long u3), .second, .val (.int 1), .val (.ref vv), .val (.ref t3), .val (.ref t4), .val (.ref aa), .val (.int 1), .val (.ref p335), .val (.int 0), .unset, .unset]
  refine own_st (A := T337.setTop (mkF mM 547 Lv338 [])) (fun t_ k_ => XS.istore X337.here hx rfl (hb hby at_545) rfl (l' := Lv338) rfl k_) ?_
  refine o_aload 549 X337 hx (hb hby at_547) rfl rfl rfl ?_
  refine o_iload 551 X337 hx (hb hby at_549) rfl rfl ?_
  refine o_iconst 552 1 X337 hx (hb hby at_551) rfl rfl ?_
  refine own_j 553 [.int 0, .ref t3] (fun t_ k_ => XS.isub X337.here hx rfl (hb hby at_552) rfl k_) ?_
  obtain ⟨cl339, Ar339, q339, S339, Nn339, H339, G339⟩ := id A_t3
  have hin339 : ¬ ((0 : Int32) < 0 ∨ cl339.slots.size ≤ ((0 : Int32)).toNatClampNeg) := inb_of S339 ⟨by decide, by decide⟩
  refine own_j 554 [.long 1] (fun t_ k_ => X337.laload hx (j := (0 : Int32)) (v := (.long 1)) (by rw [e337]; exact Ar339.1) (State.isArrayOf_alike hZ.alike Ar339.2.1) Ar339.2.2 hin339 (H339.at hin339 rfl) (g := (mkF mM 553 Lv338 [.int 0, .ref t3])) rfl rfl (hb hby at_553) t_ k_) ?_
  refine o_aload 556 X337 hx (hb hby at_554) rfl rfl rfl ?_
  refine o_iload 558 X337 hx (hb hby at_556) rfl rfl ?_
  obtain ⟨cl340, Ar340, q340, S340, Nn340, H340, G340⟩ := id A_vv
  have hin340 : ¬ ((0 : Int32) < 0 ∨ cl340.slots.size ≤ ((0 : Int32)).toNatClampNeg) := inb_of S340 ⟨by decide, by decide⟩
  refine own_j 559 [.int w0, .long 1] (fun t_ k_ => X337.iaload hx (j := (0 : Int32)) (v := (.int w0)) (by rw [e337]; exact Ar340.1) (State.isArrayOf_alike hZ.alike Ar340.2.1) Ar340.2.2 hin340 (H340.at hin340 rfl) (g := (mkF mM 558 Lv338 [.int 0, .ref vv, .long 1])) rfl rfl (hb hby at_558) t_ k_) ?_
  refine own_j 560 [(.long ((w0).toInt64)), .long 1] (fun t_ k_ => XS.i2l X337.here hx rfl (hb hby at_559) rfl k_) ?_
  refine own_j 561 [(.long ((1 : Int64) * ((w0).toInt64)))] (fun t_ k_ => XS.lmul X337.here hx rfl (hb hby at_560) rfl k_) ?_
  let Lv341 : Array Slot := #[.val (.int u0), .val (.long u1), .second, .val (.long u2), .second, .val (.long u3), .second, .val (.int 1), .val (.ref vv), .val (.ref t3), .val (.ref t4), .val (.ref aa), .val (.int 1), .val (.ref p335), .val (.int 0), .val (.long ((1 : Int64) * ((w0).toInt64))), .second]
  refine own_st (A := T337.setTop (mkF mM 563 Lv341 [])) (fun t_ k_ => XS.lstore X337.here hx rfl (hb hby at_561) rfl (l' := Lv341) rfl k_) ?_
  refine SZ2 hw X337 hx hZ hby hml hown hlk hret e337 N337 u0 u1 u2 u3 1 vv kv t3 k3 t4 k4 aa 1 p335 0 ((1 : Int64) * ((w0).toInt64)) (by decide) (fun T342 L342 X342 e342 N342 => ?_)
  refine SZ3 hw X342 hx hZ hby hml hown hlk hret e342 N342 u0 u1 u2 u3 1 vv kv t3 k3 t4 k4 aa 1 p335 0 (((1 : Int64) * ((w0).toInt64)) + (0 : Int64)) (by decide) (fun T343 L343 X343 e343 N343 => ?_)
  refine SZ4 hw X343 hx hZ hby hml hown hlk hret e343 N343 u0 u1 u2 u3 1 vv kv t3 k3 t4 k4 aa 1 p335 0 ((((1 : Int64) * ((w0).toInt64)) + (0 : Int64)) + (0 : Int64)) (by decide) (fun T344 L344 X344 e344 N344 => ?_)
  refine SZ5 hw X344 hx hZ hby hml hown hlk hret e344 N344 u0 u1 u2 u3 1 vv kv t3 k3 t4 k4 aa 1 p335 0 (((((1 : Int64) * ((w0).toInt64)) + (0 : Int64)) + (0 : Int64)) + (0 : Int64)) (by decide) (fun T345 L345 X345 e345 N345 => ?_)
  refine SZ6 hw X345 hx hZ hby hml hown hlk hret e345 N345 u0 u1 u2 u3 1 vv kv t3 k3 t4 k4 aa 1 p335 0 ((((((1 : Int64) * ((w0).toInt64)) + (0 : Int64)) + (0 : Int64)) + (0 : Int64)) + (0 : Int64)) (by decide) (fun T346 L346 X346 e346 N346 => ?_)
  refine SZ7 hw X346 hx hZ hby hml hown hlk hret e346 N346 u0 u1 u2 u3 1 vv kv t3 k3 t4 k4 aa 1 p335 0 (((((((1 : Int64) * ((w0).toInt64)) + (0 : Int64)) + (0 : Int64)) + (0 : Int64)) + (0 : Int64)) + (0 : Int64)) (by decide) (fun T347 L347 X347 e347 N347 => ?_)
  refine SZ8 hw X347 hx hZ hby hml hown hlk hret e347 N347 u0 u1 u2 u3 1 vv kv t3 k3 t4 k4 aa 1 p335 0 ((((((((1 : Int64) * ((w0).toInt64)) + (0 : Int64)) + (0 : Int64)) + (0 : Int64)) + (0 : Int64)) + (0 : Int64)) + (0 : Int64)) (by decide) (fun T348 L348 X348 e348 N348 => ?_)
  refine SZ9 hw X348 hx hZ hby hml hown hlk hret e348 N348 u0 u1 u2 u3 1 vv kv t3 k3 t4 k4 aa 1 p335 0 (((((((((1 : Int64) * ((w0).toInt64)) + (0 : Int64)) + (0 : Int64)) + (0 : Int64)) + (0 : Int64)) + (0 : Int64)) + (0 : Int64)) + (0 : Int64)) (by decide) (fun T349 L349 X349 e349 N349 => ?_)
  refine SZ10 hw X349 hx hZ hby hml hown hlk hret e349 N349 u0 u1 u2 u3 1 vv kv t3 k3 t4 k4 aa 1 p335 0 ((((((((((1 : Int64) * ((w0).toInt64)) + (0 : Int64)) + (0 : Int64)) + (0 : Int64)) + (0 : Int64)) + (0 : Int64)) + (0 : Int64)) + (0 : Int64)) + (0 : Int64)) (by decide) (fun T350 L350 X350 e350 N350 => ?_)
  refine o_aload 741 X350 hx (hb hby at_739) rfl rfl rfl ?_
  obtain ⟨cq351, kq351, q351a, q351b, q351c⟩ := isOf hZ e350 od.1
  obtain ⟨_, _, ⟨T351, L351, k351, n351⟩, -, X351, ⟨Lc351, hQ351, l351, y351, z351⟩, st351⟩ := X350.virtualBack hx (y := yn10) (z := yn10) hown (mvT hZ (ow hw 91 rfl)) (mvT hZ (ow hw 92 rfl)) (notFace_of_selects (args := #[]) (mvT hZ (ow hw 94 rfl))) (mvT hZ (ow hw 94 rfl)) (mvT hZ (ow hw 93 rfl)) (by decide) (backOf (W := 0) (rmG lL Z a0 hw [] p335 (FP.i2d w0) T335.heap n0 od) hZ (ow hw 95 rfl) (ow hw 55 rfl) (by decide) (by decide)) q351a q351c (g := (mkF mM 741 #[.val (.int u0), .val (.long u1), .second, .val (.long u2), .second, .val (.long u3), .second, .val (.int 1), .val (.ref vv), .val (.ref t3), .val (.ref t4), .val (.ref aa), .val (.int 1), .val (.ref p335), .val (.int 0), .val (.long (((((((((((1 : Int64) * ((w0).toInt64)) + (0 : Int64)) + (0 : Int64)) + (0 : Int64)) + (0 : Int64)) + (0 : Int64)) + (0 : Int64)) + (0 : Int64)) + (0 : Int64)) + (0 : Int64))), .second] [.ref p335])) rfl (by rw [hml]; rfl) (Steps.refl _) (argsL := []) (rest := []) (lenOf pd__28_29D rfl) rfl (by show 2 * 0 + _ ≤ _; exact Nat.le_of_eq rfl) (hb hby at_741) (fun _ _ => ⟨rfl, e350, (by decide : 6 + 0 ≤ _), (by decide : 48 + 0 ≤ _)⟩)
  dsimp only [Pt.U, Pt.locs, Pt.cells, Pt.slots] at X351 l351 y351 z351 st351 hQ351
  have X351 := own_cs X351 6 48 y351 z351
  obtain ⟨rfl, N351q, e351⟩ := hQ351
  have N351 := own_N l351 N350 N351q
  refine own_k T351 744 [(.double (FP.i2d w0))] (fun t_ k_ => st351.trans k_) ?_
  refine o_aload 746 X351 hx (hb hby at_744) rfl rfl rfl ?_
  refine o_iload 748 X351 hx (hb hby at_746) rfl rfl ?_
  refine o_iconst 749 1 X351 hx (hb hby at_748) rfl rfl ?_
  refine own_j 750 [.int 0, .ref t4, (.double (FP.i2d w0))] (fun t_ k_ => XS.isub X351.here hx rfl (hb hby at_749) rfl k_) ?_
  obtain ⟨cl352, Ar352, q352, S352, Nn352, H352, G352⟩ := id A_t4
  have hin352 : ¬ ((0 : Int32) < 0 ∨ cl352.slots.size ≤ ((0 : Int32)).toNatClampNeg) := inb_of S352 ⟨by decide, by decide⟩
  refine own_j 751 [.long 1, (.double (FP.i2d w0))] (fun t_ k_ => X351.laload hx (j := (0 : Int32)) (v := (.long 1)) (by rw [e351]; exact Ar352.1) (State.isArrayOf_alike hZ.alike Ar352.2.1) Ar352.2.2 hin352 (H352.at hin352 rfl) (g := (mkF mM 750 #[.val (.int u0), .val (.long u1), .second, .val (.long u2), .second, .val (.long u3), .second, .val (.int 1), .val (.ref vv), .val (.ref t3), .val (.ref t4), .val (.ref aa), .val (.int 1), .val (.ref p335), .val (.int 0), .val (.long (((((((((((1 : Int64) * ((w0).toInt64)) + (0 : Int64)) + (0 : Int64)) + (0 : Int64)) + (0 : Int64)) + (0 : Int64)) + (0 : Int64)) + (0 : Int64)) + (0 : Int64)) + (0 : Int64))), .second] [.int 0, .ref t4, (.double (FP.i2d w0))])) rfl rfl (hb hby at_750) t_ k_) ?_
  refine own_j 752 [(.double (FP.l2d (1 : Int64))), (.double (FP.i2d w0))] (fun t_ k_ => XS.l2dS X351.here hx rfl (hb hby at_751) rfl rfl k_) ?_
  have av0 : Av (FP.i2d w0) w0.toInt 0 (32768 * 1) := own_av0 bl0 bu0
  have sm1 := own_Lmul (x := w0) (c := 1) (C := 1) (by decide) (by decide) (by decide) bl0 bu0
  have tm2 : (0 : Int64).toInt = 0 := by decide
  have sm2 := own_Ladd sm1 tm2 (by omega) (by omega) (by omega) (by omega)
  have tm3 : (0 : Int64).toInt = 0 := by decide
  have sm3 := own_Ladd sm2 tm3 (by omega) (by omega) (by omega) (by omega)
  have tm4 : (0 : Int64).toInt = 0 := by decide
  have sm4 := own_Ladd sm3 tm4 (by omega) (by omega) (by omega) (by omega)
  have tm5 : (0 : Int64).toInt = 0 := by decide
  have sm5 := own_Ladd sm4 tm5 (by omega) (by omega) (by omega) (by omega)
  have tm6 : (0 : Int64).toInt = 0 := by decide
  have sm6 := own_Ladd sm5 tm6 (by omega) (by omega) (by omega) (by omega)
  have tm7 : (0 : Int64).toInt = 0 := by decide
  have sm7 := own_Ladd sm6 tm7 (by omega) (by omega) (by omega) (by omega)
  have tm8 : (0 : Int64).toInt = 0 := by decide
  have sm8 := own_Ladd sm7 tm8 (by omega) (by omega) (by omega) (by omega)
  have tm9 : (0 : Int64).toInt = 0 := by decide
  have sm9 := own_Ladd sm8 tm9 (by omega) (by omega) (by omega) (by omega)
  have tm10 : (0 : Int64).toInt = 0 := by decide
  have sm10 := own_Ladd sm9 tm10 (by omega) (by omega) (by omega) (by omega)
  have hs : ((((((((((((1 : Int64) * ((w0).toInt64)) + (0 : Int64)) + (0 : Int64)) + (0 : Int64)) + (0 : Int64)) + (0 : Int64)) + (0 : Int64)) + (0 : Int64)) + (0 : Int64)) + (0 : Int64))).toInt = w0.toInt := sm10.trans (by omega)
  obtain ⟨nl, cl⟩ := own_last (p := 1) av0 (by decide) (by decide) (by decide) (by decide) (by decide) hs
  refine own_j 753 [(.double (FP.dmul (FP.i2d w0) (FP.l2d (1 : Int64))))] (fun t_ k_ => XS.dmulS X351.here hx rfl (hb hby at_752) rfl nl rfl k_) ?_
  refine o_lload 755 X351 hx (hb hby at_753) rfl rfl ?_
  refine own_j 756 [(.double (FP.l2d (((((((((((1 : Int64) * ((w0).toInt64)) + (0 : Int64)) + (0 : Int64)) + (0 : Int64)) + (0 : Int64)) + (0 : Int64)) + (0 : Int64)) + (0 : Int64)) + (0 : Int64)) + (0 : Int64)))), (.double (FP.dmul (FP.i2d w0) (FP.l2d (1 : Int64))))] (fun t_ k_ => XS.l2dS X351.here hx rfl (hb hby at_755) rfl rfl k_) ?_
  refine own_j 757 [.int 0] (fun t_ k_ => XS.dcmpS X351.here hx rfl (hb hby at_756) rfl (cl _) k_) ?_
  refine o_ifNo 760 X351 hx (hb hby at_757) ((if0 _ _).trans (teq (by decide : ((0 : Int32) = (0 : Int32)))).2) rfl ?_
  refine o_iconst 761 1 X351 hx (hb hby at_760) rfl rfl ?_
  refine o_goto 765 X351 hx (hb hby at_761) (by decide) ?_
  exact own_retN X351 hx hlk (t := .boolean) hret (by simp) (hb hby at_765) ⟨rfl, N351⟩ (by decide) (by decide)
theorem J278_2 (hw : own_tb a0 Z) (X0 : Stand pP lL eE room_1 sS mM args below meth cC T0 locs 5 46) (hx : pP.tables.exec = Jvm.exec) (hZ : Z.Warmed39 sS.vm) (hby : cC.code = code) (hml : cC.maxLocals = 17) (hown : sS.vm.findClass "com/example/gleanwork/gleanwork/schedule/RecentAverageAddPinLaw" = some mM.cls) (hlk : meth.locks = false) (hret : meth.sig.returnType = ret) (e0 : T0.heap = h0) (N0 : Fr n0 locs) (u0 : Int32) (u1 : Int64) (u2 : Int64) (u3 : Int64) (w0 : Int32) (w1 : Int32) (w2 : Int32) (w3 : Int32) (w4 : Int32) (w5 : Int32) (w6 : Int32) (w7 : Int32) (w8 : Int32) (w9 : Int32) (w10 : Int32) (w11 : Int32) (vv : Addr) (kv : ClassId) (t3 : Addr) (k3 : ClassId) (t4 : Addr) (k4 : ClassId) (aa : Addr) (dd : Addr) (kd : ClassId) (em : Addr) (O : Old Z n0 h0) (Zn : n0 ≤ h0.size) (g_aa : n0 ≤ aa) (g_dd : n0 ≤ dd) (A_vv : Arv Z h0 vv kv .int 12 [.int w0, .int w1, .int w2, .int w3, .int w4, .int w5, .int w6, .int w7, .int w8, .int w9, .int w10, .int w11] (.int 0)) (A_t3 : Arv Z h0 t3 k3 .long 10 [.long 1, .long 3, .long 9, .long 27, .long 81, .long 243, .long 729, .long 2187, .long 6561, .long 19683] (.long 0)) (A_t4 : Arv Z h0 t4 k4 .long 10 [.long 1, .long 4, .long 16, .long 64, .long 256, .long 1024, .long 4096, .long 16384, .long 65536, .long 262144] (.long 0)) (nq0 : vv ≠ aa) (nq1 : vv ≠ dd) (nq2 : t3 ≠ aa) (nq3 : t3 ≠ dd) (nq4 : t4 ≠ aa) (nq5 : t4 ≠ dd) (nq6 : aa ≠ dd) (ra : Ra Z h0 aa dd kd 0 0 0 [.double 0, .double 0, .double 0, .double 0, .double 0, .double 0, .double 0, .double 0, .double 0, .double 0]) (S_em : Sta Z Z.heap "java/util/OptionalDouble" "EMPTY" "Ljava/util/OptionalDouble;" (.ref em)) (E_em : Exa Z Z.heap em "java/util/OptionalDouble") (F_em : Fld Z Z.heap em "java/util/OptionalDouble" "isPresent" "Z" (.int 0)) (bl0 : -32768 ≤ w0.toInt) (bl1 : -32768 ≤ w1.toInt) (bl2 : -32768 ≤ w2.toInt) (bl3 : -32768 ≤ w3.toInt) (bl4 : -32768 ≤ w4.toInt) (bl5 : -32768 ≤ w5.toInt) (bl6 : -32768 ≤ w6.toInt) (bl7 : -32768 ≤ w7.toInt) (bl8 : -32768 ≤ w8.toInt) (bl9 : -32768 ≤ w9.toInt) (bl10 : -32768 ≤ w10.toInt) (bl11 : -32768 ≤ w11.toInt) (bu0 : w0.toInt ≤ 32768) (bu1 : w1.toInt ≤ 32768) (bu2 : w2.toInt ≤ 32768) (bu3 : w3.toInt ≤ 32768) (bu4 : w4.toInt ≤ 32768) (bu5 : w5.toInt ≤ 32768) (bu6 : w6.toInt ≤ 32768) (bu7 : w7.toInt ≤ 32768) (bu8 : w8.toInt ≤ 32768) (bu9 : w9.toInt ≤ 32768) (bu10 : w10.toInt ≤ 32768) (bu11 : w11.toInt ≤ 32768) :
    own_Go pP eE below sS (QLaw n0) 24 192 (T0.setTop (mkF mM 278 #[.val (.int u0), .val (.long u1), .second, .val (.long u2), .second, .val (.long u3), .second, .val (.int 2), .val (.ref vv), .val (.ref t3), .val (.ref t4), .val (.ref aa), .unset, .unset, .unset, .unset, .unset] [])) := by
  refine SA1 hw X0 hx hZ hby hml hown hlk hret e0 N0 u0 u1 u2 u3 2 w0 w1 w2 w3 w4 w5 w6 w7 w8 w9 w10 w11 vv kv t3 k3 t4 k4 aa dd kd O Zn g_aa g_dd A_vv A_t3 A_t4 nq0 nq1 nq2 nq3 nq4 nq5 nq6 ra bl0 bl1 bl2 bl3 bl4 bl5 bl6 bl7 bl8 bl9 bl10 bl11 bu0 bu1 bu2 bu3 bu4 bu5 bu6 bu7 bu8 bu9 bu10 bu11 (by decide) (fun T353 L353 h353 X353 e353 N353 O Zn A_vv A_t3 A_t4 ra => ?_)
  refine SA2 hw X353 hx hZ hby hml hown hlk hret e353 N353 u0 u1 u2 u3 2 w0 w1 w2 w3 w4 w5 w6 w7 w8 w9 w10 w11 vv kv t3 k3 t4 k4 aa dd kd O Zn g_aa g_dd A_vv A_t3 A_t4 nq0 nq1 nq2 nq3 nq4 nq5 nq6 ra bl0 bl1 bl2 bl3 bl4 bl5 bl6 bl7 bl8 bl9 bl10 bl11 bu0 bu1 bu2 bu3 bu4 bu5 bu6 bu7 bu8 bu9 bu10 bu11 (by decide) (fun T354 L354 h354 X354 e354 N354 O Zn A_vv A_t3 A_t4 ra => ?_)
  refine o_iload 312 X354 hx (hb hby at_310) rfl rfl ?_
  refine o_iconst 313 3 X354 hx (hb hby at_312) rfl rfl ?_
  refine o_icmpYes 326 X354 hx (hb hby at_313) (tlt (by decide : ((2 : Int32) < (3 : Int32)))).1 (by decide) ?_
  refine o_iload 328 X354 hx (hb hby at_326) rfl rfl ?_
  refine o_iconst 329 4 X354 hx (hb hby at_328) rfl rfl ?_
  refine o_icmpYes 342 X354 hx (hb hby at_329) (tlt (by decide : ((2 : Int32) < (4 : Int32)))).1 (by decide) ?_
  refine o_iload 344 X354 hx (hb hby at_342) rfl rfl ?_
  refine o_iconst 345 5 X354 hx (hb hby at_344) rfl rfl ?_
  refine o_icmpYes 358 X354 hx (hb hby at_345) (tlt (by decide : ((2 : Int32) < (5 : Int32)))).1 (by decide) ?_
  refine o_iload 360 X354 hx (hb hby at_358) rfl rfl ?_
  refine o_bipush 362 6 X354 hx (hb hby at_360) rfl rfl ?_
  refine o_icmpYes 375 X354 hx (hb hby at_362) (tlt (by decide : ((2 : Int32) < (6 : Int32)))).1 (by decide) ?_
  refine o_iload 377 X354 hx (hb hby at_375) rfl rfl ?_
  refine o_bipush 379 7 X354 hx (hb hby at_377) rfl rfl ?_
  refine o_icmpYes 393 X354 hx (hb hby at_379) (tlt (by decide : ((2 : Int32) < (7 : Int32)))).1 (by decide) ?_
  refine o_iload 395 X354 hx (hb hby at_393) rfl rfl ?_
  refine o_bipush 397 8 X354 hx (hb hby at_395) rfl rfl ?_
  refine o_icmpYes 411 X354 hx (hb hby at_397) (tlt (by decide : ((2 : Int32) < (8 : Int32)))).1 (by decide) ?_
  refine o_iload 413 X354 hx (hb hby at_411) rfl rfl ?_
  refine o_bipush 415 9 X354 hx (hb hby at_413) rfl rfl ?_
  refine o_icmpYes 429 X354 hx (hb hby at_415) (tlt (by decide : ((2 : Int32) < (9 : Int32)))).1 (by decide) ?_
  refine o_iload 431 X354 hx (hb hby at_429) rfl rfl ?_
  refine o_bipush 433 10 X354 hx (hb hby at_431) rfl rfl ?_
  refine o_icmpYes 447 X354 hx (hb hby at_433) (tlt (by decide : ((2 : Int32) < (10 : Int32)))).1 (by decide) ?_
  refine o_iload 449 X354 hx (hb hby at_447) rfl rfl ?_
  refine o_bipush 451 11 X354 hx (hb hby at_449) rfl rfl ?_
  refine o_icmpYes 465 X354 hx (hb hby at_451) (tlt (by decide : ((2 : Int32) < (11 : Int32)))).1 (by decide) ?_
  refine o_iload 467 X354 hx (hb hby at_465) rfl rfl ?_
  refine o_bipush 469 12 X354 hx (hb hby at_467) rfl rfl ?_
  refine o_icmpYes 483 X354 hx (hb hby at_469) (tlt (by decide : ((2 : Int32) < (12 : Int32)))).1 (by decide) ?_
  refine o_iload 485 X354 hx (hb hby at_483) rfl rfl ?_
  refine o_bipush 487 10 X354 hx (hb hby at_485) rfl rfl ?_
  obtain ⟨_, _, ⟨T355, L355, k355, n355⟩, -, X355, ⟨Lc355, hQ355, l355, y355, z355⟩, st355⟩ := Jvm.LawKit.callS X354 hx (y := yn3) hown (mvT hZ (ow hw 37 rfl)) (mvT hZ (ow hw 38 rfl)) (mvT hZ (ow hw 39 rfl)) (mvT hZ (ow hw 40 rfl)) (by decide) (backOf (W := 0) (rmM2 lL Z a0 hw []  h354 n0 ) hZ (ow hw 40 rfl) (ow hw 39 rfl) (by decide) (by decide)) (g := (mkF mM 487 #[.val (.int u0), .val (.long u1), .second, .val (.long u2), .second, .val (.long u3), .second, .val (.int 2), .val (.ref vv), .val (.ref t3), .val (.ref t4), .val (.ref aa), .unset, .unset, .unset, .unset, .unset] [.int 10, .int 2])) rfl (by rw [hml]; rfl) (argsL := [.int 2, .int 10]) (rest := []) (lenOf pd__28II_29I rfl) rfl (by show 2 * 0 + _ ≤ _; exact Nat.le_of_eq rfl) (hb hby at_487) (fun _ _ => ⟨rfl, e354, (by decide : 5 + 0 ≤ _), (by decide : 46 + 0 ≤ _)⟩)
  dsimp only [Pt.U, Pt.locs, Pt.cells, Pt.slots] at X355 l355 y355 z355 st355 hQ355
  have X355 := own_cs X355 5 46 y355 z355
  obtain ⟨rfl, N355q, e355⟩ := hQ355
  have N355 := own_N l355 N354 N355q
  refine own_k T355 490 [.int 2] st355 ?_
  let Lv356 : Array Slot := #[.val (.int u0), .val (.long u1), .second, .val (.long u2), .second, .val (.long u3), .second, .val (.int 2), .val (.ref vv), .val (.ref t3), .val (.ref t4), .val (.ref aa), .val (.int 2), .unset, .unset, .unset, .unset]
  refine own_st (A := T355.setTop (mkF mM 492 Lv356 [])) (fun t_ k_ => XS.istore X355.here hx rfl (hb hby at_490) rfl (l' := Lv356) rfl k_) ?_
  refine o_aload 494 X355 hx (hb hby at_492) rfl rfl rfl ?_
  obtain ⟨cq357, kq357, q357a, q357b, q357c⟩ := isOf hZ e355 ra.1
  obtain ⟨_, _, ⟨T357, L357, k357, n357⟩, -, X357, ⟨Lc357, hQ357, l357, y357, z357⟩, st357⟩ := X355.virtualBack hx (y := yn4) (z := yn4) hown (mvT hZ (ow hw 41 rfl)) (mvT hZ (ow hw 42 rfl)) (notFace_of_selects (args := #[]) (mvT hZ (ow hw 44 rfl))) (mvT hZ (ow hw 44 rfl)) (mvT hZ (ow hw 43 rfl)) (by decide) (backOf (W := 0) (rmC lL Z a0 hw [] aa 2 h354 n0 ra.2.2.1) hZ (ow hw 45 rfl) (ow hw 27 rfl) (by decide) (by decide)) q357a q357c (g := (mkF mM 494 Lv356 [.ref aa])) rfl (by rw [hml]; rfl) (Steps.refl _) (argsL := []) (rest := []) (lenOf pd__28_29I rfl) rfl (by show 2 * 0 + _ ≤ _; exact Nat.le_of_eq rfl) (hb hby at_494) (fun _ _ => ⟨rfl, e355, (by decide : 5 + 0 ≤ _), (by decide : 46 + 0 ≤ _)⟩)
  dsimp only [Pt.U, Pt.locs, Pt.cells, Pt.slots] at X357 l357 y357 z357 st357 hQ357
  have X357 := own_cs X357 5 46 y357 z357
  obtain ⟨rfl, N357q, e357⟩ := hQ357
  have N357 := own_N l357 N355 N357q
  refine own_k T357 497 [.int 2] (fun t_ k_ => st357.trans k_) ?_
  refine o_iload 499 X357 hx (hb hby at_497) rfl rfl ?_
  refine o_icmpYes 504 X357 hx (hb hby at_499) (teq (by decide : ((2 : Int32) = (2 : Int32)))).1 (by decide) ?_
  refine o_aload 506 X357 hx (hb hby at_504) rfl rfl rfl ?_
  obtain ⟨cq358, kq358, q358a, q358b, q358c⟩ := isOf hZ e357 ra.1
  obtain ⟨_, _, ⟨T358, L358, k358, n358⟩, -, X358, ⟨Lc358, hQ358, l358, y358, z358⟩, st358⟩ := X357.virtualBack hx (y := yn8) (z := yn8) hown (mvT hZ (ow hw 48 rfl)) (mvT hZ (ow hw 49 rfl)) (notFace_of_selects (args := #[]) (mvT hZ (ow hw 51 rfl))) (mvT hZ (ow hw 51 rfl)) (mvT hZ (ow hw 50 rfl)) (by decide) (backOf (W := 0) (rmV lL Z a0 hw [] aa 2 (stp (FP.i2d w1) (FP.i2d w0)) h354 n0 Zn ra.2.2.1 ra.2.2.2.2.1 (by decide)) hZ (ow hw 52 rfl) (ow hw 27 rfl) (by decide) (by decide)) q358a q358c (g := (mkF mM 506 Lv356 [.ref aa])) rfl (by rw [hml]; rfl) (Steps.refl _) (argsL := []) (rest := []) (lenOf pd__28_29Ljava_2futil_2fOptionalDouble_3b rfl) rfl (by show 2 * 0 + _ ≤ _; exact Nat.le_of_eq rfl) (hb hby at_506) (fun _ _ => ⟨rfl, e357, (by decide : 5 + 1 ≤ _), (by decide : 46 + 2 ≤ _)⟩)
  dsimp only [Pt.U, Pt.locs, Pt.cells, Pt.slots] at X358 l358 y358 z358 st358 hQ358
  have X358 := own_cs X358 6 48 y358 z358
  obtain ⟨p358, rfl, N358q, E358, od⟩ := hQ358
  have N358 := own_N l358 N357 N358q
  have e358 : T358.heap = T358.heap := rfl
  refine own_k T358 509 [.ref p358] (fun t_ k_ => st358.trans k_) ?_
  have O := O.ext E358
  have A_vv := A_vv.ext E358
  have A_t3 := A_t3.ext E358
  have A_t4 := A_t4.ext E358
  have Zn := Nat.le_trans Zn E358.1
  let Lv359 : Array Slot := #[.val (.int u0), .val (.long u1), .second, .val (.long u2), .second, .val (.long u3), .second, .val (.int 2), .val (.ref vv), .val (.ref t3), .val (.ref t4), .val (.ref aa), .val (.int 2), .val (.ref p358), .unset, .unset, .unset]
  refine own_st (A := T358.setTop (mkF mM 511 Lv359 [])) (fun t_ k_ => XS.astore X358.here hx rfl (hb hby at_509) rfl rfl (l' := Lv359) rfl k_) ?_
  refine o_iload 513 X358 hx (hb hby at_511) rfl rfl ?_
  refine o_ifYes 530 X358 hx (hb hby at_513) ((if0 _ _).trans (feq (by decide : ¬ ((2 : Int32) = (0 : Int32)))).2) (by decide) ?_
  refine o_aload 532 X358 hx (hb hby at_530) rfl rfl rfl ?_
  obtain ⟨cq360, kq360, q360a, q360b, q360c⟩ := isOf hZ e358 od.1
  obtain ⟨_, _, ⟨T360, L360, k360, n360⟩, -, X360, ⟨Lc360, hQ360, l360, y360, z360⟩, st360⟩ := X358.virtualBack hx (y := yn9) (z := yn9) hown (mvT hZ (ow hw 58 rfl)) (mvT hZ (ow hw 59 rfl)) (notFace_of_selects (args := #[]) (mvT hZ (ow hw 61 rfl))) (mvT hZ (ow hw 61 rfl)) (mvT hZ (ow hw 60 rfl)) (by decide) (backOf (W := 0) (rmP1 lL Z a0 hw [] p358 T358.heap n0 od.2.1) hZ (ow hw 62 rfl) (ow hw 55 rfl) (by decide) (by decide)) q360a q360c (g := (mkF mM 532 Lv359 [.ref p358])) rfl (by rw [hml]; rfl) (Steps.refl _) (argsL := []) (rest := []) (lenOf pd__28_29Z rfl) rfl (by show 2 * 0 + _ ≤ _; exact Nat.le_of_eq rfl) (hb hby at_532) (fun _ _ => ⟨rfl, e358, (by decide : 6 + 0 ≤ _), (by decide : 48 + 0 ≤ _)⟩)
  dsimp only [Pt.U, Pt.locs, Pt.cells, Pt.slots] at X360 l360 y360 z360 st360 hQ360
  have X360 := own_cs X360 6 48 y360 z360
  obtain ⟨rfl, N360q, e360⟩ := hQ360
  have N360 := own_N l360 N358 N360q
  refine own_k T360 535 [.int 1] (fun t_ k_ => st360.trans k_) ?_
  refine o_ifYes 540 X360 hx (hb hby at_535) ((if0 _ _).trans (feq (by decide : ¬ ((1 : Int32) = (0 : Int32)))).2) (by decide) ?_
  refine o_iload 542 X360 hx (hb hby at_540) rfl rfl ?_
  refine o_iload 544 X360 hx (hb hby at_542) rfl rfl ?_
  refine own_j 545 [.int 0] (fun t_ k_ => XS.isub X360.here hx rfl (hb hby at_544) rfl k_) ?_
  let Lv361 : Array Slot := #[.val (.int u0), .val (.long u1), .second, .val (.long u2), .second, .val (.long u3), .second, .val (.int 2), .val (.ref vv), .val (.ref t3), .val (.ref t4), .val (.ref aa), .val (.int 2), .val (.ref p358), .val (.int 0), .unset, .unset]
  refine own_st (A := T360.setTop (mkF mM 547 Lv361 [])) (fun t_ k_ => XS.istore X360.here hx rfl (hb hby at_545) rfl (l' := Lv361) rfl k_) ?_
  refine o_aload 549 X360 hx (hb hby at_547) rfl rfl rfl ?_
  refine o_iload 551 X360 hx (hb hby at_549) rfl rfl ?_
  refine o_iconst 552 1 X360 hx (hb hby at_551) rfl rfl ?_
  refine own_j 553 [.int 1, .ref t3] (fun t_ k_ => XS.isub X360.here hx rfl (hb hby at_552) rfl k_) ?_
  obtain ⟨cl362, Ar362, q362, S362, Nn362, H362, G362⟩ := id A_t3
  have hin362 : ¬ ((1 : Int32) < 0 ∨ cl362.slots.size ≤ ((1 : Int32)).toNatClampNeg) := inb_of S362 ⟨by decide, by decide⟩
  refine own_j 554 [.long 3] (fun t_ k_ => X360.laload hx (j := (1 : Int32)) (v := (.long 3)) (by rw [e360]; exact Ar362.1) (State.isArrayOf_alike hZ.alike Ar362.2.1) Ar362.2.2 hin362 (H362.at hin362 rfl) (g := (mkF mM 553 Lv361 [.int 1, .ref t3])) rfl rfl (hb hby at_553) t_ k_) ?_
  refine o_aload 556 X360 hx (hb hby at_554) rfl rfl rfl ?_
  refine o_iload 558 X360 hx (hb hby at_556) rfl rfl ?_
  obtain ⟨cl363, Ar363, q363, S363, Nn363, H363, G363⟩ := id A_vv
  have hin363 : ¬ ((0 : Int32) < 0 ∨ cl363.slots.size ≤ ((0 : Int32)).toNatClampNeg) := inb_of S363 ⟨by decide, by decide⟩
  refine own_j 559 [.int w0, .long 3] (fun t_ k_ => X360.iaload hx (j := (0 : Int32)) (v := (.int w0)) (by rw [e360]; exact Ar363.1) (State.isArrayOf_alike hZ.alike Ar363.2.1) Ar363.2.2 hin363 (H363.at hin363 rfl) (g := (mkF mM 558 Lv361 [.int 0, .ref vv, .long 3])) rfl rfl (hb hby at_558) t_ k_) ?_
  refine own_j 560 [(.long ((w0).toInt64)), .long 3] (fun t_ k_ => XS.i2l X360.here hx rfl (hb hby at_559) rfl k_) ?_
  refine own_j 561 [(.long ((3 : Int64) * ((w0).toInt64)))] (fun t_ k_ => XS.lmul X360.here hx rfl (hb hby at_560) rfl k_) ?_
  let Lv364 : Array Slot := #[.val (.int u0), .val (.long u1), .second, .val (.long u2), .second, .val (.long u3), .second, .val (.int 2), .val (.ref vv), .val (.ref t3), .val (.ref t4), .val (.ref aa), .val (.int 2), .val (.ref p358), .val (.int 0), .val (.long ((3 : Int64) * ((w0).toInt64))), .second]
  refine own_st (A := T360.setTop (mkF mM 563 Lv364 [])) (fun t_ k_ => XS.lstore X360.here hx rfl (hb hby at_561) rfl (l' := Lv364) rfl k_) ?_
  refine ST2 hw X360 hx hZ hby hml hown hlk hret e360 N360 u0 u1 u2 u3 2 vv kv t3 k3 t4 k4 aa 2 p358 0 ((3 : Int64) * ((w0).toInt64)) _ _ _ 1 1 w1 A_vv A_t3 A_t4 (by decide) (by decide) (by decide) (by decide) rfl rfl rfl (fun T365 L365 X365 e365 N365 => ?_)
  refine SZ3 hw X365 hx hZ hby hml hown hlk hret e365 N365 u0 u1 u2 u3 2 vv kv t3 k3 t4 k4 aa 2 p358 0 (((3 : Int64) * ((w0).toInt64)) + (((1 : Int64) * (1 : Int64)) * (w1).toInt64)) (by decide) (fun T366 L366 X366 e366 N366 => ?_)
  refine SZ4 hw X366 hx hZ hby hml hown hlk hret e366 N366 u0 u1 u2 u3 2 vv kv t3 k3 t4 k4 aa 2 p358 0 ((((3 : Int64) * ((w0).toInt64)) + (((1 : Int64) * (1 : Int64)) * (w1).toInt64)) + (0 : Int64)) (by decide) (fun T367 L367 X367 e367 N367 => ?_)
  refine SZ5 hw X367 hx hZ hby hml hown hlk hret e367 N367 u0 u1 u2 u3 2 vv kv t3 k3 t4 k4 aa 2 p358 0 (((((3 : Int64) * ((w0).toInt64)) + (((1 : Int64) * (1 : Int64)) * (w1).toInt64)) + (0 : Int64)) + (0 : Int64)) (by decide) (fun T368 L368 X368 e368 N368 => ?_)
  refine SZ6 hw X368 hx hZ hby hml hown hlk hret e368 N368 u0 u1 u2 u3 2 vv kv t3 k3 t4 k4 aa 2 p358 0 ((((((3 : Int64) * ((w0).toInt64)) + (((1 : Int64) * (1 : Int64)) * (w1).toInt64)) + (0 : Int64)) + (0 : Int64)) + (0 : Int64)) (by decide) (fun T369 L369 X369 e369 N369 => ?_)
  refine SZ7 hw X369 hx hZ hby hml hown hlk hret e369 N369 u0 u1 u2 u3 2 vv kv t3 k3 t4 k4 aa 2 p358 0 (((((((3 : Int64) * ((w0).toInt64)) + (((1 : Int64) * (1 : Int64)) * (w1).toInt64)) + (0 : Int64)) + (0 : Int64)) + (0 : Int64)) + (0 : Int64)) (by decide) (fun T370 L370 X370 e370 N370 => ?_)
  refine SZ8 hw X370 hx hZ hby hml hown hlk hret e370 N370 u0 u1 u2 u3 2 vv kv t3 k3 t4 k4 aa 2 p358 0 ((((((((3 : Int64) * ((w0).toInt64)) + (((1 : Int64) * (1 : Int64)) * (w1).toInt64)) + (0 : Int64)) + (0 : Int64)) + (0 : Int64)) + (0 : Int64)) + (0 : Int64)) (by decide) (fun T371 L371 X371 e371 N371 => ?_)
  refine SZ9 hw X371 hx hZ hby hml hown hlk hret e371 N371 u0 u1 u2 u3 2 vv kv t3 k3 t4 k4 aa 2 p358 0 (((((((((3 : Int64) * ((w0).toInt64)) + (((1 : Int64) * (1 : Int64)) * (w1).toInt64)) + (0 : Int64)) + (0 : Int64)) + (0 : Int64)) + (0 : Int64)) + (0 : Int64)) + (0 : Int64)) (by decide) (fun T372 L372 X372 e372 N372 => ?_)
  refine SZ10 hw X372 hx hZ hby hml hown hlk hret e372 N372 u0 u1 u2 u3 2 vv kv t3 k3 t4 k4 aa 2 p358 0 ((((((((((3 : Int64) * ((w0).toInt64)) + (((1 : Int64) * (1 : Int64)) * (w1).toInt64)) + (0 : Int64)) + (0 : Int64)) + (0 : Int64)) + (0 : Int64)) + (0 : Int64)) + (0 : Int64)) + (0 : Int64)) (by decide) (fun T373 L373 X373 e373 N373 => ?_)
  refine o_aload 741 X373 hx (hb hby at_739) rfl rfl rfl ?_
  obtain ⟨cq374, kq374, q374a, q374b, q374c⟩ := isOf hZ e373 od.1
  obtain ⟨_, _, ⟨T374, L374, k374, n374⟩, -, X374, ⟨Lc374, hQ374, l374, y374, z374⟩, st374⟩ := X373.virtualBack hx (y := yn10) (z := yn10) hown (mvT hZ (ow hw 91 rfl)) (mvT hZ (ow hw 92 rfl)) (notFace_of_selects (args := #[]) (mvT hZ (ow hw 94 rfl))) (mvT hZ (ow hw 94 rfl)) (mvT hZ (ow hw 93 rfl)) (by decide) (backOf (W := 0) (rmG lL Z a0 hw [] p358 (stp (FP.i2d w1) (FP.i2d w0)) T358.heap n0 od) hZ (ow hw 95 rfl) (ow hw 55 rfl) (by decide) (by decide)) q374a q374c (g := (mkF mM 741 #[.val (.int u0), .val (.long u1), .second, .val (.long u2), .second, .val (.long u3), .second, .val (.int 2), .val (.ref vv), .val (.ref t3), .val (.ref t4), .val (.ref aa), .val (.int 2), .val (.ref p358), .val (.int 0), .val (.long (((((((((((3 : Int64) * ((w0).toInt64)) + (((1 : Int64) * (1 : Int64)) * (w1).toInt64)) + (0 : Int64)) + (0 : Int64)) + (0 : Int64)) + (0 : Int64)) + (0 : Int64)) + (0 : Int64)) + (0 : Int64)) + (0 : Int64))), .second] [.ref p358])) rfl (by rw [hml]; rfl) (Steps.refl _) (argsL := []) (rest := []) (lenOf pd__28_29D rfl) rfl (by show 2 * 0 + _ ≤ _; exact Nat.le_of_eq rfl) (hb hby at_741) (fun _ _ => ⟨rfl, e373, (by decide : 6 + 0 ≤ _), (by decide : 48 + 0 ≤ _)⟩)
  dsimp only [Pt.U, Pt.locs, Pt.cells, Pt.slots] at X374 l374 y374 z374 st374 hQ374
  have X374 := own_cs X374 6 48 y374 z374
  obtain ⟨rfl, N374q, e374⟩ := hQ374
  have N374 := own_N l374 N373 N374q
  refine own_k T374 744 [(.double (stp (FP.i2d w1) (FP.i2d w0)))] (fun t_ k_ => st374.trans k_) ?_
  refine o_aload 746 X374 hx (hb hby at_744) rfl rfl rfl ?_
  refine o_iload 748 X374 hx (hb hby at_746) rfl rfl ?_
  refine o_iconst 749 1 X374 hx (hb hby at_748) rfl rfl ?_
  refine own_j 750 [.int 1, .ref t4, (.double (stp (FP.i2d w1) (FP.i2d w0)))] (fun t_ k_ => XS.isub X374.here hx rfl (hb hby at_749) rfl k_) ?_
  obtain ⟨cl375, Ar375, q375, S375, Nn375, H375, G375⟩ := id A_t4
  have hin375 : ¬ ((1 : Int32) < 0 ∨ cl375.slots.size ≤ ((1 : Int32)).toNatClampNeg) := inb_of S375 ⟨by decide, by decide⟩
  refine own_j 751 [.long 4, (.double (stp (FP.i2d w1) (FP.i2d w0)))] (fun t_ k_ => X374.laload hx (j := (1 : Int32)) (v := (.long 4)) (by rw [e374]; exact Ar375.1) (State.isArrayOf_alike hZ.alike Ar375.2.1) Ar375.2.2 hin375 (H375.at hin375 rfl) (g := (mkF mM 750 #[.val (.int u0), .val (.long u1), .second, .val (.long u2), .second, .val (.long u3), .second, .val (.int 2), .val (.ref vv), .val (.ref t3), .val (.ref t4), .val (.ref aa), .val (.int 2), .val (.ref p358), .val (.int 0), .val (.long (((((((((((3 : Int64) * ((w0).toInt64)) + (((1 : Int64) * (1 : Int64)) * (w1).toInt64)) + (0 : Int64)) + (0 : Int64)) + (0 : Int64)) + (0 : Int64)) + (0 : Int64)) + (0 : Int64)) + (0 : Int64)) + (0 : Int64))), .second] [.int 1, .ref t4, (.double (stp (FP.i2d w1) (FP.i2d w0)))])) rfl rfl (hb hby at_750) t_ k_) ?_
  refine own_j 752 [(.double (FP.l2d (4 : Int64))), (.double (stp (FP.i2d w1) (FP.i2d w0)))] (fun t_ k_ => XS.l2dS X374.here hx rfl (hb hby at_751) rfl rfl k_) ?_
  have av0 : Av (FP.i2d w0) w0.toInt 0 (32768 * 1) := own_av0 bl0 bu0
  obtain ⟨-, -, -, av1⟩ := own_stp (P := 1) bl1 bu1 av0 (by decide) (by decide) (by decide) (by decide)
  have av1 : Av (stp (FP.i2d w1) (FP.i2d w0)) (1 * w1.toInt + 3 * w0.toInt) 1 (32768 * 4) := av1
  have sm1 := own_Lmul (x := w0) (c := 3) (C := 3) (by decide) (by decide) (by decide) bl0 bu0
  have tm2 := own_Lmul (x := w1) (c := (1 : Int64) * (1 : Int64)) (C := 1) (by decide) (by decide) (by decide) bl1 bu1
  have sm2 := own_Ladd sm1 tm2 (by omega) (by omega) (by omega) (by omega)
  have tm3 : (0 : Int64).toInt = 0 := by decide
  have sm3 := own_Ladd sm2 tm3 (by omega) (by omega) (by omega) (by omega)
  have tm4 : (0 : Int64).toInt = 0 := by decide
  have sm4 := own_Ladd sm3 tm4 (by omega) (by omega) (by omega) (by omega)
  have tm5 : (0 : Int64).toInt = 0 := by decide
  have sm5 := own_Ladd sm4 tm5 (by omega) (by omega) (by omega) (by omega)
  have tm6 : (0 : Int64).toInt = 0 := by decide
  have sm6 := own_Ladd sm5 tm6 (by omega) (by omega) (by omega) (by omega)
  have tm7 : (0 : Int64).toInt = 0 := by decide
  have sm7 := own_Ladd sm6 tm7 (by omega) (by omega) (by omega) (by omega)
  have tm8 : (0 : Int64).toInt = 0 := by decide
  have sm8 := own_Ladd sm7 tm8 (by omega) (by omega) (by omega) (by omega)
  have tm9 : (0 : Int64).toInt = 0 := by decide
  have sm9 := own_Ladd sm8 tm9 (by omega) (by omega) (by omega) (by omega)
  have tm10 : (0 : Int64).toInt = 0 := by decide
  have sm10 := own_Ladd sm9 tm10 (by omega) (by omega) (by omega) (by omega)
  have hs : ((((((((((((3 : Int64) * ((w0).toInt64)) + (((1 : Int64) * (1 : Int64)) * (w1).toInt64)) + (0 : Int64)) + (0 : Int64)) + (0 : Int64)) + (0 : Int64)) + (0 : Int64)) + (0 : Int64)) + (0 : Int64)) + (0 : Int64))).toInt = (1 * w1.toInt + 3 * w0.toInt) := sm10.trans (by omega)
  obtain ⟨nl, cl⟩ := own_last (p := 4) av1 (by decide) (by decide) (by decide) (by decide) (by decide) hs
  refine own_j 753 [(.double (FP.dmul (stp (FP.i2d w1) (FP.i2d w0)) (FP.l2d (4 : Int64))))] (fun t_ k_ => XS.dmulS X374.here hx rfl (hb hby at_752) rfl nl rfl k_) ?_
  refine o_lload 755 X374 hx (hb hby at_753) rfl rfl ?_
  refine own_j 756 [(.double (FP.l2d (((((((((((3 : Int64) * ((w0).toInt64)) + (((1 : Int64) * (1 : Int64)) * (w1).toInt64)) + (0 : Int64)) + (0 : Int64)) + (0 : Int64)) + (0 : Int64)) + (0 : Int64)) + (0 : Int64)) + (0 : Int64)) + (0 : Int64)))), (.double (FP.dmul (stp (FP.i2d w1) (FP.i2d w0)) (FP.l2d (4 : Int64))))] (fun t_ k_ => XS.l2dS X374.here hx rfl (hb hby at_755) rfl rfl k_) ?_
  refine own_j 757 [.int 0] (fun t_ k_ => XS.dcmpS X374.here hx rfl (hb hby at_756) rfl (cl _) k_) ?_
  refine o_ifNo 760 X374 hx (hb hby at_757) ((if0 _ _).trans (teq (by decide : ((0 : Int32) = (0 : Int32)))).2) rfl ?_
  refine o_iconst 761 1 X374 hx (hb hby at_760) rfl rfl ?_
  refine o_goto 765 X374 hx (hb hby at_761) (by decide) ?_
  exact own_retN X374 hx hlk (t := .boolean) hret (by simp) (hb hby at_765) ⟨rfl, N374⟩ (by decide) (by decide)
theorem J278_3 (hw : own_tb a0 Z) (X0 : Stand pP lL eE room_1 sS mM args below meth cC T0 locs 5 46) (hx : pP.tables.exec = Jvm.exec) (hZ : Z.Warmed39 sS.vm) (hby : cC.code = code) (hml : cC.maxLocals = 17) (hown : sS.vm.findClass "com/example/gleanwork/gleanwork/schedule/RecentAverageAddPinLaw" = some mM.cls) (hlk : meth.locks = false) (hret : meth.sig.returnType = ret) (e0 : T0.heap = h0) (N0 : Fr n0 locs) (u0 : Int32) (u1 : Int64) (u2 : Int64) (u3 : Int64) (w0 : Int32) (w1 : Int32) (w2 : Int32) (w3 : Int32) (w4 : Int32) (w5 : Int32) (w6 : Int32) (w7 : Int32) (w8 : Int32) (w9 : Int32) (w10 : Int32) (w11 : Int32) (vv : Addr) (kv : ClassId) (t3 : Addr) (k3 : ClassId) (t4 : Addr) (k4 : ClassId) (aa : Addr) (dd : Addr) (kd : ClassId) (em : Addr) (O : Old Z n0 h0) (Zn : n0 ≤ h0.size) (g_aa : n0 ≤ aa) (g_dd : n0 ≤ dd) (A_vv : Arv Z h0 vv kv .int 12 [.int w0, .int w1, .int w2, .int w3, .int w4, .int w5, .int w6, .int w7, .int w8, .int w9, .int w10, .int w11] (.int 0)) (A_t3 : Arv Z h0 t3 k3 .long 10 [.long 1, .long 3, .long 9, .long 27, .long 81, .long 243, .long 729, .long 2187, .long 6561, .long 19683] (.long 0)) (A_t4 : Arv Z h0 t4 k4 .long 10 [.long 1, .long 4, .long 16, .long 64, .long 256, .long 1024, .long 4096, .long 16384, .long 65536, .long 262144] (.long 0)) (nq0 : vv ≠ aa) (nq1 : vv ≠ dd) (nq2 : t3 ≠ aa) (nq3 : t3 ≠ dd) (nq4 : t4 ≠ aa) (nq5 : t4 ≠ dd) (nq6 : aa ≠ dd) (ra : Ra Z h0 aa dd kd 0 0 0 [.double 0, .double 0, .double 0, .double 0, .double 0, .double 0, .double 0, .double 0, .double 0, .double 0]) (S_em : Sta Z Z.heap "java/util/OptionalDouble" "EMPTY" "Ljava/util/OptionalDouble;" (.ref em)) (E_em : Exa Z Z.heap em "java/util/OptionalDouble") (F_em : Fld Z Z.heap em "java/util/OptionalDouble" "isPresent" "Z" (.int 0)) (bl0 : -32768 ≤ w0.toInt) (bl1 : -32768 ≤ w1.toInt) (bl2 : -32768 ≤ w2.toInt) (bl3 : -32768 ≤ w3.toInt) (bl4 : -32768 ≤ w4.toInt) (bl5 : -32768 ≤ w5.toInt) (bl6 : -32768 ≤ w6.toInt) (bl7 : -32768 ≤ w7.toInt) (bl8 : -32768 ≤ w8.toInt) (bl9 : -32768 ≤ w9.toInt) (bl10 : -32768 ≤ w10.toInt) (bl11 : -32768 ≤ w11.toInt) (bu0 : w0.toInt ≤ 32768) (bu1 : w1.toInt ≤ 32768) (bu2 : w2.toInt ≤ 32768) (bu3 : w3.toInt ≤ 32768) (bu4 : w4.toInt ≤ 32768) (bu5 : w5.toInt ≤ 32768) (bu6 : w6.toInt ≤ 32768) (bu7 : w7.toInt ≤ 32768) (bu8 : w8.toInt ≤ 32768) (bu9 : w9.toInt ≤ 32768) (bu10 : w10.toInt ≤ 32768) (bu11 : w11.toInt ≤ 32768) :
    own_Go pP eE below sS (QLaw n0) 24 192 (T0.setTop (mkF mM 278 #[.val (.int u0), .val (.long u1), .second, .val (.long u2), .second, .val (.long u3), .second, .val (.int 3), .val (.ref vv), .val (.ref t3), .val (.ref t4), .val (.ref aa), .unset, .unset, .unset, .unset, .unset] [])) := by
  refine SA1 hw X0 hx hZ hby hml hown hlk hret e0 N0 u0 u1 u2 u3 3 w0 w1 w2 w3 w4 w5 w6 w7 w8 w9 w10 w11 vv kv t3 k3 t4 k4 aa dd kd O Zn g_aa g_dd A_vv A_t3 A_t4 nq0 nq1 nq2 nq3 nq4 nq5 nq6 ra bl0 bl1 bl2 bl3 bl4 bl5 bl6 bl7 bl8 bl9 bl10 bl11 bu0 bu1 bu2 bu3 bu4 bu5 bu6 bu7 bu8 bu9 bu10 bu11 (by decide) (fun T376 L376 h376 X376 e376 N376 O Zn A_vv A_t3 A_t4 ra => ?_)
  refine SA2 hw X376 hx hZ hby hml hown hlk hret e376 N376 u0 u1 u2 u3 3 w0 w1 w2 w3 w4 w5 w6 w7 w8 w9 w10 w11 vv kv t3 k3 t4 k4 aa dd kd O Zn g_aa g_dd A_vv A_t3 A_t4 nq0 nq1 nq2 nq3 nq4 nq5 nq6 ra bl0 bl1 bl2 bl3 bl4 bl5 bl6 bl7 bl8 bl9 bl10 bl11 bu0 bu1 bu2 bu3 bu4 bu5 bu6 bu7 bu8 bu9 bu10 bu11 (by decide) (fun T377 L377 h377 X377 e377 N377 O Zn A_vv A_t3 A_t4 ra => ?_)
  refine SA3 hw X377 hx hZ hby hml hown hlk hret e377 N377 u0 u1 u2 u3 3 w0 w1 w2 w3 w4 w5 w6 w7 w8 w9 w10 w11 vv kv t3 k3 t4 k4 aa dd kd O Zn g_aa g_dd A_vv A_t3 A_t4 nq0 nq1 nq2 nq3 nq4 nq5 nq6 ra bl0 bl1 bl2 bl3 bl4 bl5 bl6 bl7 bl8 bl9 bl10 bl11 bu0 bu1 bu2 bu3 bu4 bu5 bu6 bu7 bu8 bu9 bu10 bu11 (by decide) (fun T378 L378 h378 X378 e378 N378 O Zn A_vv A_t3 A_t4 ra => ?_)
  refine o_iload 328 X378 hx (hb hby at_326) rfl rfl ?_
  refine o_iconst 329 4 X378 hx (hb hby at_328) rfl rfl ?_
  refine o_icmpYes 342 X378 hx (hb hby at_329) (tlt (by decide : ((3 : Int32) < (4 : Int32)))).1 (by decide) ?_
  refine o_iload 344 X378 hx (hb hby at_342) rfl rfl ?_
  refine o_iconst 345 5 X378 hx (hb hby at_344) rfl rfl ?_
  refine o_icmpYes 358 X378 hx (hb hby at_345) (tlt (by decide : ((3 : Int32) < (5 : Int32)))).1 (by decide) ?_
  refine o_iload 360 X378 hx (hb hby at_358) rfl rfl ?_
  refine o_bipush 362 6 X378 hx (hb hby at_360) rfl rfl ?_
  refine o_icmpYes 375 X378 hx (hb hby at_362) (tlt (by decide : ((3 : Int32) < (6 : Int32)))).1 (by decide) ?_
  refine o_iload 377 X378 hx (hb hby at_375) rfl rfl ?_
  refine o_bipush 379 7 X378 hx (hb hby at_377) rfl rfl ?_
  refine o_icmpYes 393 X378 hx (hb hby at_379) (tlt (by decide : ((3 : Int32) < (7 : Int32)))).1 (by decide) ?_
  refine o_iload 395 X378 hx (hb hby at_393) rfl rfl ?_
  refine o_bipush 397 8 X378 hx (hb hby at_395) rfl rfl ?_
  refine o_icmpYes 411 X378 hx (hb hby at_397) (tlt (by decide : ((3 : Int32) < (8 : Int32)))).1 (by decide) ?_
  refine o_iload 413 X378 hx (hb hby at_411) rfl rfl ?_
  refine o_bipush 415 9 X378 hx (hb hby at_413) rfl rfl ?_
  refine o_icmpYes 429 X378 hx (hb hby at_415) (tlt (by decide : ((3 : Int32) < (9 : Int32)))).1 (by decide) ?_
  refine o_iload 431 X378 hx (hb hby at_429) rfl rfl ?_
  refine o_bipush 433 10 X378 hx (hb hby at_431) rfl rfl ?_
  refine o_icmpYes 447 X378 hx (hb hby at_433) (tlt (by decide : ((3 : Int32) < (10 : Int32)))).1 (by decide) ?_
  refine o_iload 449 X378 hx (hb hby at_447) rfl rfl ?_
  refine o_bipush 451 11 X378 hx (hb hby at_449) rfl rfl ?_
  refine o_icmpYes 465 X378 hx (hb hby at_451) (tlt (by decide : ((3 : Int32) < (11 : Int32)))).1 (by decide) ?_
  refine o_iload 467 X378 hx (hb hby at_465) rfl rfl ?_
  refine o_bipush 469 12 X378 hx (hb hby at_467) rfl rfl ?_
  refine o_icmpYes 483 X378 hx (hb hby at_469) (tlt (by decide : ((3 : Int32) < (12 : Int32)))).1 (by decide) ?_
  refine o_iload 485 X378 hx (hb hby at_483) rfl rfl ?_
  refine o_bipush 487 10 X378 hx (hb hby at_485) rfl rfl ?_
  obtain ⟨_, _, ⟨T379, L379, k379, n379⟩, -, X379, ⟨Lc379, hQ379, l379, y379, z379⟩, st379⟩ := Jvm.LawKit.callS X378 hx (y := yn3) hown (mvT hZ (ow hw 37 rfl)) (mvT hZ (ow hw 38 rfl)) (mvT hZ (ow hw 39 rfl)) (mvT hZ (ow hw 40 rfl)) (by decide) (backOf (W := 0) (rmM3 lL Z a0 hw []  h378 n0 ) hZ (ow hw 40 rfl) (ow hw 39 rfl) (by decide) (by decide)) (g := (mkF mM 487 #[.val (.int u0), .val (.long u1), .second, .val (.long u2), .second, .val (.long u3), .second, .val (.int 3), .val (.ref vv), .val (.ref t3), .val (.ref t4), .val (.ref aa), .unset, .unset, .unset, .unset, .unset] [.int 10, .int 3])) rfl (by rw [hml]; rfl) (argsL := [.int 3, .int 10]) (rest := []) (lenOf pd__28II_29I rfl) rfl (by show 2 * 0 + _ ≤ _; exact Nat.le_of_eq rfl) (hb hby at_487) (fun _ _ => ⟨rfl, e378, (by decide : 5 + 0 ≤ _), (by decide : 46 + 0 ≤ _)⟩)
  dsimp only [Pt.U, Pt.locs, Pt.cells, Pt.slots] at X379 l379 y379 z379 st379 hQ379
  have X379 := own_cs X379 5 46 y379 z379
  obtain ⟨rfl, N379q, e379⟩ := hQ379
  have N379 := own_N l379 N378 N379q
  refine own_k T379 490 [.int 3] st379 ?_
  let Lv380 : Array Slot := #[.val (.int u0), .val (.long u1), .second, .val (.long u2), .second, .val (.long u3), .second, .val (.int 3), .val (.ref vv), .val (.ref t3), .val (.ref t4), .val (.ref aa), .val (.int 3), .unset, .unset, .unset, .unset]
  refine own_st (A := T379.setTop (mkF mM 492 Lv380 [])) (fun t_ k_ => XS.istore X379.here hx rfl (hb hby at_490) rfl (l' := Lv380) rfl k_) ?_
  refine o_aload 494 X379 hx (hb hby at_492) rfl rfl rfl ?_
  obtain ⟨cq381, kq381, q381a, q381b, q381c⟩ := isOf hZ e379 ra.1
  obtain ⟨_, _, ⟨T381, L381, k381, n381⟩, -, X381, ⟨Lc381, hQ381, l381, y381, z381⟩, st381⟩ := X379.virtualBack hx (y := yn4) (z := yn4) hown (mvT hZ (ow hw 41 rfl)) (mvT hZ (ow hw 42 rfl)) (notFace_of_selects (args := #[]) (mvT hZ (ow hw 44 rfl))) (mvT hZ (ow hw 44 rfl)) (mvT hZ (ow hw 43 rfl)) (by decide) (backOf (W := 0) (rmC lL Z a0 hw [] aa 3 h378 n0 ra.2.2.1) hZ (ow hw 45 rfl) (ow hw 27 rfl) (by decide) (by decide)) q381a q381c (g := (mkF mM 494 Lv380 [.ref aa])) rfl (by rw [hml]; rfl) (Steps.refl _) (argsL := []) (rest := []) (lenOf pd__28_29I rfl) rfl (by show 2 * 0 + _ ≤ _; exact Nat.le_of_eq rfl) (hb hby at_494) (fun _ _ => ⟨rfl, e379, (by decide : 5 + 0 ≤ _), (by decide : 46 + 0 ≤ _)⟩)
  dsimp only [Pt.U, Pt.locs, Pt.cells, Pt.slots] at X381 l381 y381 z381 st381 hQ381
  have X381 := own_cs X381 5 46 y381 z381
  obtain ⟨rfl, N381q, e381⟩ := hQ381
  have N381 := own_N l381 N379 N381q
  refine own_k T381 497 [.int 3] (fun t_ k_ => st381.trans k_) ?_
  refine o_iload 499 X381 hx (hb hby at_497) rfl rfl ?_
  refine o_icmpYes 504 X381 hx (hb hby at_499) (teq (by decide : ((3 : Int32) = (3 : Int32)))).1 (by decide) ?_
  refine o_aload 506 X381 hx (hb hby at_504) rfl rfl rfl ?_
  obtain ⟨cq382, kq382, q382a, q382b, q382c⟩ := isOf hZ e381 ra.1
  obtain ⟨_, _, ⟨T382, L382, k382, n382⟩, -, X382, ⟨Lc382, hQ382, l382, y382, z382⟩, st382⟩ := X381.virtualBack hx (y := yn8) (z := yn8) hown (mvT hZ (ow hw 48 rfl)) (mvT hZ (ow hw 49 rfl)) (notFace_of_selects (args := #[]) (mvT hZ (ow hw 51 rfl))) (mvT hZ (ow hw 51 rfl)) (mvT hZ (ow hw 50 rfl)) (by decide) (backOf (W := 0) (rmV lL Z a0 hw [] aa 3 (stp (FP.i2d w2) (stp (FP.i2d w1) (FP.i2d w0))) h378 n0 Zn ra.2.2.1 ra.2.2.2.2.1 (by decide)) hZ (ow hw 52 rfl) (ow hw 27 rfl) (by decide) (by decide)) q382a q382c (g := (mkF mM 506 Lv380 [.ref aa])) rfl (by rw [hml]; rfl) (Steps.refl _) (argsL := []) (rest := []) (lenOf pd__28_29Ljava_2futil_2fOptionalDouble_3b rfl) rfl (by show 2 * 0 + _ ≤ _; exact Nat.le_of_eq rfl) (hb hby at_506) (fun _ _ => ⟨rfl, e381, (by decide : 5 + 1 ≤ _), (by decide : 46 + 2 ≤ _)⟩)
  dsimp only [Pt.U, Pt.locs, Pt.cells, Pt.slots] at X382 l382 y382 z382 st382 hQ382
  have X382 := own_cs X382 6 48 y382 z382
  obtain ⟨p382, rfl, N382q, E382, od⟩ := hQ382
  have N382 := own_N l382 N381 N382q
  have e382 : T382.heap = T382.heap := rfl
  refine own_k T382 509 [.ref p382] (fun t_ k_ => st382.trans k_) ?_
  have O := O.ext E382
  have A_vv := A_vv.ext E382
  have A_t3 := A_t3.ext E382
  have A_t4 := A_t4.ext E382
  have Zn := Nat.le_trans Zn E382.1
  let Lv383 : Array Slot := #[.val (.int u0), .val (.long u1), .second, .val (.long u2), .second, .val (.long u3), .second, .val (.int 3), .val (.ref vv), .val (.ref t3), .val (.ref t4), .val (.ref aa), .val (.int 3), .val (.ref p382), .unset, .unset, .unset]
  refine own_st (A := T382.setTop (mkF mM 511 Lv383 [])) (fun t_ k_ => XS.astore X382.here hx rfl (hb hby at_509) rfl rfl (l' := Lv383) rfl k_) ?_
  refine o_iload 513 X382 hx (hb hby at_511) rfl rfl ?_
  refine o_ifYes 530 X382 hx (hb hby at_513) ((if0 _ _).trans (feq (by decide : ¬ ((3 : Int32) = (0 : Int32)))).2) (by decide) ?_
  refine o_aload 532 X382 hx (hb hby at_530) rfl rfl rfl ?_
  obtain ⟨cq384, kq384, q384a, q384b, q384c⟩ := isOf hZ e382 od.1
  obtain ⟨_, _, ⟨T384, L384, k384, n384⟩, -, X384, ⟨Lc384, hQ384, l384, y384, z384⟩, st384⟩ := X382.virtualBack hx (y := yn9) (z := yn9) hown (mvT hZ (ow hw 58 rfl)) (mvT hZ (ow hw 59 rfl)) (notFace_of_selects (args := #[]) (mvT hZ (ow hw 61 rfl))) (mvT hZ (ow hw 61 rfl)) (mvT hZ (ow hw 60 rfl)) (by decide) (backOf (W := 0) (rmP1 lL Z a0 hw [] p382 T382.heap n0 od.2.1) hZ (ow hw 62 rfl) (ow hw 55 rfl) (by decide) (by decide)) q384a q384c (g := (mkF mM 532 Lv383 [.ref p382])) rfl (by rw [hml]; rfl) (Steps.refl _) (argsL := []) (rest := []) (lenOf pd__28_29Z rfl) rfl (by show 2 * 0 + _ ≤ _; exact Nat.le_of_eq rfl) (hb hby at_532) (fun _ _ => ⟨rfl, e382, (by decide : 6 + 0 ≤ _), (by decide : 48 + 0 ≤ _)⟩)
  dsimp only [Pt.U, Pt.locs, Pt.cells, Pt.slots] at X384 l384 y384 z384 st384 hQ384
  have X384 := own_cs X384 6 48 y384 z384
  obtain ⟨rfl, N384q, e384⟩ := hQ384
  have N384 := own_N l384 N382 N384q
  refine own_k T384 535 [.int 1] (fun t_ k_ => st384.trans k_) ?_
  refine o_ifYes 540 X384 hx (hb hby at_535) ((if0 _ _).trans (feq (by decide : ¬ ((1 : Int32) = (0 : Int32)))).2) (by decide) ?_
  refine o_iload 542 X384 hx (hb hby at_540) rfl rfl ?_
  refine o_iload 544 X384 hx (hb hby at_542) rfl rfl ?_
  refine own_j 545 [.int 0] (fun t_ k_ => XS.isub X384.here hx rfl (hb hby at_544) rfl k_) ?_
  let Lv385 : Array Slot := #[.val (.int u0), .val (.long u1), .second, .val (.long u2), .second, .val (.long u3), .second, .val (.int 3), .val (.ref vv), .val (.ref t3), .val (.ref t4), .val (.ref aa), .val (.int 3), .val (.ref p382), .val (.int 0), .unset, .unset]
  refine own_st (A := T384.setTop (mkF mM 547 Lv385 [])) (fun t_ k_ => XS.istore X384.here hx rfl (hb hby at_545) rfl (l' := Lv385) rfl k_) ?_
  refine o_aload 549 X384 hx (hb hby at_547) rfl rfl rfl ?_
  refine o_iload 551 X384 hx (hb hby at_549) rfl rfl ?_
  refine o_iconst 552 1 X384 hx (hb hby at_551) rfl rfl ?_
  refine own_j 553 [.int 2, .ref t3] (fun t_ k_ => XS.isub X384.here hx rfl (hb hby at_552) rfl k_) ?_
  obtain ⟨cl386, Ar386, q386, S386, Nn386, H386, G386⟩ := id A_t3
  have hin386 : ¬ ((2 : Int32) < 0 ∨ cl386.slots.size ≤ ((2 : Int32)).toNatClampNeg) := inb_of S386 ⟨by decide, by decide⟩
  refine own_j 554 [.long 9] (fun t_ k_ => X384.laload hx (j := (2 : Int32)) (v := (.long 9)) (by rw [e384]; exact Ar386.1) (State.isArrayOf_alike hZ.alike Ar386.2.1) Ar386.2.2 hin386 (H386.at hin386 rfl) (g := (mkF mM 553 Lv385 [.int 2, .ref t3])) rfl rfl (hb hby at_553) t_ k_) ?_
  refine o_aload 556 X384 hx (hb hby at_554) rfl rfl rfl ?_
  refine o_iload 558 X384 hx (hb hby at_556) rfl rfl ?_
  obtain ⟨cl387, Ar387, q387, S387, Nn387, H387, G387⟩ := id A_vv
  have hin387 : ¬ ((0 : Int32) < 0 ∨ cl387.slots.size ≤ ((0 : Int32)).toNatClampNeg) := inb_of S387 ⟨by decide, by decide⟩
  refine own_j 559 [.int w0, .long 9] (fun t_ k_ => X384.iaload hx (j := (0 : Int32)) (v := (.int w0)) (by rw [e384]; exact Ar387.1) (State.isArrayOf_alike hZ.alike Ar387.2.1) Ar387.2.2 hin387 (H387.at hin387 rfl) (g := (mkF mM 558 Lv385 [.int 0, .ref vv, .long 9])) rfl rfl (hb hby at_558) t_ k_) ?_
  refine own_j 560 [(.long ((w0).toInt64)), .long 9] (fun t_ k_ => XS.i2l X384.here hx rfl (hb hby at_559) rfl k_) ?_
  refine own_j 561 [(.long ((9 : Int64) * ((w0).toInt64)))] (fun t_ k_ => XS.lmul X384.here hx rfl (hb hby at_560) rfl k_) ?_
  let Lv388 : Array Slot := #[.val (.int u0), .val (.long u1), .second, .val (.long u2), .second, .val (.long u3), .second, .val (.int 3), .val (.ref vv), .val (.ref t3), .val (.ref t4), .val (.ref aa), .val (.int 3), .val (.ref p382), .val (.int 0), .val (.long ((9 : Int64) * ((w0).toInt64))), .second]
  refine own_st (A := T384.setTop (mkF mM 563 Lv388 [])) (fun t_ k_ => XS.lstore X384.here hx rfl (hb hby at_561) rfl (l' := Lv388) rfl k_) ?_
  refine ST2 hw X384 hx hZ hby hml hown hlk hret e384 N384 u0 u1 u2 u3 3 vv kv t3 k3 t4 k4 aa 3 p382 0 ((9 : Int64) * ((w0).toInt64)) _ _ _ 3 1 w1 A_vv A_t3 A_t4 (by decide) (by decide) (by decide) (by decide) rfl rfl rfl (fun T389 L389 X389 e389 N389 => ?_)
  refine ST3 hw X389 hx hZ hby hml hown hlk hret e389 N389 u0 u1 u2 u3 3 vv kv t3 k3 t4 k4 aa 3 p382 0 (((9 : Int64) * ((w0).toInt64)) + (((3 : Int64) * (1 : Int64)) * (w1).toInt64)) _ _ _ 1 4 w2 A_vv A_t3 A_t4 (by decide) (by decide) (by decide) (by decide) rfl rfl rfl (fun T390 L390 X390 e390 N390 => ?_)
  refine SZ4 hw X390 hx hZ hby hml hown hlk hret e390 N390 u0 u1 u2 u3 3 vv kv t3 k3 t4 k4 aa 3 p382 0 ((((9 : Int64) * ((w0).toInt64)) + (((3 : Int64) * (1 : Int64)) * (w1).toInt64)) + (((1 : Int64) * (4 : Int64)) * (w2).toInt64)) (by decide) (fun T391 L391 X391 e391 N391 => ?_)
  refine SZ5 hw X391 hx hZ hby hml hown hlk hret e391 N391 u0 u1 u2 u3 3 vv kv t3 k3 t4 k4 aa 3 p382 0 (((((9 : Int64) * ((w0).toInt64)) + (((3 : Int64) * (1 : Int64)) * (w1).toInt64)) + (((1 : Int64) * (4 : Int64)) * (w2).toInt64)) + (0 : Int64)) (by decide) (fun T392 L392 X392 e392 N392 => ?_)
  refine SZ6 hw X392 hx hZ hby hml hown hlk hret e392 N392 u0 u1 u2 u3 3 vv kv t3 k3 t4 k4 aa 3 p382 0 ((((((9 : Int64) * ((w0).toInt64)) + (((3 : Int64) * (1 : Int64)) * (w1).toInt64)) + (((1 : Int64) * (4 : Int64)) * (w2).toInt64)) + (0 : Int64)) + (0 : Int64)) (by decide) (fun T393 L393 X393 e393 N393 => ?_)
  refine SZ7 hw X393 hx hZ hby hml hown hlk hret e393 N393 u0 u1 u2 u3 3 vv kv t3 k3 t4 k4 aa 3 p382 0 (((((((9 : Int64) * ((w0).toInt64)) + (((3 : Int64) * (1 : Int64)) * (w1).toInt64)) + (((1 : Int64) * (4 : Int64)) * (w2).toInt64)) + (0 : Int64)) + (0 : Int64)) + (0 : Int64)) (by decide) (fun T394 L394 X394 e394 N394 => ?_)
  refine SZ8 hw X394 hx hZ hby hml hown hlk hret e394 N394 u0 u1 u2 u3 3 vv kv t3 k3 t4 k4 aa 3 p382 0 ((((((((9 : Int64) * ((w0).toInt64)) + (((3 : Int64) * (1 : Int64)) * (w1).toInt64)) + (((1 : Int64) * (4 : Int64)) * (w2).toInt64)) + (0 : Int64)) + (0 : Int64)) + (0 : Int64)) + (0 : Int64)) (by decide) (fun T395 L395 X395 e395 N395 => ?_)
  refine SZ9 hw X395 hx hZ hby hml hown hlk hret e395 N395 u0 u1 u2 u3 3 vv kv t3 k3 t4 k4 aa 3 p382 0 (((((((((9 : Int64) * ((w0).toInt64)) + (((3 : Int64) * (1 : Int64)) * (w1).toInt64)) + (((1 : Int64) * (4 : Int64)) * (w2).toInt64)) + (0 : Int64)) + (0 : Int64)) + (0 : Int64)) + (0 : Int64)) + (0 : Int64)) (by decide) (fun T396 L396 X396 e396 N396 => ?_)
  refine SZ10 hw X396 hx hZ hby hml hown hlk hret e396 N396 u0 u1 u2 u3 3 vv kv t3 k3 t4 k4 aa 3 p382 0 ((((((((((9 : Int64) * ((w0).toInt64)) + (((3 : Int64) * (1 : Int64)) * (w1).toInt64)) + (((1 : Int64) * (4 : Int64)) * (w2).toInt64)) + (0 : Int64)) + (0 : Int64)) + (0 : Int64)) + (0 : Int64)) + (0 : Int64)) + (0 : Int64)) (by decide) (fun T397 L397 X397 e397 N397 => ?_)
  refine o_aload 741 X397 hx (hb hby at_739) rfl rfl rfl ?_
  obtain ⟨cq398, kq398, q398a, q398b, q398c⟩ := isOf hZ e397 od.1
  obtain ⟨_, _, ⟨T398, L398, k398, n398⟩, -, X398, ⟨Lc398, hQ398, l398, y398, z398⟩, st398⟩ := X397.virtualBack hx (y := yn10) (z := yn10) hown (mvT hZ (ow hw 91 rfl)) (mvT hZ (ow hw 92 rfl)) (notFace_of_selects (args := #[]) (mvT hZ (ow hw 94 rfl))) (mvT hZ (ow hw 94 rfl)) (mvT hZ (ow hw 93 rfl)) (by decide) (backOf (W := 0) (rmG lL Z a0 hw [] p382 (stp (FP.i2d w2) (stp (FP.i2d w1) (FP.i2d w0))) T382.heap n0 od) hZ (ow hw 95 rfl) (ow hw 55 rfl) (by decide) (by decide)) q398a q398c (g := (mkF mM 741 #[.val (.int u0), .val (.long u1), .second, .val (.long u2), .second, .val (.long u3), .second, .val (.int 3), .val (.ref vv), .val (.ref t3), .val (.ref t4), .val (.ref aa), .val (.int 3), .val (.ref p382), .val (.int 0), .val (.long (((((((((((9 : Int64) * ((w0).toInt64)) + (((3 : Int64) * (1 : Int64)) * (w1).toInt64)) + (((1 : Int64) * (4 : Int64)) * (w2).toInt64)) + (0 : Int64)) + (0 : Int64)) + (0 : Int64)) + (0 : Int64)) + (0 : Int64)) + (0 : Int64)) + (0 : Int64))), .second] [.ref p382])) rfl (by rw [hml]; rfl) (Steps.refl _) (argsL := []) (rest := []) (lenOf pd__28_29D rfl) rfl (by show 2 * 0 + _ ≤ _; exact Nat.le_of_eq rfl) (hb hby at_741) (fun _ _ => ⟨rfl, e397, (by decide : 6 + 0 ≤ _), (by decide : 48 + 0 ≤ _)⟩)
  dsimp only [Pt.U, Pt.locs, Pt.cells, Pt.slots] at X398 l398 y398 z398 st398 hQ398
  have X398 := own_cs X398 6 48 y398 z398
  obtain ⟨rfl, N398q, e398⟩ := hQ398
  have N398 := own_N l398 N397 N398q
  refine own_k T398 744 [(.double (stp (FP.i2d w2) (stp (FP.i2d w1) (FP.i2d w0))))] (fun t_ k_ => st398.trans k_) ?_
  refine o_aload 746 X398 hx (hb hby at_744) rfl rfl rfl ?_
  refine o_iload 748 X398 hx (hb hby at_746) rfl rfl ?_
  refine o_iconst 749 1 X398 hx (hb hby at_748) rfl rfl ?_
  refine own_j 750 [.int 2, .ref t4, (.double (stp (FP.i2d w2) (stp (FP.i2d w1) (FP.i2d w0))))] (fun t_ k_ => XS.isub X398.here hx rfl (hb hby at_749) rfl k_) ?_
  obtain ⟨cl399, Ar399, q399, S399, Nn399, H399, G399⟩ := id A_t4
  have hin399 : ¬ ((2 : Int32) < 0 ∨ cl399.slots.size ≤ ((2 : Int32)).toNatClampNeg) := inb_of S399 ⟨by decide, by decide⟩
  refine own_j 751 [.long 16, (.double (stp (FP.i2d w2) (stp (FP.i2d w1) (FP.i2d w0))))] (fun t_ k_ => X398.laload hx (j := (2 : Int32)) (v := (.long 16)) (by rw [e398]; exact Ar399.1) (State.isArrayOf_alike hZ.alike Ar399.2.1) Ar399.2.2 hin399 (H399.at hin399 rfl) (g := (mkF mM 750 #[.val (.int u0), .val (.long u1), .second, .val (.long u2), .second, .val (.long u3), .second, .val (.int 3), .val (.ref vv), .val (.ref t3), .val (.ref t4), .val (.ref aa), .val (.int 3), .val (.ref p382), .val (.int 0), .val (.long (((((((((((9 : Int64) * ((w0).toInt64)) + (((3 : Int64) * (1 : Int64)) * (w1).toInt64)) + (((1 : Int64) * (4 : Int64)) * (w2).toInt64)) + (0 : Int64)) + (0 : Int64)) + (0 : Int64)) + (0 : Int64)) + (0 : Int64)) + (0 : Int64)) + (0 : Int64))), .second] [.int 2, .ref t4, (.double (stp (FP.i2d w2) (stp (FP.i2d w1) (FP.i2d w0))))])) rfl rfl (hb hby at_750) t_ k_) ?_
  refine own_j 752 [(.double (FP.l2d (16 : Int64))), (.double (stp (FP.i2d w2) (stp (FP.i2d w1) (FP.i2d w0))))] (fun t_ k_ => XS.l2dS X398.here hx rfl (hb hby at_751) rfl rfl k_) ?_
  have av0 : Av (FP.i2d w0) w0.toInt 0 (32768 * 1) := own_av0 bl0 bu0
  obtain ⟨-, -, -, av1⟩ := own_stp (P := 1) bl1 bu1 av0 (by decide) (by decide) (by decide) (by decide)
  have av1 : Av (stp (FP.i2d w1) (FP.i2d w0)) (1 * w1.toInt + 3 * w0.toInt) 1 (32768 * 4) := av1
  obtain ⟨-, -, -, av2⟩ := own_stp (P := 4) bl2 bu2 av1 (by decide) (by decide) (by decide) (by decide)
  have av2 : Av (stp (FP.i2d w2) (stp (FP.i2d w1) (FP.i2d w0))) (4 * w2.toInt + 3 * (1 * w1.toInt + 3 * w0.toInt)) 2 (32768 * 16) := av2
  have sm1 := own_Lmul (x := w0) (c := 9) (C := 9) (by decide) (by decide) (by decide) bl0 bu0
  have tm2 := own_Lmul (x := w1) (c := (3 : Int64) * (1 : Int64)) (C := 3) (by decide) (by decide) (by decide) bl1 bu1
  have sm2 := own_Ladd sm1 tm2 (by omega) (by omega) (by omega) (by omega)
  have tm3 := own_Lmul (x := w2) (c := (1 : Int64) * (4 : Int64)) (C := 4) (by decide) (by decide) (by decide) bl2 bu2
  have sm3 := own_Ladd sm2 tm3 (by omega) (by omega) (by omega) (by omega)
  have tm4 : (0 : Int64).toInt = 0 := by decide
  have sm4 := own_Ladd sm3 tm4 (by omega) (by omega) (by omega) (by omega)
  have tm5 : (0 : Int64).toInt = 0 := by decide
  have sm5 := own_Ladd sm4 tm5 (by omega) (by omega) (by omega) (by omega)
  have tm6 : (0 : Int64).toInt = 0 := by decide
  have sm6 := own_Ladd sm5 tm6 (by omega) (by omega) (by omega) (by omega)
  have tm7 : (0 : Int64).toInt = 0 := by decide
  have sm7 := own_Ladd sm6 tm7 (by omega) (by omega) (by omega) (by omega)
  have tm8 : (0 : Int64).toInt = 0 := by decide
  have sm8 := own_Ladd sm7 tm8 (by omega) (by omega) (by omega) (by omega)
  have tm9 : (0 : Int64).toInt = 0 := by decide
  have sm9 := own_Ladd sm8 tm9 (by omega) (by omega) (by omega) (by omega)
  have tm10 : (0 : Int64).toInt = 0 := by decide
  have sm10 := own_Ladd sm9 tm10 (by omega) (by omega) (by omega) (by omega)
  have hs : ((((((((((((9 : Int64) * ((w0).toInt64)) + (((3 : Int64) * (1 : Int64)) * (w1).toInt64)) + (((1 : Int64) * (4 : Int64)) * (w2).toInt64)) + (0 : Int64)) + (0 : Int64)) + (0 : Int64)) + (0 : Int64)) + (0 : Int64)) + (0 : Int64)) + (0 : Int64))).toInt = (4 * w2.toInt + 3 * (1 * w1.toInt + 3 * w0.toInt)) := sm10.trans (by omega)
  obtain ⟨nl, cl⟩ := own_last (p := 16) av2 (by decide) (by decide) (by decide) (by decide) (by decide) hs
  refine own_j 753 [(.double (FP.dmul (stp (FP.i2d w2) (stp (FP.i2d w1) (FP.i2d w0))) (FP.l2d (16 : Int64))))] (fun t_ k_ => XS.dmulS X398.here hx rfl (hb hby at_752) rfl nl rfl k_) ?_
  refine o_lload 755 X398 hx (hb hby at_753) rfl rfl ?_
  refine own_j 756 [(.double (FP.l2d (((((((((((9 : Int64) * ((w0).toInt64)) + (((3 : Int64) * (1 : Int64)) * (w1).toInt64)) + (((1 : Int64) * (4 : Int64)) * (w2).toInt64)) + (0 : Int64)) + (0 : Int64)) + (0 : Int64)) + (0 : Int64)) + (0 : Int64)) + (0 : Int64)) + (0 : Int64)))), (.double (FP.dmul (stp (FP.i2d w2) (stp (FP.i2d w1) (FP.i2d w0))) (FP.l2d (16 : Int64))))] (fun t_ k_ => XS.l2dS X398.here hx rfl (hb hby at_755) rfl rfl k_) ?_
  refine own_j 757 [.int 0] (fun t_ k_ => XS.dcmpS X398.here hx rfl (hb hby at_756) rfl (cl _) k_) ?_
  refine o_ifNo 760 X398 hx (hb hby at_757) ((if0 _ _).trans (teq (by decide : ((0 : Int32) = (0 : Int32)))).2) rfl ?_
  refine o_iconst 761 1 X398 hx (hb hby at_760) rfl rfl ?_
  refine o_goto 765 X398 hx (hb hby at_761) (by decide) ?_
  exact own_retN X398 hx hlk (t := .boolean) hret (by simp) (hb hby at_765) ⟨rfl, N398⟩ (by decide) (by decide)
theorem J278_4 (hw : own_tb a0 Z) (X0 : Stand pP lL eE room_1 sS mM args below meth cC T0 locs 5 46) (hx : pP.tables.exec = Jvm.exec) (hZ : Z.Warmed39 sS.vm) (hby : cC.code = code) (hml : cC.maxLocals = 17) (hown : sS.vm.findClass "com/example/gleanwork/gleanwork/schedule/RecentAverageAddPinLaw" = some mM.cls) (hlk : meth.locks = false) (hret : meth.sig.returnType = ret) (e0 : T0.heap = h0) (N0 : Fr n0 locs) (u0 : Int32) (u1 : Int64) (u2 : Int64) (u3 : Int64) (w0 : Int32) (w1 : Int32) (w2 : Int32) (w3 : Int32) (w4 : Int32) (w5 : Int32) (w6 : Int32) (w7 : Int32) (w8 : Int32) (w9 : Int32) (w10 : Int32) (w11 : Int32) (vv : Addr) (kv : ClassId) (t3 : Addr) (k3 : ClassId) (t4 : Addr) (k4 : ClassId) (aa : Addr) (dd : Addr) (kd : ClassId) (em : Addr) (O : Old Z n0 h0) (Zn : n0 ≤ h0.size) (g_aa : n0 ≤ aa) (g_dd : n0 ≤ dd) (A_vv : Arv Z h0 vv kv .int 12 [.int w0, .int w1, .int w2, .int w3, .int w4, .int w5, .int w6, .int w7, .int w8, .int w9, .int w10, .int w11] (.int 0)) (A_t3 : Arv Z h0 t3 k3 .long 10 [.long 1, .long 3, .long 9, .long 27, .long 81, .long 243, .long 729, .long 2187, .long 6561, .long 19683] (.long 0)) (A_t4 : Arv Z h0 t4 k4 .long 10 [.long 1, .long 4, .long 16, .long 64, .long 256, .long 1024, .long 4096, .long 16384, .long 65536, .long 262144] (.long 0)) (nq0 : vv ≠ aa) (nq1 : vv ≠ dd) (nq2 : t3 ≠ aa) (nq3 : t3 ≠ dd) (nq4 : t4 ≠ aa) (nq5 : t4 ≠ dd) (nq6 : aa ≠ dd) (ra : Ra Z h0 aa dd kd 0 0 0 [.double 0, .double 0, .double 0, .double 0, .double 0, .double 0, .double 0, .double 0, .double 0, .double 0]) (S_em : Sta Z Z.heap "java/util/OptionalDouble" "EMPTY" "Ljava/util/OptionalDouble;" (.ref em)) (E_em : Exa Z Z.heap em "java/util/OptionalDouble") (F_em : Fld Z Z.heap em "java/util/OptionalDouble" "isPresent" "Z" (.int 0)) (bl0 : -32768 ≤ w0.toInt) (bl1 : -32768 ≤ w1.toInt) (bl2 : -32768 ≤ w2.toInt) (bl3 : -32768 ≤ w3.toInt) (bl4 : -32768 ≤ w4.toInt) (bl5 : -32768 ≤ w5.toInt) (bl6 : -32768 ≤ w6.toInt) (bl7 : -32768 ≤ w7.toInt) (bl8 : -32768 ≤ w8.toInt) (bl9 : -32768 ≤ w9.toInt) (bl10 : -32768 ≤ w10.toInt) (bl11 : -32768 ≤ w11.toInt) (bu0 : w0.toInt ≤ 32768) (bu1 : w1.toInt ≤ 32768) (bu2 : w2.toInt ≤ 32768) (bu3 : w3.toInt ≤ 32768) (bu4 : w4.toInt ≤ 32768) (bu5 : w5.toInt ≤ 32768) (bu6 : w6.toInt ≤ 32768) (bu7 : w7.toInt ≤ 32768) (bu8 : w8.toInt ≤ 32768) (bu9 : w9.toInt ≤ 32768) (bu10 : w10.toInt ≤ 32768) (bu11 : w11.toInt ≤ 32768) :
    own_Go pP eE below sS (QLaw n0) 24 192 (T0.setTop (mkF mM 278 #[.val (.int u0), .val (.long u1), .second, .val (.long u2), .second, .val (.long u3), .second, .val (.int 4), .val (.ref vv), .val (.ref t3), .val (.ref t4), .val (.ref aa), .unset, .unset, .unset, .unset, .unset] [])) := by
  refine SA1 hw X0 hx hZ hby hml hown hlk hret e0 N0 u0 u1 u2 u3 4 w0 w1 w2 w3 w4 w5 w6 w7 w8 w9 w10 w11 vv kv t3 k3 t4 k4 aa dd kd O Zn g_aa g_dd A_vv A_t3 A_t4 nq0 nq1 nq2 nq3 nq4 nq5 nq6 ra bl0 bl1 bl2 bl3 bl4 bl5 bl6 bl7 bl8 bl9 bl10 bl11 bu0 bu1 bu2 bu3 bu4 bu5 bu6 bu7 bu8 bu9 bu10 bu11 (by decide) (fun T400 L400 h400 X400 e400 N400 O Zn A_vv A_t3 A_t4 ra => ?_)
  refine SA2 hw X400 hx hZ hby hml hown hlk hret e400 N400 u0 u1 u2 u3 4 w0 w1 w2 w3 w4 w5 w6 w7 w8 w9 w10 w11 vv kv t3 k3 t4 k4 aa dd kd O Zn g_aa g_dd A_vv A_t3 A_t4 nq0 nq1 nq2 nq3 nq4 nq5 nq6 ra bl0 bl1 bl2 bl3 bl4 bl5 bl6 bl7 bl8 bl9 bl10 bl11 bu0 bu1 bu2 bu3 bu4 bu5 bu6 bu7 bu8 bu9 bu10 bu11 (by decide) (fun T401 L401 h401 X401 e401 N401 O Zn A_vv A_t3 A_t4 ra => ?_)
  refine SA3 hw X401 hx hZ hby hml hown hlk hret e401 N401 u0 u1 u2 u3 4 w0 w1 w2 w3 w4 w5 w6 w7 w8 w9 w10 w11 vv kv t3 k3 t4 k4 aa dd kd O Zn g_aa g_dd A_vv A_t3 A_t4 nq0 nq1 nq2 nq3 nq4 nq5 nq6 ra bl0 bl1 bl2 bl3 bl4 bl5 bl6 bl7 bl8 bl9 bl10 bl11 bu0 bu1 bu2 bu3 bu4 bu5 bu6 bu7 bu8 bu9 bu10 bu11 (by decide) (fun T402 L402 h402 X402 e402 N402 O Zn A_vv A_t3 A_t4 ra => ?_)
  refine SA4 hw X402 hx hZ hby hml hown hlk hret e402 N402 u0 u1 u2 u3 4 w0 w1 w2 w3 w4 w5 w6 w7 w8 w9 w10 w11 vv kv t3 k3 t4 k4 aa dd kd O Zn g_aa g_dd A_vv A_t3 A_t4 nq0 nq1 nq2 nq3 nq4 nq5 nq6 ra bl0 bl1 bl2 bl3 bl4 bl5 bl6 bl7 bl8 bl9 bl10 bl11 bu0 bu1 bu2 bu3 bu4 bu5 bu6 bu7 bu8 bu9 bu10 bu11 (by decide) (fun T403 L403 h403 X403 e403 N403 O Zn A_vv A_t3 A_t4 ra => ?_)
  refine o_iload 344 X403 hx (hb hby at_342) rfl rfl ?_
  refine o_iconst 345 5 X403 hx (hb hby at_344) rfl rfl ?_
  refine o_icmpYes 358 X403 hx (hb hby at_345) (tlt (by decide : ((4 : Int32) < (5 : Int32)))).1 (by decide) ?_
  refine o_iload 360 X403 hx (hb hby at_358) rfl rfl ?_
  refine o_bipush 362 6 X403 hx (hb hby at_360) rfl rfl ?_
  refine o_icmpYes 375 X403 hx (hb hby at_362) (tlt (by decide : ((4 : Int32) < (6 : Int32)))).1 (by decide) ?_
  refine o_iload 377 X403 hx (hb hby at_375) rfl rfl ?_
  refine o_bipush 379 7 X403 hx (hb hby at_377) rfl rfl ?_
  refine o_icmpYes 393 X403 hx (hb hby at_379) (tlt (by decide : ((4 : Int32) < (7 : Int32)))).1 (by decide) ?_
  refine o_iload 395 X403 hx (hb hby at_393) rfl rfl ?_
  refine o_bipush 397 8 X403 hx (hb hby at_395) rfl rfl ?_
  refine o_icmpYes 411 X403 hx (hb hby at_397) (tlt (by decide : ((4 : Int32) < (8 : Int32)))).1 (by decide) ?_
  refine o_iload 413 X403 hx (hb hby at_411) rfl rfl ?_
  refine o_bipush 415 9 X403 hx (hb hby at_413) rfl rfl ?_
  refine o_icmpYes 429 X403 hx (hb hby at_415) (tlt (by decide : ((4 : Int32) < (9 : Int32)))).1 (by decide) ?_
  refine o_iload 431 X403 hx (hb hby at_429) rfl rfl ?_
  refine o_bipush 433 10 X403 hx (hb hby at_431) rfl rfl ?_
  refine o_icmpYes 447 X403 hx (hb hby at_433) (tlt (by decide : ((4 : Int32) < (10 : Int32)))).1 (by decide) ?_
  refine o_iload 449 X403 hx (hb hby at_447) rfl rfl ?_
  refine o_bipush 451 11 X403 hx (hb hby at_449) rfl rfl ?_
  refine o_icmpYes 465 X403 hx (hb hby at_451) (tlt (by decide : ((4 : Int32) < (11 : Int32)))).1 (by decide) ?_
  refine o_iload 467 X403 hx (hb hby at_465) rfl rfl ?_
  refine o_bipush 469 12 X403 hx (hb hby at_467) rfl rfl ?_
  refine o_icmpYes 483 X403 hx (hb hby at_469) (tlt (by decide : ((4 : Int32) < (12 : Int32)))).1 (by decide) ?_
  refine o_iload 485 X403 hx (hb hby at_483) rfl rfl ?_
  refine o_bipush 487 10 X403 hx (hb hby at_485) rfl rfl ?_
  obtain ⟨_, _, ⟨T404, L404, k404, n404⟩, -, X404, ⟨Lc404, hQ404, l404, y404, z404⟩, st404⟩ := Jvm.LawKit.callS X403 hx (y := yn3) hown (mvT hZ (ow hw 37 rfl)) (mvT hZ (ow hw 38 rfl)) (mvT hZ (ow hw 39 rfl)) (mvT hZ (ow hw 40 rfl)) (by decide) (backOf (W := 0) (rmM4 lL Z a0 hw []  h403 n0 ) hZ (ow hw 40 rfl) (ow hw 39 rfl) (by decide) (by decide)) (g := (mkF mM 487 #[.val (.int u0), .val (.long u1), .second, .val (.long u2), .second, .val (.long u3), .second, .val (.int 4), .val (.ref vv), .val (.ref t3), .val (.ref t4), .val (.ref aa), .unset, .unset, .unset, .unset, .unset] [.int 10, .int 4])) rfl (by rw [hml]; rfl) (argsL := [.int 4, .int 10]) (rest := []) (lenOf pd__28II_29I rfl) rfl (by show 2 * 0 + _ ≤ _; exact Nat.le_of_eq rfl) (hb hby at_487) (fun _ _ => ⟨rfl, e403, (by decide : 5 + 0 ≤ _), (by decide : 46 + 0 ≤ _)⟩)
  dsimp only [Pt.U, Pt.locs, Pt.cells, Pt.slots] at X404 l404 y404 z404 st404 hQ404
  have X404 := own_cs X404 5 46 y404 z404
  obtain ⟨rfl, N404q, e404⟩ := hQ404
  have N404 := own_N l404 N403 N404q
  refine own_k T404 490 [.int 4] st404 ?_
  let Lv405 : Array Slot := #[.val (.int u0), .val (.long u1), .second, .val (.long u2), .second, .val (.long u3), .second, .val (.int 4), .val (.ref vv), .val (.ref t3), .val (.ref t4), .val (.ref aa), .val (.int 4), .unset, .unset, .unset, .unset]
  refine own_st (A := T404.setTop (mkF mM 492 Lv405 [])) (fun t_ k_ => XS.istore X404.here hx rfl (hb hby at_490) rfl (l' := Lv405) rfl k_) ?_
  refine o_aload 494 X404 hx (hb hby at_492) rfl rfl rfl ?_
  obtain ⟨cq406, kq406, q406a, q406b, q406c⟩ := isOf hZ e404 ra.1
  obtain ⟨_, _, ⟨T406, L406, k406, n406⟩, -, X406, ⟨Lc406, hQ406, l406, y406, z406⟩, st406⟩ := X404.virtualBack hx (y := yn4) (z := yn4) hown (mvT hZ (ow hw 41 rfl)) (mvT hZ (ow hw 42 rfl)) (notFace_of_selects (args := #[]) (mvT hZ (ow hw 44 rfl))) (mvT hZ (ow hw 44 rfl)) (mvT hZ (ow hw 43 rfl)) (by decide) (backOf (W := 0) (rmC lL Z a0 hw [] aa 4 h403 n0 ra.2.2.1) hZ (ow hw 45 rfl) (ow hw 27 rfl) (by decide) (by decide)) q406a q406c (g := (mkF mM 494 Lv405 [.ref aa])) rfl (by rw [hml]; rfl) (Steps.refl _) (argsL := []) (rest := []) (lenOf pd__28_29I rfl) rfl (by show 2 * 0 + _ ≤ _; exact Nat.le_of_eq rfl) (hb hby at_494) (fun _ _ => ⟨rfl, e404, (by decide : 5 + 0 ≤ _), (by decide : 46 + 0 ≤ _)⟩)
  dsimp only [Pt.U, Pt.locs, Pt.cells, Pt.slots] at X406 l406 y406 z406 st406 hQ406
  have X406 := own_cs X406 5 46 y406 z406
  obtain ⟨rfl, N406q, e406⟩ := hQ406
  have N406 := own_N l406 N404 N406q
  refine own_k T406 497 [.int 4] (fun t_ k_ => st406.trans k_) ?_
  refine o_iload 499 X406 hx (hb hby at_497) rfl rfl ?_
  refine o_icmpYes 504 X406 hx (hb hby at_499) (teq (by decide : ((4 : Int32) = (4 : Int32)))).1 (by decide) ?_
  refine o_aload 506 X406 hx (hb hby at_504) rfl rfl rfl ?_
  obtain ⟨cq407, kq407, q407a, q407b, q407c⟩ := isOf hZ e406 ra.1
  obtain ⟨_, _, ⟨T407, L407, k407, n407⟩, -, X407, ⟨Lc407, hQ407, l407, y407, z407⟩, st407⟩ := X406.virtualBack hx (y := yn8) (z := yn8) hown (mvT hZ (ow hw 48 rfl)) (mvT hZ (ow hw 49 rfl)) (notFace_of_selects (args := #[]) (mvT hZ (ow hw 51 rfl))) (mvT hZ (ow hw 51 rfl)) (mvT hZ (ow hw 50 rfl)) (by decide) (backOf (W := 0) (rmV lL Z a0 hw [] aa 4 (stp (FP.i2d w3) (stp (FP.i2d w2) (stp (FP.i2d w1) (FP.i2d w0)))) h403 n0 Zn ra.2.2.1 ra.2.2.2.2.1 (by decide)) hZ (ow hw 52 rfl) (ow hw 27 rfl) (by decide) (by decide)) q407a q407c (g := (mkF mM 506 Lv405 [.ref aa])) rfl (by rw [hml]; rfl) (Steps.refl _) (argsL := []) (rest := []) (lenOf pd__28_29Ljava_2futil_2fOptionalDouble_3b rfl) rfl (by show 2 * 0 + _ ≤ _; exact Nat.le_of_eq rfl) (hb hby at_506) (fun _ _ => ⟨rfl, e406, (by decide : 5 + 1 ≤ _), (by decide : 46 + 2 ≤ _)⟩)
  dsimp only [Pt.U, Pt.locs, Pt.cells, Pt.slots] at X407 l407 y407 z407 st407 hQ407
  have X407 := own_cs X407 6 48 y407 z407
  obtain ⟨p407, rfl, N407q, E407, od⟩ := hQ407
  have N407 := own_N l407 N406 N407q
  have e407 : T407.heap = T407.heap := rfl
  refine own_k T407 509 [.ref p407] (fun t_ k_ => st407.trans k_) ?_
  have O := O.ext E407
  have A_vv := A_vv.ext E407
  have A_t3 := A_t3.ext E407
  have A_t4 := A_t4.ext E407
  have Zn := Nat.le_trans Zn E407.1
  let Lv408 : Array Slot := #[.val (.int u0), .val (.long u1), .second, .val (.long u2), .second, .val (.long u3), .second, .val (.int 4), .val (.ref vv), .val (.ref t3), .val (.ref t4), .val (.ref aa), .val (.int 4), .val (.ref p407), .unset, .unset, .unset]
  refine own_st (A := T407.setTop (mkF mM 511 Lv408 [])) (fun t_ k_ => XS.astore X407.here hx rfl (hb hby at_509) rfl rfl (l' := Lv408) rfl k_) ?_
  refine o_iload 513 X407 hx (hb hby at_511) rfl rfl ?_
  refine o_ifYes 530 X407 hx (hb hby at_513) ((if0 _ _).trans (feq (by decide : ¬ ((4 : Int32) = (0 : Int32)))).2) (by decide) ?_
  refine o_aload 532 X407 hx (hb hby at_530) rfl rfl rfl ?_
  obtain ⟨cq409, kq409, q409a, q409b, q409c⟩ := isOf hZ e407 od.1
  obtain ⟨_, _, ⟨T409, L409, k409, n409⟩, -, X409, ⟨Lc409, hQ409, l409, y409, z409⟩, st409⟩ := X407.virtualBack hx (y := yn9) (z := yn9) hown (mvT hZ (ow hw 58 rfl)) (mvT hZ (ow hw 59 rfl)) (notFace_of_selects (args := #[]) (mvT hZ (ow hw 61 rfl))) (mvT hZ (ow hw 61 rfl)) (mvT hZ (ow hw 60 rfl)) (by decide) (backOf (W := 0) (rmP1 lL Z a0 hw [] p407 T407.heap n0 od.2.1) hZ (ow hw 62 rfl) (ow hw 55 rfl) (by decide) (by decide)) q409a q409c (g := (mkF mM 532 Lv408 [.ref p407])) rfl (by rw [hml]; rfl) (Steps.refl _) (argsL := []) (rest := []) (lenOf pd__28_29Z rfl) rfl (by show 2 * 0 + _ ≤ _; exact Nat.le_of_eq rfl) (hb hby at_532) (fun _ _ => ⟨rfl, e407, (by decide : 6 + 0 ≤ _), (by decide : 48 + 0 ≤ _)⟩)
  dsimp only [Pt.U, Pt.locs, Pt.cells, Pt.slots] at X409 l409 y409 z409 st409 hQ409
  have X409 := own_cs X409 6 48 y409 z409
  obtain ⟨rfl, N409q, e409⟩ := hQ409
  have N409 := own_N l409 N407 N409q
  refine own_k T409 535 [.int 1] (fun t_ k_ => st409.trans k_) ?_
  refine o_ifYes 540 X409 hx (hb hby at_535) ((if0 _ _).trans (feq (by decide : ¬ ((1 : Int32) = (0 : Int32)))).2) (by decide) ?_
  refine o_iload 542 X409 hx (hb hby at_540) rfl rfl ?_
  refine o_iload 544 X409 hx (hb hby at_542) rfl rfl ?_
  refine own_j 545 [.int 0] (fun t_ k_ => XS.isub X409.here hx rfl (hb hby at_544) rfl k_) ?_
  let Lv410 : Array Slot := #[.val (.int u0), .val (.long u1), .second, .val (.long u2), .second, .val (.long u3), .second, .val (.int 4), .val (.ref vv), .val (.ref t3), .val (.ref t4), .val (.ref aa), .val (.int 4), .val (.ref p407), .val (.int 0), .unset, .unset]
  refine own_st (A := T409.setTop (mkF mM 547 Lv410 [])) (fun t_ k_ => XS.istore X409.here hx rfl (hb hby at_545) rfl (l' := Lv410) rfl k_) ?_
  refine o_aload 549 X409 hx (hb hby at_547) rfl rfl rfl ?_
  refine o_iload 551 X409 hx (hb hby at_549) rfl rfl ?_
  refine o_iconst 552 1 X409 hx (hb hby at_551) rfl rfl ?_
  refine own_j 553 [.int 3, .ref t3] (fun t_ k_ => XS.isub X409.here hx rfl (hb hby at_552) rfl k_) ?_
  obtain ⟨cl411, Ar411, q411, S411, Nn411, H411, G411⟩ := id A_t3
  have hin411 : ¬ ((3 : Int32) < 0 ∨ cl411.slots.size ≤ ((3 : Int32)).toNatClampNeg) := inb_of S411 ⟨by decide, by decide⟩
  refine own_j 554 [.long 27] (fun t_ k_ => X409.laload hx (j := (3 : Int32)) (v := (.long 27)) (by rw [e409]; exact Ar411.1) (State.isArrayOf_alike hZ.alike Ar411.2.1) Ar411.2.2 hin411 (H411.at hin411 rfl) (g := (mkF mM 553 Lv410 [.int 3, .ref t3])) rfl rfl (hb hby at_553) t_ k_) ?_
  refine o_aload 556 X409 hx (hb hby at_554) rfl rfl rfl ?_
  refine o_iload 558 X409 hx (hb hby at_556) rfl rfl ?_
  obtain ⟨cl412, Ar412, q412, S412, Nn412, H412, G412⟩ := id A_vv
  have hin412 : ¬ ((0 : Int32) < 0 ∨ cl412.slots.size ≤ ((0 : Int32)).toNatClampNeg) := inb_of S412 ⟨by decide, by decide⟩
  refine own_j 559 [.int w0, .long 27] (fun t_ k_ => X409.iaload hx (j := (0 : Int32)) (v := (.int w0)) (by rw [e409]; exact Ar412.1) (State.isArrayOf_alike hZ.alike Ar412.2.1) Ar412.2.2 hin412 (H412.at hin412 rfl) (g := (mkF mM 558 Lv410 [.int 0, .ref vv, .long 27])) rfl rfl (hb hby at_558) t_ k_) ?_
  refine own_j 560 [(.long ((w0).toInt64)), .long 27] (fun t_ k_ => XS.i2l X409.here hx rfl (hb hby at_559) rfl k_) ?_
  refine own_j 561 [(.long ((27 : Int64) * ((w0).toInt64)))] (fun t_ k_ => XS.lmul X409.here hx rfl (hb hby at_560) rfl k_) ?_
  let Lv413 : Array Slot := #[.val (.int u0), .val (.long u1), .second, .val (.long u2), .second, .val (.long u3), .second, .val (.int 4), .val (.ref vv), .val (.ref t3), .val (.ref t4), .val (.ref aa), .val (.int 4), .val (.ref p407), .val (.int 0), .val (.long ((27 : Int64) * ((w0).toInt64))), .second]
  refine own_st (A := T409.setTop (mkF mM 563 Lv413 [])) (fun t_ k_ => XS.lstore X409.here hx rfl (hb hby at_561) rfl (l' := Lv413) rfl k_) ?_
  refine ST2 hw X409 hx hZ hby hml hown hlk hret e409 N409 u0 u1 u2 u3 4 vv kv t3 k3 t4 k4 aa 4 p407 0 ((27 : Int64) * ((w0).toInt64)) _ _ _ 9 1 w1 A_vv A_t3 A_t4 (by decide) (by decide) (by decide) (by decide) rfl rfl rfl (fun T414 L414 X414 e414 N414 => ?_)
  refine ST3 hw X414 hx hZ hby hml hown hlk hret e414 N414 u0 u1 u2 u3 4 vv kv t3 k3 t4 k4 aa 4 p407 0 (((27 : Int64) * ((w0).toInt64)) + (((9 : Int64) * (1 : Int64)) * (w1).toInt64)) _ _ _ 3 4 w2 A_vv A_t3 A_t4 (by decide) (by decide) (by decide) (by decide) rfl rfl rfl (fun T415 L415 X415 e415 N415 => ?_)
  refine ST4 hw X415 hx hZ hby hml hown hlk hret e415 N415 u0 u1 u2 u3 4 vv kv t3 k3 t4 k4 aa 4 p407 0 ((((27 : Int64) * ((w0).toInt64)) + (((9 : Int64) * (1 : Int64)) * (w1).toInt64)) + (((3 : Int64) * (4 : Int64)) * (w2).toInt64)) _ _ _ 1 16 w3 A_vv A_t3 A_t4 (by decide) (by decide) (by decide) (by decide) rfl rfl rfl (fun T416 L416 X416 e416 N416 => ?_)
  refine SZ5 hw X416 hx hZ hby hml hown hlk hret e416 N416 u0 u1 u2 u3 4 vv kv t3 k3 t4 k4 aa 4 p407 0 (((((27 : Int64) * ((w0).toInt64)) + (((9 : Int64) * (1 : Int64)) * (w1).toInt64)) + (((3 : Int64) * (4 : Int64)) * (w2).toInt64)) + (((1 : Int64) * (16 : Int64)) * (w3).toInt64)) (by decide) (fun T417 L417 X417 e417 N417 => ?_)
  refine SZ6 hw X417 hx hZ hby hml hown hlk hret e417 N417 u0 u1 u2 u3 4 vv kv t3 k3 t4 k4 aa 4 p407 0 ((((((27 : Int64) * ((w0).toInt64)) + (((9 : Int64) * (1 : Int64)) * (w1).toInt64)) + (((3 : Int64) * (4 : Int64)) * (w2).toInt64)) + (((1 : Int64) * (16 : Int64)) * (w3).toInt64)) + (0 : Int64)) (by decide) (fun T418 L418 X418 e418 N418 => ?_)
  refine SZ7 hw X418 hx hZ hby hml hown hlk hret e418 N418 u0 u1 u2 u3 4 vv kv t3 k3 t4 k4 aa 4 p407 0 (((((((27 : Int64) * ((w0).toInt64)) + (((9 : Int64) * (1 : Int64)) * (w1).toInt64)) + (((3 : Int64) * (4 : Int64)) * (w2).toInt64)) + (((1 : Int64) * (16 : Int64)) * (w3).toInt64)) + (0 : Int64)) + (0 : Int64)) (by decide) (fun T419 L419 X419 e419 N419 => ?_)
  refine SZ8 hw X419 hx hZ hby hml hown hlk hret e419 N419 u0 u1 u2 u3 4 vv kv t3 k3 t4 k4 aa 4 p407 0 ((((((((27 : Int64) * ((w0).toInt64)) + (((9 : Int64) * (1 : Int64)) * (w1).toInt64)) + (((3 : Int64) * (4 : Int64)) * (w2).toInt64)) + (((1 : Int64) * (16 : Int64)) * (w3).toInt64)) + (0 : Int64)) + (0 : Int64)) + (0 : Int64)) (by decide) (fun T420 L420 X420 e420 N420 => ?_)
  refine SZ9 hw X420 hx hZ hby hml hown hlk hret e420 N420 u0 u1 u2 u3 4 vv kv t3 k3 t4 k4 aa 4 p407 0 (((((((((27 : Int64) * ((w0).toInt64)) + (((9 : Int64) * (1 : Int64)) * (w1).toInt64)) + (((3 : Int64) * (4 : Int64)) * (w2).toInt64)) + (((1 : Int64) * (16 : Int64)) * (w3).toInt64)) + (0 : Int64)) + (0 : Int64)) + (0 : Int64)) + (0 : Int64)) (by decide) (fun T421 L421 X421 e421 N421 => ?_)
  refine SZ10 hw X421 hx hZ hby hml hown hlk hret e421 N421 u0 u1 u2 u3 4 vv kv t3 k3 t4 k4 aa 4 p407 0 ((((((((((27 : Int64) * ((w0).toInt64)) + (((9 : Int64) * (1 : Int64)) * (w1).toInt64)) + (((3 : Int64) * (4 : Int64)) * (w2).toInt64)) + (((1 : Int64) * (16 : Int64)) * (w3).toInt64)) + (0 : Int64)) + (0 : Int64)) + (0 : Int64)) + (0 : Int64)) + (0 : Int64)) (by decide) (fun T422 L422 X422 e422 N422 => ?_)
  refine o_aload 741 X422 hx (hb hby at_739) rfl rfl rfl ?_
  obtain ⟨cq423, kq423, q423a, q423b, q423c⟩ := isOf hZ e422 od.1
  obtain ⟨_, _, ⟨T423, L423, k423, n423⟩, -, X423, ⟨Lc423, hQ423, l423, y423, z423⟩, st423⟩ := X422.virtualBack hx (y := yn10) (z := yn10) hown (mvT hZ (ow hw 91 rfl)) (mvT hZ (ow hw 92 rfl)) (notFace_of_selects (args := #[]) (mvT hZ (ow hw 94 rfl))) (mvT hZ (ow hw 94 rfl)) (mvT hZ (ow hw 93 rfl)) (by decide) (backOf (W := 0) (rmG lL Z a0 hw [] p407 (stp (FP.i2d w3) (stp (FP.i2d w2) (stp (FP.i2d w1) (FP.i2d w0)))) T407.heap n0 od) hZ (ow hw 95 rfl) (ow hw 55 rfl) (by decide) (by decide)) q423a q423c (g := (mkF mM 741 #[.val (.int u0), .val (.long u1), .second, .val (.long u2), .second, .val (.long u3), .second, .val (.int 4), .val (.ref vv), .val (.ref t3), .val (.ref t4), .val (.ref aa), .val (.int 4), .val (.ref p407), .val (.int 0), .val (.long (((((((((((27 : Int64) * ((w0).toInt64)) + (((9 : Int64) * (1 : Int64)) * (w1).toInt64)) + (((3 : Int64) * (4 : Int64)) * (w2).toInt64)) + (((1 : Int64) * (16 : Int64)) * (w3).toInt64)) + (0 : Int64)) + (0 : Int64)) + (0 : Int64)) + (0 : Int64)) + (0 : Int64)) + (0 : Int64))), .second] [.ref p407])) rfl (by rw [hml]; rfl) (Steps.refl _) (argsL := []) (rest := []) (lenOf pd__28_29D rfl) rfl (by show 2 * 0 + _ ≤ _; exact Nat.le_of_eq rfl) (hb hby at_741) (fun _ _ => ⟨rfl, e422, (by decide : 6 + 0 ≤ _), (by decide : 48 + 0 ≤ _)⟩)
  dsimp only [Pt.U, Pt.locs, Pt.cells, Pt.slots] at X423 l423 y423 z423 st423 hQ423
  have X423 := own_cs X423 6 48 y423 z423
  obtain ⟨rfl, N423q, e423⟩ := hQ423
  have N423 := own_N l423 N422 N423q
  refine own_k T423 744 [(.double (stp (FP.i2d w3) (stp (FP.i2d w2) (stp (FP.i2d w1) (FP.i2d w0)))))] (fun t_ k_ => st423.trans k_) ?_
  refine o_aload 746 X423 hx (hb hby at_744) rfl rfl rfl ?_
  refine o_iload 748 X423 hx (hb hby at_746) rfl rfl ?_
  refine o_iconst 749 1 X423 hx (hb hby at_748) rfl rfl ?_
  refine own_j 750 [.int 3, .ref t4, (.double (stp (FP.i2d w3) (stp (FP.i2d w2) (stp (FP.i2d w1) (FP.i2d w0)))))] (fun t_ k_ => XS.isub X423.here hx rfl (hb hby at_749) rfl k_) ?_
  obtain ⟨cl424, Ar424, q424, S424, Nn424, H424, G424⟩ := id A_t4
  have hin424 : ¬ ((3 : Int32) < 0 ∨ cl424.slots.size ≤ ((3 : Int32)).toNatClampNeg) := inb_of S424 ⟨by decide, by decide⟩
  refine own_j 751 [.long 64, (.double (stp (FP.i2d w3) (stp (FP.i2d w2) (stp (FP.i2d w1) (FP.i2d w0)))))] (fun t_ k_ => X423.laload hx (j := (3 : Int32)) (v := (.long 64)) (by rw [e423]; exact Ar424.1) (State.isArrayOf_alike hZ.alike Ar424.2.1) Ar424.2.2 hin424 (H424.at hin424 rfl) (g := (mkF mM 750 #[.val (.int u0), .val (.long u1), .second, .val (.long u2), .second, .val (.long u3), .second, .val (.int 4), .val (.ref vv), .val (.ref t3), .val (.ref t4), .val (.ref aa), .val (.int 4), .val (.ref p407), .val (.int 0), .val (.long (((((((((((27 : Int64) * ((w0).toInt64)) + (((9 : Int64) * (1 : Int64)) * (w1).toInt64)) + (((3 : Int64) * (4 : Int64)) * (w2).toInt64)) + (((1 : Int64) * (16 : Int64)) * (w3).toInt64)) + (0 : Int64)) + (0 : Int64)) + (0 : Int64)) + (0 : Int64)) + (0 : Int64)) + (0 : Int64))), .second] [.int 3, .ref t4, (.double (stp (FP.i2d w3) (stp (FP.i2d w2) (stp (FP.i2d w1) (FP.i2d w0)))))])) rfl rfl (hb hby at_750) t_ k_) ?_
  refine own_j 752 [(.double (FP.l2d (64 : Int64))), (.double (stp (FP.i2d w3) (stp (FP.i2d w2) (stp (FP.i2d w1) (FP.i2d w0)))))] (fun t_ k_ => XS.l2dS X423.here hx rfl (hb hby at_751) rfl rfl k_) ?_
  have av0 : Av (FP.i2d w0) w0.toInt 0 (32768 * 1) := own_av0 bl0 bu0
  obtain ⟨-, -, -, av1⟩ := own_stp (P := 1) bl1 bu1 av0 (by decide) (by decide) (by decide) (by decide)
  have av1 : Av (stp (FP.i2d w1) (FP.i2d w0)) (1 * w1.toInt + 3 * w0.toInt) 1 (32768 * 4) := av1
  obtain ⟨-, -, -, av2⟩ := own_stp (P := 4) bl2 bu2 av1 (by decide) (by decide) (by decide) (by decide)
  have av2 : Av (stp (FP.i2d w2) (stp (FP.i2d w1) (FP.i2d w0))) (4 * w2.toInt + 3 * (1 * w1.toInt + 3 * w0.toInt)) 2 (32768 * 16) := av2
  obtain ⟨-, -, -, av3⟩ := own_stp (P := 16) bl3 bu3 av2 (by decide) (by decide) (by decide) (by decide)
  have av3 : Av (stp (FP.i2d w3) (stp (FP.i2d w2) (stp (FP.i2d w1) (FP.i2d w0)))) (16 * w3.toInt + 3 * (4 * w2.toInt + 3 * (1 * w1.toInt + 3 * w0.toInt))) 3 (32768 * 64) := av3
  have sm1 := own_Lmul (x := w0) (c := 27) (C := 27) (by decide) (by decide) (by decide) bl0 bu0
  have tm2 := own_Lmul (x := w1) (c := (9 : Int64) * (1 : Int64)) (C := 9) (by decide) (by decide) (by decide) bl1 bu1
  have sm2 := own_Ladd sm1 tm2 (by omega) (by omega) (by omega) (by omega)
  have tm3 := own_Lmul (x := w2) (c := (3 : Int64) * (4 : Int64)) (C := 12) (by decide) (by decide) (by decide) bl2 bu2
  have sm3 := own_Ladd sm2 tm3 (by omega) (by omega) (by omega) (by omega)
  have tm4 := own_Lmul (x := w3) (c := (1 : Int64) * (16 : Int64)) (C := 16) (by decide) (by decide) (by decide) bl3 bu3
  have sm4 := own_Ladd sm3 tm4 (by omega) (by omega) (by omega) (by omega)
  have tm5 : (0 : Int64).toInt = 0 := by decide
  have sm5 := own_Ladd sm4 tm5 (by omega) (by omega) (by omega) (by omega)
  have tm6 : (0 : Int64).toInt = 0 := by decide
  have sm6 := own_Ladd sm5 tm6 (by omega) (by omega) (by omega) (by omega)
  have tm7 : (0 : Int64).toInt = 0 := by decide
  have sm7 := own_Ladd sm6 tm7 (by omega) (by omega) (by omega) (by omega)
  have tm8 : (0 : Int64).toInt = 0 := by decide
  have sm8 := own_Ladd sm7 tm8 (by omega) (by omega) (by omega) (by omega)
  have tm9 : (0 : Int64).toInt = 0 := by decide
  have sm9 := own_Ladd sm8 tm9 (by omega) (by omega) (by omega) (by omega)
  have tm10 : (0 : Int64).toInt = 0 := by decide
  have sm10 := own_Ladd sm9 tm10 (by omega) (by omega) (by omega) (by omega)
  have hs : ((((((((((((27 : Int64) * ((w0).toInt64)) + (((9 : Int64) * (1 : Int64)) * (w1).toInt64)) + (((3 : Int64) * (4 : Int64)) * (w2).toInt64)) + (((1 : Int64) * (16 : Int64)) * (w3).toInt64)) + (0 : Int64)) + (0 : Int64)) + (0 : Int64)) + (0 : Int64)) + (0 : Int64)) + (0 : Int64))).toInt = (16 * w3.toInt + 3 * (4 * w2.toInt + 3 * (1 * w1.toInt + 3 * w0.toInt))) := sm10.trans (by omega)
  obtain ⟨nl, cl⟩ := own_last (p := 64) av3 (by decide) (by decide) (by decide) (by decide) (by decide) hs
  refine own_j 753 [(.double (FP.dmul (stp (FP.i2d w3) (stp (FP.i2d w2) (stp (FP.i2d w1) (FP.i2d w0)))) (FP.l2d (64 : Int64))))] (fun t_ k_ => XS.dmulS X423.here hx rfl (hb hby at_752) rfl nl rfl k_) ?_
  refine o_lload 755 X423 hx (hb hby at_753) rfl rfl ?_
  refine own_j 756 [(.double (FP.l2d (((((((((((27 : Int64) * ((w0).toInt64)) + (((9 : Int64) * (1 : Int64)) * (w1).toInt64)) + (((3 : Int64) * (4 : Int64)) * (w2).toInt64)) + (((1 : Int64) * (16 : Int64)) * (w3).toInt64)) + (0 : Int64)) + (0 : Int64)) + (0 : Int64)) + (0 : Int64)) + (0 : Int64)) + (0 : Int64)))), (.double (FP.dmul (stp (FP.i2d w3) (stp (FP.i2d w2) (stp (FP.i2d w1) (FP.i2d w0)))) (FP.l2d (64 : Int64))))] (fun t_ k_ => XS.l2dS X423.here hx rfl (hb hby at_755) rfl rfl k_) ?_
  refine own_j 757 [.int 0] (fun t_ k_ => XS.dcmpS X423.here hx rfl (hb hby at_756) rfl (cl _) k_) ?_
  refine o_ifNo 760 X423 hx (hb hby at_757) ((if0 _ _).trans (teq (by decide : ((0 : Int32) = (0 : Int32)))).2) rfl ?_
  refine o_iconst 761 1 X423 hx (hb hby at_760) rfl rfl ?_
  refine o_goto 765 X423 hx (hb hby at_761) (by decide) ?_
  exact own_retN X423 hx hlk (t := .boolean) hret (by simp) (hb hby at_765) ⟨rfl, N423⟩ (by decide) (by decide)
theorem J278_5 (hw : own_tb a0 Z) (X0 : Stand pP lL eE room_1 sS mM args below meth cC T0 locs 5 46) (hx : pP.tables.exec = Jvm.exec) (hZ : Z.Warmed39 sS.vm) (hby : cC.code = code) (hml : cC.maxLocals = 17) (hown : sS.vm.findClass "com/example/gleanwork/gleanwork/schedule/RecentAverageAddPinLaw" = some mM.cls) (hlk : meth.locks = false) (hret : meth.sig.returnType = ret) (e0 : T0.heap = h0) (N0 : Fr n0 locs) (u0 : Int32) (u1 : Int64) (u2 : Int64) (u3 : Int64) (w0 : Int32) (w1 : Int32) (w2 : Int32) (w3 : Int32) (w4 : Int32) (w5 : Int32) (w6 : Int32) (w7 : Int32) (w8 : Int32) (w9 : Int32) (w10 : Int32) (w11 : Int32) (vv : Addr) (kv : ClassId) (t3 : Addr) (k3 : ClassId) (t4 : Addr) (k4 : ClassId) (aa : Addr) (dd : Addr) (kd : ClassId) (em : Addr) (O : Old Z n0 h0) (Zn : n0 ≤ h0.size) (g_aa : n0 ≤ aa) (g_dd : n0 ≤ dd) (A_vv : Arv Z h0 vv kv .int 12 [.int w0, .int w1, .int w2, .int w3, .int w4, .int w5, .int w6, .int w7, .int w8, .int w9, .int w10, .int w11] (.int 0)) (A_t3 : Arv Z h0 t3 k3 .long 10 [.long 1, .long 3, .long 9, .long 27, .long 81, .long 243, .long 729, .long 2187, .long 6561, .long 19683] (.long 0)) (A_t4 : Arv Z h0 t4 k4 .long 10 [.long 1, .long 4, .long 16, .long 64, .long 256, .long 1024, .long 4096, .long 16384, .long 65536, .long 262144] (.long 0)) (nq0 : vv ≠ aa) (nq1 : vv ≠ dd) (nq2 : t3 ≠ aa) (nq3 : t3 ≠ dd) (nq4 : t4 ≠ aa) (nq5 : t4 ≠ dd) (nq6 : aa ≠ dd) (ra : Ra Z h0 aa dd kd 0 0 0 [.double 0, .double 0, .double 0, .double 0, .double 0, .double 0, .double 0, .double 0, .double 0, .double 0]) (S_em : Sta Z Z.heap "java/util/OptionalDouble" "EMPTY" "Ljava/util/OptionalDouble;" (.ref em)) (E_em : Exa Z Z.heap em "java/util/OptionalDouble") (F_em : Fld Z Z.heap em "java/util/OptionalDouble" "isPresent" "Z" (.int 0)) (bl0 : -32768 ≤ w0.toInt) (bl1 : -32768 ≤ w1.toInt) (bl2 : -32768 ≤ w2.toInt) (bl3 : -32768 ≤ w3.toInt) (bl4 : -32768 ≤ w4.toInt) (bl5 : -32768 ≤ w5.toInt) (bl6 : -32768 ≤ w6.toInt) (bl7 : -32768 ≤ w7.toInt) (bl8 : -32768 ≤ w8.toInt) (bl9 : -32768 ≤ w9.toInt) (bl10 : -32768 ≤ w10.toInt) (bl11 : -32768 ≤ w11.toInt) (bu0 : w0.toInt ≤ 32768) (bu1 : w1.toInt ≤ 32768) (bu2 : w2.toInt ≤ 32768) (bu3 : w3.toInt ≤ 32768) (bu4 : w4.toInt ≤ 32768) (bu5 : w5.toInt ≤ 32768) (bu6 : w6.toInt ≤ 32768) (bu7 : w7.toInt ≤ 32768) (bu8 : w8.toInt ≤ 32768) (bu9 : w9.toInt ≤ 32768) (bu10 : w10.toInt ≤ 32768) (bu11 : w11.toInt ≤ 32768) :
    own_Go pP eE below sS (QLaw n0) 24 192 (T0.setTop (mkF mM 278 #[.val (.int u0), .val (.long u1), .second, .val (.long u2), .second, .val (.long u3), .second, .val (.int 5), .val (.ref vv), .val (.ref t3), .val (.ref t4), .val (.ref aa), .unset, .unset, .unset, .unset, .unset] [])) := by
  refine SA1 hw X0 hx hZ hby hml hown hlk hret e0 N0 u0 u1 u2 u3 5 w0 w1 w2 w3 w4 w5 w6 w7 w8 w9 w10 w11 vv kv t3 k3 t4 k4 aa dd kd O Zn g_aa g_dd A_vv A_t3 A_t4 nq0 nq1 nq2 nq3 nq4 nq5 nq6 ra bl0 bl1 bl2 bl3 bl4 bl5 bl6 bl7 bl8 bl9 bl10 bl11 bu0 bu1 bu2 bu3 bu4 bu5 bu6 bu7 bu8 bu9 bu10 bu11 (by decide) (fun T425 L425 h425 X425 e425 N425 O Zn A_vv A_t3 A_t4 ra => ?_)
  refine SA2 hw X425 hx hZ hby hml hown hlk hret e425 N425 u0 u1 u2 u3 5 w0 w1 w2 w3 w4 w5 w6 w7 w8 w9 w10 w11 vv kv t3 k3 t4 k4 aa dd kd O Zn g_aa g_dd A_vv A_t3 A_t4 nq0 nq1 nq2 nq3 nq4 nq5 nq6 ra bl0 bl1 bl2 bl3 bl4 bl5 bl6 bl7 bl8 bl9 bl10 bl11 bu0 bu1 bu2 bu3 bu4 bu5 bu6 bu7 bu8 bu9 bu10 bu11 (by decide) (fun T426 L426 h426 X426 e426 N426 O Zn A_vv A_t3 A_t4 ra => ?_)
  refine SA3 hw X426 hx hZ hby hml hown hlk hret e426 N426 u0 u1 u2 u3 5 w0 w1 w2 w3 w4 w5 w6 w7 w8 w9 w10 w11 vv kv t3 k3 t4 k4 aa dd kd O Zn g_aa g_dd A_vv A_t3 A_t4 nq0 nq1 nq2 nq3 nq4 nq5 nq6 ra bl0 bl1 bl2 bl3 bl4 bl5 bl6 bl7 bl8 bl9 bl10 bl11 bu0 bu1 bu2 bu3 bu4 bu5 bu6 bu7 bu8 bu9 bu10 bu11 (by decide) (fun T427 L427 h427 X427 e427 N427 O Zn A_vv A_t3 A_t4 ra => ?_)
  refine SA4 hw X427 hx hZ hby hml hown hlk hret e427 N427 u0 u1 u2 u3 5 w0 w1 w2 w3 w4 w5 w6 w7 w8 w9 w10 w11 vv kv t3 k3 t4 k4 aa dd kd O Zn g_aa g_dd A_vv A_t3 A_t4 nq0 nq1 nq2 nq3 nq4 nq5 nq6 ra bl0 bl1 bl2 bl3 bl4 bl5 bl6 bl7 bl8 bl9 bl10 bl11 bu0 bu1 bu2 bu3 bu4 bu5 bu6 bu7 bu8 bu9 bu10 bu11 (by decide) (fun T428 L428 h428 X428 e428 N428 O Zn A_vv A_t3 A_t4 ra => ?_)
  refine SA5 hw X428 hx hZ hby hml hown hlk hret e428 N428 u0 u1 u2 u3 5 w0 w1 w2 w3 w4 w5 w6 w7 w8 w9 w10 w11 vv kv t3 k3 t4 k4 aa dd kd O Zn g_aa g_dd A_vv A_t3 A_t4 nq0 nq1 nq2 nq3 nq4 nq5 nq6 ra bl0 bl1 bl2 bl3 bl4 bl5 bl6 bl7 bl8 bl9 bl10 bl11 bu0 bu1 bu2 bu3 bu4 bu5 bu6 bu7 bu8 bu9 bu10 bu11 (by decide) (fun T429 L429 h429 X429 e429 N429 O Zn A_vv A_t3 A_t4 ra => ?_)
  refine o_iload 360 X429 hx (hb hby at_358) rfl rfl ?_
  refine o_bipush 362 6 X429 hx (hb hby at_360) rfl rfl ?_
  refine o_icmpYes 375 X429 hx (hb hby at_362) (tlt (by decide : ((5 : Int32) < (6 : Int32)))).1 (by decide) ?_
  refine o_iload 377 X429 hx (hb hby at_375) rfl rfl ?_
  refine o_bipush 379 7 X429 hx (hb hby at_377) rfl rfl ?_
  refine o_icmpYes 393 X429 hx (hb hby at_379) (tlt (by decide : ((5 : Int32) < (7 : Int32)))).1 (by decide) ?_
  refine o_iload 395 X429 hx (hb hby at_393) rfl rfl ?_
  refine o_bipush 397 8 X429 hx (hb hby at_395) rfl rfl ?_
  refine o_icmpYes 411 X429 hx (hb hby at_397) (tlt (by decide : ((5 : Int32) < (8 : Int32)))).1 (by decide) ?_
  refine o_iload 413 X429 hx (hb hby at_411) rfl rfl ?_
  refine o_bipush 415 9 X429 hx (hb hby at_413) rfl rfl ?_
  refine o_icmpYes 429 X429 hx (hb hby at_415) (tlt (by decide : ((5 : Int32) < (9 : Int32)))).1 (by decide) ?_
  refine o_iload 431 X429 hx (hb hby at_429) rfl rfl ?_
  refine o_bipush 433 10 X429 hx (hb hby at_431) rfl rfl ?_
  refine o_icmpYes 447 X429 hx (hb hby at_433) (tlt (by decide : ((5 : Int32) < (10 : Int32)))).1 (by decide) ?_
  refine o_iload 449 X429 hx (hb hby at_447) rfl rfl ?_
  refine o_bipush 451 11 X429 hx (hb hby at_449) rfl rfl ?_
  refine o_icmpYes 465 X429 hx (hb hby at_451) (tlt (by decide : ((5 : Int32) < (11 : Int32)))).1 (by decide) ?_
  refine o_iload 467 X429 hx (hb hby at_465) rfl rfl ?_
  refine o_bipush 469 12 X429 hx (hb hby at_467) rfl rfl ?_
  refine o_icmpYes 483 X429 hx (hb hby at_469) (tlt (by decide : ((5 : Int32) < (12 : Int32)))).1 (by decide) ?_
  refine o_iload 485 X429 hx (hb hby at_483) rfl rfl ?_
  refine o_bipush 487 10 X429 hx (hb hby at_485) rfl rfl ?_
  obtain ⟨_, _, ⟨T430, L430, k430, n430⟩, -, X430, ⟨Lc430, hQ430, l430, y430, z430⟩, st430⟩ := Jvm.LawKit.callS X429 hx (y := yn3) hown (mvT hZ (ow hw 37 rfl)) (mvT hZ (ow hw 38 rfl)) (mvT hZ (ow hw 39 rfl)) (mvT hZ (ow hw 40 rfl)) (by decide) (backOf (W := 0) (rmM5 lL Z a0 hw []  h429 n0 ) hZ (ow hw 40 rfl) (ow hw 39 rfl) (by decide) (by decide)) (g := (mkF mM 487 #[.val (.int u0), .val (.long u1), .second, .val (.long u2), .second, .val (.long u3), .second, .val (.int 5), .val (.ref vv), .val (.ref t3), .val (.ref t4), .val (.ref aa), .unset, .unset, .unset, .unset, .unset] [.int 10, .int 5])) rfl (by rw [hml]; rfl) (argsL := [.int 5, .int 10]) (rest := []) (lenOf pd__28II_29I rfl) rfl (by show 2 * 0 + _ ≤ _; exact Nat.le_of_eq rfl) (hb hby at_487) (fun _ _ => ⟨rfl, e429, (by decide : 5 + 0 ≤ _), (by decide : 46 + 0 ≤ _)⟩)
  dsimp only [Pt.U, Pt.locs, Pt.cells, Pt.slots] at X430 l430 y430 z430 st430 hQ430
  have X430 := own_cs X430 5 46 y430 z430
  obtain ⟨rfl, N430q, e430⟩ := hQ430
  have N430 := own_N l430 N429 N430q
  refine own_k T430 490 [.int 5] st430 ?_
  let Lv431 : Array Slot := #[.val (.int u0), .val (.long u1), .second, .val (.long u2), .second, .val (.long u3), .second, .val (.int 5), .val (.ref vv), .val (.ref t3), .val (.ref t4), .val (.ref aa), .val (.int 5), .unset, .unset, .unset, .unset]
  refine own_st (A := T430.setTop (mkF mM 492 Lv431 [])) (fun t_ k_ => XS.istore X430.here hx rfl (hb hby at_490) rfl (l' := Lv431) rfl k_) ?_
  refine o_aload 494 X430 hx (hb hby at_492) rfl rfl rfl ?_
  obtain ⟨cq432, kq432, q432a, q432b, q432c⟩ := isOf hZ e430 ra.1
  obtain ⟨_, _, ⟨T432, L432, k432, n432⟩, -, X432, ⟨Lc432, hQ432, l432, y432, z432⟩, st432⟩ := X430.virtualBack hx (y := yn4) (z := yn4) hown (mvT hZ (ow hw 41 rfl)) (mvT hZ (ow hw 42 rfl)) (notFace_of_selects (args := #[]) (mvT hZ (ow hw 44 rfl))) (mvT hZ (ow hw 44 rfl)) (mvT hZ (ow hw 43 rfl)) (by decide) (backOf (W := 0) (rmC lL Z a0 hw [] aa 5 h429 n0 ra.2.2.1) hZ (ow hw 45 rfl) (ow hw 27 rfl) (by decide) (by decide)) q432a q432c (g := (mkF mM 494 Lv431 [.ref aa])) rfl (by rw [hml]; rfl) (Steps.refl _) (argsL := []) (rest := []) (lenOf pd__28_29I rfl) rfl (by show 2 * 0 + _ ≤ _; exact Nat.le_of_eq rfl) (hb hby at_494) (fun _ _ => ⟨rfl, e430, (by decide : 5 + 0 ≤ _), (by decide : 46 + 0 ≤ _)⟩)
  dsimp only [Pt.U, Pt.locs, Pt.cells, Pt.slots] at X432 l432 y432 z432 st432 hQ432
  have X432 := own_cs X432 5 46 y432 z432
  obtain ⟨rfl, N432q, e432⟩ := hQ432
  have N432 := own_N l432 N430 N432q
  refine own_k T432 497 [.int 5] (fun t_ k_ => st432.trans k_) ?_
  refine o_iload 499 X432 hx (hb hby at_497) rfl rfl ?_
  refine o_icmpYes 504 X432 hx (hb hby at_499) (teq (by decide : ((5 : Int32) = (5 : Int32)))).1 (by decide) ?_
  refine o_aload 506 X432 hx (hb hby at_504) rfl rfl rfl ?_
  obtain ⟨cq433, kq433, q433a, q433b, q433c⟩ := isOf hZ e432 ra.1
  obtain ⟨_, _, ⟨T433, L433, k433, n433⟩, -, X433, ⟨Lc433, hQ433, l433, y433, z433⟩, st433⟩ := X432.virtualBack hx (y := yn8) (z := yn8) hown (mvT hZ (ow hw 48 rfl)) (mvT hZ (ow hw 49 rfl)) (notFace_of_selects (args := #[]) (mvT hZ (ow hw 51 rfl))) (mvT hZ (ow hw 51 rfl)) (mvT hZ (ow hw 50 rfl)) (by decide) (backOf (W := 0) (rmV lL Z a0 hw [] aa 5 (stp (FP.i2d w4) (stp (FP.i2d w3) (stp (FP.i2d w2) (stp (FP.i2d w1) (FP.i2d w0))))) h429 n0 Zn ra.2.2.1 ra.2.2.2.2.1 (by decide)) hZ (ow hw 52 rfl) (ow hw 27 rfl) (by decide) (by decide)) q433a q433c (g := (mkF mM 506 Lv431 [.ref aa])) rfl (by rw [hml]; rfl) (Steps.refl _) (argsL := []) (rest := []) (lenOf pd__28_29Ljava_2futil_2fOptionalDouble_3b rfl) rfl (by show 2 * 0 + _ ≤ _; exact Nat.le_of_eq rfl) (hb hby at_506) (fun _ _ => ⟨rfl, e432, (by decide : 5 + 1 ≤ _), (by decide : 46 + 2 ≤ _)⟩)
  dsimp only [Pt.U, Pt.locs, Pt.cells, Pt.slots] at X433 l433 y433 z433 st433 hQ433
  have X433 := own_cs X433 6 48 y433 z433
  obtain ⟨p433, rfl, N433q, E433, od⟩ := hQ433
  have N433 := own_N l433 N432 N433q
  have e433 : T433.heap = T433.heap := rfl
  refine own_k T433 509 [.ref p433] (fun t_ k_ => st433.trans k_) ?_
  have O := O.ext E433
  have A_vv := A_vv.ext E433
  have A_t3 := A_t3.ext E433
  have A_t4 := A_t4.ext E433
  have Zn := Nat.le_trans Zn E433.1
  let Lv434 : Array Slot := #[.val (.int u0), .val (.long u1), .second, .val (.long u2), .second, .val (.long u3), .second, .val (.int 5), .val (.ref vv), .val (.ref t3), .val (.ref t4), .val (.ref aa), .val (.int 5), .val (.ref p433), .unset, .unset, .unset]
  refine own_st (A := T433.setTop (mkF mM 511 Lv434 [])) (fun t_ k_ => XS.astore X433.here hx rfl (hb hby at_509) rfl rfl (l' := Lv434) rfl k_) ?_
  refine o_iload 513 X433 hx (hb hby at_511) rfl rfl ?_
  refine o_ifYes 530 X433 hx (hb hby at_513) ((if0 _ _).trans (feq (by decide : ¬ ((5 : Int32) = (0 : Int32)))).2) (by decide) ?_
  refine o_aload 532 X433 hx (hb hby at_530) rfl rfl rfl ?_
  obtain ⟨cq435, kq435, q435a, q435b, q435c⟩ := isOf hZ e433 od.1
  obtain ⟨_, _, ⟨T435, L435, k435, n435⟩, -, X435, ⟨Lc435, hQ435, l435, y435, z435⟩, st435⟩ := X433.virtualBack hx (y := yn9) (z := yn9) hown (mvT hZ (ow hw 58 rfl)) (mvT hZ (ow hw 59 rfl)) (notFace_of_selects (args := #[]) (mvT hZ (ow hw 61 rfl))) (mvT hZ (ow hw 61 rfl)) (mvT hZ (ow hw 60 rfl)) (by decide) (backOf (W := 0) (rmP1 lL Z a0 hw [] p433 T433.heap n0 od.2.1) hZ (ow hw 62 rfl) (ow hw 55 rfl) (by decide) (by decide)) q435a q435c (g := (mkF mM 532 Lv434 [.ref p433])) rfl (by rw [hml]; rfl) (Steps.refl _) (argsL := []) (rest := []) (lenOf pd__28_29Z rfl) rfl (by show 2 * 0 + _ ≤ _; exact Nat.le_of_eq rfl) (hb hby at_532) (fun _ _ => ⟨rfl, e433, (by decide : 6 + 0 ≤ _), (by decide : 48 + 0 ≤ _)⟩)
  dsimp only [Pt.U, Pt.locs, Pt.cells, Pt.slots] at X435 l435 y435 z435 st435 hQ435
  have X435 := own_cs X435 6 48 y435 z435
  obtain ⟨rfl, N435q, e435⟩ := hQ435
  have N435 := own_N l435 N433 N435q
  refine own_k T435 535 [.int 1] (fun t_ k_ => st435.trans k_) ?_
  refine o_ifYes 540 X435 hx (hb hby at_535) ((if0 _ _).trans (feq (by decide : ¬ ((1 : Int32) = (0 : Int32)))).2) (by decide) ?_
  refine o_iload 542 X435 hx (hb hby at_540) rfl rfl ?_
  refine o_iload 544 X435 hx (hb hby at_542) rfl rfl ?_
  refine own_j 545 [.int 0] (fun t_ k_ => XS.isub X435.here hx rfl (hb hby at_544) rfl k_) ?_
  let Lv436 : Array Slot := #[.val (.int u0), .val (.long u1), .second, .val (.long u2), .second, .val (.long u3), .second, .val (.int 5), .val (.ref vv), .val (.ref t3), .val (.ref t4), .val (.ref aa), .val (.int 5), .val (.ref p433), .val (.int 0), .unset, .unset]
  refine own_st (A := T435.setTop (mkF mM 547 Lv436 [])) (fun t_ k_ => XS.istore X435.here hx rfl (hb hby at_545) rfl (l' := Lv436) rfl k_) ?_
  refine o_aload 549 X435 hx (hb hby at_547) rfl rfl rfl ?_
  refine o_iload 551 X435 hx (hb hby at_549) rfl rfl ?_
  refine o_iconst 552 1 X435 hx (hb hby at_551) rfl rfl ?_
  refine own_j 553 [.int 4, .ref t3] (fun t_ k_ => XS.isub X435.here hx rfl (hb hby at_552) rfl k_) ?_
  obtain ⟨cl437, Ar437, q437, S437, Nn437, H437, G437⟩ := id A_t3
  have hin437 : ¬ ((4 : Int32) < 0 ∨ cl437.slots.size ≤ ((4 : Int32)).toNatClampNeg) := inb_of S437 ⟨by decide, by decide⟩
  refine own_j 554 [.long 81] (fun t_ k_ => X435.laload hx (j := (4 : Int32)) (v := (.long 81)) (by rw [e435]; exact Ar437.1) (State.isArrayOf_alike hZ.alike Ar437.2.1) Ar437.2.2 hin437 (H437.at hin437 rfl) (g := (mkF mM 553 Lv436 [.int 4, .ref t3])) rfl rfl (hb hby at_553) t_ k_) ?_
  refine o_aload 556 X435 hx (hb hby at_554) rfl rfl rfl ?_
  refine o_iload 558 X435 hx (hb hby at_556) rfl rfl ?_
  obtain ⟨cl438, Ar438, q438, S438, Nn438, H438, G438⟩ := id A_vv
  have hin438 : ¬ ((0 : Int32) < 0 ∨ cl438.slots.size ≤ ((0 : Int32)).toNatClampNeg) := inb_of S438 ⟨by decide, by decide⟩
  refine own_j 559 [.int w0, .long 81] (fun t_ k_ => X435.iaload hx (j := (0 : Int32)) (v := (.int w0)) (by rw [e435]; exact Ar438.1) (State.isArrayOf_alike hZ.alike Ar438.2.1) Ar438.2.2 hin438 (H438.at hin438 rfl) (g := (mkF mM 558 Lv436 [.int 0, .ref vv, .long 81])) rfl rfl (hb hby at_558) t_ k_) ?_
  refine own_j 560 [(.long ((w0).toInt64)), .long 81] (fun t_ k_ => XS.i2l X435.here hx rfl (hb hby at_559) rfl k_) ?_
  refine own_j 561 [(.long ((81 : Int64) * ((w0).toInt64)))] (fun t_ k_ => XS.lmul X435.here hx rfl (hb hby at_560) rfl k_) ?_
  let Lv439 : Array Slot := #[.val (.int u0), .val (.long u1), .second, .val (.long u2), .second, .val (.long u3), .second, .val (.int 5), .val (.ref vv), .val (.ref t3), .val (.ref t4), .val (.ref aa), .val (.int 5), .val (.ref p433), .val (.int 0), .val (.long ((81 : Int64) * ((w0).toInt64))), .second]
  refine own_st (A := T435.setTop (mkF mM 563 Lv439 [])) (fun t_ k_ => XS.lstore X435.here hx rfl (hb hby at_561) rfl (l' := Lv439) rfl k_) ?_
  refine ST2 hw X435 hx hZ hby hml hown hlk hret e435 N435 u0 u1 u2 u3 5 vv kv t3 k3 t4 k4 aa 5 p433 0 ((81 : Int64) * ((w0).toInt64)) _ _ _ 27 1 w1 A_vv A_t3 A_t4 (by decide) (by decide) (by decide) (by decide) rfl rfl rfl (fun T440 L440 X440 e440 N440 => ?_)
  refine ST3 hw X440 hx hZ hby hml hown hlk hret e440 N440 u0 u1 u2 u3 5 vv kv t3 k3 t4 k4 aa 5 p433 0 (((81 : Int64) * ((w0).toInt64)) + (((27 : Int64) * (1 : Int64)) * (w1).toInt64)) _ _ _ 9 4 w2 A_vv A_t3 A_t4 (by decide) (by decide) (by decide) (by decide) rfl rfl rfl (fun T441 L441 X441 e441 N441 => ?_)
  refine ST4 hw X441 hx hZ hby hml hown hlk hret e441 N441 u0 u1 u2 u3 5 vv kv t3 k3 t4 k4 aa 5 p433 0 ((((81 : Int64) * ((w0).toInt64)) + (((27 : Int64) * (1 : Int64)) * (w1).toInt64)) + (((9 : Int64) * (4 : Int64)) * (w2).toInt64)) _ _ _ 3 16 w3 A_vv A_t3 A_t4 (by decide) (by decide) (by decide) (by decide) rfl rfl rfl (fun T442 L442 X442 e442 N442 => ?_)
  refine ST5 hw X442 hx hZ hby hml hown hlk hret e442 N442 u0 u1 u2 u3 5 vv kv t3 k3 t4 k4 aa 5 p433 0 (((((81 : Int64) * ((w0).toInt64)) + (((27 : Int64) * (1 : Int64)) * (w1).toInt64)) + (((9 : Int64) * (4 : Int64)) * (w2).toInt64)) + (((3 : Int64) * (16 : Int64)) * (w3).toInt64)) _ _ _ 1 64 w4 A_vv A_t3 A_t4 (by decide) (by decide) (by decide) (by decide) rfl rfl rfl (fun T443 L443 X443 e443 N443 => ?_)
  refine SZ6 hw X443 hx hZ hby hml hown hlk hret e443 N443 u0 u1 u2 u3 5 vv kv t3 k3 t4 k4 aa 5 p433 0 ((((((81 : Int64) * ((w0).toInt64)) + (((27 : Int64) * (1 : Int64)) * (w1).toInt64)) + (((9 : Int64) * (4 : Int64)) * (w2).toInt64)) + (((3 : Int64) * (16 : Int64)) * (w3).toInt64)) + (((1 : Int64) * (64 : Int64)) * (w4).toInt64)) (by decide) (fun T444 L444 X444 e444 N444 => ?_)
  refine SZ7 hw X444 hx hZ hby hml hown hlk hret e444 N444 u0 u1 u2 u3 5 vv kv t3 k3 t4 k4 aa 5 p433 0 (((((((81 : Int64) * ((w0).toInt64)) + (((27 : Int64) * (1 : Int64)) * (w1).toInt64)) + (((9 : Int64) * (4 : Int64)) * (w2).toInt64)) + (((3 : Int64) * (16 : Int64)) * (w3).toInt64)) + (((1 : Int64) * (64 : Int64)) * (w4).toInt64)) + (0 : Int64)) (by decide) (fun T445 L445 X445 e445 N445 => ?_)
  refine SZ8 hw X445 hx hZ hby hml hown hlk hret e445 N445 u0 u1 u2 u3 5 vv kv t3 k3 t4 k4 aa 5 p433 0 ((((((((81 : Int64) * ((w0).toInt64)) + (((27 : Int64) * (1 : Int64)) * (w1).toInt64)) + (((9 : Int64) * (4 : Int64)) * (w2).toInt64)) + (((3 : Int64) * (16 : Int64)) * (w3).toInt64)) + (((1 : Int64) * (64 : Int64)) * (w4).toInt64)) + (0 : Int64)) + (0 : Int64)) (by decide) (fun T446 L446 X446 e446 N446 => ?_)
  refine SZ9 hw X446 hx hZ hby hml hown hlk hret e446 N446 u0 u1 u2 u3 5 vv kv t3 k3 t4 k4 aa 5 p433 0 (((((((((81 : Int64) * ((w0).toInt64)) + (((27 : Int64) * (1 : Int64)) * (w1).toInt64)) + (((9 : Int64) * (4 : Int64)) * (w2).toInt64)) + (((3 : Int64) * (16 : Int64)) * (w3).toInt64)) + (((1 : Int64) * (64 : Int64)) * (w4).toInt64)) + (0 : Int64)) + (0 : Int64)) + (0 : Int64)) (by decide) (fun T447 L447 X447 e447 N447 => ?_)
  refine SZ10 hw X447 hx hZ hby hml hown hlk hret e447 N447 u0 u1 u2 u3 5 vv kv t3 k3 t4 k4 aa 5 p433 0 ((((((((((81 : Int64) * ((w0).toInt64)) + (((27 : Int64) * (1 : Int64)) * (w1).toInt64)) + (((9 : Int64) * (4 : Int64)) * (w2).toInt64)) + (((3 : Int64) * (16 : Int64)) * (w3).toInt64)) + (((1 : Int64) * (64 : Int64)) * (w4).toInt64)) + (0 : Int64)) + (0 : Int64)) + (0 : Int64)) + (0 : Int64)) (by decide) (fun T448 L448 X448 e448 N448 => ?_)
  refine o_aload 741 X448 hx (hb hby at_739) rfl rfl rfl ?_
  obtain ⟨cq449, kq449, q449a, q449b, q449c⟩ := isOf hZ e448 od.1
  obtain ⟨_, _, ⟨T449, L449, k449, n449⟩, -, X449, ⟨Lc449, hQ449, l449, y449, z449⟩, st449⟩ := X448.virtualBack hx (y := yn10) (z := yn10) hown (mvT hZ (ow hw 91 rfl)) (mvT hZ (ow hw 92 rfl)) (notFace_of_selects (args := #[]) (mvT hZ (ow hw 94 rfl))) (mvT hZ (ow hw 94 rfl)) (mvT hZ (ow hw 93 rfl)) (by decide) (backOf (W := 0) (rmG lL Z a0 hw [] p433 (stp (FP.i2d w4) (stp (FP.i2d w3) (stp (FP.i2d w2) (stp (FP.i2d w1) (FP.i2d w0))))) T433.heap n0 od) hZ (ow hw 95 rfl) (ow hw 55 rfl) (by decide) (by decide)) q449a q449c (g := (mkF mM 741 #[.val (.int u0), .val (.long u1), .second, .val (.long u2), .second, .val (.long u3), .second, .val (.int 5), .val (.ref vv), .val (.ref t3), .val (.ref t4), .val (.ref aa), .val (.int 5), .val (.ref p433), .val (.int 0), .val (.long (((((((((((81 : Int64) * ((w0).toInt64)) + (((27 : Int64) * (1 : Int64)) * (w1).toInt64)) + (((9 : Int64) * (4 : Int64)) * (w2).toInt64)) + (((3 : Int64) * (16 : Int64)) * (w3).toInt64)) + (((1 : Int64) * (64 : Int64)) * (w4).toInt64)) + (0 : Int64)) + (0 : Int64)) + (0 : Int64)) + (0 : Int64)) + (0 : Int64))), .second] [.ref p433])) rfl (by rw [hml]; rfl) (Steps.refl _) (argsL := []) (rest := []) (lenOf pd__28_29D rfl) rfl (by show 2 * 0 + _ ≤ _; exact Nat.le_of_eq rfl) (hb hby at_741) (fun _ _ => ⟨rfl, e448, (by decide : 6 + 0 ≤ _), (by decide : 48 + 0 ≤ _)⟩)
  dsimp only [Pt.U, Pt.locs, Pt.cells, Pt.slots] at X449 l449 y449 z449 st449 hQ449
  have X449 := own_cs X449 6 48 y449 z449
  obtain ⟨rfl, N449q, e449⟩ := hQ449
  have N449 := own_N l449 N448 N449q
  refine own_k T449 744 [(.double (stp (FP.i2d w4) (stp (FP.i2d w3) (stp (FP.i2d w2) (stp (FP.i2d w1) (FP.i2d w0))))))] (fun t_ k_ => st449.trans k_) ?_
  refine o_aload 746 X449 hx (hb hby at_744) rfl rfl rfl ?_
  refine o_iload 748 X449 hx (hb hby at_746) rfl rfl ?_
  refine o_iconst 749 1 X449 hx (hb hby at_748) rfl rfl ?_
  refine own_j 750 [.int 4, .ref t4, (.double (stp (FP.i2d w4) (stp (FP.i2d w3) (stp (FP.i2d w2) (stp (FP.i2d w1) (FP.i2d w0))))))] (fun t_ k_ => XS.isub X449.here hx rfl (hb hby at_749) rfl k_) ?_
  obtain ⟨cl450, Ar450, q450, S450, Nn450, H450, G450⟩ := id A_t4
  have hin450 : ¬ ((4 : Int32) < 0 ∨ cl450.slots.size ≤ ((4 : Int32)).toNatClampNeg) := inb_of S450 ⟨by decide, by decide⟩
  refine own_j 751 [.long 256, (.double (stp (FP.i2d w4) (stp (FP.i2d w3) (stp (FP.i2d w2) (stp (FP.i2d w1) (FP.i2d w0))))))] (fun t_ k_ => X449.laload hx (j := (4 : Int32)) (v := (.long 256)) (by rw [e449]; exact Ar450.1) (State.isArrayOf_alike hZ.alike Ar450.2.1) Ar450.2.2 hin450 (H450.at hin450 rfl) (g := (mkF mM 750 #[.val (.int u0), .val (.long u1), .second, .val (.long u2), .second, .val (.long u3), .second, .val (.int 5), .val (.ref vv), .val (.ref t3), .val (.ref t4), .val (.ref aa), .val (.int 5), .val (.ref p433), .val (.int 0), .val (.long (((((((((((81 : Int64) * ((w0).toInt64)) + (((27 : Int64) * (1 : Int64)) * (w1).toInt64)) + (((9 : Int64) * (4 : Int64)) * (w2).toInt64)) + (((3 : Int64) * (16 : Int64)) * (w3).toInt64)) + (((1 : Int64) * (64 : Int64)) * (w4).toInt64)) + (0 : Int64)) + (0 : Int64)) + (0 : Int64)) + (0 : Int64)) + (0 : Int64))), .second] [.int 4, .ref t4, (.double (stp (FP.i2d w4) (stp (FP.i2d w3) (stp (FP.i2d w2) (stp (FP.i2d w1) (FP.i2d w0))))))])) rfl rfl (hb hby at_750) t_ k_) ?_
  refine own_j 752 [(.double (FP.l2d (256 : Int64))), (.double (stp (FP.i2d w4) (stp (FP.i2d w3) (stp (FP.i2d w2) (stp (FP.i2d w1) (FP.i2d w0))))))] (fun t_ k_ => XS.l2dS X449.here hx rfl (hb hby at_751) rfl rfl k_) ?_
  have av0 : Av (FP.i2d w0) w0.toInt 0 (32768 * 1) := own_av0 bl0 bu0
  obtain ⟨-, -, -, av1⟩ := own_stp (P := 1) bl1 bu1 av0 (by decide) (by decide) (by decide) (by decide)
  have av1 : Av (stp (FP.i2d w1) (FP.i2d w0)) (1 * w1.toInt + 3 * w0.toInt) 1 (32768 * 4) := av1
  obtain ⟨-, -, -, av2⟩ := own_stp (P := 4) bl2 bu2 av1 (by decide) (by decide) (by decide) (by decide)
  have av2 : Av (stp (FP.i2d w2) (stp (FP.i2d w1) (FP.i2d w0))) (4 * w2.toInt + 3 * (1 * w1.toInt + 3 * w0.toInt)) 2 (32768 * 16) := av2
  obtain ⟨-, -, -, av3⟩ := own_stp (P := 16) bl3 bu3 av2 (by decide) (by decide) (by decide) (by decide)
  have av3 : Av (stp (FP.i2d w3) (stp (FP.i2d w2) (stp (FP.i2d w1) (FP.i2d w0)))) (16 * w3.toInt + 3 * (4 * w2.toInt + 3 * (1 * w1.toInt + 3 * w0.toInt))) 3 (32768 * 64) := av3
  obtain ⟨-, -, -, av4⟩ := own_stp (P := 64) bl4 bu4 av3 (by decide) (by decide) (by decide) (by decide)
  have av4 : Av (stp (FP.i2d w4) (stp (FP.i2d w3) (stp (FP.i2d w2) (stp (FP.i2d w1) (FP.i2d w0))))) (64 * w4.toInt + 3 * (16 * w3.toInt + 3 * (4 * w2.toInt + 3 * (1 * w1.toInt + 3 * w0.toInt)))) 4 (32768 * 256) := av4
  have sm1 := own_Lmul (x := w0) (c := 81) (C := 81) (by decide) (by decide) (by decide) bl0 bu0
  have tm2 := own_Lmul (x := w1) (c := (27 : Int64) * (1 : Int64)) (C := 27) (by decide) (by decide) (by decide) bl1 bu1
  have sm2 := own_Ladd sm1 tm2 (by omega) (by omega) (by omega) (by omega)
  have tm3 := own_Lmul (x := w2) (c := (9 : Int64) * (4 : Int64)) (C := 36) (by decide) (by decide) (by decide) bl2 bu2
  have sm3 := own_Ladd sm2 tm3 (by omega) (by omega) (by omega) (by omega)
  have tm4 := own_Lmul (x := w3) (c := (3 : Int64) * (16 : Int64)) (C := 48) (by decide) (by decide) (by decide) bl3 bu3
  have sm4 := own_Ladd sm3 tm4 (by omega) (by omega) (by omega) (by omega)
  have tm5 := own_Lmul (x := w4) (c := (1 : Int64) * (64 : Int64)) (C := 64) (by decide) (by decide) (by decide) bl4 bu4
  have sm5 := own_Ladd sm4 tm5 (by omega) (by omega) (by omega) (by omega)
  have tm6 : (0 : Int64).toInt = 0 := by decide
  have sm6 := own_Ladd sm5 tm6 (by omega) (by omega) (by omega) (by omega)
  have tm7 : (0 : Int64).toInt = 0 := by decide
  have sm7 := own_Ladd sm6 tm7 (by omega) (by omega) (by omega) (by omega)
  have tm8 : (0 : Int64).toInt = 0 := by decide
  have sm8 := own_Ladd sm7 tm8 (by omega) (by omega) (by omega) (by omega)
  have tm9 : (0 : Int64).toInt = 0 := by decide
  have sm9 := own_Ladd sm8 tm9 (by omega) (by omega) (by omega) (by omega)
  have tm10 : (0 : Int64).toInt = 0 := by decide
  have sm10 := own_Ladd sm9 tm10 (by omega) (by omega) (by omega) (by omega)
  have hs : ((((((((((((81 : Int64) * ((w0).toInt64)) + (((27 : Int64) * (1 : Int64)) * (w1).toInt64)) + (((9 : Int64) * (4 : Int64)) * (w2).toInt64)) + (((3 : Int64) * (16 : Int64)) * (w3).toInt64)) + (((1 : Int64) * (64 : Int64)) * (w4).toInt64)) + (0 : Int64)) + (0 : Int64)) + (0 : Int64)) + (0 : Int64)) + (0 : Int64))).toInt = (64 * w4.toInt + 3 * (16 * w3.toInt + 3 * (4 * w2.toInt + 3 * (1 * w1.toInt + 3 * w0.toInt)))) := sm10.trans (by omega)
  obtain ⟨nl, cl⟩ := own_last (p := 256) av4 (by decide) (by decide) (by decide) (by decide) (by decide) hs
  refine own_j 753 [(.double (FP.dmul (stp (FP.i2d w4) (stp (FP.i2d w3) (stp (FP.i2d w2) (stp (FP.i2d w1) (FP.i2d w0))))) (FP.l2d (256 : Int64))))] (fun t_ k_ => XS.dmulS X449.here hx rfl (hb hby at_752) rfl nl rfl k_) ?_
  refine o_lload 755 X449 hx (hb hby at_753) rfl rfl ?_
  refine own_j 756 [(.double (FP.l2d (((((((((((81 : Int64) * ((w0).toInt64)) + (((27 : Int64) * (1 : Int64)) * (w1).toInt64)) + (((9 : Int64) * (4 : Int64)) * (w2).toInt64)) + (((3 : Int64) * (16 : Int64)) * (w3).toInt64)) + (((1 : Int64) * (64 : Int64)) * (w4).toInt64)) + (0 : Int64)) + (0 : Int64)) + (0 : Int64)) + (0 : Int64)) + (0 : Int64)))), (.double (FP.dmul (stp (FP.i2d w4) (stp (FP.i2d w3) (stp (FP.i2d w2) (stp (FP.i2d w1) (FP.i2d w0))))) (FP.l2d (256 : Int64))))] (fun t_ k_ => XS.l2dS X449.here hx rfl (hb hby at_755) rfl rfl k_) ?_
  refine own_j 757 [.int 0] (fun t_ k_ => XS.dcmpS X449.here hx rfl (hb hby at_756) rfl (cl _) k_) ?_
  refine o_ifNo 760 X449 hx (hb hby at_757) ((if0 _ _).trans (teq (by decide : ((0 : Int32) = (0 : Int32)))).2) rfl ?_
  refine o_iconst 761 1 X449 hx (hb hby at_760) rfl rfl ?_
  refine o_goto 765 X449 hx (hb hby at_761) (by decide) ?_
  exact own_retN X449 hx hlk (t := .boolean) hret (by simp) (hb hby at_765) ⟨rfl, N449⟩ (by decide) (by decide)
theorem J278_6 (hw : own_tb a0 Z) (X0 : Stand pP lL eE room_1 sS mM args below meth cC T0 locs 5 46) (hx : pP.tables.exec = Jvm.exec) (hZ : Z.Warmed39 sS.vm) (hby : cC.code = code) (hml : cC.maxLocals = 17) (hown : sS.vm.findClass "com/example/gleanwork/gleanwork/schedule/RecentAverageAddPinLaw" = some mM.cls) (hlk : meth.locks = false) (hret : meth.sig.returnType = ret) (e0 : T0.heap = h0) (N0 : Fr n0 locs) (u0 : Int32) (u1 : Int64) (u2 : Int64) (u3 : Int64) (w0 : Int32) (w1 : Int32) (w2 : Int32) (w3 : Int32) (w4 : Int32) (w5 : Int32) (w6 : Int32) (w7 : Int32) (w8 : Int32) (w9 : Int32) (w10 : Int32) (w11 : Int32) (vv : Addr) (kv : ClassId) (t3 : Addr) (k3 : ClassId) (t4 : Addr) (k4 : ClassId) (aa : Addr) (dd : Addr) (kd : ClassId) (em : Addr) (O : Old Z n0 h0) (Zn : n0 ≤ h0.size) (g_aa : n0 ≤ aa) (g_dd : n0 ≤ dd) (A_vv : Arv Z h0 vv kv .int 12 [.int w0, .int w1, .int w2, .int w3, .int w4, .int w5, .int w6, .int w7, .int w8, .int w9, .int w10, .int w11] (.int 0)) (A_t3 : Arv Z h0 t3 k3 .long 10 [.long 1, .long 3, .long 9, .long 27, .long 81, .long 243, .long 729, .long 2187, .long 6561, .long 19683] (.long 0)) (A_t4 : Arv Z h0 t4 k4 .long 10 [.long 1, .long 4, .long 16, .long 64, .long 256, .long 1024, .long 4096, .long 16384, .long 65536, .long 262144] (.long 0)) (nq0 : vv ≠ aa) (nq1 : vv ≠ dd) (nq2 : t3 ≠ aa) (nq3 : t3 ≠ dd) (nq4 : t4 ≠ aa) (nq5 : t4 ≠ dd) (nq6 : aa ≠ dd) (ra : Ra Z h0 aa dd kd 0 0 0 [.double 0, .double 0, .double 0, .double 0, .double 0, .double 0, .double 0, .double 0, .double 0, .double 0]) (S_em : Sta Z Z.heap "java/util/OptionalDouble" "EMPTY" "Ljava/util/OptionalDouble;" (.ref em)) (E_em : Exa Z Z.heap em "java/util/OptionalDouble") (F_em : Fld Z Z.heap em "java/util/OptionalDouble" "isPresent" "Z" (.int 0)) (bl0 : -32768 ≤ w0.toInt) (bl1 : -32768 ≤ w1.toInt) (bl2 : -32768 ≤ w2.toInt) (bl3 : -32768 ≤ w3.toInt) (bl4 : -32768 ≤ w4.toInt) (bl5 : -32768 ≤ w5.toInt) (bl6 : -32768 ≤ w6.toInt) (bl7 : -32768 ≤ w7.toInt) (bl8 : -32768 ≤ w8.toInt) (bl9 : -32768 ≤ w9.toInt) (bl10 : -32768 ≤ w10.toInt) (bl11 : -32768 ≤ w11.toInt) (bu0 : w0.toInt ≤ 32768) (bu1 : w1.toInt ≤ 32768) (bu2 : w2.toInt ≤ 32768) (bu3 : w3.toInt ≤ 32768) (bu4 : w4.toInt ≤ 32768) (bu5 : w5.toInt ≤ 32768) (bu6 : w6.toInt ≤ 32768) (bu7 : w7.toInt ≤ 32768) (bu8 : w8.toInt ≤ 32768) (bu9 : w9.toInt ≤ 32768) (bu10 : w10.toInt ≤ 32768) (bu11 : w11.toInt ≤ 32768) :
    own_Go pP eE below sS (QLaw n0) 24 192 (T0.setTop (mkF mM 278 #[.val (.int u0), .val (.long u1), .second, .val (.long u2), .second, .val (.long u3), .second, .val (.int 6), .val (.ref vv), .val (.ref t3), .val (.ref t4), .val (.ref aa), .unset, .unset, .unset, .unset, .unset] [])) := by
  refine SA1 hw X0 hx hZ hby hml hown hlk hret e0 N0 u0 u1 u2 u3 6 w0 w1 w2 w3 w4 w5 w6 w7 w8 w9 w10 w11 vv kv t3 k3 t4 k4 aa dd kd O Zn g_aa g_dd A_vv A_t3 A_t4 nq0 nq1 nq2 nq3 nq4 nq5 nq6 ra bl0 bl1 bl2 bl3 bl4 bl5 bl6 bl7 bl8 bl9 bl10 bl11 bu0 bu1 bu2 bu3 bu4 bu5 bu6 bu7 bu8 bu9 bu10 bu11 (by decide) (fun T451 L451 h451 X451 e451 N451 O Zn A_vv A_t3 A_t4 ra => ?_)
  refine SA2 hw X451 hx hZ hby hml hown hlk hret e451 N451 u0 u1 u2 u3 6 w0 w1 w2 w3 w4 w5 w6 w7 w8 w9 w10 w11 vv kv t3 k3 t4 k4 aa dd kd O Zn g_aa g_dd A_vv A_t3 A_t4 nq0 nq1 nq2 nq3 nq4 nq5 nq6 ra bl0 bl1 bl2 bl3 bl4 bl5 bl6 bl7 bl8 bl9 bl10 bl11 bu0 bu1 bu2 bu3 bu4 bu5 bu6 bu7 bu8 bu9 bu10 bu11 (by decide) (fun T452 L452 h452 X452 e452 N452 O Zn A_vv A_t3 A_t4 ra => ?_)
  refine SA3 hw X452 hx hZ hby hml hown hlk hret e452 N452 u0 u1 u2 u3 6 w0 w1 w2 w3 w4 w5 w6 w7 w8 w9 w10 w11 vv kv t3 k3 t4 k4 aa dd kd O Zn g_aa g_dd A_vv A_t3 A_t4 nq0 nq1 nq2 nq3 nq4 nq5 nq6 ra bl0 bl1 bl2 bl3 bl4 bl5 bl6 bl7 bl8 bl9 bl10 bl11 bu0 bu1 bu2 bu3 bu4 bu5 bu6 bu7 bu8 bu9 bu10 bu11 (by decide) (fun T453 L453 h453 X453 e453 N453 O Zn A_vv A_t3 A_t4 ra => ?_)
  refine SA4 hw X453 hx hZ hby hml hown hlk hret e453 N453 u0 u1 u2 u3 6 w0 w1 w2 w3 w4 w5 w6 w7 w8 w9 w10 w11 vv kv t3 k3 t4 k4 aa dd kd O Zn g_aa g_dd A_vv A_t3 A_t4 nq0 nq1 nq2 nq3 nq4 nq5 nq6 ra bl0 bl1 bl2 bl3 bl4 bl5 bl6 bl7 bl8 bl9 bl10 bl11 bu0 bu1 bu2 bu3 bu4 bu5 bu6 bu7 bu8 bu9 bu10 bu11 (by decide) (fun T454 L454 h454 X454 e454 N454 O Zn A_vv A_t3 A_t4 ra => ?_)
  refine SA5 hw X454 hx hZ hby hml hown hlk hret e454 N454 u0 u1 u2 u3 6 w0 w1 w2 w3 w4 w5 w6 w7 w8 w9 w10 w11 vv kv t3 k3 t4 k4 aa dd kd O Zn g_aa g_dd A_vv A_t3 A_t4 nq0 nq1 nq2 nq3 nq4 nq5 nq6 ra bl0 bl1 bl2 bl3 bl4 bl5 bl6 bl7 bl8 bl9 bl10 bl11 bu0 bu1 bu2 bu3 bu4 bu5 bu6 bu7 bu8 bu9 bu10 bu11 (by decide) (fun T455 L455 h455 X455 e455 N455 O Zn A_vv A_t3 A_t4 ra => ?_)
  refine SA6 hw X455 hx hZ hby hml hown hlk hret e455 N455 u0 u1 u2 u3 6 w0 w1 w2 w3 w4 w5 w6 w7 w8 w9 w10 w11 vv kv t3 k3 t4 k4 aa dd kd O Zn g_aa g_dd A_vv A_t3 A_t4 nq0 nq1 nq2 nq3 nq4 nq5 nq6 ra bl0 bl1 bl2 bl3 bl4 bl5 bl6 bl7 bl8 bl9 bl10 bl11 bu0 bu1 bu2 bu3 bu4 bu5 bu6 bu7 bu8 bu9 bu10 bu11 (by decide) (fun T456 L456 h456 X456 e456 N456 O Zn A_vv A_t3 A_t4 ra => ?_)
  refine o_iload 377 X456 hx (hb hby at_375) rfl rfl ?_
  refine o_bipush 379 7 X456 hx (hb hby at_377) rfl rfl ?_
  refine o_icmpYes 393 X456 hx (hb hby at_379) (tlt (by decide : ((6 : Int32) < (7 : Int32)))).1 (by decide) ?_
  refine o_iload 395 X456 hx (hb hby at_393) rfl rfl ?_
  refine o_bipush 397 8 X456 hx (hb hby at_395) rfl rfl ?_
  refine o_icmpYes 411 X456 hx (hb hby at_397) (tlt (by decide : ((6 : Int32) < (8 : Int32)))).1 (by decide) ?_
  refine o_iload 413 X456 hx (hb hby at_411) rfl rfl ?_
  refine o_bipush 415 9 X456 hx (hb hby at_413) rfl rfl ?_
  refine o_icmpYes 429 X456 hx (hb hby at_415) (tlt (by decide : ((6 : Int32) < (9 : Int32)))).1 (by decide) ?_
  refine o_iload 431 X456 hx (hb hby at_429) rfl rfl ?_
  refine o_bipush 433 10 X456 hx (hb hby at_431) rfl rfl ?_
  refine o_icmpYes 447 X456 hx (hb hby at_433) (tlt (by decide : ((6 : Int32) < (10 : Int32)))).1 (by decide) ?_
  refine o_iload 449 X456 hx (hb hby at_447) rfl rfl ?_
  refine o_bipush 451 11 X456 hx (hb hby at_449) rfl rfl ?_
  refine o_icmpYes 465 X456 hx (hb hby at_451) (tlt (by decide : ((6 : Int32) < (11 : Int32)))).1 (by decide) ?_
  refine o_iload 467 X456 hx (hb hby at_465) rfl rfl ?_
  refine o_bipush 469 12 X456 hx (hb hby at_467) rfl rfl ?_
  refine o_icmpYes 483 X456 hx (hb hby at_469) (tlt (by decide : ((6 : Int32) < (12 : Int32)))).1 (by decide) ?_
  refine o_iload 485 X456 hx (hb hby at_483) rfl rfl ?_
  refine o_bipush 487 10 X456 hx (hb hby at_485) rfl rfl ?_
  obtain ⟨_, _, ⟨T457, L457, k457, n457⟩, -, X457, ⟨Lc457, hQ457, l457, y457, z457⟩, st457⟩ := Jvm.LawKit.callS X456 hx (y := yn3) hown (mvT hZ (ow hw 37 rfl)) (mvT hZ (ow hw 38 rfl)) (mvT hZ (ow hw 39 rfl)) (mvT hZ (ow hw 40 rfl)) (by decide) (backOf (W := 0) (rmM6 lL Z a0 hw []  h456 n0 ) hZ (ow hw 40 rfl) (ow hw 39 rfl) (by decide) (by decide)) (g := (mkF mM 487 #[.val (.int u0), .val (.long u1), .second, .val (.long u2), .second, .val (.long u3), .second, .val (.int 6), .val (.ref vv), .val (.ref t3), .val (.ref t4), .val (.ref aa), .unset, .unset, .unset, .unset, .unset] [.int 10, .int 6])) rfl (by rw [hml]; rfl) (argsL := [.int 6, .int 10]) (rest := []) (lenOf pd__28II_29I rfl) rfl (by show 2 * 0 + _ ≤ _; exact Nat.le_of_eq rfl) (hb hby at_487) (fun _ _ => ⟨rfl, e456, (by decide : 5 + 0 ≤ _), (by decide : 46 + 0 ≤ _)⟩)
  dsimp only [Pt.U, Pt.locs, Pt.cells, Pt.slots] at X457 l457 y457 z457 st457 hQ457
  have X457 := own_cs X457 5 46 y457 z457
  obtain ⟨rfl, N457q, e457⟩ := hQ457
  have N457 := own_N l457 N456 N457q
  refine own_k T457 490 [.int 6] st457 ?_
  let Lv458 : Array Slot := #[.val (.int u0), .val (.long u1), .second, .val (.long u2), .second, .val (.long u3), .second, .val (.int 6), .val (.ref vv), .val (.ref t3), .val (.ref t4), .val (.ref aa), .val (.int 6), .unset, .unset, .unset, .unset]
  refine own_st (A := T457.setTop (mkF mM 492 Lv458 [])) (fun t_ k_ => XS.istore X457.here hx rfl (hb hby at_490) rfl (l' := Lv458) rfl k_) ?_
  refine o_aload 494 X457 hx (hb hby at_492) rfl rfl rfl ?_
  obtain ⟨cq459, kq459, q459a, q459b, q459c⟩ := isOf hZ e457 ra.1
  obtain ⟨_, _, ⟨T459, L459, k459, n459⟩, -, X459, ⟨Lc459, hQ459, l459, y459, z459⟩, st459⟩ := X457.virtualBack hx (y := yn4) (z := yn4) hown (mvT hZ (ow hw 41 rfl)) (mvT hZ (ow hw 42 rfl)) (notFace_of_selects (args := #[]) (mvT hZ (ow hw 44 rfl))) (mvT hZ (ow hw 44 rfl)) (mvT hZ (ow hw 43 rfl)) (by decide) (backOf (W := 0) (rmC lL Z a0 hw [] aa 6 h456 n0 ra.2.2.1) hZ (ow hw 45 rfl) (ow hw 27 rfl) (by decide) (by decide)) q459a q459c (g := (mkF mM 494 Lv458 [.ref aa])) rfl (by rw [hml]; rfl) (Steps.refl _) (argsL := []) (rest := []) (lenOf pd__28_29I rfl) rfl (by show 2 * 0 + _ ≤ _; exact Nat.le_of_eq rfl) (hb hby at_494) (fun _ _ => ⟨rfl, e457, (by decide : 5 + 0 ≤ _), (by decide : 46 + 0 ≤ _)⟩)
  dsimp only [Pt.U, Pt.locs, Pt.cells, Pt.slots] at X459 l459 y459 z459 st459 hQ459
  have X459 := own_cs X459 5 46 y459 z459
  obtain ⟨rfl, N459q, e459⟩ := hQ459
  have N459 := own_N l459 N457 N459q
  refine own_k T459 497 [.int 6] (fun t_ k_ => st459.trans k_) ?_
  refine o_iload 499 X459 hx (hb hby at_497) rfl rfl ?_
  refine o_icmpYes 504 X459 hx (hb hby at_499) (teq (by decide : ((6 : Int32) = (6 : Int32)))).1 (by decide) ?_
  refine o_aload 506 X459 hx (hb hby at_504) rfl rfl rfl ?_
  obtain ⟨cq460, kq460, q460a, q460b, q460c⟩ := isOf hZ e459 ra.1
  obtain ⟨_, _, ⟨T460, L460, k460, n460⟩, -, X460, ⟨Lc460, hQ460, l460, y460, z460⟩, st460⟩ := X459.virtualBack hx (y := yn8) (z := yn8) hown (mvT hZ (ow hw 48 rfl)) (mvT hZ (ow hw 49 rfl)) (notFace_of_selects (args := #[]) (mvT hZ (ow hw 51 rfl))) (mvT hZ (ow hw 51 rfl)) (mvT hZ (ow hw 50 rfl)) (by decide) (backOf (W := 0) (rmV lL Z a0 hw [] aa 6 (stp (FP.i2d w5) (stp (FP.i2d w4) (stp (FP.i2d w3) (stp (FP.i2d w2) (stp (FP.i2d w1) (FP.i2d w0)))))) h456 n0 Zn ra.2.2.1 ra.2.2.2.2.1 (by decide)) hZ (ow hw 52 rfl) (ow hw 27 rfl) (by decide) (by decide)) q460a q460c (g := (mkF mM 506 Lv458 [.ref aa])) rfl (by rw [hml]; rfl) (Steps.refl _) (argsL := []) (rest := []) (lenOf pd__28_29Ljava_2futil_2fOptionalDouble_3b rfl) rfl (by show 2 * 0 + _ ≤ _; exact Nat.le_of_eq rfl) (hb hby at_506) (fun _ _ => ⟨rfl, e459, (by decide : 5 + 1 ≤ _), (by decide : 46 + 2 ≤ _)⟩)
  dsimp only [Pt.U, Pt.locs, Pt.cells, Pt.slots] at X460 l460 y460 z460 st460 hQ460
  have X460 := own_cs X460 6 48 y460 z460
  obtain ⟨p460, rfl, N460q, E460, od⟩ := hQ460
  have N460 := own_N l460 N459 N460q
  have e460 : T460.heap = T460.heap := rfl
  refine own_k T460 509 [.ref p460] (fun t_ k_ => st460.trans k_) ?_
  have O := O.ext E460
  have A_vv := A_vv.ext E460
  have A_t3 := A_t3.ext E460
  have A_t4 := A_t4.ext E460
  have Zn := Nat.le_trans Zn E460.1
  let Lv461 : Array Slot := #[.val (.int u0), .val (.long u1), .second, .val (.long u2), .second, .val (.long u3), .second, .val (.int 6), .val (.ref vv), .val (.ref t3), .val (.ref t4), .val (.ref aa), .val (.int 6), .val (.ref p460), .unset, .unset, .unset]
  refine own_st (A := T460.setTop (mkF mM 511 Lv461 [])) (fun t_ k_ => XS.astore X460.here hx rfl (hb hby at_509) rfl rfl (l' := Lv461) rfl k_) ?_
  refine o_iload 513 X460 hx (hb hby at_511) rfl rfl ?_
  refine o_ifYes 530 X460 hx (hb hby at_513) ((if0 _ _).trans (feq (by decide : ¬ ((6 : Int32) = (0 : Int32)))).2) (by decide) ?_
  refine o_aload 532 X460 hx (hb hby at_530) rfl rfl rfl ?_
  obtain ⟨cq462, kq462, q462a, q462b, q462c⟩ := isOf hZ e460 od.1
  obtain ⟨_, _, ⟨T462, L462, k462, n462⟩, -, X462, ⟨Lc462, hQ462, l462, y462, z462⟩, st462⟩ := X460.virtualBack hx (y := yn9) (z := yn9) hown (mvT hZ (ow hw 58 rfl)) (mvT hZ (ow hw 59 rfl)) (notFace_of_selects (args := #[]) (mvT hZ (ow hw 61 rfl))) (mvT hZ (ow hw 61 rfl)) (mvT hZ (ow hw 60 rfl)) (by decide) (backOf (W := 0) (rmP1 lL Z a0 hw [] p460 T460.heap n0 od.2.1) hZ (ow hw 62 rfl) (ow hw 55 rfl) (by decide) (by decide)) q462a q462c (g := (mkF mM 532 Lv461 [.ref p460])) rfl (by rw [hml]; rfl) (Steps.refl _) (argsL := []) (rest := []) (lenOf pd__28_29Z rfl) rfl (by show 2 * 0 + _ ≤ _; exact Nat.le_of_eq rfl) (hb hby at_532) (fun _ _ => ⟨rfl, e460, (by decide : 6 + 0 ≤ _), (by decide : 48 + 0 ≤ _)⟩)
  dsimp only [Pt.U, Pt.locs, Pt.cells, Pt.slots] at X462 l462 y462 z462 st462 hQ462
  have X462 := own_cs X462 6 48 y462 z462
  obtain ⟨rfl, N462q, e462⟩ := hQ462
  have N462 := own_N l462 N460 N462q
  refine own_k T462 535 [.int 1] (fun t_ k_ => st462.trans k_) ?_
  refine o_ifYes 540 X462 hx (hb hby at_535) ((if0 _ _).trans (feq (by decide : ¬ ((1 : Int32) = (0 : Int32)))).2) (by decide) ?_
  refine o_iload 542 X462 hx (hb hby at_540) rfl rfl ?_
  refine o_iload 544 X462 hx (hb hby at_542) rfl rfl ?_
  refine own_j 545 [.int 0] (fun t_ k_ => XS.isub X462.here hx rfl (hb hby at_544) rfl k_) ?_
  let Lv463 : Array Slot := #[.val (.int u0), .val (.long u1), .second, .val (.long u2), .second, .val (.long u3), .second, .val (.int 6), .val (.ref vv), .val (.ref t3), .val (.ref t4), .val (.ref aa), .val (.int 6), .val (.ref p460), .val (.int 0), .unset, .unset]
  refine own_st (A := T462.setTop (mkF mM 547 Lv463 [])) (fun t_ k_ => XS.istore X462.here hx rfl (hb hby at_545) rfl (l' := Lv463) rfl k_) ?_
  refine o_aload 549 X462 hx (hb hby at_547) rfl rfl rfl ?_
  refine o_iload 551 X462 hx (hb hby at_549) rfl rfl ?_
  refine o_iconst 552 1 X462 hx (hb hby at_551) rfl rfl ?_
  refine own_j 553 [.int 5, .ref t3] (fun t_ k_ => XS.isub X462.here hx rfl (hb hby at_552) rfl k_) ?_
  obtain ⟨cl464, Ar464, q464, S464, Nn464, H464, G464⟩ := id A_t3
  have hin464 : ¬ ((5 : Int32) < 0 ∨ cl464.slots.size ≤ ((5 : Int32)).toNatClampNeg) := inb_of S464 ⟨by decide, by decide⟩
  refine own_j 554 [.long 243] (fun t_ k_ => X462.laload hx (j := (5 : Int32)) (v := (.long 243)) (by rw [e462]; exact Ar464.1) (State.isArrayOf_alike hZ.alike Ar464.2.1) Ar464.2.2 hin464 (H464.at hin464 rfl) (g := (mkF mM 553 Lv463 [.int 5, .ref t3])) rfl rfl (hb hby at_553) t_ k_) ?_
  refine o_aload 556 X462 hx (hb hby at_554) rfl rfl rfl ?_
  refine o_iload 558 X462 hx (hb hby at_556) rfl rfl ?_
  obtain ⟨cl465, Ar465, q465, S465, Nn465, H465, G465⟩ := id A_vv
  have hin465 : ¬ ((0 : Int32) < 0 ∨ cl465.slots.size ≤ ((0 : Int32)).toNatClampNeg) := inb_of S465 ⟨by decide, by decide⟩
  refine own_j 559 [.int w0, .long 243] (fun t_ k_ => X462.iaload hx (j := (0 : Int32)) (v := (.int w0)) (by rw [e462]; exact Ar465.1) (State.isArrayOf_alike hZ.alike Ar465.2.1) Ar465.2.2 hin465 (H465.at hin465 rfl) (g := (mkF mM 558 Lv463 [.int 0, .ref vv, .long 243])) rfl rfl (hb hby at_558) t_ k_) ?_
  refine own_j 560 [(.long ((w0).toInt64)), .long 243] (fun t_ k_ => XS.i2l X462.here hx rfl (hb hby at_559) rfl k_) ?_
  refine own_j 561 [(.long ((243 : Int64) * ((w0).toInt64)))] (fun t_ k_ => XS.lmul X462.here hx rfl (hb hby at_560) rfl k_) ?_
  let Lv466 : Array Slot := #[.val (.int u0), .val (.long u1), .second, .val (.long u2), .second, .val (.long u3), .second, .val (.int 6), .val (.ref vv), .val (.ref t3), .val (.ref t4), .val (.ref aa), .val (.int 6), .val (.ref p460), .val (.int 0), .val (.long ((243 : Int64) * ((w0).toInt64))), .second]
  refine own_st (A := T462.setTop (mkF mM 563 Lv466 [])) (fun t_ k_ => XS.lstore X462.here hx rfl (hb hby at_561) rfl (l' := Lv466) rfl k_) ?_
  refine ST2 hw X462 hx hZ hby hml hown hlk hret e462 N462 u0 u1 u2 u3 6 vv kv t3 k3 t4 k4 aa 6 p460 0 ((243 : Int64) * ((w0).toInt64)) _ _ _ 81 1 w1 A_vv A_t3 A_t4 (by decide) (by decide) (by decide) (by decide) rfl rfl rfl (fun T467 L467 X467 e467 N467 => ?_)
  refine ST3 hw X467 hx hZ hby hml hown hlk hret e467 N467 u0 u1 u2 u3 6 vv kv t3 k3 t4 k4 aa 6 p460 0 (((243 : Int64) * ((w0).toInt64)) + (((81 : Int64) * (1 : Int64)) * (w1).toInt64)) _ _ _ 27 4 w2 A_vv A_t3 A_t4 (by decide) (by decide) (by decide) (by decide) rfl rfl rfl (fun T468 L468 X468 e468 N468 => ?_)
  refine ST4 hw X468 hx hZ hby hml hown hlk hret e468 N468 u0 u1 u2 u3 6 vv kv t3 k3 t4 k4 aa 6 p460 0 ((((243 : Int64) * ((w0).toInt64)) + (((81 : Int64) * (1 : Int64)) * (w1).toInt64)) + (((27 : Int64) * (4 : Int64)) * (w2).toInt64)) _ _ _ 9 16 w3 A_vv A_t3 A_t4 (by decide) (by decide) (by decide) (by decide) rfl rfl rfl (fun T469 L469 X469 e469 N469 => ?_)
  refine ST5 hw X469 hx hZ hby hml hown hlk hret e469 N469 u0 u1 u2 u3 6 vv kv t3 k3 t4 k4 aa 6 p460 0 (((((243 : Int64) * ((w0).toInt64)) + (((81 : Int64) * (1 : Int64)) * (w1).toInt64)) + (((27 : Int64) * (4 : Int64)) * (w2).toInt64)) + (((9 : Int64) * (16 : Int64)) * (w3).toInt64)) _ _ _ 3 64 w4 A_vv A_t3 A_t4 (by decide) (by decide) (by decide) (by decide) rfl rfl rfl (fun T470 L470 X470 e470 N470 => ?_)
  refine ST6 hw X470 hx hZ hby hml hown hlk hret e470 N470 u0 u1 u2 u3 6 vv kv t3 k3 t4 k4 aa 6 p460 0 ((((((243 : Int64) * ((w0).toInt64)) + (((81 : Int64) * (1 : Int64)) * (w1).toInt64)) + (((27 : Int64) * (4 : Int64)) * (w2).toInt64)) + (((9 : Int64) * (16 : Int64)) * (w3).toInt64)) + (((3 : Int64) * (64 : Int64)) * (w4).toInt64)) _ _ _ 1 256 w5 A_vv A_t3 A_t4 (by decide) (by decide) (by decide) (by decide) rfl rfl rfl (fun T471 L471 X471 e471 N471 => ?_)
  refine SZ7 hw X471 hx hZ hby hml hown hlk hret e471 N471 u0 u1 u2 u3 6 vv kv t3 k3 t4 k4 aa 6 p460 0 (((((((243 : Int64) * ((w0).toInt64)) + (((81 : Int64) * (1 : Int64)) * (w1).toInt64)) + (((27 : Int64) * (4 : Int64)) * (w2).toInt64)) + (((9 : Int64) * (16 : Int64)) * (w3).toInt64)) + (((3 : Int64) * (64 : Int64)) * (w4).toInt64)) + (((1 : Int64) * (256 : Int64)) * (w5).toInt64)) (by decide) (fun T472 L472 X472 e472 N472 => ?_)
  refine SZ8 hw X472 hx hZ hby hml hown hlk hret e472 N472 u0 u1 u2 u3 6 vv kv t3 k3 t4 k4 aa 6 p460 0 ((((((((243 : Int64) * ((w0).toInt64)) + (((81 : Int64) * (1 : Int64)) * (w1).toInt64)) + (((27 : Int64) * (4 : Int64)) * (w2).toInt64)) + (((9 : Int64) * (16 : Int64)) * (w3).toInt64)) + (((3 : Int64) * (64 : Int64)) * (w4).toInt64)) + (((1 : Int64) * (256 : Int64)) * (w5).toInt64)) + (0 : Int64)) (by decide) (fun T473 L473 X473 e473 N473 => ?_)
  refine SZ9 hw X473 hx hZ hby hml hown hlk hret e473 N473 u0 u1 u2 u3 6 vv kv t3 k3 t4 k4 aa 6 p460 0 (((((((((243 : Int64) * ((w0).toInt64)) + (((81 : Int64) * (1 : Int64)) * (w1).toInt64)) + (((27 : Int64) * (4 : Int64)) * (w2).toInt64)) + (((9 : Int64) * (16 : Int64)) * (w3).toInt64)) + (((3 : Int64) * (64 : Int64)) * (w4).toInt64)) + (((1 : Int64) * (256 : Int64)) * (w5).toInt64)) + (0 : Int64)) + (0 : Int64)) (by decide) (fun T474 L474 X474 e474 N474 => ?_)
  refine SZ10 hw X474 hx hZ hby hml hown hlk hret e474 N474 u0 u1 u2 u3 6 vv kv t3 k3 t4 k4 aa 6 p460 0 ((((((((((243 : Int64) * ((w0).toInt64)) + (((81 : Int64) * (1 : Int64)) * (w1).toInt64)) + (((27 : Int64) * (4 : Int64)) * (w2).toInt64)) + (((9 : Int64) * (16 : Int64)) * (w3).toInt64)) + (((3 : Int64) * (64 : Int64)) * (w4).toInt64)) + (((1 : Int64) * (256 : Int64)) * (w5).toInt64)) + (0 : Int64)) + (0 : Int64)) + (0 : Int64)) (by decide) (fun T475 L475 X475 e475 N475 => ?_)
  refine o_aload 741 X475 hx (hb hby at_739) rfl rfl rfl ?_
  obtain ⟨cq476, kq476, q476a, q476b, q476c⟩ := isOf hZ e475 od.1
  obtain ⟨_, _, ⟨T476, L476, k476, n476⟩, -, X476, ⟨Lc476, hQ476, l476, y476, z476⟩, st476⟩ := X475.virtualBack hx (y := yn10) (z := yn10) hown (mvT hZ (ow hw 91 rfl)) (mvT hZ (ow hw 92 rfl)) (notFace_of_selects (args := #[]) (mvT hZ (ow hw 94 rfl))) (mvT hZ (ow hw 94 rfl)) (mvT hZ (ow hw 93 rfl)) (by decide) (backOf (W := 0) (rmG lL Z a0 hw [] p460 (stp (FP.i2d w5) (stp (FP.i2d w4) (stp (FP.i2d w3) (stp (FP.i2d w2) (stp (FP.i2d w1) (FP.i2d w0)))))) T460.heap n0 od) hZ (ow hw 95 rfl) (ow hw 55 rfl) (by decide) (by decide)) q476a q476c (g := (mkF mM 741 #[.val (.int u0), .val (.long u1), .second, .val (.long u2), .second, .val (.long u3), .second, .val (.int 6), .val (.ref vv), .val (.ref t3), .val (.ref t4), .val (.ref aa), .val (.int 6), .val (.ref p460), .val (.int 0), .val (.long (((((((((((243 : Int64) * ((w0).toInt64)) + (((81 : Int64) * (1 : Int64)) * (w1).toInt64)) + (((27 : Int64) * (4 : Int64)) * (w2).toInt64)) + (((9 : Int64) * (16 : Int64)) * (w3).toInt64)) + (((3 : Int64) * (64 : Int64)) * (w4).toInt64)) + (((1 : Int64) * (256 : Int64)) * (w5).toInt64)) + (0 : Int64)) + (0 : Int64)) + (0 : Int64)) + (0 : Int64))), .second] [.ref p460])) rfl (by rw [hml]; rfl) (Steps.refl _) (argsL := []) (rest := []) (lenOf pd__28_29D rfl) rfl (by show 2 * 0 + _ ≤ _; exact Nat.le_of_eq rfl) (hb hby at_741) (fun _ _ => ⟨rfl, e475, (by decide : 6 + 0 ≤ _), (by decide : 48 + 0 ≤ _)⟩)
  dsimp only [Pt.U, Pt.locs, Pt.cells, Pt.slots] at X476 l476 y476 z476 st476 hQ476
  have X476 := own_cs X476 6 48 y476 z476
  obtain ⟨rfl, N476q, e476⟩ := hQ476
  have N476 := own_N l476 N475 N476q
  refine own_k T476 744 [(.double (stp (FP.i2d w5) (stp (FP.i2d w4) (stp (FP.i2d w3) (stp (FP.i2d w2) (stp (FP.i2d w1) (FP.i2d w0)))))))] (fun t_ k_ => st476.trans k_) ?_
  refine o_aload 746 X476 hx (hb hby at_744) rfl rfl rfl ?_
  refine o_iload 748 X476 hx (hb hby at_746) rfl rfl ?_
  refine o_iconst 749 1 X476 hx (hb hby at_748) rfl rfl ?_
  refine own_j 750 [.int 5, .ref t4, (.double (stp (FP.i2d w5) (stp (FP.i2d w4) (stp (FP.i2d w3) (stp (FP.i2d w2) (stp (FP.i2d w1) (FP.i2d w0)))))))] (fun t_ k_ => XS.isub X476.here hx rfl (hb hby at_749) rfl k_) ?_
  obtain ⟨cl477, Ar477, q477, S477, Nn477, H477, G477⟩ := id A_t4
  have hin477 : ¬ ((5 : Int32) < 0 ∨ cl477.slots.size ≤ ((5 : Int32)).toNatClampNeg) := inb_of S477 ⟨by decide, by decide⟩
  refine own_j 751 [.long 1024, (.double (stp (FP.i2d w5) (stp (FP.i2d w4) (stp (FP.i2d w3) (stp (FP.i2d w2) (stp (FP.i2d w1) (FP.i2d w0)))))))] (fun t_ k_ => X476.laload hx (j := (5 : Int32)) (v := (.long 1024)) (by rw [e476]; exact Ar477.1) (State.isArrayOf_alike hZ.alike Ar477.2.1) Ar477.2.2 hin477 (H477.at hin477 rfl) (g := (mkF mM 750 #[.val (.int u0), .val (.long u1), .second, .val (.long u2), .second, .val (.long u3), .second, .val (.int 6), .val (.ref vv), .val (.ref t3), .val (.ref t4), .val (.ref aa), .val (.int 6), .val (.ref p460), .val (.int 0), .val (.long (((((((((((243 : Int64) * ((w0).toInt64)) + (((81 : Int64) * (1 : Int64)) * (w1).toInt64)) + (((27 : Int64) * (4 : Int64)) * (w2).toInt64)) + (((9 : Int64) * (16 : Int64)) * (w3).toInt64)) + (((3 : Int64) * (64 : Int64)) * (w4).toInt64)) + (((1 : Int64) * (256 : Int64)) * (w5).toInt64)) + (0 : Int64)) + (0 : Int64)) + (0 : Int64)) + (0 : Int64))), .second] [.int 5, .ref t4, (.double (stp (FP.i2d w5) (stp (FP.i2d w4) (stp (FP.i2d w3) (stp (FP.i2d w2) (stp (FP.i2d w1) (FP.i2d w0)))))))])) rfl rfl (hb hby at_750) t_ k_) ?_
  refine own_j 752 [(.double (FP.l2d (1024 : Int64))), (.double (stp (FP.i2d w5) (stp (FP.i2d w4) (stp (FP.i2d w3) (stp (FP.i2d w2) (stp (FP.i2d w1) (FP.i2d w0)))))))] (fun t_ k_ => XS.l2dS X476.here hx rfl (hb hby at_751) rfl rfl k_) ?_
  have av0 : Av (FP.i2d w0) w0.toInt 0 (32768 * 1) := own_av0 bl0 bu0
  obtain ⟨-, -, -, av1⟩ := own_stp (P := 1) bl1 bu1 av0 (by decide) (by decide) (by decide) (by decide)
  have av1 : Av (stp (FP.i2d w1) (FP.i2d w0)) (1 * w1.toInt + 3 * w0.toInt) 1 (32768 * 4) := av1
  obtain ⟨-, -, -, av2⟩ := own_stp (P := 4) bl2 bu2 av1 (by decide) (by decide) (by decide) (by decide)
  have av2 : Av (stp (FP.i2d w2) (stp (FP.i2d w1) (FP.i2d w0))) (4 * w2.toInt + 3 * (1 * w1.toInt + 3 * w0.toInt)) 2 (32768 * 16) := av2
  obtain ⟨-, -, -, av3⟩ := own_stp (P := 16) bl3 bu3 av2 (by decide) (by decide) (by decide) (by decide)
  have av3 : Av (stp (FP.i2d w3) (stp (FP.i2d w2) (stp (FP.i2d w1) (FP.i2d w0)))) (16 * w3.toInt + 3 * (4 * w2.toInt + 3 * (1 * w1.toInt + 3 * w0.toInt))) 3 (32768 * 64) := av3
  obtain ⟨-, -, -, av4⟩ := own_stp (P := 64) bl4 bu4 av3 (by decide) (by decide) (by decide) (by decide)
  have av4 : Av (stp (FP.i2d w4) (stp (FP.i2d w3) (stp (FP.i2d w2) (stp (FP.i2d w1) (FP.i2d w0))))) (64 * w4.toInt + 3 * (16 * w3.toInt + 3 * (4 * w2.toInt + 3 * (1 * w1.toInt + 3 * w0.toInt)))) 4 (32768 * 256) := av4
  obtain ⟨-, -, -, av5⟩ := own_stp (P := 256) bl5 bu5 av4 (by decide) (by decide) (by decide) (by decide)
  have av5 : Av (stp (FP.i2d w5) (stp (FP.i2d w4) (stp (FP.i2d w3) (stp (FP.i2d w2) (stp (FP.i2d w1) (FP.i2d w0)))))) (256 * w5.toInt + 3 * (64 * w4.toInt + 3 * (16 * w3.toInt + 3 * (4 * w2.toInt + 3 * (1 * w1.toInt + 3 * w0.toInt))))) 5 (32768 * 1024) := av5
  have sm1 := own_Lmul (x := w0) (c := 243) (C := 243) (by decide) (by decide) (by decide) bl0 bu0
  have tm2 := own_Lmul (x := w1) (c := (81 : Int64) * (1 : Int64)) (C := 81) (by decide) (by decide) (by decide) bl1 bu1
  have sm2 := own_Ladd sm1 tm2 (by omega) (by omega) (by omega) (by omega)
  have tm3 := own_Lmul (x := w2) (c := (27 : Int64) * (4 : Int64)) (C := 108) (by decide) (by decide) (by decide) bl2 bu2
  have sm3 := own_Ladd sm2 tm3 (by omega) (by omega) (by omega) (by omega)
  have tm4 := own_Lmul (x := w3) (c := (9 : Int64) * (16 : Int64)) (C := 144) (by decide) (by decide) (by decide) bl3 bu3
  have sm4 := own_Ladd sm3 tm4 (by omega) (by omega) (by omega) (by omega)
  have tm5 := own_Lmul (x := w4) (c := (3 : Int64) * (64 : Int64)) (C := 192) (by decide) (by decide) (by decide) bl4 bu4
  have sm5 := own_Ladd sm4 tm5 (by omega) (by omega) (by omega) (by omega)
  have tm6 := own_Lmul (x := w5) (c := (1 : Int64) * (256 : Int64)) (C := 256) (by decide) (by decide) (by decide) bl5 bu5
  have sm6 := own_Ladd sm5 tm6 (by omega) (by omega) (by omega) (by omega)
  have tm7 : (0 : Int64).toInt = 0 := by decide
  have sm7 := own_Ladd sm6 tm7 (by omega) (by omega) (by omega) (by omega)
  have tm8 : (0 : Int64).toInt = 0 := by decide
  have sm8 := own_Ladd sm7 tm8 (by omega) (by omega) (by omega) (by omega)
  have tm9 : (0 : Int64).toInt = 0 := by decide
  have sm9 := own_Ladd sm8 tm9 (by omega) (by omega) (by omega) (by omega)
  have tm10 : (0 : Int64).toInt = 0 := by decide
  have sm10 := own_Ladd sm9 tm10 (by omega) (by omega) (by omega) (by omega)
  have hs : ((((((((((((243 : Int64) * ((w0).toInt64)) + (((81 : Int64) * (1 : Int64)) * (w1).toInt64)) + (((27 : Int64) * (4 : Int64)) * (w2).toInt64)) + (((9 : Int64) * (16 : Int64)) * (w3).toInt64)) + (((3 : Int64) * (64 : Int64)) * (w4).toInt64)) + (((1 : Int64) * (256 : Int64)) * (w5).toInt64)) + (0 : Int64)) + (0 : Int64)) + (0 : Int64)) + (0 : Int64))).toInt = (256 * w5.toInt + 3 * (64 * w4.toInt + 3 * (16 * w3.toInt + 3 * (4 * w2.toInt + 3 * (1 * w1.toInt + 3 * w0.toInt))))) := sm10.trans (by omega)
  obtain ⟨nl, cl⟩ := own_last (p := 1024) av5 (by decide) (by decide) (by decide) (by decide) (by decide) hs
  refine own_j 753 [(.double (FP.dmul (stp (FP.i2d w5) (stp (FP.i2d w4) (stp (FP.i2d w3) (stp (FP.i2d w2) (stp (FP.i2d w1) (FP.i2d w0)))))) (FP.l2d (1024 : Int64))))] (fun t_ k_ => XS.dmulS X476.here hx rfl (hb hby at_752) rfl nl rfl k_) ?_
  refine o_lload 755 X476 hx (hb hby at_753) rfl rfl ?_
  refine own_j 756 [(.double (FP.l2d (((((((((((243 : Int64) * ((w0).toInt64)) + (((81 : Int64) * (1 : Int64)) * (w1).toInt64)) + (((27 : Int64) * (4 : Int64)) * (w2).toInt64)) + (((9 : Int64) * (16 : Int64)) * (w3).toInt64)) + (((3 : Int64) * (64 : Int64)) * (w4).toInt64)) + (((1 : Int64) * (256 : Int64)) * (w5).toInt64)) + (0 : Int64)) + (0 : Int64)) + (0 : Int64)) + (0 : Int64)))), (.double (FP.dmul (stp (FP.i2d w5) (stp (FP.i2d w4) (stp (FP.i2d w3) (stp (FP.i2d w2) (stp (FP.i2d w1) (FP.i2d w0)))))) (FP.l2d (1024 : Int64))))] (fun t_ k_ => XS.l2dS X476.here hx rfl (hb hby at_755) rfl rfl k_) ?_
  refine own_j 757 [.int 0] (fun t_ k_ => XS.dcmpS X476.here hx rfl (hb hby at_756) rfl (cl _) k_) ?_
  refine o_ifNo 760 X476 hx (hb hby at_757) ((if0 _ _).trans (teq (by decide : ((0 : Int32) = (0 : Int32)))).2) rfl ?_
  refine o_iconst 761 1 X476 hx (hb hby at_760) rfl rfl ?_
  refine o_goto 765 X476 hx (hb hby at_761) (by decide) ?_
  exact own_retN X476 hx hlk (t := .boolean) hret (by simp) (hb hby at_765) ⟨rfl, N476⟩ (by decide) (by decide)
theorem J278_7 (hw : own_tb a0 Z) (X0 : Stand pP lL eE room_1 sS mM args below meth cC T0 locs 5 46) (hx : pP.tables.exec = Jvm.exec) (hZ : Z.Warmed39 sS.vm) (hby : cC.code = code) (hml : cC.maxLocals = 17) (hown : sS.vm.findClass "com/example/gleanwork/gleanwork/schedule/RecentAverageAddPinLaw" = some mM.cls) (hlk : meth.locks = false) (hret : meth.sig.returnType = ret) (e0 : T0.heap = h0) (N0 : Fr n0 locs) (u0 : Int32) (u1 : Int64) (u2 : Int64) (u3 : Int64) (w0 : Int32) (w1 : Int32) (w2 : Int32) (w3 : Int32) (w4 : Int32) (w5 : Int32) (w6 : Int32) (w7 : Int32) (w8 : Int32) (w9 : Int32) (w10 : Int32) (w11 : Int32) (vv : Addr) (kv : ClassId) (t3 : Addr) (k3 : ClassId) (t4 : Addr) (k4 : ClassId) (aa : Addr) (dd : Addr) (kd : ClassId) (em : Addr) (O : Old Z n0 h0) (Zn : n0 ≤ h0.size) (g_aa : n0 ≤ aa) (g_dd : n0 ≤ dd) (A_vv : Arv Z h0 vv kv .int 12 [.int w0, .int w1, .int w2, .int w3, .int w4, .int w5, .int w6, .int w7, .int w8, .int w9, .int w10, .int w11] (.int 0)) (A_t3 : Arv Z h0 t3 k3 .long 10 [.long 1, .long 3, .long 9, .long 27, .long 81, .long 243, .long 729, .long 2187, .long 6561, .long 19683] (.long 0)) (A_t4 : Arv Z h0 t4 k4 .long 10 [.long 1, .long 4, .long 16, .long 64, .long 256, .long 1024, .long 4096, .long 16384, .long 65536, .long 262144] (.long 0)) (nq0 : vv ≠ aa) (nq1 : vv ≠ dd) (nq2 : t3 ≠ aa) (nq3 : t3 ≠ dd) (nq4 : t4 ≠ aa) (nq5 : t4 ≠ dd) (nq6 : aa ≠ dd) (ra : Ra Z h0 aa dd kd 0 0 0 [.double 0, .double 0, .double 0, .double 0, .double 0, .double 0, .double 0, .double 0, .double 0, .double 0]) (S_em : Sta Z Z.heap "java/util/OptionalDouble" "EMPTY" "Ljava/util/OptionalDouble;" (.ref em)) (E_em : Exa Z Z.heap em "java/util/OptionalDouble") (F_em : Fld Z Z.heap em "java/util/OptionalDouble" "isPresent" "Z" (.int 0)) (bl0 : -32768 ≤ w0.toInt) (bl1 : -32768 ≤ w1.toInt) (bl2 : -32768 ≤ w2.toInt) (bl3 : -32768 ≤ w3.toInt) (bl4 : -32768 ≤ w4.toInt) (bl5 : -32768 ≤ w5.toInt) (bl6 : -32768 ≤ w6.toInt) (bl7 : -32768 ≤ w7.toInt) (bl8 : -32768 ≤ w8.toInt) (bl9 : -32768 ≤ w9.toInt) (bl10 : -32768 ≤ w10.toInt) (bl11 : -32768 ≤ w11.toInt) (bu0 : w0.toInt ≤ 32768) (bu1 : w1.toInt ≤ 32768) (bu2 : w2.toInt ≤ 32768) (bu3 : w3.toInt ≤ 32768) (bu4 : w4.toInt ≤ 32768) (bu5 : w5.toInt ≤ 32768) (bu6 : w6.toInt ≤ 32768) (bu7 : w7.toInt ≤ 32768) (bu8 : w8.toInt ≤ 32768) (bu9 : w9.toInt ≤ 32768) (bu10 : w10.toInt ≤ 32768) (bu11 : w11.toInt ≤ 32768) :
    own_Go pP eE below sS (QLaw n0) 24 192 (T0.setTop (mkF mM 278 #[.val (.int u0), .val (.long u1), .second, .val (.long u2), .second, .val (.long u3), .second, .val (.int 7), .val (.ref vv), .val (.ref t3), .val (.ref t4), .val (.ref aa), .unset, .unset, .unset, .unset, .unset] [])) := by
  refine SA1 hw X0 hx hZ hby hml hown hlk hret e0 N0 u0 u1 u2 u3 7 w0 w1 w2 w3 w4 w5 w6 w7 w8 w9 w10 w11 vv kv t3 k3 t4 k4 aa dd kd O Zn g_aa g_dd A_vv A_t3 A_t4 nq0 nq1 nq2 nq3 nq4 nq5 nq6 ra bl0 bl1 bl2 bl3 bl4 bl5 bl6 bl7 bl8 bl9 bl10 bl11 bu0 bu1 bu2 bu3 bu4 bu5 bu6 bu7 bu8 bu9 bu10 bu11 (by decide) (fun T478 L478 h478 X478 e478 N478 O Zn A_vv A_t3 A_t4 ra => ?_)
  refine SA2 hw X478 hx hZ hby hml hown hlk hret e478 N478 u0 u1 u2 u3 7 w0 w1 w2 w3 w4 w5 w6 w7 w8 w9 w10 w11 vv kv t3 k3 t4 k4 aa dd kd O Zn g_aa g_dd A_vv A_t3 A_t4 nq0 nq1 nq2 nq3 nq4 nq5 nq6 ra bl0 bl1 bl2 bl3 bl4 bl5 bl6 bl7 bl8 bl9 bl10 bl11 bu0 bu1 bu2 bu3 bu4 bu5 bu6 bu7 bu8 bu9 bu10 bu11 (by decide) (fun T479 L479 h479 X479 e479 N479 O Zn A_vv A_t3 A_t4 ra => ?_)
  refine SA3 hw X479 hx hZ hby hml hown hlk hret e479 N479 u0 u1 u2 u3 7 w0 w1 w2 w3 w4 w5 w6 w7 w8 w9 w10 w11 vv kv t3 k3 t4 k4 aa dd kd O Zn g_aa g_dd A_vv A_t3 A_t4 nq0 nq1 nq2 nq3 nq4 nq5 nq6 ra bl0 bl1 bl2 bl3 bl4 bl5 bl6 bl7 bl8 bl9 bl10 bl11 bu0 bu1 bu2 bu3 bu4 bu5 bu6 bu7 bu8 bu9 bu10 bu11 (by decide) (fun T480 L480 h480 X480 e480 N480 O Zn A_vv A_t3 A_t4 ra => ?_)
  refine SA4 hw X480 hx hZ hby hml hown hlk hret e480 N480 u0 u1 u2 u3 7 w0 w1 w2 w3 w4 w5 w6 w7 w8 w9 w10 w11 vv kv t3 k3 t4 k4 aa dd kd O Zn g_aa g_dd A_vv A_t3 A_t4 nq0 nq1 nq2 nq3 nq4 nq5 nq6 ra bl0 bl1 bl2 bl3 bl4 bl5 bl6 bl7 bl8 bl9 bl10 bl11 bu0 bu1 bu2 bu3 bu4 bu5 bu6 bu7 bu8 bu9 bu10 bu11 (by decide) (fun T481 L481 h481 X481 e481 N481 O Zn A_vv A_t3 A_t4 ra => ?_)
  refine SA5 hw X481 hx hZ hby hml hown hlk hret e481 N481 u0 u1 u2 u3 7 w0 w1 w2 w3 w4 w5 w6 w7 w8 w9 w10 w11 vv kv t3 k3 t4 k4 aa dd kd O Zn g_aa g_dd A_vv A_t3 A_t4 nq0 nq1 nq2 nq3 nq4 nq5 nq6 ra bl0 bl1 bl2 bl3 bl4 bl5 bl6 bl7 bl8 bl9 bl10 bl11 bu0 bu1 bu2 bu3 bu4 bu5 bu6 bu7 bu8 bu9 bu10 bu11 (by decide) (fun T482 L482 h482 X482 e482 N482 O Zn A_vv A_t3 A_t4 ra => ?_)
  refine SA6 hw X482 hx hZ hby hml hown hlk hret e482 N482 u0 u1 u2 u3 7 w0 w1 w2 w3 w4 w5 w6 w7 w8 w9 w10 w11 vv kv t3 k3 t4 k4 aa dd kd O Zn g_aa g_dd A_vv A_t3 A_t4 nq0 nq1 nq2 nq3 nq4 nq5 nq6 ra bl0 bl1 bl2 bl3 bl4 bl5 bl6 bl7 bl8 bl9 bl10 bl11 bu0 bu1 bu2 bu3 bu4 bu5 bu6 bu7 bu8 bu9 bu10 bu11 (by decide) (fun T483 L483 h483 X483 e483 N483 O Zn A_vv A_t3 A_t4 ra => ?_)
  refine SA7 hw X483 hx hZ hby hml hown hlk hret e483 N483 u0 u1 u2 u3 7 w0 w1 w2 w3 w4 w5 w6 w7 w8 w9 w10 w11 vv kv t3 k3 t4 k4 aa dd kd O Zn g_aa g_dd A_vv A_t3 A_t4 nq0 nq1 nq2 nq3 nq4 nq5 nq6 ra bl0 bl1 bl2 bl3 bl4 bl5 bl6 bl7 bl8 bl9 bl10 bl11 bu0 bu1 bu2 bu3 bu4 bu5 bu6 bu7 bu8 bu9 bu10 bu11 (by decide) (fun T484 L484 h484 X484 e484 N484 O Zn A_vv A_t3 A_t4 ra => ?_)
  refine o_iload 395 X484 hx (hb hby at_393) rfl rfl ?_
  refine o_bipush 397 8 X484 hx (hb hby at_395) rfl rfl ?_
  refine o_icmpYes 411 X484 hx (hb hby at_397) (tlt (by decide : ((7 : Int32) < (8 : Int32)))).1 (by decide) ?_
  refine o_iload 413 X484 hx (hb hby at_411) rfl rfl ?_
  refine o_bipush 415 9 X484 hx (hb hby at_413) rfl rfl ?_
  refine o_icmpYes 429 X484 hx (hb hby at_415) (tlt (by decide : ((7 : Int32) < (9 : Int32)))).1 (by decide) ?_
  refine o_iload 431 X484 hx (hb hby at_429) rfl rfl ?_
  refine o_bipush 433 10 X484 hx (hb hby at_431) rfl rfl ?_
  refine o_icmpYes 447 X484 hx (hb hby at_433) (tlt (by decide : ((7 : Int32) < (10 : Int32)))).1 (by decide) ?_
  refine o_iload 449 X484 hx (hb hby at_447) rfl rfl ?_
  refine o_bipush 451 11 X484 hx (hb hby at_449) rfl rfl ?_
  refine o_icmpYes 465 X484 hx (hb hby at_451) (tlt (by decide : ((7 : Int32) < (11 : Int32)))).1 (by decide) ?_
  refine o_iload 467 X484 hx (hb hby at_465) rfl rfl ?_
  refine o_bipush 469 12 X484 hx (hb hby at_467) rfl rfl ?_
  refine o_icmpYes 483 X484 hx (hb hby at_469) (tlt (by decide : ((7 : Int32) < (12 : Int32)))).1 (by decide) ?_
  refine o_iload 485 X484 hx (hb hby at_483) rfl rfl ?_
  refine o_bipush 487 10 X484 hx (hb hby at_485) rfl rfl ?_
  obtain ⟨_, _, ⟨T485, L485, k485, n485⟩, -, X485, ⟨Lc485, hQ485, l485, y485, z485⟩, st485⟩ := Jvm.LawKit.callS X484 hx (y := yn3) hown (mvT hZ (ow hw 37 rfl)) (mvT hZ (ow hw 38 rfl)) (mvT hZ (ow hw 39 rfl)) (mvT hZ (ow hw 40 rfl)) (by decide) (backOf (W := 0) (rmM7 lL Z a0 hw []  h484 n0 ) hZ (ow hw 40 rfl) (ow hw 39 rfl) (by decide) (by decide)) (g := (mkF mM 487 #[.val (.int u0), .val (.long u1), .second, .val (.long u2), .second, .val (.long u3), .second, .val (.int 7), .val (.ref vv), .val (.ref t3), .val (.ref t4), .val (.ref aa), .unset, .unset, .unset, .unset, .unset] [.int 10, .int 7])) rfl (by rw [hml]; rfl) (argsL := [.int 7, .int 10]) (rest := []) (lenOf pd__28II_29I rfl) rfl (by show 2 * 0 + _ ≤ _; exact Nat.le_of_eq rfl) (hb hby at_487) (fun _ _ => ⟨rfl, e484, (by decide : 5 + 0 ≤ _), (by decide : 46 + 0 ≤ _)⟩)
  dsimp only [Pt.U, Pt.locs, Pt.cells, Pt.slots] at X485 l485 y485 z485 st485 hQ485
  have X485 := own_cs X485 5 46 y485 z485
  obtain ⟨rfl, N485q, e485⟩ := hQ485
  have N485 := own_N l485 N484 N485q
  refine own_k T485 490 [.int 7] st485 ?_
  let Lv486 : Array Slot := #[.val (.int u0), .val (.long u1), .second, .val (.long u2), .second, .val (.long u3), .second, .val (.int 7), .val (.ref vv), .val (.ref t3), .val (.ref t4), .val (.ref aa), .val (.int 7), .unset, .unset, .unset, .unset]
  refine own_st (A := T485.setTop (mkF mM 492 Lv486 [])) (fun t_ k_ => XS.istore X485.here hx rfl (hb hby at_490) rfl (l' := Lv486) rfl k_) ?_
  refine o_aload 494 X485 hx (hb hby at_492) rfl rfl rfl ?_
  obtain ⟨cq487, kq487, q487a, q487b, q487c⟩ := isOf hZ e485 ra.1
  obtain ⟨_, _, ⟨T487, L487, k487, n487⟩, -, X487, ⟨Lc487, hQ487, l487, y487, z487⟩, st487⟩ := X485.virtualBack hx (y := yn4) (z := yn4) hown (mvT hZ (ow hw 41 rfl)) (mvT hZ (ow hw 42 rfl)) (notFace_of_selects (args := #[]) (mvT hZ (ow hw 44 rfl))) (mvT hZ (ow hw 44 rfl)) (mvT hZ (ow hw 43 rfl)) (by decide) (backOf (W := 0) (rmC lL Z a0 hw [] aa 7 h484 n0 ra.2.2.1) hZ (ow hw 45 rfl) (ow hw 27 rfl) (by decide) (by decide)) q487a q487c (g := (mkF mM 494 Lv486 [.ref aa])) rfl (by rw [hml]; rfl) (Steps.refl _) (argsL := []) (rest := []) (lenOf pd__28_29I rfl) rfl (by show 2 * 0 + _ ≤ _; exact Nat.le_of_eq rfl) (hb hby at_494) (fun _ _ => ⟨rfl, e485, (by decide : 5 + 0 ≤ _), (by decide : 46 + 0 ≤ _)⟩)
  dsimp only [Pt.U, Pt.locs, Pt.cells, Pt.slots] at X487 l487 y487 z487 st487 hQ487
  have X487 := own_cs X487 5 46 y487 z487
  obtain ⟨rfl, N487q, e487⟩ := hQ487
  have N487 := own_N l487 N485 N487q
  refine own_k T487 497 [.int 7] (fun t_ k_ => st487.trans k_) ?_
  refine o_iload 499 X487 hx (hb hby at_497) rfl rfl ?_
  refine o_icmpYes 504 X487 hx (hb hby at_499) (teq (by decide : ((7 : Int32) = (7 : Int32)))).1 (by decide) ?_
  refine o_aload 506 X487 hx (hb hby at_504) rfl rfl rfl ?_
  obtain ⟨cq488, kq488, q488a, q488b, q488c⟩ := isOf hZ e487 ra.1
  obtain ⟨_, _, ⟨T488, L488, k488, n488⟩, -, X488, ⟨Lc488, hQ488, l488, y488, z488⟩, st488⟩ := X487.virtualBack hx (y := yn8) (z := yn8) hown (mvT hZ (ow hw 48 rfl)) (mvT hZ (ow hw 49 rfl)) (notFace_of_selects (args := #[]) (mvT hZ (ow hw 51 rfl))) (mvT hZ (ow hw 51 rfl)) (mvT hZ (ow hw 50 rfl)) (by decide) (backOf (W := 0) (rmV lL Z a0 hw [] aa 7 (stp (FP.i2d w6) (stp (FP.i2d w5) (stp (FP.i2d w4) (stp (FP.i2d w3) (stp (FP.i2d w2) (stp (FP.i2d w1) (FP.i2d w0))))))) h484 n0 Zn ra.2.2.1 ra.2.2.2.2.1 (by decide)) hZ (ow hw 52 rfl) (ow hw 27 rfl) (by decide) (by decide)) q488a q488c (g := (mkF mM 506 Lv486 [.ref aa])) rfl (by rw [hml]; rfl) (Steps.refl _) (argsL := []) (rest := []) (lenOf pd__28_29Ljava_2futil_2fOptionalDouble_3b rfl) rfl (by show 2 * 0 + _ ≤ _; exact Nat.le_of_eq rfl) (hb hby at_506) (fun _ _ => ⟨rfl, e487, (by decide : 5 + 1 ≤ _), (by decide : 46 + 2 ≤ _)⟩)
  dsimp only [Pt.U, Pt.locs, Pt.cells, Pt.slots] at X488 l488 y488 z488 st488 hQ488
  have X488 := own_cs X488 6 48 y488 z488
  obtain ⟨p488, rfl, N488q, E488, od⟩ := hQ488
  have N488 := own_N l488 N487 N488q
  have e488 : T488.heap = T488.heap := rfl
  refine own_k T488 509 [.ref p488] (fun t_ k_ => st488.trans k_) ?_
  have O := O.ext E488
  have A_vv := A_vv.ext E488
  have A_t3 := A_t3.ext E488
  have A_t4 := A_t4.ext E488
  have Zn := Nat.le_trans Zn E488.1
  let Lv489 : Array Slot := #[.val (.int u0), .val (.long u1), .second, .val (.long u2), .second, .val (.long u3), .second, .val (.int 7), .val (.ref vv), .val (.ref t3), .val (.ref t4), .val (.ref aa), .val (.int 7), .val (.ref p488), .unset, .unset, .unset]
  refine own_st (A := T488.setTop (mkF mM 511 Lv489 [])) (fun t_ k_ => XS.astore X488.here hx rfl (hb hby at_509) rfl rfl (l' := Lv489) rfl k_) ?_
  refine o_iload 513 X488 hx (hb hby at_511) rfl rfl ?_
  refine o_ifYes 530 X488 hx (hb hby at_513) ((if0 _ _).trans (feq (by decide : ¬ ((7 : Int32) = (0 : Int32)))).2) (by decide) ?_
  refine o_aload 532 X488 hx (hb hby at_530) rfl rfl rfl ?_
  obtain ⟨cq490, kq490, q490a, q490b, q490c⟩ := isOf hZ e488 od.1
  obtain ⟨_, _, ⟨T490, L490, k490, n490⟩, -, X490, ⟨Lc490, hQ490, l490, y490, z490⟩, st490⟩ := X488.virtualBack hx (y := yn9) (z := yn9) hown (mvT hZ (ow hw 58 rfl)) (mvT hZ (ow hw 59 rfl)) (notFace_of_selects (args := #[]) (mvT hZ (ow hw 61 rfl))) (mvT hZ (ow hw 61 rfl)) (mvT hZ (ow hw 60 rfl)) (by decide) (backOf (W := 0) (rmP1 lL Z a0 hw [] p488 T488.heap n0 od.2.1) hZ (ow hw 62 rfl) (ow hw 55 rfl) (by decide) (by decide)) q490a q490c (g := (mkF mM 532 Lv489 [.ref p488])) rfl (by rw [hml]; rfl) (Steps.refl _) (argsL := []) (rest := []) (lenOf pd__28_29Z rfl) rfl (by show 2 * 0 + _ ≤ _; exact Nat.le_of_eq rfl) (hb hby at_532) (fun _ _ => ⟨rfl, e488, (by decide : 6 + 0 ≤ _), (by decide : 48 + 0 ≤ _)⟩)
  dsimp only [Pt.U, Pt.locs, Pt.cells, Pt.slots] at X490 l490 y490 z490 st490 hQ490
  have X490 := own_cs X490 6 48 y490 z490
  obtain ⟨rfl, N490q, e490⟩ := hQ490
  have N490 := own_N l490 N488 N490q
  refine own_k T490 535 [.int 1] (fun t_ k_ => st490.trans k_) ?_
  refine o_ifYes 540 X490 hx (hb hby at_535) ((if0 _ _).trans (feq (by decide : ¬ ((1 : Int32) = (0 : Int32)))).2) (by decide) ?_
  refine o_iload 542 X490 hx (hb hby at_540) rfl rfl ?_
  refine o_iload 544 X490 hx (hb hby at_542) rfl rfl ?_
  refine own_j 545 [.int 0] (fun t_ k_ => XS.isub X490.here hx rfl (hb hby at_544) rfl k_) ?_
  let Lv491 : Array Slot := #[.val (.int u0), .val (.long u1), .second, .val (.long u2), .second, .val (.long u3), .second, .val (.int 7), .val (.ref vv), .val (.ref t3), .val (.ref t4), .val (.ref aa), .val (.int 7), .val (.ref p488), .val (.int 0), .unset, .unset]
  refine own_st (A := T490.setTop (mkF mM 547 Lv491 [])) (fun t_ k_ => XS.istore X490.here hx rfl (hb hby at_545) rfl (l' := Lv491) rfl k_) ?_
  refine o_aload 549 X490 hx (hb hby at_547) rfl rfl rfl ?_
  refine o_iload 551 X490 hx (hb hby at_549) rfl rfl ?_
  refine o_iconst 552 1 X490 hx (hb hby at_551) rfl rfl ?_
  refine own_j 553 [.int 6, .ref t3] (fun t_ k_ => XS.isub X490.here hx rfl (hb hby at_552) rfl k_) ?_
  obtain ⟨cl492, Ar492, q492, S492, Nn492, H492, G492⟩ := id A_t3
  have hin492 : ¬ ((6 : Int32) < 0 ∨ cl492.slots.size ≤ ((6 : Int32)).toNatClampNeg) := inb_of S492 ⟨by decide, by decide⟩
  refine own_j 554 [.long 729] (fun t_ k_ => X490.laload hx (j := (6 : Int32)) (v := (.long 729)) (by rw [e490]; exact Ar492.1) (State.isArrayOf_alike hZ.alike Ar492.2.1) Ar492.2.2 hin492 (H492.at hin492 rfl) (g := (mkF mM 553 Lv491 [.int 6, .ref t3])) rfl rfl (hb hby at_553) t_ k_) ?_
  refine o_aload 556 X490 hx (hb hby at_554) rfl rfl rfl ?_
  refine o_iload 558 X490 hx (hb hby at_556) rfl rfl ?_
  obtain ⟨cl493, Ar493, q493, S493, Nn493, H493, G493⟩ := id A_vv
  have hin493 : ¬ ((0 : Int32) < 0 ∨ cl493.slots.size ≤ ((0 : Int32)).toNatClampNeg) := inb_of S493 ⟨by decide, by decide⟩
  refine own_j 559 [.int w0, .long 729] (fun t_ k_ => X490.iaload hx (j := (0 : Int32)) (v := (.int w0)) (by rw [e490]; exact Ar493.1) (State.isArrayOf_alike hZ.alike Ar493.2.1) Ar493.2.2 hin493 (H493.at hin493 rfl) (g := (mkF mM 558 Lv491 [.int 0, .ref vv, .long 729])) rfl rfl (hb hby at_558) t_ k_) ?_
  refine own_j 560 [(.long ((w0).toInt64)), .long 729] (fun t_ k_ => XS.i2l X490.here hx rfl (hb hby at_559) rfl k_) ?_
  refine own_j 561 [(.long ((729 : Int64) * ((w0).toInt64)))] (fun t_ k_ => XS.lmul X490.here hx rfl (hb hby at_560) rfl k_) ?_
  let Lv494 : Array Slot := #[.val (.int u0), .val (.long u1), .second, .val (.long u2), .second, .val (.long u3), .second, .val (.int 7), .val (.ref vv), .val (.ref t3), .val (.ref t4), .val (.ref aa), .val (.int 7), .val (.ref p488), .val (.int 0), .val (.long ((729 : Int64) * ((w0).toInt64))), .second]
  refine own_st (A := T490.setTop (mkF mM 563 Lv494 [])) (fun t_ k_ => XS.lstore X490.here hx rfl (hb hby at_561) rfl (l' := Lv494) rfl k_) ?_
  refine ST2 hw X490 hx hZ hby hml hown hlk hret e490 N490 u0 u1 u2 u3 7 vv kv t3 k3 t4 k4 aa 7 p488 0 ((729 : Int64) * ((w0).toInt64)) _ _ _ 243 1 w1 A_vv A_t3 A_t4 (by decide) (by decide) (by decide) (by decide) rfl rfl rfl (fun T495 L495 X495 e495 N495 => ?_)
  refine ST3 hw X495 hx hZ hby hml hown hlk hret e495 N495 u0 u1 u2 u3 7 vv kv t3 k3 t4 k4 aa 7 p488 0 (((729 : Int64) * ((w0).toInt64)) + (((243 : Int64) * (1 : Int64)) * (w1).toInt64)) _ _ _ 81 4 w2 A_vv A_t3 A_t4 (by decide) (by decide) (by decide) (by decide) rfl rfl rfl (fun T496 L496 X496 e496 N496 => ?_)
  refine ST4 hw X496 hx hZ hby hml hown hlk hret e496 N496 u0 u1 u2 u3 7 vv kv t3 k3 t4 k4 aa 7 p488 0 ((((729 : Int64) * ((w0).toInt64)) + (((243 : Int64) * (1 : Int64)) * (w1).toInt64)) + (((81 : Int64) * (4 : Int64)) * (w2).toInt64)) _ _ _ 27 16 w3 A_vv A_t3 A_t4 (by decide) (by decide) (by decide) (by decide) rfl rfl rfl (fun T497 L497 X497 e497 N497 => ?_)
  refine ST5 hw X497 hx hZ hby hml hown hlk hret e497 N497 u0 u1 u2 u3 7 vv kv t3 k3 t4 k4 aa 7 p488 0 (((((729 : Int64) * ((w0).toInt64)) + (((243 : Int64) * (1 : Int64)) * (w1).toInt64)) + (((81 : Int64) * (4 : Int64)) * (w2).toInt64)) + (((27 : Int64) * (16 : Int64)) * (w3).toInt64)) _ _ _ 9 64 w4 A_vv A_t3 A_t4 (by decide) (by decide) (by decide) (by decide) rfl rfl rfl (fun T498 L498 X498 e498 N498 => ?_)
  refine ST6 hw X498 hx hZ hby hml hown hlk hret e498 N498 u0 u1 u2 u3 7 vv kv t3 k3 t4 k4 aa 7 p488 0 ((((((729 : Int64) * ((w0).toInt64)) + (((243 : Int64) * (1 : Int64)) * (w1).toInt64)) + (((81 : Int64) * (4 : Int64)) * (w2).toInt64)) + (((27 : Int64) * (16 : Int64)) * (w3).toInt64)) + (((9 : Int64) * (64 : Int64)) * (w4).toInt64)) _ _ _ 3 256 w5 A_vv A_t3 A_t4 (by decide) (by decide) (by decide) (by decide) rfl rfl rfl (fun T499 L499 X499 e499 N499 => ?_)
  refine ST7 hw X499 hx hZ hby hml hown hlk hret e499 N499 u0 u1 u2 u3 7 vv kv t3 k3 t4 k4 aa 7 p488 0 (((((((729 : Int64) * ((w0).toInt64)) + (((243 : Int64) * (1 : Int64)) * (w1).toInt64)) + (((81 : Int64) * (4 : Int64)) * (w2).toInt64)) + (((27 : Int64) * (16 : Int64)) * (w3).toInt64)) + (((9 : Int64) * (64 : Int64)) * (w4).toInt64)) + (((3 : Int64) * (256 : Int64)) * (w5).toInt64)) _ _ _ 1 1024 w6 A_vv A_t3 A_t4 (by decide) (by decide) (by decide) (by decide) rfl rfl rfl (fun T500 L500 X500 e500 N500 => ?_)
  refine SZ8 hw X500 hx hZ hby hml hown hlk hret e500 N500 u0 u1 u2 u3 7 vv kv t3 k3 t4 k4 aa 7 p488 0 ((((((((729 : Int64) * ((w0).toInt64)) + (((243 : Int64) * (1 : Int64)) * (w1).toInt64)) + (((81 : Int64) * (4 : Int64)) * (w2).toInt64)) + (((27 : Int64) * (16 : Int64)) * (w3).toInt64)) + (((9 : Int64) * (64 : Int64)) * (w4).toInt64)) + (((3 : Int64) * (256 : Int64)) * (w5).toInt64)) + (((1 : Int64) * (1024 : Int64)) * (w6).toInt64)) (by decide) (fun T501 L501 X501 e501 N501 => ?_)
  refine SZ9 hw X501 hx hZ hby hml hown hlk hret e501 N501 u0 u1 u2 u3 7 vv kv t3 k3 t4 k4 aa 7 p488 0 (((((((((729 : Int64) * ((w0).toInt64)) + (((243 : Int64) * (1 : Int64)) * (w1).toInt64)) + (((81 : Int64) * (4 : Int64)) * (w2).toInt64)) + (((27 : Int64) * (16 : Int64)) * (w3).toInt64)) + (((9 : Int64) * (64 : Int64)) * (w4).toInt64)) + (((3 : Int64) * (256 : Int64)) * (w5).toInt64)) + (((1 : Int64) * (1024 : Int64)) * (w6).toInt64)) + (0 : Int64)) (by decide) (fun T502 L502 X502 e502 N502 => ?_)
  refine SZ10 hw X502 hx hZ hby hml hown hlk hret e502 N502 u0 u1 u2 u3 7 vv kv t3 k3 t4 k4 aa 7 p488 0 ((((((((((729 : Int64) * ((w0).toInt64)) + (((243 : Int64) * (1 : Int64)) * (w1).toInt64)) + (((81 : Int64) * (4 : Int64)) * (w2).toInt64)) + (((27 : Int64) * (16 : Int64)) * (w3).toInt64)) + (((9 : Int64) * (64 : Int64)) * (w4).toInt64)) + (((3 : Int64) * (256 : Int64)) * (w5).toInt64)) + (((1 : Int64) * (1024 : Int64)) * (w6).toInt64)) + (0 : Int64)) + (0 : Int64)) (by decide) (fun T503 L503 X503 e503 N503 => ?_)
  refine o_aload 741 X503 hx (hb hby at_739) rfl rfl rfl ?_
  obtain ⟨cq504, kq504, q504a, q504b, q504c⟩ := isOf hZ e503 od.1
  obtain ⟨_, _, ⟨T504, L504, k504, n504⟩, -, X504, ⟨Lc504, hQ504, l504, y504, z504⟩, st504⟩ := X503.virtualBack hx (y := yn10) (z := yn10) hown (mvT hZ (ow hw 91 rfl)) (mvT hZ (ow hw 92 rfl)) (notFace_of_selects (args := #[]) (mvT hZ (ow hw 94 rfl))) (mvT hZ (ow hw 94 rfl)) (mvT hZ (ow hw 93 rfl)) (by decide) (backOf (W := 0) (rmG lL Z a0 hw [] p488 (stp (FP.i2d w6) (stp (FP.i2d w5) (stp (FP.i2d w4) (stp (FP.i2d w3) (stp (FP.i2d w2) (stp (FP.i2d w1) (FP.i2d w0))))))) T488.heap n0 od) hZ (ow hw 95 rfl) (ow hw 55 rfl) (by decide) (by decide)) q504a q504c (g := (mkF mM 741 #[.val (.int u0), .val (.long u1), .second, .val (.long u2), .second, .val (.long u3), .second, .val (.int 7), .val (.ref vv), .val (.ref t3), .val (.ref t4), .val (.ref aa), .val (.int 7), .val (.ref p488), .val (.int 0), .val (.long (((((((((((729 : Int64) * ((w0).toInt64)) + (((243 : Int64) * (1 : Int64)) * (w1).toInt64)) + (((81 : Int64) * (4 : Int64)) * (w2).toInt64)) + (((27 : Int64) * (16 : Int64)) * (w3).toInt64)) + (((9 : Int64) * (64 : Int64)) * (w4).toInt64)) + (((3 : Int64) * (256 : Int64)) * (w5).toInt64)) + (((1 : Int64) * (1024 : Int64)) * (w6).toInt64)) + (0 : Int64)) + (0 : Int64)) + (0 : Int64))), .second] [.ref p488])) rfl (by rw [hml]; rfl) (Steps.refl _) (argsL := []) (rest := []) (lenOf pd__28_29D rfl) rfl (by show 2 * 0 + _ ≤ _; exact Nat.le_of_eq rfl) (hb hby at_741) (fun _ _ => ⟨rfl, e503, (by decide : 6 + 0 ≤ _), (by decide : 48 + 0 ≤ _)⟩)
  dsimp only [Pt.U, Pt.locs, Pt.cells, Pt.slots] at X504 l504 y504 z504 st504 hQ504
  have X504 := own_cs X504 6 48 y504 z504
  obtain ⟨rfl, N504q, e504⟩ := hQ504
  have N504 := own_N l504 N503 N504q
  refine own_k T504 744 [(.double (stp (FP.i2d w6) (stp (FP.i2d w5) (stp (FP.i2d w4) (stp (FP.i2d w3) (stp (FP.i2d w2) (stp (FP.i2d w1) (FP.i2d w0))))))))] (fun t_ k_ => st504.trans k_) ?_
  refine o_aload 746 X504 hx (hb hby at_744) rfl rfl rfl ?_
  refine o_iload 748 X504 hx (hb hby at_746) rfl rfl ?_
  refine o_iconst 749 1 X504 hx (hb hby at_748) rfl rfl ?_
  refine own_j 750 [.int 6, .ref t4, (.double (stp (FP.i2d w6) (stp (FP.i2d w5) (stp (FP.i2d w4) (stp (FP.i2d w3) (stp (FP.i2d w2) (stp (FP.i2d w1) (FP.i2d w0))))))))] (fun t_ k_ => XS.isub X504.here hx rfl (hb hby at_749) rfl k_) ?_
  obtain ⟨cl505, Ar505, q505, S505, Nn505, H505, G505⟩ := id A_t4
  have hin505 : ¬ ((6 : Int32) < 0 ∨ cl505.slots.size ≤ ((6 : Int32)).toNatClampNeg) := inb_of S505 ⟨by decide, by decide⟩
  refine own_j 751 [.long 4096, (.double (stp (FP.i2d w6) (stp (FP.i2d w5) (stp (FP.i2d w4) (stp (FP.i2d w3) (stp (FP.i2d w2) (stp (FP.i2d w1) (FP.i2d w0))))))))] (fun t_ k_ => X504.laload hx (j := (6 : Int32)) (v := (.long 4096)) (by rw [e504]; exact Ar505.1) (State.isArrayOf_alike hZ.alike Ar505.2.1) Ar505.2.2 hin505 (H505.at hin505 rfl) (g := (mkF mM 750 #[.val (.int u0), .val (.long u1), .second, .val (.long u2), .second, .val (.long u3), .second, .val (.int 7), .val (.ref vv), .val (.ref t3), .val (.ref t4), .val (.ref aa), .val (.int 7), .val (.ref p488), .val (.int 0), .val (.long (((((((((((729 : Int64) * ((w0).toInt64)) + (((243 : Int64) * (1 : Int64)) * (w1).toInt64)) + (((81 : Int64) * (4 : Int64)) * (w2).toInt64)) + (((27 : Int64) * (16 : Int64)) * (w3).toInt64)) + (((9 : Int64) * (64 : Int64)) * (w4).toInt64)) + (((3 : Int64) * (256 : Int64)) * (w5).toInt64)) + (((1 : Int64) * (1024 : Int64)) * (w6).toInt64)) + (0 : Int64)) + (0 : Int64)) + (0 : Int64))), .second] [.int 6, .ref t4, (.double (stp (FP.i2d w6) (stp (FP.i2d w5) (stp (FP.i2d w4) (stp (FP.i2d w3) (stp (FP.i2d w2) (stp (FP.i2d w1) (FP.i2d w0))))))))])) rfl rfl (hb hby at_750) t_ k_) ?_
  refine own_j 752 [(.double (FP.l2d (4096 : Int64))), (.double (stp (FP.i2d w6) (stp (FP.i2d w5) (stp (FP.i2d w4) (stp (FP.i2d w3) (stp (FP.i2d w2) (stp (FP.i2d w1) (FP.i2d w0))))))))] (fun t_ k_ => XS.l2dS X504.here hx rfl (hb hby at_751) rfl rfl k_) ?_
  have av0 : Av (FP.i2d w0) w0.toInt 0 (32768 * 1) := own_av0 bl0 bu0
  obtain ⟨-, -, -, av1⟩ := own_stp (P := 1) bl1 bu1 av0 (by decide) (by decide) (by decide) (by decide)
  have av1 : Av (stp (FP.i2d w1) (FP.i2d w0)) (1 * w1.toInt + 3 * w0.toInt) 1 (32768 * 4) := av1
  obtain ⟨-, -, -, av2⟩ := own_stp (P := 4) bl2 bu2 av1 (by decide) (by decide) (by decide) (by decide)
  have av2 : Av (stp (FP.i2d w2) (stp (FP.i2d w1) (FP.i2d w0))) (4 * w2.toInt + 3 * (1 * w1.toInt + 3 * w0.toInt)) 2 (32768 * 16) := av2
  obtain ⟨-, -, -, av3⟩ := own_stp (P := 16) bl3 bu3 av2 (by decide) (by decide) (by decide) (by decide)
  have av3 : Av (stp (FP.i2d w3) (stp (FP.i2d w2) (stp (FP.i2d w1) (FP.i2d w0)))) (16 * w3.toInt + 3 * (4 * w2.toInt + 3 * (1 * w1.toInt + 3 * w0.toInt))) 3 (32768 * 64) := av3
  obtain ⟨-, -, -, av4⟩ := own_stp (P := 64) bl4 bu4 av3 (by decide) (by decide) (by decide) (by decide)
  have av4 : Av (stp (FP.i2d w4) (stp (FP.i2d w3) (stp (FP.i2d w2) (stp (FP.i2d w1) (FP.i2d w0))))) (64 * w4.toInt + 3 * (16 * w3.toInt + 3 * (4 * w2.toInt + 3 * (1 * w1.toInt + 3 * w0.toInt)))) 4 (32768 * 256) := av4
  obtain ⟨-, -, -, av5⟩ := own_stp (P := 256) bl5 bu5 av4 (by decide) (by decide) (by decide) (by decide)
  have av5 : Av (stp (FP.i2d w5) (stp (FP.i2d w4) (stp (FP.i2d w3) (stp (FP.i2d w2) (stp (FP.i2d w1) (FP.i2d w0)))))) (256 * w5.toInt + 3 * (64 * w4.toInt + 3 * (16 * w3.toInt + 3 * (4 * w2.toInt + 3 * (1 * w1.toInt + 3 * w0.toInt))))) 5 (32768 * 1024) := av5
  obtain ⟨-, -, -, av6⟩ := own_stp (P := 1024) bl6 bu6 av5 (by decide) (by decide) (by decide) (by decide)
  have av6 : Av (stp (FP.i2d w6) (stp (FP.i2d w5) (stp (FP.i2d w4) (stp (FP.i2d w3) (stp (FP.i2d w2) (stp (FP.i2d w1) (FP.i2d w0))))))) (1024 * w6.toInt + 3 * (256 * w5.toInt + 3 * (64 * w4.toInt + 3 * (16 * w3.toInt + 3 * (4 * w2.toInt + 3 * (1 * w1.toInt + 3 * w0.toInt)))))) 6 (32768 * 4096) := av6
  have sm1 := own_Lmul (x := w0) (c := 729) (C := 729) (by decide) (by decide) (by decide) bl0 bu0
  have tm2 := own_Lmul (x := w1) (c := (243 : Int64) * (1 : Int64)) (C := 243) (by decide) (by decide) (by decide) bl1 bu1
  have sm2 := own_Ladd sm1 tm2 (by omega) (by omega) (by omega) (by omega)
  have tm3 := own_Lmul (x := w2) (c := (81 : Int64) * (4 : Int64)) (C := 324) (by decide) (by decide) (by decide) bl2 bu2
  have sm3 := own_Ladd sm2 tm3 (by omega) (by omega) (by omega) (by omega)
  have tm4 := own_Lmul (x := w3) (c := (27 : Int64) * (16 : Int64)) (C := 432) (by decide) (by decide) (by decide) bl3 bu3
  have sm4 := own_Ladd sm3 tm4 (by omega) (by omega) (by omega) (by omega)
  have tm5 := own_Lmul (x := w4) (c := (9 : Int64) * (64 : Int64)) (C := 576) (by decide) (by decide) (by decide) bl4 bu4
  have sm5 := own_Ladd sm4 tm5 (by omega) (by omega) (by omega) (by omega)
  have tm6 := own_Lmul (x := w5) (c := (3 : Int64) * (256 : Int64)) (C := 768) (by decide) (by decide) (by decide) bl5 bu5
  have sm6 := own_Ladd sm5 tm6 (by omega) (by omega) (by omega) (by omega)
  have tm7 := own_Lmul (x := w6) (c := (1 : Int64) * (1024 : Int64)) (C := 1024) (by decide) (by decide) (by decide) bl6 bu6
  have sm7 := own_Ladd sm6 tm7 (by omega) (by omega) (by omega) (by omega)
  have tm8 : (0 : Int64).toInt = 0 := by decide
  have sm8 := own_Ladd sm7 tm8 (by omega) (by omega) (by omega) (by omega)
  have tm9 : (0 : Int64).toInt = 0 := by decide
  have sm9 := own_Ladd sm8 tm9 (by omega) (by omega) (by omega) (by omega)
  have tm10 : (0 : Int64).toInt = 0 := by decide
  have sm10 := own_Ladd sm9 tm10 (by omega) (by omega) (by omega) (by omega)
  have hs : ((((((((((((729 : Int64) * ((w0).toInt64)) + (((243 : Int64) * (1 : Int64)) * (w1).toInt64)) + (((81 : Int64) * (4 : Int64)) * (w2).toInt64)) + (((27 : Int64) * (16 : Int64)) * (w3).toInt64)) + (((9 : Int64) * (64 : Int64)) * (w4).toInt64)) + (((3 : Int64) * (256 : Int64)) * (w5).toInt64)) + (((1 : Int64) * (1024 : Int64)) * (w6).toInt64)) + (0 : Int64)) + (0 : Int64)) + (0 : Int64))).toInt = (1024 * w6.toInt + 3 * (256 * w5.toInt + 3 * (64 * w4.toInt + 3 * (16 * w3.toInt + 3 * (4 * w2.toInt + 3 * (1 * w1.toInt + 3 * w0.toInt)))))) := sm10.trans (by omega)
  obtain ⟨nl, cl⟩ := own_last (p := 4096) av6 (by decide) (by decide) (by decide) (by decide) (by decide) hs
  refine own_j 753 [(.double (FP.dmul (stp (FP.i2d w6) (stp (FP.i2d w5) (stp (FP.i2d w4) (stp (FP.i2d w3) (stp (FP.i2d w2) (stp (FP.i2d w1) (FP.i2d w0))))))) (FP.l2d (4096 : Int64))))] (fun t_ k_ => XS.dmulS X504.here hx rfl (hb hby at_752) rfl nl rfl k_) ?_
  refine o_lload 755 X504 hx (hb hby at_753) rfl rfl ?_
  refine own_j 756 [(.double (FP.l2d (((((((((((729 : Int64) * ((w0).toInt64)) + (((243 : Int64) * (1 : Int64)) * (w1).toInt64)) + (((81 : Int64) * (4 : Int64)) * (w2).toInt64)) + (((27 : Int64) * (16 : Int64)) * (w3).toInt64)) + (((9 : Int64) * (64 : Int64)) * (w4).toInt64)) + (((3 : Int64) * (256 : Int64)) * (w5).toInt64)) + (((1 : Int64) * (1024 : Int64)) * (w6).toInt64)) + (0 : Int64)) + (0 : Int64)) + (0 : Int64)))), (.double (FP.dmul (stp (FP.i2d w6) (stp (FP.i2d w5) (stp (FP.i2d w4) (stp (FP.i2d w3) (stp (FP.i2d w2) (stp (FP.i2d w1) (FP.i2d w0))))))) (FP.l2d (4096 : Int64))))] (fun t_ k_ => XS.l2dS X504.here hx rfl (hb hby at_755) rfl rfl k_) ?_
  refine own_j 757 [.int 0] (fun t_ k_ => XS.dcmpS X504.here hx rfl (hb hby at_756) rfl (cl _) k_) ?_
  refine o_ifNo 760 X504 hx (hb hby at_757) ((if0 _ _).trans (teq (by decide : ((0 : Int32) = (0 : Int32)))).2) rfl ?_
  refine o_iconst 761 1 X504 hx (hb hby at_760) rfl rfl ?_
  refine o_goto 765 X504 hx (hb hby at_761) (by decide) ?_
  exact own_retN X504 hx hlk (t := .boolean) hret (by simp) (hb hby at_765) ⟨rfl, N504⟩ (by decide) (by decide)
theorem J278_8 (hw : own_tb a0 Z) (X0 : Stand pP lL eE room_1 sS mM args below meth cC T0 locs 5 46) (hx : pP.tables.exec = Jvm.exec) (hZ : Z.Warmed39 sS.vm) (hby : cC.code = code) (hml : cC.maxLocals = 17) (hown : sS.vm.findClass "com/example/gleanwork/gleanwork/schedule/RecentAverageAddPinLaw" = some mM.cls) (hlk : meth.locks = false) (hret : meth.sig.returnType = ret) (e0 : T0.heap = h0) (N0 : Fr n0 locs) (u0 : Int32) (u1 : Int64) (u2 : Int64) (u3 : Int64) (w0 : Int32) (w1 : Int32) (w2 : Int32) (w3 : Int32) (w4 : Int32) (w5 : Int32) (w6 : Int32) (w7 : Int32) (w8 : Int32) (w9 : Int32) (w10 : Int32) (w11 : Int32) (vv : Addr) (kv : ClassId) (t3 : Addr) (k3 : ClassId) (t4 : Addr) (k4 : ClassId) (aa : Addr) (dd : Addr) (kd : ClassId) (em : Addr) (O : Old Z n0 h0) (Zn : n0 ≤ h0.size) (g_aa : n0 ≤ aa) (g_dd : n0 ≤ dd) (A_vv : Arv Z h0 vv kv .int 12 [.int w0, .int w1, .int w2, .int w3, .int w4, .int w5, .int w6, .int w7, .int w8, .int w9, .int w10, .int w11] (.int 0)) (A_t3 : Arv Z h0 t3 k3 .long 10 [.long 1, .long 3, .long 9, .long 27, .long 81, .long 243, .long 729, .long 2187, .long 6561, .long 19683] (.long 0)) (A_t4 : Arv Z h0 t4 k4 .long 10 [.long 1, .long 4, .long 16, .long 64, .long 256, .long 1024, .long 4096, .long 16384, .long 65536, .long 262144] (.long 0)) (nq0 : vv ≠ aa) (nq1 : vv ≠ dd) (nq2 : t3 ≠ aa) (nq3 : t3 ≠ dd) (nq4 : t4 ≠ aa) (nq5 : t4 ≠ dd) (nq6 : aa ≠ dd) (ra : Ra Z h0 aa dd kd 0 0 0 [.double 0, .double 0, .double 0, .double 0, .double 0, .double 0, .double 0, .double 0, .double 0, .double 0]) (S_em : Sta Z Z.heap "java/util/OptionalDouble" "EMPTY" "Ljava/util/OptionalDouble;" (.ref em)) (E_em : Exa Z Z.heap em "java/util/OptionalDouble") (F_em : Fld Z Z.heap em "java/util/OptionalDouble" "isPresent" "Z" (.int 0)) (bl0 : -32768 ≤ w0.toInt) (bl1 : -32768 ≤ w1.toInt) (bl2 : -32768 ≤ w2.toInt) (bl3 : -32768 ≤ w3.toInt) (bl4 : -32768 ≤ w4.toInt) (bl5 : -32768 ≤ w5.toInt) (bl6 : -32768 ≤ w6.toInt) (bl7 : -32768 ≤ w7.toInt) (bl8 : -32768 ≤ w8.toInt) (bl9 : -32768 ≤ w9.toInt) (bl10 : -32768 ≤ w10.toInt) (bl11 : -32768 ≤ w11.toInt) (bu0 : w0.toInt ≤ 32768) (bu1 : w1.toInt ≤ 32768) (bu2 : w2.toInt ≤ 32768) (bu3 : w3.toInt ≤ 32768) (bu4 : w4.toInt ≤ 32768) (bu5 : w5.toInt ≤ 32768) (bu6 : w6.toInt ≤ 32768) (bu7 : w7.toInt ≤ 32768) (bu8 : w8.toInt ≤ 32768) (bu9 : w9.toInt ≤ 32768) (bu10 : w10.toInt ≤ 32768) (bu11 : w11.toInt ≤ 32768) :
    own_Go pP eE below sS (QLaw n0) 24 192 (T0.setTop (mkF mM 278 #[.val (.int u0), .val (.long u1), .second, .val (.long u2), .second, .val (.long u3), .second, .val (.int 8), .val (.ref vv), .val (.ref t3), .val (.ref t4), .val (.ref aa), .unset, .unset, .unset, .unset, .unset] [])) := by
  refine SA1 hw X0 hx hZ hby hml hown hlk hret e0 N0 u0 u1 u2 u3 8 w0 w1 w2 w3 w4 w5 w6 w7 w8 w9 w10 w11 vv kv t3 k3 t4 k4 aa dd kd O Zn g_aa g_dd A_vv A_t3 A_t4 nq0 nq1 nq2 nq3 nq4 nq5 nq6 ra bl0 bl1 bl2 bl3 bl4 bl5 bl6 bl7 bl8 bl9 bl10 bl11 bu0 bu1 bu2 bu3 bu4 bu5 bu6 bu7 bu8 bu9 bu10 bu11 (by decide) (fun T506 L506 h506 X506 e506 N506 O Zn A_vv A_t3 A_t4 ra => ?_)
  refine SA2 hw X506 hx hZ hby hml hown hlk hret e506 N506 u0 u1 u2 u3 8 w0 w1 w2 w3 w4 w5 w6 w7 w8 w9 w10 w11 vv kv t3 k3 t4 k4 aa dd kd O Zn g_aa g_dd A_vv A_t3 A_t4 nq0 nq1 nq2 nq3 nq4 nq5 nq6 ra bl0 bl1 bl2 bl3 bl4 bl5 bl6 bl7 bl8 bl9 bl10 bl11 bu0 bu1 bu2 bu3 bu4 bu5 bu6 bu7 bu8 bu9 bu10 bu11 (by decide) (fun T507 L507 h507 X507 e507 N507 O Zn A_vv A_t3 A_t4 ra => ?_)
  refine SA3 hw X507 hx hZ hby hml hown hlk hret e507 N507 u0 u1 u2 u3 8 w0 w1 w2 w3 w4 w5 w6 w7 w8 w9 w10 w11 vv kv t3 k3 t4 k4 aa dd kd O Zn g_aa g_dd A_vv A_t3 A_t4 nq0 nq1 nq2 nq3 nq4 nq5 nq6 ra bl0 bl1 bl2 bl3 bl4 bl5 bl6 bl7 bl8 bl9 bl10 bl11 bu0 bu1 bu2 bu3 bu4 bu5 bu6 bu7 bu8 bu9 bu10 bu11 (by decide) (fun T508 L508 h508 X508 e508 N508 O Zn A_vv A_t3 A_t4 ra => ?_)
  refine SA4 hw X508 hx hZ hby hml hown hlk hret e508 N508 u0 u1 u2 u3 8 w0 w1 w2 w3 w4 w5 w6 w7 w8 w9 w10 w11 vv kv t3 k3 t4 k4 aa dd kd O Zn g_aa g_dd A_vv A_t3 A_t4 nq0 nq1 nq2 nq3 nq4 nq5 nq6 ra bl0 bl1 bl2 bl3 bl4 bl5 bl6 bl7 bl8 bl9 bl10 bl11 bu0 bu1 bu2 bu3 bu4 bu5 bu6 bu7 bu8 bu9 bu10 bu11 (by decide) (fun T509 L509 h509 X509 e509 N509 O Zn A_vv A_t3 A_t4 ra => ?_)
  refine SA5 hw X509 hx hZ hby hml hown hlk hret e509 N509 u0 u1 u2 u3 8 w0 w1 w2 w3 w4 w5 w6 w7 w8 w9 w10 w11 vv kv t3 k3 t4 k4 aa dd kd O Zn g_aa g_dd A_vv A_t3 A_t4 nq0 nq1 nq2 nq3 nq4 nq5 nq6 ra bl0 bl1 bl2 bl3 bl4 bl5 bl6 bl7 bl8 bl9 bl10 bl11 bu0 bu1 bu2 bu3 bu4 bu5 bu6 bu7 bu8 bu9 bu10 bu11 (by decide) (fun T510 L510 h510 X510 e510 N510 O Zn A_vv A_t3 A_t4 ra => ?_)
  refine SA6 hw X510 hx hZ hby hml hown hlk hret e510 N510 u0 u1 u2 u3 8 w0 w1 w2 w3 w4 w5 w6 w7 w8 w9 w10 w11 vv kv t3 k3 t4 k4 aa dd kd O Zn g_aa g_dd A_vv A_t3 A_t4 nq0 nq1 nq2 nq3 nq4 nq5 nq6 ra bl0 bl1 bl2 bl3 bl4 bl5 bl6 bl7 bl8 bl9 bl10 bl11 bu0 bu1 bu2 bu3 bu4 bu5 bu6 bu7 bu8 bu9 bu10 bu11 (by decide) (fun T511 L511 h511 X511 e511 N511 O Zn A_vv A_t3 A_t4 ra => ?_)
  refine SA7 hw X511 hx hZ hby hml hown hlk hret e511 N511 u0 u1 u2 u3 8 w0 w1 w2 w3 w4 w5 w6 w7 w8 w9 w10 w11 vv kv t3 k3 t4 k4 aa dd kd O Zn g_aa g_dd A_vv A_t3 A_t4 nq0 nq1 nq2 nq3 nq4 nq5 nq6 ra bl0 bl1 bl2 bl3 bl4 bl5 bl6 bl7 bl8 bl9 bl10 bl11 bu0 bu1 bu2 bu3 bu4 bu5 bu6 bu7 bu8 bu9 bu10 bu11 (by decide) (fun T512 L512 h512 X512 e512 N512 O Zn A_vv A_t3 A_t4 ra => ?_)
  refine SA8 hw X512 hx hZ hby hml hown hlk hret e512 N512 u0 u1 u2 u3 8 w0 w1 w2 w3 w4 w5 w6 w7 w8 w9 w10 w11 vv kv t3 k3 t4 k4 aa dd kd O Zn g_aa g_dd A_vv A_t3 A_t4 nq0 nq1 nq2 nq3 nq4 nq5 nq6 ra bl0 bl1 bl2 bl3 bl4 bl5 bl6 bl7 bl8 bl9 bl10 bl11 bu0 bu1 bu2 bu3 bu4 bu5 bu6 bu7 bu8 bu9 bu10 bu11 (by decide) (fun T513 L513 h513 X513 e513 N513 O Zn A_vv A_t3 A_t4 ra => ?_)
  refine o_iload 413 X513 hx (hb hby at_411) rfl rfl ?_
  refine o_bipush 415 9 X513 hx (hb hby at_413) rfl rfl ?_
  refine o_icmpYes 429 X513 hx (hb hby at_415) (tlt (by decide : ((8 : Int32) < (9 : Int32)))).1 (by decide) ?_
  refine o_iload 431 X513 hx (hb hby at_429) rfl rfl ?_
  refine o_bipush 433 10 X513 hx (hb hby at_431) rfl rfl ?_
  refine o_icmpYes 447 X513 hx (hb hby at_433) (tlt (by decide : ((8 : Int32) < (10 : Int32)))).1 (by decide) ?_
  refine o_iload 449 X513 hx (hb hby at_447) rfl rfl ?_
  refine o_bipush 451 11 X513 hx (hb hby at_449) rfl rfl ?_
  refine o_icmpYes 465 X513 hx (hb hby at_451) (tlt (by decide : ((8 : Int32) < (11 : Int32)))).1 (by decide) ?_
  refine o_iload 467 X513 hx (hb hby at_465) rfl rfl ?_
  refine o_bipush 469 12 X513 hx (hb hby at_467) rfl rfl ?_
  refine o_icmpYes 483 X513 hx (hb hby at_469) (tlt (by decide : ((8 : Int32) < (12 : Int32)))).1 (by decide) ?_
  refine o_iload 485 X513 hx (hb hby at_483) rfl rfl ?_
  refine o_bipush 487 10 X513 hx (hb hby at_485) rfl rfl ?_
  obtain ⟨_, _, ⟨T514, L514, k514, n514⟩, -, X514, ⟨Lc514, hQ514, l514, y514, z514⟩, st514⟩ := Jvm.LawKit.callS X513 hx (y := yn3) hown (mvT hZ (ow hw 37 rfl)) (mvT hZ (ow hw 38 rfl)) (mvT hZ (ow hw 39 rfl)) (mvT hZ (ow hw 40 rfl)) (by decide) (backOf (W := 0) (rmM8 lL Z a0 hw []  h513 n0 ) hZ (ow hw 40 rfl) (ow hw 39 rfl) (by decide) (by decide)) (g := (mkF mM 487 #[.val (.int u0), .val (.long u1), .second, .val (.long u2), .second, .val (.long u3), .second, .val (.int 8), .val (.ref vv), .val (.ref t3), .val (.ref t4), .val (.ref aa), .unset, .unset, .unset, .unset, .unset] [.int 10, .int 8])) rfl (by rw [hml]; rfl) (argsL := [.int 8, .int 10]) (rest := []) (lenOf pd__28II_29I rfl) rfl (by show 2 * 0 + _ ≤ _; exact Nat.le_of_eq rfl) (hb hby at_487) (fun _ _ => ⟨rfl, e513, (by decide : 5 + 0 ≤ _), (by decide : 46 + 0 ≤ _)⟩)
  dsimp only [Pt.U, Pt.locs, Pt.cells, Pt.slots] at X514 l514 y514 z514 st514 hQ514
  have X514 := own_cs X514 5 46 y514 z514
  obtain ⟨rfl, N514q, e514⟩ := hQ514
  have N514 := own_N l514 N513 N514q
  refine own_k T514 490 [.int 8] st514 ?_
  let Lv515 : Array Slot := #[.val (.int u0), .val (.long u1), .second, .val (.long u2), .second, .val (.long u3), .second, .val (.int 8), .val (.ref vv), .val (.ref t3), .val (.ref t4), .val (.ref aa), .val (.int 8), .unset, .unset, .unset, .unset]
  refine own_st (A := T514.setTop (mkF mM 492 Lv515 [])) (fun t_ k_ => XS.istore X514.here hx rfl (hb hby at_490) rfl (l' := Lv515) rfl k_) ?_
  refine o_aload 494 X514 hx (hb hby at_492) rfl rfl rfl ?_
  obtain ⟨cq516, kq516, q516a, q516b, q516c⟩ := isOf hZ e514 ra.1
  obtain ⟨_, _, ⟨T516, L516, k516, n516⟩, -, X516, ⟨Lc516, hQ516, l516, y516, z516⟩, st516⟩ := X514.virtualBack hx (y := yn4) (z := yn4) hown (mvT hZ (ow hw 41 rfl)) (mvT hZ (ow hw 42 rfl)) (notFace_of_selects (args := #[]) (mvT hZ (ow hw 44 rfl))) (mvT hZ (ow hw 44 rfl)) (mvT hZ (ow hw 43 rfl)) (by decide) (backOf (W := 0) (rmC lL Z a0 hw [] aa 8 h513 n0 ra.2.2.1) hZ (ow hw 45 rfl) (ow hw 27 rfl) (by decide) (by decide)) q516a q516c (g := (mkF mM 494 Lv515 [.ref aa])) rfl (by rw [hml]; rfl) (Steps.refl _) (argsL := []) (rest := []) (lenOf pd__28_29I rfl) rfl (by show 2 * 0 + _ ≤ _; exact Nat.le_of_eq rfl) (hb hby at_494) (fun _ _ => ⟨rfl, e514, (by decide : 5 + 0 ≤ _), (by decide : 46 + 0 ≤ _)⟩)
  dsimp only [Pt.U, Pt.locs, Pt.cells, Pt.slots] at X516 l516 y516 z516 st516 hQ516
  have X516 := own_cs X516 5 46 y516 z516
  obtain ⟨rfl, N516q, e516⟩ := hQ516
  have N516 := own_N l516 N514 N516q
  refine own_k T516 497 [.int 8] (fun t_ k_ => st516.trans k_) ?_
  refine o_iload 499 X516 hx (hb hby at_497) rfl rfl ?_
  refine o_icmpYes 504 X516 hx (hb hby at_499) (teq (by decide : ((8 : Int32) = (8 : Int32)))).1 (by decide) ?_
  refine o_aload 506 X516 hx (hb hby at_504) rfl rfl rfl ?_
  obtain ⟨cq517, kq517, q517a, q517b, q517c⟩ := isOf hZ e516 ra.1
  obtain ⟨_, _, ⟨T517, L517, k517, n517⟩, -, X517, ⟨Lc517, hQ517, l517, y517, z517⟩, st517⟩ := X516.virtualBack hx (y := yn8) (z := yn8) hown (mvT hZ (ow hw 48 rfl)) (mvT hZ (ow hw 49 rfl)) (notFace_of_selects (args := #[]) (mvT hZ (ow hw 51 rfl))) (mvT hZ (ow hw 51 rfl)) (mvT hZ (ow hw 50 rfl)) (by decide) (backOf (W := 0) (rmV lL Z a0 hw [] aa 8 (stp (FP.i2d w7) (stp (FP.i2d w6) (stp (FP.i2d w5) (stp (FP.i2d w4) (stp (FP.i2d w3) (stp (FP.i2d w2) (stp (FP.i2d w1) (FP.i2d w0)))))))) h513 n0 Zn ra.2.2.1 ra.2.2.2.2.1 (by decide)) hZ (ow hw 52 rfl) (ow hw 27 rfl) (by decide) (by decide)) q517a q517c (g := (mkF mM 506 Lv515 [.ref aa])) rfl (by rw [hml]; rfl) (Steps.refl _) (argsL := []) (rest := []) (lenOf pd__28_29Ljava_2futil_2fOptionalDouble_3b rfl) rfl (by show 2 * 0 + _ ≤ _; exact Nat.le_of_eq rfl) (hb hby at_506) (fun _ _ => ⟨rfl, e516, (by decide : 5 + 1 ≤ _), (by decide : 46 + 2 ≤ _)⟩)
  dsimp only [Pt.U, Pt.locs, Pt.cells, Pt.slots] at X517 l517 y517 z517 st517 hQ517
  have X517 := own_cs X517 6 48 y517 z517
  obtain ⟨p517, rfl, N517q, E517, od⟩ := hQ517
  have N517 := own_N l517 N516 N517q
  have e517 : T517.heap = T517.heap := rfl
  refine own_k T517 509 [.ref p517] (fun t_ k_ => st517.trans k_) ?_
  have O := O.ext E517
  have A_vv := A_vv.ext E517
  have A_t3 := A_t3.ext E517
  have A_t4 := A_t4.ext E517
  have Zn := Nat.le_trans Zn E517.1
  let Lv518 : Array Slot := #[.val (.int u0), .val (.long u1), .second, .val (.long u2), .second, .val (.long u3), .second, .val (.int 8), .val (.ref vv), .val (.ref t3), .val (.ref t4), .val (.ref aa), .val (.int 8), .val (.ref p517), .unset, .unset, .unset]
  refine own_st (A := T517.setTop (mkF mM 511 Lv518 [])) (fun t_ k_ => XS.astore X517.here hx rfl (hb hby at_509) rfl rfl (l' := Lv518) rfl k_) ?_
  refine o_iload 513 X517 hx (hb hby at_511) rfl rfl ?_
  refine o_ifYes 530 X517 hx (hb hby at_513) ((if0 _ _).trans (feq (by decide : ¬ ((8 : Int32) = (0 : Int32)))).2) (by decide) ?_
  refine o_aload 532 X517 hx (hb hby at_530) rfl rfl rfl ?_
  obtain ⟨cq519, kq519, q519a, q519b, q519c⟩ := isOf hZ e517 od.1
  obtain ⟨_, _, ⟨T519, L519, k519, n519⟩, -, X519, ⟨Lc519, hQ519, l519, y519, z519⟩, st519⟩ := X517.virtualBack hx (y := yn9) (z := yn9) hown (mvT hZ (ow hw 58 rfl)) (mvT hZ (ow hw 59 rfl)) (notFace_of_selects (args := #[]) (mvT hZ (ow hw 61 rfl))) (mvT hZ (ow hw 61 rfl)) (mvT hZ (ow hw 60 rfl)) (by decide) (backOf (W := 0) (rmP1 lL Z a0 hw [] p517 T517.heap n0 od.2.1) hZ (ow hw 62 rfl) (ow hw 55 rfl) (by decide) (by decide)) q519a q519c (g := (mkF mM 532 Lv518 [.ref p517])) rfl (by rw [hml]; rfl) (Steps.refl _) (argsL := []) (rest := []) (lenOf pd__28_29Z rfl) rfl (by show 2 * 0 + _ ≤ _; exact Nat.le_of_eq rfl) (hb hby at_532) (fun _ _ => ⟨rfl, e517, (by decide : 6 + 0 ≤ _), (by decide : 48 + 0 ≤ _)⟩)
  dsimp only [Pt.U, Pt.locs, Pt.cells, Pt.slots] at X519 l519 y519 z519 st519 hQ519
  have X519 := own_cs X519 6 48 y519 z519
  obtain ⟨rfl, N519q, e519⟩ := hQ519
  have N519 := own_N l519 N517 N519q
  refine own_k T519 535 [.int 1] (fun t_ k_ => st519.trans k_) ?_
  refine o_ifYes 540 X519 hx (hb hby at_535) ((if0 _ _).trans (feq (by decide : ¬ ((1 : Int32) = (0 : Int32)))).2) (by decide) ?_
  refine o_iload 542 X519 hx (hb hby at_540) rfl rfl ?_
  refine o_iload 544 X519 hx (hb hby at_542) rfl rfl ?_
  refine own_j 545 [.int 0] (fun t_ k_ => XS.isub X519.here hx rfl (hb hby at_544) rfl k_) ?_
  let Lv520 : Array Slot := #[.val (.int u0), .val (.long u1), .second, .val (.long u2), .second, .val (.long u3), .second, .val (.int 8), .val (.ref vv), .val (.ref t3), .val (.ref t4), .val (.ref aa), .val (.int 8), .val (.ref p517), .val (.int 0), .unset, .unset]
  refine own_st (A := T519.setTop (mkF mM 547 Lv520 [])) (fun t_ k_ => XS.istore X519.here hx rfl (hb hby at_545) rfl (l' := Lv520) rfl k_) ?_
  refine o_aload 549 X519 hx (hb hby at_547) rfl rfl rfl ?_
  refine o_iload 551 X519 hx (hb hby at_549) rfl rfl ?_
  refine o_iconst 552 1 X519 hx (hb hby at_551) rfl rfl ?_
  refine own_j 553 [.int 7, .ref t3] (fun t_ k_ => XS.isub X519.here hx rfl (hb hby at_552) rfl k_) ?_
  obtain ⟨cl521, Ar521, q521, S521, Nn521, H521, G521⟩ := id A_t3
  have hin521 : ¬ ((7 : Int32) < 0 ∨ cl521.slots.size ≤ ((7 : Int32)).toNatClampNeg) := inb_of S521 ⟨by decide, by decide⟩
  refine own_j 554 [.long 2187] (fun t_ k_ => X519.laload hx (j := (7 : Int32)) (v := (.long 2187)) (by rw [e519]; exact Ar521.1) (State.isArrayOf_alike hZ.alike Ar521.2.1) Ar521.2.2 hin521 (H521.at hin521 rfl) (g := (mkF mM 553 Lv520 [.int 7, .ref t3])) rfl rfl (hb hby at_553) t_ k_) ?_
  refine o_aload 556 X519 hx (hb hby at_554) rfl rfl rfl ?_
  refine o_iload 558 X519 hx (hb hby at_556) rfl rfl ?_
  obtain ⟨cl522, Ar522, q522, S522, Nn522, H522, G522⟩ := id A_vv
  have hin522 : ¬ ((0 : Int32) < 0 ∨ cl522.slots.size ≤ ((0 : Int32)).toNatClampNeg) := inb_of S522 ⟨by decide, by decide⟩
  refine own_j 559 [.int w0, .long 2187] (fun t_ k_ => X519.iaload hx (j := (0 : Int32)) (v := (.int w0)) (by rw [e519]; exact Ar522.1) (State.isArrayOf_alike hZ.alike Ar522.2.1) Ar522.2.2 hin522 (H522.at hin522 rfl) (g := (mkF mM 558 Lv520 [.int 0, .ref vv, .long 2187])) rfl rfl (hb hby at_558) t_ k_) ?_
  refine own_j 560 [(.long ((w0).toInt64)), .long 2187] (fun t_ k_ => XS.i2l X519.here hx rfl (hb hby at_559) rfl k_) ?_
  refine own_j 561 [(.long ((2187 : Int64) * ((w0).toInt64)))] (fun t_ k_ => XS.lmul X519.here hx rfl (hb hby at_560) rfl k_) ?_
  let Lv523 : Array Slot := #[.val (.int u0), .val (.long u1), .second, .val (.long u2), .second, .val (.long u3), .second, .val (.int 8), .val (.ref vv), .val (.ref t3), .val (.ref t4), .val (.ref aa), .val (.int 8), .val (.ref p517), .val (.int 0), .val (.long ((2187 : Int64) * ((w0).toInt64))), .second]
  refine own_st (A := T519.setTop (mkF mM 563 Lv523 [])) (fun t_ k_ => XS.lstore X519.here hx rfl (hb hby at_561) rfl (l' := Lv523) rfl k_) ?_
  refine ST2 hw X519 hx hZ hby hml hown hlk hret e519 N519 u0 u1 u2 u3 8 vv kv t3 k3 t4 k4 aa 8 p517 0 ((2187 : Int64) * ((w0).toInt64)) _ _ _ 729 1 w1 A_vv A_t3 A_t4 (by decide) (by decide) (by decide) (by decide) rfl rfl rfl (fun T524 L524 X524 e524 N524 => ?_)
  refine ST3 hw X524 hx hZ hby hml hown hlk hret e524 N524 u0 u1 u2 u3 8 vv kv t3 k3 t4 k4 aa 8 p517 0 (((2187 : Int64) * ((w0).toInt64)) + (((729 : Int64) * (1 : Int64)) * (w1).toInt64)) _ _ _ 243 4 w2 A_vv A_t3 A_t4 (by decide) (by decide) (by decide) (by decide) rfl rfl rfl (fun T525 L525 X525 e525 N525 => ?_)
  refine ST4 hw X525 hx hZ hby hml hown hlk hret e525 N525 u0 u1 u2 u3 8 vv kv t3 k3 t4 k4 aa 8 p517 0 ((((2187 : Int64) * ((w0).toInt64)) + (((729 : Int64) * (1 : Int64)) * (w1).toInt64)) + (((243 : Int64) * (4 : Int64)) * (w2).toInt64)) _ _ _ 81 16 w3 A_vv A_t3 A_t4 (by decide) (by decide) (by decide) (by decide) rfl rfl rfl (fun T526 L526 X526 e526 N526 => ?_)
  refine ST5 hw X526 hx hZ hby hml hown hlk hret e526 N526 u0 u1 u2 u3 8 vv kv t3 k3 t4 k4 aa 8 p517 0 (((((2187 : Int64) * ((w0).toInt64)) + (((729 : Int64) * (1 : Int64)) * (w1).toInt64)) + (((243 : Int64) * (4 : Int64)) * (w2).toInt64)) + (((81 : Int64) * (16 : Int64)) * (w3).toInt64)) _ _ _ 27 64 w4 A_vv A_t3 A_t4 (by decide) (by decide) (by decide) (by decide) rfl rfl rfl (fun T527 L527 X527 e527 N527 => ?_)
  refine ST6 hw X527 hx hZ hby hml hown hlk hret e527 N527 u0 u1 u2 u3 8 vv kv t3 k3 t4 k4 aa 8 p517 0 ((((((2187 : Int64) * ((w0).toInt64)) + (((729 : Int64) * (1 : Int64)) * (w1).toInt64)) + (((243 : Int64) * (4 : Int64)) * (w2).toInt64)) + (((81 : Int64) * (16 : Int64)) * (w3).toInt64)) + (((27 : Int64) * (64 : Int64)) * (w4).toInt64)) _ _ _ 9 256 w5 A_vv A_t3 A_t4 (by decide) (by decide) (by decide) (by decide) rfl rfl rfl (fun T528 L528 X528 e528 N528 => ?_)
  refine ST7 hw X528 hx hZ hby hml hown hlk hret e528 N528 u0 u1 u2 u3 8 vv kv t3 k3 t4 k4 aa 8 p517 0 (((((((2187 : Int64) * ((w0).toInt64)) + (((729 : Int64) * (1 : Int64)) * (w1).toInt64)) + (((243 : Int64) * (4 : Int64)) * (w2).toInt64)) + (((81 : Int64) * (16 : Int64)) * (w3).toInt64)) + (((27 : Int64) * (64 : Int64)) * (w4).toInt64)) + (((9 : Int64) * (256 : Int64)) * (w5).toInt64)) _ _ _ 3 1024 w6 A_vv A_t3 A_t4 (by decide) (by decide) (by decide) (by decide) rfl rfl rfl (fun T529 L529 X529 e529 N529 => ?_)
  refine ST8 hw X529 hx hZ hby hml hown hlk hret e529 N529 u0 u1 u2 u3 8 vv kv t3 k3 t4 k4 aa 8 p517 0 ((((((((2187 : Int64) * ((w0).toInt64)) + (((729 : Int64) * (1 : Int64)) * (w1).toInt64)) + (((243 : Int64) * (4 : Int64)) * (w2).toInt64)) + (((81 : Int64) * (16 : Int64)) * (w3).toInt64)) + (((27 : Int64) * (64 : Int64)) * (w4).toInt64)) + (((9 : Int64) * (256 : Int64)) * (w5).toInt64)) + (((3 : Int64) * (1024 : Int64)) * (w6).toInt64)) _ _ _ 1 4096 w7 A_vv A_t3 A_t4 (by decide) (by decide) (by decide) (by decide) rfl rfl rfl (fun T530 L530 X530 e530 N530 => ?_)
  refine SZ9 hw X530 hx hZ hby hml hown hlk hret e530 N530 u0 u1 u2 u3 8 vv kv t3 k3 t4 k4 aa 8 p517 0 (((((((((2187 : Int64) * ((w0).toInt64)) + (((729 : Int64) * (1 : Int64)) * (w1).toInt64)) + (((243 : Int64) * (4 : Int64)) * (w2).toInt64)) + (((81 : Int64) * (16 : Int64)) * (w3).toInt64)) + (((27 : Int64) * (64 : Int64)) * (w4).toInt64)) + (((9 : Int64) * (256 : Int64)) * (w5).toInt64)) + (((3 : Int64) * (1024 : Int64)) * (w6).toInt64)) + (((1 : Int64) * (4096 : Int64)) * (w7).toInt64)) (by decide) (fun T531 L531 X531 e531 N531 => ?_)
  refine SZ10 hw X531 hx hZ hby hml hown hlk hret e531 N531 u0 u1 u2 u3 8 vv kv t3 k3 t4 k4 aa 8 p517 0 ((((((((((2187 : Int64) * ((w0).toInt64)) + (((729 : Int64) * (1 : Int64)) * (w1).toInt64)) + (((243 : Int64) * (4 : Int64)) * (w2).toInt64)) + (((81 : Int64) * (16 : Int64)) * (w3).toInt64)) + (((27 : Int64) * (64 : Int64)) * (w4).toInt64)) + (((9 : Int64) * (256 : Int64)) * (w5).toInt64)) + (((3 : Int64) * (1024 : Int64)) * (w6).toInt64)) + (((1 : Int64) * (4096 : Int64)) * (w7).toInt64)) + (0 : Int64)) (by decide) (fun T532 L532 X532 e532 N532 => ?_)
  refine o_aload 741 X532 hx (hb hby at_739) rfl rfl rfl ?_
  obtain ⟨cq533, kq533, q533a, q533b, q533c⟩ := isOf hZ e532 od.1
  obtain ⟨_, _, ⟨T533, L533, k533, n533⟩, -, X533, ⟨Lc533, hQ533, l533, y533, z533⟩, st533⟩ := X532.virtualBack hx (y := yn10) (z := yn10) hown (mvT hZ (ow hw 91 rfl)) (mvT hZ (ow hw 92 rfl)) (notFace_of_selects (args := #[]) (mvT hZ (ow hw 94 rfl))) (mvT hZ (ow hw 94 rfl)) (mvT hZ (ow hw 93 rfl)) (by decide) (backOf (W := 0) (rmG lL Z a0 hw [] p517 (stp (FP.i2d w7) (stp (FP.i2d w6) (stp (FP.i2d w5) (stp (FP.i2d w4) (stp (FP.i2d w3) (stp (FP.i2d w2) (stp (FP.i2d w1) (FP.i2d w0)))))))) T517.heap n0 od) hZ (ow hw 95 rfl) (ow hw 55 rfl) (by decide) (by decide)) q533a q533c (g := (mkF mM 741 #[.val (.int u0), .val (.long u1), .second, .val (.long u2), .second, .val (.long u3), .second, .val (.int 8), .val (.ref vv), .val (.ref t3), .val (.ref t4), .val (.ref aa), .val (.int 8), .val (.ref p517), .val (.int 0), .val (.long (((((((((((2187 : Int64) * ((w0).toInt64)) + (((729 : Int64) * (1 : Int64)) * (w1).toInt64)) + (((243 : Int64) * (4 : Int64)) * (w2).toInt64)) + (((81 : Int64) * (16 : Int64)) * (w3).toInt64)) + (((27 : Int64) * (64 : Int64)) * (w4).toInt64)) + (((9 : Int64) * (256 : Int64)) * (w5).toInt64)) + (((3 : Int64) * (1024 : Int64)) * (w6).toInt64)) + (((1 : Int64) * (4096 : Int64)) * (w7).toInt64)) + (0 : Int64)) + (0 : Int64))), .second] [.ref p517])) rfl (by rw [hml]; rfl) (Steps.refl _) (argsL := []) (rest := []) (lenOf pd__28_29D rfl) rfl (by show 2 * 0 + _ ≤ _; exact Nat.le_of_eq rfl) (hb hby at_741) (fun _ _ => ⟨rfl, e532, (by decide : 6 + 0 ≤ _), (by decide : 48 + 0 ≤ _)⟩)
  dsimp only [Pt.U, Pt.locs, Pt.cells, Pt.slots] at X533 l533 y533 z533 st533 hQ533
  have X533 := own_cs X533 6 48 y533 z533
  obtain ⟨rfl, N533q, e533⟩ := hQ533
  have N533 := own_N l533 N532 N533q
  refine own_k T533 744 [(.double (stp (FP.i2d w7) (stp (FP.i2d w6) (stp (FP.i2d w5) (stp (FP.i2d w4) (stp (FP.i2d w3) (stp (FP.i2d w2) (stp (FP.i2d w1) (FP.i2d w0)))))))))] (fun t_ k_ => st533.trans k_) ?_
  refine o_aload 746 X533 hx (hb hby at_744) rfl rfl rfl ?_
  refine o_iload 748 X533 hx (hb hby at_746) rfl rfl ?_
  refine o_iconst 749 1 X533 hx (hb hby at_748) rfl rfl ?_
  refine own_j 750 [.int 7, .ref t4, (.double (stp (FP.i2d w7) (stp (FP.i2d w6) (stp (FP.i2d w5) (stp (FP.i2d w4) (stp (FP.i2d w3) (stp (FP.i2d w2) (stp (FP.i2d w1) (FP.i2d w0)))))))))] (fun t_ k_ => XS.isub X533.here hx rfl (hb hby at_749) rfl k_) ?_
  obtain ⟨cl534, Ar534, q534, S534, Nn534, H534, G534⟩ := id A_t4
  have hin534 : ¬ ((7 : Int32) < 0 ∨ cl534.slots.size ≤ ((7 : Int32)).toNatClampNeg) := inb_of S534 ⟨by decide, by decide⟩
  refine own_j 751 [.long 16384, (.double (stp (FP.i2d w7) (stp (FP.i2d w6) (stp (FP.i2d w5) (stp (FP.i2d w4) (stp (FP.i2d w3) (stp (FP.i2d w2) (stp (FP.i2d w1) (FP.i2d w0)))))))))] (fun t_ k_ => X533.laload hx (j := (7 : Int32)) (v := (.long 16384)) (by rw [e533]; exact Ar534.1) (State.isArrayOf_alike hZ.alike Ar534.2.1) Ar534.2.2 hin534 (H534.at hin534 rfl) (g := (mkF mM 750 #[.val (.int u0), .val (.long u1), .second, .val (.long u2), .second, .val (.long u3), .second, .val (.int 8), .val (.ref vv), .val (.ref t3), .val (.ref t4), .val (.ref aa), .val (.int 8), .val (.ref p517), .val (.int 0), .val (.long (((((((((((2187 : Int64) * ((w0).toInt64)) + (((729 : Int64) * (1 : Int64)) * (w1).toInt64)) + (((243 : Int64) * (4 : Int64)) * (w2).toInt64)) + (((81 : Int64) * (16 : Int64)) * (w3).toInt64)) + (((27 : Int64) * (64 : Int64)) * (w4).toInt64)) + (((9 : Int64) * (256 : Int64)) * (w5).toInt64)) + (((3 : Int64) * (1024 : Int64)) * (w6).toInt64)) + (((1 : Int64) * (4096 : Int64)) * (w7).toInt64)) + (0 : Int64)) + (0 : Int64))), .second] [.int 7, .ref t4, (.double (stp (FP.i2d w7) (stp (FP.i2d w6) (stp (FP.i2d w5) (stp (FP.i2d w4) (stp (FP.i2d w3) (stp (FP.i2d w2) (stp (FP.i2d w1) (FP.i2d w0)))))))))])) rfl rfl (hb hby at_750) t_ k_) ?_
  refine own_j 752 [(.double (FP.l2d (16384 : Int64))), (.double (stp (FP.i2d w7) (stp (FP.i2d w6) (stp (FP.i2d w5) (stp (FP.i2d w4) (stp (FP.i2d w3) (stp (FP.i2d w2) (stp (FP.i2d w1) (FP.i2d w0)))))))))] (fun t_ k_ => XS.l2dS X533.here hx rfl (hb hby at_751) rfl rfl k_) ?_
  have av0 : Av (FP.i2d w0) w0.toInt 0 (32768 * 1) := own_av0 bl0 bu0
  obtain ⟨-, -, -, av1⟩ := own_stp (P := 1) bl1 bu1 av0 (by decide) (by decide) (by decide) (by decide)
  have av1 : Av (stp (FP.i2d w1) (FP.i2d w0)) (1 * w1.toInt + 3 * w0.toInt) 1 (32768 * 4) := av1
  obtain ⟨-, -, -, av2⟩ := own_stp (P := 4) bl2 bu2 av1 (by decide) (by decide) (by decide) (by decide)
  have av2 : Av (stp (FP.i2d w2) (stp (FP.i2d w1) (FP.i2d w0))) (4 * w2.toInt + 3 * (1 * w1.toInt + 3 * w0.toInt)) 2 (32768 * 16) := av2
  obtain ⟨-, -, -, av3⟩ := own_stp (P := 16) bl3 bu3 av2 (by decide) (by decide) (by decide) (by decide)
  have av3 : Av (stp (FP.i2d w3) (stp (FP.i2d w2) (stp (FP.i2d w1) (FP.i2d w0)))) (16 * w3.toInt + 3 * (4 * w2.toInt + 3 * (1 * w1.toInt + 3 * w0.toInt))) 3 (32768 * 64) := av3
  obtain ⟨-, -, -, av4⟩ := own_stp (P := 64) bl4 bu4 av3 (by decide) (by decide) (by decide) (by decide)
  have av4 : Av (stp (FP.i2d w4) (stp (FP.i2d w3) (stp (FP.i2d w2) (stp (FP.i2d w1) (FP.i2d w0))))) (64 * w4.toInt + 3 * (16 * w3.toInt + 3 * (4 * w2.toInt + 3 * (1 * w1.toInt + 3 * w0.toInt)))) 4 (32768 * 256) := av4
  obtain ⟨-, -, -, av5⟩ := own_stp (P := 256) bl5 bu5 av4 (by decide) (by decide) (by decide) (by decide)
  have av5 : Av (stp (FP.i2d w5) (stp (FP.i2d w4) (stp (FP.i2d w3) (stp (FP.i2d w2) (stp (FP.i2d w1) (FP.i2d w0)))))) (256 * w5.toInt + 3 * (64 * w4.toInt + 3 * (16 * w3.toInt + 3 * (4 * w2.toInt + 3 * (1 * w1.toInt + 3 * w0.toInt))))) 5 (32768 * 1024) := av5
  obtain ⟨-, -, -, av6⟩ := own_stp (P := 1024) bl6 bu6 av5 (by decide) (by decide) (by decide) (by decide)
  have av6 : Av (stp (FP.i2d w6) (stp (FP.i2d w5) (stp (FP.i2d w4) (stp (FP.i2d w3) (stp (FP.i2d w2) (stp (FP.i2d w1) (FP.i2d w0))))))) (1024 * w6.toInt + 3 * (256 * w5.toInt + 3 * (64 * w4.toInt + 3 * (16 * w3.toInt + 3 * (4 * w2.toInt + 3 * (1 * w1.toInt + 3 * w0.toInt)))))) 6 (32768 * 4096) := av6
  obtain ⟨-, -, -, av7⟩ := own_stp (P := 4096) bl7 bu7 av6 (by decide) (by decide) (by decide) (by decide)
  have av7 : Av (stp (FP.i2d w7) (stp (FP.i2d w6) (stp (FP.i2d w5) (stp (FP.i2d w4) (stp (FP.i2d w3) (stp (FP.i2d w2) (stp (FP.i2d w1) (FP.i2d w0)))))))) (4096 * w7.toInt + 3 * (1024 * w6.toInt + 3 * (256 * w5.toInt + 3 * (64 * w4.toInt + 3 * (16 * w3.toInt + 3 * (4 * w2.toInt + 3 * (1 * w1.toInt + 3 * w0.toInt))))))) 7 (32768 * 16384) := av7
  have sm1 := own_Lmul (x := w0) (c := 2187) (C := 2187) (by decide) (by decide) (by decide) bl0 bu0
  have tm2 := own_Lmul (x := w1) (c := (729 : Int64) * (1 : Int64)) (C := 729) (by decide) (by decide) (by decide) bl1 bu1
  have sm2 := own_Ladd sm1 tm2 (by omega) (by omega) (by omega) (by omega)
  have tm3 := own_Lmul (x := w2) (c := (243 : Int64) * (4 : Int64)) (C := 972) (by decide) (by decide) (by decide) bl2 bu2
  have sm3 := own_Ladd sm2 tm3 (by omega) (by omega) (by omega) (by omega)
  have tm4 := own_Lmul (x := w3) (c := (81 : Int64) * (16 : Int64)) (C := 1296) (by decide) (by decide) (by decide) bl3 bu3
  have sm4 := own_Ladd sm3 tm4 (by omega) (by omega) (by omega) (by omega)
  have tm5 := own_Lmul (x := w4) (c := (27 : Int64) * (64 : Int64)) (C := 1728) (by decide) (by decide) (by decide) bl4 bu4
  have sm5 := own_Ladd sm4 tm5 (by omega) (by omega) (by omega) (by omega)
  have tm6 := own_Lmul (x := w5) (c := (9 : Int64) * (256 : Int64)) (C := 2304) (by decide) (by decide) (by decide) bl5 bu5
  have sm6 := own_Ladd sm5 tm6 (by omega) (by omega) (by omega) (by omega)
  have tm7 := own_Lmul (x := w6) (c := (3 : Int64) * (1024 : Int64)) (C := 3072) (by decide) (by decide) (by decide) bl6 bu6
  have sm7 := own_Ladd sm6 tm7 (by omega) (by omega) (by omega) (by omega)
  have tm8 := own_Lmul (x := w7) (c := (1 : Int64) * (4096 : Int64)) (C := 4096) (by decide) (by decide) (by decide) bl7 bu7
  have sm8 := own_Ladd sm7 tm8 (by omega) (by omega) (by omega) (by omega)
  have tm9 : (0 : Int64).toInt = 0 := by decide
  have sm9 := own_Ladd sm8 tm9 (by omega) (by omega) (by omega) (by omega)
  have tm10 : (0 : Int64).toInt = 0 := by decide
  have sm10 := own_Ladd sm9 tm10 (by omega) (by omega) (by omega) (by omega)
  have hs : ((((((((((((2187 : Int64) * ((w0).toInt64)) + (((729 : Int64) * (1 : Int64)) * (w1).toInt64)) + (((243 : Int64) * (4 : Int64)) * (w2).toInt64)) + (((81 : Int64) * (16 : Int64)) * (w3).toInt64)) + (((27 : Int64) * (64 : Int64)) * (w4).toInt64)) + (((9 : Int64) * (256 : Int64)) * (w5).toInt64)) + (((3 : Int64) * (1024 : Int64)) * (w6).toInt64)) + (((1 : Int64) * (4096 : Int64)) * (w7).toInt64)) + (0 : Int64)) + (0 : Int64))).toInt = (4096 * w7.toInt + 3 * (1024 * w6.toInt + 3 * (256 * w5.toInt + 3 * (64 * w4.toInt + 3 * (16 * w3.toInt + 3 * (4 * w2.toInt + 3 * (1 * w1.toInt + 3 * w0.toInt))))))) := sm10.trans (by omega)
  obtain ⟨nl, cl⟩ := own_last (p := 16384) av7 (by decide) (by decide) (by decide) (by decide) (by decide) hs
  refine own_j 753 [(.double (FP.dmul (stp (FP.i2d w7) (stp (FP.i2d w6) (stp (FP.i2d w5) (stp (FP.i2d w4) (stp (FP.i2d w3) (stp (FP.i2d w2) (stp (FP.i2d w1) (FP.i2d w0)))))))) (FP.l2d (16384 : Int64))))] (fun t_ k_ => XS.dmulS X533.here hx rfl (hb hby at_752) rfl nl rfl k_) ?_
  refine o_lload 755 X533 hx (hb hby at_753) rfl rfl ?_
  refine own_j 756 [(.double (FP.l2d (((((((((((2187 : Int64) * ((w0).toInt64)) + (((729 : Int64) * (1 : Int64)) * (w1).toInt64)) + (((243 : Int64) * (4 : Int64)) * (w2).toInt64)) + (((81 : Int64) * (16 : Int64)) * (w3).toInt64)) + (((27 : Int64) * (64 : Int64)) * (w4).toInt64)) + (((9 : Int64) * (256 : Int64)) * (w5).toInt64)) + (((3 : Int64) * (1024 : Int64)) * (w6).toInt64)) + (((1 : Int64) * (4096 : Int64)) * (w7).toInt64)) + (0 : Int64)) + (0 : Int64)))), (.double (FP.dmul (stp (FP.i2d w7) (stp (FP.i2d w6) (stp (FP.i2d w5) (stp (FP.i2d w4) (stp (FP.i2d w3) (stp (FP.i2d w2) (stp (FP.i2d w1) (FP.i2d w0)))))))) (FP.l2d (16384 : Int64))))] (fun t_ k_ => XS.l2dS X533.here hx rfl (hb hby at_755) rfl rfl k_) ?_
  refine own_j 757 [.int 0] (fun t_ k_ => XS.dcmpS X533.here hx rfl (hb hby at_756) rfl (cl _) k_) ?_
  refine o_ifNo 760 X533 hx (hb hby at_757) ((if0 _ _).trans (teq (by decide : ((0 : Int32) = (0 : Int32)))).2) rfl ?_
  refine o_iconst 761 1 X533 hx (hb hby at_760) rfl rfl ?_
  refine o_goto 765 X533 hx (hb hby at_761) (by decide) ?_
  exact own_retN X533 hx hlk (t := .boolean) hret (by simp) (hb hby at_765) ⟨rfl, N533⟩ (by decide) (by decide)
theorem J278_9 (hw : own_tb a0 Z) (X0 : Stand pP lL eE room_1 sS mM args below meth cC T0 locs 5 46) (hx : pP.tables.exec = Jvm.exec) (hZ : Z.Warmed39 sS.vm) (hby : cC.code = code) (hml : cC.maxLocals = 17) (hown : sS.vm.findClass "com/example/gleanwork/gleanwork/schedule/RecentAverageAddPinLaw" = some mM.cls) (hlk : meth.locks = false) (hret : meth.sig.returnType = ret) (e0 : T0.heap = h0) (N0 : Fr n0 locs) (u0 : Int32) (u1 : Int64) (u2 : Int64) (u3 : Int64) (w0 : Int32) (w1 : Int32) (w2 : Int32) (w3 : Int32) (w4 : Int32) (w5 : Int32) (w6 : Int32) (w7 : Int32) (w8 : Int32) (w9 : Int32) (w10 : Int32) (w11 : Int32) (vv : Addr) (kv : ClassId) (t3 : Addr) (k3 : ClassId) (t4 : Addr) (k4 : ClassId) (aa : Addr) (dd : Addr) (kd : ClassId) (em : Addr) (O : Old Z n0 h0) (Zn : n0 ≤ h0.size) (g_aa : n0 ≤ aa) (g_dd : n0 ≤ dd) (A_vv : Arv Z h0 vv kv .int 12 [.int w0, .int w1, .int w2, .int w3, .int w4, .int w5, .int w6, .int w7, .int w8, .int w9, .int w10, .int w11] (.int 0)) (A_t3 : Arv Z h0 t3 k3 .long 10 [.long 1, .long 3, .long 9, .long 27, .long 81, .long 243, .long 729, .long 2187, .long 6561, .long 19683] (.long 0)) (A_t4 : Arv Z h0 t4 k4 .long 10 [.long 1, .long 4, .long 16, .long 64, .long 256, .long 1024, .long 4096, .long 16384, .long 65536, .long 262144] (.long 0)) (nq0 : vv ≠ aa) (nq1 : vv ≠ dd) (nq2 : t3 ≠ aa) (nq3 : t3 ≠ dd) (nq4 : t4 ≠ aa) (nq5 : t4 ≠ dd) (nq6 : aa ≠ dd) (ra : Ra Z h0 aa dd kd 0 0 0 [.double 0, .double 0, .double 0, .double 0, .double 0, .double 0, .double 0, .double 0, .double 0, .double 0]) (S_em : Sta Z Z.heap "java/util/OptionalDouble" "EMPTY" "Ljava/util/OptionalDouble;" (.ref em)) (E_em : Exa Z Z.heap em "java/util/OptionalDouble") (F_em : Fld Z Z.heap em "java/util/OptionalDouble" "isPresent" "Z" (.int 0)) (bl0 : -32768 ≤ w0.toInt) (bl1 : -32768 ≤ w1.toInt) (bl2 : -32768 ≤ w2.toInt) (bl3 : -32768 ≤ w3.toInt) (bl4 : -32768 ≤ w4.toInt) (bl5 : -32768 ≤ w5.toInt) (bl6 : -32768 ≤ w6.toInt) (bl7 : -32768 ≤ w7.toInt) (bl8 : -32768 ≤ w8.toInt) (bl9 : -32768 ≤ w9.toInt) (bl10 : -32768 ≤ w10.toInt) (bl11 : -32768 ≤ w11.toInt) (bu0 : w0.toInt ≤ 32768) (bu1 : w1.toInt ≤ 32768) (bu2 : w2.toInt ≤ 32768) (bu3 : w3.toInt ≤ 32768) (bu4 : w4.toInt ≤ 32768) (bu5 : w5.toInt ≤ 32768) (bu6 : w6.toInt ≤ 32768) (bu7 : w7.toInt ≤ 32768) (bu8 : w8.toInt ≤ 32768) (bu9 : w9.toInt ≤ 32768) (bu10 : w10.toInt ≤ 32768) (bu11 : w11.toInt ≤ 32768) :
    own_Go pP eE below sS (QLaw n0) 24 192 (T0.setTop (mkF mM 278 #[.val (.int u0), .val (.long u1), .second, .val (.long u2), .second, .val (.long u3), .second, .val (.int 9), .val (.ref vv), .val (.ref t3), .val (.ref t4), .val (.ref aa), .unset, .unset, .unset, .unset, .unset] [])) := by
  refine SA1 hw X0 hx hZ hby hml hown hlk hret e0 N0 u0 u1 u2 u3 9 w0 w1 w2 w3 w4 w5 w6 w7 w8 w9 w10 w11 vv kv t3 k3 t4 k4 aa dd kd O Zn g_aa g_dd A_vv A_t3 A_t4 nq0 nq1 nq2 nq3 nq4 nq5 nq6 ra bl0 bl1 bl2 bl3 bl4 bl5 bl6 bl7 bl8 bl9 bl10 bl11 bu0 bu1 bu2 bu3 bu4 bu5 bu6 bu7 bu8 bu9 bu10 bu11 (by decide) (fun T535 L535 h535 X535 e535 N535 O Zn A_vv A_t3 A_t4 ra => ?_)
  refine SA2 hw X535 hx hZ hby hml hown hlk hret e535 N535 u0 u1 u2 u3 9 w0 w1 w2 w3 w4 w5 w6 w7 w8 w9 w10 w11 vv kv t3 k3 t4 k4 aa dd kd O Zn g_aa g_dd A_vv A_t3 A_t4 nq0 nq1 nq2 nq3 nq4 nq5 nq6 ra bl0 bl1 bl2 bl3 bl4 bl5 bl6 bl7 bl8 bl9 bl10 bl11 bu0 bu1 bu2 bu3 bu4 bu5 bu6 bu7 bu8 bu9 bu10 bu11 (by decide) (fun T536 L536 h536 X536 e536 N536 O Zn A_vv A_t3 A_t4 ra => ?_)
  refine SA3 hw X536 hx hZ hby hml hown hlk hret e536 N536 u0 u1 u2 u3 9 w0 w1 w2 w3 w4 w5 w6 w7 w8 w9 w10 w11 vv kv t3 k3 t4 k4 aa dd kd O Zn g_aa g_dd A_vv A_t3 A_t4 nq0 nq1 nq2 nq3 nq4 nq5 nq6 ra bl0 bl1 bl2 bl3 bl4 bl5 bl6 bl7 bl8 bl9 bl10 bl11 bu0 bu1 bu2 bu3 bu4 bu5 bu6 bu7 bu8 bu9 bu10 bu11 (by decide) (fun T537 L537 h537 X537 e537 N537 O Zn A_vv A_t3 A_t4 ra => ?_)
  refine SA4 hw X537 hx hZ hby hml hown hlk hret e537 N537 u0 u1 u2 u3 9 w0 w1 w2 w3 w4 w5 w6 w7 w8 w9 w10 w11 vv kv t3 k3 t4 k4 aa dd kd O Zn g_aa g_dd A_vv A_t3 A_t4 nq0 nq1 nq2 nq3 nq4 nq5 nq6 ra bl0 bl1 bl2 bl3 bl4 bl5 bl6 bl7 bl8 bl9 bl10 bl11 bu0 bu1 bu2 bu3 bu4 bu5 bu6 bu7 bu8 bu9 bu10 bu11 (by decide) (fun T538 L538 h538 X538 e538 N538 O Zn A_vv A_t3 A_t4 ra => ?_)
  refine SA5 hw X538 hx hZ hby hml hown hlk hret e538 N538 u0 u1 u2 u3 9 w0 w1 w2 w3 w4 w5 w6 w7 w8 w9 w10 w11 vv kv t3 k3 t4 k4 aa dd kd O Zn g_aa g_dd A_vv A_t3 A_t4 nq0 nq1 nq2 nq3 nq4 nq5 nq6 ra bl0 bl1 bl2 bl3 bl4 bl5 bl6 bl7 bl8 bl9 bl10 bl11 bu0 bu1 bu2 bu3 bu4 bu5 bu6 bu7 bu8 bu9 bu10 bu11 (by decide) (fun T539 L539 h539 X539 e539 N539 O Zn A_vv A_t3 A_t4 ra => ?_)
  refine SA6 hw X539 hx hZ hby hml hown hlk hret e539 N539 u0 u1 u2 u3 9 w0 w1 w2 w3 w4 w5 w6 w7 w8 w9 w10 w11 vv kv t3 k3 t4 k4 aa dd kd O Zn g_aa g_dd A_vv A_t3 A_t4 nq0 nq1 nq2 nq3 nq4 nq5 nq6 ra bl0 bl1 bl2 bl3 bl4 bl5 bl6 bl7 bl8 bl9 bl10 bl11 bu0 bu1 bu2 bu3 bu4 bu5 bu6 bu7 bu8 bu9 bu10 bu11 (by decide) (fun T540 L540 h540 X540 e540 N540 O Zn A_vv A_t3 A_t4 ra => ?_)
  refine SA7 hw X540 hx hZ hby hml hown hlk hret e540 N540 u0 u1 u2 u3 9 w0 w1 w2 w3 w4 w5 w6 w7 w8 w9 w10 w11 vv kv t3 k3 t4 k4 aa dd kd O Zn g_aa g_dd A_vv A_t3 A_t4 nq0 nq1 nq2 nq3 nq4 nq5 nq6 ra bl0 bl1 bl2 bl3 bl4 bl5 bl6 bl7 bl8 bl9 bl10 bl11 bu0 bu1 bu2 bu3 bu4 bu5 bu6 bu7 bu8 bu9 bu10 bu11 (by decide) (fun T541 L541 h541 X541 e541 N541 O Zn A_vv A_t3 A_t4 ra => ?_)
  refine SA8 hw X541 hx hZ hby hml hown hlk hret e541 N541 u0 u1 u2 u3 9 w0 w1 w2 w3 w4 w5 w6 w7 w8 w9 w10 w11 vv kv t3 k3 t4 k4 aa dd kd O Zn g_aa g_dd A_vv A_t3 A_t4 nq0 nq1 nq2 nq3 nq4 nq5 nq6 ra bl0 bl1 bl2 bl3 bl4 bl5 bl6 bl7 bl8 bl9 bl10 bl11 bu0 bu1 bu2 bu3 bu4 bu5 bu6 bu7 bu8 bu9 bu10 bu11 (by decide) (fun T542 L542 h542 X542 e542 N542 O Zn A_vv A_t3 A_t4 ra => ?_)
  refine SA9 hw X542 hx hZ hby hml hown hlk hret e542 N542 u0 u1 u2 u3 9 w0 w1 w2 w3 w4 w5 w6 w7 w8 w9 w10 w11 vv kv t3 k3 t4 k4 aa dd kd O Zn g_aa g_dd A_vv A_t3 A_t4 nq0 nq1 nq2 nq3 nq4 nq5 nq6 ra bl0 bl1 bl2 bl3 bl4 bl5 bl6 bl7 bl8 bl9 bl10 bl11 bu0 bu1 bu2 bu3 bu4 bu5 bu6 bu7 bu8 bu9 bu10 bu11 (by decide) (fun T543 L543 h543 X543 e543 N543 O Zn A_vv A_t3 A_t4 ra => ?_)
  refine o_iload 431 X543 hx (hb hby at_429) rfl rfl ?_
  refine o_bipush 433 10 X543 hx (hb hby at_431) rfl rfl ?_
  refine o_icmpYes 447 X543 hx (hb hby at_433) (tlt (by decide : ((9 : Int32) < (10 : Int32)))).1 (by decide) ?_
  refine o_iload 449 X543 hx (hb hby at_447) rfl rfl ?_
  refine o_bipush 451 11 X543 hx (hb hby at_449) rfl rfl ?_
  refine o_icmpYes 465 X543 hx (hb hby at_451) (tlt (by decide : ((9 : Int32) < (11 : Int32)))).1 (by decide) ?_
  refine o_iload 467 X543 hx (hb hby at_465) rfl rfl ?_
  refine o_bipush 469 12 X543 hx (hb hby at_467) rfl rfl ?_
  refine o_icmpYes 483 X543 hx (hb hby at_469) (tlt (by decide : ((9 : Int32) < (12 : Int32)))).1 (by decide) ?_
  refine o_iload 485 X543 hx (hb hby at_483) rfl rfl ?_
  refine o_bipush 487 10 X543 hx (hb hby at_485) rfl rfl ?_
  obtain ⟨_, _, ⟨T544, L544, k544, n544⟩, -, X544, ⟨Lc544, hQ544, l544, y544, z544⟩, st544⟩ := Jvm.LawKit.callS X543 hx (y := yn3) hown (mvT hZ (ow hw 37 rfl)) (mvT hZ (ow hw 38 rfl)) (mvT hZ (ow hw 39 rfl)) (mvT hZ (ow hw 40 rfl)) (by decide) (backOf (W := 0) (rmM9 lL Z a0 hw []  h543 n0 ) hZ (ow hw 40 rfl) (ow hw 39 rfl) (by decide) (by decide)) (g := (mkF mM 487 #[.val (.int u0), .val (.long u1), .second, .val (.long u2), .second, .val (.long u3), .second, .val (.int 9), .val (.ref vv), .val (.ref t3), .val (.ref t4), .val (.ref aa), .unset, .unset, .unset, .unset, .unset] [.int 10, .int 9])) rfl (by rw [hml]; rfl) (argsL := [.int 9, .int 10]) (rest := []) (lenOf pd__28II_29I rfl) rfl (by show 2 * 0 + _ ≤ _; exact Nat.le_of_eq rfl) (hb hby at_487) (fun _ _ => ⟨rfl, e543, (by decide : 5 + 0 ≤ _), (by decide : 46 + 0 ≤ _)⟩)
  dsimp only [Pt.U, Pt.locs, Pt.cells, Pt.slots] at X544 l544 y544 z544 st544 hQ544
  have X544 := own_cs X544 5 46 y544 z544
  obtain ⟨rfl, N544q, e544⟩ := hQ544
  have N544 := own_N l544 N543 N544q
  refine own_k T544 490 [.int 9] st544 ?_
  let Lv545 : Array Slot := #[.val (.int u0), .val (.long u1), .second, .val (.long u2), .second, .val (.long u3), .second, .val (.int 9), .val (.ref vv), .val (.ref t3), .val (.ref t4), .val (.ref aa), .val (.int 9), .unset, .unset, .unset, .unset]
  refine own_st (A := T544.setTop (mkF mM 492 Lv545 [])) (fun t_ k_ => XS.istore X544.here hx rfl (hb hby at_490) rfl (l' := Lv545) rfl k_) ?_
  refine o_aload 494 X544 hx (hb hby at_492) rfl rfl rfl ?_
  obtain ⟨cq546, kq546, q546a, q546b, q546c⟩ := isOf hZ e544 ra.1
  obtain ⟨_, _, ⟨T546, L546, k546, n546⟩, -, X546, ⟨Lc546, hQ546, l546, y546, z546⟩, st546⟩ := X544.virtualBack hx (y := yn4) (z := yn4) hown (mvT hZ (ow hw 41 rfl)) (mvT hZ (ow hw 42 rfl)) (notFace_of_selects (args := #[]) (mvT hZ (ow hw 44 rfl))) (mvT hZ (ow hw 44 rfl)) (mvT hZ (ow hw 43 rfl)) (by decide) (backOf (W := 0) (rmC lL Z a0 hw [] aa 9 h543 n0 ra.2.2.1) hZ (ow hw 45 rfl) (ow hw 27 rfl) (by decide) (by decide)) q546a q546c (g := (mkF mM 494 Lv545 [.ref aa])) rfl (by rw [hml]; rfl) (Steps.refl _) (argsL := []) (rest := []) (lenOf pd__28_29I rfl) rfl (by show 2 * 0 + _ ≤ _; exact Nat.le_of_eq rfl) (hb hby at_494) (fun _ _ => ⟨rfl, e544, (by decide : 5 + 0 ≤ _), (by decide : 46 + 0 ≤ _)⟩)
  dsimp only [Pt.U, Pt.locs, Pt.cells, Pt.slots] at X546 l546 y546 z546 st546 hQ546
  have X546 := own_cs X546 5 46 y546 z546
  obtain ⟨rfl, N546q, e546⟩ := hQ546
  have N546 := own_N l546 N544 N546q
  refine own_k T546 497 [.int 9] (fun t_ k_ => st546.trans k_) ?_
  refine o_iload 499 X546 hx (hb hby at_497) rfl rfl ?_
  refine o_icmpYes 504 X546 hx (hb hby at_499) (teq (by decide : ((9 : Int32) = (9 : Int32)))).1 (by decide) ?_
  refine o_aload 506 X546 hx (hb hby at_504) rfl rfl rfl ?_
  obtain ⟨cq547, kq547, q547a, q547b, q547c⟩ := isOf hZ e546 ra.1
  obtain ⟨_, _, ⟨T547, L547, k547, n547⟩, -, X547, ⟨Lc547, hQ547, l547, y547, z547⟩, st547⟩ := X546.virtualBack hx (y := yn8) (z := yn8) hown (mvT hZ (ow hw 48 rfl)) (mvT hZ (ow hw 49 rfl)) (notFace_of_selects (args := #[]) (mvT hZ (ow hw 51 rfl))) (mvT hZ (ow hw 51 rfl)) (mvT hZ (ow hw 50 rfl)) (by decide) (backOf (W := 0) (rmV lL Z a0 hw [] aa 9 (stp (FP.i2d w8) (stp (FP.i2d w7) (stp (FP.i2d w6) (stp (FP.i2d w5) (stp (FP.i2d w4) (stp (FP.i2d w3) (stp (FP.i2d w2) (stp (FP.i2d w1) (FP.i2d w0))))))))) h543 n0 Zn ra.2.2.1 ra.2.2.2.2.1 (by decide)) hZ (ow hw 52 rfl) (ow hw 27 rfl) (by decide) (by decide)) q547a q547c (g := (mkF mM 506 Lv545 [.ref aa])) rfl (by rw [hml]; rfl) (Steps.refl _) (argsL := []) (rest := []) (lenOf pd__28_29Ljava_2futil_2fOptionalDouble_3b rfl) rfl (by show 2 * 0 + _ ≤ _; exact Nat.le_of_eq rfl) (hb hby at_506) (fun _ _ => ⟨rfl, e546, (by decide : 5 + 1 ≤ _), (by decide : 46 + 2 ≤ _)⟩)
  dsimp only [Pt.U, Pt.locs, Pt.cells, Pt.slots] at X547 l547 y547 z547 st547 hQ547
  have X547 := own_cs X547 6 48 y547 z547
  obtain ⟨p547, rfl, N547q, E547, od⟩ := hQ547
  have N547 := own_N l547 N546 N547q
  have e547 : T547.heap = T547.heap := rfl
  refine own_k T547 509 [.ref p547] (fun t_ k_ => st547.trans k_) ?_
  have O := O.ext E547
  have A_vv := A_vv.ext E547
  have A_t3 := A_t3.ext E547
  have A_t4 := A_t4.ext E547
  have Zn := Nat.le_trans Zn E547.1
  let Lv548 : Array Slot := #[.val (.int u0), .val (.long u1), .second, .val (.long u2), .second, .val (.long u3), .second, .val (.int 9), .val (.ref vv), .val (.ref t3), .val (.ref t4), .val (.ref aa), .val (.int 9), .val (.ref p547), .unset, .unset, .unset]
  refine own_st (A := T547.setTop (mkF mM 511 Lv548 [])) (fun t_ k_ => XS.astore X547.here hx rfl (hb hby at_509) rfl rfl (l' := Lv548) rfl k_) ?_
  refine o_iload 513 X547 hx (hb hby at_511) rfl rfl ?_
  refine o_ifYes 530 X547 hx (hb hby at_513) ((if0 _ _).trans (feq (by decide : ¬ ((9 : Int32) = (0 : Int32)))).2) (by decide) ?_
  refine o_aload 532 X547 hx (hb hby at_530) rfl rfl rfl ?_
  obtain ⟨cq549, kq549, q549a, q549b, q549c⟩ := isOf hZ e547 od.1
  obtain ⟨_, _, ⟨T549, L549, k549, n549⟩, -, X549, ⟨Lc549, hQ549, l549, y549, z549⟩, st549⟩ := X547.virtualBack hx (y := yn9) (z := yn9) hown (mvT hZ (ow hw 58 rfl)) (mvT hZ (ow hw 59 rfl)) (notFace_of_selects (args := #[]) (mvT hZ (ow hw 61 rfl))) (mvT hZ (ow hw 61 rfl)) (mvT hZ (ow hw 60 rfl)) (by decide) (backOf (W := 0) (rmP1 lL Z a0 hw [] p547 T547.heap n0 od.2.1) hZ (ow hw 62 rfl) (ow hw 55 rfl) (by decide) (by decide)) q549a q549c (g := (mkF mM 532 Lv548 [.ref p547])) rfl (by rw [hml]; rfl) (Steps.refl _) (argsL := []) (rest := []) (lenOf pd__28_29Z rfl) rfl (by show 2 * 0 + _ ≤ _; exact Nat.le_of_eq rfl) (hb hby at_532) (fun _ _ => ⟨rfl, e547, (by decide : 6 + 0 ≤ _), (by decide : 48 + 0 ≤ _)⟩)
  dsimp only [Pt.U, Pt.locs, Pt.cells, Pt.slots] at X549 l549 y549 z549 st549 hQ549
  have X549 := own_cs X549 6 48 y549 z549
  obtain ⟨rfl, N549q, e549⟩ := hQ549
  have N549 := own_N l549 N547 N549q
  refine own_k T549 535 [.int 1] (fun t_ k_ => st549.trans k_) ?_
  refine o_ifYes 540 X549 hx (hb hby at_535) ((if0 _ _).trans (feq (by decide : ¬ ((1 : Int32) = (0 : Int32)))).2) (by decide) ?_
  refine o_iload 542 X549 hx (hb hby at_540) rfl rfl ?_
  refine o_iload 544 X549 hx (hb hby at_542) rfl rfl ?_
  refine own_j 545 [.int 0] (fun t_ k_ => XS.isub X549.here hx rfl (hb hby at_544) rfl k_) ?_
  let Lv550 : Array Slot := #[.val (.int u0), .val (.long u1), .second, .val (.long u2), .second, .val (.long u3), .second, .val (.int 9), .val (.ref vv), .val (.ref t3), .val (.ref t4), .val (.ref aa), .val (.int 9), .val (.ref p547), .val (.int 0), .unset, .unset]
  refine own_st (A := T549.setTop (mkF mM 547 Lv550 [])) (fun t_ k_ => XS.istore X549.here hx rfl (hb hby at_545) rfl (l' := Lv550) rfl k_) ?_
  refine o_aload 549 X549 hx (hb hby at_547) rfl rfl rfl ?_
  refine o_iload 551 X549 hx (hb hby at_549) rfl rfl ?_
  refine o_iconst 552 1 X549 hx (hb hby at_551) rfl rfl ?_
  refine own_j 553 [.int 8, .ref t3] (fun t_ k_ => XS.isub X549.here hx rfl (hb hby at_552) rfl k_) ?_
  obtain ⟨cl551, Ar551, q551, S551, Nn551, H551, G551⟩ := id A_t3
  have hin551 : ¬ ((8 : Int32) < 0 ∨ cl551.slots.size ≤ ((8 : Int32)).toNatClampNeg) := inb_of S551 ⟨by decide, by decide⟩
  refine own_j 554 [.long 6561] (fun t_ k_ => X549.laload hx (j := (8 : Int32)) (v := (.long 6561)) (by rw [e549]; exact Ar551.1) (State.isArrayOf_alike hZ.alike Ar551.2.1) Ar551.2.2 hin551 (H551.at hin551 rfl) (g := (mkF mM 553 Lv550 [.int 8, .ref t3])) rfl rfl (hb hby at_553) t_ k_) ?_
  refine o_aload 556 X549 hx (hb hby at_554) rfl rfl rfl ?_
  refine o_iload 558 X549 hx (hb hby at_556) rfl rfl ?_
  obtain ⟨cl552, Ar552, q552, S552, Nn552, H552, G552⟩ := id A_vv
  have hin552 : ¬ ((0 : Int32) < 0 ∨ cl552.slots.size ≤ ((0 : Int32)).toNatClampNeg) := inb_of S552 ⟨by decide, by decide⟩
  refine own_j 559 [.int w0, .long 6561] (fun t_ k_ => X549.iaload hx (j := (0 : Int32)) (v := (.int w0)) (by rw [e549]; exact Ar552.1) (State.isArrayOf_alike hZ.alike Ar552.2.1) Ar552.2.2 hin552 (H552.at hin552 rfl) (g := (mkF mM 558 Lv550 [.int 0, .ref vv, .long 6561])) rfl rfl (hb hby at_558) t_ k_) ?_
  refine own_j 560 [(.long ((w0).toInt64)), .long 6561] (fun t_ k_ => XS.i2l X549.here hx rfl (hb hby at_559) rfl k_) ?_
  refine own_j 561 [(.long ((6561 : Int64) * ((w0).toInt64)))] (fun t_ k_ => XS.lmul X549.here hx rfl (hb hby at_560) rfl k_) ?_
  let Lv553 : Array Slot := #[.val (.int u0), .val (.long u1), .second, .val (.long u2), .second, .val (.long u3), .second, .val (.int 9), .val (.ref vv), .val (.ref t3), .val (.ref t4), .val (.ref aa), .val (.int 9), .val (.ref p547), .val (.int 0), .val (.long ((6561 : Int64) * ((w0).toInt64))), .second]
  refine own_st (A := T549.setTop (mkF mM 563 Lv553 [])) (fun t_ k_ => XS.lstore X549.here hx rfl (hb hby at_561) rfl (l' := Lv553) rfl k_) ?_
  refine ST2 hw X549 hx hZ hby hml hown hlk hret e549 N549 u0 u1 u2 u3 9 vv kv t3 k3 t4 k4 aa 9 p547 0 ((6561 : Int64) * ((w0).toInt64)) _ _ _ 2187 1 w1 A_vv A_t3 A_t4 (by decide) (by decide) (by decide) (by decide) rfl rfl rfl (fun T554 L554 X554 e554 N554 => ?_)
  refine ST3 hw X554 hx hZ hby hml hown hlk hret e554 N554 u0 u1 u2 u3 9 vv kv t3 k3 t4 k4 aa 9 p547 0 (((6561 : Int64) * ((w0).toInt64)) + (((2187 : Int64) * (1 : Int64)) * (w1).toInt64)) _ _ _ 729 4 w2 A_vv A_t3 A_t4 (by decide) (by decide) (by decide) (by decide) rfl rfl rfl (fun T555 L555 X555 e555 N555 => ?_)
  refine ST4 hw X555 hx hZ hby hml hown hlk hret e555 N555 u0 u1 u2 u3 9 vv kv t3 k3 t4 k4 aa 9 p547 0 ((((6561 : Int64) * ((w0).toInt64)) + (((2187 : Int64) * (1 : Int64)) * (w1).toInt64)) + (((729 : Int64) * (4 : Int64)) * (w2).toInt64)) _ _ _ 243 16 w3 A_vv A_t3 A_t4 (by decide) (by decide) (by decide) (by decide) rfl rfl rfl (fun T556 L556 X556 e556 N556 => ?_)
  refine ST5 hw X556 hx hZ hby hml hown hlk hret e556 N556 u0 u1 u2 u3 9 vv kv t3 k3 t4 k4 aa 9 p547 0 (((((6561 : Int64) * ((w0).toInt64)) + (((2187 : Int64) * (1 : Int64)) * (w1).toInt64)) + (((729 : Int64) * (4 : Int64)) * (w2).toInt64)) + (((243 : Int64) * (16 : Int64)) * (w3).toInt64)) _ _ _ 81 64 w4 A_vv A_t3 A_t4 (by decide) (by decide) (by decide) (by decide) rfl rfl rfl (fun T557 L557 X557 e557 N557 => ?_)
  refine ST6 hw X557 hx hZ hby hml hown hlk hret e557 N557 u0 u1 u2 u3 9 vv kv t3 k3 t4 k4 aa 9 p547 0 ((((((6561 : Int64) * ((w0).toInt64)) + (((2187 : Int64) * (1 : Int64)) * (w1).toInt64)) + (((729 : Int64) * (4 : Int64)) * (w2).toInt64)) + (((243 : Int64) * (16 : Int64)) * (w3).toInt64)) + (((81 : Int64) * (64 : Int64)) * (w4).toInt64)) _ _ _ 27 256 w5 A_vv A_t3 A_t4 (by decide) (by decide) (by decide) (by decide) rfl rfl rfl (fun T558 L558 X558 e558 N558 => ?_)
  refine ST7 hw X558 hx hZ hby hml hown hlk hret e558 N558 u0 u1 u2 u3 9 vv kv t3 k3 t4 k4 aa 9 p547 0 (((((((6561 : Int64) * ((w0).toInt64)) + (((2187 : Int64) * (1 : Int64)) * (w1).toInt64)) + (((729 : Int64) * (4 : Int64)) * (w2).toInt64)) + (((243 : Int64) * (16 : Int64)) * (w3).toInt64)) + (((81 : Int64) * (64 : Int64)) * (w4).toInt64)) + (((27 : Int64) * (256 : Int64)) * (w5).toInt64)) _ _ _ 9 1024 w6 A_vv A_t3 A_t4 (by decide) (by decide) (by decide) (by decide) rfl rfl rfl (fun T559 L559 X559 e559 N559 => ?_)
  refine ST8 hw X559 hx hZ hby hml hown hlk hret e559 N559 u0 u1 u2 u3 9 vv kv t3 k3 t4 k4 aa 9 p547 0 ((((((((6561 : Int64) * ((w0).toInt64)) + (((2187 : Int64) * (1 : Int64)) * (w1).toInt64)) + (((729 : Int64) * (4 : Int64)) * (w2).toInt64)) + (((243 : Int64) * (16 : Int64)) * (w3).toInt64)) + (((81 : Int64) * (64 : Int64)) * (w4).toInt64)) + (((27 : Int64) * (256 : Int64)) * (w5).toInt64)) + (((9 : Int64) * (1024 : Int64)) * (w6).toInt64)) _ _ _ 3 4096 w7 A_vv A_t3 A_t4 (by decide) (by decide) (by decide) (by decide) rfl rfl rfl (fun T560 L560 X560 e560 N560 => ?_)
  refine ST9 hw X560 hx hZ hby hml hown hlk hret e560 N560 u0 u1 u2 u3 9 vv kv t3 k3 t4 k4 aa 9 p547 0 (((((((((6561 : Int64) * ((w0).toInt64)) + (((2187 : Int64) * (1 : Int64)) * (w1).toInt64)) + (((729 : Int64) * (4 : Int64)) * (w2).toInt64)) + (((243 : Int64) * (16 : Int64)) * (w3).toInt64)) + (((81 : Int64) * (64 : Int64)) * (w4).toInt64)) + (((27 : Int64) * (256 : Int64)) * (w5).toInt64)) + (((9 : Int64) * (1024 : Int64)) * (w6).toInt64)) + (((3 : Int64) * (4096 : Int64)) * (w7).toInt64)) _ _ _ 1 16384 w8 A_vv A_t3 A_t4 (by decide) (by decide) (by decide) (by decide) rfl rfl rfl (fun T561 L561 X561 e561 N561 => ?_)
  refine SZ10 hw X561 hx hZ hby hml hown hlk hret e561 N561 u0 u1 u2 u3 9 vv kv t3 k3 t4 k4 aa 9 p547 0 ((((((((((6561 : Int64) * ((w0).toInt64)) + (((2187 : Int64) * (1 : Int64)) * (w1).toInt64)) + (((729 : Int64) * (4 : Int64)) * (w2).toInt64)) + (((243 : Int64) * (16 : Int64)) * (w3).toInt64)) + (((81 : Int64) * (64 : Int64)) * (w4).toInt64)) + (((27 : Int64) * (256 : Int64)) * (w5).toInt64)) + (((9 : Int64) * (1024 : Int64)) * (w6).toInt64)) + (((3 : Int64) * (4096 : Int64)) * (w7).toInt64)) + (((1 : Int64) * (16384 : Int64)) * (w8).toInt64)) (by decide) (fun T562 L562 X562 e562 N562 => ?_)
  refine o_aload 741 X562 hx (hb hby at_739) rfl rfl rfl ?_
  obtain ⟨cq563, kq563, q563a, q563b, q563c⟩ := isOf hZ e562 od.1
  obtain ⟨_, _, ⟨T563, L563, k563, n563⟩, -, X563, ⟨Lc563, hQ563, l563, y563, z563⟩, st563⟩ := X562.virtualBack hx (y := yn10) (z := yn10) hown (mvT hZ (ow hw 91 rfl)) (mvT hZ (ow hw 92 rfl)) (notFace_of_selects (args := #[]) (mvT hZ (ow hw 94 rfl))) (mvT hZ (ow hw 94 rfl)) (mvT hZ (ow hw 93 rfl)) (by decide) (backOf (W := 0) (rmG lL Z a0 hw [] p547 (stp (FP.i2d w8) (stp (FP.i2d w7) (stp (FP.i2d w6) (stp (FP.i2d w5) (stp (FP.i2d w4) (stp (FP.i2d w3) (stp (FP.i2d w2) (stp (FP.i2d w1) (FP.i2d w0))))))))) T547.heap n0 od) hZ (ow hw 95 rfl) (ow hw 55 rfl) (by decide) (by decide)) q563a q563c (g := (mkF mM 741 #[.val (.int u0), .val (.long u1), .second, .val (.long u2), .second, .val (.long u3), .second, .val (.int 9), .val (.ref vv), .val (.ref t3), .val (.ref t4), .val (.ref aa), .val (.int 9), .val (.ref p547), .val (.int 0), .val (.long (((((((((((6561 : Int64) * ((w0).toInt64)) + (((2187 : Int64) * (1 : Int64)) * (w1).toInt64)) + (((729 : Int64) * (4 : Int64)) * (w2).toInt64)) + (((243 : Int64) * (16 : Int64)) * (w3).toInt64)) + (((81 : Int64) * (64 : Int64)) * (w4).toInt64)) + (((27 : Int64) * (256 : Int64)) * (w5).toInt64)) + (((9 : Int64) * (1024 : Int64)) * (w6).toInt64)) + (((3 : Int64) * (4096 : Int64)) * (w7).toInt64)) + (((1 : Int64) * (16384 : Int64)) * (w8).toInt64)) + (0 : Int64))), .second] [.ref p547])) rfl (by rw [hml]; rfl) (Steps.refl _) (argsL := []) (rest := []) (lenOf pd__28_29D rfl) rfl (by show 2 * 0 + _ ≤ _; exact Nat.le_of_eq rfl) (hb hby at_741) (fun _ _ => ⟨rfl, e562, (by decide : 6 + 0 ≤ _), (by decide : 48 + 0 ≤ _)⟩)
  dsimp only [Pt.U, Pt.locs, Pt.cells, Pt.slots] at X563 l563 y563 z563 st563 hQ563
  have X563 := own_cs X563 6 48 y563 z563
  obtain ⟨rfl, N563q, e563⟩ := hQ563
  have N563 := own_N l563 N562 N563q
  refine own_k T563 744 [(.double (stp (FP.i2d w8) (stp (FP.i2d w7) (stp (FP.i2d w6) (stp (FP.i2d w5) (stp (FP.i2d w4) (stp (FP.i2d w3) (stp (FP.i2d w2) (stp (FP.i2d w1) (FP.i2d w0))))))))))] (fun t_ k_ => st563.trans k_) ?_
  refine o_aload 746 X563 hx (hb hby at_744) rfl rfl rfl ?_
  refine o_iload 748 X563 hx (hb hby at_746) rfl rfl ?_
  refine o_iconst 749 1 X563 hx (hb hby at_748) rfl rfl ?_
  refine own_j 750 [.int 8, .ref t4, (.double (stp (FP.i2d w8) (stp (FP.i2d w7) (stp (FP.i2d w6) (stp (FP.i2d w5) (stp (FP.i2d w4) (stp (FP.i2d w3) (stp (FP.i2d w2) (stp (FP.i2d w1) (FP.i2d w0))))))))))] (fun t_ k_ => XS.isub X563.here hx rfl (hb hby at_749) rfl k_) ?_
  obtain ⟨cl564, Ar564, q564, S564, Nn564, H564, G564⟩ := id A_t4
  have hin564 : ¬ ((8 : Int32) < 0 ∨ cl564.slots.size ≤ ((8 : Int32)).toNatClampNeg) := inb_of S564 ⟨by decide, by decide⟩
  refine own_j 751 [.long 65536, (.double (stp (FP.i2d w8) (stp (FP.i2d w7) (stp (FP.i2d w6) (stp (FP.i2d w5) (stp (FP.i2d w4) (stp (FP.i2d w3) (stp (FP.i2d w2) (stp (FP.i2d w1) (FP.i2d w0))))))))))] (fun t_ k_ => X563.laload hx (j := (8 : Int32)) (v := (.long 65536)) (by rw [e563]; exact Ar564.1) (State.isArrayOf_alike hZ.alike Ar564.2.1) Ar564.2.2 hin564 (H564.at hin564 rfl) (g := (mkF mM 750 #[.val (.int u0), .val (.long u1), .second, .val (.long u2), .second, .val (.long u3), .second, .val (.int 9), .val (.ref vv), .val (.ref t3), .val (.ref t4), .val (.ref aa), .val (.int 9), .val (.ref p547), .val (.int 0), .val (.long (((((((((((6561 : Int64) * ((w0).toInt64)) + (((2187 : Int64) * (1 : Int64)) * (w1).toInt64)) + (((729 : Int64) * (4 : Int64)) * (w2).toInt64)) + (((243 : Int64) * (16 : Int64)) * (w3).toInt64)) + (((81 : Int64) * (64 : Int64)) * (w4).toInt64)) + (((27 : Int64) * (256 : Int64)) * (w5).toInt64)) + (((9 : Int64) * (1024 : Int64)) * (w6).toInt64)) + (((3 : Int64) * (4096 : Int64)) * (w7).toInt64)) + (((1 : Int64) * (16384 : Int64)) * (w8).toInt64)) + (0 : Int64))), .second] [.int 8, .ref t4, (.double (stp (FP.i2d w8) (stp (FP.i2d w7) (stp (FP.i2d w6) (stp (FP.i2d w5) (stp (FP.i2d w4) (stp (FP.i2d w3) (stp (FP.i2d w2) (stp (FP.i2d w1) (FP.i2d w0))))))))))])) rfl rfl (hb hby at_750) t_ k_) ?_
  refine own_j 752 [(.double (FP.l2d (65536 : Int64))), (.double (stp (FP.i2d w8) (stp (FP.i2d w7) (stp (FP.i2d w6) (stp (FP.i2d w5) (stp (FP.i2d w4) (stp (FP.i2d w3) (stp (FP.i2d w2) (stp (FP.i2d w1) (FP.i2d w0))))))))))] (fun t_ k_ => XS.l2dS X563.here hx rfl (hb hby at_751) rfl rfl k_) ?_
  have av0 : Av (FP.i2d w0) w0.toInt 0 (32768 * 1) := own_av0 bl0 bu0
  obtain ⟨-, -, -, av1⟩ := own_stp (P := 1) bl1 bu1 av0 (by decide) (by decide) (by decide) (by decide)
  have av1 : Av (stp (FP.i2d w1) (FP.i2d w0)) (1 * w1.toInt + 3 * w0.toInt) 1 (32768 * 4) := av1
  obtain ⟨-, -, -, av2⟩ := own_stp (P := 4) bl2 bu2 av1 (by decide) (by decide) (by decide) (by decide)
  have av2 : Av (stp (FP.i2d w2) (stp (FP.i2d w1) (FP.i2d w0))) (4 * w2.toInt + 3 * (1 * w1.toInt + 3 * w0.toInt)) 2 (32768 * 16) := av2
  obtain ⟨-, -, -, av3⟩ := own_stp (P := 16) bl3 bu3 av2 (by decide) (by decide) (by decide) (by decide)
  have av3 : Av (stp (FP.i2d w3) (stp (FP.i2d w2) (stp (FP.i2d w1) (FP.i2d w0)))) (16 * w3.toInt + 3 * (4 * w2.toInt + 3 * (1 * w1.toInt + 3 * w0.toInt))) 3 (32768 * 64) := av3
  obtain ⟨-, -, -, av4⟩ := own_stp (P := 64) bl4 bu4 av3 (by decide) (by decide) (by decide) (by decide)
  have av4 : Av (stp (FP.i2d w4) (stp (FP.i2d w3) (stp (FP.i2d w2) (stp (FP.i2d w1) (FP.i2d w0))))) (64 * w4.toInt + 3 * (16 * w3.toInt + 3 * (4 * w2.toInt + 3 * (1 * w1.toInt + 3 * w0.toInt)))) 4 (32768 * 256) := av4
  obtain ⟨-, -, -, av5⟩ := own_stp (P := 256) bl5 bu5 av4 (by decide) (by decide) (by decide) (by decide)
  have av5 : Av (stp (FP.i2d w5) (stp (FP.i2d w4) (stp (FP.i2d w3) (stp (FP.i2d w2) (stp (FP.i2d w1) (FP.i2d w0)))))) (256 * w5.toInt + 3 * (64 * w4.toInt + 3 * (16 * w3.toInt + 3 * (4 * w2.toInt + 3 * (1 * w1.toInt + 3 * w0.toInt))))) 5 (32768 * 1024) := av5
  obtain ⟨-, -, -, av6⟩ := own_stp (P := 1024) bl6 bu6 av5 (by decide) (by decide) (by decide) (by decide)
  have av6 : Av (stp (FP.i2d w6) (stp (FP.i2d w5) (stp (FP.i2d w4) (stp (FP.i2d w3) (stp (FP.i2d w2) (stp (FP.i2d w1) (FP.i2d w0))))))) (1024 * w6.toInt + 3 * (256 * w5.toInt + 3 * (64 * w4.toInt + 3 * (16 * w3.toInt + 3 * (4 * w2.toInt + 3 * (1 * w1.toInt + 3 * w0.toInt)))))) 6 (32768 * 4096) := av6
  obtain ⟨-, -, -, av7⟩ := own_stp (P := 4096) bl7 bu7 av6 (by decide) (by decide) (by decide) (by decide)
  have av7 : Av (stp (FP.i2d w7) (stp (FP.i2d w6) (stp (FP.i2d w5) (stp (FP.i2d w4) (stp (FP.i2d w3) (stp (FP.i2d w2) (stp (FP.i2d w1) (FP.i2d w0)))))))) (4096 * w7.toInt + 3 * (1024 * w6.toInt + 3 * (256 * w5.toInt + 3 * (64 * w4.toInt + 3 * (16 * w3.toInt + 3 * (4 * w2.toInt + 3 * (1 * w1.toInt + 3 * w0.toInt))))))) 7 (32768 * 16384) := av7
  obtain ⟨-, -, -, av8⟩ := own_stp (P := 16384) bl8 bu8 av7 (by decide) (by decide) (by decide) (by decide)
  have av8 : Av (stp (FP.i2d w8) (stp (FP.i2d w7) (stp (FP.i2d w6) (stp (FP.i2d w5) (stp (FP.i2d w4) (stp (FP.i2d w3) (stp (FP.i2d w2) (stp (FP.i2d w1) (FP.i2d w0))))))))) (16384 * w8.toInt + 3 * (4096 * w7.toInt + 3 * (1024 * w6.toInt + 3 * (256 * w5.toInt + 3 * (64 * w4.toInt + 3 * (16 * w3.toInt + 3 * (4 * w2.toInt + 3 * (1 * w1.toInt + 3 * w0.toInt)))))))) 8 (32768 * 65536) := av8
  have sm1 := own_Lmul (x := w0) (c := 6561) (C := 6561) (by decide) (by decide) (by decide) bl0 bu0
  have tm2 := own_Lmul (x := w1) (c := (2187 : Int64) * (1 : Int64)) (C := 2187) (by decide) (by decide) (by decide) bl1 bu1
  have sm2 := own_Ladd sm1 tm2 (by omega) (by omega) (by omega) (by omega)
  have tm3 := own_Lmul (x := w2) (c := (729 : Int64) * (4 : Int64)) (C := 2916) (by decide) (by decide) (by decide) bl2 bu2
  have sm3 := own_Ladd sm2 tm3 (by omega) (by omega) (by omega) (by omega)
  have tm4 := own_Lmul (x := w3) (c := (243 : Int64) * (16 : Int64)) (C := 3888) (by decide) (by decide) (by decide) bl3 bu3
  have sm4 := own_Ladd sm3 tm4 (by omega) (by omega) (by omega) (by omega)
  have tm5 := own_Lmul (x := w4) (c := (81 : Int64) * (64 : Int64)) (C := 5184) (by decide) (by decide) (by decide) bl4 bu4
  have sm5 := own_Ladd sm4 tm5 (by omega) (by omega) (by omega) (by omega)
  have tm6 := own_Lmul (x := w5) (c := (27 : Int64) * (256 : Int64)) (C := 6912) (by decide) (by decide) (by decide) bl5 bu5
  have sm6 := own_Ladd sm5 tm6 (by omega) (by omega) (by omega) (by omega)
  have tm7 := own_Lmul (x := w6) (c := (9 : Int64) * (1024 : Int64)) (C := 9216) (by decide) (by decide) (by decide) bl6 bu6
  have sm7 := own_Ladd sm6 tm7 (by omega) (by omega) (by omega) (by omega)
  have tm8 := own_Lmul (x := w7) (c := (3 : Int64) * (4096 : Int64)) (C := 12288) (by decide) (by decide) (by decide) bl7 bu7
  have sm8 := own_Ladd sm7 tm8 (by omega) (by omega) (by omega) (by omega)
  have tm9 := own_Lmul (x := w8) (c := (1 : Int64) * (16384 : Int64)) (C := 16384) (by decide) (by decide) (by decide) bl8 bu8
  have sm9 := own_Ladd sm8 tm9 (by omega) (by omega) (by omega) (by omega)
  have tm10 : (0 : Int64).toInt = 0 := by decide
  have sm10 := own_Ladd sm9 tm10 (by omega) (by omega) (by omega) (by omega)
  have hs : ((((((((((((6561 : Int64) * ((w0).toInt64)) + (((2187 : Int64) * (1 : Int64)) * (w1).toInt64)) + (((729 : Int64) * (4 : Int64)) * (w2).toInt64)) + (((243 : Int64) * (16 : Int64)) * (w3).toInt64)) + (((81 : Int64) * (64 : Int64)) * (w4).toInt64)) + (((27 : Int64) * (256 : Int64)) * (w5).toInt64)) + (((9 : Int64) * (1024 : Int64)) * (w6).toInt64)) + (((3 : Int64) * (4096 : Int64)) * (w7).toInt64)) + (((1 : Int64) * (16384 : Int64)) * (w8).toInt64)) + (0 : Int64))).toInt = (16384 * w8.toInt + 3 * (4096 * w7.toInt + 3 * (1024 * w6.toInt + 3 * (256 * w5.toInt + 3 * (64 * w4.toInt + 3 * (16 * w3.toInt + 3 * (4 * w2.toInt + 3 * (1 * w1.toInt + 3 * w0.toInt)))))))) := sm10.trans (by omega)
  obtain ⟨nl, cl⟩ := own_last (p := 65536) av8 (by decide) (by decide) (by decide) (by decide) (by decide) hs
  refine own_j 753 [(.double (FP.dmul (stp (FP.i2d w8) (stp (FP.i2d w7) (stp (FP.i2d w6) (stp (FP.i2d w5) (stp (FP.i2d w4) (stp (FP.i2d w3) (stp (FP.i2d w2) (stp (FP.i2d w1) (FP.i2d w0))))))))) (FP.l2d (65536 : Int64))))] (fun t_ k_ => XS.dmulS X563.here hx rfl (hb hby at_752) rfl nl rfl k_) ?_
  refine o_lload 755 X563 hx (hb hby at_753) rfl rfl ?_
  refine own_j 756 [(.double (FP.l2d (((((((((((6561 : Int64) * ((w0).toInt64)) + (((2187 : Int64) * (1 : Int64)) * (w1).toInt64)) + (((729 : Int64) * (4 : Int64)) * (w2).toInt64)) + (((243 : Int64) * (16 : Int64)) * (w3).toInt64)) + (((81 : Int64) * (64 : Int64)) * (w4).toInt64)) + (((27 : Int64) * (256 : Int64)) * (w5).toInt64)) + (((9 : Int64) * (1024 : Int64)) * (w6).toInt64)) + (((3 : Int64) * (4096 : Int64)) * (w7).toInt64)) + (((1 : Int64) * (16384 : Int64)) * (w8).toInt64)) + (0 : Int64)))), (.double (FP.dmul (stp (FP.i2d w8) (stp (FP.i2d w7) (stp (FP.i2d w6) (stp (FP.i2d w5) (stp (FP.i2d w4) (stp (FP.i2d w3) (stp (FP.i2d w2) (stp (FP.i2d w1) (FP.i2d w0))))))))) (FP.l2d (65536 : Int64))))] (fun t_ k_ => XS.l2dS X563.here hx rfl (hb hby at_755) rfl rfl k_) ?_
  refine own_j 757 [.int 0] (fun t_ k_ => XS.dcmpS X563.here hx rfl (hb hby at_756) rfl (cl _) k_) ?_
  refine o_ifNo 760 X563 hx (hb hby at_757) ((if0 _ _).trans (teq (by decide : ((0 : Int32) = (0 : Int32)))).2) rfl ?_
  refine o_iconst 761 1 X563 hx (hb hby at_760) rfl rfl ?_
  refine o_goto 765 X563 hx (hb hby at_761) (by decide) ?_
  exact own_retN X563 hx hlk (t := .boolean) hret (by simp) (hb hby at_765) ⟨rfl, N563⟩ (by decide) (by decide)
theorem J278_10 (hw : own_tb a0 Z) (X0 : Stand pP lL eE room_1 sS mM args below meth cC T0 locs 5 46) (hx : pP.tables.exec = Jvm.exec) (hZ : Z.Warmed39 sS.vm) (hby : cC.code = code) (hml : cC.maxLocals = 17) (hown : sS.vm.findClass "com/example/gleanwork/gleanwork/schedule/RecentAverageAddPinLaw" = some mM.cls) (hlk : meth.locks = false) (hret : meth.sig.returnType = ret) (e0 : T0.heap = h0) (N0 : Fr n0 locs) (u0 : Int32) (u1 : Int64) (u2 : Int64) (u3 : Int64) (w0 : Int32) (w1 : Int32) (w2 : Int32) (w3 : Int32) (w4 : Int32) (w5 : Int32) (w6 : Int32) (w7 : Int32) (w8 : Int32) (w9 : Int32) (w10 : Int32) (w11 : Int32) (vv : Addr) (kv : ClassId) (t3 : Addr) (k3 : ClassId) (t4 : Addr) (k4 : ClassId) (aa : Addr) (dd : Addr) (kd : ClassId) (em : Addr) (O : Old Z n0 h0) (Zn : n0 ≤ h0.size) (g_aa : n0 ≤ aa) (g_dd : n0 ≤ dd) (A_vv : Arv Z h0 vv kv .int 12 [.int w0, .int w1, .int w2, .int w3, .int w4, .int w5, .int w6, .int w7, .int w8, .int w9, .int w10, .int w11] (.int 0)) (A_t3 : Arv Z h0 t3 k3 .long 10 [.long 1, .long 3, .long 9, .long 27, .long 81, .long 243, .long 729, .long 2187, .long 6561, .long 19683] (.long 0)) (A_t4 : Arv Z h0 t4 k4 .long 10 [.long 1, .long 4, .long 16, .long 64, .long 256, .long 1024, .long 4096, .long 16384, .long 65536, .long 262144] (.long 0)) (nq0 : vv ≠ aa) (nq1 : vv ≠ dd) (nq2 : t3 ≠ aa) (nq3 : t3 ≠ dd) (nq4 : t4 ≠ aa) (nq5 : t4 ≠ dd) (nq6 : aa ≠ dd) (ra : Ra Z h0 aa dd kd 0 0 0 [.double 0, .double 0, .double 0, .double 0, .double 0, .double 0, .double 0, .double 0, .double 0, .double 0]) (S_em : Sta Z Z.heap "java/util/OptionalDouble" "EMPTY" "Ljava/util/OptionalDouble;" (.ref em)) (E_em : Exa Z Z.heap em "java/util/OptionalDouble") (F_em : Fld Z Z.heap em "java/util/OptionalDouble" "isPresent" "Z" (.int 0)) (bl0 : -32768 ≤ w0.toInt) (bl1 : -32768 ≤ w1.toInt) (bl2 : -32768 ≤ w2.toInt) (bl3 : -32768 ≤ w3.toInt) (bl4 : -32768 ≤ w4.toInt) (bl5 : -32768 ≤ w5.toInt) (bl6 : -32768 ≤ w6.toInt) (bl7 : -32768 ≤ w7.toInt) (bl8 : -32768 ≤ w8.toInt) (bl9 : -32768 ≤ w9.toInt) (bl10 : -32768 ≤ w10.toInt) (bl11 : -32768 ≤ w11.toInt) (bu0 : w0.toInt ≤ 32768) (bu1 : w1.toInt ≤ 32768) (bu2 : w2.toInt ≤ 32768) (bu3 : w3.toInt ≤ 32768) (bu4 : w4.toInt ≤ 32768) (bu5 : w5.toInt ≤ 32768) (bu6 : w6.toInt ≤ 32768) (bu7 : w7.toInt ≤ 32768) (bu8 : w8.toInt ≤ 32768) (bu9 : w9.toInt ≤ 32768) (bu10 : w10.toInt ≤ 32768) (bu11 : w11.toInt ≤ 32768) :
    own_Go pP eE below sS (QLaw n0) 24 192 (T0.setTop (mkF mM 278 #[.val (.int u0), .val (.long u1), .second, .val (.long u2), .second, .val (.long u3), .second, .val (.int 10), .val (.ref vv), .val (.ref t3), .val (.ref t4), .val (.ref aa), .unset, .unset, .unset, .unset, .unset] [])) := by
  refine SA1 hw X0 hx hZ hby hml hown hlk hret e0 N0 u0 u1 u2 u3 10 w0 w1 w2 w3 w4 w5 w6 w7 w8 w9 w10 w11 vv kv t3 k3 t4 k4 aa dd kd O Zn g_aa g_dd A_vv A_t3 A_t4 nq0 nq1 nq2 nq3 nq4 nq5 nq6 ra bl0 bl1 bl2 bl3 bl4 bl5 bl6 bl7 bl8 bl9 bl10 bl11 bu0 bu1 bu2 bu3 bu4 bu5 bu6 bu7 bu8 bu9 bu10 bu11 (by decide) (fun T565 L565 h565 X565 e565 N565 O Zn A_vv A_t3 A_t4 ra => ?_)
  refine SA2 hw X565 hx hZ hby hml hown hlk hret e565 N565 u0 u1 u2 u3 10 w0 w1 w2 w3 w4 w5 w6 w7 w8 w9 w10 w11 vv kv t3 k3 t4 k4 aa dd kd O Zn g_aa g_dd A_vv A_t3 A_t4 nq0 nq1 nq2 nq3 nq4 nq5 nq6 ra bl0 bl1 bl2 bl3 bl4 bl5 bl6 bl7 bl8 bl9 bl10 bl11 bu0 bu1 bu2 bu3 bu4 bu5 bu6 bu7 bu8 bu9 bu10 bu11 (by decide) (fun T566 L566 h566 X566 e566 N566 O Zn A_vv A_t3 A_t4 ra => ?_)
  refine SA3 hw X566 hx hZ hby hml hown hlk hret e566 N566 u0 u1 u2 u3 10 w0 w1 w2 w3 w4 w5 w6 w7 w8 w9 w10 w11 vv kv t3 k3 t4 k4 aa dd kd O Zn g_aa g_dd A_vv A_t3 A_t4 nq0 nq1 nq2 nq3 nq4 nq5 nq6 ra bl0 bl1 bl2 bl3 bl4 bl5 bl6 bl7 bl8 bl9 bl10 bl11 bu0 bu1 bu2 bu3 bu4 bu5 bu6 bu7 bu8 bu9 bu10 bu11 (by decide) (fun T567 L567 h567 X567 e567 N567 O Zn A_vv A_t3 A_t4 ra => ?_)
  refine SA4 hw X567 hx hZ hby hml hown hlk hret e567 N567 u0 u1 u2 u3 10 w0 w1 w2 w3 w4 w5 w6 w7 w8 w9 w10 w11 vv kv t3 k3 t4 k4 aa dd kd O Zn g_aa g_dd A_vv A_t3 A_t4 nq0 nq1 nq2 nq3 nq4 nq5 nq6 ra bl0 bl1 bl2 bl3 bl4 bl5 bl6 bl7 bl8 bl9 bl10 bl11 bu0 bu1 bu2 bu3 bu4 bu5 bu6 bu7 bu8 bu9 bu10 bu11 (by decide) (fun T568 L568 h568 X568 e568 N568 O Zn A_vv A_t3 A_t4 ra => ?_)
  refine SA5 hw X568 hx hZ hby hml hown hlk hret e568 N568 u0 u1 u2 u3 10 w0 w1 w2 w3 w4 w5 w6 w7 w8 w9 w10 w11 vv kv t3 k3 t4 k4 aa dd kd O Zn g_aa g_dd A_vv A_t3 A_t4 nq0 nq1 nq2 nq3 nq4 nq5 nq6 ra bl0 bl1 bl2 bl3 bl4 bl5 bl6 bl7 bl8 bl9 bl10 bl11 bu0 bu1 bu2 bu3 bu4 bu5 bu6 bu7 bu8 bu9 bu10 bu11 (by decide) (fun T569 L569 h569 X569 e569 N569 O Zn A_vv A_t3 A_t4 ra => ?_)
  refine SA6 hw X569 hx hZ hby hml hown hlk hret e569 N569 u0 u1 u2 u3 10 w0 w1 w2 w3 w4 w5 w6 w7 w8 w9 w10 w11 vv kv t3 k3 t4 k4 aa dd kd O Zn g_aa g_dd A_vv A_t3 A_t4 nq0 nq1 nq2 nq3 nq4 nq5 nq6 ra bl0 bl1 bl2 bl3 bl4 bl5 bl6 bl7 bl8 bl9 bl10 bl11 bu0 bu1 bu2 bu3 bu4 bu5 bu6 bu7 bu8 bu9 bu10 bu11 (by decide) (fun T570 L570 h570 X570 e570 N570 O Zn A_vv A_t3 A_t4 ra => ?_)
  refine SA7 hw X570 hx hZ hby hml hown hlk hret e570 N570 u0 u1 u2 u3 10 w0 w1 w2 w3 w4 w5 w6 w7 w8 w9 w10 w11 vv kv t3 k3 t4 k4 aa dd kd O Zn g_aa g_dd A_vv A_t3 A_t4 nq0 nq1 nq2 nq3 nq4 nq5 nq6 ra bl0 bl1 bl2 bl3 bl4 bl5 bl6 bl7 bl8 bl9 bl10 bl11 bu0 bu1 bu2 bu3 bu4 bu5 bu6 bu7 bu8 bu9 bu10 bu11 (by decide) (fun T571 L571 h571 X571 e571 N571 O Zn A_vv A_t3 A_t4 ra => ?_)
  refine SA8 hw X571 hx hZ hby hml hown hlk hret e571 N571 u0 u1 u2 u3 10 w0 w1 w2 w3 w4 w5 w6 w7 w8 w9 w10 w11 vv kv t3 k3 t4 k4 aa dd kd O Zn g_aa g_dd A_vv A_t3 A_t4 nq0 nq1 nq2 nq3 nq4 nq5 nq6 ra bl0 bl1 bl2 bl3 bl4 bl5 bl6 bl7 bl8 bl9 bl10 bl11 bu0 bu1 bu2 bu3 bu4 bu5 bu6 bu7 bu8 bu9 bu10 bu11 (by decide) (fun T572 L572 h572 X572 e572 N572 O Zn A_vv A_t3 A_t4 ra => ?_)
  refine SA9 hw X572 hx hZ hby hml hown hlk hret e572 N572 u0 u1 u2 u3 10 w0 w1 w2 w3 w4 w5 w6 w7 w8 w9 w10 w11 vv kv t3 k3 t4 k4 aa dd kd O Zn g_aa g_dd A_vv A_t3 A_t4 nq0 nq1 nq2 nq3 nq4 nq5 nq6 ra bl0 bl1 bl2 bl3 bl4 bl5 bl6 bl7 bl8 bl9 bl10 bl11 bu0 bu1 bu2 bu3 bu4 bu5 bu6 bu7 bu8 bu9 bu10 bu11 (by decide) (fun T573 L573 h573 X573 e573 N573 O Zn A_vv A_t3 A_t4 ra => ?_)
  refine SA10 hw X573 hx hZ hby hml hown hlk hret e573 N573 u0 u1 u2 u3 10 w0 w1 w2 w3 w4 w5 w6 w7 w8 w9 w10 w11 vv kv t3 k3 t4 k4 aa dd kd O Zn g_aa g_dd A_vv A_t3 A_t4 nq0 nq1 nq2 nq3 nq4 nq5 nq6 ra bl0 bl1 bl2 bl3 bl4 bl5 bl6 bl7 bl8 bl9 bl10 bl11 bu0 bu1 bu2 bu3 bu4 bu5 bu6 bu7 bu8 bu9 bu10 bu11 (by decide) (fun T574 L574 h574 X574 e574 N574 O Zn A_vv A_t3 A_t4 ra => ?_)
  refine o_iload 449 X574 hx (hb hby at_447) rfl rfl ?_
  refine o_bipush 451 11 X574 hx (hb hby at_449) rfl rfl ?_
  refine o_icmpYes 465 X574 hx (hb hby at_451) (tlt (by decide : ((10 : Int32) < (11 : Int32)))).1 (by decide) ?_
  refine o_iload 467 X574 hx (hb hby at_465) rfl rfl ?_
  refine o_bipush 469 12 X574 hx (hb hby at_467) rfl rfl ?_
  refine o_icmpYes 483 X574 hx (hb hby at_469) (tlt (by decide : ((10 : Int32) < (12 : Int32)))).1 (by decide) ?_
  refine o_iload 485 X574 hx (hb hby at_483) rfl rfl ?_
  refine o_bipush 487 10 X574 hx (hb hby at_485) rfl rfl ?_
  obtain ⟨_, _, ⟨T575, L575, k575, n575⟩, -, X575, ⟨Lc575, hQ575, l575, y575, z575⟩, st575⟩ := Jvm.LawKit.callS X574 hx (y := yn3) hown (mvT hZ (ow hw 37 rfl)) (mvT hZ (ow hw 38 rfl)) (mvT hZ (ow hw 39 rfl)) (mvT hZ (ow hw 40 rfl)) (by decide) (backOf (W := 0) (rmM10 lL Z a0 hw []  h574 n0 ) hZ (ow hw 40 rfl) (ow hw 39 rfl) (by decide) (by decide)) (g := (mkF mM 487 #[.val (.int u0), .val (.long u1), .second, .val (.long u2), .second, .val (.long u3), .second, .val (.int 10), .val (.ref vv), .val (.ref t3), .val (.ref t4), .val (.ref aa), .unset, .unset, .unset, .unset, .unset] [.int 10, .int 10])) rfl (by rw [hml]; rfl) (argsL := [.int 10, .int 10]) (rest := []) (lenOf pd__28II_29I rfl) rfl (by show 2 * 0 + _ ≤ _; exact Nat.le_of_eq rfl) (hb hby at_487) (fun _ _ => ⟨rfl, e574, (by decide : 5 + 0 ≤ _), (by decide : 46 + 0 ≤ _)⟩)
  dsimp only [Pt.U, Pt.locs, Pt.cells, Pt.slots] at X575 l575 y575 z575 st575 hQ575
  have X575 := own_cs X575 5 46 y575 z575
  obtain ⟨rfl, N575q, e575⟩ := hQ575
  have N575 := own_N l575 N574 N575q
  refine own_k T575 490 [.int 10] st575 ?_
  let Lv576 : Array Slot := #[.val (.int u0), .val (.long u1), .second, .val (.long u2), .second, .val (.long u3), .second, .val (.int 10), .val (.ref vv), .val (.ref t3), .val (.ref t4), .val (.ref aa), .val (.int 10), .unset, .unset, .unset, .unset]
  refine own_st (A := T575.setTop (mkF mM 492 Lv576 [])) (fun t_ k_ => XS.istore X575.here hx rfl (hb hby at_490) rfl (l' := Lv576) rfl k_) ?_
  refine o_aload 494 X575 hx (hb hby at_492) rfl rfl rfl ?_
  obtain ⟨cq577, kq577, q577a, q577b, q577c⟩ := isOf hZ e575 ra.1
  obtain ⟨_, _, ⟨T577, L577, k577, n577⟩, -, X577, ⟨Lc577, hQ577, l577, y577, z577⟩, st577⟩ := X575.virtualBack hx (y := yn4) (z := yn4) hown (mvT hZ (ow hw 41 rfl)) (mvT hZ (ow hw 42 rfl)) (notFace_of_selects (args := #[]) (mvT hZ (ow hw 44 rfl))) (mvT hZ (ow hw 44 rfl)) (mvT hZ (ow hw 43 rfl)) (by decide) (backOf (W := 0) (rmC lL Z a0 hw [] aa 10 h574 n0 ra.2.2.1) hZ (ow hw 45 rfl) (ow hw 27 rfl) (by decide) (by decide)) q577a q577c (g := (mkF mM 494 Lv576 [.ref aa])) rfl (by rw [hml]; rfl) (Steps.refl _) (argsL := []) (rest := []) (lenOf pd__28_29I rfl) rfl (by show 2 * 0 + _ ≤ _; exact Nat.le_of_eq rfl) (hb hby at_494) (fun _ _ => ⟨rfl, e575, (by decide : 5 + 0 ≤ _), (by decide : 46 + 0 ≤ _)⟩)
  dsimp only [Pt.U, Pt.locs, Pt.cells, Pt.slots] at X577 l577 y577 z577 st577 hQ577
  have X577 := own_cs X577 5 46 y577 z577
  obtain ⟨rfl, N577q, e577⟩ := hQ577
  have N577 := own_N l577 N575 N577q
  refine own_k T577 497 [.int 10] (fun t_ k_ => st577.trans k_) ?_
  refine o_iload 499 X577 hx (hb hby at_497) rfl rfl ?_
  refine o_icmpYes 504 X577 hx (hb hby at_499) (teq (by decide : ((10 : Int32) = (10 : Int32)))).1 (by decide) ?_
  refine o_aload 506 X577 hx (hb hby at_504) rfl rfl rfl ?_
  obtain ⟨cq578, kq578, q578a, q578b, q578c⟩ := isOf hZ e577 ra.1
  obtain ⟨_, _, ⟨T578, L578, k578, n578⟩, -, X578, ⟨Lc578, hQ578, l578, y578, z578⟩, st578⟩ := X577.virtualBack hx (y := yn8) (z := yn8) hown (mvT hZ (ow hw 48 rfl)) (mvT hZ (ow hw 49 rfl)) (notFace_of_selects (args := #[]) (mvT hZ (ow hw 51 rfl))) (mvT hZ (ow hw 51 rfl)) (mvT hZ (ow hw 50 rfl)) (by decide) (backOf (W := 0) (rmV lL Z a0 hw [] aa 10 (stp (FP.i2d w9) (stp (FP.i2d w8) (stp (FP.i2d w7) (stp (FP.i2d w6) (stp (FP.i2d w5) (stp (FP.i2d w4) (stp (FP.i2d w3) (stp (FP.i2d w2) (stp (FP.i2d w1) (FP.i2d w0)))))))))) h574 n0 Zn ra.2.2.1 ra.2.2.2.2.1 (by decide)) hZ (ow hw 52 rfl) (ow hw 27 rfl) (by decide) (by decide)) q578a q578c (g := (mkF mM 506 Lv576 [.ref aa])) rfl (by rw [hml]; rfl) (Steps.refl _) (argsL := []) (rest := []) (lenOf pd__28_29Ljava_2futil_2fOptionalDouble_3b rfl) rfl (by show 2 * 0 + _ ≤ _; exact Nat.le_of_eq rfl) (hb hby at_506) (fun _ _ => ⟨rfl, e577, (by decide : 5 + 1 ≤ _), (by decide : 46 + 2 ≤ _)⟩)
  dsimp only [Pt.U, Pt.locs, Pt.cells, Pt.slots] at X578 l578 y578 z578 st578 hQ578
  have X578 := own_cs X578 6 48 y578 z578
  obtain ⟨p578, rfl, N578q, E578, od⟩ := hQ578
  have N578 := own_N l578 N577 N578q
  have e578 : T578.heap = T578.heap := rfl
  refine own_k T578 509 [.ref p578] (fun t_ k_ => st578.trans k_) ?_
  have O := O.ext E578
  have A_vv := A_vv.ext E578
  have A_t3 := A_t3.ext E578
  have A_t4 := A_t4.ext E578
  have Zn := Nat.le_trans Zn E578.1
  let Lv579 : Array Slot := #[.val (.int u0), .val (.long u1), .second, .val (.long u2), .second, .val (.long u3), .second, .val (.int 10), .val (.ref vv), .val (.ref t3), .val (.ref t4), .val (.ref aa), .val (.int 10), .val (.ref p578), .unset, .unset, .unset]
  refine own_st (A := T578.setTop (mkF mM 511 Lv579 [])) (fun t_ k_ => XS.astore X578.here hx rfl (hb hby at_509) rfl rfl (l' := Lv579) rfl k_) ?_
  refine o_iload 513 X578 hx (hb hby at_511) rfl rfl ?_
  refine o_ifYes 530 X578 hx (hb hby at_513) ((if0 _ _).trans (feq (by decide : ¬ ((10 : Int32) = (0 : Int32)))).2) (by decide) ?_
  refine o_aload 532 X578 hx (hb hby at_530) rfl rfl rfl ?_
  obtain ⟨cq580, kq580, q580a, q580b, q580c⟩ := isOf hZ e578 od.1
  obtain ⟨_, _, ⟨T580, L580, k580, n580⟩, -, X580, ⟨Lc580, hQ580, l580, y580, z580⟩, st580⟩ := X578.virtualBack hx (y := yn9) (z := yn9) hown (mvT hZ (ow hw 58 rfl)) (mvT hZ (ow hw 59 rfl)) (notFace_of_selects (args := #[]) (mvT hZ (ow hw 61 rfl))) (mvT hZ (ow hw 61 rfl)) (mvT hZ (ow hw 60 rfl)) (by decide) (backOf (W := 0) (rmP1 lL Z a0 hw [] p578 T578.heap n0 od.2.1) hZ (ow hw 62 rfl) (ow hw 55 rfl) (by decide) (by decide)) q580a q580c (g := (mkF mM 532 Lv579 [.ref p578])) rfl (by rw [hml]; rfl) (Steps.refl _) (argsL := []) (rest := []) (lenOf pd__28_29Z rfl) rfl (by show 2 * 0 + _ ≤ _; exact Nat.le_of_eq rfl) (hb hby at_532) (fun _ _ => ⟨rfl, e578, (by decide : 6 + 0 ≤ _), (by decide : 48 + 0 ≤ _)⟩)
  dsimp only [Pt.U, Pt.locs, Pt.cells, Pt.slots] at X580 l580 y580 z580 st580 hQ580
  have X580 := own_cs X580 6 48 y580 z580
  obtain ⟨rfl, N580q, e580⟩ := hQ580
  have N580 := own_N l580 N578 N580q
  refine own_k T580 535 [.int 1] (fun t_ k_ => st580.trans k_) ?_
  refine o_ifYes 540 X580 hx (hb hby at_535) ((if0 _ _).trans (feq (by decide : ¬ ((1 : Int32) = (0 : Int32)))).2) (by decide) ?_
  refine o_iload 542 X580 hx (hb hby at_540) rfl rfl ?_
  refine o_iload 544 X580 hx (hb hby at_542) rfl rfl ?_
  refine own_j 545 [.int 0] (fun t_ k_ => XS.isub X580.here hx rfl (hb hby at_544) rfl k_) ?_
  let Lv581 : Array Slot := #[.val (.int u0), .val (.long u1), .second, .val (.long u2), .second, .val (.long u3), .second, .val (.int 10), .val (.ref vv), .val (.ref t3), .val (.ref t4), .val (.ref aa), .val (.int 10), .val (.ref p578), .val (.int 0), .unset, .unset]
  refine own_st (A := T580.setTop (mkF mM 547 Lv581 [])) (fun t_ k_ => XS.istore X580.here hx rfl (hb hby at_545) rfl (l' := Lv581) rfl k_) ?_
  refine o_aload 549 X580 hx (hb hby at_547) rfl rfl rfl ?_
  refine o_iload 551 X580 hx (hb hby at_549) rfl rfl ?_
  refine o_iconst 552 1 X580 hx (hb hby at_551) rfl rfl ?_
  refine own_j 553 [.int 9, .ref t3] (fun t_ k_ => XS.isub X580.here hx rfl (hb hby at_552) rfl k_) ?_
  obtain ⟨cl582, Ar582, q582, S582, Nn582, H582, G582⟩ := id A_t3
  have hin582 : ¬ ((9 : Int32) < 0 ∨ cl582.slots.size ≤ ((9 : Int32)).toNatClampNeg) := inb_of S582 ⟨by decide, by decide⟩
  refine own_j 554 [.long 19683] (fun t_ k_ => X580.laload hx (j := (9 : Int32)) (v := (.long 19683)) (by rw [e580]; exact Ar582.1) (State.isArrayOf_alike hZ.alike Ar582.2.1) Ar582.2.2 hin582 (H582.at hin582 rfl) (g := (mkF mM 553 Lv581 [.int 9, .ref t3])) rfl rfl (hb hby at_553) t_ k_) ?_
  refine o_aload 556 X580 hx (hb hby at_554) rfl rfl rfl ?_
  refine o_iload 558 X580 hx (hb hby at_556) rfl rfl ?_
  obtain ⟨cl583, Ar583, q583, S583, Nn583, H583, G583⟩ := id A_vv
  have hin583 : ¬ ((0 : Int32) < 0 ∨ cl583.slots.size ≤ ((0 : Int32)).toNatClampNeg) := inb_of S583 ⟨by decide, by decide⟩
  refine own_j 559 [.int w0, .long 19683] (fun t_ k_ => X580.iaload hx (j := (0 : Int32)) (v := (.int w0)) (by rw [e580]; exact Ar583.1) (State.isArrayOf_alike hZ.alike Ar583.2.1) Ar583.2.2 hin583 (H583.at hin583 rfl) (g := (mkF mM 558 Lv581 [.int 0, .ref vv, .long 19683])) rfl rfl (hb hby at_558) t_ k_) ?_
  refine own_j 560 [(.long ((w0).toInt64)), .long 19683] (fun t_ k_ => XS.i2l X580.here hx rfl (hb hby at_559) rfl k_) ?_
  refine own_j 561 [(.long ((19683 : Int64) * ((w0).toInt64)))] (fun t_ k_ => XS.lmul X580.here hx rfl (hb hby at_560) rfl k_) ?_
  let Lv584 : Array Slot := #[.val (.int u0), .val (.long u1), .second, .val (.long u2), .second, .val (.long u3), .second, .val (.int 10), .val (.ref vv), .val (.ref t3), .val (.ref t4), .val (.ref aa), .val (.int 10), .val (.ref p578), .val (.int 0), .val (.long ((19683 : Int64) * ((w0).toInt64))), .second]
  refine own_st (A := T580.setTop (mkF mM 563 Lv584 [])) (fun t_ k_ => XS.lstore X580.here hx rfl (hb hby at_561) rfl (l' := Lv584) rfl k_) ?_
  refine ST2 hw X580 hx hZ hby hml hown hlk hret e580 N580 u0 u1 u2 u3 10 vv kv t3 k3 t4 k4 aa 10 p578 0 ((19683 : Int64) * ((w0).toInt64)) _ _ _ 6561 1 w1 A_vv A_t3 A_t4 (by decide) (by decide) (by decide) (by decide) rfl rfl rfl (fun T585 L585 X585 e585 N585 => ?_)
  refine ST3 hw X585 hx hZ hby hml hown hlk hret e585 N585 u0 u1 u2 u3 10 vv kv t3 k3 t4 k4 aa 10 p578 0 (((19683 : Int64) * ((w0).toInt64)) + (((6561 : Int64) * (1 : Int64)) * (w1).toInt64)) _ _ _ 2187 4 w2 A_vv A_t3 A_t4 (by decide) (by decide) (by decide) (by decide) rfl rfl rfl (fun T586 L586 X586 e586 N586 => ?_)
  refine ST4 hw X586 hx hZ hby hml hown hlk hret e586 N586 u0 u1 u2 u3 10 vv kv t3 k3 t4 k4 aa 10 p578 0 ((((19683 : Int64) * ((w0).toInt64)) + (((6561 : Int64) * (1 : Int64)) * (w1).toInt64)) + (((2187 : Int64) * (4 : Int64)) * (w2).toInt64)) _ _ _ 729 16 w3 A_vv A_t3 A_t4 (by decide) (by decide) (by decide) (by decide) rfl rfl rfl (fun T587 L587 X587 e587 N587 => ?_)
  refine ST5 hw X587 hx hZ hby hml hown hlk hret e587 N587 u0 u1 u2 u3 10 vv kv t3 k3 t4 k4 aa 10 p578 0 (((((19683 : Int64) * ((w0).toInt64)) + (((6561 : Int64) * (1 : Int64)) * (w1).toInt64)) + (((2187 : Int64) * (4 : Int64)) * (w2).toInt64)) + (((729 : Int64) * (16 : Int64)) * (w3).toInt64)) _ _ _ 243 64 w4 A_vv A_t3 A_t4 (by decide) (by decide) (by decide) (by decide) rfl rfl rfl (fun T588 L588 X588 e588 N588 => ?_)
  refine ST6 hw X588 hx hZ hby hml hown hlk hret e588 N588 u0 u1 u2 u3 10 vv kv t3 k3 t4 k4 aa 10 p578 0 ((((((19683 : Int64) * ((w0).toInt64)) + (((6561 : Int64) * (1 : Int64)) * (w1).toInt64)) + (((2187 : Int64) * (4 : Int64)) * (w2).toInt64)) + (((729 : Int64) * (16 : Int64)) * (w3).toInt64)) + (((243 : Int64) * (64 : Int64)) * (w4).toInt64)) _ _ _ 81 256 w5 A_vv A_t3 A_t4 (by decide) (by decide) (by decide) (by decide) rfl rfl rfl (fun T589 L589 X589 e589 N589 => ?_)
  refine ST7 hw X589 hx hZ hby hml hown hlk hret e589 N589 u0 u1 u2 u3 10 vv kv t3 k3 t4 k4 aa 10 p578 0 (((((((19683 : Int64) * ((w0).toInt64)) + (((6561 : Int64) * (1 : Int64)) * (w1).toInt64)) + (((2187 : Int64) * (4 : Int64)) * (w2).toInt64)) + (((729 : Int64) * (16 : Int64)) * (w3).toInt64)) + (((243 : Int64) * (64 : Int64)) * (w4).toInt64)) + (((81 : Int64) * (256 : Int64)) * (w5).toInt64)) _ _ _ 27 1024 w6 A_vv A_t3 A_t4 (by decide) (by decide) (by decide) (by decide) rfl rfl rfl (fun T590 L590 X590 e590 N590 => ?_)
  refine ST8 hw X590 hx hZ hby hml hown hlk hret e590 N590 u0 u1 u2 u3 10 vv kv t3 k3 t4 k4 aa 10 p578 0 ((((((((19683 : Int64) * ((w0).toInt64)) + (((6561 : Int64) * (1 : Int64)) * (w1).toInt64)) + (((2187 : Int64) * (4 : Int64)) * (w2).toInt64)) + (((729 : Int64) * (16 : Int64)) * (w3).toInt64)) + (((243 : Int64) * (64 : Int64)) * (w4).toInt64)) + (((81 : Int64) * (256 : Int64)) * (w5).toInt64)) + (((27 : Int64) * (1024 : Int64)) * (w6).toInt64)) _ _ _ 9 4096 w7 A_vv A_t3 A_t4 (by decide) (by decide) (by decide) (by decide) rfl rfl rfl (fun T591 L591 X591 e591 N591 => ?_)
  refine ST9 hw X591 hx hZ hby hml hown hlk hret e591 N591 u0 u1 u2 u3 10 vv kv t3 k3 t4 k4 aa 10 p578 0 (((((((((19683 : Int64) * ((w0).toInt64)) + (((6561 : Int64) * (1 : Int64)) * (w1).toInt64)) + (((2187 : Int64) * (4 : Int64)) * (w2).toInt64)) + (((729 : Int64) * (16 : Int64)) * (w3).toInt64)) + (((243 : Int64) * (64 : Int64)) * (w4).toInt64)) + (((81 : Int64) * (256 : Int64)) * (w5).toInt64)) + (((27 : Int64) * (1024 : Int64)) * (w6).toInt64)) + (((9 : Int64) * (4096 : Int64)) * (w7).toInt64)) _ _ _ 3 16384 w8 A_vv A_t3 A_t4 (by decide) (by decide) (by decide) (by decide) rfl rfl rfl (fun T592 L592 X592 e592 N592 => ?_)
  refine ST10 hw X592 hx hZ hby hml hown hlk hret e592 N592 u0 u1 u2 u3 10 vv kv t3 k3 t4 k4 aa 10 p578 0 ((((((((((19683 : Int64) * ((w0).toInt64)) + (((6561 : Int64) * (1 : Int64)) * (w1).toInt64)) + (((2187 : Int64) * (4 : Int64)) * (w2).toInt64)) + (((729 : Int64) * (16 : Int64)) * (w3).toInt64)) + (((243 : Int64) * (64 : Int64)) * (w4).toInt64)) + (((81 : Int64) * (256 : Int64)) * (w5).toInt64)) + (((27 : Int64) * (1024 : Int64)) * (w6).toInt64)) + (((9 : Int64) * (4096 : Int64)) * (w7).toInt64)) + (((3 : Int64) * (16384 : Int64)) * (w8).toInt64)) _ _ _ 1 65536 w9 A_vv A_t3 A_t4 (by decide) (by decide) (by decide) (by decide) rfl rfl rfl (fun T593 L593 X593 e593 N593 => ?_)
  refine o_aload 741 X593 hx (hb hby at_739) rfl rfl rfl ?_
  obtain ⟨cq594, kq594, q594a, q594b, q594c⟩ := isOf hZ e593 od.1
  obtain ⟨_, _, ⟨T594, L594, k594, n594⟩, -, X594, ⟨Lc594, hQ594, l594, y594, z594⟩, st594⟩ := X593.virtualBack hx (y := yn10) (z := yn10) hown (mvT hZ (ow hw 91 rfl)) (mvT hZ (ow hw 92 rfl)) (notFace_of_selects (args := #[]) (mvT hZ (ow hw 94 rfl))) (mvT hZ (ow hw 94 rfl)) (mvT hZ (ow hw 93 rfl)) (by decide) (backOf (W := 0) (rmG lL Z a0 hw [] p578 (stp (FP.i2d w9) (stp (FP.i2d w8) (stp (FP.i2d w7) (stp (FP.i2d w6) (stp (FP.i2d w5) (stp (FP.i2d w4) (stp (FP.i2d w3) (stp (FP.i2d w2) (stp (FP.i2d w1) (FP.i2d w0)))))))))) T578.heap n0 od) hZ (ow hw 95 rfl) (ow hw 55 rfl) (by decide) (by decide)) q594a q594c (g := (mkF mM 741 #[.val (.int u0), .val (.long u1), .second, .val (.long u2), .second, .val (.long u3), .second, .val (.int 10), .val (.ref vv), .val (.ref t3), .val (.ref t4), .val (.ref aa), .val (.int 10), .val (.ref p578), .val (.int 0), .val (.long (((((((((((19683 : Int64) * ((w0).toInt64)) + (((6561 : Int64) * (1 : Int64)) * (w1).toInt64)) + (((2187 : Int64) * (4 : Int64)) * (w2).toInt64)) + (((729 : Int64) * (16 : Int64)) * (w3).toInt64)) + (((243 : Int64) * (64 : Int64)) * (w4).toInt64)) + (((81 : Int64) * (256 : Int64)) * (w5).toInt64)) + (((27 : Int64) * (1024 : Int64)) * (w6).toInt64)) + (((9 : Int64) * (4096 : Int64)) * (w7).toInt64)) + (((3 : Int64) * (16384 : Int64)) * (w8).toInt64)) + (((1 : Int64) * (65536 : Int64)) * (w9).toInt64))), .second] [.ref p578])) rfl (by rw [hml]; rfl) (Steps.refl _) (argsL := []) (rest := []) (lenOf pd__28_29D rfl) rfl (by show 2 * 0 + _ ≤ _; exact Nat.le_of_eq rfl) (hb hby at_741) (fun _ _ => ⟨rfl, e593, (by decide : 6 + 0 ≤ _), (by decide : 48 + 0 ≤ _)⟩)
  dsimp only [Pt.U, Pt.locs, Pt.cells, Pt.slots] at X594 l594 y594 z594 st594 hQ594
  have X594 := own_cs X594 6 48 y594 z594
  obtain ⟨rfl, N594q, e594⟩ := hQ594
  have N594 := own_N l594 N593 N594q
  refine own_k T594 744 [(.double (stp (FP.i2d w9) (stp (FP.i2d w8) (stp (FP.i2d w7) (stp (FP.i2d w6) (stp (FP.i2d w5) (stp (FP.i2d w4) (stp (FP.i2d w3) (stp (FP.i2d w2) (stp (FP.i2d w1) (FP.i2d w0)))))))))))] (fun t_ k_ => st594.trans k_) ?_
  refine o_aload 746 X594 hx (hb hby at_744) rfl rfl rfl ?_
  refine o_iload 748 X594 hx (hb hby at_746) rfl rfl ?_
  refine o_iconst 749 1 X594 hx (hb hby at_748) rfl rfl ?_
  refine own_j 750 [.int 9, .ref t4, (.double (stp (FP.i2d w9) (stp (FP.i2d w8) (stp (FP.i2d w7) (stp (FP.i2d w6) (stp (FP.i2d w5) (stp (FP.i2d w4) (stp (FP.i2d w3) (stp (FP.i2d w2) (stp (FP.i2d w1) (FP.i2d w0)))))))))))] (fun t_ k_ => XS.isub X594.here hx rfl (hb hby at_749) rfl k_) ?_
  obtain ⟨cl595, Ar595, q595, S595, Nn595, H595, G595⟩ := id A_t4
  have hin595 : ¬ ((9 : Int32) < 0 ∨ cl595.slots.size ≤ ((9 : Int32)).toNatClampNeg) := inb_of S595 ⟨by decide, by decide⟩
  refine own_j 751 [.long 262144, (.double (stp (FP.i2d w9) (stp (FP.i2d w8) (stp (FP.i2d w7) (stp (FP.i2d w6) (stp (FP.i2d w5) (stp (FP.i2d w4) (stp (FP.i2d w3) (stp (FP.i2d w2) (stp (FP.i2d w1) (FP.i2d w0)))))))))))] (fun t_ k_ => X594.laload hx (j := (9 : Int32)) (v := (.long 262144)) (by rw [e594]; exact Ar595.1) (State.isArrayOf_alike hZ.alike Ar595.2.1) Ar595.2.2 hin595 (H595.at hin595 rfl) (g := (mkF mM 750 #[.val (.int u0), .val (.long u1), .second, .val (.long u2), .second, .val (.long u3), .second, .val (.int 10), .val (.ref vv), .val (.ref t3), .val (.ref t4), .val (.ref aa), .val (.int 10), .val (.ref p578), .val (.int 0), .val (.long (((((((((((19683 : Int64) * ((w0).toInt64)) + (((6561 : Int64) * (1 : Int64)) * (w1).toInt64)) + (((2187 : Int64) * (4 : Int64)) * (w2).toInt64)) + (((729 : Int64) * (16 : Int64)) * (w3).toInt64)) + (((243 : Int64) * (64 : Int64)) * (w4).toInt64)) + (((81 : Int64) * (256 : Int64)) * (w5).toInt64)) + (((27 : Int64) * (1024 : Int64)) * (w6).toInt64)) + (((9 : Int64) * (4096 : Int64)) * (w7).toInt64)) + (((3 : Int64) * (16384 : Int64)) * (w8).toInt64)) + (((1 : Int64) * (65536 : Int64)) * (w9).toInt64))), .second] [.int 9, .ref t4, (.double (stp (FP.i2d w9) (stp (FP.i2d w8) (stp (FP.i2d w7) (stp (FP.i2d w6) (stp (FP.i2d w5) (stp (FP.i2d w4) (stp (FP.i2d w3) (stp (FP.i2d w2) (stp (FP.i2d w1) (FP.i2d w0)))))))))))])) rfl rfl (hb hby at_750) t_ k_) ?_
  refine own_j 752 [(.double (FP.l2d (262144 : Int64))), (.double (stp (FP.i2d w9) (stp (FP.i2d w8) (stp (FP.i2d w7) (stp (FP.i2d w6) (stp (FP.i2d w5) (stp (FP.i2d w4) (stp (FP.i2d w3) (stp (FP.i2d w2) (stp (FP.i2d w1) (FP.i2d w0)))))))))))] (fun t_ k_ => XS.l2dS X594.here hx rfl (hb hby at_751) rfl rfl k_) ?_
  have av0 : Av (FP.i2d w0) w0.toInt 0 (32768 * 1) := own_av0 bl0 bu0
  obtain ⟨-, -, -, av1⟩ := own_stp (P := 1) bl1 bu1 av0 (by decide) (by decide) (by decide) (by decide)
  have av1 : Av (stp (FP.i2d w1) (FP.i2d w0)) (1 * w1.toInt + 3 * w0.toInt) 1 (32768 * 4) := av1
  obtain ⟨-, -, -, av2⟩ := own_stp (P := 4) bl2 bu2 av1 (by decide) (by decide) (by decide) (by decide)
  have av2 : Av (stp (FP.i2d w2) (stp (FP.i2d w1) (FP.i2d w0))) (4 * w2.toInt + 3 * (1 * w1.toInt + 3 * w0.toInt)) 2 (32768 * 16) := av2
  obtain ⟨-, -, -, av3⟩ := own_stp (P := 16) bl3 bu3 av2 (by decide) (by decide) (by decide) (by decide)
  have av3 : Av (stp (FP.i2d w3) (stp (FP.i2d w2) (stp (FP.i2d w1) (FP.i2d w0)))) (16 * w3.toInt + 3 * (4 * w2.toInt + 3 * (1 * w1.toInt + 3 * w0.toInt))) 3 (32768 * 64) := av3
  obtain ⟨-, -, -, av4⟩ := own_stp (P := 64) bl4 bu4 av3 (by decide) (by decide) (by decide) (by decide)
  have av4 : Av (stp (FP.i2d w4) (stp (FP.i2d w3) (stp (FP.i2d w2) (stp (FP.i2d w1) (FP.i2d w0))))) (64 * w4.toInt + 3 * (16 * w3.toInt + 3 * (4 * w2.toInt + 3 * (1 * w1.toInt + 3 * w0.toInt)))) 4 (32768 * 256) := av4
  obtain ⟨-, -, -, av5⟩ := own_stp (P := 256) bl5 bu5 av4 (by decide) (by decide) (by decide) (by decide)
  have av5 : Av (stp (FP.i2d w5) (stp (FP.i2d w4) (stp (FP.i2d w3) (stp (FP.i2d w2) (stp (FP.i2d w1) (FP.i2d w0)))))) (256 * w5.toInt + 3 * (64 * w4.toInt + 3 * (16 * w3.toInt + 3 * (4 * w2.toInt + 3 * (1 * w1.toInt + 3 * w0.toInt))))) 5 (32768 * 1024) := av5
  obtain ⟨-, -, -, av6⟩ := own_stp (P := 1024) bl6 bu6 av5 (by decide) (by decide) (by decide) (by decide)
  have av6 : Av (stp (FP.i2d w6) (stp (FP.i2d w5) (stp (FP.i2d w4) (stp (FP.i2d w3) (stp (FP.i2d w2) (stp (FP.i2d w1) (FP.i2d w0))))))) (1024 * w6.toInt + 3 * (256 * w5.toInt + 3 * (64 * w4.toInt + 3 * (16 * w3.toInt + 3 * (4 * w2.toInt + 3 * (1 * w1.toInt + 3 * w0.toInt)))))) 6 (32768 * 4096) := av6
  obtain ⟨-, -, -, av7⟩ := own_stp (P := 4096) bl7 bu7 av6 (by decide) (by decide) (by decide) (by decide)
  have av7 : Av (stp (FP.i2d w7) (stp (FP.i2d w6) (stp (FP.i2d w5) (stp (FP.i2d w4) (stp (FP.i2d w3) (stp (FP.i2d w2) (stp (FP.i2d w1) (FP.i2d w0)))))))) (4096 * w7.toInt + 3 * (1024 * w6.toInt + 3 * (256 * w5.toInt + 3 * (64 * w4.toInt + 3 * (16 * w3.toInt + 3 * (4 * w2.toInt + 3 * (1 * w1.toInt + 3 * w0.toInt))))))) 7 (32768 * 16384) := av7
  obtain ⟨-, -, -, av8⟩ := own_stp (P := 16384) bl8 bu8 av7 (by decide) (by decide) (by decide) (by decide)
  have av8 : Av (stp (FP.i2d w8) (stp (FP.i2d w7) (stp (FP.i2d w6) (stp (FP.i2d w5) (stp (FP.i2d w4) (stp (FP.i2d w3) (stp (FP.i2d w2) (stp (FP.i2d w1) (FP.i2d w0))))))))) (16384 * w8.toInt + 3 * (4096 * w7.toInt + 3 * (1024 * w6.toInt + 3 * (256 * w5.toInt + 3 * (64 * w4.toInt + 3 * (16 * w3.toInt + 3 * (4 * w2.toInt + 3 * (1 * w1.toInt + 3 * w0.toInt)))))))) 8 (32768 * 65536) := av8
  obtain ⟨-, -, -, av9⟩ := own_stp (P := 65536) bl9 bu9 av8 (by decide) (by decide) (by decide) (by decide)
  have av9 : Av (stp (FP.i2d w9) (stp (FP.i2d w8) (stp (FP.i2d w7) (stp (FP.i2d w6) (stp (FP.i2d w5) (stp (FP.i2d w4) (stp (FP.i2d w3) (stp (FP.i2d w2) (stp (FP.i2d w1) (FP.i2d w0)))))))))) (65536 * w9.toInt + 3 * (16384 * w8.toInt + 3 * (4096 * w7.toInt + 3 * (1024 * w6.toInt + 3 * (256 * w5.toInt + 3 * (64 * w4.toInt + 3 * (16 * w3.toInt + 3 * (4 * w2.toInt + 3 * (1 * w1.toInt + 3 * w0.toInt))))))))) 9 (32768 * 262144) := av9
  have sm1 := own_Lmul (x := w0) (c := 19683) (C := 19683) (by decide) (by decide) (by decide) bl0 bu0
  have tm2 := own_Lmul (x := w1) (c := (6561 : Int64) * (1 : Int64)) (C := 6561) (by decide) (by decide) (by decide) bl1 bu1
  have sm2 := own_Ladd sm1 tm2 (by omega) (by omega) (by omega) (by omega)
  have tm3 := own_Lmul (x := w2) (c := (2187 : Int64) * (4 : Int64)) (C := 8748) (by decide) (by decide) (by decide) bl2 bu2
  have sm3 := own_Ladd sm2 tm3 (by omega) (by omega) (by omega) (by omega)
  have tm4 := own_Lmul (x := w3) (c := (729 : Int64) * (16 : Int64)) (C := 11664) (by decide) (by decide) (by decide) bl3 bu3
  have sm4 := own_Ladd sm3 tm4 (by omega) (by omega) (by omega) (by omega)
  have tm5 := own_Lmul (x := w4) (c := (243 : Int64) * (64 : Int64)) (C := 15552) (by decide) (by decide) (by decide) bl4 bu4
  have sm5 := own_Ladd sm4 tm5 (by omega) (by omega) (by omega) (by omega)
  have tm6 := own_Lmul (x := w5) (c := (81 : Int64) * (256 : Int64)) (C := 20736) (by decide) (by decide) (by decide) bl5 bu5
  have sm6 := own_Ladd sm5 tm6 (by omega) (by omega) (by omega) (by omega)
  have tm7 := own_Lmul (x := w6) (c := (27 : Int64) * (1024 : Int64)) (C := 27648) (by decide) (by decide) (by decide) bl6 bu6
  have sm7 := own_Ladd sm6 tm7 (by omega) (by omega) (by omega) (by omega)
  have tm8 := own_Lmul (x := w7) (c := (9 : Int64) * (4096 : Int64)) (C := 36864) (by decide) (by decide) (by decide) bl7 bu7
  have sm8 := own_Ladd sm7 tm8 (by omega) (by omega) (by omega) (by omega)
  have tm9 := own_Lmul (x := w8) (c := (3 : Int64) * (16384 : Int64)) (C := 49152) (by decide) (by decide) (by decide) bl8 bu8
  have sm9 := own_Ladd sm8 tm9 (by omega) (by omega) (by omega) (by omega)
  have tm10 := own_Lmul (x := w9) (c := (1 : Int64) * (65536 : Int64)) (C := 65536) (by decide) (by decide) (by decide) bl9 bu9
  have sm10 := own_Ladd sm9 tm10 (by omega) (by omega) (by omega) (by omega)
  have hs : ((((((((((((19683 : Int64) * ((w0).toInt64)) + (((6561 : Int64) * (1 : Int64)) * (w1).toInt64)) + (((2187 : Int64) * (4 : Int64)) * (w2).toInt64)) + (((729 : Int64) * (16 : Int64)) * (w3).toInt64)) + (((243 : Int64) * (64 : Int64)) * (w4).toInt64)) + (((81 : Int64) * (256 : Int64)) * (w5).toInt64)) + (((27 : Int64) * (1024 : Int64)) * (w6).toInt64)) + (((9 : Int64) * (4096 : Int64)) * (w7).toInt64)) + (((3 : Int64) * (16384 : Int64)) * (w8).toInt64)) + (((1 : Int64) * (65536 : Int64)) * (w9).toInt64))).toInt = (65536 * w9.toInt + 3 * (16384 * w8.toInt + 3 * (4096 * w7.toInt + 3 * (1024 * w6.toInt + 3 * (256 * w5.toInt + 3 * (64 * w4.toInt + 3 * (16 * w3.toInt + 3 * (4 * w2.toInt + 3 * (1 * w1.toInt + 3 * w0.toInt))))))))) := sm10.trans (by omega)
  obtain ⟨nl, cl⟩ := own_last (p := 262144) av9 (by decide) (by decide) (by decide) (by decide) (by decide) hs
  refine own_j 753 [(.double (FP.dmul (stp (FP.i2d w9) (stp (FP.i2d w8) (stp (FP.i2d w7) (stp (FP.i2d w6) (stp (FP.i2d w5) (stp (FP.i2d w4) (stp (FP.i2d w3) (stp (FP.i2d w2) (stp (FP.i2d w1) (FP.i2d w0)))))))))) (FP.l2d (262144 : Int64))))] (fun t_ k_ => XS.dmulS X594.here hx rfl (hb hby at_752) rfl nl rfl k_) ?_
  refine o_lload 755 X594 hx (hb hby at_753) rfl rfl ?_
  refine own_j 756 [(.double (FP.l2d (((((((((((19683 : Int64) * ((w0).toInt64)) + (((6561 : Int64) * (1 : Int64)) * (w1).toInt64)) + (((2187 : Int64) * (4 : Int64)) * (w2).toInt64)) + (((729 : Int64) * (16 : Int64)) * (w3).toInt64)) + (((243 : Int64) * (64 : Int64)) * (w4).toInt64)) + (((81 : Int64) * (256 : Int64)) * (w5).toInt64)) + (((27 : Int64) * (1024 : Int64)) * (w6).toInt64)) + (((9 : Int64) * (4096 : Int64)) * (w7).toInt64)) + (((3 : Int64) * (16384 : Int64)) * (w8).toInt64)) + (((1 : Int64) * (65536 : Int64)) * (w9).toInt64)))), (.double (FP.dmul (stp (FP.i2d w9) (stp (FP.i2d w8) (stp (FP.i2d w7) (stp (FP.i2d w6) (stp (FP.i2d w5) (stp (FP.i2d w4) (stp (FP.i2d w3) (stp (FP.i2d w2) (stp (FP.i2d w1) (FP.i2d w0)))))))))) (FP.l2d (262144 : Int64))))] (fun t_ k_ => XS.l2dS X594.here hx rfl (hb hby at_755) rfl rfl k_) ?_
  refine own_j 757 [.int 0] (fun t_ k_ => XS.dcmpS X594.here hx rfl (hb hby at_756) rfl (cl _) k_) ?_
  refine o_ifNo 760 X594 hx (hb hby at_757) ((if0 _ _).trans (teq (by decide : ((0 : Int32) = (0 : Int32)))).2) rfl ?_
  refine o_iconst 761 1 X594 hx (hb hby at_760) rfl rfl ?_
  refine o_goto 765 X594 hx (hb hby at_761) (by decide) ?_
  exact own_retN X594 hx hlk (t := .boolean) hret (by simp) (hb hby at_765) ⟨rfl, N594⟩ (by decide) (by decide)
theorem J278_11 (hw : own_tb a0 Z) (X0 : Stand pP lL eE room_1 sS mM args below meth cC T0 locs 5 46) (hx : pP.tables.exec = Jvm.exec) (hZ : Z.Warmed39 sS.vm) (hby : cC.code = code) (hml : cC.maxLocals = 17) (hown : sS.vm.findClass "com/example/gleanwork/gleanwork/schedule/RecentAverageAddPinLaw" = some mM.cls) (hlk : meth.locks = false) (hret : meth.sig.returnType = ret) (e0 : T0.heap = h0) (N0 : Fr n0 locs) (u0 : Int32) (u1 : Int64) (u2 : Int64) (u3 : Int64) (w0 : Int32) (w1 : Int32) (w2 : Int32) (w3 : Int32) (w4 : Int32) (w5 : Int32) (w6 : Int32) (w7 : Int32) (w8 : Int32) (w9 : Int32) (w10 : Int32) (w11 : Int32) (vv : Addr) (kv : ClassId) (t3 : Addr) (k3 : ClassId) (t4 : Addr) (k4 : ClassId) (aa : Addr) (dd : Addr) (kd : ClassId) (em : Addr) (O : Old Z n0 h0) (Zn : n0 ≤ h0.size) (g_aa : n0 ≤ aa) (g_dd : n0 ≤ dd) (A_vv : Arv Z h0 vv kv .int 12 [.int w0, .int w1, .int w2, .int w3, .int w4, .int w5, .int w6, .int w7, .int w8, .int w9, .int w10, .int w11] (.int 0)) (A_t3 : Arv Z h0 t3 k3 .long 10 [.long 1, .long 3, .long 9, .long 27, .long 81, .long 243, .long 729, .long 2187, .long 6561, .long 19683] (.long 0)) (A_t4 : Arv Z h0 t4 k4 .long 10 [.long 1, .long 4, .long 16, .long 64, .long 256, .long 1024, .long 4096, .long 16384, .long 65536, .long 262144] (.long 0)) (nq0 : vv ≠ aa) (nq1 : vv ≠ dd) (nq2 : t3 ≠ aa) (nq3 : t3 ≠ dd) (nq4 : t4 ≠ aa) (nq5 : t4 ≠ dd) (nq6 : aa ≠ dd) (ra : Ra Z h0 aa dd kd 0 0 0 [.double 0, .double 0, .double 0, .double 0, .double 0, .double 0, .double 0, .double 0, .double 0, .double 0]) (S_em : Sta Z Z.heap "java/util/OptionalDouble" "EMPTY" "Ljava/util/OptionalDouble;" (.ref em)) (E_em : Exa Z Z.heap em "java/util/OptionalDouble") (F_em : Fld Z Z.heap em "java/util/OptionalDouble" "isPresent" "Z" (.int 0)) (bl0 : -32768 ≤ w0.toInt) (bl1 : -32768 ≤ w1.toInt) (bl2 : -32768 ≤ w2.toInt) (bl3 : -32768 ≤ w3.toInt) (bl4 : -32768 ≤ w4.toInt) (bl5 : -32768 ≤ w5.toInt) (bl6 : -32768 ≤ w6.toInt) (bl7 : -32768 ≤ w7.toInt) (bl8 : -32768 ≤ w8.toInt) (bl9 : -32768 ≤ w9.toInt) (bl10 : -32768 ≤ w10.toInt) (bl11 : -32768 ≤ w11.toInt) (bu0 : w0.toInt ≤ 32768) (bu1 : w1.toInt ≤ 32768) (bu2 : w2.toInt ≤ 32768) (bu3 : w3.toInt ≤ 32768) (bu4 : w4.toInt ≤ 32768) (bu5 : w5.toInt ≤ 32768) (bu6 : w6.toInt ≤ 32768) (bu7 : w7.toInt ≤ 32768) (bu8 : w8.toInt ≤ 32768) (bu9 : w9.toInt ≤ 32768) (bu10 : w10.toInt ≤ 32768) (bu11 : w11.toInt ≤ 32768) :
    own_Go pP eE below sS (QLaw n0) 24 192 (T0.setTop (mkF mM 278 #[.val (.int u0), .val (.long u1), .second, .val (.long u2), .second, .val (.long u3), .second, .val (.int 11), .val (.ref vv), .val (.ref t3), .val (.ref t4), .val (.ref aa), .unset, .unset, .unset, .unset, .unset] [])) := by
  refine SA1 hw X0 hx hZ hby hml hown hlk hret e0 N0 u0 u1 u2 u3 11 w0 w1 w2 w3 w4 w5 w6 w7 w8 w9 w10 w11 vv kv t3 k3 t4 k4 aa dd kd O Zn g_aa g_dd A_vv A_t3 A_t4 nq0 nq1 nq2 nq3 nq4 nq5 nq6 ra bl0 bl1 bl2 bl3 bl4 bl5 bl6 bl7 bl8 bl9 bl10 bl11 bu0 bu1 bu2 bu3 bu4 bu5 bu6 bu7 bu8 bu9 bu10 bu11 (by decide) (fun T596 L596 h596 X596 e596 N596 O Zn A_vv A_t3 A_t4 ra => ?_)
  refine SA2 hw X596 hx hZ hby hml hown hlk hret e596 N596 u0 u1 u2 u3 11 w0 w1 w2 w3 w4 w5 w6 w7 w8 w9 w10 w11 vv kv t3 k3 t4 k4 aa dd kd O Zn g_aa g_dd A_vv A_t3 A_t4 nq0 nq1 nq2 nq3 nq4 nq5 nq6 ra bl0 bl1 bl2 bl3 bl4 bl5 bl6 bl7 bl8 bl9 bl10 bl11 bu0 bu1 bu2 bu3 bu4 bu5 bu6 bu7 bu8 bu9 bu10 bu11 (by decide) (fun T597 L597 h597 X597 e597 N597 O Zn A_vv A_t3 A_t4 ra => ?_)
  refine SA3 hw X597 hx hZ hby hml hown hlk hret e597 N597 u0 u1 u2 u3 11 w0 w1 w2 w3 w4 w5 w6 w7 w8 w9 w10 w11 vv kv t3 k3 t4 k4 aa dd kd O Zn g_aa g_dd A_vv A_t3 A_t4 nq0 nq1 nq2 nq3 nq4 nq5 nq6 ra bl0 bl1 bl2 bl3 bl4 bl5 bl6 bl7 bl8 bl9 bl10 bl11 bu0 bu1 bu2 bu3 bu4 bu5 bu6 bu7 bu8 bu9 bu10 bu11 (by decide) (fun T598 L598 h598 X598 e598 N598 O Zn A_vv A_t3 A_t4 ra => ?_)
  refine SA4 hw X598 hx hZ hby hml hown hlk hret e598 N598 u0 u1 u2 u3 11 w0 w1 w2 w3 w4 w5 w6 w7 w8 w9 w10 w11 vv kv t3 k3 t4 k4 aa dd kd O Zn g_aa g_dd A_vv A_t3 A_t4 nq0 nq1 nq2 nq3 nq4 nq5 nq6 ra bl0 bl1 bl2 bl3 bl4 bl5 bl6 bl7 bl8 bl9 bl10 bl11 bu0 bu1 bu2 bu3 bu4 bu5 bu6 bu7 bu8 bu9 bu10 bu11 (by decide) (fun T599 L599 h599 X599 e599 N599 O Zn A_vv A_t3 A_t4 ra => ?_)
  refine SA5 hw X599 hx hZ hby hml hown hlk hret e599 N599 u0 u1 u2 u3 11 w0 w1 w2 w3 w4 w5 w6 w7 w8 w9 w10 w11 vv kv t3 k3 t4 k4 aa dd kd O Zn g_aa g_dd A_vv A_t3 A_t4 nq0 nq1 nq2 nq3 nq4 nq5 nq6 ra bl0 bl1 bl2 bl3 bl4 bl5 bl6 bl7 bl8 bl9 bl10 bl11 bu0 bu1 bu2 bu3 bu4 bu5 bu6 bu7 bu8 bu9 bu10 bu11 (by decide) (fun T600 L600 h600 X600 e600 N600 O Zn A_vv A_t3 A_t4 ra => ?_)
  refine SA6 hw X600 hx hZ hby hml hown hlk hret e600 N600 u0 u1 u2 u3 11 w0 w1 w2 w3 w4 w5 w6 w7 w8 w9 w10 w11 vv kv t3 k3 t4 k4 aa dd kd O Zn g_aa g_dd A_vv A_t3 A_t4 nq0 nq1 nq2 nq3 nq4 nq5 nq6 ra bl0 bl1 bl2 bl3 bl4 bl5 bl6 bl7 bl8 bl9 bl10 bl11 bu0 bu1 bu2 bu3 bu4 bu5 bu6 bu7 bu8 bu9 bu10 bu11 (by decide) (fun T601 L601 h601 X601 e601 N601 O Zn A_vv A_t3 A_t4 ra => ?_)
  refine SA7 hw X601 hx hZ hby hml hown hlk hret e601 N601 u0 u1 u2 u3 11 w0 w1 w2 w3 w4 w5 w6 w7 w8 w9 w10 w11 vv kv t3 k3 t4 k4 aa dd kd O Zn g_aa g_dd A_vv A_t3 A_t4 nq0 nq1 nq2 nq3 nq4 nq5 nq6 ra bl0 bl1 bl2 bl3 bl4 bl5 bl6 bl7 bl8 bl9 bl10 bl11 bu0 bu1 bu2 bu3 bu4 bu5 bu6 bu7 bu8 bu9 bu10 bu11 (by decide) (fun T602 L602 h602 X602 e602 N602 O Zn A_vv A_t3 A_t4 ra => ?_)
  refine SA8 hw X602 hx hZ hby hml hown hlk hret e602 N602 u0 u1 u2 u3 11 w0 w1 w2 w3 w4 w5 w6 w7 w8 w9 w10 w11 vv kv t3 k3 t4 k4 aa dd kd O Zn g_aa g_dd A_vv A_t3 A_t4 nq0 nq1 nq2 nq3 nq4 nq5 nq6 ra bl0 bl1 bl2 bl3 bl4 bl5 bl6 bl7 bl8 bl9 bl10 bl11 bu0 bu1 bu2 bu3 bu4 bu5 bu6 bu7 bu8 bu9 bu10 bu11 (by decide) (fun T603 L603 h603 X603 e603 N603 O Zn A_vv A_t3 A_t4 ra => ?_)
  refine SA9 hw X603 hx hZ hby hml hown hlk hret e603 N603 u0 u1 u2 u3 11 w0 w1 w2 w3 w4 w5 w6 w7 w8 w9 w10 w11 vv kv t3 k3 t4 k4 aa dd kd O Zn g_aa g_dd A_vv A_t3 A_t4 nq0 nq1 nq2 nq3 nq4 nq5 nq6 ra bl0 bl1 bl2 bl3 bl4 bl5 bl6 bl7 bl8 bl9 bl10 bl11 bu0 bu1 bu2 bu3 bu4 bu5 bu6 bu7 bu8 bu9 bu10 bu11 (by decide) (fun T604 L604 h604 X604 e604 N604 O Zn A_vv A_t3 A_t4 ra => ?_)
  refine SA10 hw X604 hx hZ hby hml hown hlk hret e604 N604 u0 u1 u2 u3 11 w0 w1 w2 w3 w4 w5 w6 w7 w8 w9 w10 w11 vv kv t3 k3 t4 k4 aa dd kd O Zn g_aa g_dd A_vv A_t3 A_t4 nq0 nq1 nq2 nq3 nq4 nq5 nq6 ra bl0 bl1 bl2 bl3 bl4 bl5 bl6 bl7 bl8 bl9 bl10 bl11 bu0 bu1 bu2 bu3 bu4 bu5 bu6 bu7 bu8 bu9 bu10 bu11 (by decide) (fun T605 L605 h605 X605 e605 N605 O Zn A_vv A_t3 A_t4 ra => ?_)
  refine SA11 hw X605 hx hZ hby hml hown hlk hret e605 N605 u0 u1 u2 u3 11 w0 w1 w2 w3 w4 w5 w6 w7 w8 w9 w10 w11 vv kv t3 k3 t4 k4 aa dd kd O Zn g_aa g_dd A_vv A_t3 A_t4 nq0 nq1 nq2 nq3 nq4 nq5 nq6 ra bl0 bl1 bl2 bl3 bl4 bl5 bl6 bl7 bl8 bl9 bl10 bl11 bu0 bu1 bu2 bu3 bu4 bu5 bu6 bu7 bu8 bu9 bu10 bu11 (by decide) (fun T606 L606 h606 X606 e606 N606 O Zn A_vv A_t3 A_t4 ra => ?_)
  refine o_iload 467 X606 hx (hb hby at_465) rfl rfl ?_
  refine o_bipush 469 12 X606 hx (hb hby at_467) rfl rfl ?_
  refine o_icmpYes 483 X606 hx (hb hby at_469) (tlt (by decide : ((11 : Int32) < (12 : Int32)))).1 (by decide) ?_
  refine o_iload 485 X606 hx (hb hby at_483) rfl rfl ?_
  refine o_bipush 487 10 X606 hx (hb hby at_485) rfl rfl ?_
  obtain ⟨_, _, ⟨T607, L607, k607, n607⟩, -, X607, ⟨Lc607, hQ607, l607, y607, z607⟩, st607⟩ := Jvm.LawKit.callS X606 hx (y := yn3) hown (mvT hZ (ow hw 37 rfl)) (mvT hZ (ow hw 38 rfl)) (mvT hZ (ow hw 39 rfl)) (mvT hZ (ow hw 40 rfl)) (by decide) (backOf (W := 0) (rmM11 lL Z a0 hw []  h606 n0 ) hZ (ow hw 40 rfl) (ow hw 39 rfl) (by decide) (by decide)) (g := (mkF mM 487 #[.val (.int u0), .val (.long u1), .second, .val (.long u2), .second, .val (.long u3), .second, .val (.int 11), .val (.ref vv), .val (.ref t3), .val (.ref t4), .val (.ref aa), .unset, .unset, .unset, .unset, .unset] [.int 10, .int 11])) rfl (by rw [hml]; rfl) (argsL := [.int 11, .int 10]) (rest := []) (lenOf pd__28II_29I rfl) rfl (by show 2 * 0 + _ ≤ _; exact Nat.le_of_eq rfl) (hb hby at_487) (fun _ _ => ⟨rfl, e606, (by decide : 5 + 0 ≤ _), (by decide : 46 + 0 ≤ _)⟩)
  dsimp only [Pt.U, Pt.locs, Pt.cells, Pt.slots] at X607 l607 y607 z607 st607 hQ607
  have X607 := own_cs X607 5 46 y607 z607
  obtain ⟨rfl, N607q, e607⟩ := hQ607
  have N607 := own_N l607 N606 N607q
  refine own_k T607 490 [.int 10] st607 ?_
  let Lv608 : Array Slot := #[.val (.int u0), .val (.long u1), .second, .val (.long u2), .second, .val (.long u3), .second, .val (.int 11), .val (.ref vv), .val (.ref t3), .val (.ref t4), .val (.ref aa), .val (.int 10), .unset, .unset, .unset, .unset]
  refine own_st (A := T607.setTop (mkF mM 492 Lv608 [])) (fun t_ k_ => XS.istore X607.here hx rfl (hb hby at_490) rfl (l' := Lv608) rfl k_) ?_
  refine o_aload 494 X607 hx (hb hby at_492) rfl rfl rfl ?_
  obtain ⟨cq609, kq609, q609a, q609b, q609c⟩ := isOf hZ e607 ra.1
  obtain ⟨_, _, ⟨T609, L609, k609, n609⟩, -, X609, ⟨Lc609, hQ609, l609, y609, z609⟩, st609⟩ := X607.virtualBack hx (y := yn4) (z := yn4) hown (mvT hZ (ow hw 41 rfl)) (mvT hZ (ow hw 42 rfl)) (notFace_of_selects (args := #[]) (mvT hZ (ow hw 44 rfl))) (mvT hZ (ow hw 44 rfl)) (mvT hZ (ow hw 43 rfl)) (by decide) (backOf (W := 0) (rmC lL Z a0 hw [] aa 10 h606 n0 ra.2.2.1) hZ (ow hw 45 rfl) (ow hw 27 rfl) (by decide) (by decide)) q609a q609c (g := (mkF mM 494 Lv608 [.ref aa])) rfl (by rw [hml]; rfl) (Steps.refl _) (argsL := []) (rest := []) (lenOf pd__28_29I rfl) rfl (by show 2 * 0 + _ ≤ _; exact Nat.le_of_eq rfl) (hb hby at_494) (fun _ _ => ⟨rfl, e607, (by decide : 5 + 0 ≤ _), (by decide : 46 + 0 ≤ _)⟩)
  dsimp only [Pt.U, Pt.locs, Pt.cells, Pt.slots] at X609 l609 y609 z609 st609 hQ609
  have X609 := own_cs X609 5 46 y609 z609
  obtain ⟨rfl, N609q, e609⟩ := hQ609
  have N609 := own_N l609 N607 N609q
  refine own_k T609 497 [.int 10] (fun t_ k_ => st609.trans k_) ?_
  refine o_iload 499 X609 hx (hb hby at_497) rfl rfl ?_
  refine o_icmpYes 504 X609 hx (hb hby at_499) (teq (by decide : ((10 : Int32) = (10 : Int32)))).1 (by decide) ?_
  refine o_aload 506 X609 hx (hb hby at_504) rfl rfl rfl ?_
  obtain ⟨cq610, kq610, q610a, q610b, q610c⟩ := isOf hZ e609 ra.1
  obtain ⟨_, _, ⟨T610, L610, k610, n610⟩, -, X610, ⟨Lc610, hQ610, l610, y610, z610⟩, st610⟩ := X609.virtualBack hx (y := yn8) (z := yn8) hown (mvT hZ (ow hw 48 rfl)) (mvT hZ (ow hw 49 rfl)) (notFace_of_selects (args := #[]) (mvT hZ (ow hw 51 rfl))) (mvT hZ (ow hw 51 rfl)) (mvT hZ (ow hw 50 rfl)) (by decide) (backOf (W := 0) (rmV lL Z a0 hw [] aa 10 (stp (FP.i2d w10) (stp (FP.i2d w9) (stp (FP.i2d w8) (stp (FP.i2d w7) (stp (FP.i2d w6) (stp (FP.i2d w5) (stp (FP.i2d w4) (stp (FP.i2d w3) (stp (FP.i2d w2) (FP.i2d w1)))))))))) h606 n0 Zn ra.2.2.1 ra.2.2.2.2.1 (by decide)) hZ (ow hw 52 rfl) (ow hw 27 rfl) (by decide) (by decide)) q610a q610c (g := (mkF mM 506 Lv608 [.ref aa])) rfl (by rw [hml]; rfl) (Steps.refl _) (argsL := []) (rest := []) (lenOf pd__28_29Ljava_2futil_2fOptionalDouble_3b rfl) rfl (by show 2 * 0 + _ ≤ _; exact Nat.le_of_eq rfl) (hb hby at_506) (fun _ _ => ⟨rfl, e609, (by decide : 5 + 1 ≤ _), (by decide : 46 + 2 ≤ _)⟩)
  dsimp only [Pt.U, Pt.locs, Pt.cells, Pt.slots] at X610 l610 y610 z610 st610 hQ610
  have X610 := own_cs X610 6 48 y610 z610
  obtain ⟨p610, rfl, N610q, E610, od⟩ := hQ610
  have N610 := own_N l610 N609 N610q
  have e610 : T610.heap = T610.heap := rfl
  refine own_k T610 509 [.ref p610] (fun t_ k_ => st610.trans k_) ?_
  have O := O.ext E610
  have A_vv := A_vv.ext E610
  have A_t3 := A_t3.ext E610
  have A_t4 := A_t4.ext E610
  have Zn := Nat.le_trans Zn E610.1
  let Lv611 : Array Slot := #[.val (.int u0), .val (.long u1), .second, .val (.long u2), .second, .val (.long u3), .second, .val (.int 11), .val (.ref vv), .val (.ref t3), .val (.ref t4), .val (.ref aa), .val (.int 10), .val (.ref p610), .unset, .unset, .unset]
  refine own_st (A := T610.setTop (mkF mM 511 Lv611 [])) (fun t_ k_ => XS.astore X610.here hx rfl (hb hby at_509) rfl rfl (l' := Lv611) rfl k_) ?_
  refine o_iload 513 X610 hx (hb hby at_511) rfl rfl ?_
  refine o_ifYes 530 X610 hx (hb hby at_513) ((if0 _ _).trans (feq (by decide : ¬ ((10 : Int32) = (0 : Int32)))).2) (by decide) ?_
  refine o_aload 532 X610 hx (hb hby at_530) rfl rfl rfl ?_
  obtain ⟨cq612, kq612, q612a, q612b, q612c⟩ := isOf hZ e610 od.1
  obtain ⟨_, _, ⟨T612, L612, k612, n612⟩, -, X612, ⟨Lc612, hQ612, l612, y612, z612⟩, st612⟩ := X610.virtualBack hx (y := yn9) (z := yn9) hown (mvT hZ (ow hw 58 rfl)) (mvT hZ (ow hw 59 rfl)) (notFace_of_selects (args := #[]) (mvT hZ (ow hw 61 rfl))) (mvT hZ (ow hw 61 rfl)) (mvT hZ (ow hw 60 rfl)) (by decide) (backOf (W := 0) (rmP1 lL Z a0 hw [] p610 T610.heap n0 od.2.1) hZ (ow hw 62 rfl) (ow hw 55 rfl) (by decide) (by decide)) q612a q612c (g := (mkF mM 532 Lv611 [.ref p610])) rfl (by rw [hml]; rfl) (Steps.refl _) (argsL := []) (rest := []) (lenOf pd__28_29Z rfl) rfl (by show 2 * 0 + _ ≤ _; exact Nat.le_of_eq rfl) (hb hby at_532) (fun _ _ => ⟨rfl, e610, (by decide : 6 + 0 ≤ _), (by decide : 48 + 0 ≤ _)⟩)
  dsimp only [Pt.U, Pt.locs, Pt.cells, Pt.slots] at X612 l612 y612 z612 st612 hQ612
  have X612 := own_cs X612 6 48 y612 z612
  obtain ⟨rfl, N612q, e612⟩ := hQ612
  have N612 := own_N l612 N610 N612q
  refine own_k T612 535 [.int 1] (fun t_ k_ => st612.trans k_) ?_
  refine o_ifYes 540 X612 hx (hb hby at_535) ((if0 _ _).trans (feq (by decide : ¬ ((1 : Int32) = (0 : Int32)))).2) (by decide) ?_
  refine o_iload 542 X612 hx (hb hby at_540) rfl rfl ?_
  refine o_iload 544 X612 hx (hb hby at_542) rfl rfl ?_
  refine own_j 545 [.int 1] (fun t_ k_ => XS.isub X612.here hx rfl (hb hby at_544) rfl k_) ?_
  let Lv613 : Array Slot := #[.val (.int u0), .val (.long u1), .second, .val (.long u2), .second, .val (.long u3), .second, .val (.int 11), .val (.ref vv), .val (.ref t3), .val (.ref t4), .val (.ref aa), .val (.int 10), .val (.ref p610), .val (.int 1), .unset, .unset]
  refine own_st (A := T612.setTop (mkF mM 547 Lv613 [])) (fun t_ k_ => XS.istore X612.here hx rfl (hb hby at_545) rfl (l' := Lv613) rfl k_) ?_
  refine o_aload 549 X612 hx (hb hby at_547) rfl rfl rfl ?_
  refine o_iload 551 X612 hx (hb hby at_549) rfl rfl ?_
  refine o_iconst 552 1 X612 hx (hb hby at_551) rfl rfl ?_
  refine own_j 553 [.int 9, .ref t3] (fun t_ k_ => XS.isub X612.here hx rfl (hb hby at_552) rfl k_) ?_
  obtain ⟨cl614, Ar614, q614, S614, Nn614, H614, G614⟩ := id A_t3
  have hin614 : ¬ ((9 : Int32) < 0 ∨ cl614.slots.size ≤ ((9 : Int32)).toNatClampNeg) := inb_of S614 ⟨by decide, by decide⟩
  refine own_j 554 [.long 19683] (fun t_ k_ => X612.laload hx (j := (9 : Int32)) (v := (.long 19683)) (by rw [e612]; exact Ar614.1) (State.isArrayOf_alike hZ.alike Ar614.2.1) Ar614.2.2 hin614 (H614.at hin614 rfl) (g := (mkF mM 553 Lv613 [.int 9, .ref t3])) rfl rfl (hb hby at_553) t_ k_) ?_
  refine o_aload 556 X612 hx (hb hby at_554) rfl rfl rfl ?_
  refine o_iload 558 X612 hx (hb hby at_556) rfl rfl ?_
  obtain ⟨cl615, Ar615, q615, S615, Nn615, H615, G615⟩ := id A_vv
  have hin615 : ¬ ((1 : Int32) < 0 ∨ cl615.slots.size ≤ ((1 : Int32)).toNatClampNeg) := inb_of S615 ⟨by decide, by decide⟩
  refine own_j 559 [.int w1, .long 19683] (fun t_ k_ => X612.iaload hx (j := (1 : Int32)) (v := (.int w1)) (by rw [e612]; exact Ar615.1) (State.isArrayOf_alike hZ.alike Ar615.2.1) Ar615.2.2 hin615 (H615.at hin615 rfl) (g := (mkF mM 558 Lv613 [.int 1, .ref vv, .long 19683])) rfl rfl (hb hby at_558) t_ k_) ?_
  refine own_j 560 [(.long ((w1).toInt64)), .long 19683] (fun t_ k_ => XS.i2l X612.here hx rfl (hb hby at_559) rfl k_) ?_
  refine own_j 561 [(.long ((19683 : Int64) * ((w1).toInt64)))] (fun t_ k_ => XS.lmul X612.here hx rfl (hb hby at_560) rfl k_) ?_
  let Lv616 : Array Slot := #[.val (.int u0), .val (.long u1), .second, .val (.long u2), .second, .val (.long u3), .second, .val (.int 11), .val (.ref vv), .val (.ref t3), .val (.ref t4), .val (.ref aa), .val (.int 10), .val (.ref p610), .val (.int 1), .val (.long ((19683 : Int64) * ((w1).toInt64))), .second]
  refine own_st (A := T612.setTop (mkF mM 563 Lv616 [])) (fun t_ k_ => XS.lstore X612.here hx rfl (hb hby at_561) rfl (l' := Lv616) rfl k_) ?_
  refine ST2 hw X612 hx hZ hby hml hown hlk hret e612 N612 u0 u1 u2 u3 11 vv kv t3 k3 t4 k4 aa 10 p610 1 ((19683 : Int64) * ((w1).toInt64)) _ _ _ 6561 1 w2 A_vv A_t3 A_t4 (by decide) (by decide) (by decide) (by decide) rfl rfl rfl (fun T617 L617 X617 e617 N617 => ?_)
  refine ST3 hw X617 hx hZ hby hml hown hlk hret e617 N617 u0 u1 u2 u3 11 vv kv t3 k3 t4 k4 aa 10 p610 1 (((19683 : Int64) * ((w1).toInt64)) + (((6561 : Int64) * (1 : Int64)) * (w2).toInt64)) _ _ _ 2187 4 w3 A_vv A_t3 A_t4 (by decide) (by decide) (by decide) (by decide) rfl rfl rfl (fun T618 L618 X618 e618 N618 => ?_)
  refine ST4 hw X618 hx hZ hby hml hown hlk hret e618 N618 u0 u1 u2 u3 11 vv kv t3 k3 t4 k4 aa 10 p610 1 ((((19683 : Int64) * ((w1).toInt64)) + (((6561 : Int64) * (1 : Int64)) * (w2).toInt64)) + (((2187 : Int64) * (4 : Int64)) * (w3).toInt64)) _ _ _ 729 16 w4 A_vv A_t3 A_t4 (by decide) (by decide) (by decide) (by decide) rfl rfl rfl (fun T619 L619 X619 e619 N619 => ?_)
  refine ST5 hw X619 hx hZ hby hml hown hlk hret e619 N619 u0 u1 u2 u3 11 vv kv t3 k3 t4 k4 aa 10 p610 1 (((((19683 : Int64) * ((w1).toInt64)) + (((6561 : Int64) * (1 : Int64)) * (w2).toInt64)) + (((2187 : Int64) * (4 : Int64)) * (w3).toInt64)) + (((729 : Int64) * (16 : Int64)) * (w4).toInt64)) _ _ _ 243 64 w5 A_vv A_t3 A_t4 (by decide) (by decide) (by decide) (by decide) rfl rfl rfl (fun T620 L620 X620 e620 N620 => ?_)
  refine ST6 hw X620 hx hZ hby hml hown hlk hret e620 N620 u0 u1 u2 u3 11 vv kv t3 k3 t4 k4 aa 10 p610 1 ((((((19683 : Int64) * ((w1).toInt64)) + (((6561 : Int64) * (1 : Int64)) * (w2).toInt64)) + (((2187 : Int64) * (4 : Int64)) * (w3).toInt64)) + (((729 : Int64) * (16 : Int64)) * (w4).toInt64)) + (((243 : Int64) * (64 : Int64)) * (w5).toInt64)) _ _ _ 81 256 w6 A_vv A_t3 A_t4 (by decide) (by decide) (by decide) (by decide) rfl rfl rfl (fun T621 L621 X621 e621 N621 => ?_)
  refine ST7 hw X621 hx hZ hby hml hown hlk hret e621 N621 u0 u1 u2 u3 11 vv kv t3 k3 t4 k4 aa 10 p610 1 (((((((19683 : Int64) * ((w1).toInt64)) + (((6561 : Int64) * (1 : Int64)) * (w2).toInt64)) + (((2187 : Int64) * (4 : Int64)) * (w3).toInt64)) + (((729 : Int64) * (16 : Int64)) * (w4).toInt64)) + (((243 : Int64) * (64 : Int64)) * (w5).toInt64)) + (((81 : Int64) * (256 : Int64)) * (w6).toInt64)) _ _ _ 27 1024 w7 A_vv A_t3 A_t4 (by decide) (by decide) (by decide) (by decide) rfl rfl rfl (fun T622 L622 X622 e622 N622 => ?_)
  refine ST8 hw X622 hx hZ hby hml hown hlk hret e622 N622 u0 u1 u2 u3 11 vv kv t3 k3 t4 k4 aa 10 p610 1 ((((((((19683 : Int64) * ((w1).toInt64)) + (((6561 : Int64) * (1 : Int64)) * (w2).toInt64)) + (((2187 : Int64) * (4 : Int64)) * (w3).toInt64)) + (((729 : Int64) * (16 : Int64)) * (w4).toInt64)) + (((243 : Int64) * (64 : Int64)) * (w5).toInt64)) + (((81 : Int64) * (256 : Int64)) * (w6).toInt64)) + (((27 : Int64) * (1024 : Int64)) * (w7).toInt64)) _ _ _ 9 4096 w8 A_vv A_t3 A_t4 (by decide) (by decide) (by decide) (by decide) rfl rfl rfl (fun T623 L623 X623 e623 N623 => ?_)
  refine ST9 hw X623 hx hZ hby hml hown hlk hret e623 N623 u0 u1 u2 u3 11 vv kv t3 k3 t4 k4 aa 10 p610 1 (((((((((19683 : Int64) * ((w1).toInt64)) + (((6561 : Int64) * (1 : Int64)) * (w2).toInt64)) + (((2187 : Int64) * (4 : Int64)) * (w3).toInt64)) + (((729 : Int64) * (16 : Int64)) * (w4).toInt64)) + (((243 : Int64) * (64 : Int64)) * (w5).toInt64)) + (((81 : Int64) * (256 : Int64)) * (w6).toInt64)) + (((27 : Int64) * (1024 : Int64)) * (w7).toInt64)) + (((9 : Int64) * (4096 : Int64)) * (w8).toInt64)) _ _ _ 3 16384 w9 A_vv A_t3 A_t4 (by decide) (by decide) (by decide) (by decide) rfl rfl rfl (fun T624 L624 X624 e624 N624 => ?_)
  refine ST10 hw X624 hx hZ hby hml hown hlk hret e624 N624 u0 u1 u2 u3 11 vv kv t3 k3 t4 k4 aa 10 p610 1 ((((((((((19683 : Int64) * ((w1).toInt64)) + (((6561 : Int64) * (1 : Int64)) * (w2).toInt64)) + (((2187 : Int64) * (4 : Int64)) * (w3).toInt64)) + (((729 : Int64) * (16 : Int64)) * (w4).toInt64)) + (((243 : Int64) * (64 : Int64)) * (w5).toInt64)) + (((81 : Int64) * (256 : Int64)) * (w6).toInt64)) + (((27 : Int64) * (1024 : Int64)) * (w7).toInt64)) + (((9 : Int64) * (4096 : Int64)) * (w8).toInt64)) + (((3 : Int64) * (16384 : Int64)) * (w9).toInt64)) _ _ _ 1 65536 w10 A_vv A_t3 A_t4 (by decide) (by decide) (by decide) (by decide) rfl rfl rfl (fun T625 L625 X625 e625 N625 => ?_)
  refine o_aload 741 X625 hx (hb hby at_739) rfl rfl rfl ?_
  obtain ⟨cq626, kq626, q626a, q626b, q626c⟩ := isOf hZ e625 od.1
  obtain ⟨_, _, ⟨T626, L626, k626, n626⟩, -, X626, ⟨Lc626, hQ626, l626, y626, z626⟩, st626⟩ := X625.virtualBack hx (y := yn10) (z := yn10) hown (mvT hZ (ow hw 91 rfl)) (mvT hZ (ow hw 92 rfl)) (notFace_of_selects (args := #[]) (mvT hZ (ow hw 94 rfl))) (mvT hZ (ow hw 94 rfl)) (mvT hZ (ow hw 93 rfl)) (by decide) (backOf (W := 0) (rmG lL Z a0 hw [] p610 (stp (FP.i2d w10) (stp (FP.i2d w9) (stp (FP.i2d w8) (stp (FP.i2d w7) (stp (FP.i2d w6) (stp (FP.i2d w5) (stp (FP.i2d w4) (stp (FP.i2d w3) (stp (FP.i2d w2) (FP.i2d w1)))))))))) T610.heap n0 od) hZ (ow hw 95 rfl) (ow hw 55 rfl) (by decide) (by decide)) q626a q626c (g := (mkF mM 741 #[.val (.int u0), .val (.long u1), .second, .val (.long u2), .second, .val (.long u3), .second, .val (.int 11), .val (.ref vv), .val (.ref t3), .val (.ref t4), .val (.ref aa), .val (.int 10), .val (.ref p610), .val (.int 1), .val (.long (((((((((((19683 : Int64) * ((w1).toInt64)) + (((6561 : Int64) * (1 : Int64)) * (w2).toInt64)) + (((2187 : Int64) * (4 : Int64)) * (w3).toInt64)) + (((729 : Int64) * (16 : Int64)) * (w4).toInt64)) + (((243 : Int64) * (64 : Int64)) * (w5).toInt64)) + (((81 : Int64) * (256 : Int64)) * (w6).toInt64)) + (((27 : Int64) * (1024 : Int64)) * (w7).toInt64)) + (((9 : Int64) * (4096 : Int64)) * (w8).toInt64)) + (((3 : Int64) * (16384 : Int64)) * (w9).toInt64)) + (((1 : Int64) * (65536 : Int64)) * (w10).toInt64))), .second] [.ref p610])) rfl (by rw [hml]; rfl) (Steps.refl _) (argsL := []) (rest := []) (lenOf pd__28_29D rfl) rfl (by show 2 * 0 + _ ≤ _; exact Nat.le_of_eq rfl) (hb hby at_741) (fun _ _ => ⟨rfl, e625, (by decide : 6 + 0 ≤ _), (by decide : 48 + 0 ≤ _)⟩)
  dsimp only [Pt.U, Pt.locs, Pt.cells, Pt.slots] at X626 l626 y626 z626 st626 hQ626
  have X626 := own_cs X626 6 48 y626 z626
  obtain ⟨rfl, N626q, e626⟩ := hQ626
  have N626 := own_N l626 N625 N626q
  refine own_k T626 744 [(.double (stp (FP.i2d w10) (stp (FP.i2d w9) (stp (FP.i2d w8) (stp (FP.i2d w7) (stp (FP.i2d w6) (stp (FP.i2d w5) (stp (FP.i2d w4) (stp (FP.i2d w3) (stp (FP.i2d w2) (FP.i2d w1)))))))))))] (fun t_ k_ => st626.trans k_) ?_
  refine o_aload 746 X626 hx (hb hby at_744) rfl rfl rfl ?_
  refine o_iload 748 X626 hx (hb hby at_746) rfl rfl ?_
  refine o_iconst 749 1 X626 hx (hb hby at_748) rfl rfl ?_
  refine own_j 750 [.int 9, .ref t4, (.double (stp (FP.i2d w10) (stp (FP.i2d w9) (stp (FP.i2d w8) (stp (FP.i2d w7) (stp (FP.i2d w6) (stp (FP.i2d w5) (stp (FP.i2d w4) (stp (FP.i2d w3) (stp (FP.i2d w2) (FP.i2d w1)))))))))))] (fun t_ k_ => XS.isub X626.here hx rfl (hb hby at_749) rfl k_) ?_
  obtain ⟨cl627, Ar627, q627, S627, Nn627, H627, G627⟩ := id A_t4
  have hin627 : ¬ ((9 : Int32) < 0 ∨ cl627.slots.size ≤ ((9 : Int32)).toNatClampNeg) := inb_of S627 ⟨by decide, by decide⟩
  refine own_j 751 [.long 262144, (.double (stp (FP.i2d w10) (stp (FP.i2d w9) (stp (FP.i2d w8) (stp (FP.i2d w7) (stp (FP.i2d w6) (stp (FP.i2d w5) (stp (FP.i2d w4) (stp (FP.i2d w3) (stp (FP.i2d w2) (FP.i2d w1)))))))))))] (fun t_ k_ => X626.laload hx (j := (9 : Int32)) (v := (.long 262144)) (by rw [e626]; exact Ar627.1) (State.isArrayOf_alike hZ.alike Ar627.2.1) Ar627.2.2 hin627 (H627.at hin627 rfl) (g := (mkF mM 750 #[.val (.int u0), .val (.long u1), .second, .val (.long u2), .second, .val (.long u3), .second, .val (.int 11), .val (.ref vv), .val (.ref t3), .val (.ref t4), .val (.ref aa), .val (.int 10), .val (.ref p610), .val (.int 1), .val (.long (((((((((((19683 : Int64) * ((w1).toInt64)) + (((6561 : Int64) * (1 : Int64)) * (w2).toInt64)) + (((2187 : Int64) * (4 : Int64)) * (w3).toInt64)) + (((729 : Int64) * (16 : Int64)) * (w4).toInt64)) + (((243 : Int64) * (64 : Int64)) * (w5).toInt64)) + (((81 : Int64) * (256 : Int64)) * (w6).toInt64)) + (((27 : Int64) * (1024 : Int64)) * (w7).toInt64)) + (((9 : Int64) * (4096 : Int64)) * (w8).toInt64)) + (((3 : Int64) * (16384 : Int64)) * (w9).toInt64)) + (((1 : Int64) * (65536 : Int64)) * (w10).toInt64))), .second] [.int 9, .ref t4, (.double (stp (FP.i2d w10) (stp (FP.i2d w9) (stp (FP.i2d w8) (stp (FP.i2d w7) (stp (FP.i2d w6) (stp (FP.i2d w5) (stp (FP.i2d w4) (stp (FP.i2d w3) (stp (FP.i2d w2) (FP.i2d w1)))))))))))])) rfl rfl (hb hby at_750) t_ k_) ?_
  refine own_j 752 [(.double (FP.l2d (262144 : Int64))), (.double (stp (FP.i2d w10) (stp (FP.i2d w9) (stp (FP.i2d w8) (stp (FP.i2d w7) (stp (FP.i2d w6) (stp (FP.i2d w5) (stp (FP.i2d w4) (stp (FP.i2d w3) (stp (FP.i2d w2) (FP.i2d w1)))))))))))] (fun t_ k_ => XS.l2dS X626.here hx rfl (hb hby at_751) rfl rfl k_) ?_
  have av0 : Av (FP.i2d w1) w1.toInt 0 (32768 * 1) := own_av0 bl1 bu1
  obtain ⟨-, -, -, av1⟩ := own_stp (P := 1) bl2 bu2 av0 (by decide) (by decide) (by decide) (by decide)
  have av1 : Av (stp (FP.i2d w2) (FP.i2d w1)) (1 * w2.toInt + 3 * w1.toInt) 1 (32768 * 4) := av1
  obtain ⟨-, -, -, av2⟩ := own_stp (P := 4) bl3 bu3 av1 (by decide) (by decide) (by decide) (by decide)
  have av2 : Av (stp (FP.i2d w3) (stp (FP.i2d w2) (FP.i2d w1))) (4 * w3.toInt + 3 * (1 * w2.toInt + 3 * w1.toInt)) 2 (32768 * 16) := av2
  obtain ⟨-, -, -, av3⟩ := own_stp (P := 16) bl4 bu4 av2 (by decide) (by decide) (by decide) (by decide)
  have av3 : Av (stp (FP.i2d w4) (stp (FP.i2d w3) (stp (FP.i2d w2) (FP.i2d w1)))) (16 * w4.toInt + 3 * (4 * w3.toInt + 3 * (1 * w2.toInt + 3 * w1.toInt))) 3 (32768 * 64) := av3
  obtain ⟨-, -, -, av4⟩ := own_stp (P := 64) bl5 bu5 av3 (by decide) (by decide) (by decide) (by decide)
  have av4 : Av (stp (FP.i2d w5) (stp (FP.i2d w4) (stp (FP.i2d w3) (stp (FP.i2d w2) (FP.i2d w1))))) (64 * w5.toInt + 3 * (16 * w4.toInt + 3 * (4 * w3.toInt + 3 * (1 * w2.toInt + 3 * w1.toInt)))) 4 (32768 * 256) := av4
  obtain ⟨-, -, -, av5⟩ := own_stp (P := 256) bl6 bu6 av4 (by decide) (by decide) (by decide) (by decide)
  have av5 : Av (stp (FP.i2d w6) (stp (FP.i2d w5) (stp (FP.i2d w4) (stp (FP.i2d w3) (stp (FP.i2d w2) (FP.i2d w1)))))) (256 * w6.toInt + 3 * (64 * w5.toInt + 3 * (16 * w4.toInt + 3 * (4 * w3.toInt + 3 * (1 * w2.toInt + 3 * w1.toInt))))) 5 (32768 * 1024) := av5
  obtain ⟨-, -, -, av6⟩ := own_stp (P := 1024) bl7 bu7 av5 (by decide) (by decide) (by decide) (by decide)
  have av6 : Av (stp (FP.i2d w7) (stp (FP.i2d w6) (stp (FP.i2d w5) (stp (FP.i2d w4) (stp (FP.i2d w3) (stp (FP.i2d w2) (FP.i2d w1))))))) (1024 * w7.toInt + 3 * (256 * w6.toInt + 3 * (64 * w5.toInt + 3 * (16 * w4.toInt + 3 * (4 * w3.toInt + 3 * (1 * w2.toInt + 3 * w1.toInt)))))) 6 (32768 * 4096) := av6
  obtain ⟨-, -, -, av7⟩ := own_stp (P := 4096) bl8 bu8 av6 (by decide) (by decide) (by decide) (by decide)
  have av7 : Av (stp (FP.i2d w8) (stp (FP.i2d w7) (stp (FP.i2d w6) (stp (FP.i2d w5) (stp (FP.i2d w4) (stp (FP.i2d w3) (stp (FP.i2d w2) (FP.i2d w1)))))))) (4096 * w8.toInt + 3 * (1024 * w7.toInt + 3 * (256 * w6.toInt + 3 * (64 * w5.toInt + 3 * (16 * w4.toInt + 3 * (4 * w3.toInt + 3 * (1 * w2.toInt + 3 * w1.toInt))))))) 7 (32768 * 16384) := av7
  obtain ⟨-, -, -, av8⟩ := own_stp (P := 16384) bl9 bu9 av7 (by decide) (by decide) (by decide) (by decide)
  have av8 : Av (stp (FP.i2d w9) (stp (FP.i2d w8) (stp (FP.i2d w7) (stp (FP.i2d w6) (stp (FP.i2d w5) (stp (FP.i2d w4) (stp (FP.i2d w3) (stp (FP.i2d w2) (FP.i2d w1))))))))) (16384 * w9.toInt + 3 * (4096 * w8.toInt + 3 * (1024 * w7.toInt + 3 * (256 * w6.toInt + 3 * (64 * w5.toInt + 3 * (16 * w4.toInt + 3 * (4 * w3.toInt + 3 * (1 * w2.toInt + 3 * w1.toInt)))))))) 8 (32768 * 65536) := av8
  obtain ⟨-, -, -, av9⟩ := own_stp (P := 65536) bl10 bu10 av8 (by decide) (by decide) (by decide) (by decide)
  have av9 : Av (stp (FP.i2d w10) (stp (FP.i2d w9) (stp (FP.i2d w8) (stp (FP.i2d w7) (stp (FP.i2d w6) (stp (FP.i2d w5) (stp (FP.i2d w4) (stp (FP.i2d w3) (stp (FP.i2d w2) (FP.i2d w1)))))))))) (65536 * w10.toInt + 3 * (16384 * w9.toInt + 3 * (4096 * w8.toInt + 3 * (1024 * w7.toInt + 3 * (256 * w6.toInt + 3 * (64 * w5.toInt + 3 * (16 * w4.toInt + 3 * (4 * w3.toInt + 3 * (1 * w2.toInt + 3 * w1.toInt))))))))) 9 (32768 * 262144) := av9
  have sm1 := own_Lmul (x := w1) (c := 19683) (C := 19683) (by decide) (by decide) (by decide) bl1 bu1
  have tm2 := own_Lmul (x := w2) (c := (6561 : Int64) * (1 : Int64)) (C := 6561) (by decide) (by decide) (by decide) bl2 bu2
  have sm2 := own_Ladd sm1 tm2 (by omega) (by omega) (by omega) (by omega)
  have tm3 := own_Lmul (x := w3) (c := (2187 : Int64) * (4 : Int64)) (C := 8748) (by decide) (by decide) (by decide) bl3 bu3
  have sm3 := own_Ladd sm2 tm3 (by omega) (by omega) (by omega) (by omega)
  have tm4 := own_Lmul (x := w4) (c := (729 : Int64) * (16 : Int64)) (C := 11664) (by decide) (by decide) (by decide) bl4 bu4
  have sm4 := own_Ladd sm3 tm4 (by omega) (by omega) (by omega) (by omega)
  have tm5 := own_Lmul (x := w5) (c := (243 : Int64) * (64 : Int64)) (C := 15552) (by decide) (by decide) (by decide) bl5 bu5
  have sm5 := own_Ladd sm4 tm5 (by omega) (by omega) (by omega) (by omega)
  have tm6 := own_Lmul (x := w6) (c := (81 : Int64) * (256 : Int64)) (C := 20736) (by decide) (by decide) (by decide) bl6 bu6
  have sm6 := own_Ladd sm5 tm6 (by omega) (by omega) (by omega) (by omega)
  have tm7 := own_Lmul (x := w7) (c := (27 : Int64) * (1024 : Int64)) (C := 27648) (by decide) (by decide) (by decide) bl7 bu7
  have sm7 := own_Ladd sm6 tm7 (by omega) (by omega) (by omega) (by omega)
  have tm8 := own_Lmul (x := w8) (c := (9 : Int64) * (4096 : Int64)) (C := 36864) (by decide) (by decide) (by decide) bl8 bu8
  have sm8 := own_Ladd sm7 tm8 (by omega) (by omega) (by omega) (by omega)
  have tm9 := own_Lmul (x := w9) (c := (3 : Int64) * (16384 : Int64)) (C := 49152) (by decide) (by decide) (by decide) bl9 bu9
  have sm9 := own_Ladd sm8 tm9 (by omega) (by omega) (by omega) (by omega)
  have tm10 := own_Lmul (x := w10) (c := (1 : Int64) * (65536 : Int64)) (C := 65536) (by decide) (by decide) (by decide) bl10 bu10
  have sm10 := own_Ladd sm9 tm10 (by omega) (by omega) (by omega) (by omega)
  have hs : ((((((((((((19683 : Int64) * ((w1).toInt64)) + (((6561 : Int64) * (1 : Int64)) * (w2).toInt64)) + (((2187 : Int64) * (4 : Int64)) * (w3).toInt64)) + (((729 : Int64) * (16 : Int64)) * (w4).toInt64)) + (((243 : Int64) * (64 : Int64)) * (w5).toInt64)) + (((81 : Int64) * (256 : Int64)) * (w6).toInt64)) + (((27 : Int64) * (1024 : Int64)) * (w7).toInt64)) + (((9 : Int64) * (4096 : Int64)) * (w8).toInt64)) + (((3 : Int64) * (16384 : Int64)) * (w9).toInt64)) + (((1 : Int64) * (65536 : Int64)) * (w10).toInt64))).toInt = (65536 * w10.toInt + 3 * (16384 * w9.toInt + 3 * (4096 * w8.toInt + 3 * (1024 * w7.toInt + 3 * (256 * w6.toInt + 3 * (64 * w5.toInt + 3 * (16 * w4.toInt + 3 * (4 * w3.toInt + 3 * (1 * w2.toInt + 3 * w1.toInt))))))))) := sm10.trans (by omega)
  obtain ⟨nl, cl⟩ := own_last (p := 262144) av9 (by decide) (by decide) (by decide) (by decide) (by decide) hs
  refine own_j 753 [(.double (FP.dmul (stp (FP.i2d w10) (stp (FP.i2d w9) (stp (FP.i2d w8) (stp (FP.i2d w7) (stp (FP.i2d w6) (stp (FP.i2d w5) (stp (FP.i2d w4) (stp (FP.i2d w3) (stp (FP.i2d w2) (FP.i2d w1)))))))))) (FP.l2d (262144 : Int64))))] (fun t_ k_ => XS.dmulS X626.here hx rfl (hb hby at_752) rfl nl rfl k_) ?_
  refine o_lload 755 X626 hx (hb hby at_753) rfl rfl ?_
  refine own_j 756 [(.double (FP.l2d (((((((((((19683 : Int64) * ((w1).toInt64)) + (((6561 : Int64) * (1 : Int64)) * (w2).toInt64)) + (((2187 : Int64) * (4 : Int64)) * (w3).toInt64)) + (((729 : Int64) * (16 : Int64)) * (w4).toInt64)) + (((243 : Int64) * (64 : Int64)) * (w5).toInt64)) + (((81 : Int64) * (256 : Int64)) * (w6).toInt64)) + (((27 : Int64) * (1024 : Int64)) * (w7).toInt64)) + (((9 : Int64) * (4096 : Int64)) * (w8).toInt64)) + (((3 : Int64) * (16384 : Int64)) * (w9).toInt64)) + (((1 : Int64) * (65536 : Int64)) * (w10).toInt64)))), (.double (FP.dmul (stp (FP.i2d w10) (stp (FP.i2d w9) (stp (FP.i2d w8) (stp (FP.i2d w7) (stp (FP.i2d w6) (stp (FP.i2d w5) (stp (FP.i2d w4) (stp (FP.i2d w3) (stp (FP.i2d w2) (FP.i2d w1)))))))))) (FP.l2d (262144 : Int64))))] (fun t_ k_ => XS.l2dS X626.here hx rfl (hb hby at_755) rfl rfl k_) ?_
  refine own_j 757 [.int 0] (fun t_ k_ => XS.dcmpS X626.here hx rfl (hb hby at_756) rfl (cl _) k_) ?_
  refine o_ifNo 760 X626 hx (hb hby at_757) ((if0 _ _).trans (teq (by decide : ((0 : Int32) = (0 : Int32)))).2) rfl ?_
  refine o_iconst 761 1 X626 hx (hb hby at_760) rfl rfl ?_
  refine o_goto 765 X626 hx (hb hby at_761) (by decide) ?_
  exact own_retN X626 hx hlk (t := .boolean) hret (by simp) (hb hby at_765) ⟨rfl, N626⟩ (by decide) (by decide)
theorem J278_12 (hw : own_tb a0 Z) (X0 : Stand pP lL eE room_1 sS mM args below meth cC T0 locs 5 46) (hx : pP.tables.exec = Jvm.exec) (hZ : Z.Warmed39 sS.vm) (hby : cC.code = code) (hml : cC.maxLocals = 17) (hown : sS.vm.findClass "com/example/gleanwork/gleanwork/schedule/RecentAverageAddPinLaw" = some mM.cls) (hlk : meth.locks = false) (hret : meth.sig.returnType = ret) (e0 : T0.heap = h0) (N0 : Fr n0 locs) (u0 : Int32) (u1 : Int64) (u2 : Int64) (u3 : Int64) (w0 : Int32) (w1 : Int32) (w2 : Int32) (w3 : Int32) (w4 : Int32) (w5 : Int32) (w6 : Int32) (w7 : Int32) (w8 : Int32) (w9 : Int32) (w10 : Int32) (w11 : Int32) (vv : Addr) (kv : ClassId) (t3 : Addr) (k3 : ClassId) (t4 : Addr) (k4 : ClassId) (aa : Addr) (dd : Addr) (kd : ClassId) (em : Addr) (O : Old Z n0 h0) (Zn : n0 ≤ h0.size) (g_aa : n0 ≤ aa) (g_dd : n0 ≤ dd) (A_vv : Arv Z h0 vv kv .int 12 [.int w0, .int w1, .int w2, .int w3, .int w4, .int w5, .int w6, .int w7, .int w8, .int w9, .int w10, .int w11] (.int 0)) (A_t3 : Arv Z h0 t3 k3 .long 10 [.long 1, .long 3, .long 9, .long 27, .long 81, .long 243, .long 729, .long 2187, .long 6561, .long 19683] (.long 0)) (A_t4 : Arv Z h0 t4 k4 .long 10 [.long 1, .long 4, .long 16, .long 64, .long 256, .long 1024, .long 4096, .long 16384, .long 65536, .long 262144] (.long 0)) (nq0 : vv ≠ aa) (nq1 : vv ≠ dd) (nq2 : t3 ≠ aa) (nq3 : t3 ≠ dd) (nq4 : t4 ≠ aa) (nq5 : t4 ≠ dd) (nq6 : aa ≠ dd) (ra : Ra Z h0 aa dd kd 0 0 0 [.double 0, .double 0, .double 0, .double 0, .double 0, .double 0, .double 0, .double 0, .double 0, .double 0]) (S_em : Sta Z Z.heap "java/util/OptionalDouble" "EMPTY" "Ljava/util/OptionalDouble;" (.ref em)) (E_em : Exa Z Z.heap em "java/util/OptionalDouble") (F_em : Fld Z Z.heap em "java/util/OptionalDouble" "isPresent" "Z" (.int 0)) (bl0 : -32768 ≤ w0.toInt) (bl1 : -32768 ≤ w1.toInt) (bl2 : -32768 ≤ w2.toInt) (bl3 : -32768 ≤ w3.toInt) (bl4 : -32768 ≤ w4.toInt) (bl5 : -32768 ≤ w5.toInt) (bl6 : -32768 ≤ w6.toInt) (bl7 : -32768 ≤ w7.toInt) (bl8 : -32768 ≤ w8.toInt) (bl9 : -32768 ≤ w9.toInt) (bl10 : -32768 ≤ w10.toInt) (bl11 : -32768 ≤ w11.toInt) (bu0 : w0.toInt ≤ 32768) (bu1 : w1.toInt ≤ 32768) (bu2 : w2.toInt ≤ 32768) (bu3 : w3.toInt ≤ 32768) (bu4 : w4.toInt ≤ 32768) (bu5 : w5.toInt ≤ 32768) (bu6 : w6.toInt ≤ 32768) (bu7 : w7.toInt ≤ 32768) (bu8 : w8.toInt ≤ 32768) (bu9 : w9.toInt ≤ 32768) (bu10 : w10.toInt ≤ 32768) (bu11 : w11.toInt ≤ 32768) :
    own_Go pP eE below sS (QLaw n0) 24 192 (T0.setTop (mkF mM 278 #[.val (.int u0), .val (.long u1), .second, .val (.long u2), .second, .val (.long u3), .second, .val (.int 12), .val (.ref vv), .val (.ref t3), .val (.ref t4), .val (.ref aa), .unset, .unset, .unset, .unset, .unset] [])) := by
  refine SA1 hw X0 hx hZ hby hml hown hlk hret e0 N0 u0 u1 u2 u3 12 w0 w1 w2 w3 w4 w5 w6 w7 w8 w9 w10 w11 vv kv t3 k3 t4 k4 aa dd kd O Zn g_aa g_dd A_vv A_t3 A_t4 nq0 nq1 nq2 nq3 nq4 nq5 nq6 ra bl0 bl1 bl2 bl3 bl4 bl5 bl6 bl7 bl8 bl9 bl10 bl11 bu0 bu1 bu2 bu3 bu4 bu5 bu6 bu7 bu8 bu9 bu10 bu11 (by decide) (fun T628 L628 h628 X628 e628 N628 O Zn A_vv A_t3 A_t4 ra => ?_)
  refine SA2 hw X628 hx hZ hby hml hown hlk hret e628 N628 u0 u1 u2 u3 12 w0 w1 w2 w3 w4 w5 w6 w7 w8 w9 w10 w11 vv kv t3 k3 t4 k4 aa dd kd O Zn g_aa g_dd A_vv A_t3 A_t4 nq0 nq1 nq2 nq3 nq4 nq5 nq6 ra bl0 bl1 bl2 bl3 bl4 bl5 bl6 bl7 bl8 bl9 bl10 bl11 bu0 bu1 bu2 bu3 bu4 bu5 bu6 bu7 bu8 bu9 bu10 bu11 (by decide) (fun T629 L629 h629 X629 e629 N629 O Zn A_vv A_t3 A_t4 ra => ?_)
  refine SA3 hw X629 hx hZ hby hml hown hlk hret e629 N629 u0 u1 u2 u3 12 w0 w1 w2 w3 w4 w5 w6 w7 w8 w9 w10 w11 vv kv t3 k3 t4 k4 aa dd kd O Zn g_aa g_dd A_vv A_t3 A_t4 nq0 nq1 nq2 nq3 nq4 nq5 nq6 ra bl0 bl1 bl2 bl3 bl4 bl5 bl6 bl7 bl8 bl9 bl10 bl11 bu0 bu1 bu2 bu3 bu4 bu5 bu6 bu7 bu8 bu9 bu10 bu11 (by decide) (fun T630 L630 h630 X630 e630 N630 O Zn A_vv A_t3 A_t4 ra => ?_)
  refine SA4 hw X630 hx hZ hby hml hown hlk hret e630 N630 u0 u1 u2 u3 12 w0 w1 w2 w3 w4 w5 w6 w7 w8 w9 w10 w11 vv kv t3 k3 t4 k4 aa dd kd O Zn g_aa g_dd A_vv A_t3 A_t4 nq0 nq1 nq2 nq3 nq4 nq5 nq6 ra bl0 bl1 bl2 bl3 bl4 bl5 bl6 bl7 bl8 bl9 bl10 bl11 bu0 bu1 bu2 bu3 bu4 bu5 bu6 bu7 bu8 bu9 bu10 bu11 (by decide) (fun T631 L631 h631 X631 e631 N631 O Zn A_vv A_t3 A_t4 ra => ?_)
  refine SA5 hw X631 hx hZ hby hml hown hlk hret e631 N631 u0 u1 u2 u3 12 w0 w1 w2 w3 w4 w5 w6 w7 w8 w9 w10 w11 vv kv t3 k3 t4 k4 aa dd kd O Zn g_aa g_dd A_vv A_t3 A_t4 nq0 nq1 nq2 nq3 nq4 nq5 nq6 ra bl0 bl1 bl2 bl3 bl4 bl5 bl6 bl7 bl8 bl9 bl10 bl11 bu0 bu1 bu2 bu3 bu4 bu5 bu6 bu7 bu8 bu9 bu10 bu11 (by decide) (fun T632 L632 h632 X632 e632 N632 O Zn A_vv A_t3 A_t4 ra => ?_)
  refine SA6 hw X632 hx hZ hby hml hown hlk hret e632 N632 u0 u1 u2 u3 12 w0 w1 w2 w3 w4 w5 w6 w7 w8 w9 w10 w11 vv kv t3 k3 t4 k4 aa dd kd O Zn g_aa g_dd A_vv A_t3 A_t4 nq0 nq1 nq2 nq3 nq4 nq5 nq6 ra bl0 bl1 bl2 bl3 bl4 bl5 bl6 bl7 bl8 bl9 bl10 bl11 bu0 bu1 bu2 bu3 bu4 bu5 bu6 bu7 bu8 bu9 bu10 bu11 (by decide) (fun T633 L633 h633 X633 e633 N633 O Zn A_vv A_t3 A_t4 ra => ?_)
  refine SA7 hw X633 hx hZ hby hml hown hlk hret e633 N633 u0 u1 u2 u3 12 w0 w1 w2 w3 w4 w5 w6 w7 w8 w9 w10 w11 vv kv t3 k3 t4 k4 aa dd kd O Zn g_aa g_dd A_vv A_t3 A_t4 nq0 nq1 nq2 nq3 nq4 nq5 nq6 ra bl0 bl1 bl2 bl3 bl4 bl5 bl6 bl7 bl8 bl9 bl10 bl11 bu0 bu1 bu2 bu3 bu4 bu5 bu6 bu7 bu8 bu9 bu10 bu11 (by decide) (fun T634 L634 h634 X634 e634 N634 O Zn A_vv A_t3 A_t4 ra => ?_)
  refine SA8 hw X634 hx hZ hby hml hown hlk hret e634 N634 u0 u1 u2 u3 12 w0 w1 w2 w3 w4 w5 w6 w7 w8 w9 w10 w11 vv kv t3 k3 t4 k4 aa dd kd O Zn g_aa g_dd A_vv A_t3 A_t4 nq0 nq1 nq2 nq3 nq4 nq5 nq6 ra bl0 bl1 bl2 bl3 bl4 bl5 bl6 bl7 bl8 bl9 bl10 bl11 bu0 bu1 bu2 bu3 bu4 bu5 bu6 bu7 bu8 bu9 bu10 bu11 (by decide) (fun T635 L635 h635 X635 e635 N635 O Zn A_vv A_t3 A_t4 ra => ?_)
  refine SA9 hw X635 hx hZ hby hml hown hlk hret e635 N635 u0 u1 u2 u3 12 w0 w1 w2 w3 w4 w5 w6 w7 w8 w9 w10 w11 vv kv t3 k3 t4 k4 aa dd kd O Zn g_aa g_dd A_vv A_t3 A_t4 nq0 nq1 nq2 nq3 nq4 nq5 nq6 ra bl0 bl1 bl2 bl3 bl4 bl5 bl6 bl7 bl8 bl9 bl10 bl11 bu0 bu1 bu2 bu3 bu4 bu5 bu6 bu7 bu8 bu9 bu10 bu11 (by decide) (fun T636 L636 h636 X636 e636 N636 O Zn A_vv A_t3 A_t4 ra => ?_)
  refine SA10 hw X636 hx hZ hby hml hown hlk hret e636 N636 u0 u1 u2 u3 12 w0 w1 w2 w3 w4 w5 w6 w7 w8 w9 w10 w11 vv kv t3 k3 t4 k4 aa dd kd O Zn g_aa g_dd A_vv A_t3 A_t4 nq0 nq1 nq2 nq3 nq4 nq5 nq6 ra bl0 bl1 bl2 bl3 bl4 bl5 bl6 bl7 bl8 bl9 bl10 bl11 bu0 bu1 bu2 bu3 bu4 bu5 bu6 bu7 bu8 bu9 bu10 bu11 (by decide) (fun T637 L637 h637 X637 e637 N637 O Zn A_vv A_t3 A_t4 ra => ?_)
  refine SA11 hw X637 hx hZ hby hml hown hlk hret e637 N637 u0 u1 u2 u3 12 w0 w1 w2 w3 w4 w5 w6 w7 w8 w9 w10 w11 vv kv t3 k3 t4 k4 aa dd kd O Zn g_aa g_dd A_vv A_t3 A_t4 nq0 nq1 nq2 nq3 nq4 nq5 nq6 ra bl0 bl1 bl2 bl3 bl4 bl5 bl6 bl7 bl8 bl9 bl10 bl11 bu0 bu1 bu2 bu3 bu4 bu5 bu6 bu7 bu8 bu9 bu10 bu11 (by decide) (fun T638 L638 h638 X638 e638 N638 O Zn A_vv A_t3 A_t4 ra => ?_)
  refine SA12 hw X638 hx hZ hby hml hown hlk hret e638 N638 u0 u1 u2 u3 12 w0 w1 w2 w3 w4 w5 w6 w7 w8 w9 w10 w11 vv kv t3 k3 t4 k4 aa dd kd O Zn g_aa g_dd A_vv A_t3 A_t4 nq0 nq1 nq2 nq3 nq4 nq5 nq6 ra bl0 bl1 bl2 bl3 bl4 bl5 bl6 bl7 bl8 bl9 bl10 bl11 bu0 bu1 bu2 bu3 bu4 bu5 bu6 bu7 bu8 bu9 bu10 bu11 (by decide) (fun T639 L639 h639 X639 e639 N639 O Zn A_vv A_t3 A_t4 ra => ?_)
  refine o_iload 485 X639 hx (hb hby at_483) rfl rfl ?_
  refine o_bipush 487 10 X639 hx (hb hby at_485) rfl rfl ?_
  obtain ⟨_, _, ⟨T640, L640, k640, n640⟩, -, X640, ⟨Lc640, hQ640, l640, y640, z640⟩, st640⟩ := Jvm.LawKit.callS X639 hx (y := yn3) hown (mvT hZ (ow hw 37 rfl)) (mvT hZ (ow hw 38 rfl)) (mvT hZ (ow hw 39 rfl)) (mvT hZ (ow hw 40 rfl)) (by decide) (backOf (W := 0) (rmM12 lL Z a0 hw []  h639 n0 ) hZ (ow hw 40 rfl) (ow hw 39 rfl) (by decide) (by decide)) (g := (mkF mM 487 #[.val (.int u0), .val (.long u1), .second, .val (.long u2), .second, .val (.long u3), .second, .val (.int 12), .val (.ref vv), .val (.ref t3), .val (.ref t4), .val (.ref aa), .unset, .unset, .unset, .unset, .unset] [.int 10, .int 12])) rfl (by rw [hml]; rfl) (argsL := [.int 12, .int 10]) (rest := []) (lenOf pd__28II_29I rfl) rfl (by show 2 * 0 + _ ≤ _; exact Nat.le_of_eq rfl) (hb hby at_487) (fun _ _ => ⟨rfl, e639, (by decide : 5 + 0 ≤ _), (by decide : 46 + 0 ≤ _)⟩)
  dsimp only [Pt.U, Pt.locs, Pt.cells, Pt.slots] at X640 l640 y640 z640 st640 hQ640
  have X640 := own_cs X640 5 46 y640 z640
  obtain ⟨rfl, N640q, e640⟩ := hQ640
  have N640 := own_N l640 N639 N640q
  refine own_k T640 490 [.int 10] st640 ?_
  let Lv641 : Array Slot := #[.val (.int u0), .val (.long u1), .second, .val (.long u2), .second, .val (.long u3), .second, .val (.int 12), .val (.ref vv), .val (.ref t3), .val (.ref t4), .val (.ref aa), .val (.int 10), .unset, .unset, .unset, .unset]
  refine own_st (A := T640.setTop (mkF mM 492 Lv641 [])) (fun t_ k_ => XS.istore X640.here hx rfl (hb hby at_490) rfl (l' := Lv641) rfl k_) ?_
  refine o_aload 494 X640 hx (hb hby at_492) rfl rfl rfl ?_
  obtain ⟨cq642, kq642, q642a, q642b, q642c⟩ := isOf hZ e640 ra.1
  obtain ⟨_, _, ⟨T642, L642, k642, n642⟩, -, X642, ⟨Lc642, hQ642, l642, y642, z642⟩, st642⟩ := X640.virtualBack hx (y := yn4) (z := yn4) hown (mvT hZ (ow hw 41 rfl)) (mvT hZ (ow hw 42 rfl)) (notFace_of_selects (args := #[]) (mvT hZ (ow hw 44 rfl))) (mvT hZ (ow hw 44 rfl)) (mvT hZ (ow hw 43 rfl)) (by decide) (backOf (W := 0) (rmC lL Z a0 hw [] aa 10 h639 n0 ra.2.2.1) hZ (ow hw 45 rfl) (ow hw 27 rfl) (by decide) (by decide)) q642a q642c (g := (mkF mM 494 Lv641 [.ref aa])) rfl (by rw [hml]; rfl) (Steps.refl _) (argsL := []) (rest := []) (lenOf pd__28_29I rfl) rfl (by show 2 * 0 + _ ≤ _; exact Nat.le_of_eq rfl) (hb hby at_494) (fun _ _ => ⟨rfl, e640, (by decide : 5 + 0 ≤ _), (by decide : 46 + 0 ≤ _)⟩)
  dsimp only [Pt.U, Pt.locs, Pt.cells, Pt.slots] at X642 l642 y642 z642 st642 hQ642
  have X642 := own_cs X642 5 46 y642 z642
  obtain ⟨rfl, N642q, e642⟩ := hQ642
  have N642 := own_N l642 N640 N642q
  refine own_k T642 497 [.int 10] (fun t_ k_ => st642.trans k_) ?_
  refine o_iload 499 X642 hx (hb hby at_497) rfl rfl ?_
  refine o_icmpYes 504 X642 hx (hb hby at_499) (teq (by decide : ((10 : Int32) = (10 : Int32)))).1 (by decide) ?_
  refine o_aload 506 X642 hx (hb hby at_504) rfl rfl rfl ?_
  obtain ⟨cq643, kq643, q643a, q643b, q643c⟩ := isOf hZ e642 ra.1
  obtain ⟨_, _, ⟨T643, L643, k643, n643⟩, -, X643, ⟨Lc643, hQ643, l643, y643, z643⟩, st643⟩ := X642.virtualBack hx (y := yn8) (z := yn8) hown (mvT hZ (ow hw 48 rfl)) (mvT hZ (ow hw 49 rfl)) (notFace_of_selects (args := #[]) (mvT hZ (ow hw 51 rfl))) (mvT hZ (ow hw 51 rfl)) (mvT hZ (ow hw 50 rfl)) (by decide) (backOf (W := 0) (rmV lL Z a0 hw [] aa 10 (stp (FP.i2d w11) (stp (FP.i2d w10) (stp (FP.i2d w9) (stp (FP.i2d w8) (stp (FP.i2d w7) (stp (FP.i2d w6) (stp (FP.i2d w5) (stp (FP.i2d w4) (stp (FP.i2d w3) (FP.i2d w2)))))))))) h639 n0 Zn ra.2.2.1 ra.2.2.2.2.1 (by decide)) hZ (ow hw 52 rfl) (ow hw 27 rfl) (by decide) (by decide)) q643a q643c (g := (mkF mM 506 Lv641 [.ref aa])) rfl (by rw [hml]; rfl) (Steps.refl _) (argsL := []) (rest := []) (lenOf pd__28_29Ljava_2futil_2fOptionalDouble_3b rfl) rfl (by show 2 * 0 + _ ≤ _; exact Nat.le_of_eq rfl) (hb hby at_506) (fun _ _ => ⟨rfl, e642, (by decide : 5 + 1 ≤ _), (by decide : 46 + 2 ≤ _)⟩)
  dsimp only [Pt.U, Pt.locs, Pt.cells, Pt.slots] at X643 l643 y643 z643 st643 hQ643
  have X643 := own_cs X643 6 48 y643 z643
  obtain ⟨p643, rfl, N643q, E643, od⟩ := hQ643
  have N643 := own_N l643 N642 N643q
  have e643 : T643.heap = T643.heap := rfl
  refine own_k T643 509 [.ref p643] (fun t_ k_ => st643.trans k_) ?_
  have O := O.ext E643
  have A_vv := A_vv.ext E643
  have A_t3 := A_t3.ext E643
  have A_t4 := A_t4.ext E643
  have Zn := Nat.le_trans Zn E643.1
  let Lv644 : Array Slot := #[.val (.int u0), .val (.long u1), .second, .val (.long u2), .second, .val (.long u3), .second, .val (.int 12), .val (.ref vv), .val (.ref t3), .val (.ref t4), .val (.ref aa), .val (.int 10), .val (.ref p643), .unset, .unset, .unset]
  refine own_st (A := T643.setTop (mkF mM 511 Lv644 [])) (fun t_ k_ => XS.astore X643.here hx rfl (hb hby at_509) rfl rfl (l' := Lv644) rfl k_) ?_
  refine o_iload 513 X643 hx (hb hby at_511) rfl rfl ?_
  refine o_ifYes 530 X643 hx (hb hby at_513) ((if0 _ _).trans (feq (by decide : ¬ ((10 : Int32) = (0 : Int32)))).2) (by decide) ?_
  refine o_aload 532 X643 hx (hb hby at_530) rfl rfl rfl ?_
  obtain ⟨cq645, kq645, q645a, q645b, q645c⟩ := isOf hZ e643 od.1
  obtain ⟨_, _, ⟨T645, L645, k645, n645⟩, -, X645, ⟨Lc645, hQ645, l645, y645, z645⟩, st645⟩ := X643.virtualBack hx (y := yn9) (z := yn9) hown (mvT hZ (ow hw 58 rfl)) (mvT hZ (ow hw 59 rfl)) (notFace_of_selects (args := #[]) (mvT hZ (ow hw 61 rfl))) (mvT hZ (ow hw 61 rfl)) (mvT hZ (ow hw 60 rfl)) (by decide) (backOf (W := 0) (rmP1 lL Z a0 hw [] p643 T643.heap n0 od.2.1) hZ (ow hw 62 rfl) (ow hw 55 rfl) (by decide) (by decide)) q645a q645c (g := (mkF mM 532 Lv644 [.ref p643])) rfl (by rw [hml]; rfl) (Steps.refl _) (argsL := []) (rest := []) (lenOf pd__28_29Z rfl) rfl (by show 2 * 0 + _ ≤ _; exact Nat.le_of_eq rfl) (hb hby at_532) (fun _ _ => ⟨rfl, e643, (by decide : 6 + 0 ≤ _), (by decide : 48 + 0 ≤ _)⟩)
  dsimp only [Pt.U, Pt.locs, Pt.cells, Pt.slots] at X645 l645 y645 z645 st645 hQ645
  have X645 := own_cs X645 6 48 y645 z645
  obtain ⟨rfl, N645q, e645⟩ := hQ645
  have N645 := own_N l645 N643 N645q
  refine own_k T645 535 [.int 1] (fun t_ k_ => st645.trans k_) ?_
  refine o_ifYes 540 X645 hx (hb hby at_535) ((if0 _ _).trans (feq (by decide : ¬ ((1 : Int32) = (0 : Int32)))).2) (by decide) ?_
  refine o_iload 542 X645 hx (hb hby at_540) rfl rfl ?_
  refine o_iload 544 X645 hx (hb hby at_542) rfl rfl ?_
  refine own_j 545 [.int 2] (fun t_ k_ => XS.isub X645.here hx rfl (hb hby at_544) rfl k_) ?_
  let Lv646 : Array Slot := #[.val (.int u0), .val (.long u1), .second, .val (.long u2), .second, .val (.long u3), .second, .val (.int 12), .val (.ref vv), .val (.ref t3), .val (.ref t4), .val (.ref aa), .val (.int 10), .val (.ref p643), .val (.int 2), .unset, .unset]
  refine own_st (A := T645.setTop (mkF mM 547 Lv646 [])) (fun t_ k_ => XS.istore X645.here hx rfl (hb hby at_545) rfl (l' := Lv646) rfl k_) ?_
  refine o_aload 549 X645 hx (hb hby at_547) rfl rfl rfl ?_
  refine o_iload 551 X645 hx (hb hby at_549) rfl rfl ?_
  refine o_iconst 552 1 X645 hx (hb hby at_551) rfl rfl ?_
  refine own_j 553 [.int 9, .ref t3] (fun t_ k_ => XS.isub X645.here hx rfl (hb hby at_552) rfl k_) ?_
  obtain ⟨cl647, Ar647, q647, S647, Nn647, H647, G647⟩ := id A_t3
  have hin647 : ¬ ((9 : Int32) < 0 ∨ cl647.slots.size ≤ ((9 : Int32)).toNatClampNeg) := inb_of S647 ⟨by decide, by decide⟩
  refine own_j 554 [.long 19683] (fun t_ k_ => X645.laload hx (j := (9 : Int32)) (v := (.long 19683)) (by rw [e645]; exact Ar647.1) (State.isArrayOf_alike hZ.alike Ar647.2.1) Ar647.2.2 hin647 (H647.at hin647 rfl) (g := (mkF mM 553 Lv646 [.int 9, .ref t3])) rfl rfl (hb hby at_553) t_ k_) ?_
  refine o_aload 556 X645 hx (hb hby at_554) rfl rfl rfl ?_
  refine o_iload 558 X645 hx (hb hby at_556) rfl rfl ?_
  obtain ⟨cl648, Ar648, q648, S648, Nn648, H648, G648⟩ := id A_vv
  have hin648 : ¬ ((2 : Int32) < 0 ∨ cl648.slots.size ≤ ((2 : Int32)).toNatClampNeg) := inb_of S648 ⟨by decide, by decide⟩
  refine own_j 559 [.int w2, .long 19683] (fun t_ k_ => X645.iaload hx (j := (2 : Int32)) (v := (.int w2)) (by rw [e645]; exact Ar648.1) (State.isArrayOf_alike hZ.alike Ar648.2.1) Ar648.2.2 hin648 (H648.at hin648 rfl) (g := (mkF mM 558 Lv646 [.int 2, .ref vv, .long 19683])) rfl rfl (hb hby at_558) t_ k_) ?_
  refine own_j 560 [(.long ((w2).toInt64)), .long 19683] (fun t_ k_ => XS.i2l X645.here hx rfl (hb hby at_559) rfl k_) ?_
  refine own_j 561 [(.long ((19683 : Int64) * ((w2).toInt64)))] (fun t_ k_ => XS.lmul X645.here hx rfl (hb hby at_560) rfl k_) ?_
  let Lv649 : Array Slot := #[.val (.int u0), .val (.long u1), .second, .val (.long u2), .second, .val (.long u3), .second, .val (.int 12), .val (.ref vv), .val (.ref t3), .val (.ref t4), .val (.ref aa), .val (.int 10), .val (.ref p643), .val (.int 2), .val (.long ((19683 : Int64) * ((w2).toInt64))), .second]
  refine own_st (A := T645.setTop (mkF mM 563 Lv649 [])) (fun t_ k_ => XS.lstore X645.here hx rfl (hb hby at_561) rfl (l' := Lv649) rfl k_) ?_
  refine ST2 hw X645 hx hZ hby hml hown hlk hret e645 N645 u0 u1 u2 u3 12 vv kv t3 k3 t4 k4 aa 10 p643 2 ((19683 : Int64) * ((w2).toInt64)) _ _ _ 6561 1 w3 A_vv A_t3 A_t4 (by decide) (by decide) (by decide) (by decide) rfl rfl rfl (fun T650 L650 X650 e650 N650 => ?_)
  refine ST3 hw X650 hx hZ hby hml hown hlk hret e650 N650 u0 u1 u2 u3 12 vv kv t3 k3 t4 k4 aa 10 p643 2 (((19683 : Int64) * ((w2).toInt64)) + (((6561 : Int64) * (1 : Int64)) * (w3).toInt64)) _ _ _ 2187 4 w4 A_vv A_t3 A_t4 (by decide) (by decide) (by decide) (by decide) rfl rfl rfl (fun T651 L651 X651 e651 N651 => ?_)
  refine ST4 hw X651 hx hZ hby hml hown hlk hret e651 N651 u0 u1 u2 u3 12 vv kv t3 k3 t4 k4 aa 10 p643 2 ((((19683 : Int64) * ((w2).toInt64)) + (((6561 : Int64) * (1 : Int64)) * (w3).toInt64)) + (((2187 : Int64) * (4 : Int64)) * (w4).toInt64)) _ _ _ 729 16 w5 A_vv A_t3 A_t4 (by decide) (by decide) (by decide) (by decide) rfl rfl rfl (fun T652 L652 X652 e652 N652 => ?_)
  refine ST5 hw X652 hx hZ hby hml hown hlk hret e652 N652 u0 u1 u2 u3 12 vv kv t3 k3 t4 k4 aa 10 p643 2 (((((19683 : Int64) * ((w2).toInt64)) + (((6561 : Int64) * (1 : Int64)) * (w3).toInt64)) + (((2187 : Int64) * (4 : Int64)) * (w4).toInt64)) + (((729 : Int64) * (16 : Int64)) * (w5).toInt64)) _ _ _ 243 64 w6 A_vv A_t3 A_t4 (by decide) (by decide) (by decide) (by decide) rfl rfl rfl (fun T653 L653 X653 e653 N653 => ?_)
  refine ST6 hw X653 hx hZ hby hml hown hlk hret e653 N653 u0 u1 u2 u3 12 vv kv t3 k3 t4 k4 aa 10 p643 2 ((((((19683 : Int64) * ((w2).toInt64)) + (((6561 : Int64) * (1 : Int64)) * (w3).toInt64)) + (((2187 : Int64) * (4 : Int64)) * (w4).toInt64)) + (((729 : Int64) * (16 : Int64)) * (w5).toInt64)) + (((243 : Int64) * (64 : Int64)) * (w6).toInt64)) _ _ _ 81 256 w7 A_vv A_t3 A_t4 (by decide) (by decide) (by decide) (by decide) rfl rfl rfl (fun T654 L654 X654 e654 N654 => ?_)
  refine ST7 hw X654 hx hZ hby hml hown hlk hret e654 N654 u0 u1 u2 u3 12 vv kv t3 k3 t4 k4 aa 10 p643 2 (((((((19683 : Int64) * ((w2).toInt64)) + (((6561 : Int64) * (1 : Int64)) * (w3).toInt64)) + (((2187 : Int64) * (4 : Int64)) * (w4).toInt64)) + (((729 : Int64) * (16 : Int64)) * (w5).toInt64)) + (((243 : Int64) * (64 : Int64)) * (w6).toInt64)) + (((81 : Int64) * (256 : Int64)) * (w7).toInt64)) _ _ _ 27 1024 w8 A_vv A_t3 A_t4 (by decide) (by decide) (by decide) (by decide) rfl rfl rfl (fun T655 L655 X655 e655 N655 => ?_)
  refine ST8 hw X655 hx hZ hby hml hown hlk hret e655 N655 u0 u1 u2 u3 12 vv kv t3 k3 t4 k4 aa 10 p643 2 ((((((((19683 : Int64) * ((w2).toInt64)) + (((6561 : Int64) * (1 : Int64)) * (w3).toInt64)) + (((2187 : Int64) * (4 : Int64)) * (w4).toInt64)) + (((729 : Int64) * (16 : Int64)) * (w5).toInt64)) + (((243 : Int64) * (64 : Int64)) * (w6).toInt64)) + (((81 : Int64) * (256 : Int64)) * (w7).toInt64)) + (((27 : Int64) * (1024 : Int64)) * (w8).toInt64)) _ _ _ 9 4096 w9 A_vv A_t3 A_t4 (by decide) (by decide) (by decide) (by decide) rfl rfl rfl (fun T656 L656 X656 e656 N656 => ?_)
  refine ST9 hw X656 hx hZ hby hml hown hlk hret e656 N656 u0 u1 u2 u3 12 vv kv t3 k3 t4 k4 aa 10 p643 2 (((((((((19683 : Int64) * ((w2).toInt64)) + (((6561 : Int64) * (1 : Int64)) * (w3).toInt64)) + (((2187 : Int64) * (4 : Int64)) * (w4).toInt64)) + (((729 : Int64) * (16 : Int64)) * (w5).toInt64)) + (((243 : Int64) * (64 : Int64)) * (w6).toInt64)) + (((81 : Int64) * (256 : Int64)) * (w7).toInt64)) + (((27 : Int64) * (1024 : Int64)) * (w8).toInt64)) + (((9 : Int64) * (4096 : Int64)) * (w9).toInt64)) _ _ _ 3 16384 w10 A_vv A_t3 A_t4 (by decide) (by decide) (by decide) (by decide) rfl rfl rfl (fun T657 L657 X657 e657 N657 => ?_)
  refine ST10 hw X657 hx hZ hby hml hown hlk hret e657 N657 u0 u1 u2 u3 12 vv kv t3 k3 t4 k4 aa 10 p643 2 ((((((((((19683 : Int64) * ((w2).toInt64)) + (((6561 : Int64) * (1 : Int64)) * (w3).toInt64)) + (((2187 : Int64) * (4 : Int64)) * (w4).toInt64)) + (((729 : Int64) * (16 : Int64)) * (w5).toInt64)) + (((243 : Int64) * (64 : Int64)) * (w6).toInt64)) + (((81 : Int64) * (256 : Int64)) * (w7).toInt64)) + (((27 : Int64) * (1024 : Int64)) * (w8).toInt64)) + (((9 : Int64) * (4096 : Int64)) * (w9).toInt64)) + (((3 : Int64) * (16384 : Int64)) * (w10).toInt64)) _ _ _ 1 65536 w11 A_vv A_t3 A_t4 (by decide) (by decide) (by decide) (by decide) rfl rfl rfl (fun T658 L658 X658 e658 N658 => ?_)
  refine o_aload 741 X658 hx (hb hby at_739) rfl rfl rfl ?_
  obtain ⟨cq659, kq659, q659a, q659b, q659c⟩ := isOf hZ e658 od.1
  obtain ⟨_, _, ⟨T659, L659, k659, n659⟩, -, X659, ⟨Lc659, hQ659, l659, y659, z659⟩, st659⟩ := X658.virtualBack hx (y := yn10) (z := yn10) hown (mvT hZ (ow hw 91 rfl)) (mvT hZ (ow hw 92 rfl)) (notFace_of_selects (args := #[]) (mvT hZ (ow hw 94 rfl))) (mvT hZ (ow hw 94 rfl)) (mvT hZ (ow hw 93 rfl)) (by decide) (backOf (W := 0) (rmG lL Z a0 hw [] p643 (stp (FP.i2d w11) (stp (FP.i2d w10) (stp (FP.i2d w9) (stp (FP.i2d w8) (stp (FP.i2d w7) (stp (FP.i2d w6) (stp (FP.i2d w5) (stp (FP.i2d w4) (stp (FP.i2d w3) (FP.i2d w2)))))))))) T643.heap n0 od) hZ (ow hw 95 rfl) (ow hw 55 rfl) (by decide) (by decide)) q659a q659c (g := (mkF mM 741 #[.val (.int u0), .val (.long u1), .second, .val (.long u2), .second, .val (.long u3), .second, .val (.int 12), .val (.ref vv), .val (.ref t3), .val (.ref t4), .val (.ref aa), .val (.int 10), .val (.ref p643), .val (.int 2), .val (.long (((((((((((19683 : Int64) * ((w2).toInt64)) + (((6561 : Int64) * (1 : Int64)) * (w3).toInt64)) + (((2187 : Int64) * (4 : Int64)) * (w4).toInt64)) + (((729 : Int64) * (16 : Int64)) * (w5).toInt64)) + (((243 : Int64) * (64 : Int64)) * (w6).toInt64)) + (((81 : Int64) * (256 : Int64)) * (w7).toInt64)) + (((27 : Int64) * (1024 : Int64)) * (w8).toInt64)) + (((9 : Int64) * (4096 : Int64)) * (w9).toInt64)) + (((3 : Int64) * (16384 : Int64)) * (w10).toInt64)) + (((1 : Int64) * (65536 : Int64)) * (w11).toInt64))), .second] [.ref p643])) rfl (by rw [hml]; rfl) (Steps.refl _) (argsL := []) (rest := []) (lenOf pd__28_29D rfl) rfl (by show 2 * 0 + _ ≤ _; exact Nat.le_of_eq rfl) (hb hby at_741) (fun _ _ => ⟨rfl, e658, (by decide : 6 + 0 ≤ _), (by decide : 48 + 0 ≤ _)⟩)
  dsimp only [Pt.U, Pt.locs, Pt.cells, Pt.slots] at X659 l659 y659 z659 st659 hQ659
  have X659 := own_cs X659 6 48 y659 z659
  obtain ⟨rfl, N659q, e659⟩ := hQ659
  have N659 := own_N l659 N658 N659q
  refine own_k T659 744 [(.double (stp (FP.i2d w11) (stp (FP.i2d w10) (stp (FP.i2d w9) (stp (FP.i2d w8) (stp (FP.i2d w7) (stp (FP.i2d w6) (stp (FP.i2d w5) (stp (FP.i2d w4) (stp (FP.i2d w3) (FP.i2d w2)))))))))))] (fun t_ k_ => st659.trans k_) ?_
  refine o_aload 746 X659 hx (hb hby at_744) rfl rfl rfl ?_
  refine o_iload 748 X659 hx (hb hby at_746) rfl rfl ?_
  refine o_iconst 749 1 X659 hx (hb hby at_748) rfl rfl ?_
  refine own_j 750 [.int 9, .ref t4, (.double (stp (FP.i2d w11) (stp (FP.i2d w10) (stp (FP.i2d w9) (stp (FP.i2d w8) (stp (FP.i2d w7) (stp (FP.i2d w6) (stp (FP.i2d w5) (stp (FP.i2d w4) (stp (FP.i2d w3) (FP.i2d w2)))))))))))] (fun t_ k_ => XS.isub X659.here hx rfl (hb hby at_749) rfl k_) ?_
  obtain ⟨cl660, Ar660, q660, S660, Nn660, H660, G660⟩ := id A_t4
  have hin660 : ¬ ((9 : Int32) < 0 ∨ cl660.slots.size ≤ ((9 : Int32)).toNatClampNeg) := inb_of S660 ⟨by decide, by decide⟩
  refine own_j 751 [.long 262144, (.double (stp (FP.i2d w11) (stp (FP.i2d w10) (stp (FP.i2d w9) (stp (FP.i2d w8) (stp (FP.i2d w7) (stp (FP.i2d w6) (stp (FP.i2d w5) (stp (FP.i2d w4) (stp (FP.i2d w3) (FP.i2d w2)))))))))))] (fun t_ k_ => X659.laload hx (j := (9 : Int32)) (v := (.long 262144)) (by rw [e659]; exact Ar660.1) (State.isArrayOf_alike hZ.alike Ar660.2.1) Ar660.2.2 hin660 (H660.at hin660 rfl) (g := (mkF mM 750 #[.val (.int u0), .val (.long u1), .second, .val (.long u2), .second, .val (.long u3), .second, .val (.int 12), .val (.ref vv), .val (.ref t3), .val (.ref t4), .val (.ref aa), .val (.int 10), .val (.ref p643), .val (.int 2), .val (.long (((((((((((19683 : Int64) * ((w2).toInt64)) + (((6561 : Int64) * (1 : Int64)) * (w3).toInt64)) + (((2187 : Int64) * (4 : Int64)) * (w4).toInt64)) + (((729 : Int64) * (16 : Int64)) * (w5).toInt64)) + (((243 : Int64) * (64 : Int64)) * (w6).toInt64)) + (((81 : Int64) * (256 : Int64)) * (w7).toInt64)) + (((27 : Int64) * (1024 : Int64)) * (w8).toInt64)) + (((9 : Int64) * (4096 : Int64)) * (w9).toInt64)) + (((3 : Int64) * (16384 : Int64)) * (w10).toInt64)) + (((1 : Int64) * (65536 : Int64)) * (w11).toInt64))), .second] [.int 9, .ref t4, (.double (stp (FP.i2d w11) (stp (FP.i2d w10) (stp (FP.i2d w9) (stp (FP.i2d w8) (stp (FP.i2d w7) (stp (FP.i2d w6) (stp (FP.i2d w5) (stp (FP.i2d w4) (stp (FP.i2d w3) (FP.i2d w2)))))))))))])) rfl rfl (hb hby at_750) t_ k_) ?_
  refine own_j 752 [(.double (FP.l2d (262144 : Int64))), (.double (stp (FP.i2d w11) (stp (FP.i2d w10) (stp (FP.i2d w9) (stp (FP.i2d w8) (stp (FP.i2d w7) (stp (FP.i2d w6) (stp (FP.i2d w5) (stp (FP.i2d w4) (stp (FP.i2d w3) (FP.i2d w2)))))))))))] (fun t_ k_ => XS.l2dS X659.here hx rfl (hb hby at_751) rfl rfl k_) ?_
  have av0 : Av (FP.i2d w2) w2.toInt 0 (32768 * 1) := own_av0 bl2 bu2
  obtain ⟨-, -, -, av1⟩ := own_stp (P := 1) bl3 bu3 av0 (by decide) (by decide) (by decide) (by decide)
  have av1 : Av (stp (FP.i2d w3) (FP.i2d w2)) (1 * w3.toInt + 3 * w2.toInt) 1 (32768 * 4) := av1
  obtain ⟨-, -, -, av2⟩ := own_stp (P := 4) bl4 bu4 av1 (by decide) (by decide) (by decide) (by decide)
  have av2 : Av (stp (FP.i2d w4) (stp (FP.i2d w3) (FP.i2d w2))) (4 * w4.toInt + 3 * (1 * w3.toInt + 3 * w2.toInt)) 2 (32768 * 16) := av2
  obtain ⟨-, -, -, av3⟩ := own_stp (P := 16) bl5 bu5 av2 (by decide) (by decide) (by decide) (by decide)
  have av3 : Av (stp (FP.i2d w5) (stp (FP.i2d w4) (stp (FP.i2d w3) (FP.i2d w2)))) (16 * w5.toInt + 3 * (4 * w4.toInt + 3 * (1 * w3.toInt + 3 * w2.toInt))) 3 (32768 * 64) := av3
  obtain ⟨-, -, -, av4⟩ := own_stp (P := 64) bl6 bu6 av3 (by decide) (by decide) (by decide) (by decide)
  have av4 : Av (stp (FP.i2d w6) (stp (FP.i2d w5) (stp (FP.i2d w4) (stp (FP.i2d w3) (FP.i2d w2))))) (64 * w6.toInt + 3 * (16 * w5.toInt + 3 * (4 * w4.toInt + 3 * (1 * w3.toInt + 3 * w2.toInt)))) 4 (32768 * 256) := av4
  obtain ⟨-, -, -, av5⟩ := own_stp (P := 256) bl7 bu7 av4 (by decide) (by decide) (by decide) (by decide)
  have av5 : Av (stp (FP.i2d w7) (stp (FP.i2d w6) (stp (FP.i2d w5) (stp (FP.i2d w4) (stp (FP.i2d w3) (FP.i2d w2)))))) (256 * w7.toInt + 3 * (64 * w6.toInt + 3 * (16 * w5.toInt + 3 * (4 * w4.toInt + 3 * (1 * w3.toInt + 3 * w2.toInt))))) 5 (32768 * 1024) := av5
  obtain ⟨-, -, -, av6⟩ := own_stp (P := 1024) bl8 bu8 av5 (by decide) (by decide) (by decide) (by decide)
  have av6 : Av (stp (FP.i2d w8) (stp (FP.i2d w7) (stp (FP.i2d w6) (stp (FP.i2d w5) (stp (FP.i2d w4) (stp (FP.i2d w3) (FP.i2d w2))))))) (1024 * w8.toInt + 3 * (256 * w7.toInt + 3 * (64 * w6.toInt + 3 * (16 * w5.toInt + 3 * (4 * w4.toInt + 3 * (1 * w3.toInt + 3 * w2.toInt)))))) 6 (32768 * 4096) := av6
  obtain ⟨-, -, -, av7⟩ := own_stp (P := 4096) bl9 bu9 av6 (by decide) (by decide) (by decide) (by decide)
  have av7 : Av (stp (FP.i2d w9) (stp (FP.i2d w8) (stp (FP.i2d w7) (stp (FP.i2d w6) (stp (FP.i2d w5) (stp (FP.i2d w4) (stp (FP.i2d w3) (FP.i2d w2)))))))) (4096 * w9.toInt + 3 * (1024 * w8.toInt + 3 * (256 * w7.toInt + 3 * (64 * w6.toInt + 3 * (16 * w5.toInt + 3 * (4 * w4.toInt + 3 * (1 * w3.toInt + 3 * w2.toInt))))))) 7 (32768 * 16384) := av7
  obtain ⟨-, -, -, av8⟩ := own_stp (P := 16384) bl10 bu10 av7 (by decide) (by decide) (by decide) (by decide)
  have av8 : Av (stp (FP.i2d w10) (stp (FP.i2d w9) (stp (FP.i2d w8) (stp (FP.i2d w7) (stp (FP.i2d w6) (stp (FP.i2d w5) (stp (FP.i2d w4) (stp (FP.i2d w3) (FP.i2d w2))))))))) (16384 * w10.toInt + 3 * (4096 * w9.toInt + 3 * (1024 * w8.toInt + 3 * (256 * w7.toInt + 3 * (64 * w6.toInt + 3 * (16 * w5.toInt + 3 * (4 * w4.toInt + 3 * (1 * w3.toInt + 3 * w2.toInt)))))))) 8 (32768 * 65536) := av8
  obtain ⟨-, -, -, av9⟩ := own_stp (P := 65536) bl11 bu11 av8 (by decide) (by decide) (by decide) (by decide)
  have av9 : Av (stp (FP.i2d w11) (stp (FP.i2d w10) (stp (FP.i2d w9) (stp (FP.i2d w8) (stp (FP.i2d w7) (stp (FP.i2d w6) (stp (FP.i2d w5) (stp (FP.i2d w4) (stp (FP.i2d w3) (FP.i2d w2)))))))))) (65536 * w11.toInt + 3 * (16384 * w10.toInt + 3 * (4096 * w9.toInt + 3 * (1024 * w8.toInt + 3 * (256 * w7.toInt + 3 * (64 * w6.toInt + 3 * (16 * w5.toInt + 3 * (4 * w4.toInt + 3 * (1 * w3.toInt + 3 * w2.toInt))))))))) 9 (32768 * 262144) := av9
  have sm1 := own_Lmul (x := w2) (c := 19683) (C := 19683) (by decide) (by decide) (by decide) bl2 bu2
  have tm2 := own_Lmul (x := w3) (c := (6561 : Int64) * (1 : Int64)) (C := 6561) (by decide) (by decide) (by decide) bl3 bu3
  have sm2 := own_Ladd sm1 tm2 (by omega) (by omega) (by omega) (by omega)
  have tm3 := own_Lmul (x := w4) (c := (2187 : Int64) * (4 : Int64)) (C := 8748) (by decide) (by decide) (by decide) bl4 bu4
  have sm3 := own_Ladd sm2 tm3 (by omega) (by omega) (by omega) (by omega)
  have tm4 := own_Lmul (x := w5) (c := (729 : Int64) * (16 : Int64)) (C := 11664) (by decide) (by decide) (by decide) bl5 bu5
  have sm4 := own_Ladd sm3 tm4 (by omega) (by omega) (by omega) (by omega)
  have tm5 := own_Lmul (x := w6) (c := (243 : Int64) * (64 : Int64)) (C := 15552) (by decide) (by decide) (by decide) bl6 bu6
  have sm5 := own_Ladd sm4 tm5 (by omega) (by omega) (by omega) (by omega)
  have tm6 := own_Lmul (x := w7) (c := (81 : Int64) * (256 : Int64)) (C := 20736) (by decide) (by decide) (by decide) bl7 bu7
  have sm6 := own_Ladd sm5 tm6 (by omega) (by omega) (by omega) (by omega)
  have tm7 := own_Lmul (x := w8) (c := (27 : Int64) * (1024 : Int64)) (C := 27648) (by decide) (by decide) (by decide) bl8 bu8
  have sm7 := own_Ladd sm6 tm7 (by omega) (by omega) (by omega) (by omega)
  have tm8 := own_Lmul (x := w9) (c := (9 : Int64) * (4096 : Int64)) (C := 36864) (by decide) (by decide) (by decide) bl9 bu9
  have sm8 := own_Ladd sm7 tm8 (by omega) (by omega) (by omega) (by omega)
  have tm9 := own_Lmul (x := w10) (c := (3 : Int64) * (16384 : Int64)) (C := 49152) (by decide) (by decide) (by decide) bl10 bu10
  have sm9 := own_Ladd sm8 tm9 (by omega) (by omega) (by omega) (by omega)
  have tm10 := own_Lmul (x := w11) (c := (1 : Int64) * (65536 : Int64)) (C := 65536) (by decide) (by decide) (by decide) bl11 bu11
  have sm10 := own_Ladd sm9 tm10 (by omega) (by omega) (by omega) (by omega)
  have hs : ((((((((((((19683 : Int64) * ((w2).toInt64)) + (((6561 : Int64) * (1 : Int64)) * (w3).toInt64)) + (((2187 : Int64) * (4 : Int64)) * (w4).toInt64)) + (((729 : Int64) * (16 : Int64)) * (w5).toInt64)) + (((243 : Int64) * (64 : Int64)) * (w6).toInt64)) + (((81 : Int64) * (256 : Int64)) * (w7).toInt64)) + (((27 : Int64) * (1024 : Int64)) * (w8).toInt64)) + (((9 : Int64) * (4096 : Int64)) * (w9).toInt64)) + (((3 : Int64) * (16384 : Int64)) * (w10).toInt64)) + (((1 : Int64) * (65536 : Int64)) * (w11).toInt64))).toInt = (65536 * w11.toInt + 3 * (16384 * w10.toInt + 3 * (4096 * w9.toInt + 3 * (1024 * w8.toInt + 3 * (256 * w7.toInt + 3 * (64 * w6.toInt + 3 * (16 * w5.toInt + 3 * (4 * w4.toInt + 3 * (1 * w3.toInt + 3 * w2.toInt))))))))) := sm10.trans (by omega)
  obtain ⟨nl, cl⟩ := own_last (p := 262144) av9 (by decide) (by decide) (by decide) (by decide) (by decide) hs
  refine own_j 753 [(.double (FP.dmul (stp (FP.i2d w11) (stp (FP.i2d w10) (stp (FP.i2d w9) (stp (FP.i2d w8) (stp (FP.i2d w7) (stp (FP.i2d w6) (stp (FP.i2d w5) (stp (FP.i2d w4) (stp (FP.i2d w3) (FP.i2d w2)))))))))) (FP.l2d (262144 : Int64))))] (fun t_ k_ => XS.dmulS X659.here hx rfl (hb hby at_752) rfl nl rfl k_) ?_
  refine o_lload 755 X659 hx (hb hby at_753) rfl rfl ?_
  refine own_j 756 [(.double (FP.l2d (((((((((((19683 : Int64) * ((w2).toInt64)) + (((6561 : Int64) * (1 : Int64)) * (w3).toInt64)) + (((2187 : Int64) * (4 : Int64)) * (w4).toInt64)) + (((729 : Int64) * (16 : Int64)) * (w5).toInt64)) + (((243 : Int64) * (64 : Int64)) * (w6).toInt64)) + (((81 : Int64) * (256 : Int64)) * (w7).toInt64)) + (((27 : Int64) * (1024 : Int64)) * (w8).toInt64)) + (((9 : Int64) * (4096 : Int64)) * (w9).toInt64)) + (((3 : Int64) * (16384 : Int64)) * (w10).toInt64)) + (((1 : Int64) * (65536 : Int64)) * (w11).toInt64)))), (.double (FP.dmul (stp (FP.i2d w11) (stp (FP.i2d w10) (stp (FP.i2d w9) (stp (FP.i2d w8) (stp (FP.i2d w7) (stp (FP.i2d w6) (stp (FP.i2d w5) (stp (FP.i2d w4) (stp (FP.i2d w3) (FP.i2d w2)))))))))) (FP.l2d (262144 : Int64))))] (fun t_ k_ => XS.l2dS X659.here hx rfl (hb hby at_755) rfl rfl k_) ?_
  refine own_j 757 [.int 0] (fun t_ k_ => XS.dcmpS X659.here hx rfl (hb hby at_756) rfl (cl _) k_) ?_
  refine o_ifNo 760 X659 hx (hb hby at_757) ((if0 _ _).trans (teq (by decide : ((0 : Int32) = (0 : Int32)))).2) rfl ?_
  refine o_iconst 761 1 X659 hx (hb hby at_760) rfl rfl ?_
  refine o_goto 765 X659 hx (hb hby at_761) (by decide) ?_
  exact own_retN X659 hx hlk (t := .boolean) hret (by simp) (hb hby at_765) ⟨rfl, N659⟩ (by decide) (by decide)
theorem J278 (hw : own_tb a0 Z) (X0 : Stand pP lL eE room_1 sS mM args below meth cC T0 locs 5 46) (hx : pP.tables.exec = Jvm.exec) (hZ : Z.Warmed39 sS.vm) (hby : cC.code = code) (hml : cC.maxLocals = 17) (hown : sS.vm.findClass "com/example/gleanwork/gleanwork/schedule/RecentAverageAddPinLaw" = some mM.cls) (hlk : meth.locks = false) (hret : meth.sig.returnType = ret) (e0 : T0.heap = h0) (N0 : Fr n0 locs) (u0 : Int32) (u1 : Int64) (u2 : Int64) (u3 : Int64) (nn : Int32) (w0 : Int32) (w1 : Int32) (w2 : Int32) (w3 : Int32) (w4 : Int32) (w5 : Int32) (w6 : Int32) (w7 : Int32) (w8 : Int32) (w9 : Int32) (w10 : Int32) (w11 : Int32) (vv : Addr) (kv : ClassId) (t3 : Addr) (k3 : ClassId) (t4 : Addr) (k4 : ClassId) (aa : Addr) (dd : Addr) (kd : ClassId) (em : Addr) (O : Old Z n0 h0) (Zn : n0 ≤ h0.size) (g_aa : n0 ≤ aa) (g_dd : n0 ≤ dd) (A_vv : Arv Z h0 vv kv .int 12 [.int w0, .int w1, .int w2, .int w3, .int w4, .int w5, .int w6, .int w7, .int w8, .int w9, .int w10, .int w11] (.int 0)) (A_t3 : Arv Z h0 t3 k3 .long 10 [.long 1, .long 3, .long 9, .long 27, .long 81, .long 243, .long 729, .long 2187, .long 6561, .long 19683] (.long 0)) (A_t4 : Arv Z h0 t4 k4 .long 10 [.long 1, .long 4, .long 16, .long 64, .long 256, .long 1024, .long 4096, .long 16384, .long 65536, .long 262144] (.long 0)) (nq0 : vv ≠ aa) (nq1 : vv ≠ dd) (nq2 : t3 ≠ aa) (nq3 : t3 ≠ dd) (nq4 : t4 ≠ aa) (nq5 : t4 ≠ dd) (nq6 : aa ≠ dd) (ra : Ra Z h0 aa dd kd 0 0 0 [.double 0, .double 0, .double 0, .double 0, .double 0, .double 0, .double 0, .double 0, .double 0, .double 0]) (S_em : Sta Z Z.heap "java/util/OptionalDouble" "EMPTY" "Ljava/util/OptionalDouble;" (.ref em)) (E_em : Exa Z Z.heap em "java/util/OptionalDouble") (F_em : Fld Z Z.heap em "java/util/OptionalDouble" "isPresent" "Z" (.int 0)) (bl0 : -32768 ≤ w0.toInt) (bl1 : -32768 ≤ w1.toInt) (bl2 : -32768 ≤ w2.toInt) (bl3 : -32768 ≤ w3.toInt) (bl4 : -32768 ≤ w4.toInt) (bl5 : -32768 ≤ w5.toInt) (bl6 : -32768 ≤ w6.toInt) (bl7 : -32768 ≤ w7.toInt) (bl8 : -32768 ≤ w8.toInt) (bl9 : -32768 ≤ w9.toInt) (bl10 : -32768 ≤ w10.toInt) (bl11 : -32768 ≤ w11.toInt) (bu0 : w0.toInt ≤ 32768) (bu1 : w1.toInt ≤ 32768) (bu2 : w2.toInt ≤ 32768) (bu3 : w3.toInt ≤ 32768) (bu4 : w4.toInt ≤ 32768) (bu5 : w5.toInt ≤ 32768) (bu6 : w6.toInt ≤ 32768) (bu7 : w7.toInt ≤ 32768) (bu8 : w8.toInt ≤ 32768) (bu9 : w9.toInt ≤ 32768) (bu10 : w10.toInt ≤ 32768) (bu11 : w11.toInt ≤ 32768) (hn : nn = 0 ∨ nn = 1 ∨ nn = 2 ∨ nn = 3 ∨ nn = 4 ∨ nn = 5 ∨ nn = 6 ∨ nn = 7 ∨ nn = 8 ∨ nn = 9 ∨ nn = 10 ∨ nn = 11 ∨ nn = 12) :
    own_Go pP eE below sS (QLaw n0) 24 192 (T0.setTop (mkF mM 278 #[.val (.int u0), .val (.long u1), .second, .val (.long u2), .second, .val (.long u3), .second, .val (.int nn), .val (.ref vv), .val (.ref t3), .val (.ref t4), .val (.ref aa), .unset, .unset, .unset, .unset, .unset] [])) := by
  rcases hn with rfl | rfl | rfl | rfl | rfl | rfl | rfl | rfl | rfl | rfl | rfl | rfl | rfl
  · exact J278_0 hw X0 hx hZ hby hml hown hlk hret e0 N0 u0 u1 u2 u3 w0 w1 w2 w3 w4 w5 w6 w7 w8 w9 w10 w11 vv kv t3 k3 t4 k4 aa dd kd em O Zn g_aa g_dd A_vv A_t3 A_t4 nq0 nq1 nq2 nq3 nq4 nq5 nq6 ra S_em E_em F_em bl0 bl1 bl2 bl3 bl4 bl5 bl6 bl7 bl8 bl9 bl10 bl11 bu0 bu1 bu2 bu3 bu4 bu5 bu6 bu7 bu8 bu9 bu10 bu11
  · exact J278_1 hw X0 hx hZ hby hml hown hlk hret e0 N0 u0 u1 u2 u3 w0 w1 w2 w3 w4 w5 w6 w7 w8 w9 w10 w11 vv kv t3 k3 t4 k4 aa dd kd em O Zn g_aa g_dd A_vv A_t3 A_t4 nq0 nq1 nq2 nq3 nq4 nq5 nq6 ra S_em E_em F_em bl0 bl1 bl2 bl3 bl4 bl5 bl6 bl7 bl8 bl9 bl10 bl11 bu0 bu1 bu2 bu3 bu4 bu5 bu6 bu7 bu8 bu9 bu10 bu11
  · exact J278_2 hw X0 hx hZ hby hml hown hlk hret e0 N0 u0 u1 u2 u3 w0 w1 w2 w3 w4 w5 w6 w7 w8 w9 w10 w11 vv kv t3 k3 t4 k4 aa dd kd em O Zn g_aa g_dd A_vv A_t3 A_t4 nq0 nq1 nq2 nq3 nq4 nq5 nq6 ra S_em E_em F_em bl0 bl1 bl2 bl3 bl4 bl5 bl6 bl7 bl8 bl9 bl10 bl11 bu0 bu1 bu2 bu3 bu4 bu5 bu6 bu7 bu8 bu9 bu10 bu11
  · exact J278_3 hw X0 hx hZ hby hml hown hlk hret e0 N0 u0 u1 u2 u3 w0 w1 w2 w3 w4 w5 w6 w7 w8 w9 w10 w11 vv kv t3 k3 t4 k4 aa dd kd em O Zn g_aa g_dd A_vv A_t3 A_t4 nq0 nq1 nq2 nq3 nq4 nq5 nq6 ra S_em E_em F_em bl0 bl1 bl2 bl3 bl4 bl5 bl6 bl7 bl8 bl9 bl10 bl11 bu0 bu1 bu2 bu3 bu4 bu5 bu6 bu7 bu8 bu9 bu10 bu11
  · exact J278_4 hw X0 hx hZ hby hml hown hlk hret e0 N0 u0 u1 u2 u3 w0 w1 w2 w3 w4 w5 w6 w7 w8 w9 w10 w11 vv kv t3 k3 t4 k4 aa dd kd em O Zn g_aa g_dd A_vv A_t3 A_t4 nq0 nq1 nq2 nq3 nq4 nq5 nq6 ra S_em E_em F_em bl0 bl1 bl2 bl3 bl4 bl5 bl6 bl7 bl8 bl9 bl10 bl11 bu0 bu1 bu2 bu3 bu4 bu5 bu6 bu7 bu8 bu9 bu10 bu11
  · exact J278_5 hw X0 hx hZ hby hml hown hlk hret e0 N0 u0 u1 u2 u3 w0 w1 w2 w3 w4 w5 w6 w7 w8 w9 w10 w11 vv kv t3 k3 t4 k4 aa dd kd em O Zn g_aa g_dd A_vv A_t3 A_t4 nq0 nq1 nq2 nq3 nq4 nq5 nq6 ra S_em E_em F_em bl0 bl1 bl2 bl3 bl4 bl5 bl6 bl7 bl8 bl9 bl10 bl11 bu0 bu1 bu2 bu3 bu4 bu5 bu6 bu7 bu8 bu9 bu10 bu11
  · exact J278_6 hw X0 hx hZ hby hml hown hlk hret e0 N0 u0 u1 u2 u3 w0 w1 w2 w3 w4 w5 w6 w7 w8 w9 w10 w11 vv kv t3 k3 t4 k4 aa dd kd em O Zn g_aa g_dd A_vv A_t3 A_t4 nq0 nq1 nq2 nq3 nq4 nq5 nq6 ra S_em E_em F_em bl0 bl1 bl2 bl3 bl4 bl5 bl6 bl7 bl8 bl9 bl10 bl11 bu0 bu1 bu2 bu3 bu4 bu5 bu6 bu7 bu8 bu9 bu10 bu11
  · exact J278_7 hw X0 hx hZ hby hml hown hlk hret e0 N0 u0 u1 u2 u3 w0 w1 w2 w3 w4 w5 w6 w7 w8 w9 w10 w11 vv kv t3 k3 t4 k4 aa dd kd em O Zn g_aa g_dd A_vv A_t3 A_t4 nq0 nq1 nq2 nq3 nq4 nq5 nq6 ra S_em E_em F_em bl0 bl1 bl2 bl3 bl4 bl5 bl6 bl7 bl8 bl9 bl10 bl11 bu0 bu1 bu2 bu3 bu4 bu5 bu6 bu7 bu8 bu9 bu10 bu11
  · exact J278_8 hw X0 hx hZ hby hml hown hlk hret e0 N0 u0 u1 u2 u3 w0 w1 w2 w3 w4 w5 w6 w7 w8 w9 w10 w11 vv kv t3 k3 t4 k4 aa dd kd em O Zn g_aa g_dd A_vv A_t3 A_t4 nq0 nq1 nq2 nq3 nq4 nq5 nq6 ra S_em E_em F_em bl0 bl1 bl2 bl3 bl4 bl5 bl6 bl7 bl8 bl9 bl10 bl11 bu0 bu1 bu2 bu3 bu4 bu5 bu6 bu7 bu8 bu9 bu10 bu11
  · exact J278_9 hw X0 hx hZ hby hml hown hlk hret e0 N0 u0 u1 u2 u3 w0 w1 w2 w3 w4 w5 w6 w7 w8 w9 w10 w11 vv kv t3 k3 t4 k4 aa dd kd em O Zn g_aa g_dd A_vv A_t3 A_t4 nq0 nq1 nq2 nq3 nq4 nq5 nq6 ra S_em E_em F_em bl0 bl1 bl2 bl3 bl4 bl5 bl6 bl7 bl8 bl9 bl10 bl11 bu0 bu1 bu2 bu3 bu4 bu5 bu6 bu7 bu8 bu9 bu10 bu11
  · exact J278_10 hw X0 hx hZ hby hml hown hlk hret e0 N0 u0 u1 u2 u3 w0 w1 w2 w3 w4 w5 w6 w7 w8 w9 w10 w11 vv kv t3 k3 t4 k4 aa dd kd em O Zn g_aa g_dd A_vv A_t3 A_t4 nq0 nq1 nq2 nq3 nq4 nq5 nq6 ra S_em E_em F_em bl0 bl1 bl2 bl3 bl4 bl5 bl6 bl7 bl8 bl9 bl10 bl11 bu0 bu1 bu2 bu3 bu4 bu5 bu6 bu7 bu8 bu9 bu10 bu11
  · exact J278_11 hw X0 hx hZ hby hml hown hlk hret e0 N0 u0 u1 u2 u3 w0 w1 w2 w3 w4 w5 w6 w7 w8 w9 w10 w11 vv kv t3 k3 t4 k4 aa dd kd em O Zn g_aa g_dd A_vv A_t3 A_t4 nq0 nq1 nq2 nq3 nq4 nq5 nq6 ra S_em E_em F_em bl0 bl1 bl2 bl3 bl4 bl5 bl6 bl7 bl8 bl9 bl10 bl11 bu0 bu1 bu2 bu3 bu4 bu5 bu6 bu7 bu8 bu9 bu10 bu11
  · exact J278_12 hw X0 hx hZ hby hml hown hlk hret e0 N0 u0 u1 u2 u3 w0 w1 w2 w3 w4 w5 w6 w7 w8 w9 w10 w11 vv kv t3 k3 t4 k4 aa dd kd em O Zn g_aa g_dd A_vv A_t3 A_t4 nq0 nq1 nq2 nq3 nq4 nq5 nq6 ra S_em E_em F_em bl0 bl1 bl2 bl3 bl4 bl5 bl6 bl7 bl8 bl9 bl10 bl11 bu0 bu1 bu2 bu3 bu4 bu5 bu6 bu7 bu8 bu9 bu10 bu11
theorem pd__28JI_29I : parseMethodDescriptor "(JI)I" = some ⟨[.long, .int], some .int⟩ := by decide +kernel
theorem pd__28_29V : parseMethodDescriptor "()V" = some ⟨[], none⟩ := by decide +kernel
theorem ef_rm0 (mM : MethodId) (u0 : Int32) (u1 : Int64) (u2 : Int64) (u3 : Int64) (em : Addr) : entryFrame mM #[.int u0, .long u1, .long u2, .long u3] maxLocals = mkF mM 0 #[.val (.int u0), .val (.long u1), .second, .val (.long u2), .second, .val (.long u3), .second, .unset, .unset, .unset, .unset, .unset, .unset, .unset, .unset, .unset, .unset] [] := by first | (simp [entryFrame, mkF, argsToLocals, Value.category, maxLocals]; done) | rfl
theorem rm0 (lL : Launch) (Z : State) (a0 : Array Value) (hw : own_tb a0 Z) (ws : List Jvm.Cond) (u0 : Int32) (u1 : Int64) (u2 : Int64) (u3 : Int64) (em : Addr) (h0 : Heap) (n0 : Nat) (O : Old Z n0 h0) (Zn : n0 ≤ h0.size) (S_em : Sta Z Z.heap "java/util/OptionalDouble" "EMPTY" "Ljava/util/OptionalDouble;" (.ref em)) (E_em : Exa Z Z.heap em "java/util/OptionalDouble") (F_em : Fld Z Z.heap em "java/util/OptionalDouble" "isPresent" "Z" (.int 0)) :
    MetFree lL x (head1 (Jvm.Cond.code x code maxLocals ret :: ws) room_1) (fun as_ uU_ => as_ = #[.int u0, .long u1, .long u2, .long u3] ∧ Z.Warmed39 uU_.vm ∧ uU_.heap = h0) (fun _ _ _ _ _ => True) (fun _ uU_ oO_ uE_ => ∃ vV_ lL_, oO_ = .returned vV_ ∧ (fun _ => QLaw) h0 n0 vV_ uE_.heap lL_ ∧ FrameEnd uU_ oO_ uE_ lL_ 24 192) := by
  refine MetFree.of_bodySF (plainFor_of_name pn_com_2fexample_2fgleanwork_2fgleanwork_2fschedule_2fRecentAverageAddPinLaw) hisR ?_
  intro pP eE sS mM args below meth cC s₁ Bd hml0 hP hK
  obtain ⟨rfl, hZ, hh⟩ := hP
  have hx := Bd.exec
  have hby := Bd.bytes
  have hml : cC.maxLocals = 17 := hml0
  have hown : sS.vm.findClass "com/example/gleanwork/gleanwork/schedule/RecentAverageAddPinLaw" = some mM.cls := findClass_of_methodNamed Bd.named
  have hnm := (name_of_methodNamed Bd.named Bd.method).1
  have hret := Bd.returns
  have hlk := BodyLoose.notSynchronized Bd
  have X0 : Stand pP lL eE room_1 sS mM #[.int u0, .long u1, .long u2, .long u3] below meth cC s₁ [] 0 0 := Stand.of_body Bd
  have e0 : s₁.heap = h0 := by rw [← hh, Bd.state]; rfl
  have N0 := Fr.nil n0
  show own_Go pP eE below sS ((fun _ => QLaw) h0 n0) 24 192 (s₁.setTop (entryFrame mM #[.int u0, .long u1, .long u2, .long u3] maxLocals))
  refine own_st (A := s₁.setTop (mkF mM 0 #[.val (.int u0), .val (.long u1), .second, .val (.long u2), .second, .val (.long u3), .second, .unset, .unset, .unset, .unset, .unset, .unset, .unset, .unset, .unset, .unset] [])) (fun t_ k_ => castTop (ef_rm0 mM u0 u1 u2 u3 em) k_) ?_
  refine o_iloadN 1 X0 hx (hb hby at_0) rfl rfl ?_
  refine own_j 3 [.int 2147483647, .int u0] (fun t_ k_ => X0.ldcInt hx hown (mvT hZ (ow hw 0 rfl)) (g := (mkF mM 1 #[.val (.int u0), .val (.long u1), .second, .val (.long u2), .second, .val (.long u3), .second, .unset, .unset, .unset, .unset, .unset, .unset, .unset, .unset, .unset, .unset] [.int u0])) rfl (hb hby at_1) t_ k_) ?_
  refine own_j 4 [(.int (u0 &&& (2147483647 : Int32)))] (fun t_ k_ => XS.iand X0.here hx rfl (hb hby at_3) rfl k_) ?_
  refine o_bipush 6 13 X0 hx (hb hby at_4) rfl rfl ?_
  refine own_j 7 [(.int ((u0 &&& (2147483647 : Int32)) % (13 : Int32)))] (fun t_ k_ => iremM X0 hx rfl (hb hby at_6) rfl (by decide) k_) ?_
  obtain ⟨nn, hnn⟩ : ∃ z, z = ((u0 &&& (2147483647 : Int32)) % (13 : Int32)) := ⟨_, rfl⟩
  rw [← hnn]
  let Lv661 : Array Slot := #[.val (.int u0), .val (.long u1), .second, .val (.long u2), .second, .val (.long u3), .second, .val (.int nn), .unset, .unset, .unset, .unset, .unset, .unset, .unset, .unset, .unset]
  refine own_st (A := s₁.setTop (mkF mM 9 Lv661 [])) (fun t_ k_ => XS.istore X0.here hx rfl (hb hby at_7) rfl (l' := Lv661) rfl k_) ?_
  refine o_bipush 11 12 X0 hx (hb hby at_9) rfl rfl ?_
  obtain ⟨T662, h662, k662, X662, e662, E662, A662, st662⟩ := newP X0 hx hZ (ow hw 1 rfl) e0 (g := (mkF mM 11 Lv661 [.int 12])) rfl (hb hby at_11) rfl (by decide) (cap := 12) (by decide) (by decide) (by decide) (by decide)
  obtain ⟨b662, g662⟩ : ∃ z, z = h0.size := ⟨_, rfl⟩
  rw [← g662] at A662 st662
  have g_b662 : n0 ≤ b662 := Nat.le_trans Zn (Nat.le_of_eq g662.symm)
  have O := O.ext E662
  have Zn := Nat.le_trans Zn E662.1
  have A_b662 : Arv Z h662 b662 k662 .int 12 [.int 0, .int 0, .int 0, .int 0, .int 0, .int 0, .int 0, .int 0, .int 0, .int 0, .int 0, .int 0] (.int 0) := (Arv.new A662 (by decide)).pad (pad_rep [] (.int 0) 12)
  refine own_k T662 13 [.ref b662] st662 ?_
  let Lv663 : Array Slot := #[.val (.int u0), .val (.long u1), .second, .val (.long u2), .second, .val (.long u3), .second, .val (.int nn), .val (.ref b662), .unset, .unset, .unset, .unset, .unset, .unset, .unset, .unset]
  refine own_st (A := T662.setTop (mkF mM 15 Lv663 [])) (fun t_ k_ => XS.astore X662.here hx rfl (hb hby at_13) rfl rfl (l' := Lv663) rfl k_) ?_
  refine o_aload 17 X662 hx (hb hby at_15) rfl rfl rfl ?_
  refine o_iconst 18 0 X662 hx (hb hby at_17) rfl rfl ?_
  refine o_lloadN 19 X662 hx (hb hby at_18) rfl rfl ?_
  refine o_iconst 20 0 X662 hx (hb hby at_19) rfl rfl ?_
  obtain ⟨_, _, ⟨T664, L664, k664, n664⟩, -, X664, ⟨Lc664, hQ664, l664, y664, z664⟩, st664⟩ := Jvm.LawKit.callS X662 hx (y := yn0) hown (mvT hZ (ow hw 2 rfl)) (mvT hZ (ow hw 3 rfl)) (mvT hZ (ow hw 4 rfl)) (mvT hZ (ow hw 5 rfl)) (by decide) (backOf (W := 2) (rmv lL Z a0 hw [] u1 (0 : Int32) h662 n0 ) hZ (ow hw 5 rfl) (ow hw 4 rfl) (by decide) (by decide)) (g := (mkF mM 20 Lv663 [.int 0, .long u1, .int 0, .ref b662])) rfl (by rw [hml]; rfl) (argsL := [.long u1, .int 0]) (rest := [.int 0, .ref b662]) (lenOf pd__28JI_29I rfl) rfl (by show 2 * 0 + _ ≤ _; exact Nat.le_of_eq rfl) (hb hby at_20) (fun _ _ => ⟨rfl, e662, (by decide : 1 + 0 ≤ _), (by decide : 12 + 0 ≤ _)⟩)
  dsimp only [Pt.U, Pt.locs, Pt.cells, Pt.slots] at X664 l664 y664 z664 st664 hQ664
  have X664 := own_cs X664 1 12 y664 z664
  obtain ⟨z664, rfl, N664q, e664, lo664, up664⟩ := hQ664
  have N664 := own_N l664 N0 N664q
  refine own_k T664 23 [.int z664, .int 0, .ref b662] st664 ?_
  obtain ⟨cl665, Ar665, q665, S665, Nn665, H665, G665⟩ := id A_b662
  obtain ⟨T666, h666, X666, e666, W666, st666⟩ := stI X664 hx hZ e664 Ar665 (j := (0 : Int32)) (inb_of S665 ⟨by decide, by decide⟩) (g := (mkF mM 23 Lv663 [.int z664, .int 0, .ref b662])) rfl rfl (hb hby at_23)
  have N666 := Fr.snoc X666 N664 g_b662
  have O := O.wr W666 g_b662
  have Zn := Nat.le_trans Zn (Keep.of_wr W666).1
  have A_b662 : Arv Z h666 b662 k662 .int 12 [.int z664, .int 0, .int 0, .int 0, .int 0, .int 0, .int 0, .int 0, .int 0, .int 0, .int 0, .int 0] (.int 0) := Arv.set Ar665 q665 S665 Nn665 H665 G665 rfl W666 0 rfl (Nat.le_of_ble_eq_true rfl)
  refine own_k T666 24 [] st666 ?_
  refine o_aload 26 X666 hx (hb hby at_24) rfl rfl rfl ?_
  refine o_iconst 27 1 X666 hx (hb hby at_26) rfl rfl ?_
  refine o_lloadN 28 X666 hx (hb hby at_27) rfl rfl ?_
  refine o_iconst 29 1 X666 hx (hb hby at_28) rfl rfl ?_
  obtain ⟨_, _, ⟨T667, L667, k667, n667⟩, -, X667, ⟨Lc667, hQ667, l667, y667, z667⟩, st667⟩ := Jvm.LawKit.callS X666 hx (y := yn0) hown (mvT hZ (ow hw 2 rfl)) (mvT hZ (ow hw 3 rfl)) (mvT hZ (ow hw 4 rfl)) (mvT hZ (ow hw 5 rfl)) (by decide) (backOf (W := 2) (rmv lL Z a0 hw [] u1 (1 : Int32) h666 n0 ) hZ (ow hw 5 rfl) (ow hw 4 rfl) (by decide) (by decide)) (g := (mkF mM 29 Lv663 [.int 1, .long u1, .int 1, .ref b662])) rfl (by rw [hml]; rfl) (argsL := [.long u1, .int 1]) (rest := [.int 1, .ref b662]) (lenOf pd__28JI_29I rfl) rfl (by show 2 * 0 + _ ≤ _; exact Nat.le_of_eq rfl) (hb hby at_29) (fun _ _ => ⟨rfl, e666, (by decide : 1 + 0 ≤ _), (by decide : 12 + 0 ≤ _)⟩)
  dsimp only [Pt.U, Pt.locs, Pt.cells, Pt.slots] at X667 l667 y667 z667 st667 hQ667
  have X667 := own_cs X667 1 12 y667 z667
  obtain ⟨z667, rfl, N667q, e667, lo667, up667⟩ := hQ667
  have N667 := own_N l667 N666 N667q
  refine own_k T667 32 [.int z667, .int 1, .ref b662] st667 ?_
  obtain ⟨cl668, Ar668, q668, S668, Nn668, H668, G668⟩ := id A_b662
  obtain ⟨T669, h669, X669, e669, W669, st669⟩ := stI X667 hx hZ e667 Ar668 (j := (1 : Int32)) (inb_of S668 ⟨by decide, by decide⟩) (g := (mkF mM 32 Lv663 [.int z667, .int 1, .ref b662])) rfl rfl (hb hby at_32)
  have N669 := Fr.snoc X669 N667 g_b662
  have O := O.wr W669 g_b662
  have Zn := Nat.le_trans Zn (Keep.of_wr W669).1
  have A_b662 : Arv Z h669 b662 k662 .int 12 [.int z664, .int z667, .int 0, .int 0, .int 0, .int 0, .int 0, .int 0, .int 0, .int 0, .int 0, .int 0] (.int 0) := Arv.set Ar668 q668 S668 Nn668 H668 G668 rfl W669 1 rfl (Nat.le_of_ble_eq_true rfl)
  refine own_k T669 33 [] st669 ?_
  refine o_aload 35 X669 hx (hb hby at_33) rfl rfl rfl ?_
  refine o_iconst 36 2 X669 hx (hb hby at_35) rfl rfl ?_
  refine o_lloadN 37 X669 hx (hb hby at_36) rfl rfl ?_
  refine o_iconst 38 2 X669 hx (hb hby at_37) rfl rfl ?_
  obtain ⟨_, _, ⟨T670, L670, k670, n670⟩, -, X670, ⟨Lc670, hQ670, l670, y670, z670⟩, st670⟩ := Jvm.LawKit.callS X669 hx (y := yn0) hown (mvT hZ (ow hw 2 rfl)) (mvT hZ (ow hw 3 rfl)) (mvT hZ (ow hw 4 rfl)) (mvT hZ (ow hw 5 rfl)) (by decide) (backOf (W := 2) (rmv lL Z a0 hw [] u1 (2 : Int32) h669 n0 ) hZ (ow hw 5 rfl) (ow hw 4 rfl) (by decide) (by decide)) (g := (mkF mM 38 Lv663 [.int 2, .long u1, .int 2, .ref b662])) rfl (by rw [hml]; rfl) (argsL := [.long u1, .int 2]) (rest := [.int 2, .ref b662]) (lenOf pd__28JI_29I rfl) rfl (by show 2 * 0 + _ ≤ _; exact Nat.le_of_eq rfl) (hb hby at_38) (fun _ _ => ⟨rfl, e669, (by decide : 1 + 0 ≤ _), (by decide : 12 + 0 ≤ _)⟩)
  dsimp only [Pt.U, Pt.locs, Pt.cells, Pt.slots] at X670 l670 y670 z670 st670 hQ670
  have X670 := own_cs X670 1 12 y670 z670
  obtain ⟨z670, rfl, N670q, e670, lo670, up670⟩ := hQ670
  have N670 := own_N l670 N669 N670q
  refine own_k T670 41 [.int z670, .int 2, .ref b662] st670 ?_
  obtain ⟨cl671, Ar671, q671, S671, Nn671, H671, G671⟩ := id A_b662
  obtain ⟨T672, h672, X672, e672, W672, st672⟩ := stI X670 hx hZ e670 Ar671 (j := (2 : Int32)) (inb_of S671 ⟨by decide, by decide⟩) (g := (mkF mM 41 Lv663 [.int z670, .int 2, .ref b662])) rfl rfl (hb hby at_41)
  have N672 := Fr.snoc X672 N670 g_b662
  have O := O.wr W672 g_b662
  have Zn := Nat.le_trans Zn (Keep.of_wr W672).1
  have A_b662 : Arv Z h672 b662 k662 .int 12 [.int z664, .int z667, .int z670, .int 0, .int 0, .int 0, .int 0, .int 0, .int 0, .int 0, .int 0, .int 0] (.int 0) := Arv.set Ar671 q671 S671 Nn671 H671 G671 rfl W672 2 rfl (Nat.le_of_ble_eq_true rfl)
  refine own_k T672 42 [] st672 ?_
  refine o_aload 44 X672 hx (hb hby at_42) rfl rfl rfl ?_
  refine o_iconst 45 3 X672 hx (hb hby at_44) rfl rfl ?_
  refine o_lloadN 46 X672 hx (hb hby at_45) rfl rfl ?_
  refine o_iconst 47 3 X672 hx (hb hby at_46) rfl rfl ?_
  obtain ⟨_, _, ⟨T673, L673, k673, n673⟩, -, X673, ⟨Lc673, hQ673, l673, y673, z673⟩, st673⟩ := Jvm.LawKit.callS X672 hx (y := yn0) hown (mvT hZ (ow hw 2 rfl)) (mvT hZ (ow hw 3 rfl)) (mvT hZ (ow hw 4 rfl)) (mvT hZ (ow hw 5 rfl)) (by decide) (backOf (W := 2) (rmv lL Z a0 hw [] u1 (3 : Int32) h672 n0 ) hZ (ow hw 5 rfl) (ow hw 4 rfl) (by decide) (by decide)) (g := (mkF mM 47 Lv663 [.int 3, .long u1, .int 3, .ref b662])) rfl (by rw [hml]; rfl) (argsL := [.long u1, .int 3]) (rest := [.int 3, .ref b662]) (lenOf pd__28JI_29I rfl) rfl (by show 2 * 0 + _ ≤ _; exact Nat.le_of_eq rfl) (hb hby at_47) (fun _ _ => ⟨rfl, e672, (by decide : 1 + 0 ≤ _), (by decide : 12 + 0 ≤ _)⟩)
  dsimp only [Pt.U, Pt.locs, Pt.cells, Pt.slots] at X673 l673 y673 z673 st673 hQ673
  have X673 := own_cs X673 1 12 y673 z673
  obtain ⟨z673, rfl, N673q, e673, lo673, up673⟩ := hQ673
  have N673 := own_N l673 N672 N673q
  refine own_k T673 50 [.int z673, .int 3, .ref b662] st673 ?_
  obtain ⟨cl674, Ar674, q674, S674, Nn674, H674, G674⟩ := id A_b662
  obtain ⟨T675, h675, X675, e675, W675, st675⟩ := stI X673 hx hZ e673 Ar674 (j := (3 : Int32)) (inb_of S674 ⟨by decide, by decide⟩) (g := (mkF mM 50 Lv663 [.int z673, .int 3, .ref b662])) rfl rfl (hb hby at_50)
  have N675 := Fr.snoc X675 N673 g_b662
  have O := O.wr W675 g_b662
  have Zn := Nat.le_trans Zn (Keep.of_wr W675).1
  have A_b662 : Arv Z h675 b662 k662 .int 12 [.int z664, .int z667, .int z670, .int z673, .int 0, .int 0, .int 0, .int 0, .int 0, .int 0, .int 0, .int 0] (.int 0) := Arv.set Ar674 q674 S674 Nn674 H674 G674 rfl W675 3 rfl (Nat.le_of_ble_eq_true rfl)
  refine own_k T675 51 [] st675 ?_
  refine o_aload 53 X675 hx (hb hby at_51) rfl rfl rfl ?_
  refine o_iconst 54 4 X675 hx (hb hby at_53) rfl rfl ?_
  refine o_lloadN 55 X675 hx (hb hby at_54) rfl rfl ?_
  refine o_iconst 56 0 X675 hx (hb hby at_55) rfl rfl ?_
  obtain ⟨_, _, ⟨T676, L676, k676, n676⟩, -, X676, ⟨Lc676, hQ676, l676, y676, z676⟩, st676⟩ := Jvm.LawKit.callS X675 hx (y := yn0) hown (mvT hZ (ow hw 2 rfl)) (mvT hZ (ow hw 3 rfl)) (mvT hZ (ow hw 4 rfl)) (mvT hZ (ow hw 5 rfl)) (by decide) (backOf (W := 2) (rmv lL Z a0 hw [] u2 (0 : Int32) h675 n0 ) hZ (ow hw 5 rfl) (ow hw 4 rfl) (by decide) (by decide)) (g := (mkF mM 56 Lv663 [.int 0, .long u2, .int 4, .ref b662])) rfl (by rw [hml]; rfl) (argsL := [.long u2, .int 0]) (rest := [.int 4, .ref b662]) (lenOf pd__28JI_29I rfl) rfl (by show 2 * 0 + _ ≤ _; exact Nat.le_of_eq rfl) (hb hby at_56) (fun _ _ => ⟨rfl, e675, (by decide : 1 + 0 ≤ _), (by decide : 12 + 0 ≤ _)⟩)
  dsimp only [Pt.U, Pt.locs, Pt.cells, Pt.slots] at X676 l676 y676 z676 st676 hQ676
  have X676 := own_cs X676 1 12 y676 z676
  obtain ⟨z676, rfl, N676q, e676, lo676, up676⟩ := hQ676
  have N676 := own_N l676 N675 N676q
  refine own_k T676 59 [.int z676, .int 4, .ref b662] st676 ?_
  obtain ⟨cl677, Ar677, q677, S677, Nn677, H677, G677⟩ := id A_b662
  obtain ⟨T678, h678, X678, e678, W678, st678⟩ := stI X676 hx hZ e676 Ar677 (j := (4 : Int32)) (inb_of S677 ⟨by decide, by decide⟩) (g := (mkF mM 59 Lv663 [.int z676, .int 4, .ref b662])) rfl rfl (hb hby at_59)
  have N678 := Fr.snoc X678 N676 g_b662
  have O := O.wr W678 g_b662
  have Zn := Nat.le_trans Zn (Keep.of_wr W678).1
  have A_b662 : Arv Z h678 b662 k662 .int 12 [.int z664, .int z667, .int z670, .int z673, .int z676, .int 0, .int 0, .int 0, .int 0, .int 0, .int 0, .int 0] (.int 0) := Arv.set Ar677 q677 S677 Nn677 H677 G677 rfl W678 4 rfl (Nat.le_of_ble_eq_true rfl)
  refine own_k T678 60 [] st678 ?_
  refine o_aload 62 X678 hx (hb hby at_60) rfl rfl rfl ?_
  refine o_iconst 63 5 X678 hx (hb hby at_62) rfl rfl ?_
  refine o_lloadN 64 X678 hx (hb hby at_63) rfl rfl ?_
  refine o_iconst 65 1 X678 hx (hb hby at_64) rfl rfl ?_
  obtain ⟨_, _, ⟨T679, L679, k679, n679⟩, -, X679, ⟨Lc679, hQ679, l679, y679, z679⟩, st679⟩ := Jvm.LawKit.callS X678 hx (y := yn0) hown (mvT hZ (ow hw 2 rfl)) (mvT hZ (ow hw 3 rfl)) (mvT hZ (ow hw 4 rfl)) (mvT hZ (ow hw 5 rfl)) (by decide) (backOf (W := 2) (rmv lL Z a0 hw [] u2 (1 : Int32) h678 n0 ) hZ (ow hw 5 rfl) (ow hw 4 rfl) (by decide) (by decide)) (g := (mkF mM 65 Lv663 [.int 1, .long u2, .int 5, .ref b662])) rfl (by rw [hml]; rfl) (argsL := [.long u2, .int 1]) (rest := [.int 5, .ref b662]) (lenOf pd__28JI_29I rfl) rfl (by show 2 * 0 + _ ≤ _; exact Nat.le_of_eq rfl) (hb hby at_65) (fun _ _ => ⟨rfl, e678, (by decide : 1 + 0 ≤ _), (by decide : 12 + 0 ≤ _)⟩)
  dsimp only [Pt.U, Pt.locs, Pt.cells, Pt.slots] at X679 l679 y679 z679 st679 hQ679
  have X679 := own_cs X679 1 12 y679 z679
  obtain ⟨z679, rfl, N679q, e679, lo679, up679⟩ := hQ679
  have N679 := own_N l679 N678 N679q
  refine own_k T679 68 [.int z679, .int 5, .ref b662] st679 ?_
  obtain ⟨cl680, Ar680, q680, S680, Nn680, H680, G680⟩ := id A_b662
  obtain ⟨T681, h681, X681, e681, W681, st681⟩ := stI X679 hx hZ e679 Ar680 (j := (5 : Int32)) (inb_of S680 ⟨by decide, by decide⟩) (g := (mkF mM 68 Lv663 [.int z679, .int 5, .ref b662])) rfl rfl (hb hby at_68)
  have N681 := Fr.snoc X681 N679 g_b662
  have O := O.wr W681 g_b662
  have Zn := Nat.le_trans Zn (Keep.of_wr W681).1
  have A_b662 : Arv Z h681 b662 k662 .int 12 [.int z664, .int z667, .int z670, .int z673, .int z676, .int z679, .int 0, .int 0, .int 0, .int 0, .int 0, .int 0] (.int 0) := Arv.set Ar680 q680 S680 Nn680 H680 G680 rfl W681 5 rfl (Nat.le_of_ble_eq_true rfl)
  refine own_k T681 69 [] st681 ?_
  refine o_aload 71 X681 hx (hb hby at_69) rfl rfl rfl ?_
  refine o_bipush 73 6 X681 hx (hb hby at_71) rfl rfl ?_
  refine o_lloadN 74 X681 hx (hb hby at_73) rfl rfl ?_
  refine o_iconst 75 2 X681 hx (hb hby at_74) rfl rfl ?_
  obtain ⟨_, _, ⟨T682, L682, k682, n682⟩, -, X682, ⟨Lc682, hQ682, l682, y682, z682⟩, st682⟩ := Jvm.LawKit.callS X681 hx (y := yn0) hown (mvT hZ (ow hw 2 rfl)) (mvT hZ (ow hw 3 rfl)) (mvT hZ (ow hw 4 rfl)) (mvT hZ (ow hw 5 rfl)) (by decide) (backOf (W := 2) (rmv lL Z a0 hw [] u2 (2 : Int32) h681 n0 ) hZ (ow hw 5 rfl) (ow hw 4 rfl) (by decide) (by decide)) (g := (mkF mM 75 Lv663 [.int 2, .long u2, .int 6, .ref b662])) rfl (by rw [hml]; rfl) (argsL := [.long u2, .int 2]) (rest := [.int 6, .ref b662]) (lenOf pd__28JI_29I rfl) rfl (by show 2 * 0 + _ ≤ _; exact Nat.le_of_eq rfl) (hb hby at_75) (fun _ _ => ⟨rfl, e681, (by decide : 1 + 0 ≤ _), (by decide : 12 + 0 ≤ _)⟩)
  dsimp only [Pt.U, Pt.locs, Pt.cells, Pt.slots] at X682 l682 y682 z682 st682 hQ682
  have X682 := own_cs X682 1 12 y682 z682
  obtain ⟨z682, rfl, N682q, e682, lo682, up682⟩ := hQ682
  have N682 := own_N l682 N681 N682q
  refine own_k T682 78 [.int z682, .int 6, .ref b662] st682 ?_
  obtain ⟨cl683, Ar683, q683, S683, Nn683, H683, G683⟩ := id A_b662
  obtain ⟨T684, h684, X684, e684, W684, st684⟩ := stI X682 hx hZ e682 Ar683 (j := (6 : Int32)) (inb_of S683 ⟨by decide, by decide⟩) (g := (mkF mM 78 Lv663 [.int z682, .int 6, .ref b662])) rfl rfl (hb hby at_78)
  have N684 := Fr.snoc X684 N682 g_b662
  have O := O.wr W684 g_b662
  have Zn := Nat.le_trans Zn (Keep.of_wr W684).1
  have A_b662 : Arv Z h684 b662 k662 .int 12 [.int z664, .int z667, .int z670, .int z673, .int z676, .int z679, .int z682, .int 0, .int 0, .int 0, .int 0, .int 0] (.int 0) := Arv.set Ar683 q683 S683 Nn683 H683 G683 rfl W684 6 rfl (Nat.le_of_ble_eq_true rfl)
  refine own_k T684 79 [] st684 ?_
  refine o_aload 81 X684 hx (hb hby at_79) rfl rfl rfl ?_
  refine o_bipush 83 7 X684 hx (hb hby at_81) rfl rfl ?_
  refine o_lloadN 84 X684 hx (hb hby at_83) rfl rfl ?_
  refine o_iconst 85 3 X684 hx (hb hby at_84) rfl rfl ?_
  obtain ⟨_, _, ⟨T685, L685, k685, n685⟩, -, X685, ⟨Lc685, hQ685, l685, y685, z685⟩, st685⟩ := Jvm.LawKit.callS X684 hx (y := yn0) hown (mvT hZ (ow hw 2 rfl)) (mvT hZ (ow hw 3 rfl)) (mvT hZ (ow hw 4 rfl)) (mvT hZ (ow hw 5 rfl)) (by decide) (backOf (W := 2) (rmv lL Z a0 hw [] u2 (3 : Int32) h684 n0 ) hZ (ow hw 5 rfl) (ow hw 4 rfl) (by decide) (by decide)) (g := (mkF mM 85 Lv663 [.int 3, .long u2, .int 7, .ref b662])) rfl (by rw [hml]; rfl) (argsL := [.long u2, .int 3]) (rest := [.int 7, .ref b662]) (lenOf pd__28JI_29I rfl) rfl (by show 2 * 0 + _ ≤ _; exact Nat.le_of_eq rfl) (hb hby at_85) (fun _ _ => ⟨rfl, e684, (by decide : 1 + 0 ≤ _), (by decide : 12 + 0 ≤ _)⟩)
  dsimp only [Pt.U, Pt.locs, Pt.cells, Pt.slots] at X685 l685 y685 z685 st685 hQ685
  have X685 := own_cs X685 1 12 y685 z685
  obtain ⟨z685, rfl, N685q, e685, lo685, up685⟩ := hQ685
  have N685 := own_N l685 N684 N685q
  refine own_k T685 88 [.int z685, .int 7, .ref b662] st685 ?_
  obtain ⟨cl686, Ar686, q686, S686, Nn686, H686, G686⟩ := id A_b662
  obtain ⟨T687, h687, X687, e687, W687, st687⟩ := stI X685 hx hZ e685 Ar686 (j := (7 : Int32)) (inb_of S686 ⟨by decide, by decide⟩) (g := (mkF mM 88 Lv663 [.int z685, .int 7, .ref b662])) rfl rfl (hb hby at_88)
  have N687 := Fr.snoc X687 N685 g_b662
  have O := O.wr W687 g_b662
  have Zn := Nat.le_trans Zn (Keep.of_wr W687).1
  have A_b662 : Arv Z h687 b662 k662 .int 12 [.int z664, .int z667, .int z670, .int z673, .int z676, .int z679, .int z682, .int z685, .int 0, .int 0, .int 0, .int 0] (.int 0) := Arv.set Ar686 q686 S686 Nn686 H686 G686 rfl W687 7 rfl (Nat.le_of_ble_eq_true rfl)
  refine own_k T687 89 [] st687 ?_
  refine o_aload 91 X687 hx (hb hby at_89) rfl rfl rfl ?_
  refine o_bipush 93 8 X687 hx (hb hby at_91) rfl rfl ?_
  refine o_lload 95 X687 hx (hb hby at_93) rfl rfl ?_
  refine o_iconst 96 0 X687 hx (hb hby at_95) rfl rfl ?_
  obtain ⟨_, _, ⟨T688, L688, k688, n688⟩, -, X688, ⟨Lc688, hQ688, l688, y688, z688⟩, st688⟩ := Jvm.LawKit.callS X687 hx (y := yn0) hown (mvT hZ (ow hw 2 rfl)) (mvT hZ (ow hw 3 rfl)) (mvT hZ (ow hw 4 rfl)) (mvT hZ (ow hw 5 rfl)) (by decide) (backOf (W := 2) (rmv lL Z a0 hw [] u3 (0 : Int32) h687 n0 ) hZ (ow hw 5 rfl) (ow hw 4 rfl) (by decide) (by decide)) (g := (mkF mM 96 Lv663 [.int 0, .long u3, .int 8, .ref b662])) rfl (by rw [hml]; rfl) (argsL := [.long u3, .int 0]) (rest := [.int 8, .ref b662]) (lenOf pd__28JI_29I rfl) rfl (by show 2 * 0 + _ ≤ _; exact Nat.le_of_eq rfl) (hb hby at_96) (fun _ _ => ⟨rfl, e687, (by decide : 1 + 0 ≤ _), (by decide : 12 + 0 ≤ _)⟩)
  dsimp only [Pt.U, Pt.locs, Pt.cells, Pt.slots] at X688 l688 y688 z688 st688 hQ688
  have X688 := own_cs X688 1 12 y688 z688
  obtain ⟨z688, rfl, N688q, e688, lo688, up688⟩ := hQ688
  have N688 := own_N l688 N687 N688q
  refine own_k T688 99 [.int z688, .int 8, .ref b662] st688 ?_
  obtain ⟨cl689, Ar689, q689, S689, Nn689, H689, G689⟩ := id A_b662
  obtain ⟨T690, h690, X690, e690, W690, st690⟩ := stI X688 hx hZ e688 Ar689 (j := (8 : Int32)) (inb_of S689 ⟨by decide, by decide⟩) (g := (mkF mM 99 Lv663 [.int z688, .int 8, .ref b662])) rfl rfl (hb hby at_99)
  have N690 := Fr.snoc X690 N688 g_b662
  have O := O.wr W690 g_b662
  have Zn := Nat.le_trans Zn (Keep.of_wr W690).1
  have A_b662 : Arv Z h690 b662 k662 .int 12 [.int z664, .int z667, .int z670, .int z673, .int z676, .int z679, .int z682, .int z685, .int z688, .int 0, .int 0, .int 0] (.int 0) := Arv.set Ar689 q689 S689 Nn689 H689 G689 rfl W690 8 rfl (Nat.le_of_ble_eq_true rfl)
  refine own_k T690 100 [] st690 ?_
  refine o_aload 102 X690 hx (hb hby at_100) rfl rfl rfl ?_
  refine o_bipush 104 9 X690 hx (hb hby at_102) rfl rfl ?_
  refine o_lload 106 X690 hx (hb hby at_104) rfl rfl ?_
  refine o_iconst 107 1 X690 hx (hb hby at_106) rfl rfl ?_
  obtain ⟨_, _, ⟨T691, L691, k691, n691⟩, -, X691, ⟨Lc691, hQ691, l691, y691, z691⟩, st691⟩ := Jvm.LawKit.callS X690 hx (y := yn0) hown (mvT hZ (ow hw 2 rfl)) (mvT hZ (ow hw 3 rfl)) (mvT hZ (ow hw 4 rfl)) (mvT hZ (ow hw 5 rfl)) (by decide) (backOf (W := 2) (rmv lL Z a0 hw [] u3 (1 : Int32) h690 n0 ) hZ (ow hw 5 rfl) (ow hw 4 rfl) (by decide) (by decide)) (g := (mkF mM 107 Lv663 [.int 1, .long u3, .int 9, .ref b662])) rfl (by rw [hml]; rfl) (argsL := [.long u3, .int 1]) (rest := [.int 9, .ref b662]) (lenOf pd__28JI_29I rfl) rfl (by show 2 * 0 + _ ≤ _; exact Nat.le_of_eq rfl) (hb hby at_107) (fun _ _ => ⟨rfl, e690, (by decide : 1 + 0 ≤ _), (by decide : 12 + 0 ≤ _)⟩)
  dsimp only [Pt.U, Pt.locs, Pt.cells, Pt.slots] at X691 l691 y691 z691 st691 hQ691
  have X691 := own_cs X691 1 12 y691 z691
  obtain ⟨z691, rfl, N691q, e691, lo691, up691⟩ := hQ691
  have N691 := own_N l691 N690 N691q
  refine own_k T691 110 [.int z691, .int 9, .ref b662] st691 ?_
  obtain ⟨cl692, Ar692, q692, S692, Nn692, H692, G692⟩ := id A_b662
  obtain ⟨T693, h693, X693, e693, W693, st693⟩ := stI X691 hx hZ e691 Ar692 (j := (9 : Int32)) (inb_of S692 ⟨by decide, by decide⟩) (g := (mkF mM 110 Lv663 [.int z691, .int 9, .ref b662])) rfl rfl (hb hby at_110)
  have N693 := Fr.snoc X693 N691 g_b662
  have O := O.wr W693 g_b662
  have Zn := Nat.le_trans Zn (Keep.of_wr W693).1
  have A_b662 : Arv Z h693 b662 k662 .int 12 [.int z664, .int z667, .int z670, .int z673, .int z676, .int z679, .int z682, .int z685, .int z688, .int z691, .int 0, .int 0] (.int 0) := Arv.set Ar692 q692 S692 Nn692 H692 G692 rfl W693 9 rfl (Nat.le_of_ble_eq_true rfl)
  refine own_k T693 111 [] st693 ?_
  refine o_aload 113 X693 hx (hb hby at_111) rfl rfl rfl ?_
  refine o_bipush 115 10 X693 hx (hb hby at_113) rfl rfl ?_
  refine o_lload 117 X693 hx (hb hby at_115) rfl rfl ?_
  refine o_iconst 118 2 X693 hx (hb hby at_117) rfl rfl ?_
  obtain ⟨_, _, ⟨T694, L694, k694, n694⟩, -, X694, ⟨Lc694, hQ694, l694, y694, z694⟩, st694⟩ := Jvm.LawKit.callS X693 hx (y := yn0) hown (mvT hZ (ow hw 2 rfl)) (mvT hZ (ow hw 3 rfl)) (mvT hZ (ow hw 4 rfl)) (mvT hZ (ow hw 5 rfl)) (by decide) (backOf (W := 2) (rmv lL Z a0 hw [] u3 (2 : Int32) h693 n0 ) hZ (ow hw 5 rfl) (ow hw 4 rfl) (by decide) (by decide)) (g := (mkF mM 118 Lv663 [.int 2, .long u3, .int 10, .ref b662])) rfl (by rw [hml]; rfl) (argsL := [.long u3, .int 2]) (rest := [.int 10, .ref b662]) (lenOf pd__28JI_29I rfl) rfl (by show 2 * 0 + _ ≤ _; exact Nat.le_of_eq rfl) (hb hby at_118) (fun _ _ => ⟨rfl, e693, (by decide : 1 + 0 ≤ _), (by decide : 12 + 0 ≤ _)⟩)
  dsimp only [Pt.U, Pt.locs, Pt.cells, Pt.slots] at X694 l694 y694 z694 st694 hQ694
  have X694 := own_cs X694 1 12 y694 z694
  obtain ⟨z694, rfl, N694q, e694, lo694, up694⟩ := hQ694
  have N694 := own_N l694 N693 N694q
  refine own_k T694 121 [.int z694, .int 10, .ref b662] st694 ?_
  obtain ⟨cl695, Ar695, q695, S695, Nn695, H695, G695⟩ := id A_b662
  obtain ⟨T696, h696, X696, e696, W696, st696⟩ := stI X694 hx hZ e694 Ar695 (j := (10 : Int32)) (inb_of S695 ⟨by decide, by decide⟩) (g := (mkF mM 121 Lv663 [.int z694, .int 10, .ref b662])) rfl rfl (hb hby at_121)
  have N696 := Fr.snoc X696 N694 g_b662
  have O := O.wr W696 g_b662
  have Zn := Nat.le_trans Zn (Keep.of_wr W696).1
  have A_b662 : Arv Z h696 b662 k662 .int 12 [.int z664, .int z667, .int z670, .int z673, .int z676, .int z679, .int z682, .int z685, .int z688, .int z691, .int z694, .int 0] (.int 0) := Arv.set Ar695 q695 S695 Nn695 H695 G695 rfl W696 10 rfl (Nat.le_of_ble_eq_true rfl)
  refine own_k T696 122 [] st696 ?_
  refine o_aload 124 X696 hx (hb hby at_122) rfl rfl rfl ?_
  refine o_bipush 126 11 X696 hx (hb hby at_124) rfl rfl ?_
  refine o_lload 128 X696 hx (hb hby at_126) rfl rfl ?_
  refine o_iconst 129 3 X696 hx (hb hby at_128) rfl rfl ?_
  obtain ⟨_, _, ⟨T697, L697, k697, n697⟩, -, X697, ⟨Lc697, hQ697, l697, y697, z697⟩, st697⟩ := Jvm.LawKit.callS X696 hx (y := yn0) hown (mvT hZ (ow hw 2 rfl)) (mvT hZ (ow hw 3 rfl)) (mvT hZ (ow hw 4 rfl)) (mvT hZ (ow hw 5 rfl)) (by decide) (backOf (W := 2) (rmv lL Z a0 hw [] u3 (3 : Int32) h696 n0 ) hZ (ow hw 5 rfl) (ow hw 4 rfl) (by decide) (by decide)) (g := (mkF mM 129 Lv663 [.int 3, .long u3, .int 11, .ref b662])) rfl (by rw [hml]; rfl) (argsL := [.long u3, .int 3]) (rest := [.int 11, .ref b662]) (lenOf pd__28JI_29I rfl) rfl (by show 2 * 0 + _ ≤ _; exact Nat.le_of_eq rfl) (hb hby at_129) (fun _ _ => ⟨rfl, e696, (by decide : 1 + 0 ≤ _), (by decide : 12 + 0 ≤ _)⟩)
  dsimp only [Pt.U, Pt.locs, Pt.cells, Pt.slots] at X697 l697 y697 z697 st697 hQ697
  have X697 := own_cs X697 1 12 y697 z697
  obtain ⟨z697, rfl, N697q, e697, lo697, up697⟩ := hQ697
  have N697 := own_N l697 N696 N697q
  refine own_k T697 132 [.int z697, .int 11, .ref b662] st697 ?_
  obtain ⟨cl698, Ar698, q698, S698, Nn698, H698, G698⟩ := id A_b662
  obtain ⟨T699, h699, X699, e699, W699, st699⟩ := stI X697 hx hZ e697 Ar698 (j := (11 : Int32)) (inb_of S698 ⟨by decide, by decide⟩) (g := (mkF mM 132 Lv663 [.int z697, .int 11, .ref b662])) rfl rfl (hb hby at_132)
  have N699 := Fr.snoc X699 N697 g_b662
  have O := O.wr W699 g_b662
  have Zn := Nat.le_trans Zn (Keep.of_wr W699).1
  have A_b662 : Arv Z h699 b662 k662 .int 12 [.int z664, .int z667, .int z670, .int z673, .int z676, .int z679, .int z682, .int z685, .int z688, .int z691, .int z694, .int z697] (.int 0) := Arv.set Ar698 q698 S698 Nn698 H698 G698 rfl W699 11 rfl (Nat.le_of_ble_eq_true rfl)
  refine own_k T699 133 [] st699 ?_
  refine o_bipush 135 10 X699 hx (hb hby at_133) rfl rfl ?_
  obtain ⟨T700, h700, k700, X700, e700, E700, A700, st700⟩ := newP X699 hx hZ (ow hw 6 rfl) e699 (g := (mkF mM 135 Lv663 [.int 10])) rfl (hb hby at_135) rfl (by decide) (cap := 10) (by decide) (by decide) (by decide) (by decide)
  obtain ⟨b700, g700⟩ : ∃ z, z = h699.size := ⟨_, rfl⟩
  rw [← g700] at A700 st700
  have ne_b662_b700 : b662 ≠ b700 := Nat.ne_of_lt (Nat.lt_of_lt_of_le A_b662.lt (Nat.le_of_eq g700.symm))
  have g_b700 : n0 ≤ b700 := Nat.le_trans Zn (Nat.le_of_eq g700.symm)
  have O := O.ext E700
  have A_b662 := A_b662.ext E700
  have Zn := Nat.le_trans Zn E700.1
  have A_b700 : Arv Z h700 b700 k700 .long 10 [.long 0, .long 0, .long 0, .long 0, .long 0, .long 0, .long 0, .long 0, .long 0, .long 0] (.long 0) := (Arv.new A700 (by decide)).pad (pad_rep [] (.long 0) 10)
  refine own_k T700 137 [.ref b700] st700 ?_
  refine o_dup 138 X700 hx (hb hby at_137) rfl rfl ?_
  refine o_iconst 139 0 X700 hx (hb hby at_138) rfl rfl ?_
  refine own_j 140 [.long 1, .int 0, .ref b700, .ref b700] (fun t_ k_ => XS.lconst X700.here hx rfl (hb hby at_139) k_) ?_
  obtain ⟨cl701, Ar701, q701, S701, Nn701, H701, G701⟩ := id A_b700
  obtain ⟨T702, h702, X702, e702, W702, st702⟩ := stJ X700 hx hZ e700 Ar701 (j := (0 : Int32)) (inb_of S701 ⟨by decide, by decide⟩) (g := (mkF mM 140 Lv663 [.long 1, .int 0, .ref b700, .ref b700])) rfl rfl (hb hby at_140)
  have N702 := Fr.snoc X702 N699 g_b700
  have A_b662 := A_b662.other W702 ne_b662_b700
  have O := O.wr W702 g_b700
  have Zn := Nat.le_trans Zn (Keep.of_wr W702).1
  have A_b700 : Arv Z h702 b700 k700 .long 10 [.long 1, .long 0, .long 0, .long 0, .long 0, .long 0, .long 0, .long 0, .long 0, .long 0] (.long 0) := Arv.set Ar701 q701 S701 Nn701 H701 G701 rfl W702 0 rfl (Nat.le_of_ble_eq_true rfl)
  refine own_k T702 141 [.ref b700] st702 ?_
  refine o_dup 142 X702 hx (hb hby at_141) rfl rfl ?_
  refine o_iconst 143 1 X702 hx (hb hby at_142) rfl rfl ?_
  refine own_j 146 [.long 3, .int 1, .ref b700, .ref b700] (fun t_ k_ => X702.ldc2Long hx hown (mvT hZ (ow hw 7 rfl)) (g := (mkF mM 143 Lv663 [.int 1, .ref b700, .ref b700])) rfl (hb hby at_143) t_ k_) ?_
  obtain ⟨cl703, Ar703, q703, S703, Nn703, H703, G703⟩ := id A_b700
  obtain ⟨T704, h704, X704, e704, W704, st704⟩ := stJ X702 hx hZ e702 Ar703 (j := (1 : Int32)) (inb_of S703 ⟨by decide, by decide⟩) (g := (mkF mM 146 Lv663 [.long 3, .int 1, .ref b700, .ref b700])) rfl rfl (hb hby at_146)
  have N704 := Fr.snoc X704 N702 g_b700
  have A_b662 := A_b662.other W704 ne_b662_b700
  have O := O.wr W704 g_b700
  have Zn := Nat.le_trans Zn (Keep.of_wr W704).1
  have A_b700 : Arv Z h704 b700 k700 .long 10 [.long 1, .long 3, .long 0, .long 0, .long 0, .long 0, .long 0, .long 0, .long 0, .long 0] (.long 0) := Arv.set Ar703 q703 S703 Nn703 H703 G703 rfl W704 1 rfl (Nat.le_of_ble_eq_true rfl)
  refine own_k T704 147 [.ref b700] st704 ?_
  refine o_dup 148 X704 hx (hb hby at_147) rfl rfl ?_
  refine o_iconst 149 2 X704 hx (hb hby at_148) rfl rfl ?_
  refine own_j 152 [.long 9, .int 2, .ref b700, .ref b700] (fun t_ k_ => X704.ldc2Long hx hown (mvT hZ (ow hw 8 rfl)) (g := (mkF mM 149 Lv663 [.int 2, .ref b700, .ref b700])) rfl (hb hby at_149) t_ k_) ?_
  obtain ⟨cl705, Ar705, q705, S705, Nn705, H705, G705⟩ := id A_b700
  obtain ⟨T706, h706, X706, e706, W706, st706⟩ := stJ X704 hx hZ e704 Ar705 (j := (2 : Int32)) (inb_of S705 ⟨by decide, by decide⟩) (g := (mkF mM 152 Lv663 [.long 9, .int 2, .ref b700, .ref b700])) rfl rfl (hb hby at_152)
  have N706 := Fr.snoc X706 N704 g_b700
  have A_b662 := A_b662.other W706 ne_b662_b700
  have O := O.wr W706 g_b700
  have Zn := Nat.le_trans Zn (Keep.of_wr W706).1
  have A_b700 : Arv Z h706 b700 k700 .long 10 [.long 1, .long 3, .long 9, .long 0, .long 0, .long 0, .long 0, .long 0, .long 0, .long 0] (.long 0) := Arv.set Ar705 q705 S705 Nn705 H705 G705 rfl W706 2 rfl (Nat.le_of_ble_eq_true rfl)
  refine own_k T706 153 [.ref b700] st706 ?_
  refine o_dup 154 X706 hx (hb hby at_153) rfl rfl ?_
  refine o_iconst 155 3 X706 hx (hb hby at_154) rfl rfl ?_
  refine own_j 158 [.long 27, .int 3, .ref b700, .ref b700] (fun t_ k_ => X706.ldc2Long hx hown (mvT hZ (ow hw 9 rfl)) (g := (mkF mM 155 Lv663 [.int 3, .ref b700, .ref b700])) rfl (hb hby at_155) t_ k_) ?_
  obtain ⟨cl707, Ar707, q707, S707, Nn707, H707, G707⟩ := id A_b700
  obtain ⟨T708, h708, X708, e708, W708, st708⟩ := stJ X706 hx hZ e706 Ar707 (j := (3 : Int32)) (inb_of S707 ⟨by decide, by decide⟩) (g := (mkF mM 158 Lv663 [.long 27, .int 3, .ref b700, .ref b700])) rfl rfl (hb hby at_158)
  have N708 := Fr.snoc X708 N706 g_b700
  have A_b662 := A_b662.other W708 ne_b662_b700
  have O := O.wr W708 g_b700
  have Zn := Nat.le_trans Zn (Keep.of_wr W708).1
  have A_b700 : Arv Z h708 b700 k700 .long 10 [.long 1, .long 3, .long 9, .long 27, .long 0, .long 0, .long 0, .long 0, .long 0, .long 0] (.long 0) := Arv.set Ar707 q707 S707 Nn707 H707 G707 rfl W708 3 rfl (Nat.le_of_ble_eq_true rfl)
  refine own_k T708 159 [.ref b700] st708 ?_
  refine o_dup 160 X708 hx (hb hby at_159) rfl rfl ?_
  refine o_iconst 161 4 X708 hx (hb hby at_160) rfl rfl ?_
  refine own_j 164 [.long 81, .int 4, .ref b700, .ref b700] (fun t_ k_ => X708.ldc2Long hx hown (mvT hZ (ow hw 10 rfl)) (g := (mkF mM 161 Lv663 [.int 4, .ref b700, .ref b700])) rfl (hb hby at_161) t_ k_) ?_
  obtain ⟨cl709, Ar709, q709, S709, Nn709, H709, G709⟩ := id A_b700
  obtain ⟨T710, h710, X710, e710, W710, st710⟩ := stJ X708 hx hZ e708 Ar709 (j := (4 : Int32)) (inb_of S709 ⟨by decide, by decide⟩) (g := (mkF mM 164 Lv663 [.long 81, .int 4, .ref b700, .ref b700])) rfl rfl (hb hby at_164)
  have N710 := Fr.snoc X710 N708 g_b700
  have A_b662 := A_b662.other W710 ne_b662_b700
  have O := O.wr W710 g_b700
  have Zn := Nat.le_trans Zn (Keep.of_wr W710).1
  have A_b700 : Arv Z h710 b700 k700 .long 10 [.long 1, .long 3, .long 9, .long 27, .long 81, .long 0, .long 0, .long 0, .long 0, .long 0] (.long 0) := Arv.set Ar709 q709 S709 Nn709 H709 G709 rfl W710 4 rfl (Nat.le_of_ble_eq_true rfl)
  refine own_k T710 165 [.ref b700] st710 ?_
  refine o_dup 166 X710 hx (hb hby at_165) rfl rfl ?_
  refine o_iconst 167 5 X710 hx (hb hby at_166) rfl rfl ?_
  refine own_j 170 [.long 243, .int 5, .ref b700, .ref b700] (fun t_ k_ => X710.ldc2Long hx hown (mvT hZ (ow hw 11 rfl)) (g := (mkF mM 167 Lv663 [.int 5, .ref b700, .ref b700])) rfl (hb hby at_167) t_ k_) ?_
  obtain ⟨cl711, Ar711, q711, S711, Nn711, H711, G711⟩ := id A_b700
  obtain ⟨T712, h712, X712, e712, W712, st712⟩ := stJ X710 hx hZ e710 Ar711 (j := (5 : Int32)) (inb_of S711 ⟨by decide, by decide⟩) (g := (mkF mM 170 Lv663 [.long 243, .int 5, .ref b700, .ref b700])) rfl rfl (hb hby at_170)
  have N712 := Fr.snoc X712 N710 g_b700
  have A_b662 := A_b662.other W712 ne_b662_b700
  have O := O.wr W712 g_b700
  have Zn := Nat.le_trans Zn (Keep.of_wr W712).1
  have A_b700 : Arv Z h712 b700 k700 .long 10 [.long 1, .long 3, .long 9, .long 27, .long 81, .long 243, .long 0, .long 0, .long 0, .long 0] (.long 0) := Arv.set Ar711 q711 S711 Nn711 H711 G711 rfl W712 5 rfl (Nat.le_of_ble_eq_true rfl)
  refine own_k T712 171 [.ref b700] st712 ?_
  refine o_dup 172 X712 hx (hb hby at_171) rfl rfl ?_
  refine o_bipush 174 6 X712 hx (hb hby at_172) rfl rfl ?_
  refine own_j 177 [.long 729, .int 6, .ref b700, .ref b700] (fun t_ k_ => X712.ldc2Long hx hown (mvT hZ (ow hw 12 rfl)) (g := (mkF mM 174 Lv663 [.int 6, .ref b700, .ref b700])) rfl (hb hby at_174) t_ k_) ?_
  obtain ⟨cl713, Ar713, q713, S713, Nn713, H713, G713⟩ := id A_b700
  obtain ⟨T714, h714, X714, e714, W714, st714⟩ := stJ X712 hx hZ e712 Ar713 (j := (6 : Int32)) (inb_of S713 ⟨by decide, by decide⟩) (g := (mkF mM 177 Lv663 [.long 729, .int 6, .ref b700, .ref b700])) rfl rfl (hb hby at_177)
  have N714 := Fr.snoc X714 N712 g_b700
  have A_b662 := A_b662.other W714 ne_b662_b700
  have O := O.wr W714 g_b700
  have Zn := Nat.le_trans Zn (Keep.of_wr W714).1
  have A_b700 : Arv Z h714 b700 k700 .long 10 [.long 1, .long 3, .long 9, .long 27, .long 81, .long 243, .long 729, .long 0, .long 0, .long 0] (.long 0) := Arv.set Ar713 q713 S713 Nn713 H713 G713 rfl W714 6 rfl (Nat.le_of_ble_eq_true rfl)
  refine own_k T714 178 [.ref b700] st714 ?_
  refine o_dup 179 X714 hx (hb hby at_178) rfl rfl ?_
  refine o_bipush 181 7 X714 hx (hb hby at_179) rfl rfl ?_
  refine own_j 184 [.long 2187, .int 7, .ref b700, .ref b700] (fun t_ k_ => X714.ldc2Long hx hown (mvT hZ (ow hw 13 rfl)) (g := (mkF mM 181 Lv663 [.int 7, .ref b700, .ref b700])) rfl (hb hby at_181) t_ k_) ?_
  obtain ⟨cl715, Ar715, q715, S715, Nn715, H715, G715⟩ := id A_b700
  obtain ⟨T716, h716, X716, e716, W716, st716⟩ := stJ X714 hx hZ e714 Ar715 (j := (7 : Int32)) (inb_of S715 ⟨by decide, by decide⟩) (g := (mkF mM 184 Lv663 [.long 2187, .int 7, .ref b700, .ref b700])) rfl rfl (hb hby at_184)
  have N716 := Fr.snoc X716 N714 g_b700
  have A_b662 := A_b662.other W716 ne_b662_b700
  have O := O.wr W716 g_b700
  have Zn := Nat.le_trans Zn (Keep.of_wr W716).1
  have A_b700 : Arv Z h716 b700 k700 .long 10 [.long 1, .long 3, .long 9, .long 27, .long 81, .long 243, .long 729, .long 2187, .long 0, .long 0] (.long 0) := Arv.set Ar715 q715 S715 Nn715 H715 G715 rfl W716 7 rfl (Nat.le_of_ble_eq_true rfl)
  refine own_k T716 185 [.ref b700] st716 ?_
  refine o_dup 186 X716 hx (hb hby at_185) rfl rfl ?_
  refine o_bipush 188 8 X716 hx (hb hby at_186) rfl rfl ?_
  refine own_j 191 [.long 6561, .int 8, .ref b700, .ref b700] (fun t_ k_ => X716.ldc2Long hx hown (mvT hZ (ow hw 14 rfl)) (g := (mkF mM 188 Lv663 [.int 8, .ref b700, .ref b700])) rfl (hb hby at_188) t_ k_) ?_
  obtain ⟨cl717, Ar717, q717, S717, Nn717, H717, G717⟩ := id A_b700
  obtain ⟨T718, h718, X718, e718, W718, st718⟩ := stJ X716 hx hZ e716 Ar717 (j := (8 : Int32)) (inb_of S717 ⟨by decide, by decide⟩) (g := (mkF mM 191 Lv663 [.long 6561, .int 8, .ref b700, .ref b700])) rfl rfl (hb hby at_191)
  have N718 := Fr.snoc X718 N716 g_b700
  have A_b662 := A_b662.other W718 ne_b662_b700
  have O := O.wr W718 g_b700
  have Zn := Nat.le_trans Zn (Keep.of_wr W718).1
  have A_b700 : Arv Z h718 b700 k700 .long 10 [.long 1, .long 3, .long 9, .long 27, .long 81, .long 243, .long 729, .long 2187, .long 6561, .long 0] (.long 0) := Arv.set Ar717 q717 S717 Nn717 H717 G717 rfl W718 8 rfl (Nat.le_of_ble_eq_true rfl)
  refine own_k T718 192 [.ref b700] st718 ?_
  refine o_dup 193 X718 hx (hb hby at_192) rfl rfl ?_
  refine o_bipush 195 9 X718 hx (hb hby at_193) rfl rfl ?_
  refine own_j 198 [.long 19683, .int 9, .ref b700, .ref b700] (fun t_ k_ => X718.ldc2Long hx hown (mvT hZ (ow hw 15 rfl)) (g := (mkF mM 195 Lv663 [.int 9, .ref b700, .ref b700])) rfl (hb hby at_195) t_ k_) ?_
  obtain ⟨cl719, Ar719, q719, S719, Nn719, H719, G719⟩ := id A_b700
  obtain ⟨T720, h720, X720, e720, W720, st720⟩ := stJ X718 hx hZ e718 Ar719 (j := (9 : Int32)) (inb_of S719 ⟨by decide, by decide⟩) (g := (mkF mM 198 Lv663 [.long 19683, .int 9, .ref b700, .ref b700])) rfl rfl (hb hby at_198)
  have N720 := Fr.snoc X720 N718 g_b700
  have A_b662 := A_b662.other W720 ne_b662_b700
  have O := O.wr W720 g_b700
  have Zn := Nat.le_trans Zn (Keep.of_wr W720).1
  have A_b700 : Arv Z h720 b700 k700 .long 10 [.long 1, .long 3, .long 9, .long 27, .long 81, .long 243, .long 729, .long 2187, .long 6561, .long 19683] (.long 0) := Arv.set Ar719 q719 S719 Nn719 H719 G719 rfl W720 9 rfl (Nat.le_of_ble_eq_true rfl)
  refine own_k T720 199 [.ref b700] st720 ?_
  let Lv721 : Array Slot := #[.val (.int u0), .val (.long u1), .second, .val (.long u2), .second, .val (.long u3), .second, .val (.int nn), .val (.ref b662), .val (.ref b700), .unset, .unset, .unset, .unset, .unset, .unset, .unset]
  refine own_st (A := T720.setTop (mkF mM 201 Lv721 [])) (fun t_ k_ => XS.astore X720.here hx rfl (hb hby at_199) rfl rfl (l' := Lv721) rfl k_) ?_
  refine o_bipush 203 10 X720 hx (hb hby at_201) rfl rfl ?_
  obtain ⟨T722, h722, k722, X722, e722, E722, A722, st722⟩ := newP X720 hx hZ (ow hw 6 rfl) e720 (g := (mkF mM 203 Lv721 [.int 10])) rfl (hb hby at_203) rfl (by decide) (cap := 10) (by decide) (by decide) (by decide) (by decide)
  obtain ⟨b722, g722⟩ : ∃ z, z = h720.size := ⟨_, rfl⟩
  rw [← g722] at A722 st722
  have ne_b662_b722 : b662 ≠ b722 := Nat.ne_of_lt (Nat.lt_of_lt_of_le A_b662.lt (Nat.le_of_eq g722.symm))
  have ne_b700_b722 : b700 ≠ b722 := Nat.ne_of_lt (Nat.lt_of_lt_of_le A_b700.lt (Nat.le_of_eq g722.symm))
  have g_b722 : n0 ≤ b722 := Nat.le_trans Zn (Nat.le_of_eq g722.symm)
  have O := O.ext E722
  have A_b662 := A_b662.ext E722
  have A_b700 := A_b700.ext E722
  have Zn := Nat.le_trans Zn E722.1
  have A_b722 : Arv Z h722 b722 k722 .long 10 [.long 0, .long 0, .long 0, .long 0, .long 0, .long 0, .long 0, .long 0, .long 0, .long 0] (.long 0) := (Arv.new A722 (by decide)).pad (pad_rep [] (.long 0) 10)
  refine own_k T722 205 [.ref b722] st722 ?_
  refine o_dup 206 X722 hx (hb hby at_205) rfl rfl ?_
  refine o_iconst 207 0 X722 hx (hb hby at_206) rfl rfl ?_
  refine own_j 208 [.long 1, .int 0, .ref b722, .ref b722] (fun t_ k_ => XS.lconst X722.here hx rfl (hb hby at_207) k_) ?_
  obtain ⟨cl723, Ar723, q723, S723, Nn723, H723, G723⟩ := id A_b722
  obtain ⟨T724, h724, X724, e724, W724, st724⟩ := stJ X722 hx hZ e722 Ar723 (j := (0 : Int32)) (inb_of S723 ⟨by decide, by decide⟩) (g := (mkF mM 208 Lv721 [.long 1, .int 0, .ref b722, .ref b722])) rfl rfl (hb hby at_208)
  have N724 := Fr.snoc X724 N720 g_b722
  have A_b662 := A_b662.other W724 ne_b662_b722
  have A_b700 := A_b700.other W724 ne_b700_b722
  have O := O.wr W724 g_b722
  have Zn := Nat.le_trans Zn (Keep.of_wr W724).1
  have A_b722 : Arv Z h724 b722 k722 .long 10 [.long 1, .long 0, .long 0, .long 0, .long 0, .long 0, .long 0, .long 0, .long 0, .long 0] (.long 0) := Arv.set Ar723 q723 S723 Nn723 H723 G723 rfl W724 0 rfl (Nat.le_of_ble_eq_true rfl)
  refine own_k T724 209 [.ref b722] st724 ?_
  refine o_dup 210 X724 hx (hb hby at_209) rfl rfl ?_
  refine o_iconst 211 1 X724 hx (hb hby at_210) rfl rfl ?_
  refine own_j 214 [.long 4, .int 1, .ref b722, .ref b722] (fun t_ k_ => X724.ldc2Long hx hown (mvT hZ (ow hw 16 rfl)) (g := (mkF mM 211 Lv721 [.int 1, .ref b722, .ref b722])) rfl (hb hby at_211) t_ k_) ?_
  obtain ⟨cl725, Ar725, q725, S725, Nn725, H725, G725⟩ := id A_b722
  obtain ⟨T726, h726, X726, e726, W726, st726⟩ := stJ X724 hx hZ e724 Ar725 (j := (1 : Int32)) (inb_of S725 ⟨by decide, by decide⟩) (g := (mkF mM 214 Lv721 [.long 4, .int 1, .ref b722, .ref b722])) rfl rfl (hb hby at_214)
  have N726 := Fr.snoc X726 N724 g_b722
  have A_b662 := A_b662.other W726 ne_b662_b722
  have A_b700 := A_b700.other W726 ne_b700_b722
  have O := O.wr W726 g_b722
  have Zn := Nat.le_trans Zn (Keep.of_wr W726).1
  have A_b722 : Arv Z h726 b722 k722 .long 10 [.long 1, .long 4, .long 0, .long 0, .long 0, .long 0, .long 0, .long 0, .long 0, .long 0] (.long 0) := Arv.set Ar725 q725 S725 Nn725 H725 G725 rfl W726 1 rfl (Nat.le_of_ble_eq_true rfl)
  refine own_k T726 215 [.ref b722] st726 ?_
  refine o_dup 216 X726 hx (hb hby at_215) rfl rfl ?_
  refine o_iconst 217 2 X726 hx (hb hby at_216) rfl rfl ?_
  refine own_j 220 [.long 16, .int 2, .ref b722, .ref b722] (fun t_ k_ => X726.ldc2Long hx hown (mvT hZ (ow hw 17 rfl)) (g := (mkF mM 217 Lv721 [.int 2, .ref b722, .ref b722])) rfl (hb hby at_217) t_ k_) ?_
  obtain ⟨cl727, Ar727, q727, S727, Nn727, H727, G727⟩ := id A_b722
  obtain ⟨T728, h728, X728, e728, W728, st728⟩ := stJ X726 hx hZ e726 Ar727 (j := (2 : Int32)) (inb_of S727 ⟨by decide, by decide⟩) (g := (mkF mM 220 Lv721 [.long 16, .int 2, .ref b722, .ref b722])) rfl rfl (hb hby at_220)
  have N728 := Fr.snoc X728 N726 g_b722
  have A_b662 := A_b662.other W728 ne_b662_b722
  have A_b700 := A_b700.other W728 ne_b700_b722
  have O := O.wr W728 g_b722
  have Zn := Nat.le_trans Zn (Keep.of_wr W728).1
  have A_b722 : Arv Z h728 b722 k722 .long 10 [.long 1, .long 4, .long 16, .long 0, .long 0, .long 0, .long 0, .long 0, .long 0, .long 0] (.long 0) := Arv.set Ar727 q727 S727 Nn727 H727 G727 rfl W728 2 rfl (Nat.le_of_ble_eq_true rfl)
  refine own_k T728 221 [.ref b722] st728 ?_
  refine o_dup 222 X728 hx (hb hby at_221) rfl rfl ?_
  refine o_iconst 223 3 X728 hx (hb hby at_222) rfl rfl ?_
  refine own_j 226 [.long 64, .int 3, .ref b722, .ref b722] (fun t_ k_ => X728.ldc2Long hx hown (mvT hZ (ow hw 18 rfl)) (g := (mkF mM 223 Lv721 [.int 3, .ref b722, .ref b722])) rfl (hb hby at_223) t_ k_) ?_
  obtain ⟨cl729, Ar729, q729, S729, Nn729, H729, G729⟩ := id A_b722
  obtain ⟨T730, h730, X730, e730, W730, st730⟩ := stJ X728 hx hZ e728 Ar729 (j := (3 : Int32)) (inb_of S729 ⟨by decide, by decide⟩) (g := (mkF mM 226 Lv721 [.long 64, .int 3, .ref b722, .ref b722])) rfl rfl (hb hby at_226)
  have N730 := Fr.snoc X730 N728 g_b722
  have A_b662 := A_b662.other W730 ne_b662_b722
  have A_b700 := A_b700.other W730 ne_b700_b722
  have O := O.wr W730 g_b722
  have Zn := Nat.le_trans Zn (Keep.of_wr W730).1
  have A_b722 : Arv Z h730 b722 k722 .long 10 [.long 1, .long 4, .long 16, .long 64, .long 0, .long 0, .long 0, .long 0, .long 0, .long 0] (.long 0) := Arv.set Ar729 q729 S729 Nn729 H729 G729 rfl W730 3 rfl (Nat.le_of_ble_eq_true rfl)
  refine own_k T730 227 [.ref b722] st730 ?_
  refine o_dup 228 X730 hx (hb hby at_227) rfl rfl ?_
  refine o_iconst 229 4 X730 hx (hb hby at_228) rfl rfl ?_
  refine own_j 232 [.long 256, .int 4, .ref b722, .ref b722] (fun t_ k_ => X730.ldc2Long hx hown (mvT hZ (ow hw 19 rfl)) (g := (mkF mM 229 Lv721 [.int 4, .ref b722, .ref b722])) rfl (hb hby at_229) t_ k_) ?_
  obtain ⟨cl731, Ar731, q731, S731, Nn731, H731, G731⟩ := id A_b722
  obtain ⟨T732, h732, X732, e732, W732, st732⟩ := stJ X730 hx hZ e730 Ar731 (j := (4 : Int32)) (inb_of S731 ⟨by decide, by decide⟩) (g := (mkF mM 232 Lv721 [.long 256, .int 4, .ref b722, .ref b722])) rfl rfl (hb hby at_232)
  have N732 := Fr.snoc X732 N730 g_b722
  have A_b662 := A_b662.other W732 ne_b662_b722
  have A_b700 := A_b700.other W732 ne_b700_b722
  have O := O.wr W732 g_b722
  have Zn := Nat.le_trans Zn (Keep.of_wr W732).1
  have A_b722 : Arv Z h732 b722 k722 .long 10 [.long 1, .long 4, .long 16, .long 64, .long 256, .long 0, .long 0, .long 0, .long 0, .long 0] (.long 0) := Arv.set Ar731 q731 S731 Nn731 H731 G731 rfl W732 4 rfl (Nat.le_of_ble_eq_true rfl)
  refine own_k T732 233 [.ref b722] st732 ?_
  refine o_dup 234 X732 hx (hb hby at_233) rfl rfl ?_
  refine o_iconst 235 5 X732 hx (hb hby at_234) rfl rfl ?_
  refine own_j 238 [.long 1024, .int 5, .ref b722, .ref b722] (fun t_ k_ => X732.ldc2Long hx hown (mvT hZ (ow hw 20 rfl)) (g := (mkF mM 235 Lv721 [.int 5, .ref b722, .ref b722])) rfl (hb hby at_235) t_ k_) ?_
  obtain ⟨cl733, Ar733, q733, S733, Nn733, H733, G733⟩ := id A_b722
  obtain ⟨T734, h734, X734, e734, W734, st734⟩ := stJ X732 hx hZ e732 Ar733 (j := (5 : Int32)) (inb_of S733 ⟨by decide, by decide⟩) (g := (mkF mM 238 Lv721 [.long 1024, .int 5, .ref b722, .ref b722])) rfl rfl (hb hby at_238)
  have N734 := Fr.snoc X734 N732 g_b722
  have A_b662 := A_b662.other W734 ne_b662_b722
  have A_b700 := A_b700.other W734 ne_b700_b722
  have O := O.wr W734 g_b722
  have Zn := Nat.le_trans Zn (Keep.of_wr W734).1
  have A_b722 : Arv Z h734 b722 k722 .long 10 [.long 1, .long 4, .long 16, .long 64, .long 256, .long 1024, .long 0, .long 0, .long 0, .long 0] (.long 0) := Arv.set Ar733 q733 S733 Nn733 H733 G733 rfl W734 5 rfl (Nat.le_of_ble_eq_true rfl)
  refine own_k T734 239 [.ref b722] st734 ?_
  refine o_dup 240 X734 hx (hb hby at_239) rfl rfl ?_
  refine o_bipush 242 6 X734 hx (hb hby at_240) rfl rfl ?_
  refine own_j 245 [.long 4096, .int 6, .ref b722, .ref b722] (fun t_ k_ => X734.ldc2Long hx hown (mvT hZ (ow hw 21 rfl)) (g := (mkF mM 242 Lv721 [.int 6, .ref b722, .ref b722])) rfl (hb hby at_242) t_ k_) ?_
  obtain ⟨cl735, Ar735, q735, S735, Nn735, H735, G735⟩ := id A_b722
  obtain ⟨T736, h736, X736, e736, W736, st736⟩ := stJ X734 hx hZ e734 Ar735 (j := (6 : Int32)) (inb_of S735 ⟨by decide, by decide⟩) (g := (mkF mM 245 Lv721 [.long 4096, .int 6, .ref b722, .ref b722])) rfl rfl (hb hby at_245)
  have N736 := Fr.snoc X736 N734 g_b722
  have A_b662 := A_b662.other W736 ne_b662_b722
  have A_b700 := A_b700.other W736 ne_b700_b722
  have O := O.wr W736 g_b722
  have Zn := Nat.le_trans Zn (Keep.of_wr W736).1
  have A_b722 : Arv Z h736 b722 k722 .long 10 [.long 1, .long 4, .long 16, .long 64, .long 256, .long 1024, .long 4096, .long 0, .long 0, .long 0] (.long 0) := Arv.set Ar735 q735 S735 Nn735 H735 G735 rfl W736 6 rfl (Nat.le_of_ble_eq_true rfl)
  refine own_k T736 246 [.ref b722] st736 ?_
  refine o_dup 247 X736 hx (hb hby at_246) rfl rfl ?_
  refine o_bipush 249 7 X736 hx (hb hby at_247) rfl rfl ?_
  refine own_j 252 [.long 16384, .int 7, .ref b722, .ref b722] (fun t_ k_ => X736.ldc2Long hx hown (mvT hZ (ow hw 22 rfl)) (g := (mkF mM 249 Lv721 [.int 7, .ref b722, .ref b722])) rfl (hb hby at_249) t_ k_) ?_
  obtain ⟨cl737, Ar737, q737, S737, Nn737, H737, G737⟩ := id A_b722
  obtain ⟨T738, h738, X738, e738, W738, st738⟩ := stJ X736 hx hZ e736 Ar737 (j := (7 : Int32)) (inb_of S737 ⟨by decide, by decide⟩) (g := (mkF mM 252 Lv721 [.long 16384, .int 7, .ref b722, .ref b722])) rfl rfl (hb hby at_252)
  have N738 := Fr.snoc X738 N736 g_b722
  have A_b662 := A_b662.other W738 ne_b662_b722
  have A_b700 := A_b700.other W738 ne_b700_b722
  have O := O.wr W738 g_b722
  have Zn := Nat.le_trans Zn (Keep.of_wr W738).1
  have A_b722 : Arv Z h738 b722 k722 .long 10 [.long 1, .long 4, .long 16, .long 64, .long 256, .long 1024, .long 4096, .long 16384, .long 0, .long 0] (.long 0) := Arv.set Ar737 q737 S737 Nn737 H737 G737 rfl W738 7 rfl (Nat.le_of_ble_eq_true rfl)
  refine own_k T738 253 [.ref b722] st738 ?_
  refine o_dup 254 X738 hx (hb hby at_253) rfl rfl ?_
  refine o_bipush 256 8 X738 hx (hb hby at_254) rfl rfl ?_
  refine own_j 259 [.long 65536, .int 8, .ref b722, .ref b722] (fun t_ k_ => X738.ldc2Long hx hown (mvT hZ (ow hw 23 rfl)) (g := (mkF mM 256 Lv721 [.int 8, .ref b722, .ref b722])) rfl (hb hby at_256) t_ k_) ?_
  obtain ⟨cl739, Ar739, q739, S739, Nn739, H739, G739⟩ := id A_b722
  obtain ⟨T740, h740, X740, e740, W740, st740⟩ := stJ X738 hx hZ e738 Ar739 (j := (8 : Int32)) (inb_of S739 ⟨by decide, by decide⟩) (g := (mkF mM 259 Lv721 [.long 65536, .int 8, .ref b722, .ref b722])) rfl rfl (hb hby at_259)
  have N740 := Fr.snoc X740 N738 g_b722
  have A_b662 := A_b662.other W740 ne_b662_b722
  have A_b700 := A_b700.other W740 ne_b700_b722
  have O := O.wr W740 g_b722
  have Zn := Nat.le_trans Zn (Keep.of_wr W740).1
  have A_b722 : Arv Z h740 b722 k722 .long 10 [.long 1, .long 4, .long 16, .long 64, .long 256, .long 1024, .long 4096, .long 16384, .long 65536, .long 0] (.long 0) := Arv.set Ar739 q739 S739 Nn739 H739 G739 rfl W740 8 rfl (Nat.le_of_ble_eq_true rfl)
  refine own_k T740 260 [.ref b722] st740 ?_
  refine o_dup 261 X740 hx (hb hby at_260) rfl rfl ?_
  refine o_bipush 263 9 X740 hx (hb hby at_261) rfl rfl ?_
  refine own_j 266 [.long 262144, .int 9, .ref b722, .ref b722] (fun t_ k_ => X740.ldc2Long hx hown (mvT hZ (ow hw 24 rfl)) (g := (mkF mM 263 Lv721 [.int 9, .ref b722, .ref b722])) rfl (hb hby at_263) t_ k_) ?_
  obtain ⟨cl741, Ar741, q741, S741, Nn741, H741, G741⟩ := id A_b722
  obtain ⟨T742, h742, X742, e742, W742, st742⟩ := stJ X740 hx hZ e740 Ar741 (j := (9 : Int32)) (inb_of S741 ⟨by decide, by decide⟩) (g := (mkF mM 266 Lv721 [.long 262144, .int 9, .ref b722, .ref b722])) rfl rfl (hb hby at_266)
  have N742 := Fr.snoc X742 N740 g_b722
  have A_b662 := A_b662.other W742 ne_b662_b722
  have A_b700 := A_b700.other W742 ne_b700_b722
  have O := O.wr W742 g_b722
  have Zn := Nat.le_trans Zn (Keep.of_wr W742).1
  have A_b722 : Arv Z h742 b722 k722 .long 10 [.long 1, .long 4, .long 16, .long 64, .long 256, .long 1024, .long 4096, .long 16384, .long 65536, .long 262144] (.long 0) := Arv.set Ar741 q741 S741 Nn741 H741 G741 rfl W742 9 rfl (Nat.le_of_ble_eq_true rfl)
  refine own_k T742 267 [.ref b722] st742 ?_
  let Lv743 : Array Slot := #[.val (.int u0), .val (.long u1), .second, .val (.long u2), .second, .val (.long u3), .second, .val (.int nn), .val (.ref b662), .val (.ref b700), .val (.ref b722), .unset, .unset, .unset, .unset, .unset, .unset]
  refine own_st (A := T742.setTop (mkF mM 269 Lv743 [])) (fun t_ k_ => XS.astore X742.here hx rfl (hb hby at_267) rfl rfl (l' := Lv743) rfl k_) ?_
  obtain ⟨T744, h744, X744, e744, E744, A744, D744, -, st744⟩ := newO X742 hx hZ hown (ow hw 25 rfl) (ow hw 26 rfl) (ow hw 27 rfl) e742 (g := (mkF mM 269 Lv743 [])) rfl (hb hby at_269) (by decide) (by decide)
  obtain ⟨b744, g744⟩ : ∃ z, z = h742.size := ⟨_, rfl⟩
  rw [← g744] at A744 D744 st744
  have ne_b662_b744 : b662 ≠ b744 := Nat.ne_of_lt (Nat.lt_of_lt_of_le A_b662.lt (Nat.le_of_eq g744.symm))
  have ne_b700_b744 : b700 ≠ b744 := Nat.ne_of_lt (Nat.lt_of_lt_of_le A_b700.lt (Nat.le_of_eq g744.symm))
  have ne_b722_b744 : b722 ≠ b744 := Nat.ne_of_lt (Nat.lt_of_lt_of_le A_b722.lt (Nat.le_of_eq g744.symm))
  have g_b744 : n0 ≤ b744 := Nat.le_trans Zn (Nat.le_of_eq g744.symm)
  have O := O.ext E744
  have A_b662 := A_b662.ext E744
  have A_b700 := A_b700.ext E744
  have A_b722 := A_b722.ext E744
  have Zn := Nat.le_trans Zn E744.1
  have E_b744 := A744
  have F_b744_values : Fld Z h744 b744 "com/example/gleanwork/gleanwork/schedule/RecentAverage" "values" "[D" .null := D744 (Or.inr (ow hw 36 rfl)) (ty := (.array .double)) (by decide)
  have F_b744_count : Fld Z h744 b744 "com/example/gleanwork/gleanwork/schedule/RecentAverage" "count" "I" (.int 0) := D744 (Or.inl (ow hw 47 rfl)) (ty := .int) (by decide)
  have F_b744_oldest : Fld Z h744 b744 "com/example/gleanwork/gleanwork/schedule/RecentAverage" "oldest" "I" (.int 0) := D744 (Or.inl (ow hw 71 rfl)) (ty := .int) (by decide)
  have F_b744_average : Fld Z h744 b744 "com/example/gleanwork/gleanwork/schedule/RecentAverage" "average" "D" (.double 0) := D744 (Or.inl (ow hw 73 rfl)) (ty := .double) (by decide)
  refine own_k T744 272 [.ref b744] st744 ?_
  refine o_dup 273 X744 hx (hb hby at_272) rfl rfl ?_
  obtain ⟨_, _, ⟨T745, L745, k745, n745⟩, -, X745, ⟨Lc745, hQ745, l745, y745, z745⟩, st745⟩ := X744.specialBack hx (y := yn1) rfl hown (mvT hZ (ow hw 28 rfl)) (mvT hZ (ow hw 29 rfl)) (mvT hZ (ow hw 30 rfl)) (by decide) (backOf (W := 1) (rmI lL Z a0 hw [] b744 h744 n0 g_b744 E_b744 F_b744_values F_b744_count F_b744_oldest F_b744_average Zn) hZ (ow hw 30 rfl) (ow hw 27 rfl) (by decide) (by decide)) (g := (mkF mM 273 Lv743 [.ref b744, .ref b744])) rfl (by rw [hml]; rfl) (Steps.refl _) (a := b744) (argsL := []) (rest := [.ref b744]) (lenOf pd__28_29V rfl) rfl (by show 2 * 0 + _ ≤ _; exact Nat.le_of_eq rfl) (hb hby at_273) (fun _ _ => ⟨rfl, e744, (by decide : 4 + 1 ≤ _), (by decide : 36 + 10 ≤ _)⟩)
  dsimp only [Pt.U, Pt.locs, Pt.cells, Pt.slots] at X745 l745 y745 z745 st745 hQ745
  have X745 := own_cs X745 5 46 y745 z745
  obtain ⟨d745, k745', rfl, N745q, K745, ra, ge745⟩ := hQ745
  have N745 := own_N l745 N742 N745q
  have e745 : T745.heap = T745.heap := rfl
  refine own_k T745 276 [.ref b744] (fun t_ k_ => st745.trans k_) ?_
  have ne_b662_d745 : b662 ≠ d745 := Nat.ne_of_lt (Nat.lt_of_lt_of_le A_b662.lt ge745)
  have ne_b700_d745 : b700 ≠ d745 := Nat.ne_of_lt (Nat.lt_of_lt_of_le A_b700.lt ge745)
  have ne_b722_d745 : b722 ≠ d745 := Nat.ne_of_lt (Nat.lt_of_lt_of_le A_b722.lt ge745)
  have ne_b744_d745 : b744 ≠ d745 := Nat.ne_of_lt (Nat.lt_of_lt_of_le E_b744.lt ge745)
  have g_d745 : n0 ≤ d745 := Nat.le_trans Zn ge745
  have E_b744 := E_b744.keep K745
  have A_b662 := A_b662.keep K745 (ninS ne_b662_b744 nin0)
  have A_b700 := A_b700.keep K745 (ninS ne_b700_b744 nin0)
  have A_b722 := A_b722.keep K745 (ninS ne_b722_b744 nin0)
  have O := O.keep K745 (allS g_b744 all0)
  have Zn := Nat.le_trans Zn K745.1
  let Lv746 : Array Slot := #[.val (.int u0), .val (.long u1), .second, .val (.long u2), .second, .val (.long u3), .second, .val (.int nn), .val (.ref b662), .val (.ref b700), .val (.ref b722), .val (.ref b744), .unset, .unset, .unset, .unset, .unset]
  refine own_st (A := T745.setTop (mkF mM 278 Lv746 [])) (fun t_ k_ => XS.astore X745.here hx rfl (hb hby at_276) rfl rfl (l' := Lv746) rfl k_) ?_
  exact J278 hw (X745.more (by decide) (by decide)) hx hZ hby hml hown hlk hret e745 N745 u0 u1 u2 u3 nn z664 z667 z670 z673 z676 z679 z682 z685 z688 z691 z694 z697 b662 k662 b700 k700 b722 k722 b744 d745 k745' em O Zn g_b744 g_d745 A_b662 A_b700 A_b722 ne_b662_b744 ne_b662_d745 ne_b700_b744 ne_b700_d745 ne_b722_b744 ne_b722_d745 ne_b744_d745 ra S_em E_em F_em lo664 lo667 lo670 lo673 lo676 lo679 lo682 lo685 lo688 lo691 lo694 lo697 up664 up667 up670 up673 up676 up679 up682 up685 up688 up691 up694 up697 (by rw [hnn]; exact own_mod13 u0)
theorem comes_1 {Post : Tables → Env → Array Value → State → Outcome → State → Prop} (hpost : ∀ tb e args s v u, (limb_1_1.after args s (.returned v) u = true ∧ limb_1_2.after args s (.returned v) u = true ∧ True) → FrameEnd s (.returned v) u (Jvm.fieldLocs frame_1_writes args s ++ Jvm.arrayLocs frame_1_arrays args s ++ Jvm.staticLocs frame_1_statics s) 24 192 → Post tb e args s (.returned v) u) :
    ArmFor flags0 classFile x code maxLocals ret World_1 tables_1 room_1 Calls_1 rest_1 Pre_1 Post := by
  intro l hfl _ _ p e ha hc hk s m args below hf hA hF happ hP
  obtain ⟨hcalls, hrest, hpre⟩ := hP
  obtain ⟨-, -, -, hnamed, -, -, -, hat⟩ := (Spec.applies_iff hf).mp happ
  obtain ⟨hg, hn⟩ := and_e (Cond.before_iff.mp (show (Jvm.Cond.and given_1 narrow_1).before args s = true from hpre))
  obtain ⟨h1, hg1⟩ := and_e hg
  obtain ⟨w0, w1, w2, w3, rfl⟩ : ∃ w0 w1 w2 w3 : Value, args = #[w0, w1, w2, w3] := by
    have hs : args.size = 4 := by simpa [Cond.value, given_1] using h1
    obtain ⟨L⟩ := args
    match L, hs with
    | [w0, w1, w2, w3], _ => exact ⟨w0, w1, w2, w3, rfl⟩
  have hw := fun d (hd : d ∈ tables_1) => atoms_spec (ws := Jvm.Cond.code x code maxLocals ret :: tables_1) hat d (List.mem_cons_of_mem _ hd)
  have hfit : Fit s := fun {y c} hc i hi => by
    obtain ⟨ha, rfl⟩ := Array.getElem?_eq_some_iff.mp hc
    have q := List.all_eq_true.mp ((Array.all_eq_true_iff_forall_mem.mp hF) _ (Array.getElem_mem ha)) i (List.mem_range.mpr hi)
    simpa [Array.getElem?_eq_getElem hi] using q
  obtain ⟨g0, hg2⟩ := and_e hg1
  obtain ⟨i0, e0⟩ := is_v g0
  obtain rfl : w0 = (.int i0) := Option.some.inj e0
  obtain ⟨g1, hg3⟩ := and_e hg2
  obtain ⟨i1, e1⟩ := isL_v g1
  obtain rfl : w1 = (.long i1) := Option.some.inj e1
  obtain ⟨g2, hg4⟩ := and_e hg3
  obtain ⟨i2, e2⟩ := isL_v g2
  obtain rfl : w2 = (.long i2) := Option.some.inj e2
  have g3 := hg4
  obtain ⟨i3, e3⟩ := isL_v g3
  obtain rfl : w3 = (.long i3) := Option.some.inj e3
  have hn : narrow_1.value _ s none s [] = some true := hn
  obtain ⟨hsets, -⟩ := atoms_of jdkStatics_1 (show (jdkStatics_1.foldr Jvm.Cond.and restOwn_1).before _ s = true from (by have q := hrest; rw [← rest_1_c_eq]; exact q))
  have cex := Cond.before_iff.mp (hsets _ (List.mem_of_getElem? (i := 2) rfl))
  obtain ⟨em, ev_em⟩ := exa_v cex
  have S_em := Sta.start ev_em (Or.inl (hsets _ (List.mem_of_getElem? (i := 1) rfl)))
  have E_em := Exa.start ev_em cex
  have F_em := own_fldI ev_em (Cond.before_iff.mp (hsets _ (List.mem_of_getElem? (i := 3) rfl)))
  obtain ⟨n, o, h1, h2, h3, _, L, rfl, ⟨rfl, N⟩, hq⟩ := rm0 l s _ hw tables_1 i0 i1 i2 i3 em s.heap s.heap.size (Old.start s) (Nat.le_refl _) S_em E_em F_em p e ha hc hk s m _ below hf ((Spec.applies_iff_loose hf).mp happ).1 ⟨rfl, State.Warmed39.refl s, rfl⟩ trivial
  refine ⟨n, _, h1, h2, h3, hpost _ _ _ _ _ _ ⟨Cond.after_iff.mpr rfl, Cond.after_iff.mpr (eq_i res_at (Term.int_eval (1)) rfl), trivial⟩ ⟨hq.1, hq.2.1, (hq.2.2.sift fun y hy => Or.inr (N y hy)).mono (by decide) (by decide)⟩⟩
theorem main_1_1 : Claimed_1_1 := comes_1 fun _ _ _ _ _ _ h hF => ⟨h.1, hF⟩
theorem main_1_2 : Claimed_1_2 := comes_1 fun _ _ _ _ _ _ h hF => ⟨h.2.1, hF⟩
end Jvm.Pilot.@@N@@
namespace Jvm.Pilot.@@N@@
open Jvm Jvm.ClassFile Sem Op Lib Jvm.Free Jvm.Stand Jvm.Pilot.@@N@@.Jvm.D
/-! MADE BY PROGRAM (witnessworld.py) out of the Statement's table words and the real class files: 15 classes; the members and pool entries that the words name. The judged class is class 1, her method 3. -/
namespace start1
open Jvm.ClassFile
def u (s : String) : CpInfo := .utf8 (stringToUtf16 s)
/-- a pool by its gaps: so many unusable entries, then the entry; so many at the end -/
def gap : Nat → List CpInfo → List CpInfo
  | 0, r => r
  | n + 1, r => .unusable :: gap n r
def poolList (es : List (Nat × CpInfo)) (last : Nat) : List CpInfo := es.foldr (fun e r => gap e.1 (e.2 :: r)) (gap last [])
def pool (es : List (Nat × CpInfo)) (last : Nat) : Array CpInfo := ⟨poolList es last⟩
def fileOf (pool : Array CpInfo) (this : Nat) (attrs : Array Attribute := #[]) (ms : Array MethodInfo := #[]) (fl : Nat := 33) (sup : Nat := 0) (ifs : Array Nat := #[]) (fds : Array FieldInfo := #[]) : ClassFile where
  minorVersion := 0
  majorVersion := 65
  constantPool := pool
  accessFlags := fl
  thisClass := this
  superClass := sup
  interfaces := ifs
  fields := fds
  methods := ms
  attributes := attrs
def plain (name : String) (sup : Option ClassId) : Class where
  name := name
  kind := .ordinary
  loader := none
  accessFlags := 33
  super := sup
  interfaces := #[]
  cf := none
  fields := #[]
  methods := #[]
  instanceTypes := #[]
  staticTypes := #[]
  resolved := #[]
  callSites := []
  init := .initialized
  statics := none
  mirror := none

def pool0 : Array CpInfo := pool [(5, u "<init>"), (0, u "()V"), (1, .class_ 10), (1, u "java/lang/Object")] 113

def k0c0 : Code := { maxStack := 0, maxLocals := 1, code := object_method_1_code, exceptionTable := #[], attributes := #[] }
def k0m0 : Method := { name := "<init>", desc := "()V", sig := { parameters := [], returnType := none }, accessFlags := 1, code := some k0c0 }
/-- java/lang/Object -/
def k0 : Class := { plain "java/lang/Object" none with
  accessFlags := 33
  interfaces := #[]
  cf := some (fileOf pool0 8 #[] #[{ accessFlags := 1, nameIndex := 5, descriptorIndex := 6, attributes := #[] }] 33 0 #[] #[])
  fields := #[]
  methods := #[k0m0]
  instanceTypes := #[]
  staticTypes := #[]
  resolved := Array.replicate 124 none
  statics := none }

def pool1 : Array CpInfo := pool [(2, .class_ 4), (0, .nameAndType 5 6), (0, u "java/lang/Object"), (0, u "<init>"), (0, u "()V"), (0, .integer 2147483647), (0, .methodref 9 10), (0, .class_ 11), (0, .nameAndType 12 13), (0, u "com/example/gleanwork/gleanwork/schedule/RecentAverageAddPinLaw"), (0, u "v"), (0, u "(JI)I"), (0, .long 3), (1, .long 9), (1, .long 27), (1, .long 81), (1, .long 243), (1, .long 729), (1, .long 2187), (1, .long 6561), (1, .long 19683), (1, .long 4), (1, .long 16), (1, .long 64), (1, .long 256), (1, .long 1024), (1, .long 4096), (1, .long 16384), (1, .long 65536), (1, .long 262144), (1, .class_ 51), (0, u "com/example/gleanwork/gleanwork/schedule/RecentAverage"), (0, .methodref 50 3), (0, .methodref 50 54), (0, .nameAndType 55 56), (0, u "add"), (0, u "(D)V"), (0, .methodref 58 59), (0, .class_ 60), (0, .nameAndType 61 62), (0, u "java/lang/Math"), (0, u "min"), (0, u "(II)I"), (0, .methodref 50 64), (0, .nameAndType 65 66), (0, u "count"), (0, u "()I"), (0, .methodref 50 68), (0, .nameAndType 69 70), (0, u "value"), (0, u "()Ljava/util/OptionalDouble;"), (0, .methodref 72 73), (0, .class_ 74), (0, .nameAndType 75 76), (0, u "java/util/OptionalDouble"), (0, u "isPresent"), (0, u "()Z"), (0, .methodref 9 78), (0, .nameAndType 79 80), (0, u "term"), (0, u "(III[I[J[J)J"), (0, .methodref 72 82), (0, .nameAndType 83 84), (0, u "getAsDouble"), (0, u "()D"), (3, u "law"), (0, u "(IJJJ)Z")] 6

def k1m0 : Method := { name := "<init>", desc := "()V", sig := { parameters := [], returnType := none }, accessFlags := 1, code := none }
def k1c1 : Code := { maxStack := 4, maxLocals := 3, code := method_2_code, exceptionTable := #[], attributes := #[] }
def k1m1 : Method := { name := "v", desc := "(JI)I", sig := { parameters := [.long, .int], returnType := some .int }, accessFlags := 10, code := some k1c1 }
def k1c2 : Code := { maxStack := 5, maxLocals := 6, code := method_3_code, exceptionTable := #[], attributes := #[] }
def k1m2 : Method := { name := "term", desc := "(III[I[J[J)J", sig := { parameters := [.int, .int, .int, (.array .int), (.array .long), (.array .long)], returnType := some .long }, accessFlags := 10, code := some k1c2 }
def k1c3 : Code := { maxStack := 8, maxLocals := 17, code := code, exceptionTable := #[], attributes := #[] }
def k1m3 : Method := { name := "law", desc := "(IJJJ)Z", sig := { parameters := [.int, .long, .long, .long], returnType := some .boolean }, accessFlags := 9, code := some k1c3 }
/-- com/example/gleanwork/gleanwork/schedule/RecentAverageAddPinLaw -/
def k1 : Class := { plain "com/example/gleanwork/gleanwork/schedule/RecentAverageAddPinLaw" (some 0) with
  accessFlags := 49
  interfaces := #[]
  cf := some (fileOf pool1 9 #[] #[{ accessFlags := 1, nameIndex := 5, descriptorIndex := 6, attributes := #[] }, { accessFlags := 10, nameIndex := 12, descriptorIndex := 13, attributes := #[] }, { accessFlags := 10, nameIndex := 79, descriptorIndex := 80, attributes := #[] }, { accessFlags := 9, nameIndex := 88, descriptorIndex := 89, attributes := #[] }] 49 2 #[] #[])
  fields := #[]
  methods := #[k1m0, k1m1, k1m2, k1m3]
  instanceTypes := #[]
  staticTypes := #[]
  resolved := Array.replicate 96 none
  statics := none }

def pool2 : Array CpInfo := pool [(1, .methodref 2 3), (0, .class_ 4), (0, .nameAndType 5 6), (0, u "java/lang/Object"), (0, u "<init>"), (0, u "()V"), (0, .class_ 8), (0, u "com/example/gleanwork/gleanwork/schedule/RecentAverage"), (0, .fieldref 7 10), (0, .nameAndType 11 12), (0, u "values"), (0, u "[D"), (0, .fieldref 7 14), (0, .nameAndType 15 16), (0, u "count"), (0, u "I"), (0, .fieldref 7 18), (0, .nameAndType 19 16), (0, u "oldest"), (0, .fieldref 7 21), (0, .nameAndType 22 23), (0, u "average"), (0, u "D"), (0, .double 4598175219545276416), (1, .double 4604930618986332160), (26, .methodref 54 55), (0, .class_ 56), (0, .nameAndType 57 58), (0, u "java/util/OptionalDouble"), (0, u "empty"), (0, u "()Ljava/util/OptionalDouble;"), (0, .methodref 54 60), (0, .nameAndType 61 62), (0, u "of"), (0, u "(D)Ljava/util/OptionalDouble;"), (6, u "WINDOW"), (2, u "ALPHA"), (2, u "add"), (0, u "(D)V"), (3, u "()I"), (2, u "value")] 24

def k2c0 : Code := { maxStack := 2, maxLocals := 1, code := prog_71_method_1_code, exceptionTable := #[], attributes := #[] }
def k2m0 : Method := { name := "<init>", desc := "()V", sig := { parameters := [], returnType := none }, accessFlags := 1, code := some k2c0 }
def k2c1 : Code := { maxStack := 7, maxLocals := 4, code := prog_71_method_2_code, exceptionTable := #[], attributes := #[] }
def k2m1 : Method := { name := "add", desc := "(D)V", sig := { parameters := [.double], returnType := none }, accessFlags := 1, code := some k2c1 }
def k2c2 : Code := { maxStack := 1, maxLocals := 1, code := prog_71_method_4_code, exceptionTable := #[], attributes := #[] }
def k2m2 : Method := { name := "count", desc := "()I", sig := { parameters := [], returnType := some .int }, accessFlags := 1, code := some k2c2 }
def k2c3 : Code := { maxStack := 2, maxLocals := 1, code := prog_71_method_6_code, exceptionTable := #[], attributes := #[] }
def k2m3 : Method := { name := "value", desc := "()Ljava/util/OptionalDouble;", sig := { parameters := [], returnType := some (.object "java/util/OptionalDouble") }, accessFlags := 1, code := some k2c3 }
/-- com/example/gleanwork/gleanwork/schedule/RecentAverage -/
def k2 : Class := { plain "com/example/gleanwork/gleanwork/schedule/RecentAverage" (some 0) with
  accessFlags := 49
  interfaces := #[]
  cf := some (fileOf pool2 7 #[] #[{ accessFlags := 1, nameIndex := 5, descriptorIndex := 6, attributes := #[] }, { accessFlags := 1, nameIndex := 75, descriptorIndex := 76, attributes := #[] }, { accessFlags := 1, nameIndex := 15, descriptorIndex := 80, attributes := #[] }, { accessFlags := 1, nameIndex := 83, descriptorIndex := 58, attributes := #[] }] 49 2 #[] #[{ accessFlags := 25, nameIndex := 69, descriptorIndex := 16, attributes := #[] }, { accessFlags := 25, nameIndex := 72, descriptorIndex := 23, attributes := #[] }, { accessFlags := 18, nameIndex := 11, descriptorIndex := 12, attributes := #[] }, { accessFlags := 2, nameIndex := 15, descriptorIndex := 16, attributes := #[] }, { accessFlags := 2, nameIndex := 19, descriptorIndex := 16, attributes := #[] }, { accessFlags := 2, nameIndex := 22, descriptorIndex := 23, attributes := #[] }])
  fields := #[{ name := "WINDOW", type := .int, accessFlags := 25, slot := 0, constantValue := 0 }, { name := "ALPHA", type := .double, accessFlags := 25, slot := 1, constantValue := 0 }, { name := "values", type := (.array .double), accessFlags := 18, slot := 0, constantValue := 0 }, { name := "count", type := .int, accessFlags := 2, slot := 1, constantValue := 0 }, { name := "oldest", type := .int, accessFlags := 2, slot := 2, constantValue := 0 }, { name := "average", type := .double, accessFlags := 2, slot := 3, constantValue := 0 }]
  methods := #[k2m0, k2m1, k2m2, k2m3]
  instanceTypes := #[(.array .double), .int, .int, .double]
  staticTypes := #[.int, .double]
  resolved := Array.replicate 108 none
  statics := none }

def pool3 : Array CpInfo := pool [(1, .class_ 2), (0, u "java/lang/Math"), (1, .class_ 6), (1, u "java/lang/Object"), (0, u "<init>"), (0, u "()V"), (89, .class_ 100), (1, u "java/lang/Math$RandomNumberGeneratorHolder"), (71, u "negativeZeroFloatBits"), (0, u "J"), (2, u "negativeZeroDoubleBits"), (24, u "min"), (43, u "$assertionsDisabled"), (0, u "Z"), (88, u "(II)I"), (2, u "twoToTheDoubleScaleDown"), (0, u "D"), (4, u "twoToTheDoubleScaleUp"), (9, u "E"), (3, u "PI"), (2, u "TAU"), (2, u "DEGREES_TO_RADIANS"), (0, u "RADIANS_TO_DEGREES")] 94

def k3m0 : Method := { name := "<init>", desc := "()V", sig := { parameters := [], returnType := none }, accessFlags := 2, code := none }
def k3c1 : Code := { maxStack := 2, maxLocals := 2, code := jdk_29_method_69_code, exceptionTable := #[], attributes := #[] }
def k3m1 : Method := { name := "min", desc := "(II)I", sig := { parameters := [.int, .int], returnType := some .int }, accessFlags := 9, code := some k3c1 }
/-- java/lang/Math -/
def k3 : Class := { plain "java/lang/Math" (some 0) with
  accessFlags := 49
  interfaces := #[]
  cf := some (fileOf pool3 1 #[.nestMembers #[98]] #[{ accessFlags := 2, nameIndex := 7, descriptorIndex := 8, attributes := #[] }, { accessFlags := 9, nameIndex := 201, descriptorIndex := 335, attributes := #[] }] 49 4 #[] #[{ accessFlags := 25, nameIndex := 354, descriptorIndex := 339, attributes := #[] }, { accessFlags := 25, nameIndex := 358, descriptorIndex := 339, attributes := #[] }, { accessFlags := 25, nameIndex := 361, descriptorIndex := 339, attributes := #[] }, { accessFlags := 26, nameIndex := 364, descriptorIndex := 339, attributes := #[] }, { accessFlags := 26, nameIndex := 365, descriptorIndex := 339, attributes := #[] }, { accessFlags := 26, nameIndex := 172, descriptorIndex := 173, attributes := #[] }, { accessFlags := 26, nameIndex := 176, descriptorIndex := 173, attributes := #[] }, { accessFlags := 8, nameIndex := 344, descriptorIndex := 339, attributes := #[] }, { accessFlags := 8, nameIndex := 338, descriptorIndex := 339, attributes := #[] }, { accessFlags := 4120, nameIndex := 245, descriptorIndex := 246, attributes := #[] }])
  fields := #[{ name := "E", type := .double, accessFlags := 25, slot := 0, constantValue := 0 }, { name := "PI", type := .double, accessFlags := 25, slot := 1, constantValue := 0 }, { name := "TAU", type := .double, accessFlags := 25, slot := 2, constantValue := 0 }, { name := "DEGREES_TO_RADIANS", type := .double, accessFlags := 26, slot := 3, constantValue := 0 }, { name := "RADIANS_TO_DEGREES", type := .double, accessFlags := 26, slot := 4, constantValue := 0 }, { name := "negativeZeroFloatBits", type := .long, accessFlags := 26, slot := 5, constantValue := 0 }, { name := "negativeZeroDoubleBits", type := .long, accessFlags := 26, slot := 6, constantValue := 0 }, { name := "twoToTheDoubleScaleUp", type := .double, accessFlags := 8, slot := 7, constantValue := 0 }, { name := "twoToTheDoubleScaleDown", type := .double, accessFlags := 8, slot := 8, constantValue := 0 }, { name := "$assertionsDisabled", type := .boolean, accessFlags := 4120, slot := 9, constantValue := 0 }]
  methods := #[k3m0, k3m1]
  instanceTypes := #[]
  staticTypes := #[.double, .double, .double, .double, .double, .long, .long, .double, .double, .boolean]
  resolved := Array.replicate 460 none
  statics := none }

def pool4 : Array CpInfo := pool [(1, .methodref 2 3), (0, .class_ 4), (0, .nameAndType 5 6), (0, u "java/lang/Object"), (0, u "<init>"), (0, u "()V"), (0, .fieldref 8 9), (0, .class_ 10), (0, .nameAndType 11 12), (0, u "java/util/OptionalDouble"), (0, u "isPresent"), (0, u "Z"), (4, .fieldref 8 18), (0, .nameAndType 19 20), (0, u "value"), (0, u "D"), (0, .fieldref 8 22), (0, .nameAndType 23 24), (0, u "EMPTY"), (0, u "Ljava/util/OptionalDouble;"), (0, .methodref 8 26), (0, .nameAndType 5 27), (0, u "(D)V"), (21, u "of"), (3, u "empty"), (5, u "getAsDouble"), (0, u "()D"), (41, u "()Ljava/util/OptionalDouble;"), (0, u "(D)Ljava/util/OptionalDouble;"), (1, u "()Z")] 38

def k4m0 : Method := { name := "<init>", desc := "()V", sig := { parameters := [], returnType := none }, accessFlags := 2, code := none }
def k4c1 : Code := { maxStack := 1, maxLocals := 0, code := jdk_2648_method_2_code, exceptionTable := #[], attributes := #[] }
def k4m1 : Method := { name := "empty", desc := "()Ljava/util/OptionalDouble;", sig := { parameters := [], returnType := some (.object "java/util/OptionalDouble") }, accessFlags := 9, code := some k4c1 }
def k4c2 : Code := { maxStack := 3, maxLocals := 3, code := jdk_2648_method_3_code, exceptionTable := #[], attributes := #[] }
def k4m2 : Method := { name := "<init>", desc := "(D)V", sig := { parameters := [.double], returnType := none }, accessFlags := 2, code := some k4c2 }
def k4c3 : Code := { maxStack := 4, maxLocals := 2, code := jdk_2648_method_4_code, exceptionTable := #[], attributes := #[] }
def k4m3 : Method := { name := "of", desc := "(D)Ljava/util/OptionalDouble;", sig := { parameters := [.double], returnType := some (.object "java/util/OptionalDouble") }, accessFlags := 9, code := some k4c3 }
def k4c4 : Code := { maxStack := 3, maxLocals := 1, code := jdk_2648_method_5_code, exceptionTable := #[], attributes := #[] }
def k4m4 : Method := { name := "getAsDouble", desc := "()D", sig := { parameters := [], returnType := some .double }, accessFlags := 1, code := some k4c4 }
def k4c5 : Code := { maxStack := 1, maxLocals := 1, code := jdk_2648_method_6_code, exceptionTable := #[], attributes := #[] }
def k4m5 : Method := { name := "isPresent", desc := "()Z", sig := { parameters := [], returnType := some .boolean }, accessFlags := 1, code := some k4c5 }
/-- java/util/OptionalDouble -/
def k4 : Class := { plain "java/util/OptionalDouble" (some 0) with
  accessFlags := 49
  interfaces := #[]
  cf := some (fileOf pool4 8 #[] #[{ accessFlags := 2, nameIndex := 5, descriptorIndex := 6, attributes := #[] }, { accessFlags := 9, nameIndex := 53, descriptorIndex := 102, attributes := #[] }, { accessFlags := 2, nameIndex := 5, descriptorIndex := 27, attributes := #[] }, { accessFlags := 9, nameIndex := 49, descriptorIndex := 103, attributes := #[] }, { accessFlags := 1, nameIndex := 59, descriptorIndex := 60, attributes := #[] }, { accessFlags := 1, nameIndex := 11, descriptorIndex := 105, attributes := #[] }] 49 2 #[] #[{ accessFlags := 26, nameIndex := 23, descriptorIndex := 24, attributes := #[] }, { accessFlags := 18, nameIndex := 11, descriptorIndex := 12, attributes := #[] }, { accessFlags := 18, nameIndex := 19, descriptorIndex := 20, attributes := #[] }])
  fields := #[{ name := "EMPTY", type := (.object "java/util/OptionalDouble"), accessFlags := 26, slot := 0, constantValue := 0 }, { name := "isPresent", type := .boolean, accessFlags := 18, slot := 0, constantValue := 0 }, { name := "value", type := .double, accessFlags := 18, slot := 1, constantValue := 0 }]
  methods := #[k4m0, k4m1, k4m2, k4m3, k4m4, k4m5]
  instanceTypes := #[.boolean, .double]
  staticTypes := #[(.object "java/util/OptionalDouble")]
  resolved := Array.replicate 144 none
  statics := some 0 }

def pool5 : Array CpInfo := pool [(1, u "java/lang/Cloneable"), (0, .class_ 1), (0, u "java/lang/Object"), (0, .class_ 3)] 3

/-- java/lang/Cloneable -/
def k5 : Class := { plain "java/lang/Cloneable" (some 0) with
  accessFlags := 1537
  interfaces := #[]
  cf := some (fileOf pool5 2 #[] #[] 1537 4 #[] #[])
  fields := #[]
  methods := #[]
  instanceTypes := #[]
  staticTypes := #[]
  resolved := Array.replicate 8 none
  statics := none }

def pool6 : Array CpInfo := pool [(1, u "java/io/Serializable"), (0, .class_ 1), (0, u "java/lang/Object"), (0, .class_ 3)] 3

/-- java/io/Serializable -/
def k6 : Class := { plain "java/io/Serializable" (some 0) with
  accessFlags := 1537
  interfaces := #[]
  cf := some (fileOf pool6 2 #[] #[] 1537 4 #[] #[])
  fields := #[]
  methods := #[]
  instanceTypes := #[]
  staticTypes := #[]
  resolved := Array.replicate 8 none
  statics := none }

/-- the primitive byte -/
def k7 : Class := { plain "byte" none with kind := .primitive 'B', accessFlags := 0x411 }
/-- [B -/
def k8 : Class := { plain "[B" (some 0) with kind := .array 7 .byte, interfaces := #[5, 6], accessFlags := 1041 }

/-- the primitive double -/
def k9 : Class := { plain "double" none with kind := .primitive 'D', accessFlags := 0x411 }
/-- [D -/
def k10 : Class := { plain "[D" (some 0) with kind := .array 9 .double, interfaces := #[5, 6], accessFlags := 1041 }

/-- the primitive int -/
def k11 : Class := { plain "int" none with kind := .primitive 'I', accessFlags := 0x411 }
/-- [I -/
def k12 : Class := { plain "[I" (some 0) with kind := .array 11 .int, interfaces := #[5, 6], accessFlags := 1041 }

/-- the primitive long -/
def k13 : Class := { plain "long" none with kind := .primitive 'J', accessFlags := 0x411 }
/-- [J -/
def k14 : Class := { plain "[J" (some 0) with kind := .array 13 .long, interfaces := #[5, 6], accessFlags := 1041 }

def heap : Heap := #[{ cls := 4, slots := #[.ref 1], vm := .statics 4 },
  { cls := 4, slots := #[.int 0, .double 0], vm := .none }]
def classes : Array Class := #[k0, k1, k2, k3, k4, k5, k6, k7, k8, k9, k10, k11, k12, k13, k14]
def interned : List (Array UInt16 × Addr) := []
def slotsUsed : Nat := 3
def theMethod : MethodId := ⟨1, 3⟩
def args0 : Array Value := #[.int 5, .long 6, .long 7, .long 8]
def aboutOver (below : List Frame) : State where
  vm := { classes := classes, interned := interned.toArray }
  heap := heap
  slotsUsed := slotsUsed
  threads := #[{ frames := .invoking theMethod args0 :: below }]
def below0 : List Frame := [.native { method := ⟨0, 0⟩, args := #[] }]
def about1 : State := aboutOver below0
def p0 : Program := .bare "" "" ""
def e0 : Env := launch0.env 0 0 0
theorem w_frames : about1.frames = Frame.invoking theMethod args0 :: below0 := rfl
set_option maxRecDepth 65536 in
theorem w_args : argsFit about1.vm theMethod args0 = true := by decide +kernel
set_option maxRecDepth 65536 in
theorem w_heap : heapFits about1 = true := by decide +kernel
set_option maxRecDepth 65536 in
theorem w_runnable : about1.curStatus? = some .runnable := by decide +kernel
set_option maxRecDepth 65536 in
theorem w_alone : about1.alone = true := by decide +kernel
set_option maxRecDepth 65536 in
theorem w_named : about1.methodNamed? x = some theMethod := by decide +kernel
set_option maxRecDepth 65536 in
theorem w_hears : about1.hears theMethod below0 = true := by decide +kernel
set_option maxRecDepth 65536 in
theorem w_ripe : about1.ripe theMethod args0 below0 = true := by decide +kernel
theorem w_running : about1.status = .running := rfl
set_option maxRecDepth 65536 in
theorem w_room : about1.hasRoom e0.platform room_1 = true :=
  launch0.hasRoom_least _ room_1 (by decide +kernel) (by decide +kernel) (by decide +kernel) (by decide +kernel) (by decide +kernel) (by decide +kernel)
theorem allAtoms_all (ts : List Jvm.Cond) (a : Array Jvm.Value) (st : Jvm.State) : (allAtoms ts).before a st = ts.all (fun c => c.before a st) := by
  induction ts with
  | nil => rfl
  | cons c t ih =>
    show (Jvm.Cond.and c (allAtoms t)).before a st = _
    rw [Jvm.Cond.before_and, ih, List.all_cons]
def words1 : List Jvm.Cond := Jvm.Cond.code x code maxLocals ret :: tables_1
/-- a 'code' word, met by the world's own term for the bytes: nothing is compared byte by byte -/
theorem code_word {y : MethodName} {bytes : ByteArray} {mx : Nat} {rt : Option FieldType} {a : Array Value} {s : State} {m : MethodId} {meth : Method} {c : Code} (h1 : s.methodNamed? y = some m) (h2 : s.vm.method? m = some meth) (h3 : meth.code = some c) (h4 : c.code = bytes)
    (h5 : (c.maxLocals == mx && c.exceptionTable.isEmpty && decide (c.maxStack ≤ mostOperands) && decide (meth.sig.returnType = rt) && !meth.locks && decide (parseMethodDescriptor y.desc = some meth.sig)) = true) : (Jvm.Cond.code y bytes mx rt).before a s = true := by
  simp only [Bool.and_eq_true, beq_iff_eq, Bool.not_eq_true', decide_eq_true_eq] at h5
  obtain ⟨⟨⟨⟨⟨g1, g2⟩, g3⟩, g4⟩, g5⟩, g6⟩ := h5
  simp [Cond.before, Cond.holds, Cond.value, h1, h2, h3, h4, g1, g2, g3, g4, g5, g6]
def isCode : Jvm.Cond → Bool
  | .code _ _ _ _ => true
  | _ => false
theorem all_split {L : List Jvm.Cond} {P : Jvm.Cond → Bool} (h1 : L.all (fun c => isCode c || P c) = true) (h2 : ∀ c ∈ L.filter isCode, P c = true) : L.all P = true := by
  refine List.all_eq_true.mpr fun c hc => ?_
  have h := List.all_eq_true.mp h1 c hc
  rcases Bool.eq_false_or_eq_true (isCode c) with hi | hi
  · exact h2 c (List.mem_filter.mpr ⟨hc, hi⟩)
  · simpa [hi] using h
set_option maxRecDepth 65536 in
theorem w_c0 : (Jvm.Cond.code x code maxLocals ret).before args0 about1 = true := code_word (m := ⟨1, 3⟩) (meth := k1m3) (c := k1c3) (by decide +kernel) rfl rfl rfl (by decide +kernel)
set_option maxRecDepth 65536 in
theorem w_c1 : (Jvm.Cond.code ({ cls := "com/example/gleanwork/gleanwork/schedule/RecentAverageAddPinLaw", name := "v", desc := "(JI)I" } : Jvm.MethodName) method_2_code (3 : Nat) (Option.some Jvm.ClassFile.FieldType.int)).before args0 about1 = true := code_word (m := ⟨1, 1⟩) (meth := k1m1) (c := k1c1) (by decide +kernel) rfl rfl rfl (by decide +kernel)
set_option maxRecDepth 65536 in
theorem w_c2 : (Jvm.Cond.code ({ cls := "com/example/gleanwork/gleanwork/schedule/RecentAverage", name := "<init>", desc := "()V" } : Jvm.MethodName) prog_71_method_1_code (1 : Nat) (Option.none : Option Jvm.ClassFile.FieldType)).before args0 about1 = true := code_word (m := ⟨2, 0⟩) (meth := k2m0) (c := k2c0) (by decide +kernel) rfl rfl rfl (by decide +kernel)
set_option maxRecDepth 65536 in
theorem w_c3 : (Jvm.Cond.code ({ cls := "java/lang/Object", name := "<init>", desc := "()V" } : Jvm.MethodName) object_method_1_code (1 : Nat) (Option.none : Option Jvm.ClassFile.FieldType)).before args0 about1 = true := code_word (m := ⟨0, 0⟩) (meth := k0m0) (c := k0c0) (by decide +kernel) rfl rfl rfl (by decide +kernel)
set_option maxRecDepth 65536 in
theorem w_c4 : (Jvm.Cond.code ({ cls := "java/lang/Math", name := "min", desc := "(II)I" } : Jvm.MethodName) jdk_29_method_69_code (2 : Nat) (Option.some Jvm.ClassFile.FieldType.int)).before args0 about1 = true := code_word (m := ⟨3, 1⟩) (meth := k3m1) (c := k3c1) (by decide +kernel) rfl rfl rfl (by decide +kernel)
set_option maxRecDepth 65536 in
theorem w_c5 : (Jvm.Cond.code ({ cls := "com/example/gleanwork/gleanwork/schedule/RecentAverage", name := "count", desc := "()I" } : Jvm.MethodName) prog_71_method_4_code (1 : Nat) (Option.some Jvm.ClassFile.FieldType.int)).before args0 about1 = true := code_word (m := ⟨2, 2⟩) (meth := k2m2) (c := k2c2) (by decide +kernel) rfl rfl rfl (by decide +kernel)
set_option maxRecDepth 65536 in
theorem w_c6 : (Jvm.Cond.code ({ cls := "com/example/gleanwork/gleanwork/schedule/RecentAverage", name := "value", desc := "()Ljava/util/OptionalDouble;" } : Jvm.MethodName) prog_71_method_6_code (1 : Nat) (Option.some (Jvm.ClassFile.FieldType.object "java/util/OptionalDouble"))).before args0 about1 = true := code_word (m := ⟨2, 3⟩) (meth := k2m3) (c := k2c3) (by decide +kernel) rfl rfl rfl (by decide +kernel)
set_option maxRecDepth 65536 in
theorem w_c7 : (Jvm.Cond.code ({ cls := "java/util/OptionalDouble", name := "empty", desc := "()Ljava/util/OptionalDouble;" } : Jvm.MethodName) jdk_2648_method_2_code (0 : Nat) (Option.some (Jvm.ClassFile.FieldType.object "java/util/OptionalDouble"))).before args0 about1 = true := code_word (m := ⟨4, 1⟩) (meth := k4m1) (c := k4c1) (by decide +kernel) rfl rfl rfl (by decide +kernel)
set_option maxRecDepth 65536 in
theorem w_c8 : (Jvm.Cond.code ({ cls := "java/util/OptionalDouble", name := "isPresent", desc := "()Z" } : Jvm.MethodName) jdk_2648_method_6_code (1 : Nat) (Option.some Jvm.ClassFile.FieldType.boolean)).before args0 about1 = true := code_word (m := ⟨4, 5⟩) (meth := k4m5) (c := k4c5) (by decide +kernel) rfl rfl rfl (by decide +kernel)
set_option maxRecDepth 65536 in
theorem w_c9 : (Jvm.Cond.code ({ cls := "com/example/gleanwork/gleanwork/schedule/RecentAverage", name := "add", desc := "(D)V" } : Jvm.MethodName) prog_71_method_2_code (4 : Nat) (Option.none : Option Jvm.ClassFile.FieldType)).before args0 about1 = true := code_word (m := ⟨2, 1⟩) (meth := k2m1) (c := k2c1) (by decide +kernel) rfl rfl rfl (by decide +kernel)
set_option maxRecDepth 65536 in
theorem w_c10 : (Jvm.Cond.code ({ cls := "java/util/OptionalDouble", name := "of", desc := "(D)Ljava/util/OptionalDouble;" } : Jvm.MethodName) jdk_2648_method_4_code (2 : Nat) (Option.some (Jvm.ClassFile.FieldType.object "java/util/OptionalDouble"))).before args0 about1 = true := code_word (m := ⟨4, 3⟩) (meth := k4m3) (c := k4c3) (by decide +kernel) rfl rfl rfl (by decide +kernel)
set_option maxRecDepth 65536 in
theorem w_c11 : (Jvm.Cond.code ({ cls := "java/util/OptionalDouble", name := "<init>", desc := "(D)V" } : Jvm.MethodName) jdk_2648_method_3_code (3 : Nat) (Option.none : Option Jvm.ClassFile.FieldType)).before args0 about1 = true := code_word (m := ⟨4, 2⟩) (meth := k4m2) (c := k4c2) (by decide +kernel) rfl rfl rfl (by decide +kernel)
set_option maxRecDepth 65536 in
theorem w_c12 : (Jvm.Cond.code ({ cls := "com/example/gleanwork/gleanwork/schedule/RecentAverageAddPinLaw", name := "term", desc := "(III[I[J[J)J" } : Jvm.MethodName) method_3_code (6 : Nat) (Option.some Jvm.ClassFile.FieldType.long)).before args0 about1 = true := code_word (m := ⟨1, 2⟩) (meth := k1m2) (c := k1c2) (by decide +kernel) rfl rfl rfl (by decide +kernel)
set_option maxRecDepth 65536 in
theorem w_c13 : (Jvm.Cond.code ({ cls := "java/util/OptionalDouble", name := "getAsDouble", desc := "()D" } : Jvm.MethodName) jdk_2648_method_5_code (1 : Nat) (Option.some Jvm.ClassFile.FieldType.double)).before args0 about1 = true := code_word (m := ⟨4, 4⟩) (meth := k4m4) (c := k4c4) (by decide +kernel) rfl rfl rfl (by decide +kernel)
def codes1 : List Jvm.Cond := [Jvm.Cond.code x code maxLocals ret, Jvm.Cond.code ({ cls := "com/example/gleanwork/gleanwork/schedule/RecentAverageAddPinLaw", name := "v", desc := "(JI)I" } : Jvm.MethodName) method_2_code (3 : Nat) (Option.some Jvm.ClassFile.FieldType.int), Jvm.Cond.code ({ cls := "com/example/gleanwork/gleanwork/schedule/RecentAverage", name := "<init>", desc := "()V" } : Jvm.MethodName) prog_71_method_1_code (1 : Nat) (Option.none : Option Jvm.ClassFile.FieldType), Jvm.Cond.code ({ cls := "java/lang/Object", name := "<init>", desc := "()V" } : Jvm.MethodName) object_method_1_code (1 : Nat) (Option.none : Option Jvm.ClassFile.FieldType), Jvm.Cond.code ({ cls := "java/lang/Math", name := "min", desc := "(II)I" } : Jvm.MethodName) jdk_29_method_69_code (2 : Nat) (Option.some Jvm.ClassFile.FieldType.int), Jvm.Cond.code ({ cls := "com/example/gleanwork/gleanwork/schedule/RecentAverage", name := "count", desc := "()I" } : Jvm.MethodName) prog_71_method_4_code (1 : Nat) (Option.some Jvm.ClassFile.FieldType.int), Jvm.Cond.code ({ cls := "com/example/gleanwork/gleanwork/schedule/RecentAverage", name := "value", desc := "()Ljava/util/OptionalDouble;" } : Jvm.MethodName) prog_71_method_6_code (1 : Nat) (Option.some (Jvm.ClassFile.FieldType.object "java/util/OptionalDouble")), Jvm.Cond.code ({ cls := "java/util/OptionalDouble", name := "empty", desc := "()Ljava/util/OptionalDouble;" } : Jvm.MethodName) jdk_2648_method_2_code (0 : Nat) (Option.some (Jvm.ClassFile.FieldType.object "java/util/OptionalDouble")), Jvm.Cond.code ({ cls := "java/util/OptionalDouble", name := "isPresent", desc := "()Z" } : Jvm.MethodName) jdk_2648_method_6_code (1 : Nat) (Option.some Jvm.ClassFile.FieldType.boolean), Jvm.Cond.code ({ cls := "com/example/gleanwork/gleanwork/schedule/RecentAverage", name := "add", desc := "(D)V" } : Jvm.MethodName) prog_71_method_2_code (4 : Nat) (Option.none : Option Jvm.ClassFile.FieldType), Jvm.Cond.code ({ cls := "java/util/OptionalDouble", name := "of", desc := "(D)Ljava/util/OptionalDouble;" } : Jvm.MethodName) jdk_2648_method_4_code (2 : Nat) (Option.some (Jvm.ClassFile.FieldType.object "java/util/OptionalDouble")), Jvm.Cond.code ({ cls := "java/util/OptionalDouble", name := "<init>", desc := "(D)V" } : Jvm.MethodName) jdk_2648_method_3_code (3 : Nat) (Option.none : Option Jvm.ClassFile.FieldType), Jvm.Cond.code ({ cls := "com/example/gleanwork/gleanwork/schedule/RecentAverageAddPinLaw", name := "term", desc := "(III[I[J[J)J" } : Jvm.MethodName) method_3_code (6 : Nat) (Option.some Jvm.ClassFile.FieldType.long), Jvm.Cond.code ({ cls := "java/util/OptionalDouble", name := "getAsDouble", desc := "()D" } : Jvm.MethodName) jdk_2648_method_5_code (1 : Nat) (Option.some Jvm.ClassFile.FieldType.double)]
set_option maxRecDepth 65536 in
theorem codes_eq : words1.filter isCode = codes1 := rfl
theorem w_codes : ∀ c ∈ words1.filter isCode, c.before args0 about1 = true := by
  rw [codes_eq]
  intro c hc
  simp only [codes1, List.mem_cons, List.not_mem_nil, or_false] at hc
  rcases hc with rfl | rfl | rfl | rfl | rfl | rfl | rfl | rfl | rfl | rfl | rfl | rfl | rfl | rfl
  · exact w_c0
  · exact w_c1
  · exact w_c2
  · exact w_c3
  · exact w_c4
  · exact w_c5
  · exact w_c6
  · exact w_c7
  · exact w_c8
  · exact w_c9
  · exact w_c10
  · exact w_c11
  · exact w_c12
  · exact w_c13
set_option maxRecDepth 65536 in
theorem w_t1 : (words1.take 24).all (fun c => isCode c || c.before args0 about1) = true := by decide +kernel
set_option maxRecDepth 65536 in
theorem w_t2 : ((words1.drop 24).take 24).all (fun c => isCode c || c.before args0 about1) = true := by decide +kernel
set_option maxRecDepth 65536 in
theorem w_t3 : (((words1.drop 24).drop 24).take 24).all (fun c => isCode c || c.before args0 about1) = true := by decide +kernel
set_option maxRecDepth 65536 in
theorem w_t4 : ((((words1.drop 24).drop 24).drop 24).take 24).all (fun c => isCode c || c.before args0 about1) = true := by decide +kernel
set_option maxRecDepth 65536 in
theorem w_t5 : ((((words1.drop 24).drop 24).drop 24).drop 24).all (fun c => isCode c || c.before args0 about1) = true := by decide +kernel
theorem w_tables : (allAtoms (Jvm.Cond.code x code maxLocals ret :: tables_1)).before args0 about1 = true := by
  rw [allAtoms_all]
  show words1.all (fun c => c.before args0 about1) = true
  refine all_split ?_ w_codes
  rw [← List.take_append_drop 24 words1, List.all_append, w_t1, ← List.take_append_drop 24 (words1.drop 24), List.all_append, w_t2, ← List.take_append_drop 24 ((words1.drop 24).drop 24), List.all_append, w_t3, ← List.take_append_drop 24 (((words1.drop 24).drop 24).drop 24), List.all_append, w_t4, w_t5]
  rfl
set_option maxRecDepth 65536 in
theorem w_rest : rest_1_c.before args0 about1 = true := by decide +kernel
set_option maxRecDepth 65536 in
theorem w_case : (Jvm.Cond.and given_1 narrow_1).before args0 about1 = true := by decide +kernel
theorem w_applies : (headSpec (Jvm.Cond.code x code maxLocals ret :: tables_1) room_1).applies x e0.platform about1 = true :=
  (Spec.applies_iff w_frames).mpr ⟨w_running, w_runnable, w_alone, w_named, w_hears, w_ripe, w_room, w_tables⟩
theorem atStart : AtStart classFile x code maxLocals ret World_1 tables_1 room_1 Calls_1 rest_1 Pre_1 launch0 p0 e0 about1 theMethod args0 below0 :=
  ⟨lists_1, trivial, launch0.admits_env _ _ _, launch0.least_env, fairChoices_fair.cas, fairChoices_fair.clock, w_frames, w_args, w_heap, w_applies, trivial, w_rest, w_case⟩
end start1
theorem witness_1 : WitnessClaimed_1 := ⟨start1.p0, start1.e0, start1.about1, start1.theMethod, start1.args0, start1.below0, start1.atStart⟩
end Jvm.Pilot.@@N@@
