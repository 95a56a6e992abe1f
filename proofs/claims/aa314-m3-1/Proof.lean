import JvmDerived
import JvmDerived.Pilot.@@N@@Statement
import JvmDerived.Pilot.@@N@@Code
set_option linter.unusedVariables false
set_option linter.unusedSimpArgs false
namespace Jvm.Pilot.@@N@@
open Jvm Jvm.ClassFile Sem Op Lib Jvm.Free Jvm.Stand Jvm.LawKit Jvm.RoadKit Bundle Jvm.Pilot.@@N@@.Jvm.D
set_option maxRecDepth 65536
set_option maxHeartbeats 40000000
section OwnGo
variable {p : Program} {l : Launch} {e : Env} {R : Room} {s : State} {m : MethodId} {args : Array Value} {below : List Frame} {meth : Method} {c : Code} {T : State} {locs : List Loc} {cells slots : Nat} {Q : Option Value → Heap → List Loc → Prop} {kc ks : Nat}
/-- from this state the body runs to its return, and Q holds of what it leaves -/
def own_Go (p : Program) (e : Env) (below : List Frame) (s : State) (Q : Option Value → Heap → List Loc → Prop) (kc ks : Nat) (S : State) : Prop :=
  ∃ s₂ o, Steps p.tables e below S s₂ ∧ s₂.status = .running ∧ Ended s₂ below o ∧ ∃ v L, o = .returned v ∧ Q v s₂.heap L ∧ FrameEnd s o s₂ L kc ks
theorem own_st {A B : State} (f : ∀ t, Steps p.tables e below A t → Steps p.tables e below B t) (h : own_Go p e below s Q kc ks A) : own_Go p e below s Q kc ks B := by
  obtain ⟨s₂, o, h1, h2⟩ := h
  exact ⟨s₂, o, f _ h1, h2⟩
theorem own_mono {S : State} {Q' : Option Value → Heap → List Loc → Prop} (h : own_Go p e below s Q kc ks S) (f : ∀ v h L, Q v h L → Q' v h L) : own_Go p e below s Q' kc ks S := by
  obtain ⟨s₂, o, h1, h2, h3, v, L, h4, h5, h6⟩ := h
  exact ⟨s₂, o, h1, h2, h3, v, L, h4, f _ _ _ h5, h6⟩
theorem own_retN (X : Stand p l e R s m args below meth c T locs cells slots) (hx : p.tables.exec = Jvm.exec) (hlk : meth.locks = false) {pc : Nat} {Ls : Array Slot} {z : Int32} {t : FieldType} {rest : List Value} (hret : meth.sig.returnType = some t) (ht : t = .boolean ∨ t = .byte ∨ t = .char ∨ t = .short)
    (hd : decode c.code pc = .ok (.ireturn, 1)) (hq : Q (some (.int (nar t z))) T.heap locs) (hc : cells ≤ kc) (hs : slots ≤ ks) : own_Go p e below s Q kc ks (T.setTop (mkF m pc Ls (.int z :: rest))) := by
  obtain ⟨fs, hr, hrun, hended, hW, hsame⟩ := X.leave (v := some (.int (nar t z))) (fun h => by rw [hret] at h; cases h) hlk
  exact ⟨_, _, retN X hx hret ht hd hr, hrun, hended, _, _, rfl, hq, ⟨_, rfl⟩, hW, hsame.mono hc hs⟩
theorem own_retI (X : Stand p l e R s m args below meth c T locs cells slots) (hx : p.tables.exec = Jvm.exec) (hlk : meth.locks = false) {pc : Nat} {Ls : Array Slot} {z : Int32} {rest : List Value} (hret : meth.sig.returnType = some .int)
    (hd : decode c.code pc = .ok (.ireturn, 1)) (hq : Q (some (.int z)) T.heap locs) (hc : cells ≤ kc) (hs : slots ≤ ks) : own_Go p e below s Q kc ks (T.setTop (mkF m pc Ls (.int z :: rest))) := by
  obtain ⟨fs, hr, hrun, hended, hW, hsame⟩ := X.leave (v := some (.int z)) (fun h => by rw [hret] at h; cases h) hlk
  exact ⟨_, _, retOut X hx hret rfl (Or.inl ⟨rfl, Or.inl rfl, z, rfl⟩) hd hr, hrun, hended, _, _, rfl, hq, ⟨_, rfl⟩, hW, hsame.mono hc hs⟩
theorem own_retJ (X : Stand p l e R s m args below meth c T locs cells slots) (hx : p.tables.exec = Jvm.exec) (hlk : meth.locks = false) {pc : Nat} {Ls : Array Slot} {z : Int64} {rest : List Value} (hret : meth.sig.returnType = some .long)
    (hd : decode c.code pc = .ok (.lreturn, 1)) (hq : Q (some (.long z)) T.heap locs) (hc : cells ≤ kc) (hs : slots ≤ ks) : own_Go p e below s Q kc ks (T.setTop (mkF m pc Ls (.long z :: rest))) := by
  obtain ⟨fs, hr, hrun, hended, hW, hsame⟩ := X.leave (v := some (.long z)) (fun h => by rw [hret] at h; cases h) hlk
  exact ⟨_, _, retOut X hx hret rfl (Or.inr (Or.inl ⟨rfl, rfl, z, rfl⟩)) hd hr, hrun, hended, _, _, rfl, hq, ⟨_, rfl⟩, hW, hsame.mono hc hs⟩
theorem own_retD (X : Stand p l e R s m args below meth c T locs cells slots) (hx : p.tables.exec = Jvm.exec) (hlk : meth.locks = false) {pc : Nat} {Ls : Array Slot} {z : UInt64} {rest : List Value} (hret : meth.sig.returnType = some .double)
    (hd : decode c.code pc = .ok (.dreturn, 1)) (hq : Q (some (.double z)) T.heap locs) (hc : cells ≤ kc) (hs : slots ≤ ks) : own_Go p e below s Q kc ks (T.setTop (mkF m pc Ls (.double z :: rest))) := by
  obtain ⟨fs, hr, hrun, hended, hW, hsame⟩ := X.leave (v := some (.double z)) (fun h => by rw [hret] at h; cases h) hlk
  exact ⟨_, _, retOut X hx hret rfl (Or.inr (Or.inr (Or.inl ⟨rfl, rfl, z, rfl⟩))) hd hr, hrun, hended, _, _, rfl, hq, ⟨_, rfl⟩, hW, hsame.mono hc hs⟩
theorem own_retA (X : Stand p l e R s m args below meth c T locs cells slots) (hx : p.tables.exec = Jvm.exec) (hlk : meth.locks = false) {pc : Nat} {Ls : Array Slot} {w : Value} {t : FieldType} {rest : List Value} (hret : meth.sig.returnType = some t) (ht : t.isReference = true) (hw : w.isRef = true)
    (hd : decode c.code pc = .ok (.areturn, 1)) (hq : Q (some w) T.heap locs) (hc : cells ≤ kc) (hs : slots ≤ ks) : own_Go p e below s Q kc ks (T.setTop (mkF m pc Ls (w :: rest))) := by
  obtain ⟨fs, hr, hrun, hended, hW, hsame⟩ := X.leave (v := some w) (fun h => by rw [hret] at h; cases h) hlk
  exact ⟨_, _, retOut X hx hret (by rcases ref_cases hw with rfl | ⟨a, rfl⟩ <;> cases t <;> first | rfl | cases ht) (Or.inr (Or.inr (Or.inr (Or.inr ⟨rfl, ht, hw⟩)))) hd hr, hrun, hended, _, _, rfl, hq, ⟨_, rfl⟩, hW, hsame.mono hc hs⟩
theorem own_retV (X : Stand p l e R s m args below meth c T locs cells slots) (hx : p.tables.exec = Jvm.exec) (hlk : meth.locks = false) {pc : Nat} {Ls : Array Slot} (hret : meth.sig.returnType = none)
    (hd : decode c.code pc = .ok (.return_, 1)) (hq : Q none T.heap locs) (hc : cells ≤ kc) (hs : slots ≤ ks) : own_Go p e below s Q kc ks (T.setTop (mkF m pc Ls [])) := by
  obtain ⟨fs, hr, hrun, hended, hW, hsame⟩ := X.leave (v := none) (fun _ => rfl) hlk
  exact ⟨_, _, X.returnOut hx hret hd hr, hrun, hended, _, _, rfl, hq, ⟨_, rfl⟩, hW, hsame.mono hc hs⟩
end OwnGo
section OwnWords
variable {args : Array Value} {s : State} {t i : Term} {a b : Addr} {C n d : String} {k : Int32} {cl : Cell} {ty : FieldType}
theorem own_fldI (ev : t.eval args s none [] s = some (.ref a)) (h : (Jvm.Cond.eq (Term.field t C n d) (Term.int k)).value args s none s [] = some true) : Fld s s.heap a C n d (.int k) := by
  have e1 := fld_at (C := C) (n := n) (dd := d) ev
  have e2 := Term.int_eval (args := args) (first := s) (o := none) (idx := []) (s := s) k
  refine Fld.start ?_
  cases hv : s.fieldOf? a C n d with
  | none => rw [hv] at e1; simp [Jvm.Cond.value, e1] at h
  | some v => rw [hv] at e1; cases v <;> simp [Jvm.Cond.value, e1, e2] at h; rw [h]
theorem own_len (ev : t.eval args s none [] s = some (.ref a)) (A : Arr s s.heap a cl ty) (h : (Jvm.Cond.eq (Term.length t) (Term.int k)).value args s none s [] = some true) : cl.slots.size < 2 ^ 31 ∧ cl.slots.size.toInt32 = k := by
  have e2 := Term.int_eval (args := args) (first := s) (o := none) (idx := []) (s := s) k
  have e0 := A.fin (Vm.Alike.refl _)
  by_cases hl : cl.slots.size < 2 ^ 31
  · have e1 := len_f ev e0 hl
    simp [Jvm.Cond.value, e1, e2] at h
    exact ⟨hl, h⟩
  · have e1 : (Term.length t).eval args s none [] s = none := by simp [Term.eval, ev, e0]; omega
    simp [Jvm.Cond.value, e1] at h
theorem own_elem {v : Value} (ev : t.eval args s none [] s = some (.ref a)) (A : Arr s s.heap a cl ty) {u : Term} (eu : u.eval args s none [] s = some v) (hv : v.isRef = true) (h : (Jvm.Cond.eq (Term.elem t (Term.int k)) u).value args s none s [] = some true) : cl.slots[k.toNatClampNeg]? = some v := by
  have e2 := Term.int_eval (args := args) (first := s) (o := none) (idx := []) (s := s) k
  obtain ⟨x, y, hx, hy, -, -⟩ := cmp_v (Or.inl h)
  cases eu.symm.trans hy
  obtain ⟨-, q⟩ := elem_in hx ev e2 A.1
  have hk : x.isRef = true := by
    cases x <;> rcases ref_cases hv with rfl | ⟨z, rfl⟩ <;> simp [Jvm.Cond.value, hx, hy] at h ⊢ <;> rfl
  rw [q, gotT (eq_R hx hy hk hv) h]
theorem own_elemR (ev : t.eval args s none [] s = some (.ref a)) (A : Arr s s.heap a cl ty) {u : Term} (eu : u.eval args s none [] s = some (.ref b)) (h : (Jvm.Cond.eq (Term.elem t (Term.int k)) u).value args s none s [] = some true) : cl.slots[k.toNatClampNeg]? = some (.ref b) := own_elem ev A eu rfl h
theorem own_elemN (ev : t.eval args s none [] s = some (.ref a)) (A : Arr s s.heap a cl ty) (h : (Jvm.Cond.eq (Term.elem t (Term.int k)) .null).value args s none s [] = some true) : cl.slots[k.toNatClampNeg]? = some .null := own_elem ev A null_at rfl h
end OwnWords
section OwnMore
theorem own_privSel {s : State} {args : Array Value} {y z z' : MethodName} {C : String} (hs : (Jvm.Cond.selects C z' z).before args s = true) (e : z.cls = y.cls) (hpriv : s.PrivateAt y) (hinst : (Jvm.Cond.instanceMethod y).before args s = true) (hy : y.cls ≠ "java/lang/invoke/MethodHandle" ∧ y.cls ≠ "java/lang/invoke/VarHandle") : (Jvm.Cond.selects y.cls y y).before args s = true := by
  obtain ⟨c, r, m, -, -, h3, -, mk, h5, h6⟩ := Cond.selects_spec hs
  exact selects_self_of_private (e ▸ findClass_of_methodNamed h3) h5 h6 hpriv hinst hy
theorem own_nar_boolean {x : Int32} (h : nar .boolean x = x) : narrow .boolean (.int x) = .int x := congrArg Value.int h
theorem own_fits_boolean {x : Int32} (h : nar .boolean x = x) : fits .boolean (.int x) = true := h ▸ fits_nar_bool x
theorem own_nar_char {x : Int32} (h : nar .char x = x) : narrow .char (.int x) = .int x := congrArg Value.int h
theorem own_fits_char {x : Int32} (h : nar .char x = x) : fits .char (.int x) = true := h ▸ fits_nar_char x
theorem own_nar_ref {v : Value} {C : String} (h : v.isRef = true) : narrow (.object C) v = v := by rcases ref_cases h with rfl | ⟨a, rfl⟩ <;> rfl
theorem own_fits_ref {v : Value} {C : String} (h : v.isRef = true) : fits (.object C) v = true := by rcases ref_cases h with rfl | ⟨a, rfl⟩ <;> rfl
theorem own_c1 {v : Value} (h : v.isRef = true) : v.category = 1 := by rcases ref_cases h with rfl | ⟨a, rfl⟩ <;> rfl
theorem own_ext_of_keep {h h' : Heap} (K : Keep h h' []) : Ext h h' := ⟨K.1, fun a c q => K.2.1 a c q nin0⟩
theorem own_ext_refl (h : Heap) : Ext h h := ⟨Nat.le_refl _, fun _ _ q => q⟩
theorem own_ext_trans {h h' h'' : Heap} (E : Ext h h') (E' : Ext h' h'') : Ext h h'' := ⟨Nat.le_trans E.1 E'.1, fun a c q => E'.2 a c (E.2 a c q)⟩
end OwnMore
theorem own_j {p : Program} {e : Env} {below : List Frame} {s : State} {Q : Option Value → Heap → List Loc → Prop} {kc ks : Nat} {T : State} {m : MethodId} {c0 : Nat} {L : Array Slot} {S0 : List Value} (c : Nat) (S : List Value) (f : ∀ t, Steps p.tables e below (T.setTop (mkF m c L S)) t → Steps p.tables e below (T.setTop (mkF m c0 L S0)) t) (h : own_Go p e below s Q kc ks (T.setTop (mkF m c L S))) : own_Go p e below s Q kc ks (T.setTop (mkF m c0 L S0)) := own_st f h
theorem own_k {p : Program} {e : Env} {below : List Frame} {s : State} {Q : Option Value → Heap → List Loc → Prop} {kc ks : Nat} {T : State} {m : MethodId} {c0 : Nat} {L : Array Slot} {S0 : List Value} (T' : State) (c : Nat) (S : List Value) (f : ∀ t, Steps p.tables e below (T'.setTop (mkF m c L S)) t → Steps p.tables e below (T.setTop (mkF m c0 L S0)) t) (h : own_Go p e below s Q kc ks (T'.setTop (mkF m c L S))) : own_Go p e below s Q kc ks (T.setTop (mkF m c0 L S0)) := own_st f h
abbrev own_tb (a0 : Array Value) (Z : State) : Prop := ∀ d ∈ tables_1, d.before a0 Z = true
abbrev own_Ct (lL : Launch) (Z : State) (y : MethodName) (bytes : ByteArray) (mx : Nat) (rt : Option FieldType) (ws : List Jvm.Cond) (rm : Room) (A : Array Value) (h0 : Heap) (Q : Option Value → Heap → List Loc → Prop) : Prop := MetFree lL y (head1 (Jvm.Cond.code y bytes mx rt :: ws) rm) (fun as_ uU_ => as_ = A ∧ Z.Warmed39 uU_.vm ∧ uU_.heap = h0) (fun _ _ _ _ _ => True) (fun _ uU_ oO_ uE_ => ∃ vV_ lL_, oO_ = .returned vV_ ∧ Q vV_ uE_.heap lL_ ∧ FrameEnd uU_ oO_ uE_ lL_ rm.cells rm.slots)
theorem own_body {lL : Launch} {Z : State} {y : MethodName} {bytes : ByteArray} {mx : Nat} {rt : Option FieldType} {ws : List Jvm.Cond} {rm : Room} {A : Array Value} {L : Array Slot} {h0 : Heap} {Q : Option Value → Heap → List Loc → Prop} (pn : plainFor y = true) (kc ks : Nat) (hc : rm.cells = kc) (hs : rm.slots = ks) (hE : ∀ mM, entryFrame mM A mx = mkF mM 0 L [])
    (k : ∀ (pP : Program) (eE : Env) (sS : State) (mM : MethodId) (below : List Frame) (meth : Method) (cC : Code) (s₁ : State), Z.Warmed39 sS.vm → pP.tables.exec = Jvm.exec → cC.code = bytes → cC.maxLocals = mx → sS.vm.findClass y.cls = some mM.cls → meth.name = y.name → meth.sig.returnType = rt → meth.locks = false → Stand pP lL eE rm sS mM A below meth cC s₁ [] 0 0 → s₁.heap = h0 → own_Go pP eE below sS Q kc ks (s₁.setTop (mkF mM 0 L []))) : own_Ct lL Z y bytes mx rt ws rm A h0 Q := by
  subst hc hs
  refine MetFree.of_bodySF pn hisR ?_
  intro pP eE sS mM args below meth cC s₁ Bd hml hP hK
  obtain ⟨rfl, hZ, hh⟩ := hP
  have := k pP eE sS mM below meth cC s₁ hZ Bd.exec Bd.bytes hml (findClass_of_methodNamed Bd.named) (name_of_methodNamed Bd.named Bd.method).1 Bd.returns (BodyLoose.notSynchronized Bd) (Stand.of_body Bd) (by rw [← hh, Bd.state]; rfl)
  rw [← hE] at this; exact this
theorem ow {a0 : Array Value} {Z : State} (hw : own_tb a0 Z) (i : Nat) {d : Jvm.Cond} (h : tables_1[i]? = some d) : d.before a0 Z = true := hw _ (List.mem_of_getElem? h)
theorem o_iload {p : Program} {e : Env} {below : List Frame} {s : State} {Q : Option Value → Heap → List Loc → Prop} {kc ks : Nat} {T : State} {m : MethodId} {s' : State} {l : Launch} {R : Room} {args : Array Value} {meth : Method} {c : Code} {locs : List Loc} {cells slots : Nat} {pc : Nat} {L : Array Slot} {S : List Value} (n : Nat) (X : Stand p l e R s' m args below meth c T locs cells slots) (hx : p.tables.exec = Jvm.exec) {k : Nat} {v : Int32} (hd : decode c.code pc = .ok (.iload k, 2)) (hl : L[k]? = some (.val (.int v))) (hn : pc + 2 = n) (h : own_Go p e below s Q kc ks (T.setTop (mkF m n L (.int v :: S)))) : own_Go p e below s Q kc ks (T.setTop (mkF m pc L S)) := by
  subst hn; exact own_st (fun t k => XS.iload X.here hx rfl hd hl k) h
theorem o_iloadN {p : Program} {e : Env} {below : List Frame} {s : State} {Q : Option Value → Heap → List Loc → Prop} {kc ks : Nat} {T : State} {m : MethodId} {s' : State} {l : Launch} {R : Room} {args : Array Value} {meth : Method} {c : Code} {locs : List Loc} {cells slots : Nat} {pc : Nat} {L : Array Slot} {S : List Value} (n : Nat) (X : Stand p l e R s' m args below meth c T locs cells slots) (hx : p.tables.exec = Jvm.exec) {k : Fin 4} {v : Int32} (hd : decode c.code pc = .ok (.iload_n k, 1)) (hl : L[k.val]? = some (.val (.int v))) (hn : pc + 1 = n) (h : own_Go p e below s Q kc ks (T.setTop (mkF m n L (.int v :: S)))) : own_Go p e below s Q kc ks (T.setTop (mkF m pc L S)) := by
  subst hn; exact own_st (fun t k => XS.iloadN X.here hx rfl hd hl k) h
theorem o_lload {p : Program} {e : Env} {below : List Frame} {s : State} {Q : Option Value → Heap → List Loc → Prop} {kc ks : Nat} {T : State} {m : MethodId} {s' : State} {l : Launch} {R : Room} {args : Array Value} {meth : Method} {c : Code} {locs : List Loc} {cells slots : Nat} {pc : Nat} {L : Array Slot} {S : List Value} (n : Nat) (X : Stand p l e R s' m args below meth c T locs cells slots) (hx : p.tables.exec = Jvm.exec) {k : Nat} {v : Int64} (hd : decode c.code pc = .ok (.lload k, 2)) (hl : L[k]? = some (.val (.long v))) (hn : pc + 2 = n) (h : own_Go p e below s Q kc ks (T.setTop (mkF m n L (.long v :: S)))) : own_Go p e below s Q kc ks (T.setTop (mkF m pc L S)) := by
  subst hn; exact own_st (fun t k => XS.lload X.here hx rfl hd hl k) h
theorem o_lloadN {p : Program} {e : Env} {below : List Frame} {s : State} {Q : Option Value → Heap → List Loc → Prop} {kc ks : Nat} {T : State} {m : MethodId} {s' : State} {l : Launch} {R : Room} {args : Array Value} {meth : Method} {c : Code} {locs : List Loc} {cells slots : Nat} {pc : Nat} {L : Array Slot} {S : List Value} (n : Nat) (X : Stand p l e R s' m args below meth c T locs cells slots) (hx : p.tables.exec = Jvm.exec) {k : Fin 4} {v : Int64} (hd : decode c.code pc = .ok (.lload_n k, 1)) (hl : L[k.val]? = some (.val (.long v))) (hn : pc + 1 = n) (h : own_Go p e below s Q kc ks (T.setTop (mkF m n L (.long v :: S)))) : own_Go p e below s Q kc ks (T.setTop (mkF m pc L S)) := by
  subst hn; exact own_st (fun t k => XS.lloadN X.here hx rfl hd hl k) h
theorem o_aload {p : Program} {e : Env} {below : List Frame} {s : State} {Q : Option Value → Heap → List Loc → Prop} {kc ks : Nat} {T : State} {m : MethodId} {s' : State} {l : Launch} {R : Room} {args : Array Value} {meth : Method} {c : Code} {locs : List Loc} {cells slots : Nat} {pc : Nat} {L : Array Slot} {S : List Value} (n : Nat) (X : Stand p l e R s' m args below meth c T locs cells slots) (hx : p.tables.exec = Jvm.exec) {k : Nat} {v : Value} (hd : decode c.code pc = .ok (.aload k, 2)) (hl : L[k]? = some (.val v)) (hv : v.isRef = true) (hn : pc + 2 = n) (h : own_Go p e below s Q kc ks (T.setTop (mkF m n L (v :: S)))) : own_Go p e below s Q kc ks (T.setTop (mkF m pc L S)) := by
  subst hn; exact own_st (fun t k => XS.aload X.here hx rfl hd hl hv k) h
theorem o_aloadN {p : Program} {e : Env} {below : List Frame} {s : State} {Q : Option Value → Heap → List Loc → Prop} {kc ks : Nat} {T : State} {m : MethodId} {s' : State} {l : Launch} {R : Room} {args : Array Value} {meth : Method} {c : Code} {locs : List Loc} {cells slots : Nat} {pc : Nat} {L : Array Slot} {S : List Value} (n : Nat) (X : Stand p l e R s' m args below meth c T locs cells slots) (hx : p.tables.exec = Jvm.exec) {k : Fin 4} {v : Value} (hd : decode c.code pc = .ok (.aload_n k, 1)) (hl : L[k.val]? = some (.val v)) (hv : v.isRef = true) (hn : pc + 1 = n) (h : own_Go p e below s Q kc ks (T.setTop (mkF m n L (v :: S)))) : own_Go p e below s Q kc ks (T.setTop (mkF m pc L S)) := by
  subst hn; exact own_st (fun t k => XS.aloadN X.here hx rfl hd hl hv k) h
theorem o_iconst {p : Program} {e : Env} {below : List Frame} {s : State} {Q : Option Value → Heap → List Loc → Prop} {kc ks : Nat} {T : State} {m : MethodId} {s' : State} {l : Launch} {R : Room} {args : Array Value} {meth : Method} {c : Code} {locs : List Loc} {cells slots : Nat} {pc : Nat} {L : Array Slot} {S : List Value} (n : Nat) (z : Int32) (X : Stand p l e R s' m args below meth c T locs cells slots) (hx : p.tables.exec = Jvm.exec) {i : Int} (hd : decode c.code pc = .ok (.iconst i, 1)) (hz : Int32.ofInt i = z) (hn : pc + 1 = n) (h : own_Go p e below s Q kc ks (T.setTop (mkF m n L (.int z :: S)))) : own_Go p e below s Q kc ks (T.setTop (mkF m pc L S)) := by
  subst hn hz; exact own_st (fun t k => XS.iconst X.here hx rfl hd k) h
theorem o_bipush {p : Program} {e : Env} {below : List Frame} {s : State} {Q : Option Value → Heap → List Loc → Prop} {kc ks : Nat} {T : State} {m : MethodId} {s' : State} {l : Launch} {R : Room} {args : Array Value} {meth : Method} {c : Code} {locs : List Loc} {cells slots : Nat} {pc : Nat} {L : Array Slot} {S : List Value} (n : Nat) (z : Int32) (X : Stand p l e R s' m args below meth c T locs cells slots) (hx : p.tables.exec = Jvm.exec) {i : Int} (hd : decode c.code pc = .ok (.bipush i, 2)) (hz : (Int8.ofInt i).toInt32 = z) (hn : pc + 2 = n) (h : own_Go p e below s Q kc ks (T.setTop (mkF m n L (.int z :: S)))) : own_Go p e below s Q kc ks (T.setTop (mkF m pc L S)) := by
  subst hn hz; exact own_st (fun t k => XS.bipush X.here hx rfl hd k) h
theorem o_sipush {p : Program} {e : Env} {below : List Frame} {s : State} {Q : Option Value → Heap → List Loc → Prop} {kc ks : Nat} {T : State} {m : MethodId} {s' : State} {l : Launch} {R : Room} {args : Array Value} {meth : Method} {c : Code} {locs : List Loc} {cells slots : Nat} {pc : Nat} {L : Array Slot} {S : List Value} (n : Nat) (z : Int32) (X : Stand p l e R s' m args below meth c T locs cells slots) (hx : p.tables.exec = Jvm.exec) {i : Int} (hd : decode c.code pc = .ok (.sipush i, 3)) (hz : (Int16.ofInt i).toInt32 = z) (hn : pc + 3 = n) (h : own_Go p e below s Q kc ks (T.setTop (mkF m n L (.int z :: S)))) : own_Go p e below s Q kc ks (T.setTop (mkF m pc L S)) := by
  subst hn hz; exact own_st (fun t k => XS.sipush X.here hx rfl hd k) h
theorem o_dup {p : Program} {e : Env} {below : List Frame} {s : State} {Q : Option Value → Heap → List Loc → Prop} {kc ks : Nat} {T : State} {m : MethodId} {s' : State} {l : Launch} {R : Room} {args : Array Value} {meth : Method} {c : Code} {locs : List Loc} {cells slots : Nat} {pc : Nat} {L : Array Slot} {S : List Value} (n : Nat) (X : Stand p l e R s' m args below meth c T locs cells slots) (hx : p.tables.exec = Jvm.exec) {x : Value} (hd : decode c.code pc = .ok (.dup, 1)) (hc : x.category = 1) (hn : pc + 1 = n) (h : own_Go p e below s Q kc ks (T.setTop (mkF m n L (x :: x :: S)))) : own_Go p e below s Q kc ks (T.setTop (mkF m pc L (x :: S))) := by
  subst hn; exact own_st (fun t k => XS.dup X.here hx rfl hd rfl hc k) h
theorem o_icmpNo {p : Program} {e : Env} {below : List Frame} {s : State} {Q : Option Value → Heap → List Loc → Prop} {kc ks : Nat} {T : State} {m : MethodId} {s' : State} {l : Launch} {R : Room} {args : Array Value} {meth : Method} {c : Code} {locs : List Loc} {cells slots : Nat} {pc : Nat} {L : Array Slot} {S : List Value} (n : Nat) (X : Stand p l e R s' m args below meth c T locs cells slots) (hx : p.tables.exec = Jvm.exec) {cd : ClassFile.Cond} {x y : Int32} {o : Int} (hd : decode c.code pc = .ok (.if_icmp cd o, 3)) (hc : if_icmp.holds cd x y = false) (hn : pc + 3 = n) (h : own_Go p e below s Q kc ks (T.setTop (mkF m n L S))) : own_Go p e below s Q kc ks (T.setTop (mkF m pc L (.int y :: .int x :: S))) := by
  subst hn; exact own_st (fun t k => XS.icmpNo X.here hx rfl hd rfl hc k) h
theorem o_icmpYes {p : Program} {e : Env} {below : List Frame} {s : State} {Q : Option Value → Heap → List Loc → Prop} {kc ks : Nat} {T : State} {m : MethodId} {s' : State} {l : Launch} {R : Room} {args : Array Value} {meth : Method} {c : Code} {locs : List Loc} {cells slots : Nat} {pc : Nat} {L : Array Slot} {S : List Value} (n : Nat) (X : Stand p l e R s' m args below meth c T locs cells slots) (hx : p.tables.exec = Jvm.exec) {cd : ClassFile.Cond} {x y : Int32} {o : Int} (hd : decode c.code pc = .ok (.if_icmp cd o, 3)) (hc : if_icmp.holds cd x y = true) (hp : 0 ≤ (pc : Int) + o ∧ ((pc : Int) + o).toNat = n) (h : own_Go p e below s Q kc ks (T.setTop (mkF m n L S))) : own_Go p e below s Q kc ks (T.setTop (mkF m pc L (.int y :: .int x :: S))) := by
  exact own_st (fun t k => XS.icmpYes X.here hx rfl (pc0 := pc) (pc' := n) rfl hd rfl hc hp.1 hp.2 k) h
theorem o_ifNo {p : Program} {e : Env} {below : List Frame} {s : State} {Q : Option Value → Heap → List Loc → Prop} {kc ks : Nat} {T : State} {m : MethodId} {s' : State} {l : Launch} {R : Room} {args : Array Value} {meth : Method} {c : Code} {locs : List Loc} {cells slots : Nat} {pc : Nat} {L : Array Slot} {S : List Value} (n : Nat) (X : Stand p l e R s' m args below meth c T locs cells slots) (hx : p.tables.exec = Jvm.exec) {cd : ClassFile.Cond} {x : Int32} {o : Int} (hd : decode c.code pc = .ok (.ifCond cd o, 3)) (hc : ifCond.holds cd x = false) (hn : pc + 3 = n) (h : own_Go p e below s Q kc ks (T.setTop (mkF m n L S))) : own_Go p e below s Q kc ks (T.setTop (mkF m pc L (.int x :: S))) := by
  subst hn; exact own_st (fun t k => XS.ifNo X.here hx rfl hd rfl hc k) h
theorem o_ifYes {p : Program} {e : Env} {below : List Frame} {s : State} {Q : Option Value → Heap → List Loc → Prop} {kc ks : Nat} {T : State} {m : MethodId} {s' : State} {l : Launch} {R : Room} {args : Array Value} {meth : Method} {c : Code} {locs : List Loc} {cells slots : Nat} {pc : Nat} {L : Array Slot} {S : List Value} (n : Nat) (X : Stand p l e R s' m args below meth c T locs cells slots) (hx : p.tables.exec = Jvm.exec) {cd : ClassFile.Cond} {x : Int32} {o : Int} (hd : decode c.code pc = .ok (.ifCond cd o, 3)) (hc : ifCond.holds cd x = true) (hp : 0 ≤ (pc : Int) + o ∧ ((pc : Int) + o).toNat = n) (h : own_Go p e below s Q kc ks (T.setTop (mkF m n L S))) : own_Go p e below s Q kc ks (T.setTop (mkF m pc L (.int x :: S))) := by
  exact own_st (fun t k => XS.ifYes X.here hx rfl (pc0 := pc) (pc' := n) rfl hd rfl hc hp.1 hp.2 k) h
theorem o_goto {p : Program} {e : Env} {below : List Frame} {s : State} {Q : Option Value → Heap → List Loc → Prop} {kc ks : Nat} {T : State} {m : MethodId} {s' : State} {l : Launch} {R : Room} {args : Array Value} {meth : Method} {c : Code} {locs : List Loc} {cells slots : Nat} {pc : Nat} {L : Array Slot} {S : List Value} (n : Nat) (X : Stand p l e R s' m args below meth c T locs cells slots) (hx : p.tables.exec = Jvm.exec) {o : Int} (hd : decode c.code pc = .ok (.goto o, 3)) (hp : 0 ≤ (pc : Int) + o ∧ ((pc : Int) + o).toNat = n) (h : own_Go p e below s Q kc ks (T.setTop (mkF m n L S))) : own_Go p e below s Q kc ks (T.setTop (mkF m pc L S)) := by
  exact own_st (fun t k => XS.goto X.here hx rfl (pc0 := pc) (pc' := n) rfl hd hp.1 hp.2 k) h
abbrev yn0 : MethodName := ⟨"java/lang/StringLatin1", "equals", "([B[B)Z"⟩
abbrev yn1 : MethodName := ⟨"java/lang/String", "equals", "(Ljava/lang/Object;)Z"⟩
abbrev yn2 : MethodName := ⟨"com/example/slotwright/slotwright/model/LinkTypeOfKeyPinLaw", "reference", "(Ljava/lang/String;)Lcom/example/slotwright/slotwright/model/LinkType;"⟩
abbrev yn3 : MethodName := ⟨"com/example/slotwright/slotwright/model/LinkType", "values", "()[Lcom/example/slotwright/slotwright/model/LinkType;"⟩
abbrev yn4 : MethodName := ⟨"com/example/slotwright/slotwright/model/LinkType", "ofKey", "(Ljava/lang/String;)Lcom/example/slotwright/slotwright/model/LinkType;"⟩
abbrev yn5 : MethodName := ⟨"java/lang/StringUTF16", "compress", "([CI[BII)I"⟩
abbrev yn6 : MethodName := ⟨"java/lang/StringUTF16", "compress", "([CII)[B"⟩
abbrev yn7 : MethodName := ⟨"java/lang/StringUTF16", "coderFromArrayLen", "([BI)B"⟩
abbrev yn8 : MethodName := ⟨"java/lang/String", "<init>", "([CIILjava/lang/Void;)V"⟩
abbrev yn9 : MethodName := ⟨"java/lang/String", "<init>", "([C)V"⟩
abbrev yn10 : MethodName := ⟨"java/lang/StringLatin1", "canEncode", "(C)Z"⟩
abbrev yn11 : MethodName := ⟨"java/lang/StringLatin1", "toBytes", "(C)[B"⟩
abbrev yn12 : MethodName := ⟨"java/lang/String", "<init>", "([BB)V"⟩
abbrev yn13 : MethodName := ⟨"java/lang/String", "valueOf", "(C)Ljava/lang/String;"⟩
abbrev yn14 : MethodName := ⟨"com/example/slotwright/slotwright/model/LinkTypeOfKeyPinLaw", "drawn", "(II)Ljava/lang/String;"⟩
abbrev yn15 : MethodName := ⟨"com/example/slotwright/slotwright/model/LinkTypeOfKeyPinLaw", "keyChars", "(I)[C"⟩
abbrev yn16 : MethodName := ⟨"com/example/slotwright/slotwright/model/LinkTypeOfKeyPinLaw", "extended", "(IC)[C"⟩
abbrev yn17 : MethodName := ⟨"com/example/slotwright/slotwright/model/LinkTypeOfKeyPinLaw", "truncated", "(I)[C"⟩
variable {pP : Program} {lL : Launch} {eE : Env} {sS : State} {mM : MethodId} {args : Array Value} {below : List Frame} {meth : Method} {cC : Code} {T0 : State} {locs : List Loc} {Z : State} {a0 : Array Value} {h0 : Heap} {n0 : Nat}
section OwnWide
variable {p : Program} {l : Launch} {e : Env} {R : Room} {s : State} {m : MethodId} {args : Array Value} {below : List Frame} {meth : Method} {c : Code} {T : State} {locs : List Loc} {cells slots : Nat} {Q : Option Value → Heap → List Loc → Vm → Prop} {kc ks : Nat} {vm1 : Vm} {n : Nat}
/-- own_Go, where String constants may have been interned meanwhile -/
def own_GoW (p : Program) (e : Env) (below : List Frame) (s : State) (Q : Option Value → Heap → List Loc → Vm → Prop) (kc ks : Nat) (S : State) : Prop :=
  ∃ s₂ o, Steps p.tables e below S s₂ ∧ s₂.status = .running ∧ Ended s₂ below o ∧ ∃ v L, o = .returned v ∧ Q v s₂.heap L s₂.vm ∧ ReturnedEndW s o s₂ L kc ks
theorem own_stW {A B : State} (f : ∀ t, Steps p.tables e below A t → Steps p.tables e below B t) (h : own_GoW p e below s Q kc ks A) : own_GoW p e below s Q kc ks B := by
  obtain ⟨s₂, o, h1, h2⟩ := h
  exact ⟨s₂, o, f _ h1, h2⟩
theorem own_jW {c0 : Nat} {L : Array Slot} {S0 : List Value} (c : Nat) (S : List Value) (f : ∀ t, Steps p.tables e below (T.setTop (mkF m c L S)) t → Steps p.tables e below (T.setTop (mkF m c0 L S0)) t) (h : own_GoW p e below s Q kc ks (T.setTop (mkF m c L S))) : own_GoW p e below s Q kc ks (T.setTop (mkF m c0 L S0)) := own_stW f h
theorem own_kW {c0 : Nat} {L : Array Slot} {S0 : List Value} (T' : State) (c : Nat) (S : List Value) (f : ∀ t, Steps p.tables e below (T'.setTop (mkF m c L S)) t → Steps p.tables e below (T.setTop (mkF m c0 L S0)) t) (h : own_GoW p e below s Q kc ks (T'.setTop (mkF m c L S))) : own_GoW p e below s Q kc ks (T.setTop (mkF m c0 L S0)) := own_stW f h
theorem o_iloadW {s' : State} {pc : Nat} {L : Array Slot} {S : List Value} (n : Nat) (X : Stand p l e R s' m args below meth c T locs cells slots) (hx : p.tables.exec = Jvm.exec) {k : Nat} {v : Int32} (hd : decode c.code pc = .ok (.iload k, 2)) (hl : L[k]? = some (.val (.int v))) (hn : pc + 2 = n) (h : own_GoW p e below s Q kc ks (T.setTop (mkF m n L (.int v :: S)))) : own_GoW p e below s Q kc ks (T.setTop (mkF m pc L S)) := by
  subst hn; exact own_stW (fun t k => XS.iload X.here hx rfl hd hl k) h
theorem o_iloadNW {s' : State} {pc : Nat} {L : Array Slot} {S : List Value} (n : Nat) (X : Stand p l e R s' m args below meth c T locs cells slots) (hx : p.tables.exec = Jvm.exec) {k : Fin 4} {v : Int32} (hd : decode c.code pc = .ok (.iload_n k, 1)) (hl : L[k.val]? = some (.val (.int v))) (hn : pc + 1 = n) (h : own_GoW p e below s Q kc ks (T.setTop (mkF m n L (.int v :: S)))) : own_GoW p e below s Q kc ks (T.setTop (mkF m pc L S)) := by
  subst hn; exact own_stW (fun t k => XS.iloadN X.here hx rfl hd hl k) h
theorem o_lloadW {s' : State} {pc : Nat} {L : Array Slot} {S : List Value} (n : Nat) (X : Stand p l e R s' m args below meth c T locs cells slots) (hx : p.tables.exec = Jvm.exec) {k : Nat} {v : Int64} (hd : decode c.code pc = .ok (.lload k, 2)) (hl : L[k]? = some (.val (.long v))) (hn : pc + 2 = n) (h : own_GoW p e below s Q kc ks (T.setTop (mkF m n L (.long v :: S)))) : own_GoW p e below s Q kc ks (T.setTop (mkF m pc L S)) := by
  subst hn; exact own_stW (fun t k => XS.lload X.here hx rfl hd hl k) h
theorem o_lloadNW {s' : State} {pc : Nat} {L : Array Slot} {S : List Value} (n : Nat) (X : Stand p l e R s' m args below meth c T locs cells slots) (hx : p.tables.exec = Jvm.exec) {k : Fin 4} {v : Int64} (hd : decode c.code pc = .ok (.lload_n k, 1)) (hl : L[k.val]? = some (.val (.long v))) (hn : pc + 1 = n) (h : own_GoW p e below s Q kc ks (T.setTop (mkF m n L (.long v :: S)))) : own_GoW p e below s Q kc ks (T.setTop (mkF m pc L S)) := by
  subst hn; exact own_stW (fun t k => XS.lloadN X.here hx rfl hd hl k) h
theorem o_aloadW {s' : State} {pc : Nat} {L : Array Slot} {S : List Value} (n : Nat) (X : Stand p l e R s' m args below meth c T locs cells slots) (hx : p.tables.exec = Jvm.exec) {k : Nat} {v : Value} (hd : decode c.code pc = .ok (.aload k, 2)) (hl : L[k]? = some (.val v)) (hv : v.isRef = true) (hn : pc + 2 = n) (h : own_GoW p e below s Q kc ks (T.setTop (mkF m n L (v :: S)))) : own_GoW p e below s Q kc ks (T.setTop (mkF m pc L S)) := by
  subst hn; exact own_stW (fun t k => XS.aload X.here hx rfl hd hl hv k) h
theorem o_aloadNW {s' : State} {pc : Nat} {L : Array Slot} {S : List Value} (n : Nat) (X : Stand p l e R s' m args below meth c T locs cells slots) (hx : p.tables.exec = Jvm.exec) {k : Fin 4} {v : Value} (hd : decode c.code pc = .ok (.aload_n k, 1)) (hl : L[k.val]? = some (.val v)) (hv : v.isRef = true) (hn : pc + 1 = n) (h : own_GoW p e below s Q kc ks (T.setTop (mkF m n L (v :: S)))) : own_GoW p e below s Q kc ks (T.setTop (mkF m pc L S)) := by
  subst hn; exact own_stW (fun t k => XS.aloadN X.here hx rfl hd hl hv k) h
theorem o_iconstW {s' : State} {pc : Nat} {L : Array Slot} {S : List Value} (n : Nat) (z : Int32) (X : Stand p l e R s' m args below meth c T locs cells slots) (hx : p.tables.exec = Jvm.exec) {i : Int} (hd : decode c.code pc = .ok (.iconst i, 1)) (hz : Int32.ofInt i = z) (hn : pc + 1 = n) (h : own_GoW p e below s Q kc ks (T.setTop (mkF m n L (.int z :: S)))) : own_GoW p e below s Q kc ks (T.setTop (mkF m pc L S)) := by
  subst hn hz; exact own_stW (fun t k => XS.iconst X.here hx rfl hd k) h
theorem o_bipushW {s' : State} {pc : Nat} {L : Array Slot} {S : List Value} (n : Nat) (z : Int32) (X : Stand p l e R s' m args below meth c T locs cells slots) (hx : p.tables.exec = Jvm.exec) {i : Int} (hd : decode c.code pc = .ok (.bipush i, 2)) (hz : (Int8.ofInt i).toInt32 = z) (hn : pc + 2 = n) (h : own_GoW p e below s Q kc ks (T.setTop (mkF m n L (.int z :: S)))) : own_GoW p e below s Q kc ks (T.setTop (mkF m pc L S)) := by
  subst hn hz; exact own_stW (fun t k => XS.bipush X.here hx rfl hd k) h
theorem o_sipushW {s' : State} {pc : Nat} {L : Array Slot} {S : List Value} (n : Nat) (z : Int32) (X : Stand p l e R s' m args below meth c T locs cells slots) (hx : p.tables.exec = Jvm.exec) {i : Int} (hd : decode c.code pc = .ok (.sipush i, 3)) (hz : (Int16.ofInt i).toInt32 = z) (hn : pc + 3 = n) (h : own_GoW p e below s Q kc ks (T.setTop (mkF m n L (.int z :: S)))) : own_GoW p e below s Q kc ks (T.setTop (mkF m pc L S)) := by
  subst hn hz; exact own_stW (fun t k => XS.sipush X.here hx rfl hd k) h
theorem o_dupW {s' : State} {pc : Nat} {L : Array Slot} {S : List Value} (n : Nat) (X : Stand p l e R s' m args below meth c T locs cells slots) (hx : p.tables.exec = Jvm.exec) {x : Value} (hd : decode c.code pc = .ok (.dup, 1)) (hc : x.category = 1) (hn : pc + 1 = n) (h : own_GoW p e below s Q kc ks (T.setTop (mkF m n L (x :: x :: S)))) : own_GoW p e below s Q kc ks (T.setTop (mkF m pc L (x :: S))) := by
  subst hn; exact own_stW (fun t k => XS.dup X.here hx rfl hd rfl hc k) h
theorem o_icmpNoW {s' : State} {pc : Nat} {L : Array Slot} {S : List Value} (n : Nat) (X : Stand p l e R s' m args below meth c T locs cells slots) (hx : p.tables.exec = Jvm.exec) {cd : ClassFile.Cond} {x y : Int32} {o : Int} (hd : decode c.code pc = .ok (.if_icmp cd o, 3)) (hc : if_icmp.holds cd x y = false) (hn : pc + 3 = n) (h : own_GoW p e below s Q kc ks (T.setTop (mkF m n L S))) : own_GoW p e below s Q kc ks (T.setTop (mkF m pc L (.int y :: .int x :: S))) := by
  subst hn; exact own_stW (fun t k => XS.icmpNo X.here hx rfl hd rfl hc k) h
theorem o_icmpYesW {s' : State} {pc : Nat} {L : Array Slot} {S : List Value} (n : Nat) (X : Stand p l e R s' m args below meth c T locs cells slots) (hx : p.tables.exec = Jvm.exec) {cd : ClassFile.Cond} {x y : Int32} {o : Int} (hd : decode c.code pc = .ok (.if_icmp cd o, 3)) (hc : if_icmp.holds cd x y = true) (hp : 0 ≤ (pc : Int) + o ∧ ((pc : Int) + o).toNat = n) (h : own_GoW p e below s Q kc ks (T.setTop (mkF m n L S))) : own_GoW p e below s Q kc ks (T.setTop (mkF m pc L (.int y :: .int x :: S))) := by
  exact own_stW (fun t k => XS.icmpYes X.here hx rfl (pc0 := pc) (pc' := n) rfl hd rfl hc hp.1 hp.2 k) h
theorem o_ifNoW {s' : State} {pc : Nat} {L : Array Slot} {S : List Value} (n : Nat) (X : Stand p l e R s' m args below meth c T locs cells slots) (hx : p.tables.exec = Jvm.exec) {cd : ClassFile.Cond} {x : Int32} {o : Int} (hd : decode c.code pc = .ok (.ifCond cd o, 3)) (hc : ifCond.holds cd x = false) (hn : pc + 3 = n) (h : own_GoW p e below s Q kc ks (T.setTop (mkF m n L S))) : own_GoW p e below s Q kc ks (T.setTop (mkF m pc L (.int x :: S))) := by
  subst hn; exact own_stW (fun t k => XS.ifNo X.here hx rfl hd rfl hc k) h
theorem o_ifYesW {s' : State} {pc : Nat} {L : Array Slot} {S : List Value} (n : Nat) (X : Stand p l e R s' m args below meth c T locs cells slots) (hx : p.tables.exec = Jvm.exec) {cd : ClassFile.Cond} {x : Int32} {o : Int} (hd : decode c.code pc = .ok (.ifCond cd o, 3)) (hc : ifCond.holds cd x = true) (hp : 0 ≤ (pc : Int) + o ∧ ((pc : Int) + o).toNat = n) (h : own_GoW p e below s Q kc ks (T.setTop (mkF m n L S))) : own_GoW p e below s Q kc ks (T.setTop (mkF m pc L (.int x :: S))) := by
  exact own_stW (fun t k => XS.ifYes X.here hx rfl (pc0 := pc) (pc' := n) rfl hd rfl hc hp.1 hp.2 k) h
theorem o_gotoW {s' : State} {pc : Nat} {L : Array Slot} {S : List Value} (n : Nat) (X : Stand p l e R s' m args below meth c T locs cells slots) (hx : p.tables.exec = Jvm.exec) {o : Int} (hd : decode c.code pc = .ok (.goto o, 3)) (hp : 0 ≤ (pc : Int) + o ∧ ((pc : Int) + o).toNat = n) (h : own_GoW p e below s Q kc ks (T.setTop (mkF m n L S))) : own_GoW p e below s Q kc ks (T.setTop (mkF m pc L S)) := by
  exact own_stW (fun t k => XS.goto X.here hx rfl (pc0 := pc) (pc' := n) rfl hd hp.1 hp.2 k) h
theorem own_retWN (X : Stand p l e R (s.setVm vm1) m args below meth c T locs cells slots) (hx : p.tables.exec = Jvm.exec) (hlk : meth.locks = false) (hS : s.Since vm1 n) (hn : n ≤ T.heap.size) {pc : Nat} {Ls : Array Slot} {z : Int32} {t : FieldType} {rest : List Value} (hret : meth.sig.returnType = some t) (ht : t = .boolean ∨ t = .byte ∨ t = .char ∨ t = .short)
    (hd : decode c.code pc = .ok (.ireturn, 1)) (hq : Q (some (.int (nar t z))) T.heap locs T.vm) (hc : cells ≤ kc) (hs : slots ≤ ks) : own_GoW p e below s Q kc ks (T.setTop (mkF m pc Ls (.int z :: rest))) := by
  obtain ⟨fs, hr, hrun, hended, h1, h2, h3, h4⟩ := X.leaveW hS hn (v := some (.int (nar t z))) (fun h => by rw [hret] at h; cases h) hlk
  exact ⟨_, _, retN X hx hret ht hd hr, hrun, hended, _, _, rfl, hq, h1, h2, h3, h4.mono hc hs⟩
theorem own_retWA (X : Stand p l e R (s.setVm vm1) m args below meth c T locs cells slots) (hx : p.tables.exec = Jvm.exec) (hlk : meth.locks = false) (hS : s.Since vm1 n) (hn : n ≤ T.heap.size) {pc : Nat} {Ls : Array Slot} {w : Value} {t : FieldType} {rest : List Value} (hret : meth.sig.returnType = some t) (ht : t.isReference = true) (hw : w.isRef = true)
    (hd : decode c.code pc = .ok (.areturn, 1)) (hq : Q (some w) T.heap locs T.vm) (hc : cells ≤ kc) (hs : slots ≤ ks) : own_GoW p e below s Q kc ks (T.setTop (mkF m pc Ls (w :: rest))) := by
  obtain ⟨fs, hr, hrun, hended, h1, h2, h3, h4⟩ := X.leaveW hS hn (v := some w) (fun h => by rw [hret] at h; cases h) hlk
  exact ⟨_, _, retOut X hx hret (by rcases ref_cases hw with rfl | ⟨a, rfl⟩ <;> cases t <;> first | rfl | cases ht) (Or.inr (Or.inr (Or.inr (Or.inr ⟨rfl, ht, hw⟩)))) hd hr, hrun, hended, _, _, rfl, hq, h1, h2, h3, h4.mono hc hs⟩
theorem own_retWV (X : Stand p l e R (s.setVm vm1) m args below meth c T locs cells slots) (hx : p.tables.exec = Jvm.exec) (hlk : meth.locks = false) (hS : s.Since vm1 n) (hn : n ≤ T.heap.size) {pc : Nat} {Ls : Array Slot} (hret : meth.sig.returnType = none)
    (hd : decode c.code pc = .ok (.return_, 1)) (hq : Q none T.heap locs T.vm) (hc : cells ≤ kc) (hs : slots ≤ ks) : own_GoW p e below s Q kc ks (T.setTop (mkF m pc Ls [])) := by
  obtain ⟨fs, hr, hrun, hended, h1, h2, h3, h4⟩ := X.leaveW hS hn (v := none) (fun _ => rfl) hlk
  exact ⟨_, _, X.returnOut hx hret hd hr, hrun, hended, _, _, rfl, hq, h1, h2, h3, h4.mono hc hs⟩
/-- what a wide call leaves, said of the true start -/
theorem own_wideZ {Z : State} {vm0 : Vm} {U : State} (hZ : Z.Warmed39 vm0) (hS : (s.setVm vm0).Since U.vm n) : Z.Warmed39 (s.setVm U.vm).vm := State.Warmed39.trans (t := s.setVm vm0) hZ hS.1
theorem own_wideO {vm0 : Vm} {U : State} {own : String} {cid : ClassId} (hown : (s.setVm vm0).vm.findClass own = some cid) (hS : (s.setVm vm0).Since U.vm n) : (s.setVm U.vm).vm.findClass own = some cid := by
  rw [show (s.setVm U.vm).vm = U.vm from rfl, hS.1.alike.findClass]; exact hown
theorem own_IBt {Z : State} {vm vm' : Vm} {Ts : List String} (I : IB Z vm Ts) (q : vm'.interned = vm.interned) : IB Z vm' Ts := by
  obtain ⟨more, h1, h2⟩ := I
  exact ⟨more, q.trans h1, h2⟩
theorem own_IBw {Z : State} {vm : Vm} {Ts Us : List String} (I : IB Z vm Ts) (q : ∀ t ∈ Ts, t ∈ Us) : IB Z vm Us := by
  obtain ⟨more, h1, h2⟩ := I
  refine ⟨more, h1, fun y hy => ?_⟩
  obtain ⟨t, ht, hd⟩ := h2 y hy
  exact ⟨t, q t ht, hd⟩
/-- a wide callee that is called while nothing has been interned since the start -/
theorem own_backOfSI {Z : State} {a0 : Array Value} {h : Heap} {Ts : List String} {y : MethodName} {bytes : ByteArray} {maxL : Nat} {ret : Option FieldType} {rm : Room} {len W : Nat} {as' : Array Value}
    (hM : MetFree l y (head1 [Cond.code y bytes maxL ret] rm) (fun a U => a = as' ∧ Z.Warmed39 U.vm ∧ U.heap = h ∧ IB Z U.vm Ts) (fun _ _ _ _ _ => True) (fun _ U o U' => ∃ v L, o = .returned v ∧ Q v U'.heap L U'.vm ∧ ReturnedEndW U o U' L rm.cells rm.slots))
    (hZ : Z.Warmed39 s.vm) (wc : (Cond.code y bytes maxL ret).before a0 Z = true) (wz : (Cond.initialized y.cls).before a0 Z = true) (hf : rm.frames + 1 ≤ R.frames) (hl : W + (maxL + 11) + rm.locals ≤ R.locals) (hI : IB Z s.vm Ts) :
    BackS l R p e below s args y len W (fun A a => a = as' ∧ A.U.heap = h ∧ A.cells + rm.cells ≤ R.cells ∧ A.slots + rm.slots ≤ R.slots)
      (fun A _ v B => ∃ L, Q v B.U.heap L B.U.vm ∧ B.locs = A.locs ++ L ∧ B.cells = A.cells + rm.cells ∧ B.slots = A.slots + rm.slots) := by
  refine BackS.of_freeW (bytes := bytes) (maxL := maxL) (ret := ret) (E := fun _ _ o t L k n => (∃ v, o = .returned v ∧ Q v t.heap L t.vm) ∧ k = rm.cells ∧ n = rm.slots) hM hf hl ?_ ?_ (fun _ _ _ _ _ _ _ _ _ => trivial) ?_ ?_
  · intro m meth c A a Y hp
    have hU : Z.Warmed39 A.U.vm := wtrans hZ Y.warmed
    refine ⟨?_, mv hU wc, mv hU wz, hp.2.2.1, hp.2.2.2⟩
    show (Cond.and _ .tt).before a A.U = true
    rw [Cond.before_and, mv hU wc]; rfl
  · intro m meth c A a g mk Y hp
    exact ⟨hp.1, wtrans hZ Y.warmed, hp.2.1, own_IBt hI Y.warmed.interned_eq⟩
  · rintro _ _ _ _ ⟨v, L, h1, h2, h3⟩
    exact ⟨L, _, _, h3, ⟨v, h1, h2⟩, rfl, rfl⟩
  · rintro m meth c A a g mk v t L k n Y hp _ _ ⟨⟨v', q, hq⟩, rfl, rfl⟩
    cases q
    exact ⟨L, hq, rfl, rfl, rfl⟩
end OwnWide

def Ck (x : Int32) : Prop := nar .char x = x ∧ ¬ (255 : Int32) < x ∧ ¬ x < 0
def Str (Z : State) (h : Heap) (a b : Addr) (k : ClassId) (n : Int32) (vs : List Value) : Prop := Exa Z h a "java/lang/String" ∧ Fld Z h a "java/lang/String" "value" "[B" (.ref b) ∧ Fld Z h a "java/lang/String" "coder" "B" (.int 0) ∧ Arv Z h b k .byte n vs (.int 0)
theorem own_Str_ext {Z : State} {h h' : Heap} {a b : Addr} {k : ClassId} {n : Int32} {vs : List Value} (o : Str Z h a b k n vs) (E : Ext h h') : Str Z h' a b k n vs := ⟨o.1.ext E, o.2.1.ext E, o.2.2.1.ext E, o.2.2.2.ext E⟩
theorem own_Str_keep {Z : State} {h h' : Heap} {a b : Addr} {k : ClassId} {n : Int32} {vs : List Value} {ws : List Addr} (o : Str Z h a b k n vs) (K : Keep h h' ws) (n1 : a ∉ ws) (n2 : b ∉ ws) : Str Z h' a b k n vs := ⟨o.1.keep K, o.2.1.keep K n1, o.2.2.1.keep K n1, o.2.2.2.keep K n2⟩
def Q0 (h0 : Heap) (n0 : Nat) (v : Option Value) (h : Heap) (L : List Loc) : Prop := v = none ∧ Fr n0 L ∧ h = h0
def Qw (w : Value) (h0 : Heap) (n0 : Nat) (v : Option Value) (h : Heap) (L : List Loc) : Prop := v = some w ∧ Fr n0 L ∧ h = h0
def QC5 (Z : State) (d : Addr) (k : ClassId) (n : Int32) (vs : List Value) (h0 : Heap) (n0 : Nat) (v : Option Value) (h : Heap) (L : List Loc) : Prop := v = some (.int n) ∧ Fr n0 L ∧ Keep h0 h [d] ∧ Arv Z h d k .byte n vs (.int 0)
def QC3 (Z : State) (n : Int32) (vs : List Value) (h0 : Heap) (n0 : Nat) (v : Option Value) (h : Heap) (L : List Loc) : Prop := ∃ d k, v = some (.ref d) ∧ Fr n0 L ∧ Ext h0 h ∧ Arv Z h d k .byte n vs (.int 0) ∧ h0.size ≤ d
def QS (Z : State) (a : Addr) (n : Int32) (vs : List Value) (h0 : Heap) (n0 : Nat) (v : Option Value) (h : Heap) (L : List Loc) : Prop := ∃ d k, v = none ∧ Fr n0 L ∧ Keep h0 h [a] ∧ Str Z h a d k n vs ∧ h0.size ≤ d
def QN (Z : State) (n : Int32) (vs : List Value) (h0 : Heap) (n0 : Nat) (v : Option Value) (h : Heap) (L : List Loc) : Prop := ∃ a d k, v = some (.ref a) ∧ Fr n0 L ∧ Ext h0 h ∧ Str Z h a d k n vs ∧ h0.size ≤ a ∧ h0.size ≤ d
theorem own_b (x : Int32) : (((x).toInt8.toInt32)).toInt8.toInt32 = x.toInt8.toInt32 := by
  have a := c_i2b x
  have b := c_i2b x.toInt8.toInt32
  rw [← Int32.toInt_inj]
  omega
theorem own_b_inj {x y : Int32} (hx : Ck x) (hy : Ck y) (h : (((x).toInt8.toInt32)).toInt8.toInt32 = (((y).toInt8.toInt32)).toInt8.toInt32) : x = y := by
  rw [own_b, own_b] at h
  have a := c_i2b x
  have b := c_i2b y
  have r1 := rng32 x
  have r2 := rng32 y
  obtain ⟨-, x1, x2⟩ := hx
  obtain ⟨-, y1, y2⟩ := hy
  rw [Int32.lt_iff_toInt_lt] at x1 x2 y1 y2
  have e0 : (0 : Int32).toInt = 0 := by decide
  have e1 : (255 : Int32).toInt = 255 := by decide
  rw [← Int32.toInt_inj] at h ⊢
  omega
theorem own_Ck (a : Int32) : Ck ((a &&& (255 : Int32)).toUInt32.toUInt16.toUInt32.toInt32) := by
  rw [i2c_mask]
  have m := c_mask a 255 8 (by decide) (by decide)
  have r := rng32 a
  refine ⟨i2c_mask a, ?_, ?_⟩
  · rw [Int32.lt_iff_toInt_lt]; have e1 : (255 : Int32).toInt = 255 := by decide
    omega
  · rw [Int32.lt_iff_toInt_lt]; have e1 : (0 : Int32).toInt = 0 := by decide
    omega
theorem own_wS {Z : State} {a0 : Array Value} (hw : own_tb a0 Z) : ∀ d ∈ Bundle.stringAtoms, d.before a0 Z = true := fun d hd => by
  simp only [Bundle.stringAtoms, List.mem_cons, List.not_mem_nil, or_false] at hd
  rcases hd with rfl | rfl | rfl | rfl | rfl | rfl | rfl
  · exact (ow hw 3 rfl)
  · exact (ow hw 2 rfl)
  · exact (ow hw 24 rfl)
  · exact (ow hw 34 rfl)
  · exact (ow hw 32 rfl)
  · exact (ow hw 39 rfl)
  · exact (ow hw 40 rfl)
def eqv (xs ys : List Int32) : Int32 := if xs = ys then 1 else 0
theorem own_eq1 {xs ys : List Int32} (h : xs = ys) : eqv xs ys = 1 := if_pos h
theorem own_eq0 {xs ys : List Int32} (h : ¬ xs = ys) : eqv xs ys = 0 := if_neg h
theorem own_eqv1 {xs ys : List Int32} (h : ¬ eqv xs ys = (0 : Int32)) : eqv xs ys = 1 := by
  by_cases q : xs = ys
  · exact own_eq1 q
  · exact absurd (own_eq0 q) h
theorem own_eqT {xs ys : List Int32} (h : ¬ eqv xs ys = (0 : Int32)) : xs = ys := by
  by_cases q : xs = ys
  · exact q
  · exact absurd (own_eq0 q) h
theorem own_eqF {xs ys : List Int32} (h : eqv xs ys = (0 : Int32)) : ¬ xs = ys := fun q => by
  rw [own_eq1 q] at h; exact absurd h (by decide)
theorem own_mapD (xs : List Int32) (k : Nat) : (xs.map Value.int).getD k (.int 0) = .int (xs.getD k 0) := by
  simp only [List.getD_eq_getElem?_getD, List.getElem?_map]
  cases xs[k]? <;> rfl
theorem own_listEq {xs ys : List Int32} (h : xs.length = ys.length) (q : ∀ k, k < xs.length → xs.getD k 0 = ys.getD k 0) : xs = ys := by
  refine List.ext_getElem h fun k h1 h2 => ?_
  have e := q k h1
  simpa [List.getD_eq_getElem?_getD, h1, h2] using e
def StrX (Z : State) (h : Heap) (a : Addr) (xs : List Int32) : Prop := ∃ d k n, Str Z h a d k n (xs.map Value.int) ∧ n.toNatClampNeg = xs.length
theorem own_StrX_ext {Z : State} {h h' : Heap} {a : Addr} {xs : List Int32} (o : StrX Z h a xs) (E : Ext h h') : StrX Z h' a xs := by
  obtain ⟨d, k, n, q, r⟩ := o
  exact ⟨d, k, n, own_Str_ext q E, r⟩
theorem own_StrX_exa {Z : State} {h : Heap} {a : Addr} {xs : List Int32} (o : StrX Z h a xs) : Exa Z h a "java/lang/String" := by
  obtain ⟨d, k, n, q, r⟩ := o
  exact q.1
theorem own_Fld_inj {Z : State} {h : Heap} {a : Addr} {C n d : String} {v w : Value} (F : Fld Z h a C n d v) (G : Fld Z h a C n d w) : v = w := by
  obtain ⟨cell, cf, k, i, f, h1, h2, -, -, -, -, h7⟩ := F
  obtain ⟨cell', cf', k', i', f', g1, g2, -, -, -, -, g7⟩ := G
  cases h1.symm.trans g1
  cases h2.symm.trans g2
  exact Option.some.inj (h7.symm.trans g7)
theorem own_StrX_inj {Z : State} {h : Heap} {a : Addr} {xs ys : List Int32} (o : StrX Z h a xs) (o' : StrX Z h a ys) : xs = ys := by
  obtain ⟨d, k, n, ⟨-, f1, -, c, A, -, S, -, H, -⟩, r⟩ := o
  obtain ⟨d', k', n', ⟨-, f2, -, c', A', -, S', -, H', -⟩, r'⟩ := o'
  cases own_Fld_inj f1 f2
  cases A.1.symm.trans A'.1
  refine own_listEq (by omega) fun j hj => ?_
  have e1 := H j (by omega)
  have e2 := H' j (by omega)
  rw [own_mapD] at e1 e2
  exact Value.int.inj (Option.some.inj (e1.symm.trans e2))
theorem own_hin {cl : Cell} {n i : Int32} (S : cl.slots.size = n.toNatClampNeg) (hi : ¬ i < 0) (hlt : i < n) : ¬ (i < 0 ∨ cl.slots.size ≤ i.toNatClampNeg) := by
  rw [Int32.lt_iff_toInt_lt] at hi hlt
  have e0 : (0 : Int32).toInt = 0 := by decide
  rintro (q | q)
  · rw [Int32.lt_iff_toInt_lt] at q; omega
  · rw [S] at q; simp only [Int32.toNatClampNeg] at q; omega
theorem own_succ {n i : Int32} (hi : ¬ i < 0) (hlt : i < n) : (i + (1 : Int32)).toInt = i.toInt + 1 ∧ ¬ (i + (1 : Int32)) < 0 ∧ (i + (1 : Int32)).toNatClampNeg = i.toNatClampNeg + 1 := by
  rw [Int32.lt_iff_toInt_lt] at hi hlt
  have e0 : (0 : Int32).toInt = 0 := by decide
  have e1 : (1 : Int32).toInt = 1 := by decide
  have a := c_iadd i 1
  have r1 := rng32 i
  have r2 := rng32 n
  have r3 := rng32 (i + 1)
  have s : (i + (1 : Int32)).toInt = i.toInt + 1 := by omega
  refine ⟨s, ?_, ?_⟩
  · rw [Int32.lt_iff_toInt_lt]; omega
  · simp only [Int32.toNatClampNeg]; omega
theorem own_len0 {n m : Int32} (hn : ¬ n < 0) (hm : ¬ m < 0) (h : n.toNatClampNeg = m.toNatClampNeg) : n = m := by
  rw [Int32.lt_iff_toInt_lt] at hn hm
  have e0 : (0 : Int32).toInt = 0 := by decide
  simp only [Int32.toNatClampNeg] at h
  rw [← Int32.toInt_inj]; omega
theorem own_all {xs ys : List Int32} {n i : Int32} (l1 : n.toNatClampNeg = xs.length) (l2 : n.toNatClampNeg = ys.length) (q : ¬ i < n) (hi : ¬ i < 0) (pre : ∀ k, k < i.toNatClampNeg → xs.getD k 0 = ys.getD k 0) : xs = ys := by
  refine own_listEq (by omega) fun k hk => pre k ?_
  rw [Int32.lt_iff_toInt_lt] at q hi
  have e0 : (0 : Int32).toInt = 0 := by decide
  simp only [Int32.toNatClampNeg] at l1 l2 ⊢
  omega
theorem own_and3 (x : Int32) : (x &&& (3 : Int32)) = 0 ∨ (x &&& (3 : Int32)) = 1 ∨ (x &&& (3 : Int32)) = 2 ∨ (x &&& (3 : Int32)) = 3 := by
  have m := c_mask x 3 2 (by decide) (by decide)
  have r := rng32 x
  have e0 : (0 : Int32).toInt = 0 := by decide
  have e1 : (1 : Int32).toInt = 1 := by decide
  have e2 : (2 : Int32).toInt = 2 := by decide
  have e3 : (3 : Int32).toInt = 3 := by decide
  simp only [← Int32.toInt_inj]
  omega
theorem own_mod3 (x : Int32) : (((x.toUInt32 >>> ((8 : Int32) &&& 31).toUInt32).toInt32) % (3 : Int32)) = 0 ∨ (((x.toUInt32 >>> ((8 : Int32) &&& 31).toUInt32).toInt32) % (3 : Int32)) = 1 ∨ (((x.toUInt32 >>> ((8 : Int32) &&& 31).toUInt32).toInt32) % (3 : Int32)) = 2 := by
  have m := c_iushr x 8 8 (by decide) (by decide)
  have r := rng32 x
  have q := (c_irem ((x.toUInt32 >>> ((8 : Int32) &&& 31).toUInt32).toInt32) 3 3 (by decide)).1 (by omega)
  have e0 : (0 : Int32).toInt = 0 := by decide
  have e1 : (1 : Int32).toInt = 1 := by decide
  have e2 : (2 : Int32).toInt = 2 := by decide
  simp only [← Int32.toInt_inj]
  omega
section OwnKey
variable {args : Array Value} {s : State} {t : Term} {a : Addr} {cl : Cell} {k : Int32} {ty : FieldType}
theorem own_arrv (h : (Jvm.Cond.arrayOf t ty).value args s none s [] = some true) : ∃ a, t.eval args s none [] s = some (.ref a) := by
  cases hv : t.eval args s none [] s with
  | none => simp [Jvm.Cond.value, hv] at h
  | some v => cases v <;> simp [Jvm.Cond.value, hv] at h; exact ⟨_, rfl⟩
theorem own_elemI {w : Int32} (ev : t.eval args s none [] s = some (.ref a)) (A : Arr s s.heap a cl ty) (h : (Jvm.Cond.eq (Term.elem t (Term.int k)) (Term.int w)).value args s none s [] = some true) : cl.slots[k.toNatClampNeg]? = some (.int w) := by
  have e2 := Term.int_eval (args := args) (first := s) (o := none) (idx := []) (s := s) k
  have e3 := Term.int_eval (args := args) (first := s) (o := none) (idx := []) (s := s) w
  obtain ⟨x, y, hx, hy, -, -⟩ := cmp_v (Or.inl h)
  cases e3.symm.trans hy
  obtain ⟨-, q⟩ := elem_in hx ev e2 A.1
  rw [q]
  cases x <;> simp [Jvm.Cond.value, hx, e3] at h ⊢
  exact h
end OwnKey

def bB : List Int32 := [98, 101, 102, 111, 114, 101]
def bM : List Int32 := [109, 101, 101, 116, 115]
def bC : List Int32 := [99, 111, 110, 99, 117, 114, 114, 101, 110, 116]
theorem own_sel (xs : List Int32) (a1 a2 a3 : Addr) : ∃ w : Value, w.isRef = true ∧ (¬ eqv xs bB = (0 : Int32) → w = .ref a1) ∧ (eqv xs bB = (0 : Int32) → ¬ eqv xs bM = (0 : Int32) → w = .ref a2) ∧ (eqv xs bB = (0 : Int32) → eqv xs bM = (0 : Int32) → ¬ eqv xs bC = (0 : Int32) → w = .ref a3) ∧ (eqv xs bB = (0 : Int32) → eqv xs bM = (0 : Int32) → eqv xs bC = (0 : Int32) → w = .null) ∧ (¬ eqv bC xs = (0 : Int32) → w = .ref a3) ∧ (eqv bC xs = (0 : Int32) → ¬ eqv bM xs = (0 : Int32) → w = .ref a2) ∧ (eqv bC xs = (0 : Int32) → eqv bM xs = (0 : Int32) → ¬ eqv bB xs = (0 : Int32) → w = .ref a1) ∧ (eqv bC xs = (0 : Int32) → eqv bM xs = (0 : Int32) → eqv bB xs = (0 : Int32) → w = .null) := by
  by_cases n0 : xs = bB
  · subst n0
    exact ⟨.ref a1, rfl, fun _ => rfl, fun  q _ => absurd q (by decide), fun  q _ _ => absurd q (by decide), fun  q _ _ => absurd q (by decide), fun  q  => absurd (by decide) q, fun _ q  => absurd (by decide) q, fun _ _ _ => rfl, fun _ _ q  => absurd q (by decide)⟩
  by_cases n1 : xs = bM
  · subst n1
    exact ⟨.ref a2, rfl, fun  q  => absurd (by decide) q, fun _ _ => rfl, fun _ q _ => absurd q (by decide), fun _ q _ => absurd q (by decide), fun  q  => absurd (by decide) q, fun _ _ => rfl, fun _ q _ => absurd q (by decide), fun _ q _ => absurd q (by decide)⟩
  by_cases n2 : xs = bC
  · subst n2
    exact ⟨.ref a3, rfl, fun  q  => absurd (by decide) q, fun _ q  => absurd (by decide) q, fun _ _ _ => rfl, fun _ _ q  => absurd q (by decide), fun _ => rfl, fun  q _ => absurd q (by decide), fun  q _ _ => absurd q (by decide), fun  q _ _ => absurd q (by decide)⟩
  exact ⟨.null, rfl, fun  q  => absurd (own_eq0 n0) q, fun _ q  => absurd (own_eq0 n1) q, fun _ _ q  => absurd (own_eq0 n2) q, fun _ _ _ => rfl, fun  q  => absurd (own_eq0 (fun t => n2 t.symm)) q, fun _ q  => absurd (own_eq0 (fun t => n1 t.symm)) q, fun _ _ q  => absurd (own_eq0 (fun t => n0 t.symm)) q, fun _ _ _ => rfl⟩
theorem own_kbB {args : Array Value} {s : State} {t : Term} {a : Addr} (ev : t.eval args s none [] s = some (.ref a)) (c0 : (Jvm.Cond.exactly (Term.field t "com/example/slotwright/slotwright/model/LinkType" "key" "Ljava/lang/String;") "java/lang/String").value args s none s [] = some true) (c1 : (Jvm.Cond.eq (Term.field (Term.field t "com/example/slotwright/slotwright/model/LinkType" "key" "Ljava/lang/String;") "java/lang/String" "coder" "B") (Term.int 0)).value args s none s [] = some true) (c2 : (Jvm.Cond.arrayOf (Term.field (Term.field t "com/example/slotwright/slotwright/model/LinkType" "key" "Ljava/lang/String;") "java/lang/String" "value" "[B") .byte).value args s none s [] = some true) (c3 : (Jvm.Cond.eq (Term.length (Term.field (Term.field t "com/example/slotwright/slotwright/model/LinkType" "key" "Ljava/lang/String;") "java/lang/String" "value" "[B")) (Term.int 6)).value args s none s [] = some true) (e0 : (Jvm.Cond.eq (Term.elem (Term.field (Term.field t "com/example/slotwright/slotwright/model/LinkType" "key" "Ljava/lang/String;") "java/lang/String" "value" "[B") (Term.int 0)) (Term.int 98)).value args s none s [] = some true) (e1 : (Jvm.Cond.eq (Term.elem (Term.field (Term.field t "com/example/slotwright/slotwright/model/LinkType" "key" "Ljava/lang/String;") "java/lang/String" "value" "[B") (Term.int 1)) (Term.int 101)).value args s none s [] = some true) (e2 : (Jvm.Cond.eq (Term.elem (Term.field (Term.field t "com/example/slotwright/slotwright/model/LinkType" "key" "Ljava/lang/String;") "java/lang/String" "value" "[B") (Term.int 2)) (Term.int 102)).value args s none s [] = some true) (e3 : (Jvm.Cond.eq (Term.elem (Term.field (Term.field t "com/example/slotwright/slotwright/model/LinkType" "key" "Ljava/lang/String;") "java/lang/String" "value" "[B") (Term.int 3)) (Term.int 111)).value args s none s [] = some true) (e4 : (Jvm.Cond.eq (Term.elem (Term.field (Term.field t "com/example/slotwright/slotwright/model/LinkType" "key" "Ljava/lang/String;") "java/lang/String" "value" "[B") (Term.int 4)) (Term.int 114)).value args s none s [] = some true) (e5 : (Jvm.Cond.eq (Term.elem (Term.field (Term.field t "com/example/slotwright/slotwright/model/LinkType" "key" "Ljava/lang/String;") "java/lang/String" "value" "[B") (Term.int 5)) (Term.int 101)).value args s none s [] = some true) : ∃ kb, Fld s s.heap a "com/example/slotwright/slotwright/model/LinkType" "key" "Ljava/lang/String;" (.ref kb) ∧ StrX s s.heap kb bB := by
  obtain ⟨kb, evk⟩ := exa_v c0
  have E := Exa.start evk c0
  have fc := own_fldI evk c1
  obtain ⟨vb, evv⟩ := own_arrv c2
  obtain ⟨cl, A⟩ := Arr.start evv c2
  have L := own_len evv A c3
  have q0 := own_elemI evv A e0
  have q1 := own_elemI evv A e1
  have q2 := own_elemI evv A e2
  have q3 := own_elemI evv A e3
  have q4 := own_elemI evv A e4
  have q5 := own_elemI evv A e5
  have sz : cl.slots.size = (6 : Int32).toNatClampNeg := by
    rw [← L.2]; simp only [Int32.toNatClampNeg, len_toInt L.1]; rfl
  refine ⟨kb, Fld.start ((fld_at ev).symm.trans evk), vb, cl.cls, 6, ⟨E, Fld.start ((fld_at evk).symm.trans evv), fc, cl, A, rfl, sz, by decide, ?_, ?_⟩, rfl⟩
  · intro k hk
    have hk : k < 6 := by rw [sz] at hk; exact hk
    match k, hk with
    | 0, _ => exact q0
    | 1, _ => exact q1
    | 2, _ => exact q2
    | 3, _ => exact q3
    | 4, _ => exact q4
    | 5, _ => exact q5
  · intro k hk
    have hk : k < 6 := by rw [sz] at hk; exact hk
    match k, hk with
    | 0, _ => rfl
    | 1, _ => rfl
    | 2, _ => rfl
    | 3, _ => rfl
    | 4, _ => rfl
    | 5, _ => rfl
theorem own_kbM {args : Array Value} {s : State} {t : Term} {a : Addr} (ev : t.eval args s none [] s = some (.ref a)) (c0 : (Jvm.Cond.exactly (Term.field t "com/example/slotwright/slotwright/model/LinkType" "key" "Ljava/lang/String;") "java/lang/String").value args s none s [] = some true) (c1 : (Jvm.Cond.eq (Term.field (Term.field t "com/example/slotwright/slotwright/model/LinkType" "key" "Ljava/lang/String;") "java/lang/String" "coder" "B") (Term.int 0)).value args s none s [] = some true) (c2 : (Jvm.Cond.arrayOf (Term.field (Term.field t "com/example/slotwright/slotwright/model/LinkType" "key" "Ljava/lang/String;") "java/lang/String" "value" "[B") .byte).value args s none s [] = some true) (c3 : (Jvm.Cond.eq (Term.length (Term.field (Term.field t "com/example/slotwright/slotwright/model/LinkType" "key" "Ljava/lang/String;") "java/lang/String" "value" "[B")) (Term.int 5)).value args s none s [] = some true) (e0 : (Jvm.Cond.eq (Term.elem (Term.field (Term.field t "com/example/slotwright/slotwright/model/LinkType" "key" "Ljava/lang/String;") "java/lang/String" "value" "[B") (Term.int 0)) (Term.int 109)).value args s none s [] = some true) (e1 : (Jvm.Cond.eq (Term.elem (Term.field (Term.field t "com/example/slotwright/slotwright/model/LinkType" "key" "Ljava/lang/String;") "java/lang/String" "value" "[B") (Term.int 1)) (Term.int 101)).value args s none s [] = some true) (e2 : (Jvm.Cond.eq (Term.elem (Term.field (Term.field t "com/example/slotwright/slotwright/model/LinkType" "key" "Ljava/lang/String;") "java/lang/String" "value" "[B") (Term.int 2)) (Term.int 101)).value args s none s [] = some true) (e3 : (Jvm.Cond.eq (Term.elem (Term.field (Term.field t "com/example/slotwright/slotwright/model/LinkType" "key" "Ljava/lang/String;") "java/lang/String" "value" "[B") (Term.int 3)) (Term.int 116)).value args s none s [] = some true) (e4 : (Jvm.Cond.eq (Term.elem (Term.field (Term.field t "com/example/slotwright/slotwright/model/LinkType" "key" "Ljava/lang/String;") "java/lang/String" "value" "[B") (Term.int 4)) (Term.int 115)).value args s none s [] = some true) : ∃ kb, Fld s s.heap a "com/example/slotwright/slotwright/model/LinkType" "key" "Ljava/lang/String;" (.ref kb) ∧ StrX s s.heap kb bM := by
  obtain ⟨kb, evk⟩ := exa_v c0
  have E := Exa.start evk c0
  have fc := own_fldI evk c1
  obtain ⟨vb, evv⟩ := own_arrv c2
  obtain ⟨cl, A⟩ := Arr.start evv c2
  have L := own_len evv A c3
  have q0 := own_elemI evv A e0
  have q1 := own_elemI evv A e1
  have q2 := own_elemI evv A e2
  have q3 := own_elemI evv A e3
  have q4 := own_elemI evv A e4
  have sz : cl.slots.size = (5 : Int32).toNatClampNeg := by
    rw [← L.2]; simp only [Int32.toNatClampNeg, len_toInt L.1]; rfl
  refine ⟨kb, Fld.start ((fld_at ev).symm.trans evk), vb, cl.cls, 5, ⟨E, Fld.start ((fld_at evk).symm.trans evv), fc, cl, A, rfl, sz, by decide, ?_, ?_⟩, rfl⟩
  · intro k hk
    have hk : k < 5 := by rw [sz] at hk; exact hk
    match k, hk with
    | 0, _ => exact q0
    | 1, _ => exact q1
    | 2, _ => exact q2
    | 3, _ => exact q3
    | 4, _ => exact q4
  · intro k hk
    have hk : k < 5 := by rw [sz] at hk; exact hk
    match k, hk with
    | 0, _ => rfl
    | 1, _ => rfl
    | 2, _ => rfl
    | 3, _ => rfl
    | 4, _ => rfl
theorem own_kbC {args : Array Value} {s : State} {t : Term} {a : Addr} (ev : t.eval args s none [] s = some (.ref a)) (c0 : (Jvm.Cond.exactly (Term.field t "com/example/slotwright/slotwright/model/LinkType" "key" "Ljava/lang/String;") "java/lang/String").value args s none s [] = some true) (c1 : (Jvm.Cond.eq (Term.field (Term.field t "com/example/slotwright/slotwright/model/LinkType" "key" "Ljava/lang/String;") "java/lang/String" "coder" "B") (Term.int 0)).value args s none s [] = some true) (c2 : (Jvm.Cond.arrayOf (Term.field (Term.field t "com/example/slotwright/slotwright/model/LinkType" "key" "Ljava/lang/String;") "java/lang/String" "value" "[B") .byte).value args s none s [] = some true) (c3 : (Jvm.Cond.eq (Term.length (Term.field (Term.field t "com/example/slotwright/slotwright/model/LinkType" "key" "Ljava/lang/String;") "java/lang/String" "value" "[B")) (Term.int 10)).value args s none s [] = some true) (e0 : (Jvm.Cond.eq (Term.elem (Term.field (Term.field t "com/example/slotwright/slotwright/model/LinkType" "key" "Ljava/lang/String;") "java/lang/String" "value" "[B") (Term.int 0)) (Term.int 99)).value args s none s [] = some true) (e1 : (Jvm.Cond.eq (Term.elem (Term.field (Term.field t "com/example/slotwright/slotwright/model/LinkType" "key" "Ljava/lang/String;") "java/lang/String" "value" "[B") (Term.int 1)) (Term.int 111)).value args s none s [] = some true) (e2 : (Jvm.Cond.eq (Term.elem (Term.field (Term.field t "com/example/slotwright/slotwright/model/LinkType" "key" "Ljava/lang/String;") "java/lang/String" "value" "[B") (Term.int 2)) (Term.int 110)).value args s none s [] = some true) (e3 : (Jvm.Cond.eq (Term.elem (Term.field (Term.field t "com/example/slotwright/slotwright/model/LinkType" "key" "Ljava/lang/String;") "java/lang/String" "value" "[B") (Term.int 3)) (Term.int 99)).value args s none s [] = some true) (e4 : (Jvm.Cond.eq (Term.elem (Term.field (Term.field t "com/example/slotwright/slotwright/model/LinkType" "key" "Ljava/lang/String;") "java/lang/String" "value" "[B") (Term.int 4)) (Term.int 117)).value args s none s [] = some true) (e5 : (Jvm.Cond.eq (Term.elem (Term.field (Term.field t "com/example/slotwright/slotwright/model/LinkType" "key" "Ljava/lang/String;") "java/lang/String" "value" "[B") (Term.int 5)) (Term.int 114)).value args s none s [] = some true) (e6 : (Jvm.Cond.eq (Term.elem (Term.field (Term.field t "com/example/slotwright/slotwright/model/LinkType" "key" "Ljava/lang/String;") "java/lang/String" "value" "[B") (Term.int 6)) (Term.int 114)).value args s none s [] = some true) (e7 : (Jvm.Cond.eq (Term.elem (Term.field (Term.field t "com/example/slotwright/slotwright/model/LinkType" "key" "Ljava/lang/String;") "java/lang/String" "value" "[B") (Term.int 7)) (Term.int 101)).value args s none s [] = some true) (e8 : (Jvm.Cond.eq (Term.elem (Term.field (Term.field t "com/example/slotwright/slotwright/model/LinkType" "key" "Ljava/lang/String;") "java/lang/String" "value" "[B") (Term.int 8)) (Term.int 110)).value args s none s [] = some true) (e9 : (Jvm.Cond.eq (Term.elem (Term.field (Term.field t "com/example/slotwright/slotwright/model/LinkType" "key" "Ljava/lang/String;") "java/lang/String" "value" "[B") (Term.int 9)) (Term.int 116)).value args s none s [] = some true) : ∃ kb, Fld s s.heap a "com/example/slotwright/slotwright/model/LinkType" "key" "Ljava/lang/String;" (.ref kb) ∧ StrX s s.heap kb bC := by
  obtain ⟨kb, evk⟩ := exa_v c0
  have E := Exa.start evk c0
  have fc := own_fldI evk c1
  obtain ⟨vb, evv⟩ := own_arrv c2
  obtain ⟨cl, A⟩ := Arr.start evv c2
  have L := own_len evv A c3
  have q0 := own_elemI evv A e0
  have q1 := own_elemI evv A e1
  have q2 := own_elemI evv A e2
  have q3 := own_elemI evv A e3
  have q4 := own_elemI evv A e4
  have q5 := own_elemI evv A e5
  have q6 := own_elemI evv A e6
  have q7 := own_elemI evv A e7
  have q8 := own_elemI evv A e8
  have q9 := own_elemI evv A e9
  have sz : cl.slots.size = (10 : Int32).toNatClampNeg := by
    rw [← L.2]; simp only [Int32.toNatClampNeg, len_toInt L.1]; rfl
  refine ⟨kb, Fld.start ((fld_at ev).symm.trans evk), vb, cl.cls, 10, ⟨E, Fld.start ((fld_at evk).symm.trans evv), fc, cl, A, rfl, sz, by decide, ?_, ?_⟩, rfl⟩
  · intro k hk
    have hk : k < 10 := by rw [sz] at hk; exact hk
    match k, hk with
    | 0, _ => exact q0
    | 1, _ => exact q1
    | 2, _ => exact q2
    | 3, _ => exact q3
    | 4, _ => exact q4
    | 5, _ => exact q5
    | 6, _ => exact q6
    | 7, _ => exact q7
    | 8, _ => exact q8
    | 9, _ => exact q9
  · intro k hk
    have hk : k < 10 := by rw [sz] at hk; exact hk
    match k, hk with
    | 0, _ => rfl
    | 1, _ => rfl
    | 2, _ => rfl
    | 3, _ => rfl
    | 4, _ => rfl
    | 5, _ => rfl
    | 6, _ => rfl
    | 7, _ => rfl
    | 8, _ => rfl
    | 9, _ => rfl
def QLaw (n0 : Nat) (v : Option Value) (h : Heap) (L : List Loc) (vm : Vm) : Prop := v = some (.int 1) ∧ Fr n0 L
def Qn (w : Value) (h0 : Heap) (n0 : Nat) (v : Option Value) (h : Heap) (L : List Loc) : Prop := v = some w ∧ (Fr n0 L ∧ ∀ n, Fr n L) ∧ h = h0
def Qe (w : Value) (h0 : Heap) (n0 : Nat) (v : Option Value) (h : Heap) (L : List Loc) : Prop := v = some w ∧ Fr n0 L ∧ Ext h0 h
def QeV (w : Value) (h0 : Heap) (n0 : Nat) (v : Option Value) (h : Heap) (L : List Loc) (vm : Vm) : Prop := v = some w ∧ Fr n0 L ∧ Ext h0 h
def Qa (Z : State) (cl : Cell) (h0 : Heap) (n0 : Nat) (v : Option Value) (h : Heap) (L : List Loc) : Prop := ∃ b, v = some (.ref b) ∧ Fr n0 L ∧ Ext h0 h ∧ Arr Z h b (cloneOf cl) (.object "com/example/slotwright/slotwright/model/LinkType")
def QCh (Z : State) (n : Int32) (vs : List Value) (h0 : Heap) (n0 : Nat) (v : Option Value) (h : Heap) (L : List Loc) : Prop := ∃ d k, v = some (.ref d) ∧ Fr n0 L ∧ Ext h0 h ∧ Arv Z h d k .char n vs (.int 0) ∧ h0.size ≤ d
def QDr (Z : State) (h0 : Heap) (n0 : Nat) (v : Option Value) (h : Heap) (L : List Loc) : Prop := ∃ p xs, v = some (.ref p) ∧ Fr n0 L ∧ Ext h0 h ∧ StrX Z h p xs
def QDrV (Z : State) (h0 : Heap) (n0 : Nat) (v : Option Value) (h : Heap) (L : List Loc) (vm : Vm) : Prop := ∃ p xs, v = some (.ref p) ∧ Fr n0 L ∧ Ext h0 h ∧ StrX Z h p xs ∧ IB Z vm [""]
def QSE (Z : State) (a : Addr) (h0 : Heap) (n0 : Nat) (v : Option Value) (h : Heap) (L : List Loc) (vm : Vm) : Prop := v = none ∧ Fr n0 L ∧ Keep h0 h [a] ∧ StrX Z h a [] ∧ IB Z vm [""]
def QSB (a : Addr) (Z : State) (d : Addr) (h0 : Heap) (n0 : Nat) (v : Option Value) (h : Heap) (L : List Loc) : Prop := v = none ∧ Fr n0 L ∧ Keep h0 h [a] ∧ Exa Z h a "java/lang/String" ∧ Fld Z h a "java/lang/String" "value" "[B" (.ref d) ∧ Fld Z h a "java/lang/String" "coder" "B" (.int 0)
theorem d10_9 : decode jdk_43_method_13_code 9 = .ok (.iload_n 2, 1) := by decide +kernel
theorem d10_10 : decode jdk_43_method_13_code 10 = .ok (.aload_n 0, 1) := by decide +kernel
theorem d10_11 : decode jdk_43_method_13_code 11 = .ok (.arraylength, 1) := by decide +kernel
theorem d10_12 : decode jdk_43_method_13_code 12 = .ok (.if_icmp .ge 20, 3) := by decide +kernel
theorem d10_15 : decode jdk_43_method_13_code 15 = .ok (.aload_n 0, 1) := by decide +kernel
theorem d10_16 : decode jdk_43_method_13_code 16 = .ok (.iload_n 2, 1) := by decide +kernel
theorem d10_17 : decode jdk_43_method_13_code 17 = .ok (.baload, 1) := by decide +kernel
theorem d10_18 : decode jdk_43_method_13_code 18 = .ok (.aload_n 1, 1) := by decide +kernel
theorem d10_19 : decode jdk_43_method_13_code 19 = .ok (.iload_n 2, 1) := by decide +kernel
theorem d10_20 : decode jdk_43_method_13_code 20 = .ok (.baload, 1) := by decide +kernel
theorem d10_21 : decode jdk_43_method_13_code 21 = .ok (.if_icmp .eq 5, 3) := by decide +kernel
theorem d10_26 : decode jdk_43_method_13_code 26 = .ok (.iinc 2 1, 3) := by decide +kernel
theorem d10_29 : decode jdk_43_method_13_code 29 = .ok (.goto (-20), 3) := by decide +kernel
theorem d10_24 : decode jdk_43_method_13_code 24 = .ok (.iconst 0, 1) := by decide +kernel
theorem d10_25 : decode jdk_43_method_13_code 25 = .ok (.ireturn, 1) := by decide +kernel
theorem d10_32 : decode jdk_43_method_13_code 32 = .ok (.iconst 1, 1) := by decide +kernel
theorem d10_33 : decode jdk_43_method_13_code 33 = .ok (.ireturn, 1) := by decide +kernel
theorem J9s (hw : own_tb a0 Z) (X0 : Stand pP lL eE (⟨0, 0, 0, 0⟩ : Room) sS mM args below meth cC T0 locs 0 0) (hx : pP.tables.exec = Jvm.exec) (hZ : Z.Warmed39 sS.vm) (hby : cC.code = jdk_43_method_13_code) (hml : cC.maxLocals = 3) (hown : sS.vm.findClass "java/lang/StringLatin1" = some mM.cls) (hlk : meth.locks = false) (hret : meth.sig.returnType = (some .boolean)) (e0 : T0.heap = h0) (N0 : Fr n0 locs) (d1 : Addr) (d2 : Addr) (cl1 : Cell) (cl2 : Cell) (n1 : Int32) (xs : List Int32) (ys : List Int32) (i : Int32) (Ar1 : Arr Z h0 d1 cl1 .byte) (S1 : cl1.slots.size = n1.toNatClampNeg) (Nn1 : ¬ n1 < 0) (H1 : Has cl1 (xs.map Value.int) (.int 0)) (Ar2 : Arr Z h0 d2 cl2 .byte) (S2 : cl2.slots.size = n1.toNatClampNeg) (H2 : Has cl2 (ys.map Value.int) (.int 0)) (l1 : n1.toNatClampNeg = xs.length) (l2 : n1.toNatClampNeg = ys.length) (hi0 : ¬ i < 0) (pre : ∀ k, k < i.toNatClampNeg → xs.getD k 0 = ys.getD k 0) (hN : ∀ n, Fr n locs) (ih : i < n1 → (xs.getD i.toNatClampNeg 0) = (ys.getD i.toNatClampNeg 0) → own_Go pP eE below sS (Qn (.int (eqv xs ys)) h0 n0) 0 0 (T0.setTop (mkF mM 9 #[.val (.ref d1), .val (.ref d2), .val (.int (i + (1 : Int32)))] []))) :
    own_Go pP eE below sS (Qn (.int (eqv xs ys)) h0 n0) 0 0 (T0.setTop (mkF mM 9 #[.val (.ref d1), .val (.ref d2), .val (.int i)] [])) := by
  refine o_iloadN 10 X0 hx (hb hby d10_9) rfl rfl ?_
  refine o_aloadN 11 X0 hx (hb hby d10_10) rfl rfl rfl ?_
  refine own_j 12 [.int n1, .int i] (fun t_ k_ => X0.arraylength hx (by rw [e0]; exact Ar1.1) (State.isArrayOf_alike hZ.alike Ar1.2.1) (g := (mkF mM 11 #[.val (.ref d1), .val (.ref d2), .val (.int i)] [.ref d1, .int i])) rfl rfl (hb hby d10_11) t_ (by rw [len_of S1 Nn1]; exact k_)) ?_
  by_cases hc12_1 : i < n1
  · skip
    refine o_icmpNo 15 X0 hx (hb hby d10_12) (tlt hc12_1).2.1 rfl ?_
    refine o_aloadN 16 X0 hx (hb hby d10_15) rfl rfl rfl ?_
    refine o_iloadN 17 X0 hx (hb hby d10_16) rfl rfl ?_
    refine own_j 18 [(.int (xs.getD i.toNatClampNeg 0))] (fun t_ k_ => X0.baloadBytes hx (j := i) (v := (.int (xs.getD i.toNatClampNeg 0))) (by rw [e0]; exact Ar1.1) (State.isArrayOf_alike hZ.alike Ar1.2.1) Ar1.2.2 (own_hin S1 hi0 hc12_1) (H1.at (own_hin S1 hi0 hc12_1) (own_mapD _ _)) (g := (mkF mM 17 #[.val (.ref d1), .val (.ref d2), .val (.int i)] [.int i, .ref d1])) rfl rfl (hb hby d10_17) t_ k_) ?_
    refine o_aloadN 19 X0 hx (hb hby d10_18) rfl rfl rfl ?_
    refine o_iloadN 20 X0 hx (hb hby d10_19) rfl rfl ?_
    refine own_j 21 [(.int (ys.getD i.toNatClampNeg 0)), (.int (xs.getD i.toNatClampNeg 0))] (fun t_ k_ => X0.baloadBytes hx (j := i) (v := (.int (ys.getD i.toNatClampNeg 0))) (by rw [e0]; exact Ar2.1) (State.isArrayOf_alike hZ.alike Ar2.2.1) Ar2.2.2 (own_hin S2 hi0 hc12_1) (H2.at (own_hin S2 hi0 hc12_1) (own_mapD _ _)) (g := (mkF mM 20 #[.val (.ref d1), .val (.ref d2), .val (.int i)] [.int i, .ref d2, (.int (xs.getD i.toNatClampNeg 0))])) rfl rfl (hb hby d10_20) t_ k_) ?_
    by_cases hc21_2 : (xs.getD i.toNatClampNeg 0) = (ys.getD i.toNatClampNeg 0)
    · skip
      refine o_icmpYes 26 X0 hx (hb hby d10_21) (teq hc21_2).1 (by decide) ?_
      let Lv3 : Array Slot := #[.val (.ref d1), .val (.ref d2), .val (.int (i + (1 : Int32)))]
      refine own_st (A := T0.setTop (mkF mM 29 Lv3 [])) (fun t_ k_ => XS.iinc X0.here hx rfl (hb hby d10_26) rfl (l' := Lv3) rfl k_) ?_
      refine o_goto 9 X0 hx (hb hby d10_29) (by decide) ?_
      exact ih hc12_1 hc21_2
    · skip
      refine o_icmpNo 24 X0 hx (hb hby d10_21) (feq hc21_2).1 rfl ?_
      refine o_iconst 25 0 X0 hx (hb hby d10_24) rfl rfl ?_
      exact own_retN X0 hx hlk (t := .boolean) hret (by simp) (hb hby d10_25) (by rw [own_eq0 (fun q => hc21_2 (by rw [q]))]; exact ⟨rfl, ⟨N0, hN⟩, e0⟩) (by decide) (by decide)
  · skip
    refine o_icmpYes 32 X0 hx (hb hby d10_12) (flt hc12_1).2.1 (by decide) ?_
    refine o_iconst 33 1 X0 hx (hb hby d10_32) rfl rfl ?_
    exact own_retN X0 hx hlk (t := .boolean) hret (by simp) (hb hby d10_33) (by rw [own_eq1 (own_all l1 l2 hc12_1 hi0 pre)]; exact ⟨rfl, ⟨N0, hN⟩, e0⟩) (by decide) (by decide)
theorem J9 (hw : own_tb a0 Z) (X0 : Stand pP lL eE (⟨0, 0, 0, 0⟩ : Room) sS mM args below meth cC T0 locs 0 0) (hx : pP.tables.exec = Jvm.exec) (hZ : Z.Warmed39 sS.vm) (hby : cC.code = jdk_43_method_13_code) (hml : cC.maxLocals = 3) (hown : sS.vm.findClass "java/lang/StringLatin1" = some mM.cls) (hlk : meth.locks = false) (hret : meth.sig.returnType = (some .boolean)) (e0 : T0.heap = h0) (N0 : Fr n0 locs) (d1 : Addr) (d2 : Addr) (cl1 : Cell) (cl2 : Cell) (n1 : Int32) (xs : List Int32) (ys : List Int32) (i : Int32) (Ar1 : Arr Z h0 d1 cl1 .byte) (S1 : cl1.slots.size = n1.toNatClampNeg) (Nn1 : ¬ n1 < 0) (H1 : Has cl1 (xs.map Value.int) (.int 0)) (Ar2 : Arr Z h0 d2 cl2 .byte) (S2 : cl2.slots.size = n1.toNatClampNeg) (H2 : Has cl2 (ys.map Value.int) (.int 0)) (l1 : n1.toNatClampNeg = xs.length) (l2 : n1.toNatClampNeg = ys.length) (hi0 : ¬ i < 0) (pre : ∀ k, k < i.toNatClampNeg → xs.getD k 0 = ys.getD k 0) (hN : ∀ n, Fr n locs) :
    own_Go pP eE below sS (Qn (.int (eqv xs ys)) h0 n0) 0 0 (T0.setTop (mkF mM 9 #[.val (.ref d1), .val (.ref d2), .val (.int i)] [])) := by
  obtain ⟨mm, hm⟩ : ∃ mm, mm = (n1.toInt - i.toInt).toNat := ⟨_, rfl⟩
  induction mm using Nat.strongRecOn generalizing i with
  | _ mm ihm =>
    refine J9s hw X0 hx hZ hby hml hown hlk hret e0 N0 d1 d2 cl1 cl2 n1 xs ys i Ar1 S1 Nn1 H1 Ar2 S2 H2 l1 l2 hi0 pre hN (fun hlt heq => ?_)
    obtain ⟨s1, s2, s3⟩ := own_succ hi0 hlt
    have hlt' := hlt
    rw [Int32.lt_iff_toInt_lt] at hlt'
    refine ihm _ ?_ (i + (1 : Int32)) s2 ?_ rfl
    · rw [hm, s1]; omega
    · rw [s3]; intro k hk
      rcases Nat.lt_succ_iff_lt_or_eq.mp hk with q | q
      · exact pre k q
      · rw [q]; exact heq
theorem d10_0 : decode jdk_43_method_13_code 0 = .ok (.aload_n 0, 1) := by decide +kernel
theorem d10_1 : decode jdk_43_method_13_code 1 = .ok (.arraylength, 1) := by decide +kernel
theorem d10_2 : decode jdk_43_method_13_code 2 = .ok (.aload_n 1, 1) := by decide +kernel
theorem d10_3 : decode jdk_43_method_13_code 3 = .ok (.arraylength, 1) := by decide +kernel
theorem d10_4 : decode jdk_43_method_13_code 4 = .ok (.if_icmp .ne 30, 3) := by decide +kernel
theorem d10_7 : decode jdk_43_method_13_code 7 = .ok (.iconst 0, 1) := by decide +kernel
theorem d10_8 : decode jdk_43_method_13_code 8 = .ok (.istore_n 2, 1) := by decide +kernel
theorem d10_34 : decode jdk_43_method_13_code 34 = .ok (.iconst 0, 1) := by decide +kernel
theorem d10_35 : decode jdk_43_method_13_code 35 = .ok (.ireturn, 1) := by decide +kernel
theorem pn_java_2flang_2fStringLatin1 : plainName "java/lang/StringLatin1" = true := by first | (simp [plainName, overriddenIn]; done) | decide +kernel
theorem ef_rmLE (mM : MethodId) (d1 : Addr) (k1 : ClassId) (n1 : Int32) (d2 : Addr) (k2 : ClassId) (n2 : Int32) (xs : List Int32) (ys : List Int32) : entryFrame mM #[.ref d1, .ref d2] 3 = mkF mM 0 #[.val (.ref d1), .val (.ref d2), .unset] [] := by first | (simp [entryFrame, mkF, argsToLocals, Value.category]; done) | rfl
theorem rmLE (lL : Launch) (Z : State) (a0 : Array Value) (hw : own_tb a0 Z) (ws : List Jvm.Cond) (d1 : Addr) (k1 : ClassId) (n1 : Int32) (d2 : Addr) (k2 : ClassId) (n2 : Int32) (xs : List Int32) (ys : List Int32) (h0 : Heap) (n0 : Nat) (A1 : Arv Z h0 d1 k1 .byte n1 (xs.map Value.int) (.int 0)) (l1 : n1.toNatClampNeg = xs.length) (A2 : Arv Z h0 d2 k2 .byte n2 (ys.map Value.int) (.int 0)) (l2 : n2.toNatClampNeg = ys.length) :
    own_Ct lL Z yn0 jdk_43_method_13_code 3 (some .boolean) ws (⟨0, 0, 0, 0⟩ : Room) #[.ref d1, .ref d2] h0 (Qn (.int (eqv xs ys)) h0 n0) := by
  refine own_body (plainFor_of_name pn_java_2flang_2fStringLatin1) 0 0 rfl rfl (fun mM => ef_rmLE mM d1 k1 n1 d2 k2 n2 xs ys) fun pP eE sS mM below meth cC s₁ hZ hx hby hml hown hnm hret hlk X0 e0 => ?_
  have N0 := Fr.nil n0
  obtain ⟨cl1, Ar1, q1, S1, Nn1, H1, G1⟩ := A1
  obtain ⟨cl2, Ar2, q2, S2, Nn2, H2, G2⟩ := A2
  refine o_aloadN 1 X0 hx (hb hby d10_0) rfl rfl rfl ?_
  refine own_j 2 [.int n1] (fun t_ k_ => X0.arraylength hx (by rw [e0]; exact Ar1.1) (State.isArrayOf_alike hZ.alike Ar1.2.1) (g := (mkF mM 1 #[.val (.ref d1), .val (.ref d2), .unset] [.ref d1])) rfl rfl (hb hby d10_1) t_ (by rw [len_of S1 Nn1]; exact k_)) ?_
  refine o_aloadN 3 X0 hx (hb hby d10_2) rfl rfl rfl ?_
  refine own_j 4 [.int n2, .int n1] (fun t_ k_ => X0.arraylength hx (by rw [e0]; exact Ar2.1) (State.isArrayOf_alike hZ.alike Ar2.2.1) (g := (mkF mM 3 #[.val (.ref d1), .val (.ref d2), .unset] [.ref d2, .int n1])) rfl rfl (hb hby d10_3) t_ (by rw [len_of S2 Nn2]; exact k_)) ?_
  by_cases hc4_4 : n1 = n2
  · skip
    refine o_icmpNo 7 X0 hx (hb hby d10_4) (teq hc4_4).2 rfl ?_
    refine o_iconst 8 0 X0 hx (hb hby d10_7) rfl rfl ?_
    refine own_st (A := s₁.setTop (mkF mM 9 #[.val (.ref d1), .val (.ref d2), .val (.int 0)] [])) (fun t_ k_ => XS.istoreN X0.here hx rfl (hb hby d10_8) rfl (l' := #[.val (.ref d1), .val (.ref d2), .val (.int 0)]) rfl k_) ?_
    subst hc4_4
    exact J9 hw X0 hx hZ hby hml hown hlk hret e0 N0 d1 d2 cl1 cl2 n1 xs ys 0 Ar1 S1 Nn1 H1 Ar2 S2 H2 l1 l2 (by decide) (fun k q => absurd q (Nat.not_lt_zero k)) (fun n => Fr.nil n)
  · skip
    refine o_icmpYes 34 X0 hx (hb hby d10_4) (feq hc4_4).2 (by decide) ?_
    refine o_iconst 35 0 X0 hx (hb hby d10_34) rfl rfl ?_
    exact own_retN X0 hx hlk (t := .boolean) hret (by simp) (hb hby d10_35) (by rw [own_eq0 (fun q => hc4_4 (own_len0 Nn1 Nn2 (by rw [l1, l2, q])))]; exact ⟨rfl, ⟨N0, fun n => Fr.nil n⟩, e0⟩) (by decide) (by decide)
theorem d9_0 : decode jdk_42_method_66_code 0 = .ok (.aload_n 0, 1) := by decide +kernel
theorem d9_1 : decode jdk_42_method_66_code 1 = .ok (.aload_n 1, 1) := by decide +kernel
theorem d9_2 : decode jdk_42_method_66_code 2 = .ok (.if_acmp .ne 5, 3) := by decide +kernel
theorem d9_7 : decode jdk_42_method_66_code 7 = .ok (.aload_n 1, 1) := by decide +kernel
theorem d9_8 : decode jdk_42_method_66_code 8 = .ok (.instanceof 10, 3) := by decide +kernel
theorem d9_11 : decode jdk_42_method_66_code 11 = .ok (.ifCond .eq 43, 3) := by decide +kernel
theorem d9_14 : decode jdk_42_method_66_code 14 = .ok (.aload_n 1, 1) := by decide +kernel
theorem d9_15 : decode jdk_42_method_66_code 15 = .ok (.checkcast 10, 3) := by decide +kernel
theorem d9_18 : decode jdk_42_method_66_code 18 = .ok (.astore_n 2, 1) := by decide +kernel
theorem d9_19 : decode jdk_42_method_66_code 19 = .ok (.getstatic 38, 3) := by decide +kernel
theorem d9_22 : decode jdk_42_method_66_code 22 = .ok (.ifCond .eq 14, 3) := by decide +kernel
theorem d9_25 : decode jdk_42_method_66_code 25 = .ok (.aload_n 0, 1) := by decide +kernel
theorem d9_26 : decode jdk_42_method_66_code 26 = .ok (.getfield 15, 3) := by decide +kernel
theorem d9_29 : decode jdk_42_method_66_code 29 = .ok (.aload_n 2, 1) := by decide +kernel
theorem d9_30 : decode jdk_42_method_66_code 30 = .ok (.getfield 15, 3) := by decide +kernel
theorem d9_33 : decode jdk_42_method_66_code 33 = .ok (.if_icmp .ne 21, 3) := by decide +kernel
theorem d9_36 : decode jdk_42_method_66_code 36 = .ok (.aload_n 0, 1) := by decide +kernel
theorem d9_37 : decode jdk_42_method_66_code 37 = .ok (.getfield 9, 3) := by decide +kernel
theorem d9_40 : decode jdk_42_method_66_code 40 = .ok (.aload_n 2, 1) := by decide +kernel
theorem d9_41 : decode jdk_42_method_66_code 41 = .ok (.getfield 9, 3) := by decide +kernel
theorem d9_44 : decode jdk_42_method_66_code 44 = .ok (.invokestatic 541, 3) := by decide +kernel
theorem pd__28_5bB_5bB_29Z : parseMethodDescriptor "([B[B)Z" = some ⟨[(.array .byte), (.array .byte)], some .boolean⟩ := by decide +kernel
theorem d9_47 : decode jdk_42_method_66_code 47 = .ok (.ifCond .eq 7, 3) := by decide +kernel
theorem d9_54 : decode jdk_42_method_66_code 54 = .ok (.iconst 0, 1) := by decide +kernel
theorem d9_55 : decode jdk_42_method_66_code 55 = .ok (.ireturn, 1) := by decide +kernel
theorem d9_50 : decode jdk_42_method_66_code 50 = .ok (.iconst 1, 1) := by decide +kernel
theorem d9_51 : decode jdk_42_method_66_code 51 = .ok (.goto 4, 3) := by decide +kernel
theorem pn_java_2flang_2fString : plainName "java/lang/String" = true := by first | (simp [plainName, overriddenIn]; done) | decide +kernel
theorem ef_rmEqD (mM : MethodId) (a : Addr) (b : Addr) (cs : Int32) (xs : List Int32) (ys : List Int32) : entryFrame mM #[.ref a, .ref b] 3 = mkF mM 0 #[.val (.ref a), .val (.ref b), .unset] [] := by first | (simp [entryFrame, mkF, argsToLocals, Value.category]; done) | rfl
theorem rmEqD (lL : Launch) (Z : State) (a0 : Array Value) (hw : own_tb a0 Z) (ws : List Jvm.Cond) (a : Addr) (b : Addr) (cs : Int32) (xs : List Int32) (ys : List Int32) (h0 : Heap) (n0 : Nat) (sa : StrX Z h0 a xs) (sb : StrX Z h0 b ys) (S_cs : Sta Z h0 "java/lang/String" "COMPACT_STRINGS" "Z" (.int cs)) (hcs : ¬ cs = (0 : Int32)) (nab : a ≠ b) :
    own_Ct lL Z yn1 jdk_42_method_66_code 3 (some .boolean) ws (⟨1, 0, 0, 14⟩ : Room) #[.ref a, .ref b] h0 (Qn (.int (eqv xs ys)) h0 n0) := by
  refine own_body (plainFor_of_name pn_java_2flang_2fString) 0 0 rfl rfl (fun mM => ef_rmEqD mM a b cs xs ys) fun pP eE sS mM below meth cC s₁ hZ hx hby hml hown hnm hret hlk X0 e0 => ?_
  have N0 := Fr.nil n0
  obtain ⟨da, ka, na, ⟨E_a, fva, fca, Aa⟩, la⟩ := sa
  obtain ⟨db, kb, nb, ⟨E_b, fvb, fcb, Ab⟩, lb⟩ := sb
  refine o_aloadN 1 X0 hx (hb hby d9_0) rfl rfl rfl ?_
  refine o_aloadN 2 X0 hx (hb hby d9_1) rfl rfl rfl ?_
  refine own_j 7 [] (fun t_ k_ => Jvm.RoadKit.acmp X0 hx rfl (x := (.ref a)) (y := (.ref b)) rfl rfl (pc0 := 2) (pc' := 7) (same := false) rfl (hb hby d9_2) rfl (decide_eq_false (fun q => nab (Value.ref.inj q))) (by decide) (by decide) k_) ?_
  refine o_aloadN 8 X0 hx (hb hby d9_7) rfl rfl rfl ?_
  obtain ⟨T5, X5, e5, st5⟩ := instY X0 hx hZ hown (ow hw 46 rfl) e0 (Ins.self E_b) (g := (mkF mM 8 #[.val (.ref a), .val (.ref b), .unset] [.ref b])) rfl rfl (hb hby d9_8)
  refine own_k T5 11 [.int 1] st5 ?_
  refine o_ifNo 14 X5 hx (hb hby d9_11) ((if0 _ _).trans (feq (by decide : ¬ ((1 : Int32) = (0 : Int32)))).1) rfl ?_
  refine o_aloadN 15 X5 hx (hb hby d9_14) rfl rfl rfl ?_
  obtain ⟨T6, X6, e6, st6⟩ := castY X5 hx hZ hown (ow hw 46 rfl) e5 (Ins.self E_b) (g := (mkF mM 15 #[.val (.ref a), .val (.ref b), .unset] [.ref b])) rfl rfl (hb hby d9_15)
  refine own_k T6 18 [.ref b] st6 ?_
  refine own_st (A := T6.setTop (mkF mM 19 #[.val (.ref a), .val (.ref b), .val (.ref b)] [])) (fun t_ k_ => XS.astoreN X6.here hx rfl (hb hby d9_18) rfl rfl (l' := #[.val (.ref a), .val (.ref b), .val (.ref b)]) rfl k_) ?_
  obtain ⟨T7, X7, e7, st7⟩ := getS2 X6 hx hZ hown (host := "") (Or.inl (ow hw 19 rfl)) Via.refl e6 S_cs (g := (mkF mM 19 #[.val (.ref a), .val (.ref b), .val (.ref b)] [])) rfl (hb hby d9_19)
  refine own_k T7 22 [.int cs] st7 ?_
  refine o_ifNo 25 X7 hx (hb hby d9_22) ((if0 _ _).trans (feq hcs).1) rfl ?_
  refine o_aloadN 26 X7 hx (hb hby d9_25) rfl rfl rfl ?_
  obtain ⟨T8, X8, e8, st8⟩ := getF X7 hx hZ hown (host := "") (Or.inl (ow hw 31 rfl)) Via.refl e7 fca (g := (mkF mM 26 #[.val (.ref a), .val (.ref b), .val (.ref b)] [.ref a])) rfl rfl (hb hby d9_26)
  refine own_k T8 29 [.int 0] st8 ?_
  refine o_aloadN 30 X8 hx (hb hby d9_29) rfl rfl rfl ?_
  obtain ⟨T9, X9, e9, st9⟩ := getF X8 hx hZ hown (host := "") (Or.inl (ow hw 31 rfl)) Via.refl e8 fcb (g := (mkF mM 30 #[.val (.ref a), .val (.ref b), .val (.ref b)] [.ref b, .int 0])) rfl rfl (hb hby d9_30)
  refine own_k T9 33 [.int 0, .int 0] st9 ?_
  refine o_icmpNo 36 X9 hx (hb hby d9_33) (teq (by decide : ((0 : Int32) = (0 : Int32)))).2 rfl ?_
  refine o_aloadN 37 X9 hx (hb hby d9_36) rfl rfl rfl ?_
  obtain ⟨T10, X10, e10, st10⟩ := getF X9 hx hZ hown (host := "") (Or.inl (ow hw 33 rfl)) Via.refl e9 fva (g := (mkF mM 37 #[.val (.ref a), .val (.ref b), .val (.ref b)] [.ref a])) rfl rfl (hb hby d9_37)
  refine own_k T10 40 [.ref da] st10 ?_
  refine o_aloadN 41 X10 hx (hb hby d9_40) rfl rfl rfl ?_
  obtain ⟨T11, X11, e11, st11⟩ := getF X10 hx hZ hown (host := "") (Or.inl (ow hw 33 rfl)) Via.refl e10 fvb (g := (mkF mM 41 #[.val (.ref a), .val (.ref b), .val (.ref b)] [.ref b, .ref da])) rfl rfl (hb hby d9_41)
  refine own_k T11 44 [.ref db, .ref da] st11 ?_
  obtain ⟨_, _, ⟨T12, L12, k12, n12⟩, -, X12, ⟨Lc12, hQ12, l12, y12, z12⟩, st12⟩ := Jvm.LawKit.callS X11 hx (y := yn0) hown (mvT hZ (ow hw 47 rfl)) (mvT hZ (ow hw 48 rfl)) (mvT hZ (ow hw 49 rfl)) (mvT hZ (ow hw 50 rfl)) (by decide) (backOf (W := 0) (rmLE lL Z a0 hw [] da ka na db kb nb xs ys h0 n0 Aa la Ab lb) hZ (ow hw 50 rfl) (ow hw 49 rfl) (by decide) (by decide)) (g := (mkF mM 44 #[.val (.ref a), .val (.ref b), .val (.ref b)] [.ref db, .ref da])) rfl (by rw [hml]; rfl) (argsL := [.ref da, .ref db]) (rest := []) (lenOf pd__28_5bB_5bB_29Z rfl) rfl (by show 2 * 0 + _ ≤ _; exact Nat.le_of_eq rfl) (hb hby d9_44) (fun _ _ => ⟨rfl, e11, (by decide : 0 + 0 ≤ _), (by decide : 0 + 0 ≤ _)⟩)
  dsimp only [Pt.U, Pt.locs, Pt.cells, Pt.slots] at X12 l12 y12 z12 st12 hQ12
  subst l12 y12 z12
  obtain ⟨rfl, ⟨N12q, M12⟩, e12⟩ := hQ12
  have N12 := Fr.app N0 N12q
  refine own_k T12 47 [(.int (eqv xs ys))] st12 ?_
  by_cases hc47_13 : (eqv xs ys) = (0 : Int32)
  · skip
    refine o_ifYes 54 X12 hx (hb hby d9_47) ((if0 _ _).trans (teq hc47_13).1) (by decide) ?_
    refine o_iconst 55 0 X12 hx (hb hby d9_54) rfl rfl ?_
    exact own_retN X12 hx hlk (t := .boolean) hret (by simp) (hb hby d9_55) (by rw [hc47_13]; exact ⟨rfl, ⟨N12, fun n => Fr.app (Fr.nil n) (M12 n)⟩, e12⟩) (by decide) (by decide)
  · skip
    refine o_ifNo 50 X12 hx (hb hby d9_47) ((if0 _ _).trans (feq hc47_13).1) rfl ?_
    refine o_iconst 51 1 X12 hx (hb hby d9_50) rfl rfl ?_
    refine o_goto 55 X12 hx (hb hby d9_51) (by decide) ?_
    exact own_retN X12 hx hlk (t := .boolean) hret (by simp) (hb hby d9_55) (by rw [own_eqv1 hc47_13]; exact ⟨rfl, ⟨N12, fun n => Fr.app (Fr.nil n) (M12 n)⟩, e12⟩) (by decide) (by decide)
theorem d9_5 : decode jdk_42_method_66_code 5 = .ok (.iconst 1, 1) := by decide +kernel
theorem d9_6 : decode jdk_42_method_66_code 6 = .ok (.ireturn, 1) := by decide +kernel
theorem ef_rmEqS (mM : MethodId) (a : Addr) : entryFrame mM #[.ref a, .ref a] 3 = mkF mM 0 #[.val (.ref a), .val (.ref a), .unset] [] := by first | (simp [entryFrame, mkF, argsToLocals, Value.category]; done) | rfl
theorem rmEqS (lL : Launch) (Z : State) (a0 : Array Value) (hw : own_tb a0 Z) (ws : List Jvm.Cond) (a : Addr) (h0 : Heap) (n0 : Nat)  :
    own_Ct lL Z yn1 jdk_42_method_66_code 3 (some .boolean) ws (⟨1, 0, 0, 14⟩ : Room) #[.ref a, .ref a] h0 (Qn (.int 1) h0 n0) := by
  refine own_body (plainFor_of_name pn_java_2flang_2fString) 0 0 rfl rfl (fun mM => ef_rmEqS mM a) fun pP eE sS mM below meth cC s₁ hZ hx hby hml hown hnm hret hlk X0 e0 => ?_
  have N0 := Fr.nil n0
  refine o_aloadN 1 X0 hx (hb hby d9_0) rfl rfl rfl ?_
  refine o_aloadN 2 X0 hx (hb hby d9_1) rfl rfl rfl ?_
  refine own_j 5 [] (fun t_ k_ => Jvm.RoadKit.acmp X0 hx rfl (x := (.ref a)) (y := (.ref a)) rfl rfl (pc0 := 2) (pc' := 5) (same := true) rfl (hb hby d9_2) rfl (decide_eq_true rfl) (by decide) (by decide) k_) ?_
  refine o_iconst 6 1 X0 hx (hb hby d9_5) rfl rfl ?_
  exact own_retN X0 hx hlk (t := .boolean) hret (by simp) (hb hby d9_6) ⟨rfl, ⟨N0, fun n => Fr.nil n⟩, e0⟩ (by decide) (by decide)
theorem ef_rmEqN (mM : MethodId) (a : Addr) : entryFrame mM #[.ref a, .null] 3 = mkF mM 0 #[.val (.ref a), .val .null, .unset] [] := by first | (simp [entryFrame, mkF, argsToLocals, Value.category]; done) | rfl
theorem rmEqN (lL : Launch) (Z : State) (a0 : Array Value) (hw : own_tb a0 Z) (ws : List Jvm.Cond) (a : Addr) (h0 : Heap) (n0 : Nat)  :
    own_Ct lL Z yn1 jdk_42_method_66_code 3 (some .boolean) ws (⟨0, 0, 0, 0⟩ : Room) #[.ref a, .null] h0 (Qn (.int 0) h0 n0) := by
  refine own_body (plainFor_of_name pn_java_2flang_2fString) 0 0 rfl rfl (fun mM => ef_rmEqN mM a) fun pP eE sS mM below meth cC s₁ hZ hx hby hml hown hnm hret hlk X0 e0 => ?_
  have N0 := Fr.nil n0
  refine o_aloadN 1 X0 hx (hb hby d9_0) rfl rfl rfl ?_
  refine o_aloadN 2 X0 hx (hb hby d9_1) rfl rfl rfl ?_
  refine own_j 7 [] (fun t_ k_ => Jvm.RoadKit.acmp X0 hx rfl (x := (.ref a)) (y := .null) rfl rfl (pc0 := 2) (pc' := 7) (same := false) rfl (hb hby d9_2) rfl (decide_eq_false nofun) (by decide) (by decide) k_) ?_
  refine o_aloadN 8 X0 hx (hb hby d9_7) rfl rfl rfl ?_
  refine own_j 11 [.int 0] (fun t_ k_ => X0.instanceofNull hx (g := (mkF mM 8 #[.val (.ref a), .val .null, .unset] [.null])) rfl rfl (hb hby d9_8) t_ k_) ?_
  refine o_ifYes 54 X0 hx (hb hby d9_11) ((if0 _ _).trans (teq (by decide : ((0 : Int32) = (0 : Int32)))).1) (by decide) ?_
  refine o_iconst 55 0 X0 hx (hb hby d9_54) rfl rfl ?_
  exact own_retN X0 hx hlk (t := .boolean) hret (by simp) (hb hby d9_55) ⟨rfl, ⟨N0, fun n => Fr.nil n⟩, e0⟩ (by decide) (by decide)
theorem rmEq (lL : Launch) (Z : State) (a0 : Array Value) (hw : own_tb a0 Z) (ws : List Jvm.Cond) (a : Addr) (b : Addr) (cs : Int32) (xs : List Int32) (ys : List Int32) (h0 : Heap) (n0 : Nat) (sa : StrX Z h0 a xs) (sb : StrX Z h0 b ys) (S_cs : Sta Z h0 "java/lang/String" "COMPACT_STRINGS" "Z" (.int cs)) (hcs : ¬ cs = (0 : Int32)) :
    own_Ct lL Z yn1 jdk_42_method_66_code 3 (some .boolean) ws (⟨1, 0, 0, 14⟩ : Room) #[.ref a, .ref b] h0 (Qn (.int (eqv xs ys)) h0 n0) := by
  by_cases q : a = b
  · subst q
    rw [own_eq1 (own_StrX_inj sa sb)]
    exact rmEqS lL Z a0 hw ws a h0 n0
  · exact rmEqD lL Z a0 hw ws a b cs xs ys h0 n0 sa sb S_cs hcs q
theorem d8_0 : decode method_3_code 0 = .ok (.aload_n 0, 1) := by decide +kernel
theorem d8_1 : decode method_3_code 1 = .ok (.ifnonnull 5, 3) := by decide +kernel
theorem d8_6 : decode method_3_code 6 = .ok (.aload_n 0, 1) := by decide +kernel
theorem d8_7 : decode method_3_code 7 = .ok (.ldc 39, 2) := by decide +kernel
theorem d8_9 : decode method_3_code 9 = .ok (.invokevirtual 41, 3) := by decide +kernel
theorem pd__28Ljava_2flang_2fObject_3b_29Z : parseMethodDescriptor "(Ljava/lang/Object;)Z" = some ⟨[(.object "java/lang/Object")], some .boolean⟩ := by decide +kernel
theorem d8_12 : decode method_3_code 12 = .ok (.ifCond .eq 7, 3) := by decide +kernel
theorem d8_19 : decode method_3_code 19 = .ok (.aload_n 0, 1) := by decide +kernel
theorem d8_20 : decode method_3_code 20 = .ok (.ldc 49, 2) := by decide +kernel
theorem d8_22 : decode method_3_code 22 = .ok (.invokevirtual 41, 3) := by decide +kernel
theorem d8_25 : decode method_3_code 25 = .ok (.ifCond .eq 7, 3) := by decide +kernel
theorem d8_32 : decode method_3_code 32 = .ok (.aload_n 0, 1) := by decide +kernel
theorem d8_33 : decode method_3_code 33 = .ok (.ldc 54, 2) := by decide +kernel
theorem d8_35 : decode method_3_code 35 = .ok (.invokevirtual 41, 3) := by decide +kernel
theorem d8_38 : decode method_3_code 38 = .ok (.ifCond .eq 7, 3) := by decide +kernel
theorem d8_45 : decode method_3_code 45 = .ok (.aconst_null, 1) := by decide +kernel
theorem d8_46 : decode method_3_code 46 = .ok (.areturn, 1) := by decide +kernel
theorem d8_41 : decode method_3_code 41 = .ok (.getstatic 56, 3) := by decide +kernel
theorem d8_44 : decode method_3_code 44 = .ok (.areturn, 1) := by decide +kernel
theorem d8_28 : decode method_3_code 28 = .ok (.getstatic 51, 3) := by decide +kernel
theorem d8_31 : decode method_3_code 31 = .ok (.areturn, 1) := by decide +kernel
theorem d8_15 : decode method_3_code 15 = .ok (.getstatic 45, 3) := by decide +kernel
theorem d8_18 : decode method_3_code 18 = .ok (.areturn, 1) := by decide +kernel
theorem pn_com_2fexample_2fslotwright_2fslotwright_2fmodel_2fLinkTypeOfKeyPinLaw : plainName "com/example/slotwright/slotwright/model/LinkTypeOfKeyPinLaw" = true := by first | (simp [plainName, overriddenIn]; done) | decide +kernel
theorem ef_rmRf (mM : MethodId) (ss : Addr) (xs : List Int32) (cs : Int32) (a1 : Addr) (a2 : Addr) (a3 : Addr) (w : Value) : entryFrame mM #[.ref ss] 1 = mkF mM 0 #[.val (.ref ss)] [] := by first | (simp [entryFrame, mkF, argsToLocals, Value.category]; done) | rfl
theorem rmRf (lL : Launch) (Z : State) (a0 : Array Value) (hw : own_tb a0 Z) (ws : List Jvm.Cond) (ss : Addr) (xs : List Int32) (cs : Int32) (a1 : Addr) (a2 : Addr) (a3 : Addr) (w : Value) (h0 : Heap) (n0 : Nat) (sx : StrX Z h0 ss xs) (O : Old Z n0 h0) (S_cs : Sta Z Z.heap "java/lang/String" "COMPACT_STRINGS" "Z" (.int cs)) (hcs : ¬ cs = (0 : Int32)) (hcw : Jvm.Lit.compactW.before a0 Z = true) (hh39 : Jvm.Lit.constHeld Z "com/example/slotwright/slotwright/model/LinkTypeOfKeyPinLaw" 39) (hh49 : Jvm.Lit.constHeld Z "com/example/slotwright/slotwright/model/LinkTypeOfKeyPinLaw" 49) (hh54 : Jvm.Lit.constHeld Z "com/example/slotwright/slotwright/model/LinkTypeOfKeyPinLaw" 54) (S_BEFORE : Sta Z Z.heap "com/example/slotwright/slotwright/model/LinkType" "BEFORE" "Lcom/example/slotwright/slotwright/model/LinkType;" (.ref a1)) (S_MEETS : Sta Z Z.heap "com/example/slotwright/slotwright/model/LinkType" "MEETS" "Lcom/example/slotwright/slotwright/model/LinkType;" (.ref a2)) (S_CONCURRENT : Sta Z Z.heap "com/example/slotwright/slotwright/model/LinkType" "CONCURRENT" "Lcom/example/slotwright/slotwright/model/LinkType;" (.ref a3)) (r1 : ¬ eqv xs bB = (0 : Int32) → w = .ref a1) (r2 : eqv xs bB = (0 : Int32) → ¬ eqv xs bM = (0 : Int32) → w = .ref a2) (r3 : eqv xs bB = (0 : Int32) → eqv xs bM = (0 : Int32) → ¬ eqv xs bC = (0 : Int32) → w = .ref a3) (r0 : eqv xs bB = (0 : Int32) → eqv xs bM = (0 : Int32) → eqv xs bC = (0 : Int32) → w = .null) :
    MetFree lL yn2 (head1 (Jvm.Cond.code yn2 method_3_code 1 (some (.object "com/example/slotwright/slotwright/model/LinkType")) :: ws) (⟨2, 6, 96, 28⟩ : Room)) (fun as_ uU_ => as_ = #[.ref ss] ∧ Z.Warmed39 uU_.vm ∧ uU_.heap = h0 ∧ IB Z uU_.vm [""]) (fun _ _ _ _ _ => True) (fun _ uU_ oO_ uE_ => ∃ vV_ lL_, oO_ = .returned vV_ ∧ QeV w h0 n0 vV_ uE_.heap lL_ uE_.vm ∧ ReturnedEndW uU_ oO_ uE_ lL_ (⟨2, 6, 96, 28⟩ : Room).cells (⟨2, 6, 96, 28⟩ : Room).slots) := by
  refine MetFree.of_bodySF (plainFor_of_name pn_com_2fexample_2fslotwright_2fslotwright_2fmodel_2fLinkTypeOfKeyPinLaw) hisR ?_
  intro pP eE sS mM args below meth cC s₁ Bd hml0 hP hK
  obtain ⟨rfl, hZ, hh, hI⟩ := hP
  have hx := Bd.exec
  have hby := Bd.bytes
  have hml : cC.maxLocals = 1 := hml0
  have hown : sS.vm.findClass "com/example/slotwright/slotwright/model/LinkTypeOfKeyPinLaw" = some mM.cls := findClass_of_methodNamed Bd.named
  have hnm := (name_of_methodNamed Bd.named Bd.method).1
  have hret := Bd.returns
  have hlk := BodyLoose.notSynchronized Bd
  have X0 : Stand pP lL eE (⟨2, 6, 96, 28⟩ : Room) sS mM #[.ref ss] below meth cC s₁ [] 0 0 := Stand.of_body Bd
  have e0 : s₁.heap = h0 := by rw [← hh, Bd.state]; rfl
  have N0 := Fr.nil n0
  have X0 : Stand pP lL eE (⟨2, 6, 96, 28⟩ : Room) (sS.setVm sS.vm) mM #[.ref ss] below meth cC s₁ [] 0 0 := X0
  have hZ : Z.Warmed39 (sS.setVm sS.vm).vm := hZ
  have hown : (sS.setVm sS.vm).vm.findClass "com/example/slotwright/slotwright/model/LinkTypeOfKeyPinLaw" = some mM.cls := hown
  have hS : sS.Since sS.vm 0 := (State.WarmedH.refl sS).since 0
  have hk : 0 ≤ h0.size := Nat.zero_le _
  show own_GoW pP eE below sS (QeV w h0 n0) 6 96 (s₁.setTop (entryFrame mM #[.ref ss] 1))
  refine own_stW (A := s₁.setTop (mkF mM 0 #[.val (.ref ss)] [])) (fun t_ k_ => castTop (ef_rmRf mM ss xs cs a1 a2 a3 w) k_) ?_
  have Kp := Keep.refl h0 []
  have Oo := O
  refine o_aloadNW 1 X0 hx (hb hby d8_0) rfl rfl rfl ?_
  refine own_jW 6 [] (fun t_ k_ => XS.ifnonnullYes X0.here hx rfl (pc0 := 1) (pc' := 6) rfl (hb hby d8_1) rfl (by decide) (by decide) k_) ?_
  refine o_aloadNW 7 X0 hx (hb hby d8_6) rfl rfl rfl ?_
  obtain ⟨z0, T14, h14, k14, z0v, kz14, X14, e14, E14, hS, hk14, hZ14, hown14, EX14, FC14, FV14, AZ14, -, -, IB14, Li_z0, st14⟩ := ldcSVL X0 hx hZ hown (ow hw 38 rfl) (own_wS hw) e0 hS hk (Fr.nil _) (fun b cl q => by rw [hh]; exact Oo.2.2 b cl q) hI (by decide) hh39 hcw (vs := [.int 98, .int 101, .int 102, .int 111, .int 114, .int 101]) (z := 6) ⟨by decide, by rfl⟩ (by decide) (by decide) (g := (mkF mM 7 #[.val (.ref ss)] [.ref ss])) rfl (hb hby d8_7) (n := 24) (by decide) (by decide) (by decide) (by decide)
  have sx := own_StrX_ext sx E14
  have O := O.ext E14
  have hk := Nat.le_trans hk E14.1
  have Kp := Kp.ext E14
  have hk := hk14
  have hZ := hZ14
  have hown := hown14
  have E_z0 := EX14
  have F_z0_value := FV14
  have F_z0_coder := FC14
  refine own_kW T14 9 [.ref z0, .ref ss] st14 ?_
  have hI := IB14
  have sz0 : StrX Z h14 z0 bB := ⟨_, _, _, ⟨EX14, FV14, FC14, AZ14⟩, rfl⟩
  obtain ⟨cq15, kq15, q15a, q15b, q15c⟩ := isOf hZ e14 (own_StrX_exa sx)
  obtain ⟨_, _, ⟨T15, L15, k15, n15⟩, -, X15, ⟨Lc15, hQ15, l15, y15, z15⟩, st15⟩ := X14.virtualBack hx (y := yn1) (z := yn1) hown (mvT hZ (ow hw 41 rfl)) (mvT hZ (ow hw 42 rfl)) (notFace_of_selects (args := #[]) (mvT hZ (ow hw 44 rfl))) (mvT hZ (ow hw 44 rfl)) (mvT hZ (ow hw 43 rfl)) (by decide) (backOf (W := 0) (rmEq lL Z a0 hw [] ss z0 cs xs bB h14 n0 sx sz0 (S_cs.ext O.2) hcs) hZ (ow hw 45 rfl) (ow hw 3 rfl) (by decide) (by decide)) q15a q15c (g := (mkF mM 9 #[.val (.ref ss)] [.ref z0, .ref ss])) rfl (by rw [hml]; rfl) (Steps.refl _) (argsL := [.ref z0]) (rest := []) (lenOf pd__28Ljava_2flang_2fObject_3b_29Z rfl) rfl (by show 2 * 0 + _ ≤ _; exact Nat.le_of_eq rfl) (hb hby d8_9) (fun _ _ => ⟨rfl, e14, (by decide : 2 + 0 ≤ _), (by decide : 28 + 0 ≤ _)⟩)
  dsimp only [Pt.U, Pt.locs, Pt.cells, Pt.slots] at X15 l15 y15 z15 st15 hQ15
  subst l15 y15 z15
  obtain ⟨rfl, ⟨N15q, M15⟩, e15⟩ := hQ15
  have N15 := Fr.app N0 N15q
  refine own_kW T15 12 [(.int (eqv xs bB))] (fun t_ k_ => st15.trans k_) ?_
  by_cases hc12_16 : (eqv xs bB) = (0 : Int32)
  · skip
    refine o_ifYesW 19 X15 hx (hb hby d8_12) ((if0 _ _).trans (teq hc12_16).1) (by decide) ?_
    refine o_aloadNW 20 X15 hx (hb hby d8_19) rfl rfl rfl ?_
    obtain ⟨z1, T17, h17, k17, z1v, kz17, X17, e17, E17, hS, hk17, hZ17, hown17, EX17, FC17, FV17, AZ17, -, -, IB17, Li_z1, st17⟩ := ldcSVL X15 hx hZ hown (ow hw 77 rfl) (own_wS hw) e15 hS hk (Fr.app (Fr.nil _) (M15 _)) (fun b cl q => by rw [hh]; exact Oo.2.2 b cl q) hI (by decide) hh49 hcw (vs := [.int 109, .int 101, .int 101, .int 116, .int 115]) (z := 5) ⟨by decide, by rfl⟩ (by decide) (by decide) (g := (mkF mM 20 #[.val (.ref ss)] [.ref ss])) rfl (hb hby d8_20) (n := 20) (by decide) (by decide) (by decide) (by decide)
    have sx := own_StrX_ext sx E17
    have O := O.ext E17
    have hk := Nat.le_trans hk E17.1
    have Kp := Kp.ext E17
    have hk := hk17
    have hZ := hZ17
    have hown := hown17
    have E_z1 := EX17
    have F_z1_value := FV17
    have F_z1_coder := FC17
    refine own_kW T17 22 [.ref z1, .ref ss] st17 ?_
    have hI := IB17
    have sz1 : StrX Z h17 z1 bM := ⟨_, _, _, ⟨EX17, FV17, FC17, AZ17⟩, rfl⟩
    obtain ⟨cq18, kq18, q18a, q18b, q18c⟩ := isOf hZ e17 (own_StrX_exa sx)
    obtain ⟨_, _, ⟨T18, L18, k18, n18⟩, -, X18, ⟨Lc18, hQ18, l18, y18, z18⟩, st18⟩ := X17.virtualBack hx (y := yn1) (z := yn1) hown (mvT hZ (ow hw 41 rfl)) (mvT hZ (ow hw 42 rfl)) (notFace_of_selects (args := #[]) (mvT hZ (ow hw 44 rfl))) (mvT hZ (ow hw 44 rfl)) (mvT hZ (ow hw 43 rfl)) (by decide) (backOf (W := 0) (rmEq lL Z a0 hw [] ss z1 cs xs bM h17 n0 sx sz1 (S_cs.ext O.2) hcs) hZ (ow hw 45 rfl) (ow hw 3 rfl) (by decide) (by decide)) q18a q18c (g := (mkF mM 22 #[.val (.ref ss)] [.ref z1, .ref ss])) rfl (by rw [hml]; rfl) (Steps.refl _) (argsL := [.ref z1]) (rest := []) (lenOf pd__28Ljava_2flang_2fObject_3b_29Z rfl) rfl (by show 2 * 0 + _ ≤ _; exact Nat.le_of_eq rfl) (hb hby d8_22) (fun _ _ => ⟨rfl, e17, (by decide : 4 + 0 ≤ _), (by decide : 52 + 0 ≤ _)⟩)
    dsimp only [Pt.U, Pt.locs, Pt.cells, Pt.slots] at X18 l18 y18 z18 st18 hQ18
    subst l18 y18 z18
    obtain ⟨rfl, ⟨N18q, M18⟩, e18⟩ := hQ18
    have N18 := Fr.app N15 N18q
    refine own_kW T18 25 [(.int (eqv xs bM))] (fun t_ k_ => st18.trans k_) ?_
    by_cases hc25_19 : (eqv xs bM) = (0 : Int32)
    · skip
      refine o_ifYesW 32 X18 hx (hb hby d8_25) ((if0 _ _).trans (teq hc25_19).1) (by decide) ?_
      refine o_aloadNW 33 X18 hx (hb hby d8_32) rfl rfl rfl ?_
      obtain ⟨z2, T20, h20, k20, z2v, kz20, X20, e20, E20, hS, hk20, hZ20, hown20, EX20, FC20, FV20, AZ20, -, -, IB20, Li_z2, st20⟩ := ldcSVL X18 hx hZ hown (ow hw 78 rfl) (own_wS hw) e18 hS hk (Fr.app (Fr.app (Fr.nil _) (M15 _)) (M18 _)) (fun b cl q => by rw [hh]; exact Oo.2.2 b cl q) hI (by decide) hh54 hcw (vs := [.int 99, .int 111, .int 110, .int 99, .int 117, .int 114, .int 114, .int 101, .int 110, .int 116]) (z := 10) ⟨by decide, by rfl⟩ (by decide) (by decide) (g := (mkF mM 33 #[.val (.ref ss)] [.ref ss])) rfl (hb hby d8_33) (n := 40) (by decide) (by decide) (by decide) (by decide)
      have sx := own_StrX_ext sx E20
      have O := O.ext E20
      have hk := Nat.le_trans hk E20.1
      have Kp := Kp.ext E20
      have hk := hk20
      have hZ := hZ20
      have hown := hown20
      have E_z2 := EX20
      have F_z2_value := FV20
      have F_z2_coder := FC20
      refine own_kW T20 35 [.ref z2, .ref ss] st20 ?_
      have hI := IB20
      have sz2 : StrX Z h20 z2 bC := ⟨_, _, _, ⟨EX20, FV20, FC20, AZ20⟩, rfl⟩
      obtain ⟨cq21, kq21, q21a, q21b, q21c⟩ := isOf hZ e20 (own_StrX_exa sx)
      obtain ⟨_, _, ⟨T21, L21, k21, n21⟩, -, X21, ⟨Lc21, hQ21, l21, y21, z21⟩, st21⟩ := X20.virtualBack hx (y := yn1) (z := yn1) hown (mvT hZ (ow hw 41 rfl)) (mvT hZ (ow hw 42 rfl)) (notFace_of_selects (args := #[]) (mvT hZ (ow hw 44 rfl))) (mvT hZ (ow hw 44 rfl)) (mvT hZ (ow hw 43 rfl)) (by decide) (backOf (W := 0) (rmEq lL Z a0 hw [] ss z2 cs xs bC h20 n0 sx sz2 (S_cs.ext O.2) hcs) hZ (ow hw 45 rfl) (ow hw 3 rfl) (by decide) (by decide)) q21a q21c (g := (mkF mM 35 #[.val (.ref ss)] [.ref z2, .ref ss])) rfl (by rw [hml]; rfl) (Steps.refl _) (argsL := [.ref z2]) (rest := []) (lenOf pd__28Ljava_2flang_2fObject_3b_29Z rfl) rfl (by show 2 * 0 + _ ≤ _; exact Nat.le_of_eq rfl) (hb hby d8_35) (fun _ _ => ⟨rfl, e20, (by decide : 6 + 0 ≤ _), (by decide : 96 + 0 ≤ _)⟩)
      dsimp only [Pt.U, Pt.locs, Pt.cells, Pt.slots] at X21 l21 y21 z21 st21 hQ21
      subst l21 y21 z21
      obtain ⟨rfl, ⟨N21q, M21⟩, e21⟩ := hQ21
      have N21 := Fr.app N18 N21q
      refine own_kW T21 38 [(.int (eqv xs bC))] (fun t_ k_ => st21.trans k_) ?_
      by_cases hc38_22 : (eqv xs bC) = (0 : Int32)
      · skip
        refine o_ifYesW 45 X21 hx (hb hby d8_38) ((if0 _ _).trans (teq hc38_22).1) (by decide) ?_
        refine own_jW 46 [.null] (fun t_ k_ => XS.aconstNull X21.here hx rfl (hb hby d8_45) k_) ?_
        exact own_retWA X21 hx hlk hS (by rw [e21]; exact hk) hret rfl rfl (hb hby d8_46) (by rw [e21, r0 hc12_16 hc25_19 hc38_22]; exact ⟨rfl, N21, own_ext_of_keep Kp⟩) (by decide) (by decide)
      · skip
        refine o_ifNoW 41 X21 hx (hb hby d8_38) ((if0 _ _).trans (feq hc38_22).1) rfl ?_
        obtain ⟨T23, X23, e23, st23⟩ := getS2 X21 hx hZ hown (host := "") (Or.inl (ow hw 88 rfl)) Via.refl e21 (S_CONCURRENT.ext O.2) (g := (mkF mM 41 #[.val (.ref ss)] [])) rfl (hb hby d8_41)
        refine own_kW T23 44 [.ref a3] st23 ?_
        exact own_retWA X23 hx hlk hS (by rw [e23]; exact hk) hret rfl rfl (hb hby d8_44) (by rw [e23, r3 hc12_16 hc25_19 hc38_22]; exact ⟨rfl, N21, own_ext_of_keep Kp⟩) (by decide) (by decide)
    · skip
      refine o_ifNoW 28 X18 hx (hb hby d8_25) ((if0 _ _).trans (feq hc25_19).1) rfl ?_
      obtain ⟨T24, X24, e24, st24⟩ := getS2 X18 hx hZ hown (host := "") (Or.inl (ow hw 102 rfl)) Via.refl e18 (S_MEETS.ext O.2) (g := (mkF mM 28 #[.val (.ref ss)] [])) rfl (hb hby d8_28)
      refine own_kW T24 31 [.ref a2] st24 ?_
      exact own_retWA X24 hx hlk hS (by rw [e24]; exact hk) hret rfl rfl (hb hby d8_31) (by rw [e24, r2 hc12_16 hc25_19]; exact ⟨rfl, N18, own_ext_of_keep Kp⟩) (by decide) (by decide)
  · skip
    refine o_ifNoW 15 X15 hx (hb hby d8_12) ((if0 _ _).trans (feq hc12_16).1) rfl ?_
    obtain ⟨T25, X25, e25, st25⟩ := getS2 X15 hx hZ hown (host := "") (Or.inl (ow hw 51 rfl)) Via.refl e15 (S_BEFORE.ext O.2) (g := (mkF mM 15 #[.val (.ref ss)] [])) rfl (hb hby d8_15)
    refine own_kW T25 18 [.ref a1] st25 ?_
    exact own_retWA X25 hx hlk hS (by rw [e25]; exact hk) hret rfl rfl (hb hby d8_18) (by rw [e25, r1 hc12_16]; exact ⟨rfl, N15, own_ext_of_keep Kp⟩) (by decide) (by decide)
theorem d8_4 : decode method_3_code 4 = .ok (.aconst_null, 1) := by decide +kernel
theorem d8_5 : decode method_3_code 5 = .ok (.areturn, 1) := by decide +kernel
theorem ef_rmRfN (mM : MethodId)  : entryFrame mM #[.null] 1 = mkF mM 0 #[.val .null] [] := by first | (simp [entryFrame, mkF, argsToLocals, Value.category]; done) | rfl
theorem rmRfN (lL : Launch) (Z : State) (a0 : Array Value) (hw : own_tb a0 Z) (ws : List Jvm.Cond)  (h0 : Heap) (n0 : Nat)  :
    own_Ct lL Z yn2 method_3_code 1 (some (.object "com/example/slotwright/slotwright/model/LinkType")) ws (⟨0, 0, 0, 0⟩ : Room) #[.null] h0 (Qw .null h0 n0) := by
  refine own_body (plainFor_of_name pn_com_2fexample_2fslotwright_2fslotwright_2fmodel_2fLinkTypeOfKeyPinLaw) 0 0 rfl rfl (fun mM => ef_rmRfN mM) fun pP eE sS mM below meth cC s₁ hZ hx hby hml hown hnm hret hlk X0 e0 => ?_
  have N0 := Fr.nil n0
  refine o_aloadN 1 X0 hx (hb hby d8_0) rfl rfl rfl ?_
  refine own_j 4 [] (fun t_ k_ => XS.ifnonnullNo X0.here hx rfl (hb hby d8_1) rfl k_) ?_
  refine own_j 5 [.null] (fun t_ k_ => XS.aconstNull X0.here hx rfl (hb hby d8_4) k_) ?_
  exact own_retA X0 hx hlk hret rfl rfl (hb hby d8_5) ⟨rfl, N0, e0⟩ (by decide) (by decide)
theorem d12_0 : decode prog_16_method_1_code 0 = .ok (.getstatic 13, 3) := by decide +kernel
theorem d12_3 : decode prog_16_method_1_code 3 = .ok (.invokevirtual 17, 3) := by decide +kernel
theorem d12_6 : decode prog_16_method_1_code 6 = .ok (.checkcast 18, 3) := by decide +kernel
theorem d12_9 : decode prog_16_method_1_code 9 = .ok (.areturn, 1) := by decide +kernel
theorem pn_com_2fexample_2fslotwright_2fslotwright_2fmodel_2fLinkType : plainName "com/example/slotwright/slotwright/model/LinkType" = true := by first | (simp [plainName, overriddenIn]; done) | decide +kernel
theorem ef_rmV (mM : MethodId) (t : Addr) (cl : Cell) : entryFrame mM #[] 0 = mkF mM 0 #[] [] := by first | (simp [entryFrame, mkF, argsToLocals, Value.category]; done) | rfl
theorem rmV (lL : Launch) (Z : State) (a0 : Array Value) (hw : own_tb a0 Z) (ws : List Jvm.Cond) (t : Addr) (cl : Cell) (h0 : Heap) (n0 : Nat) (S_V : Sta Z h0 "com/example/slotwright/slotwright/model/LinkType" "$VALUES" "[Lcom/example/slotwright/slotwright/model/LinkType;" (.ref t)) (Ar : Arr Z h0 t cl (.object "com/example/slotwright/slotwright/model/LinkType")) (Ex : Exa Z h0 t "[Lcom/example/slotwright/slotwright/model/LinkType;") (FC : FitC Z cl) (sz : cl.slots.size = (3 : Int32).toNatClampNeg) :
    own_Ct lL Z yn3 prog_16_method_1_code 0 (some (.array (.object "com/example/slotwright/slotwright/model/LinkType"))) ws (⟨1, 1, 3, 14⟩ : Room) #[] h0 (Qa Z cl h0 n0) := by
  refine own_body (plainFor_of_name pn_com_2fexample_2fslotwright_2fslotwright_2fmodel_2fLinkType) 1 3 rfl rfl (fun mM => ef_rmV mM t cl) fun pP eE sS mM below meth cC s₁ hZ hx hby hml hown hnm hret hlk X0 e0 => ?_
  have N0 := Fr.nil n0
  obtain ⟨T26, X26, e26, st26⟩ := getS2 X0 hx hZ hown (host := "") (Or.inl (ow hw 60 rfl)) Via.refl e0 S_V (g := (mkF mM 0 #[] [])) rfl (hb hby d12_0)
  refine own_k T26 3 [.ref t] st26 ?_
  obtain ⟨T27, h27, X27, e27, E27, A27, x27, st27⟩ := cloneA X26 hx hZ hown (ow hw 62 rfl) (ow hw 63 rfl) (ow hw 67 rfl) (ow hw 65 rfl) (ow hw 66 rfl) (ow hw 68 rfl) e26 Ar Ex FC (g := (mkF mM 3 #[] [.ref t])) rfl (by rw [hml]; rfl) rfl (hb hby d12_3) (by decide) (W := 0) (cap := 3) (by show 2 * 0 + _ ≤ _; exact Nat.le_of_eq rfl) (by decide) (by rw [sz]; decide) (by decide) (by decide)
  obtain ⟨b, gb⟩ : ∃ z, z = h0.size := ⟨_, rfl⟩
  rw [← gb] at A27 x27 st27
  refine own_k T27 6 [.ref b] st27 ?_
  obtain ⟨T28, X28, e28, st28⟩ := castY X27 hx hZ hown (ow hw 72 rfl) e27 (Ins.self x27) (g := (mkF mM 6 #[] [.ref b])) rfl rfl (hb hby d12_6)
  refine own_k T28 9 [.ref b] st28 ?_
  exact own_retA X28 hx hlk hret rfl rfl (hb hby d12_9) (by rw [e28]; exact ⟨b, rfl, N0, E27, A27⟩) (by decide) (by decide)
theorem d11_0 : decode prog_16_method_5_code 0 = .ok (.aconst_null, 1) := by decide +kernel
theorem d11_1 : decode prog_16_method_5_code 1 = .ok (.astore_n 1, 1) := by decide +kernel
theorem d11_2 : decode prog_16_method_5_code 2 = .ok (.invokestatic 36, 3) := by decide +kernel
theorem pd__28_29_5bLcom_2fexample_2fslotwright_2fslotwright_2fmodel_2fLinkType_3b : parseMethodDescriptor "()[Lcom/example/slotwright/slotwright/model/LinkType;" = some ⟨[], some (.array (.object "com/example/slotwright/slotwright/model/LinkType"))⟩ := by decide +kernel
theorem d11_5 : decode prog_16_method_5_code 5 = .ok (.astore_n 2, 1) := by decide +kernel
theorem d11_6 : decode prog_16_method_5_code 6 = .ok (.aload_n 2, 1) := by decide +kernel
theorem d11_7 : decode prog_16_method_5_code 7 = .ok (.arraylength, 1) := by decide +kernel
theorem d11_8 : decode prog_16_method_5_code 8 = .ok (.istore_n 3, 1) := by decide +kernel
theorem d11_9 : decode prog_16_method_5_code 9 = .ok (.iconst 0, 1) := by decide +kernel
theorem d11_10 : decode prog_16_method_5_code 10 = .ok (.istore 4, 2) := by decide +kernel
theorem d11_12 : decode prog_16_method_5_code 12 = .ok (.iload 4, 2) := by decide +kernel
theorem d11_14 : decode prog_16_method_5_code 14 = .ok (.iload_n 3, 1) := by decide +kernel
theorem d11_15 : decode prog_16_method_5_code 15 = .ok (.if_icmp .ge 30, 3) := by decide +kernel
theorem d11_18 : decode prog_16_method_5_code 18 = .ok (.aload_n 2, 1) := by decide +kernel
theorem d11_19 : decode prog_16_method_5_code 19 = .ok (.iload 4, 2) := by decide +kernel
theorem d11_21 : decode prog_16_method_5_code 21 = .ok (.aaload, 1) := by decide +kernel
theorem d11_22 : decode prog_16_method_5_code 22 = .ok (.astore 5, 2) := by decide +kernel
theorem d11_24 : decode prog_16_method_5_code 24 = .ok (.aload 5, 2) := by decide +kernel
theorem d11_26 : decode prog_16_method_5_code 26 = .ok (.getfield 32, 3) := by decide +kernel
theorem d11_29 : decode prog_16_method_5_code 29 = .ok (.aload_n 0, 1) := by decide +kernel
theorem d11_30 : decode prog_16_method_5_code 30 = .ok (.invokevirtual 40, 3) := by decide +kernel
theorem d11_33 : decode prog_16_method_5_code 33 = .ok (.ifCond .eq 6, 3) := by decide +kernel
theorem d11_39 : decode prog_16_method_5_code 39 = .ok (.iinc 4 1, 3) := by decide +kernel
theorem d11_42 : decode prog_16_method_5_code 42 = .ok (.goto (-30), 3) := by decide +kernel
theorem d11_45 : decode prog_16_method_5_code 45 = .ok (.aload_n 1, 1) := by decide +kernel
theorem d11_46 : decode prog_16_method_5_code 46 = .ok (.areturn, 1) := by decide +kernel
theorem d11_36 : decode prog_16_method_5_code 36 = .ok (.aload 5, 2) := by decide +kernel
theorem d11_38 : decode prog_16_method_5_code 38 = .ok (.astore_n 1, 1) := by decide +kernel
theorem ef_rmOk (mM : MethodId) (ss : Addr) (xs : List Int32) (cs : Int32) (a1 : Addr) (a2 : Addr) (a3 : Addr) (w : Value) (t : Addr) (cl : Cell) (y1 : Addr) (y2 : Addr) (y3 : Addr) : entryFrame mM #[.ref ss] 6 = mkF mM 0 #[.val (.ref ss), .unset, .unset, .unset, .unset, .unset] [] := by first | (simp [entryFrame, mkF, argsToLocals, Value.category]; done) | rfl
theorem rmOk (lL : Launch) (Z : State) (a0 : Array Value) (hw : own_tb a0 Z) (ws : List Jvm.Cond) (ss : Addr) (xs : List Int32) (cs : Int32) (a1 : Addr) (a2 : Addr) (a3 : Addr) (w : Value) (t : Addr) (cl : Cell) (y1 : Addr) (y2 : Addr) (y3 : Addr) (h0 : Heap) (n0 : Nat) (sx : StrX Z h0 ss xs) (S_cs : Sta Z Z.heap "java/lang/String" "COMPACT_STRINGS" "Z" (.int cs)) (hcs : ¬ cs = (0 : Int32)) (O : Old Z n0 h0) (S_V : Sta Z Z.heap "com/example/slotwright/slotwright/model/LinkType" "$VALUES" "[Lcom/example/slotwright/slotwright/model/LinkType;" (.ref t)) (Ar : Arr Z Z.heap t cl (.object "com/example/slotwright/slotwright/model/LinkType")) (Ex : Exa Z Z.heap t "[Lcom/example/slotwright/slotwright/model/LinkType;") (FC : FitC Z cl) (sz : cl.slots.size = (3 : Int32).toNatClampNeg) (el0 : cl.slots[(0 : Int32).toNatClampNeg]? = some (.ref a1)) (el1 : cl.slots[(1 : Int32).toNatClampNeg]? = some (.ref a2)) (el2 : cl.slots[(2 : Int32).toNatClampNeg]? = some (.ref a3)) (Fk1 : Fld Z Z.heap a1 "com/example/slotwright/slotwright/model/LinkType" "key" "Ljava/lang/String;" (.ref y1)) (Fk2 : Fld Z Z.heap a2 "com/example/slotwright/slotwright/model/LinkType" "key" "Ljava/lang/String;" (.ref y2)) (Fk3 : Fld Z Z.heap a3 "com/example/slotwright/slotwright/model/LinkType" "key" "Ljava/lang/String;" (.ref y3)) (SX1 : StrX Z Z.heap y1 bB) (SX2 : StrX Z Z.heap y2 bM) (SX3 : StrX Z Z.heap y3 bC) (p3 : ¬ eqv bC xs = (0 : Int32) → w = .ref a3) (p2 : eqv bC xs = (0 : Int32) → ¬ eqv bM xs = (0 : Int32) → w = .ref a2) (p1 : eqv bC xs = (0 : Int32) → eqv bM xs = (0 : Int32) → ¬ eqv bB xs = (0 : Int32) → w = .ref a1) (p0 : eqv bC xs = (0 : Int32) → eqv bM xs = (0 : Int32) → eqv bB xs = (0 : Int32) → w = .null) :
    own_Ct lL Z yn4 prog_16_method_5_code 6 (some (.object "com/example/slotwright/slotwright/model/LinkType")) ws (⟨2, 1, 3, 28⟩ : Room) #[.ref ss] h0 (Qe w h0 n0) := by
  refine own_body (plainFor_of_name pn_com_2fexample_2fslotwright_2fslotwright_2fmodel_2fLinkType) 1 3 rfl rfl (fun mM => ef_rmOk mM ss xs cs a1 a2 a3 w t cl y1 y2 y3) fun pP eE sS mM below meth cC s₁ hZ hx hby hml hown hnm hret hlk X0 e0 => ?_
  have N0 := Fr.nil n0
  have Kp := Keep.refl h0 []
  refine own_j 1 [.null] (fun t_ k_ => XS.aconstNull X0.here hx rfl (hb hby d11_0) k_) ?_
  let Lv29 : Array Slot := #[.val (.ref ss), .val .null, .unset, .unset, .unset, .unset]
  refine own_st (A := s₁.setTop (mkF mM 2 Lv29 [])) (fun t_ k_ => XS.astoreN X0.here hx rfl (hb hby d11_1) rfl rfl (l' := Lv29) rfl k_) ?_
  obtain ⟨_, _, ⟨T30, L30, k30, n30⟩, -, X30, ⟨Lc30, hQ30, l30, y30, z30⟩, st30⟩ := Jvm.LawKit.callS X0 hx (y := yn3) hown (mvT hZ (ow hw 57 rfl)) (mvT hZ (ow hw 58 rfl)) (mvT hZ (ow hw 52 rfl)) (mvT hZ (ow hw 59 rfl)) (by decide) (backOf (W := 0) (rmV lL Z a0 hw [] t cl h0 n0 (S_V.ext O.2) (Ar.ext O.2) (Ex.ext O.2) FC sz) hZ (ow hw 59 rfl) (ow hw 52 rfl) (by decide) (by decide)) (g := (mkF mM 2 Lv29 [])) rfl (by rw [hml]; rfl) (argsL := []) (rest := []) (lenOf pd__28_29_5bLcom_2fexample_2fslotwright_2fslotwright_2fmodel_2fLinkType_3b rfl) rfl (by show 2 * 0 + _ ≤ _; exact Nat.le_of_eq rfl) (hb hby d11_2) (fun _ _ => ⟨rfl, e0, (by decide : 0 + 1 ≤ _), (by decide : 0 + 3 ≤ _)⟩)
  dsimp only [Pt.U, Pt.locs, Pt.cells, Pt.slots] at X30 l30 y30 z30 st30 hQ30
  subst l30 y30 z30
  obtain ⟨b30, rfl, N30q, E30, A30⟩ := hQ30
  have N30 := Fr.app N0 N30q
  have e30 : T30.heap = T30.heap := rfl
  refine own_k T30 5 [.ref b30] st30 ?_
  have sx := own_StrX_ext sx E30
  have O := O.ext E30
  have Kp := Kp.ext E30
  let Lv31 : Array Slot := #[.val (.ref ss), .val .null, .val (.ref b30), .unset, .unset, .unset]
  refine own_st (A := T30.setTop (mkF mM 6 Lv31 [])) (fun t_ k_ => XS.astoreN X30.here hx rfl (hb hby d11_5) rfl rfl (l' := Lv31) rfl k_) ?_
  refine o_aloadN 7 X30 hx (hb hby d11_6) rfl rfl rfl ?_
  refine own_j 8 [.int 3] (fun t_ k_ => X30.arraylength hx (by rw [e30]; exact A30.1) (State.isArrayOf_alike hZ.alike A30.2.1) (g := (mkF mM 7 Lv31 [.ref b30])) rfl rfl (hb hby d11_7) t_ (by rw [len_of sz (by decide)]; exact k_)) ?_
  let Lv32 : Array Slot := #[.val (.ref ss), .val .null, .val (.ref b30), .val (.int 3), .unset, .unset]
  refine own_st (A := T30.setTop (mkF mM 9 Lv32 [])) (fun t_ k_ => XS.istoreN X30.here hx rfl (hb hby d11_8) rfl (l' := Lv32) rfl k_) ?_
  refine o_iconst 10 0 X30 hx (hb hby d11_9) rfl rfl ?_
  let Lv33 : Array Slot := #[.val (.ref ss), .val .null, .val (.ref b30), .val (.int 3), .val (.int 0), .unset]
  refine own_st (A := T30.setTop (mkF mM 12 Lv33 [])) (fun t_ k_ => XS.istore X30.here hx rfl (hb hby d11_10) rfl (l' := Lv33) rfl k_) ?_
  refine o_iload 14 X30 hx (hb hby d11_12) rfl rfl ?_
  refine o_iloadN 15 X30 hx (hb hby d11_14) rfl rfl ?_
  refine o_icmpNo 18 X30 hx (hb hby d11_15) (tlt (by decide : ((0 : Int32) < (3 : Int32)))).2.1 rfl ?_
  refine o_aloadN 19 X30 hx (hb hby d11_18) rfl rfl rfl ?_
  refine o_iload 21 X30 hx (hb hby d11_19) rfl rfl ?_
  refine own_j 22 [.ref a1] (fun t_ k_ => X30.aaload hx (j := (0 : Int32)) (v := (.ref a1)) (by rw [e30]; exact A30.1) (State.isArrayOf_alike hZ.alike A30.2.1) rfl A30.2.2 (inb_of (z := (3 : Int32)) sz ⟨by decide, by decide⟩) el0 (g := (mkF mM 21 Lv33 [.int 0, .ref b30])) rfl rfl (hb hby d11_21) t_ k_) ?_
  let Lv34 : Array Slot := #[.val (.ref ss), .val .null, .val (.ref b30), .val (.int 3), .val (.int 0), .val (.ref a1)]
  refine own_st (A := T30.setTop (mkF mM 24 Lv34 [])) (fun t_ k_ => XS.astore X30.here hx rfl (hb hby d11_22) rfl rfl (l' := Lv34) rfl k_) ?_
  refine o_aload 26 X30 hx (hb hby d11_24) rfl rfl rfl ?_
  obtain ⟨T35, X35, e35, st35⟩ := getF X30 hx hZ hown (host := "") (Or.inl (ow hw 74 rfl)) Via.refl e30 (Fk1.ext O.2) (g := (mkF mM 26 Lv34 [.ref a1])) rfl rfl (hb hby d11_26)
  refine own_k T35 29 [.ref y1] st35 ?_
  refine o_aloadN 30 X35 hx (hb hby d11_29) rfl rfl rfl ?_
  obtain ⟨cq36, kq36, q36a, q36b, q36c⟩ := isOf hZ e35 (own_StrX_exa (own_StrX_ext SX1 O.2))
  obtain ⟨_, _, ⟨T36, L36, k36, n36⟩, -, X36, ⟨Lc36, hQ36, l36, y36, z36⟩, st36⟩ := X35.virtualBack hx (y := yn1) (z := yn1) hown (mvT hZ (ow hw 76 rfl)) (mvT hZ (ow hw 42 rfl)) (notFace_of_selects (args := #[]) (mvT hZ (ow hw 44 rfl))) (mvT hZ (ow hw 44 rfl)) (mvT hZ (ow hw 43 rfl)) (by decide) (backOf (W := 0) (rmEq lL Z a0 hw [] y1 ss cs bB xs T30.heap n0 (own_StrX_ext SX1 O.2) sx (S_cs.ext O.2) hcs) hZ (ow hw 45 rfl) (ow hw 3 rfl) (by decide) (by decide)) q36a q36c (g := (mkF mM 30 Lv34 [.ref ss, .ref y1])) rfl (by rw [hml]; rfl) (Steps.refl _) (argsL := [.ref ss]) (rest := []) (lenOf pd__28Ljava_2flang_2fObject_3b_29Z rfl) rfl (by show 2 * 0 + _ ≤ _; exact Nat.le_of_eq rfl) (hb hby d11_30) (fun _ _ => ⟨rfl, e35, (by decide : 1 + 0 ≤ _), (by decide : 3 + 0 ≤ _)⟩)
  dsimp only [Pt.U, Pt.locs, Pt.cells, Pt.slots] at X36 l36 y36 z36 st36 hQ36
  subst l36 y36 z36
  obtain ⟨rfl, ⟨N36q, M36⟩, e36⟩ := hQ36
  have N36 := Fr.app N30 N36q
  refine own_k T36 33 [(.int (eqv bB xs))] (fun t_ k_ => st36.trans k_) ?_
  by_cases hc33_37 : (eqv bB xs) = (0 : Int32)
  · skip
    refine o_ifYes 39 X36 hx (hb hby d11_33) ((if0 _ _).trans (teq hc33_37).1) (by decide) ?_
    let Lv38 : Array Slot := #[.val (.ref ss), .val .null, .val (.ref b30), .val (.int 3), .val (.int 1), .val (.ref a1)]
    refine own_st (A := T36.setTop (mkF mM 42 Lv38 [])) (fun t_ k_ => XS.iinc X36.here hx rfl (hb hby d11_39) rfl (l' := Lv38) rfl k_) ?_
    refine o_goto 12 X36 hx (hb hby d11_42) (by decide) ?_
    refine o_iload 14 X36 hx (hb hby d11_12) rfl rfl ?_
    refine o_iloadN 15 X36 hx (hb hby d11_14) rfl rfl ?_
    refine o_icmpNo 18 X36 hx (hb hby d11_15) (tlt (by decide : ((1 : Int32) < (3 : Int32)))).2.1 rfl ?_
    refine o_aloadN 19 X36 hx (hb hby d11_18) rfl rfl rfl ?_
    refine o_iload 21 X36 hx (hb hby d11_19) rfl rfl ?_
    refine own_j 22 [.ref a2] (fun t_ k_ => X36.aaload hx (j := (1 : Int32)) (v := (.ref a2)) (by rw [e36]; exact A30.1) (State.isArrayOf_alike hZ.alike A30.2.1) rfl A30.2.2 (inb_of (z := (3 : Int32)) sz ⟨by decide, by decide⟩) el1 (g := (mkF mM 21 Lv38 [.int 1, .ref b30])) rfl rfl (hb hby d11_21) t_ k_) ?_
    let Lv39 : Array Slot := #[.val (.ref ss), .val .null, .val (.ref b30), .val (.int 3), .val (.int 1), .val (.ref a2)]
    refine own_st (A := T36.setTop (mkF mM 24 Lv39 [])) (fun t_ k_ => XS.astore X36.here hx rfl (hb hby d11_22) rfl rfl (l' := Lv39) rfl k_) ?_
    refine o_aload 26 X36 hx (hb hby d11_24) rfl rfl rfl ?_
    obtain ⟨T40, X40, e40, st40⟩ := getF X36 hx hZ hown (host := "") (Or.inl (ow hw 74 rfl)) Via.refl e36 (Fk2.ext O.2) (g := (mkF mM 26 Lv39 [.ref a2])) rfl rfl (hb hby d11_26)
    refine own_k T40 29 [.ref y2] st40 ?_
    refine o_aloadN 30 X40 hx (hb hby d11_29) rfl rfl rfl ?_
    obtain ⟨cq41, kq41, q41a, q41b, q41c⟩ := isOf hZ e40 (own_StrX_exa (own_StrX_ext SX2 O.2))
    obtain ⟨_, _, ⟨T41, L41, k41, n41⟩, -, X41, ⟨Lc41, hQ41, l41, y41, z41⟩, st41⟩ := X40.virtualBack hx (y := yn1) (z := yn1) hown (mvT hZ (ow hw 76 rfl)) (mvT hZ (ow hw 42 rfl)) (notFace_of_selects (args := #[]) (mvT hZ (ow hw 44 rfl))) (mvT hZ (ow hw 44 rfl)) (mvT hZ (ow hw 43 rfl)) (by decide) (backOf (W := 0) (rmEq lL Z a0 hw [] y2 ss cs bM xs T30.heap n0 (own_StrX_ext SX2 O.2) sx (S_cs.ext O.2) hcs) hZ (ow hw 45 rfl) (ow hw 3 rfl) (by decide) (by decide)) q41a q41c (g := (mkF mM 30 Lv39 [.ref ss, .ref y2])) rfl (by rw [hml]; rfl) (Steps.refl _) (argsL := [.ref ss]) (rest := []) (lenOf pd__28Ljava_2flang_2fObject_3b_29Z rfl) rfl (by show 2 * 0 + _ ≤ _; exact Nat.le_of_eq rfl) (hb hby d11_30) (fun _ _ => ⟨rfl, e40, (by decide : 1 + 0 ≤ _), (by decide : 3 + 0 ≤ _)⟩)
    dsimp only [Pt.U, Pt.locs, Pt.cells, Pt.slots] at X41 l41 y41 z41 st41 hQ41
    subst l41 y41 z41
    obtain ⟨rfl, ⟨N41q, M41⟩, e41⟩ := hQ41
    have N41 := Fr.app N36 N41q
    refine own_k T41 33 [(.int (eqv bM xs))] (fun t_ k_ => st41.trans k_) ?_
    by_cases hc33_42 : (eqv bM xs) = (0 : Int32)
    · skip
      refine o_ifYes 39 X41 hx (hb hby d11_33) ((if0 _ _).trans (teq hc33_42).1) (by decide) ?_
      let Lv43 : Array Slot := #[.val (.ref ss), .val .null, .val (.ref b30), .val (.int 3), .val (.int 2), .val (.ref a2)]
      refine own_st (A := T41.setTop (mkF mM 42 Lv43 [])) (fun t_ k_ => XS.iinc X41.here hx rfl (hb hby d11_39) rfl (l' := Lv43) rfl k_) ?_
      refine o_goto 12 X41 hx (hb hby d11_42) (by decide) ?_
      refine o_iload 14 X41 hx (hb hby d11_12) rfl rfl ?_
      refine o_iloadN 15 X41 hx (hb hby d11_14) rfl rfl ?_
      refine o_icmpNo 18 X41 hx (hb hby d11_15) (tlt (by decide : ((2 : Int32) < (3 : Int32)))).2.1 rfl ?_
      refine o_aloadN 19 X41 hx (hb hby d11_18) rfl rfl rfl ?_
      refine o_iload 21 X41 hx (hb hby d11_19) rfl rfl ?_
      refine own_j 22 [.ref a3] (fun t_ k_ => X41.aaload hx (j := (2 : Int32)) (v := (.ref a3)) (by rw [e41]; exact A30.1) (State.isArrayOf_alike hZ.alike A30.2.1) rfl A30.2.2 (inb_of (z := (3 : Int32)) sz ⟨by decide, by decide⟩) el2 (g := (mkF mM 21 Lv43 [.int 2, .ref b30])) rfl rfl (hb hby d11_21) t_ k_) ?_
      let Lv44 : Array Slot := #[.val (.ref ss), .val .null, .val (.ref b30), .val (.int 3), .val (.int 2), .val (.ref a3)]
      refine own_st (A := T41.setTop (mkF mM 24 Lv44 [])) (fun t_ k_ => XS.astore X41.here hx rfl (hb hby d11_22) rfl rfl (l' := Lv44) rfl k_) ?_
      refine o_aload 26 X41 hx (hb hby d11_24) rfl rfl rfl ?_
      obtain ⟨T45, X45, e45, st45⟩ := getF X41 hx hZ hown (host := "") (Or.inl (ow hw 74 rfl)) Via.refl e41 (Fk3.ext O.2) (g := (mkF mM 26 Lv44 [.ref a3])) rfl rfl (hb hby d11_26)
      refine own_k T45 29 [.ref y3] st45 ?_
      refine o_aloadN 30 X45 hx (hb hby d11_29) rfl rfl rfl ?_
      obtain ⟨cq46, kq46, q46a, q46b, q46c⟩ := isOf hZ e45 (own_StrX_exa (own_StrX_ext SX3 O.2))
      obtain ⟨_, _, ⟨T46, L46, k46, n46⟩, -, X46, ⟨Lc46, hQ46, l46, y46, z46⟩, st46⟩ := X45.virtualBack hx (y := yn1) (z := yn1) hown (mvT hZ (ow hw 76 rfl)) (mvT hZ (ow hw 42 rfl)) (notFace_of_selects (args := #[]) (mvT hZ (ow hw 44 rfl))) (mvT hZ (ow hw 44 rfl)) (mvT hZ (ow hw 43 rfl)) (by decide) (backOf (W := 0) (rmEq lL Z a0 hw [] y3 ss cs bC xs T30.heap n0 (own_StrX_ext SX3 O.2) sx (S_cs.ext O.2) hcs) hZ (ow hw 45 rfl) (ow hw 3 rfl) (by decide) (by decide)) q46a q46c (g := (mkF mM 30 Lv44 [.ref ss, .ref y3])) rfl (by rw [hml]; rfl) (Steps.refl _) (argsL := [.ref ss]) (rest := []) (lenOf pd__28Ljava_2flang_2fObject_3b_29Z rfl) rfl (by show 2 * 0 + _ ≤ _; exact Nat.le_of_eq rfl) (hb hby d11_30) (fun _ _ => ⟨rfl, e45, (by decide : 1 + 0 ≤ _), (by decide : 3 + 0 ≤ _)⟩)
      dsimp only [Pt.U, Pt.locs, Pt.cells, Pt.slots] at X46 l46 y46 z46 st46 hQ46
      subst l46 y46 z46
      obtain ⟨rfl, ⟨N46q, M46⟩, e46⟩ := hQ46
      have N46 := Fr.app N41 N46q
      refine own_k T46 33 [(.int (eqv bC xs))] (fun t_ k_ => st46.trans k_) ?_
      by_cases hc33_47 : (eqv bC xs) = (0 : Int32)
      · skip
        refine o_ifYes 39 X46 hx (hb hby d11_33) ((if0 _ _).trans (teq hc33_47).1) (by decide) ?_
        let Lv48 : Array Slot := #[.val (.ref ss), .val .null, .val (.ref b30), .val (.int 3), .val (.int 3), .val (.ref a3)]
        refine own_st (A := T46.setTop (mkF mM 42 Lv48 [])) (fun t_ k_ => XS.iinc X46.here hx rfl (hb hby d11_39) rfl (l' := Lv48) rfl k_) ?_
        refine o_goto 12 X46 hx (hb hby d11_42) (by decide) ?_
        refine o_iload 14 X46 hx (hb hby d11_12) rfl rfl ?_
        refine o_iloadN 15 X46 hx (hb hby d11_14) rfl rfl ?_
        refine o_icmpYes 45 X46 hx (hb hby d11_15) (flt (by decide : ¬ ((3 : Int32) < (3 : Int32)))).2.1 (by decide) ?_
        refine o_aloadN 46 X46 hx (hb hby d11_45) rfl rfl rfl ?_
        exact own_retA X46 hx hlk hret rfl rfl (hb hby d11_46) (by rw [e46, p0 hc33_47 hc33_42 hc33_37]; exact ⟨rfl, N46, own_ext_of_keep Kp⟩) (by decide) (by decide)
      · skip
        refine o_ifNo 36 X46 hx (hb hby d11_33) ((if0 _ _).trans (feq hc33_47).1) rfl ?_
        refine o_aload 38 X46 hx (hb hby d11_36) rfl rfl rfl ?_
        let Lv49 : Array Slot := #[.val (.ref ss), .val (.ref a3), .val (.ref b30), .val (.int 3), .val (.int 2), .val (.ref a3)]
        refine own_st (A := T46.setTop (mkF mM 39 Lv49 [])) (fun t_ k_ => XS.astoreN X46.here hx rfl (hb hby d11_38) rfl rfl (l' := Lv49) rfl k_) ?_
        let Lv50 : Array Slot := #[.val (.ref ss), .val (.ref a3), .val (.ref b30), .val (.int 3), .val (.int 3), .val (.ref a3)]
        refine own_st (A := T46.setTop (mkF mM 42 Lv50 [])) (fun t_ k_ => XS.iinc X46.here hx rfl (hb hby d11_39) rfl (l' := Lv50) rfl k_) ?_
        refine o_goto 12 X46 hx (hb hby d11_42) (by decide) ?_
        refine o_iload 14 X46 hx (hb hby d11_12) rfl rfl ?_
        refine o_iloadN 15 X46 hx (hb hby d11_14) rfl rfl ?_
        refine o_icmpYes 45 X46 hx (hb hby d11_15) (flt (by decide : ¬ ((3 : Int32) < (3 : Int32)))).2.1 (by decide) ?_
        refine o_aloadN 46 X46 hx (hb hby d11_45) rfl rfl rfl ?_
        exact own_retA X46 hx hlk hret rfl rfl (hb hby d11_46) (by rw [e46, p3 hc33_47]; exact ⟨rfl, N46, own_ext_of_keep Kp⟩) (by decide) (by decide)
    · skip
      refine o_ifNo 36 X41 hx (hb hby d11_33) ((if0 _ _).trans (feq hc33_42).1) rfl ?_
      refine o_aload 38 X41 hx (hb hby d11_36) rfl rfl rfl ?_
      let Lv51 : Array Slot := #[.val (.ref ss), .val (.ref a2), .val (.ref b30), .val (.int 3), .val (.int 1), .val (.ref a2)]
      refine own_st (A := T41.setTop (mkF mM 39 Lv51 [])) (fun t_ k_ => XS.astoreN X41.here hx rfl (hb hby d11_38) rfl rfl (l' := Lv51) rfl k_) ?_
      let Lv52 : Array Slot := #[.val (.ref ss), .val (.ref a2), .val (.ref b30), .val (.int 3), .val (.int 2), .val (.ref a2)]
      refine own_st (A := T41.setTop (mkF mM 42 Lv52 [])) (fun t_ k_ => XS.iinc X41.here hx rfl (hb hby d11_39) rfl (l' := Lv52) rfl k_) ?_
      refine o_goto 12 X41 hx (hb hby d11_42) (by decide) ?_
      refine o_iload 14 X41 hx (hb hby d11_12) rfl rfl ?_
      refine o_iloadN 15 X41 hx (hb hby d11_14) rfl rfl ?_
      refine o_icmpNo 18 X41 hx (hb hby d11_15) (tlt (by decide : ((2 : Int32) < (3 : Int32)))).2.1 rfl ?_
      refine o_aloadN 19 X41 hx (hb hby d11_18) rfl rfl rfl ?_
      refine o_iload 21 X41 hx (hb hby d11_19) rfl rfl ?_
      refine own_j 22 [.ref a3] (fun t_ k_ => X41.aaload hx (j := (2 : Int32)) (v := (.ref a3)) (by rw [e41]; exact A30.1) (State.isArrayOf_alike hZ.alike A30.2.1) rfl A30.2.2 (inb_of (z := (3 : Int32)) sz ⟨by decide, by decide⟩) el2 (g := (mkF mM 21 Lv52 [.int 2, .ref b30])) rfl rfl (hb hby d11_21) t_ k_) ?_
      let Lv53 : Array Slot := #[.val (.ref ss), .val (.ref a2), .val (.ref b30), .val (.int 3), .val (.int 2), .val (.ref a3)]
      refine own_st (A := T41.setTop (mkF mM 24 Lv53 [])) (fun t_ k_ => XS.astore X41.here hx rfl (hb hby d11_22) rfl rfl (l' := Lv53) rfl k_) ?_
      refine o_aload 26 X41 hx (hb hby d11_24) rfl rfl rfl ?_
      obtain ⟨T54, X54, e54, st54⟩ := getF X41 hx hZ hown (host := "") (Or.inl (ow hw 74 rfl)) Via.refl e41 (Fk3.ext O.2) (g := (mkF mM 26 Lv53 [.ref a3])) rfl rfl (hb hby d11_26)
      refine own_k T54 29 [.ref y3] st54 ?_
      refine o_aloadN 30 X54 hx (hb hby d11_29) rfl rfl rfl ?_
      obtain ⟨cq55, kq55, q55a, q55b, q55c⟩ := isOf hZ e54 (own_StrX_exa (own_StrX_ext SX3 O.2))
      obtain ⟨_, _, ⟨T55, L55, k55, n55⟩, -, X55, ⟨Lc55, hQ55, l55, y55, z55⟩, st55⟩ := X54.virtualBack hx (y := yn1) (z := yn1) hown (mvT hZ (ow hw 76 rfl)) (mvT hZ (ow hw 42 rfl)) (notFace_of_selects (args := #[]) (mvT hZ (ow hw 44 rfl))) (mvT hZ (ow hw 44 rfl)) (mvT hZ (ow hw 43 rfl)) (by decide) (backOf (W := 0) (rmEq lL Z a0 hw [] y3 ss cs bC xs T30.heap n0 (own_StrX_ext SX3 O.2) sx (S_cs.ext O.2) hcs) hZ (ow hw 45 rfl) (ow hw 3 rfl) (by decide) (by decide)) q55a q55c (g := (mkF mM 30 Lv53 [.ref ss, .ref y3])) rfl (by rw [hml]; rfl) (Steps.refl _) (argsL := [.ref ss]) (rest := []) (lenOf pd__28Ljava_2flang_2fObject_3b_29Z rfl) rfl (by show 2 * 0 + _ ≤ _; exact Nat.le_of_eq rfl) (hb hby d11_30) (fun _ _ => ⟨rfl, e54, (by decide : 1 + 0 ≤ _), (by decide : 3 + 0 ≤ _)⟩)
      dsimp only [Pt.U, Pt.locs, Pt.cells, Pt.slots] at X55 l55 y55 z55 st55 hQ55
      subst l55 y55 z55
      obtain ⟨rfl, ⟨N55q, M55⟩, e55⟩ := hQ55
      have N55 := Fr.app N41 N55q
      refine own_k T55 33 [(.int (eqv bC xs))] (fun t_ k_ => st55.trans k_) ?_
      by_cases hc33_56 : (eqv bC xs) = (0 : Int32)
      · skip
        refine o_ifYes 39 X55 hx (hb hby d11_33) ((if0 _ _).trans (teq hc33_56).1) (by decide) ?_
        let Lv57 : Array Slot := #[.val (.ref ss), .val (.ref a2), .val (.ref b30), .val (.int 3), .val (.int 3), .val (.ref a3)]
        refine own_st (A := T55.setTop (mkF mM 42 Lv57 [])) (fun t_ k_ => XS.iinc X55.here hx rfl (hb hby d11_39) rfl (l' := Lv57) rfl k_) ?_
        refine o_goto 12 X55 hx (hb hby d11_42) (by decide) ?_
        refine o_iload 14 X55 hx (hb hby d11_12) rfl rfl ?_
        refine o_iloadN 15 X55 hx (hb hby d11_14) rfl rfl ?_
        refine o_icmpYes 45 X55 hx (hb hby d11_15) (flt (by decide : ¬ ((3 : Int32) < (3 : Int32)))).2.1 (by decide) ?_
        refine o_aloadN 46 X55 hx (hb hby d11_45) rfl rfl rfl ?_
        exact own_retA X55 hx hlk hret rfl rfl (hb hby d11_46) (by rw [e55, p2 hc33_56 hc33_42]; exact ⟨rfl, N55, own_ext_of_keep Kp⟩) (by decide) (by decide)
      · skip
        refine o_ifNo 36 X55 hx (hb hby d11_33) ((if0 _ _).trans (feq hc33_56).1) rfl ?_
        refine o_aload 38 X55 hx (hb hby d11_36) rfl rfl rfl ?_
        let Lv58 : Array Slot := #[.val (.ref ss), .val (.ref a3), .val (.ref b30), .val (.int 3), .val (.int 2), .val (.ref a3)]
        refine own_st (A := T55.setTop (mkF mM 39 Lv58 [])) (fun t_ k_ => XS.astoreN X55.here hx rfl (hb hby d11_38) rfl rfl (l' := Lv58) rfl k_) ?_
        let Lv59 : Array Slot := #[.val (.ref ss), .val (.ref a3), .val (.ref b30), .val (.int 3), .val (.int 3), .val (.ref a3)]
        refine own_st (A := T55.setTop (mkF mM 42 Lv59 [])) (fun t_ k_ => XS.iinc X55.here hx rfl (hb hby d11_39) rfl (l' := Lv59) rfl k_) ?_
        refine o_goto 12 X55 hx (hb hby d11_42) (by decide) ?_
        refine o_iload 14 X55 hx (hb hby d11_12) rfl rfl ?_
        refine o_iloadN 15 X55 hx (hb hby d11_14) rfl rfl ?_
        refine o_icmpYes 45 X55 hx (hb hby d11_15) (flt (by decide : ¬ ((3 : Int32) < (3 : Int32)))).2.1 (by decide) ?_
        refine o_aloadN 46 X55 hx (hb hby d11_45) rfl rfl rfl ?_
        exact own_retA X55 hx hlk hret rfl rfl (hb hby d11_46) (by rw [e55, p3 hc33_56]; exact ⟨rfl, N55, own_ext_of_keep Kp⟩) (by decide) (by decide)
  · skip
    refine o_ifNo 36 X36 hx (hb hby d11_33) ((if0 _ _).trans (feq hc33_37).1) rfl ?_
    refine o_aload 38 X36 hx (hb hby d11_36) rfl rfl rfl ?_
    let Lv60 : Array Slot := #[.val (.ref ss), .val (.ref a1), .val (.ref b30), .val (.int 3), .val (.int 0), .val (.ref a1)]
    refine own_st (A := T36.setTop (mkF mM 39 Lv60 [])) (fun t_ k_ => XS.astoreN X36.here hx rfl (hb hby d11_38) rfl rfl (l' := Lv60) rfl k_) ?_
    let Lv61 : Array Slot := #[.val (.ref ss), .val (.ref a1), .val (.ref b30), .val (.int 3), .val (.int 1), .val (.ref a1)]
    refine own_st (A := T36.setTop (mkF mM 42 Lv61 [])) (fun t_ k_ => XS.iinc X36.here hx rfl (hb hby d11_39) rfl (l' := Lv61) rfl k_) ?_
    refine o_goto 12 X36 hx (hb hby d11_42) (by decide) ?_
    refine o_iload 14 X36 hx (hb hby d11_12) rfl rfl ?_
    refine o_iloadN 15 X36 hx (hb hby d11_14) rfl rfl ?_
    refine o_icmpNo 18 X36 hx (hb hby d11_15) (tlt (by decide : ((1 : Int32) < (3 : Int32)))).2.1 rfl ?_
    refine o_aloadN 19 X36 hx (hb hby d11_18) rfl rfl rfl ?_
    refine o_iload 21 X36 hx (hb hby d11_19) rfl rfl ?_
    refine own_j 22 [.ref a2] (fun t_ k_ => X36.aaload hx (j := (1 : Int32)) (v := (.ref a2)) (by rw [e36]; exact A30.1) (State.isArrayOf_alike hZ.alike A30.2.1) rfl A30.2.2 (inb_of (z := (3 : Int32)) sz ⟨by decide, by decide⟩) el1 (g := (mkF mM 21 Lv61 [.int 1, .ref b30])) rfl rfl (hb hby d11_21) t_ k_) ?_
    let Lv62 : Array Slot := #[.val (.ref ss), .val (.ref a1), .val (.ref b30), .val (.int 3), .val (.int 1), .val (.ref a2)]
    refine own_st (A := T36.setTop (mkF mM 24 Lv62 [])) (fun t_ k_ => XS.astore X36.here hx rfl (hb hby d11_22) rfl rfl (l' := Lv62) rfl k_) ?_
    refine o_aload 26 X36 hx (hb hby d11_24) rfl rfl rfl ?_
    obtain ⟨T63, X63, e63, st63⟩ := getF X36 hx hZ hown (host := "") (Or.inl (ow hw 74 rfl)) Via.refl e36 (Fk2.ext O.2) (g := (mkF mM 26 Lv62 [.ref a2])) rfl rfl (hb hby d11_26)
    refine own_k T63 29 [.ref y2] st63 ?_
    refine o_aloadN 30 X63 hx (hb hby d11_29) rfl rfl rfl ?_
    obtain ⟨cq64, kq64, q64a, q64b, q64c⟩ := isOf hZ e63 (own_StrX_exa (own_StrX_ext SX2 O.2))
    obtain ⟨_, _, ⟨T64, L64, k64, n64⟩, -, X64, ⟨Lc64, hQ64, l64, y64, z64⟩, st64⟩ := X63.virtualBack hx (y := yn1) (z := yn1) hown (mvT hZ (ow hw 76 rfl)) (mvT hZ (ow hw 42 rfl)) (notFace_of_selects (args := #[]) (mvT hZ (ow hw 44 rfl))) (mvT hZ (ow hw 44 rfl)) (mvT hZ (ow hw 43 rfl)) (by decide) (backOf (W := 0) (rmEq lL Z a0 hw [] y2 ss cs bM xs T30.heap n0 (own_StrX_ext SX2 O.2) sx (S_cs.ext O.2) hcs) hZ (ow hw 45 rfl) (ow hw 3 rfl) (by decide) (by decide)) q64a q64c (g := (mkF mM 30 Lv62 [.ref ss, .ref y2])) rfl (by rw [hml]; rfl) (Steps.refl _) (argsL := [.ref ss]) (rest := []) (lenOf pd__28Ljava_2flang_2fObject_3b_29Z rfl) rfl (by show 2 * 0 + _ ≤ _; exact Nat.le_of_eq rfl) (hb hby d11_30) (fun _ _ => ⟨rfl, e63, (by decide : 1 + 0 ≤ _), (by decide : 3 + 0 ≤ _)⟩)
    dsimp only [Pt.U, Pt.locs, Pt.cells, Pt.slots] at X64 l64 y64 z64 st64 hQ64
    subst l64 y64 z64
    obtain ⟨rfl, ⟨N64q, M64⟩, e64⟩ := hQ64
    have N64 := Fr.app N36 N64q
    refine own_k T64 33 [(.int (eqv bM xs))] (fun t_ k_ => st64.trans k_) ?_
    by_cases hc33_65 : (eqv bM xs) = (0 : Int32)
    · skip
      refine o_ifYes 39 X64 hx (hb hby d11_33) ((if0 _ _).trans (teq hc33_65).1) (by decide) ?_
      let Lv66 : Array Slot := #[.val (.ref ss), .val (.ref a1), .val (.ref b30), .val (.int 3), .val (.int 2), .val (.ref a2)]
      refine own_st (A := T64.setTop (mkF mM 42 Lv66 [])) (fun t_ k_ => XS.iinc X64.here hx rfl (hb hby d11_39) rfl (l' := Lv66) rfl k_) ?_
      refine o_goto 12 X64 hx (hb hby d11_42) (by decide) ?_
      refine o_iload 14 X64 hx (hb hby d11_12) rfl rfl ?_
      refine o_iloadN 15 X64 hx (hb hby d11_14) rfl rfl ?_
      refine o_icmpNo 18 X64 hx (hb hby d11_15) (tlt (by decide : ((2 : Int32) < (3 : Int32)))).2.1 rfl ?_
      refine o_aloadN 19 X64 hx (hb hby d11_18) rfl rfl rfl ?_
      refine o_iload 21 X64 hx (hb hby d11_19) rfl rfl ?_
      refine own_j 22 [.ref a3] (fun t_ k_ => X64.aaload hx (j := (2 : Int32)) (v := (.ref a3)) (by rw [e64]; exact A30.1) (State.isArrayOf_alike hZ.alike A30.2.1) rfl A30.2.2 (inb_of (z := (3 : Int32)) sz ⟨by decide, by decide⟩) el2 (g := (mkF mM 21 Lv66 [.int 2, .ref b30])) rfl rfl (hb hby d11_21) t_ k_) ?_
      let Lv67 : Array Slot := #[.val (.ref ss), .val (.ref a1), .val (.ref b30), .val (.int 3), .val (.int 2), .val (.ref a3)]
      refine own_st (A := T64.setTop (mkF mM 24 Lv67 [])) (fun t_ k_ => XS.astore X64.here hx rfl (hb hby d11_22) rfl rfl (l' := Lv67) rfl k_) ?_
      refine o_aload 26 X64 hx (hb hby d11_24) rfl rfl rfl ?_
      obtain ⟨T68, X68, e68, st68⟩ := getF X64 hx hZ hown (host := "") (Or.inl (ow hw 74 rfl)) Via.refl e64 (Fk3.ext O.2) (g := (mkF mM 26 Lv67 [.ref a3])) rfl rfl (hb hby d11_26)
      refine own_k T68 29 [.ref y3] st68 ?_
      refine o_aloadN 30 X68 hx (hb hby d11_29) rfl rfl rfl ?_
      obtain ⟨cq69, kq69, q69a, q69b, q69c⟩ := isOf hZ e68 (own_StrX_exa (own_StrX_ext SX3 O.2))
      obtain ⟨_, _, ⟨T69, L69, k69, n69⟩, -, X69, ⟨Lc69, hQ69, l69, y69, z69⟩, st69⟩ := X68.virtualBack hx (y := yn1) (z := yn1) hown (mvT hZ (ow hw 76 rfl)) (mvT hZ (ow hw 42 rfl)) (notFace_of_selects (args := #[]) (mvT hZ (ow hw 44 rfl))) (mvT hZ (ow hw 44 rfl)) (mvT hZ (ow hw 43 rfl)) (by decide) (backOf (W := 0) (rmEq lL Z a0 hw [] y3 ss cs bC xs T30.heap n0 (own_StrX_ext SX3 O.2) sx (S_cs.ext O.2) hcs) hZ (ow hw 45 rfl) (ow hw 3 rfl) (by decide) (by decide)) q69a q69c (g := (mkF mM 30 Lv67 [.ref ss, .ref y3])) rfl (by rw [hml]; rfl) (Steps.refl _) (argsL := [.ref ss]) (rest := []) (lenOf pd__28Ljava_2flang_2fObject_3b_29Z rfl) rfl (by show 2 * 0 + _ ≤ _; exact Nat.le_of_eq rfl) (hb hby d11_30) (fun _ _ => ⟨rfl, e68, (by decide : 1 + 0 ≤ _), (by decide : 3 + 0 ≤ _)⟩)
      dsimp only [Pt.U, Pt.locs, Pt.cells, Pt.slots] at X69 l69 y69 z69 st69 hQ69
      subst l69 y69 z69
      obtain ⟨rfl, ⟨N69q, M69⟩, e69⟩ := hQ69
      have N69 := Fr.app N64 N69q
      refine own_k T69 33 [(.int (eqv bC xs))] (fun t_ k_ => st69.trans k_) ?_
      by_cases hc33_70 : (eqv bC xs) = (0 : Int32)
      · skip
        refine o_ifYes 39 X69 hx (hb hby d11_33) ((if0 _ _).trans (teq hc33_70).1) (by decide) ?_
        let Lv71 : Array Slot := #[.val (.ref ss), .val (.ref a1), .val (.ref b30), .val (.int 3), .val (.int 3), .val (.ref a3)]
        refine own_st (A := T69.setTop (mkF mM 42 Lv71 [])) (fun t_ k_ => XS.iinc X69.here hx rfl (hb hby d11_39) rfl (l' := Lv71) rfl k_) ?_
        refine o_goto 12 X69 hx (hb hby d11_42) (by decide) ?_
        refine o_iload 14 X69 hx (hb hby d11_12) rfl rfl ?_
        refine o_iloadN 15 X69 hx (hb hby d11_14) rfl rfl ?_
        refine o_icmpYes 45 X69 hx (hb hby d11_15) (flt (by decide : ¬ ((3 : Int32) < (3 : Int32)))).2.1 (by decide) ?_
        refine o_aloadN 46 X69 hx (hb hby d11_45) rfl rfl rfl ?_
        exact own_retA X69 hx hlk hret rfl rfl (hb hby d11_46) (by rw [e69, p1 hc33_70 hc33_65 hc33_37]; exact ⟨rfl, N69, own_ext_of_keep Kp⟩) (by decide) (by decide)
      · skip
        refine o_ifNo 36 X69 hx (hb hby d11_33) ((if0 _ _).trans (feq hc33_70).1) rfl ?_
        refine o_aload 38 X69 hx (hb hby d11_36) rfl rfl rfl ?_
        let Lv72 : Array Slot := #[.val (.ref ss), .val (.ref a3), .val (.ref b30), .val (.int 3), .val (.int 2), .val (.ref a3)]
        refine own_st (A := T69.setTop (mkF mM 39 Lv72 [])) (fun t_ k_ => XS.astoreN X69.here hx rfl (hb hby d11_38) rfl rfl (l' := Lv72) rfl k_) ?_
        let Lv73 : Array Slot := #[.val (.ref ss), .val (.ref a3), .val (.ref b30), .val (.int 3), .val (.int 3), .val (.ref a3)]
        refine own_st (A := T69.setTop (mkF mM 42 Lv73 [])) (fun t_ k_ => XS.iinc X69.here hx rfl (hb hby d11_39) rfl (l' := Lv73) rfl k_) ?_
        refine o_goto 12 X69 hx (hb hby d11_42) (by decide) ?_
        refine o_iload 14 X69 hx (hb hby d11_12) rfl rfl ?_
        refine o_iloadN 15 X69 hx (hb hby d11_14) rfl rfl ?_
        refine o_icmpYes 45 X69 hx (hb hby d11_15) (flt (by decide : ¬ ((3 : Int32) < (3 : Int32)))).2.1 (by decide) ?_
        refine o_aloadN 46 X69 hx (hb hby d11_45) rfl rfl rfl ?_
        exact own_retA X69 hx hlk hret rfl rfl (hb hby d11_46) (by rw [e69, p3 hc33_70]; exact ⟨rfl, N69, own_ext_of_keep Kp⟩) (by decide) (by decide)
    · skip
      refine o_ifNo 36 X64 hx (hb hby d11_33) ((if0 _ _).trans (feq hc33_65).1) rfl ?_
      refine o_aload 38 X64 hx (hb hby d11_36) rfl rfl rfl ?_
      let Lv74 : Array Slot := #[.val (.ref ss), .val (.ref a2), .val (.ref b30), .val (.int 3), .val (.int 1), .val (.ref a2)]
      refine own_st (A := T64.setTop (mkF mM 39 Lv74 [])) (fun t_ k_ => XS.astoreN X64.here hx rfl (hb hby d11_38) rfl rfl (l' := Lv74) rfl k_) ?_
      let Lv75 : Array Slot := #[.val (.ref ss), .val (.ref a2), .val (.ref b30), .val (.int 3), .val (.int 2), .val (.ref a2)]
      refine own_st (A := T64.setTop (mkF mM 42 Lv75 [])) (fun t_ k_ => XS.iinc X64.here hx rfl (hb hby d11_39) rfl (l' := Lv75) rfl k_) ?_
      refine o_goto 12 X64 hx (hb hby d11_42) (by decide) ?_
      refine o_iload 14 X64 hx (hb hby d11_12) rfl rfl ?_
      refine o_iloadN 15 X64 hx (hb hby d11_14) rfl rfl ?_
      refine o_icmpNo 18 X64 hx (hb hby d11_15) (tlt (by decide : ((2 : Int32) < (3 : Int32)))).2.1 rfl ?_
      refine o_aloadN 19 X64 hx (hb hby d11_18) rfl rfl rfl ?_
      refine o_iload 21 X64 hx (hb hby d11_19) rfl rfl ?_
      refine own_j 22 [.ref a3] (fun t_ k_ => X64.aaload hx (j := (2 : Int32)) (v := (.ref a3)) (by rw [e64]; exact A30.1) (State.isArrayOf_alike hZ.alike A30.2.1) rfl A30.2.2 (inb_of (z := (3 : Int32)) sz ⟨by decide, by decide⟩) el2 (g := (mkF mM 21 Lv75 [.int 2, .ref b30])) rfl rfl (hb hby d11_21) t_ k_) ?_
      let Lv76 : Array Slot := #[.val (.ref ss), .val (.ref a2), .val (.ref b30), .val (.int 3), .val (.int 2), .val (.ref a3)]
      refine own_st (A := T64.setTop (mkF mM 24 Lv76 [])) (fun t_ k_ => XS.astore X64.here hx rfl (hb hby d11_22) rfl rfl (l' := Lv76) rfl k_) ?_
      refine o_aload 26 X64 hx (hb hby d11_24) rfl rfl rfl ?_
      obtain ⟨T77, X77, e77, st77⟩ := getF X64 hx hZ hown (host := "") (Or.inl (ow hw 74 rfl)) Via.refl e64 (Fk3.ext O.2) (g := (mkF mM 26 Lv76 [.ref a3])) rfl rfl (hb hby d11_26)
      refine own_k T77 29 [.ref y3] st77 ?_
      refine o_aloadN 30 X77 hx (hb hby d11_29) rfl rfl rfl ?_
      obtain ⟨cq78, kq78, q78a, q78b, q78c⟩ := isOf hZ e77 (own_StrX_exa (own_StrX_ext SX3 O.2))
      obtain ⟨_, _, ⟨T78, L78, k78, n78⟩, -, X78, ⟨Lc78, hQ78, l78, y78, z78⟩, st78⟩ := X77.virtualBack hx (y := yn1) (z := yn1) hown (mvT hZ (ow hw 76 rfl)) (mvT hZ (ow hw 42 rfl)) (notFace_of_selects (args := #[]) (mvT hZ (ow hw 44 rfl))) (mvT hZ (ow hw 44 rfl)) (mvT hZ (ow hw 43 rfl)) (by decide) (backOf (W := 0) (rmEq lL Z a0 hw [] y3 ss cs bC xs T30.heap n0 (own_StrX_ext SX3 O.2) sx (S_cs.ext O.2) hcs) hZ (ow hw 45 rfl) (ow hw 3 rfl) (by decide) (by decide)) q78a q78c (g := (mkF mM 30 Lv76 [.ref ss, .ref y3])) rfl (by rw [hml]; rfl) (Steps.refl _) (argsL := [.ref ss]) (rest := []) (lenOf pd__28Ljava_2flang_2fObject_3b_29Z rfl) rfl (by show 2 * 0 + _ ≤ _; exact Nat.le_of_eq rfl) (hb hby d11_30) (fun _ _ => ⟨rfl, e77, (by decide : 1 + 0 ≤ _), (by decide : 3 + 0 ≤ _)⟩)
      dsimp only [Pt.U, Pt.locs, Pt.cells, Pt.slots] at X78 l78 y78 z78 st78 hQ78
      subst l78 y78 z78
      obtain ⟨rfl, ⟨N78q, M78⟩, e78⟩ := hQ78
      have N78 := Fr.app N64 N78q
      refine own_k T78 33 [(.int (eqv bC xs))] (fun t_ k_ => st78.trans k_) ?_
      by_cases hc33_79 : (eqv bC xs) = (0 : Int32)
      · skip
        refine o_ifYes 39 X78 hx (hb hby d11_33) ((if0 _ _).trans (teq hc33_79).1) (by decide) ?_
        let Lv80 : Array Slot := #[.val (.ref ss), .val (.ref a2), .val (.ref b30), .val (.int 3), .val (.int 3), .val (.ref a3)]
        refine own_st (A := T78.setTop (mkF mM 42 Lv80 [])) (fun t_ k_ => XS.iinc X78.here hx rfl (hb hby d11_39) rfl (l' := Lv80) rfl k_) ?_
        refine o_goto 12 X78 hx (hb hby d11_42) (by decide) ?_
        refine o_iload 14 X78 hx (hb hby d11_12) rfl rfl ?_
        refine o_iloadN 15 X78 hx (hb hby d11_14) rfl rfl ?_
        refine o_icmpYes 45 X78 hx (hb hby d11_15) (flt (by decide : ¬ ((3 : Int32) < (3 : Int32)))).2.1 (by decide) ?_
        refine o_aloadN 46 X78 hx (hb hby d11_45) rfl rfl rfl ?_
        exact own_retA X78 hx hlk hret rfl rfl (hb hby d11_46) (by rw [e78, p2 hc33_79 hc33_65]; exact ⟨rfl, N78, own_ext_of_keep Kp⟩) (by decide) (by decide)
      · skip
        refine o_ifNo 36 X78 hx (hb hby d11_33) ((if0 _ _).trans (feq hc33_79).1) rfl ?_
        refine o_aload 38 X78 hx (hb hby d11_36) rfl rfl rfl ?_
        let Lv81 : Array Slot := #[.val (.ref ss), .val (.ref a3), .val (.ref b30), .val (.int 3), .val (.int 2), .val (.ref a3)]
        refine own_st (A := T78.setTop (mkF mM 39 Lv81 [])) (fun t_ k_ => XS.astoreN X78.here hx rfl (hb hby d11_38) rfl rfl (l' := Lv81) rfl k_) ?_
        let Lv82 : Array Slot := #[.val (.ref ss), .val (.ref a3), .val (.ref b30), .val (.int 3), .val (.int 3), .val (.ref a3)]
        refine own_st (A := T78.setTop (mkF mM 42 Lv82 [])) (fun t_ k_ => XS.iinc X78.here hx rfl (hb hby d11_39) rfl (l' := Lv82) rfl k_) ?_
        refine o_goto 12 X78 hx (hb hby d11_42) (by decide) ?_
        refine o_iload 14 X78 hx (hb hby d11_12) rfl rfl ?_
        refine o_iloadN 15 X78 hx (hb hby d11_14) rfl rfl ?_
        refine o_icmpYes 45 X78 hx (hb hby d11_15) (flt (by decide : ¬ ((3 : Int32) < (3 : Int32)))).2.1 (by decide) ?_
        refine o_aloadN 46 X78 hx (hb hby d11_45) rfl rfl rfl ?_
        exact own_retA X78 hx hlk hret rfl rfl (hb hby d11_46) (by rw [e78, p3 hc33_79]; exact ⟨rfl, N78, own_ext_of_keep Kp⟩) (by decide) (by decide)
theorem ef_rmOkN (mM : MethodId) (a1 : Addr) (a2 : Addr) (a3 : Addr) (t : Addr) (cl : Cell) (y1 : Addr) (y2 : Addr) (y3 : Addr) : entryFrame mM #[.null] 6 = mkF mM 0 #[.val .null, .unset, .unset, .unset, .unset, .unset] [] := by first | (simp [entryFrame, mkF, argsToLocals, Value.category]; done) | rfl
theorem rmOkN (lL : Launch) (Z : State) (a0 : Array Value) (hw : own_tb a0 Z) (ws : List Jvm.Cond) (a1 : Addr) (a2 : Addr) (a3 : Addr) (t : Addr) (cl : Cell) (y1 : Addr) (y2 : Addr) (y3 : Addr) (h0 : Heap) (n0 : Nat) (O : Old Z n0 h0) (S_V : Sta Z Z.heap "com/example/slotwright/slotwright/model/LinkType" "$VALUES" "[Lcom/example/slotwright/slotwright/model/LinkType;" (.ref t)) (Ar : Arr Z Z.heap t cl (.object "com/example/slotwright/slotwright/model/LinkType")) (Ex : Exa Z Z.heap t "[Lcom/example/slotwright/slotwright/model/LinkType;") (FC : FitC Z cl) (sz : cl.slots.size = (3 : Int32).toNatClampNeg) (el0 : cl.slots[(0 : Int32).toNatClampNeg]? = some (.ref a1)) (el1 : cl.slots[(1 : Int32).toNatClampNeg]? = some (.ref a2)) (el2 : cl.slots[(2 : Int32).toNatClampNeg]? = some (.ref a3)) (Fk1 : Fld Z Z.heap a1 "com/example/slotwright/slotwright/model/LinkType" "key" "Ljava/lang/String;" (.ref y1)) (Fk2 : Fld Z Z.heap a2 "com/example/slotwright/slotwright/model/LinkType" "key" "Ljava/lang/String;" (.ref y2)) (Fk3 : Fld Z Z.heap a3 "com/example/slotwright/slotwright/model/LinkType" "key" "Ljava/lang/String;" (.ref y3)) (SX1 : StrX Z Z.heap y1 bB) (SX2 : StrX Z Z.heap y2 bM) (SX3 : StrX Z Z.heap y3 bC) :
    own_Ct lL Z yn4 prog_16_method_5_code 6 (some (.object "com/example/slotwright/slotwright/model/LinkType")) ws (⟨2, 1, 3, 25⟩ : Room) #[.null] h0 (Qe .null h0 n0) := by
  refine own_body (plainFor_of_name pn_com_2fexample_2fslotwright_2fslotwright_2fmodel_2fLinkType) 1 3 rfl rfl (fun mM => ef_rmOkN mM a1 a2 a3 t cl y1 y2 y3) fun pP eE sS mM below meth cC s₁ hZ hx hby hml hown hnm hret hlk X0 e0 => ?_
  have N0 := Fr.nil n0
  have Kp := Keep.refl h0 []
  refine own_j 1 [.null] (fun t_ k_ => XS.aconstNull X0.here hx rfl (hb hby d11_0) k_) ?_
  refine own_st (A := s₁.setTop (mkF mM 2 #[.val .null, .val .null, .unset, .unset, .unset, .unset] [])) (fun t_ k_ => XS.astoreN X0.here hx rfl (hb hby d11_1) rfl rfl (l' := #[.val .null, .val .null, .unset, .unset, .unset, .unset]) rfl k_) ?_
  obtain ⟨_, _, ⟨T83, L83, k83, n83⟩, -, X83, ⟨Lc83, hQ83, l83, y83, z83⟩, st83⟩ := Jvm.LawKit.callS X0 hx (y := yn3) hown (mvT hZ (ow hw 57 rfl)) (mvT hZ (ow hw 58 rfl)) (mvT hZ (ow hw 52 rfl)) (mvT hZ (ow hw 59 rfl)) (by decide) (backOf (W := 0) (rmV lL Z a0 hw [] t cl h0 n0 (S_V.ext O.2) (Ar.ext O.2) (Ex.ext O.2) FC sz) hZ (ow hw 59 rfl) (ow hw 52 rfl) (by decide) (by decide)) (g := (mkF mM 2 #[.val .null, .val .null, .unset, .unset, .unset, .unset] [])) rfl (by rw [hml]; rfl) (argsL := []) (rest := []) (lenOf pd__28_29_5bLcom_2fexample_2fslotwright_2fslotwright_2fmodel_2fLinkType_3b rfl) rfl (by show 2 * 0 + _ ≤ _; exact Nat.le_of_eq rfl) (hb hby d11_2) (fun _ _ => ⟨rfl, e0, (by decide : 0 + 1 ≤ _), (by decide : 0 + 3 ≤ _)⟩)
  dsimp only [Pt.U, Pt.locs, Pt.cells, Pt.slots] at X83 l83 y83 z83 st83 hQ83
  subst l83 y83 z83
  obtain ⟨b83, rfl, N83q, E83, A83⟩ := hQ83
  have N83 := Fr.app N0 N83q
  have e83 : T83.heap = T83.heap := rfl
  refine own_k T83 5 [.ref b83] st83 ?_
  have O := O.ext E83
  have Kp := Kp.ext E83
  let Lv84 : Array Slot := #[.val .null, .val .null, .val (.ref b83), .unset, .unset, .unset]
  refine own_st (A := T83.setTop (mkF mM 6 Lv84 [])) (fun t_ k_ => XS.astoreN X83.here hx rfl (hb hby d11_5) rfl rfl (l' := Lv84) rfl k_) ?_
  refine o_aloadN 7 X83 hx (hb hby d11_6) rfl rfl rfl ?_
  refine own_j 8 [.int 3] (fun t_ k_ => X83.arraylength hx (by rw [e83]; exact A83.1) (State.isArrayOf_alike hZ.alike A83.2.1) (g := (mkF mM 7 Lv84 [.ref b83])) rfl rfl (hb hby d11_7) t_ (by rw [len_of sz (by decide)]; exact k_)) ?_
  let Lv85 : Array Slot := #[.val .null, .val .null, .val (.ref b83), .val (.int 3), .unset, .unset]
  refine own_st (A := T83.setTop (mkF mM 9 Lv85 [])) (fun t_ k_ => XS.istoreN X83.here hx rfl (hb hby d11_8) rfl (l' := Lv85) rfl k_) ?_
  refine o_iconst 10 0 X83 hx (hb hby d11_9) rfl rfl ?_
  let Lv86 : Array Slot := #[.val .null, .val .null, .val (.ref b83), .val (.int 3), .val (.int 0), .unset]
  refine own_st (A := T83.setTop (mkF mM 12 Lv86 [])) (fun t_ k_ => XS.istore X83.here hx rfl (hb hby d11_10) rfl (l' := Lv86) rfl k_) ?_
  refine o_iload 14 X83 hx (hb hby d11_12) rfl rfl ?_
  refine o_iloadN 15 X83 hx (hb hby d11_14) rfl rfl ?_
  refine o_icmpNo 18 X83 hx (hb hby d11_15) (tlt (by decide : ((0 : Int32) < (3 : Int32)))).2.1 rfl ?_
  refine o_aloadN 19 X83 hx (hb hby d11_18) rfl rfl rfl ?_
  refine o_iload 21 X83 hx (hb hby d11_19) rfl rfl ?_
  refine own_j 22 [.ref a1] (fun t_ k_ => X83.aaload hx (j := (0 : Int32)) (v := (.ref a1)) (by rw [e83]; exact A83.1) (State.isArrayOf_alike hZ.alike A83.2.1) rfl A83.2.2 (inb_of (z := (3 : Int32)) sz ⟨by decide, by decide⟩) el0 (g := (mkF mM 21 Lv86 [.int 0, .ref b83])) rfl rfl (hb hby d11_21) t_ k_) ?_
  let Lv87 : Array Slot := #[.val .null, .val .null, .val (.ref b83), .val (.int 3), .val (.int 0), .val (.ref a1)]
  refine own_st (A := T83.setTop (mkF mM 24 Lv87 [])) (fun t_ k_ => XS.astore X83.here hx rfl (hb hby d11_22) rfl rfl (l' := Lv87) rfl k_) ?_
  refine o_aload 26 X83 hx (hb hby d11_24) rfl rfl rfl ?_
  obtain ⟨T88, X88, e88, st88⟩ := getF X83 hx hZ hown (host := "") (Or.inl (ow hw 74 rfl)) Via.refl e83 (Fk1.ext O.2) (g := (mkF mM 26 Lv87 [.ref a1])) rfl rfl (hb hby d11_26)
  refine own_k T88 29 [.ref y1] st88 ?_
  refine o_aloadN 30 X88 hx (hb hby d11_29) rfl rfl rfl ?_
  obtain ⟨cq89, kq89, q89a, q89b, q89c⟩ := isOf hZ e88 (own_StrX_exa (own_StrX_ext SX1 O.2))
  obtain ⟨_, _, ⟨T89, L89, k89, n89⟩, -, X89, ⟨Lc89, hQ89, l89, y89, z89⟩, st89⟩ := X88.virtualBack hx (y := yn1) (z := yn1) hown (mvT hZ (ow hw 76 rfl)) (mvT hZ (ow hw 42 rfl)) (notFace_of_selects (args := #[]) (mvT hZ (ow hw 44 rfl))) (mvT hZ (ow hw 44 rfl)) (mvT hZ (ow hw 43 rfl)) (by decide) (backOf (W := 0) (rmEqN lL Z a0 hw [] y1 T83.heap n0 ) hZ (ow hw 45 rfl) (ow hw 3 rfl) (by decide) (by decide)) q89a q89c (g := (mkF mM 30 Lv87 [.null, .ref y1])) rfl (by rw [hml]; rfl) (Steps.refl _) (argsL := [.null]) (rest := []) (lenOf pd__28Ljava_2flang_2fObject_3b_29Z rfl) rfl (by show 2 * 0 + _ ≤ _; exact Nat.le_of_eq rfl) (hb hby d11_30) (fun _ _ => ⟨rfl, e88, (by decide : 1 + 0 ≤ _), (by decide : 3 + 0 ≤ _)⟩)
  dsimp only [Pt.U, Pt.locs, Pt.cells, Pt.slots] at X89 l89 y89 z89 st89 hQ89
  subst l89 y89 z89
  obtain ⟨rfl, ⟨N89q, M89⟩, e89⟩ := hQ89
  have N89 := Fr.app N83 N89q
  refine own_k T89 33 [.int 0] (fun t_ k_ => st89.trans k_) ?_
  refine o_ifYes 39 X89 hx (hb hby d11_33) ((if0 _ _).trans (teq (by decide : ((0 : Int32) = (0 : Int32)))).1) (by decide) ?_
  let Lv90 : Array Slot := #[.val .null, .val .null, .val (.ref b83), .val (.int 3), .val (.int 1), .val (.ref a1)]
  refine own_st (A := T89.setTop (mkF mM 42 Lv90 [])) (fun t_ k_ => XS.iinc X89.here hx rfl (hb hby d11_39) rfl (l' := Lv90) rfl k_) ?_
  refine o_goto 12 X89 hx (hb hby d11_42) (by decide) ?_
  refine o_iload 14 X89 hx (hb hby d11_12) rfl rfl ?_
  refine o_iloadN 15 X89 hx (hb hby d11_14) rfl rfl ?_
  refine o_icmpNo 18 X89 hx (hb hby d11_15) (tlt (by decide : ((1 : Int32) < (3 : Int32)))).2.1 rfl ?_
  refine o_aloadN 19 X89 hx (hb hby d11_18) rfl rfl rfl ?_
  refine o_iload 21 X89 hx (hb hby d11_19) rfl rfl ?_
  refine own_j 22 [.ref a2] (fun t_ k_ => X89.aaload hx (j := (1 : Int32)) (v := (.ref a2)) (by rw [e89]; exact A83.1) (State.isArrayOf_alike hZ.alike A83.2.1) rfl A83.2.2 (inb_of (z := (3 : Int32)) sz ⟨by decide, by decide⟩) el1 (g := (mkF mM 21 Lv90 [.int 1, .ref b83])) rfl rfl (hb hby d11_21) t_ k_) ?_
  let Lv91 : Array Slot := #[.val .null, .val .null, .val (.ref b83), .val (.int 3), .val (.int 1), .val (.ref a2)]
  refine own_st (A := T89.setTop (mkF mM 24 Lv91 [])) (fun t_ k_ => XS.astore X89.here hx rfl (hb hby d11_22) rfl rfl (l' := Lv91) rfl k_) ?_
  refine o_aload 26 X89 hx (hb hby d11_24) rfl rfl rfl ?_
  obtain ⟨T92, X92, e92, st92⟩ := getF X89 hx hZ hown (host := "") (Or.inl (ow hw 74 rfl)) Via.refl e89 (Fk2.ext O.2) (g := (mkF mM 26 Lv91 [.ref a2])) rfl rfl (hb hby d11_26)
  refine own_k T92 29 [.ref y2] st92 ?_
  refine o_aloadN 30 X92 hx (hb hby d11_29) rfl rfl rfl ?_
  obtain ⟨cq93, kq93, q93a, q93b, q93c⟩ := isOf hZ e92 (own_StrX_exa (own_StrX_ext SX2 O.2))
  obtain ⟨_, _, ⟨T93, L93, k93, n93⟩, -, X93, ⟨Lc93, hQ93, l93, y93, z93⟩, st93⟩ := X92.virtualBack hx (y := yn1) (z := yn1) hown (mvT hZ (ow hw 76 rfl)) (mvT hZ (ow hw 42 rfl)) (notFace_of_selects (args := #[]) (mvT hZ (ow hw 44 rfl))) (mvT hZ (ow hw 44 rfl)) (mvT hZ (ow hw 43 rfl)) (by decide) (backOf (W := 0) (rmEqN lL Z a0 hw [] y2 T83.heap n0 ) hZ (ow hw 45 rfl) (ow hw 3 rfl) (by decide) (by decide)) q93a q93c (g := (mkF mM 30 Lv91 [.null, .ref y2])) rfl (by rw [hml]; rfl) (Steps.refl _) (argsL := [.null]) (rest := []) (lenOf pd__28Ljava_2flang_2fObject_3b_29Z rfl) rfl (by show 2 * 0 + _ ≤ _; exact Nat.le_of_eq rfl) (hb hby d11_30) (fun _ _ => ⟨rfl, e92, (by decide : 1 + 0 ≤ _), (by decide : 3 + 0 ≤ _)⟩)
  dsimp only [Pt.U, Pt.locs, Pt.cells, Pt.slots] at X93 l93 y93 z93 st93 hQ93
  subst l93 y93 z93
  obtain ⟨rfl, ⟨N93q, M93⟩, e93⟩ := hQ93
  have N93 := Fr.app N89 N93q
  refine own_k T93 33 [.int 0] (fun t_ k_ => st93.trans k_) ?_
  refine o_ifYes 39 X93 hx (hb hby d11_33) ((if0 _ _).trans (teq (by decide : ((0 : Int32) = (0 : Int32)))).1) (by decide) ?_
  let Lv94 : Array Slot := #[.val .null, .val .null, .val (.ref b83), .val (.int 3), .val (.int 2), .val (.ref a2)]
  refine own_st (A := T93.setTop (mkF mM 42 Lv94 [])) (fun t_ k_ => XS.iinc X93.here hx rfl (hb hby d11_39) rfl (l' := Lv94) rfl k_) ?_
  refine o_goto 12 X93 hx (hb hby d11_42) (by decide) ?_
  refine o_iload 14 X93 hx (hb hby d11_12) rfl rfl ?_
  refine o_iloadN 15 X93 hx (hb hby d11_14) rfl rfl ?_
  refine o_icmpNo 18 X93 hx (hb hby d11_15) (tlt (by decide : ((2 : Int32) < (3 : Int32)))).2.1 rfl ?_
  refine o_aloadN 19 X93 hx (hb hby d11_18) rfl rfl rfl ?_
  refine o_iload 21 X93 hx (hb hby d11_19) rfl rfl ?_
  refine own_j 22 [.ref a3] (fun t_ k_ => X93.aaload hx (j := (2 : Int32)) (v := (.ref a3)) (by rw [e93]; exact A83.1) (State.isArrayOf_alike hZ.alike A83.2.1) rfl A83.2.2 (inb_of (z := (3 : Int32)) sz ⟨by decide, by decide⟩) el2 (g := (mkF mM 21 Lv94 [.int 2, .ref b83])) rfl rfl (hb hby d11_21) t_ k_) ?_
  let Lv95 : Array Slot := #[.val .null, .val .null, .val (.ref b83), .val (.int 3), .val (.int 2), .val (.ref a3)]
  refine own_st (A := T93.setTop (mkF mM 24 Lv95 [])) (fun t_ k_ => XS.astore X93.here hx rfl (hb hby d11_22) rfl rfl (l' := Lv95) rfl k_) ?_
  refine o_aload 26 X93 hx (hb hby d11_24) rfl rfl rfl ?_
  obtain ⟨T96, X96, e96, st96⟩ := getF X93 hx hZ hown (host := "") (Or.inl (ow hw 74 rfl)) Via.refl e93 (Fk3.ext O.2) (g := (mkF mM 26 Lv95 [.ref a3])) rfl rfl (hb hby d11_26)
  refine own_k T96 29 [.ref y3] st96 ?_
  refine o_aloadN 30 X96 hx (hb hby d11_29) rfl rfl rfl ?_
  obtain ⟨cq97, kq97, q97a, q97b, q97c⟩ := isOf hZ e96 (own_StrX_exa (own_StrX_ext SX3 O.2))
  obtain ⟨_, _, ⟨T97, L97, k97, n97⟩, -, X97, ⟨Lc97, hQ97, l97, y97, z97⟩, st97⟩ := X96.virtualBack hx (y := yn1) (z := yn1) hown (mvT hZ (ow hw 76 rfl)) (mvT hZ (ow hw 42 rfl)) (notFace_of_selects (args := #[]) (mvT hZ (ow hw 44 rfl))) (mvT hZ (ow hw 44 rfl)) (mvT hZ (ow hw 43 rfl)) (by decide) (backOf (W := 0) (rmEqN lL Z a0 hw [] y3 T83.heap n0 ) hZ (ow hw 45 rfl) (ow hw 3 rfl) (by decide) (by decide)) q97a q97c (g := (mkF mM 30 Lv95 [.null, .ref y3])) rfl (by rw [hml]; rfl) (Steps.refl _) (argsL := [.null]) (rest := []) (lenOf pd__28Ljava_2flang_2fObject_3b_29Z rfl) rfl (by show 2 * 0 + _ ≤ _; exact Nat.le_of_eq rfl) (hb hby d11_30) (fun _ _ => ⟨rfl, e96, (by decide : 1 + 0 ≤ _), (by decide : 3 + 0 ≤ _)⟩)
  dsimp only [Pt.U, Pt.locs, Pt.cells, Pt.slots] at X97 l97 y97 z97 st97 hQ97
  subst l97 y97 z97
  obtain ⟨rfl, ⟨N97q, M97⟩, e97⟩ := hQ97
  have N97 := Fr.app N93 N97q
  refine own_k T97 33 [.int 0] (fun t_ k_ => st97.trans k_) ?_
  refine o_ifYes 39 X97 hx (hb hby d11_33) ((if0 _ _).trans (teq (by decide : ((0 : Int32) = (0 : Int32)))).1) (by decide) ?_
  let Lv98 : Array Slot := #[.val .null, .val .null, .val (.ref b83), .val (.int 3), .val (.int 3), .val (.ref a3)]
  refine own_st (A := T97.setTop (mkF mM 42 Lv98 [])) (fun t_ k_ => XS.iinc X97.here hx rfl (hb hby d11_39) rfl (l' := Lv98) rfl k_) ?_
  refine o_goto 12 X97 hx (hb hby d11_42) (by decide) ?_
  refine o_iload 14 X97 hx (hb hby d11_12) rfl rfl ?_
  refine o_iloadN 15 X97 hx (hb hby d11_14) rfl rfl ?_
  refine o_icmpYes 45 X97 hx (hb hby d11_15) (flt (by decide : ¬ ((3 : Int32) < (3 : Int32)))).2.1 (by decide) ?_
  refine o_aloadN 46 X97 hx (hb hby d11_45) rfl rfl rfl ?_
  exact own_retA X97 hx hlk hret rfl rfl (hb hby d11_46) (by rw [e97]; exact ⟨rfl, N97, own_ext_of_keep Kp⟩) (by decide) (by decide)
theorem pd__28Ljava_2flang_2fString_3b_29Lcom_2fexample_2fslotwright_2fslotwright_2fmodel_2fLinkType_3b : parseMethodDescriptor "(Ljava/lang/String;)Lcom/example/slotwright/slotwright/model/LinkType;" = some ⟨[(.object "java/lang/String")], some (.object "com/example/slotwright/slotwright/model/LinkType")⟩ := by decide +kernel
theorem J150u {vmV : Vm} (hw : own_tb a0 Z) (X0 : Stand pP lL eE room_1 (sS.setVm vmV) mM args below meth cC T0 locs 10 64) (hx : pP.tables.exec = Jvm.exec) (hZ : Z.Warmed39 (sS.setVm vmV).vm) (hby : cC.code = code) (hml : cC.maxLocals = 8) (hown : (sS.setVm vmV).vm.findClass "com/example/slotwright/slotwright/model/LinkTypeOfKeyPinLaw" = some mM.cls) (hlk : meth.locks = false) (hret : meth.sig.returnType = ret) {kV : Nat} (hS : sS.Since vmV kV) (hk : kV ≤ h0.size) (e0 : T0.heap = h0) (N0 : Fr n0 locs) (u0 : Int32) (u1 : Int32) (u2 : Int32) (mo : Int32) (kk : Int32) (xc : Int32) (ss : Addr) (xs : List Int32) (cs : Int32) (a1 : Addr) (a2 : Addr) (a3 : Addr) (t : Addr) (cl : Cell) (y1 : Addr) (y2 : Addr) (y3 : Addr) (sx : StrX Z h0 ss xs) (O : Old Z n0 h0) (S_cs : Sta Z Z.heap "java/lang/String" "COMPACT_STRINGS" "Z" (.int cs)) (hcs : ¬ cs = (0 : Int32)) (hcw : Jvm.Lit.compactW.before a0 Z = true) (hh39 : Jvm.Lit.constHeld Z "com/example/slotwright/slotwright/model/LinkTypeOfKeyPinLaw" 39) (hh49 : Jvm.Lit.constHeld Z "com/example/slotwright/slotwright/model/LinkTypeOfKeyPinLaw" 49) (hh54 : Jvm.Lit.constHeld Z "com/example/slotwright/slotwright/model/LinkTypeOfKeyPinLaw" 54) (hh7 : Jvm.Lit.constHeld Z "java/lang/String" 7) (S_BEFORE : Sta Z Z.heap "com/example/slotwright/slotwright/model/LinkType" "BEFORE" "Lcom/example/slotwright/slotwright/model/LinkType;" (.ref a1)) (S_MEETS : Sta Z Z.heap "com/example/slotwright/slotwright/model/LinkType" "MEETS" "Lcom/example/slotwright/slotwright/model/LinkType;" (.ref a2)) (S_CONCURRENT : Sta Z Z.heap "com/example/slotwright/slotwright/model/LinkType" "CONCURRENT" "Lcom/example/slotwright/slotwright/model/LinkType;" (.ref a3)) (S_V : Sta Z Z.heap "com/example/slotwright/slotwright/model/LinkType" "$VALUES" "[Lcom/example/slotwright/slotwright/model/LinkType;" (.ref t)) (Ar : Arr Z Z.heap t cl (.object "com/example/slotwright/slotwright/model/LinkType")) (Ex : Exa Z Z.heap t "[Lcom/example/slotwright/slotwright/model/LinkType;") (FC : FitC Z cl) (sz : cl.slots.size = (3 : Int32).toNatClampNeg) (el0 : cl.slots[(0 : Int32).toNatClampNeg]? = some (.ref a1)) (el1 : cl.slots[(1 : Int32).toNatClampNeg]? = some (.ref a2)) (el2 : cl.slots[(2 : Int32).toNatClampNeg]? = some (.ref a3)) (Fk1 : Fld Z Z.heap a1 "com/example/slotwright/slotwright/model/LinkType" "key" "Ljava/lang/String;" (.ref y1)) (Fk2 : Fld Z Z.heap a2 "com/example/slotwright/slotwright/model/LinkType" "key" "Ljava/lang/String;" (.ref y2)) (Fk3 : Fld Z Z.heap a3 "com/example/slotwright/slotwright/model/LinkType" "key" "Ljava/lang/String;" (.ref y3)) (SX1 : StrX Z Z.heap y1 bB) (SX2 : StrX Z Z.heap y2 bM) (SX3 : StrX Z Z.heap y3 bC) (hI : IB Z vmV [""]) :
    own_GoW pP eE below sS (QLaw n0) 24 4288 (T0.setTop (mkF mM 150 #[.val (.int u0), .val (.int u1), .val (.int u2), .val (.int mo), .val (.int kk), .val (.int xc), .val (.ref ss), .unset] [])) := by
  obtain ⟨w, hr, r1, r2, r3, r0, p3, p2, p1, p0⟩ := own_sel xs a1 a2 a3
  refine o_aloadW 152 X0 hx (hb hby at_150) rfl rfl rfl ?_
  obtain ⟨_, _, ⟨T99, L99, k99, n99⟩, -, X99, hS99, hg99, ⟨Lc99, hQ99, l99, y99, z99⟩, st99⟩ := callSS X0 hx (y := yn2) hown (mvT hZ (ow hw 35 rfl)) (mvT hZ (ow hw 36 rfl)) (mvT hZ (ow hw 6 rfl)) (mvT hZ (ow hw 37 rfl)) (by decide) (own_backOfSI (W := 0) (rmRf lL Z a0 hw [] ss xs cs a1 a2 a3 w h0 n0 sx O S_cs hcs hcw hh39 hh49 hh54 S_BEFORE S_MEETS S_CONCURRENT r1 r2 r3 r0) hZ (ow hw 37 rfl) (ow hw 6 rfl) (by decide) (by decide) hI) (g := (mkF mM 152 #[.val (.int u0), .val (.int u1), .val (.int u2), .val (.int mo), .val (.int kk), .val (.int xc), .val (.ref ss), .unset] [.ref ss])) rfl (by rw [hml]; rfl) (argsL := [.ref ss]) (rest := []) (lenOf pd__28Ljava_2flang_2fString_3b_29Lcom_2fexample_2fslotwright_2fslotwright_2fmodel_2fLinkType_3b rfl) rfl (by show 2 * 0 + _ ≤ _; exact Nat.le_of_eq rfl) (hb hby at_152) (fun _ _ => ⟨rfl, e0, (by decide : 10 + 6 ≤ _), (by decide : 64 + 96 ≤ _)⟩)
  dsimp only [Pt.U, Pt.locs, Pt.cells, Pt.slots] at X99 l99 y99 z99 st99 hQ99 hS99 hg99
  subst l99 y99 z99
  obtain ⟨rfl, N99q, E99⟩ := hQ99
  have N99 := Fr.app N0 N99q
  rw [e0] at hg99
  have hZ := own_wideZ hZ hS99
  have hown := own_wideO hown hS99
  have hS := hS.trans hS99 (Nat.le_trans hk hg99)
  have hk : T99.heap.size ≤ T99.heap.size := Nat.le_refl _
  have X99 : Stand pP lL eE room_1 (sS.setVm T99.vm) mM args below meth cC T99 _ 16 160 := X99
  have e99 : T99.heap = T99.heap := rfl
  refine own_kW T99 155 [w] (fun t_ k_ => st99.trans k_) ?_
  have sx := own_StrX_ext sx E99
  have O := O.ext E99
  let Lv100 : Array Slot := #[.val (.int u0), .val (.int u1), .val (.int u2), .val (.int mo), .val (.int kk), .val (.int xc), .val (.ref ss), .val w]
  refine own_stW (A := T99.setTop (mkF mM 157 Lv100 [])) (fun t_ k_ => XS.astore X99.here hx rfl (hb hby at_155) rfl hr (l' := Lv100) (by rcases ref_cases hr with hq | ⟨aq, hq⟩ <;> subst hq <;> rfl) k_) ?_
  refine o_aloadW 159 X99 hx (hb hby at_157) rfl rfl rfl ?_
  obtain ⟨_, _, ⟨T101, L101, k101, n101⟩, -, X101, ⟨Lc101, hQ101, l101, y101, z101⟩, st101⟩ := Jvm.LawKit.callS X99 hx (y := yn4) hown (mvT hZ (ow hw 54 rfl)) (mvT hZ (ow hw 55 rfl)) (mvT hZ (ow hw 52 rfl)) (mvT hZ (ow hw 56 rfl)) (by decide) (backOf (W := 0) (rmOk lL Z a0 hw [] ss xs cs a1 a2 a3 w t cl y1 y2 y3 T99.heap n0 sx S_cs hcs O S_V Ar Ex FC sz el0 el1 el2 Fk1 Fk2 Fk3 SX1 SX2 SX3 p3 p2 p1 p0) hZ (ow hw 56 rfl) (ow hw 52 rfl) (by decide) (by decide)) (g := (mkF mM 159 Lv100 [.ref ss])) rfl (by rw [hml]; rfl) (argsL := [.ref ss]) (rest := []) (lenOf pd__28Ljava_2flang_2fString_3b_29Lcom_2fexample_2fslotwright_2fslotwright_2fmodel_2fLinkType_3b rfl) rfl (by show 2 * 0 + _ ≤ _; exact Nat.le_of_eq rfl) (hb hby at_159) (fun _ _ => ⟨rfl, e99, (by decide : 16 + 1 ≤ _), (by decide : 160 + 3 ≤ _)⟩)
  dsimp only [Pt.U, Pt.locs, Pt.cells, Pt.slots] at X101 l101 y101 z101 st101 hQ101
  subst l101 y101 z101
  obtain ⟨rfl, N101q, E101⟩ := hQ101
  have N101 := Fr.app N99 N101q
  have e101 : T101.heap = T101.heap := rfl
  refine own_kW T101 162 [w] st101 ?_
  have sx := own_StrX_ext sx E101
  have O := O.ext E101
  have hk := Nat.le_trans hk E101.1
  refine o_aloadW 164 X101 hx (hb hby at_162) rfl hr rfl ?_
  refine own_jW 167 [] (fun t_ k_ => Jvm.RoadKit.acmp X101 hx rfl (x := w) (y := w) hr hr (pc0 := 164) (pc' := 167) (same := true) rfl (hb hby at_164) rfl (decide_eq_true rfl) (by decide) (by decide) k_) ?_
  refine o_iconstW 168 1 X101 hx (hb hby at_167) rfl rfl ?_
  refine o_gotoW 172 X101 hx (hb hby at_168) (by decide) ?_
  exact own_retWN X101 hx hlk hS (by rw [e101]; exact hk) (t := .boolean) hret (by simp) (hb hby at_172) ⟨rfl, N101⟩ (by decide) (by decide)
theorem J150t {vmV : Vm} (hw : own_tb a0 Z) (X0 : Stand pP lL eE room_1 (sS.setVm vmV) mM args below meth cC T0 locs 10 64) (hx : pP.tables.exec = Jvm.exec) (hZ : Z.Warmed39 (sS.setVm vmV).vm) (hby : cC.code = code) (hml : cC.maxLocals = 8) (hown : (sS.setVm vmV).vm.findClass "com/example/slotwright/slotwright/model/LinkTypeOfKeyPinLaw" = some mM.cls) (hlk : meth.locks = false) (hret : meth.sig.returnType = ret) {kV : Nat} (hS : sS.Since vmV kV) (hk : kV ≤ h0.size) (e0 : T0.heap = h0) (N0 : Fr n0 locs) (u0 : Int32) (u1 : Int32) (u2 : Int32) (mo : Int32) (kk : Int32) (xc : Int32) (ss : Addr) (xs : List Int32) (tt : Addr) (cs : Int32) (a1 : Addr) (a2 : Addr) (a3 : Addr) (t : Addr) (cl : Cell) (y1 : Addr) (y2 : Addr) (y3 : Addr) (sx : StrX Z h0 ss xs) (O : Old Z n0 h0) (S_cs : Sta Z Z.heap "java/lang/String" "COMPACT_STRINGS" "Z" (.int cs)) (hcs : ¬ cs = (0 : Int32)) (hcw : Jvm.Lit.compactW.before a0 Z = true) (hh39 : Jvm.Lit.constHeld Z "com/example/slotwright/slotwright/model/LinkTypeOfKeyPinLaw" 39) (hh49 : Jvm.Lit.constHeld Z "com/example/slotwright/slotwright/model/LinkTypeOfKeyPinLaw" 49) (hh54 : Jvm.Lit.constHeld Z "com/example/slotwright/slotwright/model/LinkTypeOfKeyPinLaw" 54) (hh7 : Jvm.Lit.constHeld Z "java/lang/String" 7) (S_BEFORE : Sta Z Z.heap "com/example/slotwright/slotwright/model/LinkType" "BEFORE" "Lcom/example/slotwright/slotwright/model/LinkType;" (.ref a1)) (S_MEETS : Sta Z Z.heap "com/example/slotwright/slotwright/model/LinkType" "MEETS" "Lcom/example/slotwright/slotwright/model/LinkType;" (.ref a2)) (S_CONCURRENT : Sta Z Z.heap "com/example/slotwright/slotwright/model/LinkType" "CONCURRENT" "Lcom/example/slotwright/slotwright/model/LinkType;" (.ref a3)) (S_V : Sta Z Z.heap "com/example/slotwright/slotwright/model/LinkType" "$VALUES" "[Lcom/example/slotwright/slotwright/model/LinkType;" (.ref t)) (Ar : Arr Z Z.heap t cl (.object "com/example/slotwright/slotwright/model/LinkType")) (Ex : Exa Z Z.heap t "[Lcom/example/slotwright/slotwright/model/LinkType;") (FC : FitC Z cl) (sz : cl.slots.size = (3 : Int32).toNatClampNeg) (el0 : cl.slots[(0 : Int32).toNatClampNeg]? = some (.ref a1)) (el1 : cl.slots[(1 : Int32).toNatClampNeg]? = some (.ref a2)) (el2 : cl.slots[(2 : Int32).toNatClampNeg]? = some (.ref a3)) (Fk1 : Fld Z Z.heap a1 "com/example/slotwright/slotwright/model/LinkType" "key" "Ljava/lang/String;" (.ref y1)) (Fk2 : Fld Z Z.heap a2 "com/example/slotwright/slotwright/model/LinkType" "key" "Ljava/lang/String;" (.ref y2)) (Fk3 : Fld Z Z.heap a3 "com/example/slotwright/slotwright/model/LinkType" "key" "Ljava/lang/String;" (.ref y3)) (SX1 : StrX Z Z.heap y1 bB) (SX2 : StrX Z Z.heap y2 bM) (SX3 : StrX Z Z.heap y3 bC) (hI : IB Z vmV [""]) :
    own_GoW pP eE below sS (QLaw n0) 24 4288 (T0.setTop (mkF mM 150 #[.val (.int u0), .val (.int u1), .val (.int u2), .val (.int mo), .val (.int kk), .val (.int xc), .val (.ref ss), .val (.ref tt)] [])) := by
  obtain ⟨w, hr, r1, r2, r3, r0, p3, p2, p1, p0⟩ := own_sel xs a1 a2 a3
  refine o_aloadW 152 X0 hx (hb hby at_150) rfl rfl rfl ?_
  obtain ⟨_, _, ⟨T102, L102, k102, n102⟩, -, X102, hS102, hg102, ⟨Lc102, hQ102, l102, y102, z102⟩, st102⟩ := callSS X0 hx (y := yn2) hown (mvT hZ (ow hw 35 rfl)) (mvT hZ (ow hw 36 rfl)) (mvT hZ (ow hw 6 rfl)) (mvT hZ (ow hw 37 rfl)) (by decide) (own_backOfSI (W := 0) (rmRf lL Z a0 hw [] ss xs cs a1 a2 a3 w h0 n0 sx O S_cs hcs hcw hh39 hh49 hh54 S_BEFORE S_MEETS S_CONCURRENT r1 r2 r3 r0) hZ (ow hw 37 rfl) (ow hw 6 rfl) (by decide) (by decide) hI) (g := (mkF mM 152 #[.val (.int u0), .val (.int u1), .val (.int u2), .val (.int mo), .val (.int kk), .val (.int xc), .val (.ref ss), .val (.ref tt)] [.ref ss])) rfl (by rw [hml]; rfl) (argsL := [.ref ss]) (rest := []) (lenOf pd__28Ljava_2flang_2fString_3b_29Lcom_2fexample_2fslotwright_2fslotwright_2fmodel_2fLinkType_3b rfl) rfl (by show 2 * 0 + _ ≤ _; exact Nat.le_of_eq rfl) (hb hby at_152) (fun _ _ => ⟨rfl, e0, (by decide : 10 + 6 ≤ _), (by decide : 64 + 96 ≤ _)⟩)
  dsimp only [Pt.U, Pt.locs, Pt.cells, Pt.slots] at X102 l102 y102 z102 st102 hQ102 hS102 hg102
  subst l102 y102 z102
  obtain ⟨rfl, N102q, E102⟩ := hQ102
  have N102 := Fr.app N0 N102q
  rw [e0] at hg102
  have hZ := own_wideZ hZ hS102
  have hown := own_wideO hown hS102
  have hS := hS.trans hS102 (Nat.le_trans hk hg102)
  have hk : T102.heap.size ≤ T102.heap.size := Nat.le_refl _
  have X102 : Stand pP lL eE room_1 (sS.setVm T102.vm) mM args below meth cC T102 _ 16 160 := X102
  have e102 : T102.heap = T102.heap := rfl
  refine own_kW T102 155 [w] (fun t_ k_ => st102.trans k_) ?_
  have sx := own_StrX_ext sx E102
  have O := O.ext E102
  let Lv103 : Array Slot := #[.val (.int u0), .val (.int u1), .val (.int u2), .val (.int mo), .val (.int kk), .val (.int xc), .val (.ref ss), .val w]
  refine own_stW (A := T102.setTop (mkF mM 157 Lv103 [])) (fun t_ k_ => XS.astore X102.here hx rfl (hb hby at_155) rfl hr (l' := Lv103) (by rcases ref_cases hr with hq | ⟨aq, hq⟩ <;> subst hq <;> rfl) k_) ?_
  refine o_aloadW 159 X102 hx (hb hby at_157) rfl rfl rfl ?_
  obtain ⟨_, _, ⟨T104, L104, k104, n104⟩, -, X104, ⟨Lc104, hQ104, l104, y104, z104⟩, st104⟩ := Jvm.LawKit.callS X102 hx (y := yn4) hown (mvT hZ (ow hw 54 rfl)) (mvT hZ (ow hw 55 rfl)) (mvT hZ (ow hw 52 rfl)) (mvT hZ (ow hw 56 rfl)) (by decide) (backOf (W := 0) (rmOk lL Z a0 hw [] ss xs cs a1 a2 a3 w t cl y1 y2 y3 T102.heap n0 sx S_cs hcs O S_V Ar Ex FC sz el0 el1 el2 Fk1 Fk2 Fk3 SX1 SX2 SX3 p3 p2 p1 p0) hZ (ow hw 56 rfl) (ow hw 52 rfl) (by decide) (by decide)) (g := (mkF mM 159 Lv103 [.ref ss])) rfl (by rw [hml]; rfl) (argsL := [.ref ss]) (rest := []) (lenOf pd__28Ljava_2flang_2fString_3b_29Lcom_2fexample_2fslotwright_2fslotwright_2fmodel_2fLinkType_3b rfl) rfl (by show 2 * 0 + _ ≤ _; exact Nat.le_of_eq rfl) (hb hby at_159) (fun _ _ => ⟨rfl, e102, (by decide : 16 + 1 ≤ _), (by decide : 160 + 3 ≤ _)⟩)
  dsimp only [Pt.U, Pt.locs, Pt.cells, Pt.slots] at X104 l104 y104 z104 st104 hQ104
  subst l104 y104 z104
  obtain ⟨rfl, N104q, E104⟩ := hQ104
  have N104 := Fr.app N102 N104q
  have e104 : T104.heap = T104.heap := rfl
  refine own_kW T104 162 [w] st104 ?_
  have sx := own_StrX_ext sx E104
  have O := O.ext E104
  have hk := Nat.le_trans hk E104.1
  refine o_aloadW 164 X104 hx (hb hby at_162) rfl hr rfl ?_
  refine own_jW 167 [] (fun t_ k_ => Jvm.RoadKit.acmp X104 hx rfl (x := w) (y := w) hr hr (pc0 := 164) (pc' := 167) (same := true) rfl (hb hby at_164) rfl (decide_eq_true rfl) (by decide) (by decide) k_) ?_
  refine o_iconstW 168 1 X104 hx (hb hby at_167) rfl rfl ?_
  refine o_gotoW 172 X104 hx (hb hby at_168) (by decide) ?_
  exact own_retWN X104 hx hlk hS (by rw [e104]; exact hk) (t := .boolean) hret (by simp) (hb hby at_172) ⟨rfl, N104⟩ (by decide) (by decide)
theorem J150n {vmV : Vm} (hw : own_tb a0 Z) (X0 : Stand pP lL eE room_1 (sS.setVm vmV) mM args below meth cC T0 locs 10 64) (hx : pP.tables.exec = Jvm.exec) (hZ : Z.Warmed39 (sS.setVm vmV).vm) (hby : cC.code = code) (hml : cC.maxLocals = 8) (hown : (sS.setVm vmV).vm.findClass "com/example/slotwright/slotwright/model/LinkTypeOfKeyPinLaw" = some mM.cls) (hlk : meth.locks = false) (hret : meth.sig.returnType = ret) {kV : Nat} (hS : sS.Since vmV kV) (hk : kV ≤ h0.size) (e0 : T0.heap = h0) (N0 : Fr n0 locs) (u0 : Int32) (u1 : Int32) (u2 : Int32) (mo : Int32) (kk : Int32) (xc : Int32) (cs : Int32) (a1 : Addr) (a2 : Addr) (a3 : Addr) (t : Addr) (cl : Cell) (y1 : Addr) (y2 : Addr) (y3 : Addr) (O : Old Z n0 h0) (S_cs : Sta Z Z.heap "java/lang/String" "COMPACT_STRINGS" "Z" (.int cs)) (hcs : ¬ cs = (0 : Int32)) (hcw : Jvm.Lit.compactW.before a0 Z = true) (hh39 : Jvm.Lit.constHeld Z "com/example/slotwright/slotwright/model/LinkTypeOfKeyPinLaw" 39) (hh49 : Jvm.Lit.constHeld Z "com/example/slotwright/slotwright/model/LinkTypeOfKeyPinLaw" 49) (hh54 : Jvm.Lit.constHeld Z "com/example/slotwright/slotwright/model/LinkTypeOfKeyPinLaw" 54) (hh7 : Jvm.Lit.constHeld Z "java/lang/String" 7) (S_BEFORE : Sta Z Z.heap "com/example/slotwright/slotwright/model/LinkType" "BEFORE" "Lcom/example/slotwright/slotwright/model/LinkType;" (.ref a1)) (S_MEETS : Sta Z Z.heap "com/example/slotwright/slotwright/model/LinkType" "MEETS" "Lcom/example/slotwright/slotwright/model/LinkType;" (.ref a2)) (S_CONCURRENT : Sta Z Z.heap "com/example/slotwright/slotwright/model/LinkType" "CONCURRENT" "Lcom/example/slotwright/slotwright/model/LinkType;" (.ref a3)) (S_V : Sta Z Z.heap "com/example/slotwright/slotwright/model/LinkType" "$VALUES" "[Lcom/example/slotwright/slotwright/model/LinkType;" (.ref t)) (Ar : Arr Z Z.heap t cl (.object "com/example/slotwright/slotwright/model/LinkType")) (Ex : Exa Z Z.heap t "[Lcom/example/slotwright/slotwright/model/LinkType;") (FC : FitC Z cl) (sz : cl.slots.size = (3 : Int32).toNatClampNeg) (el0 : cl.slots[(0 : Int32).toNatClampNeg]? = some (.ref a1)) (el1 : cl.slots[(1 : Int32).toNatClampNeg]? = some (.ref a2)) (el2 : cl.slots[(2 : Int32).toNatClampNeg]? = some (.ref a3)) (Fk1 : Fld Z Z.heap a1 "com/example/slotwright/slotwright/model/LinkType" "key" "Ljava/lang/String;" (.ref y1)) (Fk2 : Fld Z Z.heap a2 "com/example/slotwright/slotwright/model/LinkType" "key" "Ljava/lang/String;" (.ref y2)) (Fk3 : Fld Z Z.heap a3 "com/example/slotwright/slotwright/model/LinkType" "key" "Ljava/lang/String;" (.ref y3)) (SX1 : StrX Z Z.heap y1 bB) (SX2 : StrX Z Z.heap y2 bM) (SX3 : StrX Z Z.heap y3 bC) :
    own_GoW pP eE below sS (QLaw n0) 24 4288 (T0.setTop (mkF mM 150 #[.val (.int u0), .val (.int u1), .val (.int u2), .val (.int mo), .val (.int kk), .val (.int xc), .val .null, .unset] [])) := by
  refine o_aloadW 152 X0 hx (hb hby at_150) rfl rfl rfl ?_
  obtain ⟨_, _, ⟨T105, L105, k105, n105⟩, -, X105, ⟨Lc105, hQ105, l105, y105, z105⟩, st105⟩ := Jvm.LawKit.callS X0 hx (y := yn2) hown (mvT hZ (ow hw 35 rfl)) (mvT hZ (ow hw 36 rfl)) (mvT hZ (ow hw 6 rfl)) (mvT hZ (ow hw 37 rfl)) (by decide) (backOf (W := 0) (rmRfN lL Z a0 hw []  h0 n0 ) hZ (ow hw 37 rfl) (ow hw 6 rfl) (by decide) (by decide)) (g := (mkF mM 152 #[.val (.int u0), .val (.int u1), .val (.int u2), .val (.int mo), .val (.int kk), .val (.int xc), .val .null, .unset] [.null])) rfl (by rw [hml]; rfl) (argsL := [.null]) (rest := []) (lenOf pd__28Ljava_2flang_2fString_3b_29Lcom_2fexample_2fslotwright_2fslotwright_2fmodel_2fLinkType_3b rfl) rfl (by show 2 * 0 + _ ≤ _; exact Nat.le_of_eq rfl) (hb hby at_152) (fun _ _ => ⟨rfl, e0, (by decide : 10 + 0 ≤ _), (by decide : 64 + 0 ≤ _)⟩)
  dsimp only [Pt.U, Pt.locs, Pt.cells, Pt.slots] at X105 l105 y105 z105 st105 hQ105
  subst l105 y105 z105
  obtain ⟨rfl, N105q, e105⟩ := hQ105
  have N105 := Fr.app N0 N105q
  refine own_kW T105 155 [.null] st105 ?_
  let Lv106 : Array Slot := #[.val (.int u0), .val (.int u1), .val (.int u2), .val (.int mo), .val (.int kk), .val (.int xc), .val .null, .val .null]
  refine own_stW (A := T105.setTop (mkF mM 157 Lv106 [])) (fun t_ k_ => XS.astore X105.here hx rfl (hb hby at_155) rfl rfl (l' := Lv106) rfl k_) ?_
  refine o_aloadW 159 X105 hx (hb hby at_157) rfl rfl rfl ?_
  obtain ⟨_, _, ⟨T107, L107, k107, n107⟩, -, X107, ⟨Lc107, hQ107, l107, y107, z107⟩, st107⟩ := Jvm.LawKit.callS X105 hx (y := yn4) hown (mvT hZ (ow hw 54 rfl)) (mvT hZ (ow hw 55 rfl)) (mvT hZ (ow hw 52 rfl)) (mvT hZ (ow hw 56 rfl)) (by decide) (backOf (W := 0) (rmOkN lL Z a0 hw [] a1 a2 a3 t cl y1 y2 y3 h0 n0 O S_V Ar Ex FC sz el0 el1 el2 Fk1 Fk2 Fk3 SX1 SX2 SX3) hZ (ow hw 56 rfl) (ow hw 52 rfl) (by decide) (by decide)) (g := (mkF mM 159 Lv106 [.null])) rfl (by rw [hml]; rfl) (argsL := [.null]) (rest := []) (lenOf pd__28Ljava_2flang_2fString_3b_29Lcom_2fexample_2fslotwright_2fslotwright_2fmodel_2fLinkType_3b rfl) rfl (by show 2 * 0 + _ ≤ _; exact Nat.le_of_eq rfl) (hb hby at_159) (fun _ _ => ⟨rfl, e105, (by decide : 10 + 1 ≤ _), (by decide : 64 + 3 ≤ _)⟩)
  dsimp only [Pt.U, Pt.locs, Pt.cells, Pt.slots] at X107 l107 y107 z107 st107 hQ107
  subst l107 y107 z107
  obtain ⟨rfl, N107q, E107⟩ := hQ107
  have N107 := Fr.app N105 N107q
  have e107 : T107.heap = T107.heap := rfl
  refine own_kW T107 162 [.null] st107 ?_
  have O := O.ext E107
  have hk := Nat.le_trans hk E107.1
  refine o_aloadW 164 X107 hx (hb hby at_162) rfl rfl rfl ?_
  refine own_jW 167 [] (fun t_ k_ => Jvm.RoadKit.acmp X107 hx rfl (x := .null) (y := .null) rfl rfl (pc0 := 164) (pc' := 167) (same := true) rfl (hb hby at_164) rfl (decide_eq_true rfl) (by decide) (by decide) k_) ?_
  refine o_iconstW 168 1 X107 hx (hb hby at_167) rfl rfl ?_
  refine o_gotoW 172 X107 hx (hb hby at_168) (by decide) ?_
  exact own_retWN X107 hx hlk hS (by rw [e107]; exact hk) (t := .boolean) hret (by simp) (hb hby at_172) ⟨rfl, N107⟩ (by decide) (by decide)
theorem d6_3 : decode jdk_52_method_21_code 3 = .ok (.iload 5, 2) := by decide +kernel
theorem d6_5 : decode jdk_52_method_21_code 5 = .ok (.iload 4, 2) := by decide +kernel
theorem d6_7 : decode jdk_52_method_21_code 7 = .ok (.if_icmp .ge 37, 3) := by decide +kernel
theorem d6_10 : decode jdk_52_method_21_code 10 = .ok (.aload_n 0, 1) := by decide +kernel
theorem d6_11 : decode jdk_52_method_21_code 11 = .ok (.iload_n 1, 1) := by decide +kernel
theorem d6_12 : decode jdk_52_method_21_code 12 = .ok (.caload, 1) := by decide +kernel
theorem d6_13 : decode jdk_52_method_21_code 13 = .ok (.istore 6, 2) := by decide +kernel
theorem d6_15 : decode jdk_52_method_21_code 15 = .ok (.iload 6, 2) := by decide +kernel
theorem d6_17 : decode jdk_52_method_21_code 17 = .ok (.sipush 255, 3) := by decide +kernel
theorem d6_20 : decode jdk_52_method_21_code 20 = .ok (.if_icmp .le 6, 3) := by decide +kernel
theorem d6_26 : decode jdk_52_method_21_code 26 = .ok (.aload_n 2, 1) := by decide +kernel
theorem d6_27 : decode jdk_52_method_21_code 27 = .ok (.iload_n 3, 1) := by decide +kernel
theorem d6_28 : decode jdk_52_method_21_code 28 = .ok (.iload 6, 2) := by decide +kernel
theorem d6_30 : decode jdk_52_method_21_code 30 = .ok (.i2b, 1) := by decide +kernel
theorem d6_31 : decode jdk_52_method_21_code 31 = .ok (.bastore, 1) := by decide +kernel
theorem d6_32 : decode jdk_52_method_21_code 32 = .ok (.iinc 1 1, 3) := by decide +kernel
theorem d6_35 : decode jdk_52_method_21_code 35 = .ok (.iinc 3 1, 3) := by decide +kernel
theorem d6_38 : decode jdk_52_method_21_code 38 = .ok (.iinc 5 1, 3) := by decide +kernel
theorem d6_41 : decode jdk_52_method_21_code 41 = .ok (.goto (-38), 3) := by decide +kernel
theorem T5a (hw : own_tb a0 Z) (X0 : Stand pP lL eE (⟨0, 0, 0, 0⟩ : Room) sS mM args below meth cC T0 locs 0 0) (hx : pP.tables.exec = Jvm.exec) (hZ : Z.Warmed39 sS.vm) (hby : cC.code = jdk_52_method_21_code) (hml : cC.maxLocals = 7) (hown : sS.vm.findClass "java/lang/StringUTF16" = some mM.cls) (hlk : meth.locks = false) (hret : meth.sig.returnType = (some .int)) (e0 : T0.heap = h0) (N0 : Fr n0 locs) (s' : Addr) (ks : ClassId) (d : Addr) (kd : ClassId) (zz : Int32) (ii : Int32) (ii' : Int32) (jn : Nat) (xx : Int32) (vs : List Value) (ds : List Value) (Qv : Option Value → Heap → List Loc → Prop) (A_s' : Arv Z h0 s' ks .char zz vs (.int 0)) (A_d : Arv Z h0 d kd .byte zz ds (.int 0)) (g_d : n0 ≤ d) (nsd : s' ≠ d) (hi0 : ¬ ii < 0) (hlt : ii < zz) (hj : ii.toNatClampNeg = jn) (hv : vs.getD ii.toNatClampNeg (.int 0) = .int xx) (hdl : jn < ds.length) (cx : Ck xx) (hi : ii + (1 : Int32) = ii') (kont : ∀ (T' : State) (L' : List Loc) (h' : Heap), Stand pP lL eE (⟨0, 0, 0, 0⟩ : Room) sS mM args below meth cC T' L' 0 0 → T'.heap = h' → Fr n0 L' → Keep h0 h' [d] → Arv Z h' s' ks .char zz vs (.int 0) → Arv Z h' d kd .byte zz (ds.set jn (.int (((xx).toInt8.toInt32)).toInt8.toInt32)) (.int 0) → own_Go pP eE below sS (Qv) 0 0 (T'.setTop (mkF mM 3 #[.val (.ref s'), .val (.int ii'), .val (.ref d), .val (.int ii'), .val (.int zz), .val (.int ii'), .val (.int xx)] []))) :
    own_Go pP eE below sS (Qv) 0 0 (T0.setTop (mkF mM 3 #[.val (.ref s'), .val (.int ii), .val (.ref d), .val (.int ii), .val (.int zz), .val (.int ii), .unset] [])) := by
  subst hi
  have Kp := Keep.refl h0 [d]
  refine o_iload 5 X0 hx (hb hby d6_3) rfl rfl ?_
  refine o_iload 7 X0 hx (hb hby d6_5) rfl rfl ?_
  refine o_icmpNo 10 X0 hx (hb hby d6_7) (tlt hlt).2.1 rfl ?_
  refine o_aloadN 11 X0 hx (hb hby d6_10) rfl rfl rfl ?_
  refine o_iloadN 12 X0 hx (hb hby d6_11) rfl rfl ?_
  obtain ⟨cl108, Ar108, q108, S108, Nn108, H108, G108⟩ := id A_s'
  refine own_j 13 [.int xx] (fun t_ k_ => X0.caload hx (j := ii) (v := (.int xx)) (by rw [e0]; exact Ar108.1) (State.isArrayOf_alike hZ.alike Ar108.2.1) Ar108.2.2 (inb_of S108 ⟨hi0, hlt⟩) (H108.at (inb_of S108 ⟨hi0, hlt⟩) hv) (g := (mkF mM 12 #[.val (.ref s'), .val (.int ii), .val (.ref d), .val (.int ii), .val (.int zz), .val (.int ii), .unset] [.int ii, .ref s'])) rfl rfl (hb hby d6_12) t_ k_) ?_
  let Lv109 : Array Slot := #[.val (.ref s'), .val (.int ii), .val (.ref d), .val (.int ii), .val (.int zz), .val (.int ii), .val (.int xx)]
  refine own_st (A := T0.setTop (mkF mM 15 Lv109 [])) (fun t_ k_ => XS.istore X0.here hx rfl (hb hby d6_13) rfl (l' := Lv109) rfl k_) ?_
  refine o_iload 17 X0 hx (hb hby d6_15) rfl rfl ?_
  refine o_sipush 20 255 X0 hx (hb hby d6_17) rfl rfl ?_
  refine o_icmpYes 26 X0 hx (hb hby d6_20) (flt cx.2.1).2.2.2 (by decide) ?_
  refine o_aloadN 27 X0 hx (hb hby d6_26) rfl rfl rfl ?_
  refine o_iloadN 28 X0 hx (hb hby d6_27) rfl rfl ?_
  refine o_iload 30 X0 hx (hb hby d6_28) rfl rfl ?_
  refine own_j 31 [(.int ((xx).toInt8.toInt32)), .int ii, .ref d] (fun t_ k_ => XS.i2b X0.here hx rfl (hb hby d6_30) rfl k_) ?_
  obtain ⟨cl110, Ar110, q110, S110, Nn110, H110, G110⟩ := id A_d
  obtain ⟨T111, h111, X111, e111, W111, st111⟩ := stB X0 hx hZ e0 Ar110 (j := ii) (inb_of S110 ⟨hi0, hlt⟩) (g := (mkF mM 31 Lv109 [(.int ((xx).toInt8.toInt32)), .int ii, .ref d])) rfl rfl (hb hby d6_31)
  have N111 := Fr.snoc X111 N0 g_d
  have A_s' := A_s'.other W111 nsd
  have Kp := Kp.wr W111 (Or.inl (List.mem_of_getElem? (i := 0) rfl))
  have A_d : Arv Z h111 d kd .byte zz (ds.set jn (.int (((xx).toInt8.toInt32)).toInt8.toInt32)) (.int 0) := Arv.set Ar110 q110 S110 Nn110 H110 G110 (fits_nar_byte _) W111 jn hj hdl
  refine own_k T111 32 [] st111 ?_
  let Lv112 : Array Slot := #[.val (.ref s'), .val (.int (ii + (1 : Int32))), .val (.ref d), .val (.int ii), .val (.int zz), .val (.int ii), .val (.int xx)]
  refine own_st (A := T111.setTop (mkF mM 35 Lv112 [])) (fun t_ k_ => XS.iinc X111.here hx rfl (hb hby d6_32) rfl (l' := Lv112) rfl k_) ?_
  let Lv113 : Array Slot := #[.val (.ref s'), .val (.int (ii + (1 : Int32))), .val (.ref d), .val (.int (ii + (1 : Int32))), .val (.int zz), .val (.int ii), .val (.int xx)]
  refine own_st (A := T111.setTop (mkF mM 38 Lv113 [])) (fun t_ k_ => XS.iinc X111.here hx rfl (hb hby d6_35) rfl (l' := Lv113) rfl k_) ?_
  let Lv114 : Array Slot := #[.val (.ref s'), .val (.int (ii + (1 : Int32))), .val (.ref d), .val (.int (ii + (1 : Int32))), .val (.int zz), .val (.int (ii + (1 : Int32))), .val (.int xx)]
  refine own_st (A := T111.setTop (mkF mM 41 Lv114 [])) (fun t_ k_ => XS.iinc X111.here hx rfl (hb hby d6_38) rfl (l' := Lv114) rfl k_) ?_
  refine o_goto 3 X111 hx (hb hby d6_41) (by decide) ?_
  exact kont T111 _ h111 X111 e111 N111 Kp A_s' A_d
theorem T5b (hw : own_tb a0 Z) (X0 : Stand pP lL eE (⟨0, 0, 0, 0⟩ : Room) sS mM args below meth cC T0 locs 0 0) (hx : pP.tables.exec = Jvm.exec) (hZ : Z.Warmed39 sS.vm) (hby : cC.code = jdk_52_method_21_code) (hml : cC.maxLocals = 7) (hown : sS.vm.findClass "java/lang/StringUTF16" = some mM.cls) (hlk : meth.locks = false) (hret : meth.sig.returnType = (some .int)) (e0 : T0.heap = h0) (N0 : Fr n0 locs) (s' : Addr) (ks : ClassId) (d : Addr) (kd : ClassId) (zz : Int32) (ii : Int32) (ii' : Int32) (jn : Nat) (xx : Int32) (xp : Int32) (vs : List Value) (ds : List Value) (Qv : Option Value → Heap → List Loc → Prop) (A_s' : Arv Z h0 s' ks .char zz vs (.int 0)) (A_d : Arv Z h0 d kd .byte zz ds (.int 0)) (g_d : n0 ≤ d) (nsd : s' ≠ d) (hi0 : ¬ ii < 0) (hlt : ii < zz) (hj : ii.toNatClampNeg = jn) (hv : vs.getD ii.toNatClampNeg (.int 0) = .int xx) (hdl : jn < ds.length) (cx : Ck xx) (hi : ii + (1 : Int32) = ii') (kont : ∀ (T' : State) (L' : List Loc) (h' : Heap), Stand pP lL eE (⟨0, 0, 0, 0⟩ : Room) sS mM args below meth cC T' L' 0 0 → T'.heap = h' → Fr n0 L' → Keep h0 h' [d] → Arv Z h' s' ks .char zz vs (.int 0) → Arv Z h' d kd .byte zz (ds.set jn (.int (((xx).toInt8.toInt32)).toInt8.toInt32)) (.int 0) → own_Go pP eE below sS (Qv) 0 0 (T'.setTop (mkF mM 3 #[.val (.ref s'), .val (.int ii'), .val (.ref d), .val (.int ii'), .val (.int zz), .val (.int ii'), .val (.int xx)] []))) :
    own_Go pP eE below sS (Qv) 0 0 (T0.setTop (mkF mM 3 #[.val (.ref s'), .val (.int ii), .val (.ref d), .val (.int ii), .val (.int zz), .val (.int ii), .val (.int xp)] [])) := by
  subst hi
  have Kp := Keep.refl h0 [d]
  refine o_iload 5 X0 hx (hb hby d6_3) rfl rfl ?_
  refine o_iload 7 X0 hx (hb hby d6_5) rfl rfl ?_
  refine o_icmpNo 10 X0 hx (hb hby d6_7) (tlt hlt).2.1 rfl ?_
  refine o_aloadN 11 X0 hx (hb hby d6_10) rfl rfl rfl ?_
  refine o_iloadN 12 X0 hx (hb hby d6_11) rfl rfl ?_
  obtain ⟨cl115, Ar115, q115, S115, Nn115, H115, G115⟩ := id A_s'
  refine own_j 13 [.int xx] (fun t_ k_ => X0.caload hx (j := ii) (v := (.int xx)) (by rw [e0]; exact Ar115.1) (State.isArrayOf_alike hZ.alike Ar115.2.1) Ar115.2.2 (inb_of S115 ⟨hi0, hlt⟩) (H115.at (inb_of S115 ⟨hi0, hlt⟩) hv) (g := (mkF mM 12 #[.val (.ref s'), .val (.int ii), .val (.ref d), .val (.int ii), .val (.int zz), .val (.int ii), .val (.int xp)] [.int ii, .ref s'])) rfl rfl (hb hby d6_12) t_ k_) ?_
  let Lv116 : Array Slot := #[.val (.ref s'), .val (.int ii), .val (.ref d), .val (.int ii), .val (.int zz), .val (.int ii), .val (.int xx)]
  refine own_st (A := T0.setTop (mkF mM 15 Lv116 [])) (fun t_ k_ => XS.istore X0.here hx rfl (hb hby d6_13) rfl (l' := Lv116) rfl k_) ?_
  refine o_iload 17 X0 hx (hb hby d6_15) rfl rfl ?_
  refine o_sipush 20 255 X0 hx (hb hby d6_17) rfl rfl ?_
  refine o_icmpYes 26 X0 hx (hb hby d6_20) (flt cx.2.1).2.2.2 (by decide) ?_
  refine o_aloadN 27 X0 hx (hb hby d6_26) rfl rfl rfl ?_
  refine o_iloadN 28 X0 hx (hb hby d6_27) rfl rfl ?_
  refine o_iload 30 X0 hx (hb hby d6_28) rfl rfl ?_
  refine own_j 31 [(.int ((xx).toInt8.toInt32)), .int ii, .ref d] (fun t_ k_ => XS.i2b X0.here hx rfl (hb hby d6_30) rfl k_) ?_
  obtain ⟨cl117, Ar117, q117, S117, Nn117, H117, G117⟩ := id A_d
  obtain ⟨T118, h118, X118, e118, W118, st118⟩ := stB X0 hx hZ e0 Ar117 (j := ii) (inb_of S117 ⟨hi0, hlt⟩) (g := (mkF mM 31 Lv116 [(.int ((xx).toInt8.toInt32)), .int ii, .ref d])) rfl rfl (hb hby d6_31)
  have N118 := Fr.snoc X118 N0 g_d
  have A_s' := A_s'.other W118 nsd
  have Kp := Kp.wr W118 (Or.inl (List.mem_of_getElem? (i := 0) rfl))
  have A_d : Arv Z h118 d kd .byte zz (ds.set jn (.int (((xx).toInt8.toInt32)).toInt8.toInt32)) (.int 0) := Arv.set Ar117 q117 S117 Nn117 H117 G117 (fits_nar_byte _) W118 jn hj hdl
  refine own_k T118 32 [] st118 ?_
  let Lv119 : Array Slot := #[.val (.ref s'), .val (.int (ii + (1 : Int32))), .val (.ref d), .val (.int ii), .val (.int zz), .val (.int ii), .val (.int xx)]
  refine own_st (A := T118.setTop (mkF mM 35 Lv119 [])) (fun t_ k_ => XS.iinc X118.here hx rfl (hb hby d6_32) rfl (l' := Lv119) rfl k_) ?_
  let Lv120 : Array Slot := #[.val (.ref s'), .val (.int (ii + (1 : Int32))), .val (.ref d), .val (.int (ii + (1 : Int32))), .val (.int zz), .val (.int ii), .val (.int xx)]
  refine own_st (A := T118.setTop (mkF mM 38 Lv120 [])) (fun t_ k_ => XS.iinc X118.here hx rfl (hb hby d6_35) rfl (l' := Lv120) rfl k_) ?_
  let Lv121 : Array Slot := #[.val (.ref s'), .val (.int (ii + (1 : Int32))), .val (.ref d), .val (.int (ii + (1 : Int32))), .val (.int zz), .val (.int (ii + (1 : Int32))), .val (.int xx)]
  refine own_st (A := T118.setTop (mkF mM 41 Lv121 [])) (fun t_ k_ => XS.iinc X118.here hx rfl (hb hby d6_38) rfl (l' := Lv121) rfl k_) ?_
  refine o_goto 3 X118 hx (hb hby d6_41) (by decide) ?_
  exact kont T118 _ h118 X118 e118 N118 Kp A_s' A_d
theorem d6_0 : decode jdk_52_method_21_code 0 = .ok (.iconst 0, 1) := by decide +kernel
theorem d6_1 : decode jdk_52_method_21_code 1 = .ok (.istore 5, 2) := by decide +kernel
theorem d6_44 : decode jdk_52_method_21_code 44 = .ok (.iload 4, 2) := by decide +kernel
theorem d6_46 : decode jdk_52_method_21_code 46 = .ok (.ireturn, 1) := by decide +kernel
theorem pn_java_2flang_2fStringUTF16 : plainName "java/lang/StringUTF16" = true := by first | (simp [plainName, overriddenIn]; done) | decide +kernel
theorem ef_rmC5_2 (mM : MethodId) (s' : Addr) (ks : ClassId) (d : Addr) (kd : ClassId) (x0 : Int32) (x1 : Int32) : entryFrame mM #[.ref s', .int 0, .ref d, .int 0, .int 2] 7 = mkF mM 0 #[.val (.ref s'), .val (.int 0), .val (.ref d), .val (.int 0), .val (.int 2), .unset, .unset] [] := by first | (simp [entryFrame, mkF, argsToLocals, Value.category]; done) | rfl
theorem rmC5_2 (lL : Launch) (Z : State) (a0 : Array Value) (hw : own_tb a0 Z) (ws : List Jvm.Cond) (s' : Addr) (ks : ClassId) (d : Addr) (kd : ClassId) (x0 : Int32) (x1 : Int32) (h0 : Heap) (n0 : Nat) (A_s' : Arv Z h0 s' ks .char 2 [.int x0, .int x1] (.int 0)) (A_d : Arv Z h0 d kd .byte 2 [.int 0, .int 0] (.int 0)) (g_d : n0 ≤ d) (nsd : s' ≠ d) (cx0 : Ck x0) (cx1 : Ck x1) :
    own_Ct lL Z yn5 jdk_52_method_21_code 7 (some .int) ws (⟨0, 0, 0, 0⟩ : Room) #[.ref s', .int 0, .ref d, .int 0, .int 2] h0 (QC5 Z d kd 2 [(.int (((x0).toInt8.toInt32)).toInt8.toInt32), (.int (((x1).toInt8.toInt32)).toInt8.toInt32)] h0 n0) := by
  refine own_body (plainFor_of_name pn_java_2flang_2fStringUTF16) 0 0 rfl rfl (fun mM => ef_rmC5_2 mM s' ks d kd x0 x1) fun pP eE sS mM below meth cC s₁ hZ hx hby hml hown hnm hret hlk X0 e0 => ?_
  have N0 := Fr.nil n0
  have Kp := Keep.refl h0 [d]
  refine o_iconst 1 0 X0 hx (hb hby d6_0) rfl rfl ?_
  let Lv122 : Array Slot := #[.val (.ref s'), .val (.int 0), .val (.ref d), .val (.int 0), .val (.int 2), .val (.int 0), .unset]
  refine own_st (A := s₁.setTop (mkF mM 3 Lv122 [])) (fun t_ k_ => XS.istore X0.here hx rfl (hb hby d6_1) rfl (l' := Lv122) rfl k_) ?_
  refine T5a hw X0 hx hZ hby hml hown hlk hret e0 N0 s' ks d kd 2 0 1 0 x0 _ _ _ A_s' A_d g_d nsd (by decide) (by decide) rfl rfl (Nat.le_of_ble_eq_true rfl) cx0 rfl (fun T123 L123 h123 X123 e123 N123 K123 A_s' A_d => ?_)
  have Kp := Kp.trans K123 (allS (Or.inl (List.mem_of_getElem? (i := 0) rfl)) all0)
  refine T5b hw X123 hx hZ hby hml hown hlk hret e123 N123 s' ks d kd 2 1 2 1 x1 x0 _ _ _ A_s' A_d g_d nsd (by decide) (by decide) rfl rfl (Nat.le_of_ble_eq_true rfl) cx1 rfl (fun T124 L124 h124 X124 e124 N124 K124 A_s' A_d => ?_)
  have Kp := Kp.trans K124 (allS (Or.inl (List.mem_of_getElem? (i := 0) rfl)) all0)
  refine o_iload 5 X124 hx (hb hby d6_3) rfl rfl ?_
  refine o_iload 7 X124 hx (hb hby d6_5) rfl rfl ?_
  refine o_icmpYes 44 X124 hx (hb hby d6_7) (flt (by decide : ¬ ((2 : Int32) < (2 : Int32)))).2.1 (by decide) ?_
  refine o_iload 46 X124 hx (hb hby d6_44) rfl rfl ?_
  exact own_retI X124 hx hlk hret (hb hby d6_46) (by rw [e124]; exact ⟨rfl, N124, Kp, A_d⟩) (by decide) (by decide)
theorem d5_0 : decode jdk_52_method_16_code 0 = .ok (.iload_n 2, 1) := by decide +kernel
theorem d5_1 : decode jdk_52_method_16_code 1 = .ok (.newarray .byte, 2) := by decide +kernel
theorem d5_3 : decode jdk_52_method_16_code 3 = .ok (.astore_n 3, 1) := by decide +kernel
theorem d5_4 : decode jdk_52_method_16_code 4 = .ok (.aload_n 0, 1) := by decide +kernel
theorem d5_5 : decode jdk_52_method_16_code 5 = .ok (.iload_n 1, 1) := by decide +kernel
theorem d5_6 : decode jdk_52_method_16_code 6 = .ok (.aload_n 3, 1) := by decide +kernel
theorem d5_7 : decode jdk_52_method_16_code 7 = .ok (.iconst 0, 1) := by decide +kernel
theorem d5_8 : decode jdk_52_method_16_code 8 = .ok (.iload_n 2, 1) := by decide +kernel
theorem d5_9 : decode jdk_52_method_16_code 9 = .ok (.invokestatic 115, 3) := by decide +kernel
theorem pd__28_5bCI_5bBII_29I : parseMethodDescriptor "([CI[BII)I" = some ⟨[(.array .char), .int, (.array .byte), .int, .int], some .int⟩ := by decide +kernel
theorem d5_12 : decode jdk_52_method_16_code 12 = .ok (.istore 4, 2) := by decide +kernel
theorem d5_14 : decode jdk_52_method_16_code 14 = .ok (.iload 4, 2) := by decide +kernel
theorem d5_16 : decode jdk_52_method_16_code 16 = .ok (.iload_n 2, 1) := by decide +kernel
theorem d5_17 : decode jdk_52_method_16_code 17 = .ok (.if_icmp .eq 40, 3) := by decide +kernel
theorem d5_57 : decode jdk_52_method_16_code 57 = .ok (.aload_n 3, 1) := by decide +kernel
theorem d5_58 : decode jdk_52_method_16_code 58 = .ok (.areturn, 1) := by decide +kernel
theorem ef_rmC3_2 (mM : MethodId) (s' : Addr) (ks : ClassId) (x0 : Int32) (x1 : Int32) : entryFrame mM #[.ref s', .int 0, .int 2] 6 = mkF mM 0 #[.val (.ref s'), .val (.int 0), .val (.int 2), .unset, .unset, .unset] [] := by first | (simp [entryFrame, mkF, argsToLocals, Value.category]; done) | rfl
theorem rmC3_2 (lL : Launch) (Z : State) (a0 : Array Value) (hw : own_tb a0 Z) (ws : List Jvm.Cond) (s' : Addr) (ks : ClassId) (x0 : Int32) (x1 : Int32) (h0 : Heap) (n0 : Nat) (Zn : n0 ≤ h0.size) (A_s' : Arv Z h0 s' ks .char 2 [.int x0, .int x1] (.int 0)) (cx0 : Ck x0) (cx1 : Ck x1) :
    own_Ct lL Z yn6 jdk_52_method_16_code 6 (some (.array .byte)) ws (⟨1, 1, 2, 18⟩ : Room) #[.ref s', .int 0, .int 2] h0 (QC3 Z 2 [(.int (((x0).toInt8.toInt32)).toInt8.toInt32), (.int (((x1).toInt8.toInt32)).toInt8.toInt32)] h0 n0) := by
  refine own_body (plainFor_of_name pn_java_2flang_2fStringUTF16) 1 2 rfl rfl (fun mM => ef_rmC3_2 mM s' ks x0 x1) fun pP eE sS mM below meth cC s₁ hZ hx hby hml hown hnm hret hlk X0 e0 => ?_
  have N0 := Fr.nil n0
  have Kp := Keep.refl h0 []
  refine o_iloadN 1 X0 hx (hb hby d5_0) rfl rfl ?_
  obtain ⟨T125, h125, k125, X125, e125, E125, A125, st125⟩ := newP X0 hx hZ (ow hw 24 rfl) e0 (g := (mkF mM 1 #[.val (.ref s'), .val (.int 0), .val (.int 2), .unset, .unset, .unset] [.int 2])) rfl (hb hby d5_1) rfl (by decide) (cap := 2) (by decide) (by decide) (by decide) (by decide)
  obtain ⟨b125, g125⟩ : ∃ z, z = h0.size := ⟨_, rfl⟩
  rw [← g125] at A125 st125
  have ne_s'_b125 : s' ≠ b125 := Nat.ne_of_lt (Nat.lt_of_lt_of_le A_s'.lt (Nat.le_of_eq g125.symm))
  have g_b125 : n0 ≤ b125 := Nat.le_trans Zn (Nat.le_of_eq g125.symm)
  have b_b125 : h0.size ≤ b125 := Nat.le_trans Kp.1 (Nat.le_of_eq g125.symm)
  have A_s' := A_s'.ext E125
  have Zn := Nat.le_trans Zn E125.1
  have Kp := Kp.ext E125
  have A_b125 : Arv Z h125 b125 k125 .byte 2 [.int 0, .int 0] (.int 0) := (Arv.new A125 (by decide)).pad (pad_rep [] (.int 0) 2)
  refine own_k T125 3 [.ref b125] st125 ?_
  let Lv126 : Array Slot := #[.val (.ref s'), .val (.int 0), .val (.int 2), .val (.ref b125), .unset, .unset]
  refine own_st (A := T125.setTop (mkF mM 4 Lv126 [])) (fun t_ k_ => XS.astoreN X125.here hx rfl (hb hby d5_3) rfl rfl (l' := Lv126) rfl k_) ?_
  refine o_aloadN 5 X125 hx (hb hby d5_4) rfl rfl rfl ?_
  refine o_iloadN 6 X125 hx (hb hby d5_5) rfl rfl ?_
  refine o_aloadN 7 X125 hx (hb hby d5_6) rfl rfl rfl ?_
  refine o_iconst 8 0 X125 hx (hb hby d5_7) rfl rfl ?_
  refine o_iloadN 9 X125 hx (hb hby d5_8) rfl rfl ?_
  obtain ⟨_, _, ⟨T127, L127, k127, n127⟩, -, X127, ⟨Lc127, hQ127, l127, y127, z127⟩, st127⟩ := Jvm.LawKit.callS X125 hx (y := yn5) hown (mvT hZ (ow hw 25 rfl)) (mvT hZ (ow hw 26 rfl)) (mvT hZ (ow hw 22 rfl)) (mvT hZ (ow hw 27 rfl)) (by decide) (backOf (W := 0) (rmC5_2 lL Z a0 hw [] s' ks b125 k125 x0 x1 h125 n0 A_s' A_b125 g_b125 ne_s'_b125 cx0 cx1) hZ (ow hw 27 rfl) (ow hw 22 rfl) (by decide) (by decide)) (g := (mkF mM 9 Lv126 [.int 2, .int 0, .ref b125, .int 0, .ref s'])) rfl (by rw [hml]; rfl) (argsL := [.ref s', .int 0, .ref b125, .int 0, .int 2]) (rest := []) (lenOf pd__28_5bCI_5bBII_29I rfl) rfl (by show 2 * 0 + _ ≤ _; exact Nat.le_of_eq rfl) (hb hby d5_9) (fun _ _ => ⟨rfl, e125, (by decide : 1 + 0 ≤ _), (by decide : 2 + 0 ≤ _)⟩)
  dsimp only [Pt.U, Pt.locs, Pt.cells, Pt.slots] at X127 l127 y127 z127 st127 hQ127
  subst l127 y127 z127
  obtain ⟨rfl, N127q, K127, V127⟩ := hQ127
  have N127 := Fr.app N0 N127q
  have e127 : T127.heap = T127.heap := rfl
  refine own_k T127 12 [.int 2] st127 ?_
  have A_s' := A_s'.keep K127 (ninS ne_s'_b125 nin0)
  have Zn := Nat.le_trans Zn K127.1
  have Kp := Kp.trans K127 (allS (Or.inr b_b125) all0)
  have A_b125 := V127
  let Lv128 : Array Slot := #[.val (.ref s'), .val (.int 0), .val (.int 2), .val (.ref b125), .val (.int 2), .unset]
  refine own_st (A := T127.setTop (mkF mM 14 Lv128 [])) (fun t_ k_ => XS.istore X127.here hx rfl (hb hby d5_12) rfl (l' := Lv128) rfl k_) ?_
  refine o_iload 16 X127 hx (hb hby d5_14) rfl rfl ?_
  refine o_iloadN 17 X127 hx (hb hby d5_16) rfl rfl ?_
  refine o_icmpYes 57 X127 hx (hb hby d5_17) (teq (by decide : ((2 : Int32) = (2 : Int32)))).1 (by decide) ?_
  refine o_aloadN 58 X127 hx (hb hby d5_57) rfl rfl rfl ?_
  exact own_retA X127 hx hlk hret rfl rfl (hb hby d5_58) (by rw [e127]; exact ⟨_, _, rfl, N127, own_ext_of_keep Kp, A_b125, b_b125⟩) (by decide) (by decide)
theorem d7_0 : decode jdk_52_method_15_code 0 = .ok (.iload_n 1, 1) := by decide +kernel
theorem d7_1 : decode jdk_52_method_15_code 1 = .ok (.aload_n 0, 1) := by decide +kernel
theorem d7_2 : decode jdk_52_method_15_code 2 = .ok (.arraylength, 1) := by decide +kernel
theorem d7_3 : decode jdk_52_method_15_code 3 = .ok (.isub, 1) := by decide +kernel
theorem d7_4 : decode jdk_52_method_15_code 4 = .ok (.bipush 31, 2) := by decide +kernel
theorem d7_6 : decode jdk_52_method_15_code 6 = .ok (.iushr, 1) := by decide +kernel
theorem d7_7 : decode jdk_52_method_15_code 7 = .ok (.i2b, 1) := by decide +kernel
theorem d7_8 : decode jdk_52_method_15_code 8 = .ok (.ireturn, 1) := by decide +kernel
theorem ef_rmCo_2 (mM : MethodId) (d : Addr) (kd : ClassId) (x0 : Int32) (x1 : Int32) : entryFrame mM #[.ref d, .int 2] 2 = mkF mM 0 #[.val (.ref d), .val (.int 2)] [] := by first | (simp [entryFrame, mkF, argsToLocals, Value.category]; done) | rfl
theorem rmCo_2 (lL : Launch) (Z : State) (a0 : Array Value) (hw : own_tb a0 Z) (ws : List Jvm.Cond) (d : Addr) (kd : ClassId) (x0 : Int32) (x1 : Int32) (h0 : Heap) (n0 : Nat) (A_d : Arv Z h0 d kd .byte 2 [(.int (((x0).toInt8.toInt32)).toInt8.toInt32), (.int (((x1).toInt8.toInt32)).toInt8.toInt32)] (.int 0)) :
    own_Ct lL Z yn7 jdk_52_method_15_code 2 (some .byte) ws (⟨0, 0, 0, 0⟩ : Room) #[.ref d, .int 2] h0 (Qw (.int 0) h0 n0) := by
  refine own_body (plainFor_of_name pn_java_2flang_2fStringUTF16) 0 0 rfl rfl (fun mM => ef_rmCo_2 mM d kd x0 x1) fun pP eE sS mM below meth cC s₁ hZ hx hby hml hown hnm hret hlk X0 e0 => ?_
  have N0 := Fr.nil n0
  refine o_iloadN 1 X0 hx (hb hby d7_0) rfl rfl ?_
  refine o_aloadN 2 X0 hx (hb hby d7_1) rfl rfl rfl ?_
  obtain ⟨cl129, Ar129, q129, S129, Nn129, H129, G129⟩ := id A_d
  refine own_j 3 [.int 2, .int 2] (fun t_ k_ => X0.arraylength hx (by rw [e0]; exact Ar129.1) (State.isArrayOf_alike hZ.alike Ar129.2.1) (g := (mkF mM 2 #[.val (.ref d), .val (.int 2)] [.ref d, .int 2])) rfl rfl (hb hby d7_2) t_ (by rw [len_of S129 Nn129]; exact k_)) ?_
  refine own_j 4 [.int 0] (fun t_ k_ => XS.isub X0.here hx rfl (hb hby d7_3) rfl k_) ?_
  refine o_bipush 6 31 X0 hx (hb hby d7_4) rfl rfl ?_
  refine own_j 7 [(.int (((0 : Int32).toUInt32 >>> ((31 : Int32) &&& 31).toUInt32).toInt32))] (fun t_ k_ => XS.iushr X0.here hx rfl (hb hby d7_6) rfl k_) ?_
  refine own_j 8 [(.int (((((0 : Int32).toUInt32 >>> ((31 : Int32) &&& 31).toUInt32).toInt32)).toInt8.toInt32))] (fun t_ k_ => XS.i2b X0.here hx rfl (hb hby d7_7) rfl k_) ?_
  exact own_retN X0 hx hlk (t := .byte) hret (by simp) (hb hby d7_8) (show Qw _ _ _ (some (.int 0)) _ _ from ⟨rfl, N0, e0⟩) (by decide) (by decide)
theorem d3_0 : decode jdk_42_method_149_code 0 = .ok (.aload_n 0, 1) := by decide +kernel
theorem d3_1 : decode jdk_42_method_149_code 1 = .ok (.invokespecial 1, 3) := by decide +kernel
theorem d3_4 : decode jdk_42_method_149_code 4 = .ok (.iload_n 3, 1) := by decide +kernel
theorem d3_5 : decode jdk_42_method_149_code 5 = .ok (.ifCond .ne 22, 3) := by decide +kernel
theorem d3_27 : decode jdk_42_method_149_code 27 = .ok (.getstatic 38, 3) := by decide +kernel
theorem d3_30 : decode jdk_42_method_149_code 30 = .ok (.ifCond .eq 28, 3) := by decide +kernel
theorem d3_33 : decode jdk_42_method_149_code 33 = .ok (.aload_n 1, 1) := by decide +kernel
theorem d3_34 : decode jdk_42_method_149_code 34 = .ok (.iload_n 2, 1) := by decide +kernel
theorem d3_35 : decode jdk_42_method_149_code 35 = .ok (.iload_n 3, 1) := by decide +kernel
theorem d3_36 : decode jdk_42_method_149_code 36 = .ok (.invokestatic 177, 3) := by decide +kernel
theorem pd__28_5bCII_29_5bB : parseMethodDescriptor "([CII)[B" = some ⟨[(.array .char), .int, .int], some (.array .byte)⟩ := by decide +kernel
theorem d3_39 : decode jdk_42_method_149_code 39 = .ok (.astore 5, 2) := by decide +kernel
theorem d3_41 : decode jdk_42_method_149_code 41 = .ok (.aload_n 0, 1) := by decide +kernel
theorem d3_42 : decode jdk_42_method_149_code 42 = .ok (.aload 5, 2) := by decide +kernel
theorem d3_44 : decode jdk_42_method_149_code 44 = .ok (.iload_n 3, 1) := by decide +kernel
theorem d3_45 : decode jdk_42_method_149_code 45 = .ok (.invokestatic 47, 3) := by decide +kernel
theorem pd__28_5bBI_29B : parseMethodDescriptor "([BI)B" = some ⟨[(.array .byte), .int], some .byte⟩ := by decide +kernel
theorem d3_48 : decode jdk_42_method_149_code 48 = .ok (.putfield 15, 3) := by decide +kernel
theorem d3_51 : decode jdk_42_method_149_code 51 = .ok (.aload_n 0, 1) := by decide +kernel
theorem d3_52 : decode jdk_42_method_149_code 52 = .ok (.aload 5, 2) := by decide +kernel
theorem d3_54 : decode jdk_42_method_149_code 54 = .ok (.putfield 9, 3) := by decide +kernel
theorem d3_57 : decode jdk_42_method_149_code 57 = .ok (.return_, 1) := by decide +kernel
theorem ef_rmS4_2 (mM : MethodId) (a : Addr) (s' : Addr) (ks : ClassId) (cs : Int32) (x0 : Int32) (x1 : Int32) : entryFrame mM #[.ref a, .ref s', .int 0, .int 2, .null] 6 = mkF mM 0 #[.val (.ref a), .val (.ref s'), .val (.int 0), .val (.int 2), .val .null, .unset] [] := by first | (simp [entryFrame, mkF, argsToLocals, Value.category]; done) | rfl
theorem rmS4_2 (lL : Launch) (Z : State) (a0 : Array Value) (hw : own_tb a0 Z) (ws : List Jvm.Cond) (a : Addr) (s' : Addr) (ks : ClassId) (cs : Int32) (x0 : Int32) (x1 : Int32) (h0 : Heap) (n0 : Nat) (g_a : n0 ≤ a) (E_a : Exa Z h0 a "java/lang/String") (F_a_value : Fld Z h0 a "java/lang/String" "value" "[B" .null) (F_a_coder : Fld Z h0 a "java/lang/String" "coder" "B" (.int 0)) (A_s' : Arv Z h0 s' ks .char 2 [.int x0, .int x1] (.int 0)) (nsa : s' ≠ a) (O : Old Z n0 h0) (Zn : n0 ≤ h0.size) (S_cs : Sta Z Z.heap "java/lang/String" "COMPACT_STRINGS" "Z" (.int cs)) (hcs : ¬ cs = (0 : Int32)) (cx0 : Ck x0) (cx1 : Ck x1) :
    own_Ct lL Z yn8 jdk_42_method_149_code 6 none ws (⟨2, 1, 2, 35⟩ : Room) #[.ref a, .ref s', .int 0, .int 2, .null] h0 (QS Z a 2 [(.int (((x0).toInt8.toInt32)).toInt8.toInt32), (.int (((x1).toInt8.toInt32)).toInt8.toInt32)] h0 n0) := by
  refine own_body (plainFor_of_name pn_java_2flang_2fString) 1 2 rfl rfl (fun mM => ef_rmS4_2 mM a s' ks cs x0 x1) fun pP eE sS mM below meth cC s₁ hZ hx hby hml hown hnm hret hlk X0 e0 => ?_
  have N0 := Fr.nil n0
  have Kp := Keep.refl h0 [a]
  refine o_aloadN 1 X0 hx (hb hby d3_0) rfl rfl rfl ?_
  obtain ⟨T130, X130, e130, st130⟩ := initO X0 hx hZ hown (ow hw 16 rfl) (ow hw 17 rfl) (ow hw 18 rfl) e0 (g := (mkF mM 1 #[.val (.ref a), .val (.ref s'), .val (.int 0), .val (.int 2), .val .null, .unset] [.ref a])) rfl (by rw [hml]; rfl) rfl (hb hby d3_1) (by decide) (W := 0) (by show 2 * 0 + _ ≤ _; exact Nat.le_of_eq rfl) (by decide)
  refine own_k T130 4 [] st130 ?_
  refine o_iloadN 5 X130 hx (hb hby d3_4) rfl rfl ?_
  refine o_ifYes 27 X130 hx (hb hby d3_5) ((if0 _ _).trans (feq (by decide : ¬ ((2 : Int32) = (0 : Int32)))).2) (by decide) ?_
  obtain ⟨T131, X131, e131, st131⟩ := getS2 X130 hx hZ hown (host := "") (Or.inl (ow hw 19 rfl)) Via.refl e130 (S_cs.ext O.2) (g := (mkF mM 27 #[.val (.ref a), .val (.ref s'), .val (.int 0), .val (.int 2), .val .null, .unset] [])) rfl (hb hby d3_27)
  refine own_k T131 30 [.int cs] st131 ?_
  refine o_ifNo 33 X131 hx (hb hby d3_30) ((if0 _ _).trans (feq hcs).1) rfl ?_
  refine o_aloadN 34 X131 hx (hb hby d3_33) rfl rfl rfl ?_
  refine o_iloadN 35 X131 hx (hb hby d3_34) rfl rfl ?_
  refine o_iloadN 36 X131 hx (hb hby d3_35) rfl rfl ?_
  obtain ⟨_, _, ⟨T132, L132, k132, n132⟩, -, X132, ⟨Lc132, hQ132, l132, y132, z132⟩, st132⟩ := Jvm.LawKit.callS X131 hx (y := yn6) hown (mvT hZ (ow hw 20 rfl)) (mvT hZ (ow hw 21 rfl)) (mvT hZ (ow hw 22 rfl)) (mvT hZ (ow hw 23 rfl)) (by decide) (backOf (W := 0) (rmC3_2 lL Z a0 hw [] s' ks x0 x1 h0 n0 Zn A_s' cx0 cx1) hZ (ow hw 23 rfl) (ow hw 22 rfl) (by decide) (by decide)) (g := (mkF mM 36 #[.val (.ref a), .val (.ref s'), .val (.int 0), .val (.int 2), .val .null, .unset] [.int 2, .int 0, .ref s'])) rfl (by rw [hml]; rfl) (argsL := [.ref s', .int 0, .int 2]) (rest := []) (lenOf pd__28_5bCII_29_5bB rfl) rfl (by show 2 * 0 + _ ≤ _; exact Nat.le_of_eq rfl) (hb hby d3_36) (fun _ _ => ⟨rfl, e131, (by decide : 0 + 1 ≤ _), (by decide : 0 + 2 ≤ _)⟩)
  dsimp only [Pt.U, Pt.locs, Pt.cells, Pt.slots] at X132 l132 y132 z132 st132 hQ132
  subst l132 y132 z132
  obtain ⟨b132, k132', rfl, N132q, E132, V132, ge132⟩ := hQ132
  have N132 := Fr.app N0 N132q
  have e132 : T132.heap = T132.heap := rfl
  refine own_k T132 39 [.ref b132] st132 ?_
  have ne_a_b132 : a ≠ b132 := Nat.ne_of_lt (Nat.lt_of_lt_of_le E_a.lt ge132)
  have b_b132 : h0.size ≤ b132 := Nat.le_trans Kp.1 ge132
  have F_a_value := F_a_value.ext E132
  have F_a_coder := F_a_coder.ext E132
  have E_a := E_a.ext E132
  have O := O.ext E132
  have A_s' := A_s'.ext E132
  have Zn := Nat.le_trans Zn E132.1
  have Kp := Kp.ext E132
  have A_b132 := V132
  let Lv133 : Array Slot := #[.val (.ref a), .val (.ref s'), .val (.int 0), .val (.int 2), .val .null, .val (.ref b132)]
  refine own_st (A := T132.setTop (mkF mM 41 Lv133 [])) (fun t_ k_ => XS.astore X132.here hx rfl (hb hby d3_39) rfl rfl (l' := Lv133) rfl k_) ?_
  refine o_aloadN 42 X132 hx (hb hby d3_41) rfl rfl rfl ?_
  refine o_aload 44 X132 hx (hb hby d3_42) rfl rfl rfl ?_
  refine o_iloadN 45 X132 hx (hb hby d3_44) rfl rfl ?_
  obtain ⟨_, _, ⟨T134, L134, k134, n134⟩, -, X134, ⟨Lc134, hQ134, l134, y134, z134⟩, st134⟩ := Jvm.LawKit.callS X132 hx (y := yn7) hown (mvT hZ (ow hw 28 rfl)) (mvT hZ (ow hw 29 rfl)) (mvT hZ (ow hw 22 rfl)) (mvT hZ (ow hw 30 rfl)) (by decide) (backOf (W := 1) (rmCo_2 lL Z a0 hw [] b132 k132' x0 x1 T132.heap n0 A_b132) hZ (ow hw 30 rfl) (ow hw 22 rfl) (by decide) (by decide)) (g := (mkF mM 45 Lv133 [.int 2, .ref b132, .ref a])) rfl (by rw [hml]; rfl) (argsL := [.ref b132, .int 2]) (rest := [.ref a]) (lenOf pd__28_5bBI_29B rfl) rfl (by show 2 * 0 + _ ≤ _; exact Nat.le_of_eq rfl) (hb hby d3_45) (fun _ _ => ⟨rfl, e132, (by decide : 1 + 0 ≤ _), (by decide : 2 + 0 ≤ _)⟩)
  dsimp only [Pt.U, Pt.locs, Pt.cells, Pt.slots] at X134 l134 y134 z134 st134 hQ134
  subst l134 y134 z134
  obtain ⟨rfl, N134q, e134⟩ := hQ134
  have N134 := Fr.app N132 N134q
  refine own_k T134 48 [.int 0, .ref a] st134 ?_
  obtain ⟨T135, h135, X135, e135, W135, st135⟩ := putFN X134 hx hZ hown (ow hw 31 rfl) Via.refl e134 F_a_coder E_a (Or.inr ⟨(ow hw 32 rfl), rfl, hnm⟩) (ow hw 2 rfl) (ty := .byte) (v' := (.int 0)) (by decide) rfl (by decide) (g := (mkF mM 48 Lv133 [.int 0, .ref a])) rfl rfl (hb hby d3_48)
  have N135 := Fr.snoc X135 N134 g_a
  have F_a_value := F_a_value.other W135 (Or.inr (slot_ne (Or.inr (ow hw 34 rfl)) (Or.inr (ow hw 32 rfl)) (by decide) (t := (.array .byte)) (t' := .byte) (by decide) (by decide)))
  have F_a_coder := F_a_coder.same W135
  have E_a := E_a.wr W135
  have A_s' := A_s'.other W135 nsa
  have A_b132 := A_b132.other W135 (Ne.symm ne_a_b132)
  have O := O.wr W135 g_a
  have Zn := Nat.le_trans Zn (Keep.of_wr W135).1
  have Kp := Kp.wr W135 (Or.inl (List.mem_of_getElem? (i := 0) rfl))
  refine own_k T135 51 [] st135 ?_
  refine o_aloadN 52 X135 hx (hb hby d3_51) rfl rfl rfl ?_
  refine o_aload 54 X135 hx (hb hby d3_52) rfl rfl rfl ?_
  obtain ⟨T136, h136, X136, e136, W136, st136⟩ := putF X135 hx hZ hown (host := "") (Or.inl (ow hw 33 rfl)) Via.refl e135 F_a_value E_a (Or.inr ⟨(ow hw 34 rfl), rfl, hnm⟩) (ow hw 2 rfl) (ty := (.array .byte)) (by decide) rfl rfl (g := (mkF mM 54 Lv133 [.ref b132, .ref a])) rfl rfl (hb hby d3_54)
  have N136 := Fr.snoc X136 N135 g_a
  have F_a_value := F_a_value.same W136
  have F_a_coder := F_a_coder.other W136 (Or.inr (slot_ne (Or.inr (ow hw 32 rfl)) (Or.inr (ow hw 34 rfl)) (by decide) (t := .byte) (t' := (.array .byte)) (by decide) (by decide)))
  have E_a := E_a.wr W136
  have A_s' := A_s'.other W136 nsa
  have A_b132 := A_b132.other W136 (Ne.symm ne_a_b132)
  have O := O.wr W136 g_a
  have Zn := Nat.le_trans Zn (Keep.of_wr W136).1
  have Kp := Kp.wr W136 (Or.inl (List.mem_of_getElem? (i := 0) rfl))
  refine own_k T136 57 [] st136 ?_
  exact own_retV X136 hx hlk hret (hb hby d3_57) (by rw [e136]; exact ⟨_, _, rfl, N136, Kp, ⟨E_a, F_a_value, F_a_coder, A_b132⟩, b_b132⟩) (by decide) (by decide)
theorem d2_0 : decode jdk_42_method_3_code 0 = .ok (.aload_n 0, 1) := by decide +kernel
theorem d2_1 : decode jdk_42_method_3_code 1 = .ok (.aload_n 1, 1) := by decide +kernel
theorem d2_2 : decode jdk_42_method_3_code 2 = .ok (.iconst 0, 1) := by decide +kernel
theorem d2_3 : decode jdk_42_method_3_code 3 = .ok (.aload_n 1, 1) := by decide +kernel
theorem d2_4 : decode jdk_42_method_3_code 4 = .ok (.arraylength, 1) := by decide +kernel
theorem d2_5 : decode jdk_42_method_3_code 5 = .ok (.aconst_null, 1) := by decide +kernel
theorem d2_6 : decode jdk_42_method_3_code 6 = .ok (.invokespecial 27, 3) := by decide +kernel
theorem pd__28_5bCIILjava_2flang_2fVoid_3b_29V : parseMethodDescriptor "([CIILjava/lang/Void;)V" = some ⟨[(.array .char), .int, .int, (.object "java/lang/Void")], none⟩ := by decide +kernel
theorem d2_9 : decode jdk_42_method_3_code 9 = .ok (.return_, 1) := by decide +kernel
theorem ef_rmS1_2 (mM : MethodId) (a : Addr) (s' : Addr) (ks : ClassId) (cs : Int32) (x0 : Int32) (x1 : Int32) : entryFrame mM #[.ref a, .ref s'] 2 = mkF mM 0 #[.val (.ref a), .val (.ref s')] [] := by first | (simp [entryFrame, mkF, argsToLocals, Value.category]; done) | rfl
theorem rmS1_2 (lL : Launch) (Z : State) (a0 : Array Value) (hw : own_tb a0 Z) (ws : List Jvm.Cond) (a : Addr) (s' : Addr) (ks : ClassId) (cs : Int32) (x0 : Int32) (x1 : Int32) (h0 : Heap) (n0 : Nat) (g_a : n0 ≤ a) (E_a : Exa Z h0 a "java/lang/String") (F_a_value : Fld Z h0 a "java/lang/String" "value" "[B" .null) (F_a_coder : Fld Z h0 a "java/lang/String" "coder" "B" (.int 0)) (A_s' : Arv Z h0 s' ks .char 2 [.int x0, .int x1] (.int 0)) (nsa : s' ≠ a) (O : Old Z n0 h0) (Zn : n0 ≤ h0.size) (S_cs : Sta Z Z.heap "java/lang/String" "COMPACT_STRINGS" "Z" (.int cs)) (hcs : ¬ cs = (0 : Int32)) (cx0 : Ck x0) (cx1 : Ck x1) :
    own_Ct lL Z yn9 jdk_42_method_3_code 2 none ws (⟨3, 1, 2, 52⟩ : Room) #[.ref a, .ref s'] h0 (QS Z a 2 [(.int (((x0).toInt8.toInt32)).toInt8.toInt32), (.int (((x1).toInt8.toInt32)).toInt8.toInt32)] h0 n0) := by
  refine own_body (plainFor_of_name pn_java_2flang_2fString) 1 2 rfl rfl (fun mM => ef_rmS1_2 mM a s' ks cs x0 x1) fun pP eE sS mM below meth cC s₁ hZ hx hby hml hown hnm hret hlk X0 e0 => ?_
  have N0 := Fr.nil n0
  refine o_aloadN 1 X0 hx (hb hby d2_0) rfl rfl rfl ?_
  refine o_aloadN 2 X0 hx (hb hby d2_1) rfl rfl rfl ?_
  refine o_iconst 3 0 X0 hx (hb hby d2_2) rfl rfl ?_
  refine o_aloadN 4 X0 hx (hb hby d2_3) rfl rfl rfl ?_
  obtain ⟨cl137, Ar137, q137, S137, Nn137, H137, G137⟩ := id A_s'
  refine own_j 5 [.int 2, .int 0, .ref s', .ref a] (fun t_ k_ => X0.arraylength hx (by rw [e0]; exact Ar137.1) (State.isArrayOf_alike hZ.alike Ar137.2.1) (g := (mkF mM 4 #[.val (.ref a), .val (.ref s')] [.ref s', .int 0, .ref s', .ref a])) rfl rfl (hb hby d2_4) t_ (by rw [len_of S137 Nn137]; exact k_)) ?_
  refine own_j 6 [.null, .int 2, .int 0, .ref s', .ref a] (fun t_ k_ => XS.aconstNull X0.here hx rfl (hb hby d2_5) k_) ?_
  obtain ⟨_, _, ⟨T138, L138, k138, n138⟩, -, X138, ⟨Lc138, hQ138, l138, y138, z138⟩, st138⟩ := X0.specialBack hx (y := yn8) rfl hown (mvT hZ (ow hw 12 rfl)) (mvT hZ (ow hw 13 rfl)) (mvT hZ (ow hw 15 rfl)) (by decide) (backOf (W := 0) (rmS4_2 lL Z a0 hw [] a s' ks cs x0 x1 h0 n0 g_a E_a F_a_value F_a_coder A_s' nsa O Zn S_cs hcs cx0 cx1) hZ (ow hw 15 rfl) (ow hw 3 rfl) (by decide) (by decide)) (g := (mkF mM 6 #[.val (.ref a), .val (.ref s')] [.null, .int 2, .int 0, .ref s', .ref a])) rfl (by rw [hml]; rfl) (Steps.refl _) (a := a) (argsL := [.ref s', .int 0, .int 2, .null]) (rest := []) (lenOf pd__28_5bCIILjava_2flang_2fVoid_3b_29V rfl) rfl (by show 2 * 0 + _ ≤ _; exact Nat.le_of_eq rfl) (hb hby d2_6) (fun _ _ => ⟨rfl, e0, (by decide : 0 + 1 ≤ _), (by decide : 0 + 2 ≤ _)⟩)
  dsimp only [Pt.U, Pt.locs, Pt.cells, Pt.slots] at X138 l138 y138 z138 st138 hQ138
  subst l138 y138 z138
  obtain ⟨d138, k138', rfl, N138q, R138⟩ := hQ138
  have N138 := Fr.app N0 N138q
  have e138 : T138.heap = T138.heap := rfl
  refine own_k T138 9 [] (fun t_ k_ => st138.trans k_) ?_
  exact own_retV X138 hx hlk hret (hb hby d2_9) ⟨_, _, rfl, N138, R138⟩ (by decide) (by decide)
theorem ef_rmC5_3 (mM : MethodId) (s' : Addr) (ks : ClassId) (d : Addr) (kd : ClassId) (x0 : Int32) (x1 : Int32) (x2 : Int32) : entryFrame mM #[.ref s', .int 0, .ref d, .int 0, .int 3] 7 = mkF mM 0 #[.val (.ref s'), .val (.int 0), .val (.ref d), .val (.int 0), .val (.int 3), .unset, .unset] [] := by first | (simp [entryFrame, mkF, argsToLocals, Value.category]; done) | rfl
theorem rmC5_3 (lL : Launch) (Z : State) (a0 : Array Value) (hw : own_tb a0 Z) (ws : List Jvm.Cond) (s' : Addr) (ks : ClassId) (d : Addr) (kd : ClassId) (x0 : Int32) (x1 : Int32) (x2 : Int32) (h0 : Heap) (n0 : Nat) (A_s' : Arv Z h0 s' ks .char 3 [.int x0, .int x1, .int x2] (.int 0)) (A_d : Arv Z h0 d kd .byte 3 [.int 0, .int 0, .int 0] (.int 0)) (g_d : n0 ≤ d) (nsd : s' ≠ d) (cx0 : Ck x0) (cx1 : Ck x1) (cx2 : Ck x2) :
    own_Ct lL Z yn5 jdk_52_method_21_code 7 (some .int) ws (⟨0, 0, 0, 0⟩ : Room) #[.ref s', .int 0, .ref d, .int 0, .int 3] h0 (QC5 Z d kd 3 [(.int (((x0).toInt8.toInt32)).toInt8.toInt32), (.int (((x1).toInt8.toInt32)).toInt8.toInt32), (.int (((x2).toInt8.toInt32)).toInt8.toInt32)] h0 n0) := by
  refine own_body (plainFor_of_name pn_java_2flang_2fStringUTF16) 0 0 rfl rfl (fun mM => ef_rmC5_3 mM s' ks d kd x0 x1 x2) fun pP eE sS mM below meth cC s₁ hZ hx hby hml hown hnm hret hlk X0 e0 => ?_
  have N0 := Fr.nil n0
  have Kp := Keep.refl h0 [d]
  refine o_iconst 1 0 X0 hx (hb hby d6_0) rfl rfl ?_
  let Lv139 : Array Slot := #[.val (.ref s'), .val (.int 0), .val (.ref d), .val (.int 0), .val (.int 3), .val (.int 0), .unset]
  refine own_st (A := s₁.setTop (mkF mM 3 Lv139 [])) (fun t_ k_ => XS.istore X0.here hx rfl (hb hby d6_1) rfl (l' := Lv139) rfl k_) ?_
  refine T5a hw X0 hx hZ hby hml hown hlk hret e0 N0 s' ks d kd 3 0 1 0 x0 _ _ _ A_s' A_d g_d nsd (by decide) (by decide) rfl rfl (Nat.le_of_ble_eq_true rfl) cx0 rfl (fun T140 L140 h140 X140 e140 N140 K140 A_s' A_d => ?_)
  have Kp := Kp.trans K140 (allS (Or.inl (List.mem_of_getElem? (i := 0) rfl)) all0)
  refine T5b hw X140 hx hZ hby hml hown hlk hret e140 N140 s' ks d kd 3 1 2 1 x1 x0 _ _ _ A_s' A_d g_d nsd (by decide) (by decide) rfl rfl (Nat.le_of_ble_eq_true rfl) cx1 rfl (fun T141 L141 h141 X141 e141 N141 K141 A_s' A_d => ?_)
  have Kp := Kp.trans K141 (allS (Or.inl (List.mem_of_getElem? (i := 0) rfl)) all0)
  refine T5b hw X141 hx hZ hby hml hown hlk hret e141 N141 s' ks d kd 3 2 3 2 x2 x1 _ _ _ A_s' A_d g_d nsd (by decide) (by decide) rfl rfl (Nat.le_of_ble_eq_true rfl) cx2 rfl (fun T142 L142 h142 X142 e142 N142 K142 A_s' A_d => ?_)
  have Kp := Kp.trans K142 (allS (Or.inl (List.mem_of_getElem? (i := 0) rfl)) all0)
  refine o_iload 5 X142 hx (hb hby d6_3) rfl rfl ?_
  refine o_iload 7 X142 hx (hb hby d6_5) rfl rfl ?_
  refine o_icmpYes 44 X142 hx (hb hby d6_7) (flt (by decide : ¬ ((3 : Int32) < (3 : Int32)))).2.1 (by decide) ?_
  refine o_iload 46 X142 hx (hb hby d6_44) rfl rfl ?_
  exact own_retI X142 hx hlk hret (hb hby d6_46) (by rw [e142]; exact ⟨rfl, N142, Kp, A_d⟩) (by decide) (by decide)
theorem ef_rmC3_3 (mM : MethodId) (s' : Addr) (ks : ClassId) (x0 : Int32) (x1 : Int32) (x2 : Int32) : entryFrame mM #[.ref s', .int 0, .int 3] 6 = mkF mM 0 #[.val (.ref s'), .val (.int 0), .val (.int 3), .unset, .unset, .unset] [] := by first | (simp [entryFrame, mkF, argsToLocals, Value.category]; done) | rfl
theorem rmC3_3 (lL : Launch) (Z : State) (a0 : Array Value) (hw : own_tb a0 Z) (ws : List Jvm.Cond) (s' : Addr) (ks : ClassId) (x0 : Int32) (x1 : Int32) (x2 : Int32) (h0 : Heap) (n0 : Nat) (Zn : n0 ≤ h0.size) (A_s' : Arv Z h0 s' ks .char 3 [.int x0, .int x1, .int x2] (.int 0)) (cx0 : Ck x0) (cx1 : Ck x1) (cx2 : Ck x2) :
    own_Ct lL Z yn6 jdk_52_method_16_code 6 (some (.array .byte)) ws (⟨1, 1, 3, 18⟩ : Room) #[.ref s', .int 0, .int 3] h0 (QC3 Z 3 [(.int (((x0).toInt8.toInt32)).toInt8.toInt32), (.int (((x1).toInt8.toInt32)).toInt8.toInt32), (.int (((x2).toInt8.toInt32)).toInt8.toInt32)] h0 n0) := by
  refine own_body (plainFor_of_name pn_java_2flang_2fStringUTF16) 1 3 rfl rfl (fun mM => ef_rmC3_3 mM s' ks x0 x1 x2) fun pP eE sS mM below meth cC s₁ hZ hx hby hml hown hnm hret hlk X0 e0 => ?_
  have N0 := Fr.nil n0
  have Kp := Keep.refl h0 []
  refine o_iloadN 1 X0 hx (hb hby d5_0) rfl rfl ?_
  obtain ⟨T143, h143, k143, X143, e143, E143, A143, st143⟩ := newP X0 hx hZ (ow hw 24 rfl) e0 (g := (mkF mM 1 #[.val (.ref s'), .val (.int 0), .val (.int 3), .unset, .unset, .unset] [.int 3])) rfl (hb hby d5_1) rfl (by decide) (cap := 3) (by decide) (by decide) (by decide) (by decide)
  obtain ⟨b143, g143⟩ : ∃ z, z = h0.size := ⟨_, rfl⟩
  rw [← g143] at A143 st143
  have ne_s'_b143 : s' ≠ b143 := Nat.ne_of_lt (Nat.lt_of_lt_of_le A_s'.lt (Nat.le_of_eq g143.symm))
  have g_b143 : n0 ≤ b143 := Nat.le_trans Zn (Nat.le_of_eq g143.symm)
  have b_b143 : h0.size ≤ b143 := Nat.le_trans Kp.1 (Nat.le_of_eq g143.symm)
  have A_s' := A_s'.ext E143
  have Zn := Nat.le_trans Zn E143.1
  have Kp := Kp.ext E143
  have A_b143 : Arv Z h143 b143 k143 .byte 3 [.int 0, .int 0, .int 0] (.int 0) := (Arv.new A143 (by decide)).pad (pad_rep [] (.int 0) 3)
  refine own_k T143 3 [.ref b143] st143 ?_
  let Lv144 : Array Slot := #[.val (.ref s'), .val (.int 0), .val (.int 3), .val (.ref b143), .unset, .unset]
  refine own_st (A := T143.setTop (mkF mM 4 Lv144 [])) (fun t_ k_ => XS.astoreN X143.here hx rfl (hb hby d5_3) rfl rfl (l' := Lv144) rfl k_) ?_
  refine o_aloadN 5 X143 hx (hb hby d5_4) rfl rfl rfl ?_
  refine o_iloadN 6 X143 hx (hb hby d5_5) rfl rfl ?_
  refine o_aloadN 7 X143 hx (hb hby d5_6) rfl rfl rfl ?_
  refine o_iconst 8 0 X143 hx (hb hby d5_7) rfl rfl ?_
  refine o_iloadN 9 X143 hx (hb hby d5_8) rfl rfl ?_
  obtain ⟨_, _, ⟨T145, L145, k145, n145⟩, -, X145, ⟨Lc145, hQ145, l145, y145, z145⟩, st145⟩ := Jvm.LawKit.callS X143 hx (y := yn5) hown (mvT hZ (ow hw 25 rfl)) (mvT hZ (ow hw 26 rfl)) (mvT hZ (ow hw 22 rfl)) (mvT hZ (ow hw 27 rfl)) (by decide) (backOf (W := 0) (rmC5_3 lL Z a0 hw [] s' ks b143 k143 x0 x1 x2 h143 n0 A_s' A_b143 g_b143 ne_s'_b143 cx0 cx1 cx2) hZ (ow hw 27 rfl) (ow hw 22 rfl) (by decide) (by decide)) (g := (mkF mM 9 Lv144 [.int 3, .int 0, .ref b143, .int 0, .ref s'])) rfl (by rw [hml]; rfl) (argsL := [.ref s', .int 0, .ref b143, .int 0, .int 3]) (rest := []) (lenOf pd__28_5bCI_5bBII_29I rfl) rfl (by show 2 * 0 + _ ≤ _; exact Nat.le_of_eq rfl) (hb hby d5_9) (fun _ _ => ⟨rfl, e143, (by decide : 1 + 0 ≤ _), (by decide : 3 + 0 ≤ _)⟩)
  dsimp only [Pt.U, Pt.locs, Pt.cells, Pt.slots] at X145 l145 y145 z145 st145 hQ145
  subst l145 y145 z145
  obtain ⟨rfl, N145q, K145, V145⟩ := hQ145
  have N145 := Fr.app N0 N145q
  have e145 : T145.heap = T145.heap := rfl
  refine own_k T145 12 [.int 3] st145 ?_
  have A_s' := A_s'.keep K145 (ninS ne_s'_b143 nin0)
  have Zn := Nat.le_trans Zn K145.1
  have Kp := Kp.trans K145 (allS (Or.inr b_b143) all0)
  have A_b143 := V145
  let Lv146 : Array Slot := #[.val (.ref s'), .val (.int 0), .val (.int 3), .val (.ref b143), .val (.int 3), .unset]
  refine own_st (A := T145.setTop (mkF mM 14 Lv146 [])) (fun t_ k_ => XS.istore X145.here hx rfl (hb hby d5_12) rfl (l' := Lv146) rfl k_) ?_
  refine o_iload 16 X145 hx (hb hby d5_14) rfl rfl ?_
  refine o_iloadN 17 X145 hx (hb hby d5_16) rfl rfl ?_
  refine o_icmpYes 57 X145 hx (hb hby d5_17) (teq (by decide : ((3 : Int32) = (3 : Int32)))).1 (by decide) ?_
  refine o_aloadN 58 X145 hx (hb hby d5_57) rfl rfl rfl ?_
  exact own_retA X145 hx hlk hret rfl rfl (hb hby d5_58) (by rw [e145]; exact ⟨_, _, rfl, N145, own_ext_of_keep Kp, A_b143, b_b143⟩) (by decide) (by decide)
theorem ef_rmCo_3 (mM : MethodId) (d : Addr) (kd : ClassId) (x0 : Int32) (x1 : Int32) (x2 : Int32) : entryFrame mM #[.ref d, .int 3] 2 = mkF mM 0 #[.val (.ref d), .val (.int 3)] [] := by first | (simp [entryFrame, mkF, argsToLocals, Value.category]; done) | rfl
theorem rmCo_3 (lL : Launch) (Z : State) (a0 : Array Value) (hw : own_tb a0 Z) (ws : List Jvm.Cond) (d : Addr) (kd : ClassId) (x0 : Int32) (x1 : Int32) (x2 : Int32) (h0 : Heap) (n0 : Nat) (A_d : Arv Z h0 d kd .byte 3 [(.int (((x0).toInt8.toInt32)).toInt8.toInt32), (.int (((x1).toInt8.toInt32)).toInt8.toInt32), (.int (((x2).toInt8.toInt32)).toInt8.toInt32)] (.int 0)) :
    own_Ct lL Z yn7 jdk_52_method_15_code 2 (some .byte) ws (⟨0, 0, 0, 0⟩ : Room) #[.ref d, .int 3] h0 (Qw (.int 0) h0 n0) := by
  refine own_body (plainFor_of_name pn_java_2flang_2fStringUTF16) 0 0 rfl rfl (fun mM => ef_rmCo_3 mM d kd x0 x1 x2) fun pP eE sS mM below meth cC s₁ hZ hx hby hml hown hnm hret hlk X0 e0 => ?_
  have N0 := Fr.nil n0
  refine o_iloadN 1 X0 hx (hb hby d7_0) rfl rfl ?_
  refine o_aloadN 2 X0 hx (hb hby d7_1) rfl rfl rfl ?_
  obtain ⟨cl147, Ar147, q147, S147, Nn147, H147, G147⟩ := id A_d
  refine own_j 3 [.int 3, .int 3] (fun t_ k_ => X0.arraylength hx (by rw [e0]; exact Ar147.1) (State.isArrayOf_alike hZ.alike Ar147.2.1) (g := (mkF mM 2 #[.val (.ref d), .val (.int 3)] [.ref d, .int 3])) rfl rfl (hb hby d7_2) t_ (by rw [len_of S147 Nn147]; exact k_)) ?_
  refine own_j 4 [.int 0] (fun t_ k_ => XS.isub X0.here hx rfl (hb hby d7_3) rfl k_) ?_
  refine o_bipush 6 31 X0 hx (hb hby d7_4) rfl rfl ?_
  refine own_j 7 [(.int (((0 : Int32).toUInt32 >>> ((31 : Int32) &&& 31).toUInt32).toInt32))] (fun t_ k_ => XS.iushr X0.here hx rfl (hb hby d7_6) rfl k_) ?_
  refine own_j 8 [(.int (((((0 : Int32).toUInt32 >>> ((31 : Int32) &&& 31).toUInt32).toInt32)).toInt8.toInt32))] (fun t_ k_ => XS.i2b X0.here hx rfl (hb hby d7_7) rfl k_) ?_
  exact own_retN X0 hx hlk (t := .byte) hret (by simp) (hb hby d7_8) (show Qw _ _ _ (some (.int 0)) _ _ from ⟨rfl, N0, e0⟩) (by decide) (by decide)
theorem ef_rmS4_3 (mM : MethodId) (a : Addr) (s' : Addr) (ks : ClassId) (cs : Int32) (x0 : Int32) (x1 : Int32) (x2 : Int32) : entryFrame mM #[.ref a, .ref s', .int 0, .int 3, .null] 6 = mkF mM 0 #[.val (.ref a), .val (.ref s'), .val (.int 0), .val (.int 3), .val .null, .unset] [] := by first | (simp [entryFrame, mkF, argsToLocals, Value.category]; done) | rfl
theorem rmS4_3 (lL : Launch) (Z : State) (a0 : Array Value) (hw : own_tb a0 Z) (ws : List Jvm.Cond) (a : Addr) (s' : Addr) (ks : ClassId) (cs : Int32) (x0 : Int32) (x1 : Int32) (x2 : Int32) (h0 : Heap) (n0 : Nat) (g_a : n0 ≤ a) (E_a : Exa Z h0 a "java/lang/String") (F_a_value : Fld Z h0 a "java/lang/String" "value" "[B" .null) (F_a_coder : Fld Z h0 a "java/lang/String" "coder" "B" (.int 0)) (A_s' : Arv Z h0 s' ks .char 3 [.int x0, .int x1, .int x2] (.int 0)) (nsa : s' ≠ a) (O : Old Z n0 h0) (Zn : n0 ≤ h0.size) (S_cs : Sta Z Z.heap "java/lang/String" "COMPACT_STRINGS" "Z" (.int cs)) (hcs : ¬ cs = (0 : Int32)) (cx0 : Ck x0) (cx1 : Ck x1) (cx2 : Ck x2) :
    own_Ct lL Z yn8 jdk_42_method_149_code 6 none ws (⟨2, 1, 3, 35⟩ : Room) #[.ref a, .ref s', .int 0, .int 3, .null] h0 (QS Z a 3 [(.int (((x0).toInt8.toInt32)).toInt8.toInt32), (.int (((x1).toInt8.toInt32)).toInt8.toInt32), (.int (((x2).toInt8.toInt32)).toInt8.toInt32)] h0 n0) := by
  refine own_body (plainFor_of_name pn_java_2flang_2fString) 1 3 rfl rfl (fun mM => ef_rmS4_3 mM a s' ks cs x0 x1 x2) fun pP eE sS mM below meth cC s₁ hZ hx hby hml hown hnm hret hlk X0 e0 => ?_
  have N0 := Fr.nil n0
  have Kp := Keep.refl h0 [a]
  refine o_aloadN 1 X0 hx (hb hby d3_0) rfl rfl rfl ?_
  obtain ⟨T148, X148, e148, st148⟩ := initO X0 hx hZ hown (ow hw 16 rfl) (ow hw 17 rfl) (ow hw 18 rfl) e0 (g := (mkF mM 1 #[.val (.ref a), .val (.ref s'), .val (.int 0), .val (.int 3), .val .null, .unset] [.ref a])) rfl (by rw [hml]; rfl) rfl (hb hby d3_1) (by decide) (W := 0) (by show 2 * 0 + _ ≤ _; exact Nat.le_of_eq rfl) (by decide)
  refine own_k T148 4 [] st148 ?_
  refine o_iloadN 5 X148 hx (hb hby d3_4) rfl rfl ?_
  refine o_ifYes 27 X148 hx (hb hby d3_5) ((if0 _ _).trans (feq (by decide : ¬ ((3 : Int32) = (0 : Int32)))).2) (by decide) ?_
  obtain ⟨T149, X149, e149, st149⟩ := getS2 X148 hx hZ hown (host := "") (Or.inl (ow hw 19 rfl)) Via.refl e148 (S_cs.ext O.2) (g := (mkF mM 27 #[.val (.ref a), .val (.ref s'), .val (.int 0), .val (.int 3), .val .null, .unset] [])) rfl (hb hby d3_27)
  refine own_k T149 30 [.int cs] st149 ?_
  refine o_ifNo 33 X149 hx (hb hby d3_30) ((if0 _ _).trans (feq hcs).1) rfl ?_
  refine o_aloadN 34 X149 hx (hb hby d3_33) rfl rfl rfl ?_
  refine o_iloadN 35 X149 hx (hb hby d3_34) rfl rfl ?_
  refine o_iloadN 36 X149 hx (hb hby d3_35) rfl rfl ?_
  obtain ⟨_, _, ⟨T150, L150, k150, n150⟩, -, X150, ⟨Lc150, hQ150, l150, y150, z150⟩, st150⟩ := Jvm.LawKit.callS X149 hx (y := yn6) hown (mvT hZ (ow hw 20 rfl)) (mvT hZ (ow hw 21 rfl)) (mvT hZ (ow hw 22 rfl)) (mvT hZ (ow hw 23 rfl)) (by decide) (backOf (W := 0) (rmC3_3 lL Z a0 hw [] s' ks x0 x1 x2 h0 n0 Zn A_s' cx0 cx1 cx2) hZ (ow hw 23 rfl) (ow hw 22 rfl) (by decide) (by decide)) (g := (mkF mM 36 #[.val (.ref a), .val (.ref s'), .val (.int 0), .val (.int 3), .val .null, .unset] [.int 3, .int 0, .ref s'])) rfl (by rw [hml]; rfl) (argsL := [.ref s', .int 0, .int 3]) (rest := []) (lenOf pd__28_5bCII_29_5bB rfl) rfl (by show 2 * 0 + _ ≤ _; exact Nat.le_of_eq rfl) (hb hby d3_36) (fun _ _ => ⟨rfl, e149, (by decide : 0 + 1 ≤ _), (by decide : 0 + 3 ≤ _)⟩)
  dsimp only [Pt.U, Pt.locs, Pt.cells, Pt.slots] at X150 l150 y150 z150 st150 hQ150
  subst l150 y150 z150
  obtain ⟨b150, k150', rfl, N150q, E150, V150, ge150⟩ := hQ150
  have N150 := Fr.app N0 N150q
  have e150 : T150.heap = T150.heap := rfl
  refine own_k T150 39 [.ref b150] st150 ?_
  have ne_a_b150 : a ≠ b150 := Nat.ne_of_lt (Nat.lt_of_lt_of_le E_a.lt ge150)
  have b_b150 : h0.size ≤ b150 := Nat.le_trans Kp.1 ge150
  have F_a_value := F_a_value.ext E150
  have F_a_coder := F_a_coder.ext E150
  have E_a := E_a.ext E150
  have O := O.ext E150
  have A_s' := A_s'.ext E150
  have Zn := Nat.le_trans Zn E150.1
  have Kp := Kp.ext E150
  have A_b150 := V150
  let Lv151 : Array Slot := #[.val (.ref a), .val (.ref s'), .val (.int 0), .val (.int 3), .val .null, .val (.ref b150)]
  refine own_st (A := T150.setTop (mkF mM 41 Lv151 [])) (fun t_ k_ => XS.astore X150.here hx rfl (hb hby d3_39) rfl rfl (l' := Lv151) rfl k_) ?_
  refine o_aloadN 42 X150 hx (hb hby d3_41) rfl rfl rfl ?_
  refine o_aload 44 X150 hx (hb hby d3_42) rfl rfl rfl ?_
  refine o_iloadN 45 X150 hx (hb hby d3_44) rfl rfl ?_
  obtain ⟨_, _, ⟨T152, L152, k152, n152⟩, -, X152, ⟨Lc152, hQ152, l152, y152, z152⟩, st152⟩ := Jvm.LawKit.callS X150 hx (y := yn7) hown (mvT hZ (ow hw 28 rfl)) (mvT hZ (ow hw 29 rfl)) (mvT hZ (ow hw 22 rfl)) (mvT hZ (ow hw 30 rfl)) (by decide) (backOf (W := 1) (rmCo_3 lL Z a0 hw [] b150 k150' x0 x1 x2 T150.heap n0 A_b150) hZ (ow hw 30 rfl) (ow hw 22 rfl) (by decide) (by decide)) (g := (mkF mM 45 Lv151 [.int 3, .ref b150, .ref a])) rfl (by rw [hml]; rfl) (argsL := [.ref b150, .int 3]) (rest := [.ref a]) (lenOf pd__28_5bBI_29B rfl) rfl (by show 2 * 0 + _ ≤ _; exact Nat.le_of_eq rfl) (hb hby d3_45) (fun _ _ => ⟨rfl, e150, (by decide : 1 + 0 ≤ _), (by decide : 3 + 0 ≤ _)⟩)
  dsimp only [Pt.U, Pt.locs, Pt.cells, Pt.slots] at X152 l152 y152 z152 st152 hQ152
  subst l152 y152 z152
  obtain ⟨rfl, N152q, e152⟩ := hQ152
  have N152 := Fr.app N150 N152q
  refine own_k T152 48 [.int 0, .ref a] st152 ?_
  obtain ⟨T153, h153, X153, e153, W153, st153⟩ := putFN X152 hx hZ hown (ow hw 31 rfl) Via.refl e152 F_a_coder E_a (Or.inr ⟨(ow hw 32 rfl), rfl, hnm⟩) (ow hw 2 rfl) (ty := .byte) (v' := (.int 0)) (by decide) rfl (by decide) (g := (mkF mM 48 Lv151 [.int 0, .ref a])) rfl rfl (hb hby d3_48)
  have N153 := Fr.snoc X153 N152 g_a
  have F_a_value := F_a_value.other W153 (Or.inr (slot_ne (Or.inr (ow hw 34 rfl)) (Or.inr (ow hw 32 rfl)) (by decide) (t := (.array .byte)) (t' := .byte) (by decide) (by decide)))
  have F_a_coder := F_a_coder.same W153
  have E_a := E_a.wr W153
  have A_s' := A_s'.other W153 nsa
  have A_b150 := A_b150.other W153 (Ne.symm ne_a_b150)
  have O := O.wr W153 g_a
  have Zn := Nat.le_trans Zn (Keep.of_wr W153).1
  have Kp := Kp.wr W153 (Or.inl (List.mem_of_getElem? (i := 0) rfl))
  refine own_k T153 51 [] st153 ?_
  refine o_aloadN 52 X153 hx (hb hby d3_51) rfl rfl rfl ?_
  refine o_aload 54 X153 hx (hb hby d3_52) rfl rfl rfl ?_
  obtain ⟨T154, h154, X154, e154, W154, st154⟩ := putF X153 hx hZ hown (host := "") (Or.inl (ow hw 33 rfl)) Via.refl e153 F_a_value E_a (Or.inr ⟨(ow hw 34 rfl), rfl, hnm⟩) (ow hw 2 rfl) (ty := (.array .byte)) (by decide) rfl rfl (g := (mkF mM 54 Lv151 [.ref b150, .ref a])) rfl rfl (hb hby d3_54)
  have N154 := Fr.snoc X154 N153 g_a
  have F_a_value := F_a_value.same W154
  have F_a_coder := F_a_coder.other W154 (Or.inr (slot_ne (Or.inr (ow hw 32 rfl)) (Or.inr (ow hw 34 rfl)) (by decide) (t := .byte) (t' := (.array .byte)) (by decide) (by decide)))
  have E_a := E_a.wr W154
  have A_s' := A_s'.other W154 nsa
  have A_b150 := A_b150.other W154 (Ne.symm ne_a_b150)
  have O := O.wr W154 g_a
  have Zn := Nat.le_trans Zn (Keep.of_wr W154).1
  have Kp := Kp.wr W154 (Or.inl (List.mem_of_getElem? (i := 0) rfl))
  refine own_k T154 57 [] st154 ?_
  exact own_retV X154 hx hlk hret (hb hby d3_57) (by rw [e154]; exact ⟨_, _, rfl, N154, Kp, ⟨E_a, F_a_value, F_a_coder, A_b150⟩, b_b150⟩) (by decide) (by decide)
theorem ef_rmS1_3 (mM : MethodId) (a : Addr) (s' : Addr) (ks : ClassId) (cs : Int32) (x0 : Int32) (x1 : Int32) (x2 : Int32) : entryFrame mM #[.ref a, .ref s'] 2 = mkF mM 0 #[.val (.ref a), .val (.ref s')] [] := by first | (simp [entryFrame, mkF, argsToLocals, Value.category]; done) | rfl
theorem rmS1_3 (lL : Launch) (Z : State) (a0 : Array Value) (hw : own_tb a0 Z) (ws : List Jvm.Cond) (a : Addr) (s' : Addr) (ks : ClassId) (cs : Int32) (x0 : Int32) (x1 : Int32) (x2 : Int32) (h0 : Heap) (n0 : Nat) (g_a : n0 ≤ a) (E_a : Exa Z h0 a "java/lang/String") (F_a_value : Fld Z h0 a "java/lang/String" "value" "[B" .null) (F_a_coder : Fld Z h0 a "java/lang/String" "coder" "B" (.int 0)) (A_s' : Arv Z h0 s' ks .char 3 [.int x0, .int x1, .int x2] (.int 0)) (nsa : s' ≠ a) (O : Old Z n0 h0) (Zn : n0 ≤ h0.size) (S_cs : Sta Z Z.heap "java/lang/String" "COMPACT_STRINGS" "Z" (.int cs)) (hcs : ¬ cs = (0 : Int32)) (cx0 : Ck x0) (cx1 : Ck x1) (cx2 : Ck x2) :
    own_Ct lL Z yn9 jdk_42_method_3_code 2 none ws (⟨3, 1, 3, 52⟩ : Room) #[.ref a, .ref s'] h0 (QS Z a 3 [(.int (((x0).toInt8.toInt32)).toInt8.toInt32), (.int (((x1).toInt8.toInt32)).toInt8.toInt32), (.int (((x2).toInt8.toInt32)).toInt8.toInt32)] h0 n0) := by
  refine own_body (plainFor_of_name pn_java_2flang_2fString) 1 3 rfl rfl (fun mM => ef_rmS1_3 mM a s' ks cs x0 x1 x2) fun pP eE sS mM below meth cC s₁ hZ hx hby hml hown hnm hret hlk X0 e0 => ?_
  have N0 := Fr.nil n0
  refine o_aloadN 1 X0 hx (hb hby d2_0) rfl rfl rfl ?_
  refine o_aloadN 2 X0 hx (hb hby d2_1) rfl rfl rfl ?_
  refine o_iconst 3 0 X0 hx (hb hby d2_2) rfl rfl ?_
  refine o_aloadN 4 X0 hx (hb hby d2_3) rfl rfl rfl ?_
  obtain ⟨cl155, Ar155, q155, S155, Nn155, H155, G155⟩ := id A_s'
  refine own_j 5 [.int 3, .int 0, .ref s', .ref a] (fun t_ k_ => X0.arraylength hx (by rw [e0]; exact Ar155.1) (State.isArrayOf_alike hZ.alike Ar155.2.1) (g := (mkF mM 4 #[.val (.ref a), .val (.ref s')] [.ref s', .int 0, .ref s', .ref a])) rfl rfl (hb hby d2_4) t_ (by rw [len_of S155 Nn155]; exact k_)) ?_
  refine own_j 6 [.null, .int 3, .int 0, .ref s', .ref a] (fun t_ k_ => XS.aconstNull X0.here hx rfl (hb hby d2_5) k_) ?_
  obtain ⟨_, _, ⟨T156, L156, k156, n156⟩, -, X156, ⟨Lc156, hQ156, l156, y156, z156⟩, st156⟩ := X0.specialBack hx (y := yn8) rfl hown (mvT hZ (ow hw 12 rfl)) (mvT hZ (ow hw 13 rfl)) (mvT hZ (ow hw 15 rfl)) (by decide) (backOf (W := 0) (rmS4_3 lL Z a0 hw [] a s' ks cs x0 x1 x2 h0 n0 g_a E_a F_a_value F_a_coder A_s' nsa O Zn S_cs hcs cx0 cx1 cx2) hZ (ow hw 15 rfl) (ow hw 3 rfl) (by decide) (by decide)) (g := (mkF mM 6 #[.val (.ref a), .val (.ref s')] [.null, .int 3, .int 0, .ref s', .ref a])) rfl (by rw [hml]; rfl) (Steps.refl _) (a := a) (argsL := [.ref s', .int 0, .int 3, .null]) (rest := []) (lenOf pd__28_5bCIILjava_2flang_2fVoid_3b_29V rfl) rfl (by show 2 * 0 + _ ≤ _; exact Nat.le_of_eq rfl) (hb hby d2_6) (fun _ _ => ⟨rfl, e0, (by decide : 0 + 1 ≤ _), (by decide : 0 + 3 ≤ _)⟩)
  dsimp only [Pt.U, Pt.locs, Pt.cells, Pt.slots] at X156 l156 y156 z156 st156 hQ156
  subst l156 y156 z156
  obtain ⟨d156, k156', rfl, N156q, R156⟩ := hQ156
  have N156 := Fr.app N0 N156q
  have e156 : T156.heap = T156.heap := rfl
  refine own_k T156 9 [] (fun t_ k_ => st156.trans k_) ?_
  exact own_retV X156 hx hlk hret (hb hby d2_9) ⟨_, _, rfl, N156, R156⟩ (by decide) (by decide)
theorem ef_rmC5_4 (mM : MethodId) (s' : Addr) (ks : ClassId) (d : Addr) (kd : ClassId) (x0 : Int32) (x1 : Int32) (x2 : Int32) (x3 : Int32) : entryFrame mM #[.ref s', .int 0, .ref d, .int 0, .int 4] 7 = mkF mM 0 #[.val (.ref s'), .val (.int 0), .val (.ref d), .val (.int 0), .val (.int 4), .unset, .unset] [] := by first | (simp [entryFrame, mkF, argsToLocals, Value.category]; done) | rfl
theorem rmC5_4 (lL : Launch) (Z : State) (a0 : Array Value) (hw : own_tb a0 Z) (ws : List Jvm.Cond) (s' : Addr) (ks : ClassId) (d : Addr) (kd : ClassId) (x0 : Int32) (x1 : Int32) (x2 : Int32) (x3 : Int32) (h0 : Heap) (n0 : Nat) (A_s' : Arv Z h0 s' ks .char 4 [.int x0, .int x1, .int x2, .int x3] (.int 0)) (A_d : Arv Z h0 d kd .byte 4 [.int 0, .int 0, .int 0, .int 0] (.int 0)) (g_d : n0 ≤ d) (nsd : s' ≠ d) (cx0 : Ck x0) (cx1 : Ck x1) (cx2 : Ck x2) (cx3 : Ck x3) :
    own_Ct lL Z yn5 jdk_52_method_21_code 7 (some .int) ws (⟨0, 0, 0, 0⟩ : Room) #[.ref s', .int 0, .ref d, .int 0, .int 4] h0 (QC5 Z d kd 4 [(.int (((x0).toInt8.toInt32)).toInt8.toInt32), (.int (((x1).toInt8.toInt32)).toInt8.toInt32), (.int (((x2).toInt8.toInt32)).toInt8.toInt32), (.int (((x3).toInt8.toInt32)).toInt8.toInt32)] h0 n0) := by
  refine own_body (plainFor_of_name pn_java_2flang_2fStringUTF16) 0 0 rfl rfl (fun mM => ef_rmC5_4 mM s' ks d kd x0 x1 x2 x3) fun pP eE sS mM below meth cC s₁ hZ hx hby hml hown hnm hret hlk X0 e0 => ?_
  have N0 := Fr.nil n0
  have Kp := Keep.refl h0 [d]
  refine o_iconst 1 0 X0 hx (hb hby d6_0) rfl rfl ?_
  let Lv157 : Array Slot := #[.val (.ref s'), .val (.int 0), .val (.ref d), .val (.int 0), .val (.int 4), .val (.int 0), .unset]
  refine own_st (A := s₁.setTop (mkF mM 3 Lv157 [])) (fun t_ k_ => XS.istore X0.here hx rfl (hb hby d6_1) rfl (l' := Lv157) rfl k_) ?_
  refine T5a hw X0 hx hZ hby hml hown hlk hret e0 N0 s' ks d kd 4 0 1 0 x0 _ _ _ A_s' A_d g_d nsd (by decide) (by decide) rfl rfl (Nat.le_of_ble_eq_true rfl) cx0 rfl (fun T158 L158 h158 X158 e158 N158 K158 A_s' A_d => ?_)
  have Kp := Kp.trans K158 (allS (Or.inl (List.mem_of_getElem? (i := 0) rfl)) all0)
  refine T5b hw X158 hx hZ hby hml hown hlk hret e158 N158 s' ks d kd 4 1 2 1 x1 x0 _ _ _ A_s' A_d g_d nsd (by decide) (by decide) rfl rfl (Nat.le_of_ble_eq_true rfl) cx1 rfl (fun T159 L159 h159 X159 e159 N159 K159 A_s' A_d => ?_)
  have Kp := Kp.trans K159 (allS (Or.inl (List.mem_of_getElem? (i := 0) rfl)) all0)
  refine T5b hw X159 hx hZ hby hml hown hlk hret e159 N159 s' ks d kd 4 2 3 2 x2 x1 _ _ _ A_s' A_d g_d nsd (by decide) (by decide) rfl rfl (Nat.le_of_ble_eq_true rfl) cx2 rfl (fun T160 L160 h160 X160 e160 N160 K160 A_s' A_d => ?_)
  have Kp := Kp.trans K160 (allS (Or.inl (List.mem_of_getElem? (i := 0) rfl)) all0)
  refine T5b hw X160 hx hZ hby hml hown hlk hret e160 N160 s' ks d kd 4 3 4 3 x3 x2 _ _ _ A_s' A_d g_d nsd (by decide) (by decide) rfl rfl (Nat.le_of_ble_eq_true rfl) cx3 rfl (fun T161 L161 h161 X161 e161 N161 K161 A_s' A_d => ?_)
  have Kp := Kp.trans K161 (allS (Or.inl (List.mem_of_getElem? (i := 0) rfl)) all0)
  refine o_iload 5 X161 hx (hb hby d6_3) rfl rfl ?_
  refine o_iload 7 X161 hx (hb hby d6_5) rfl rfl ?_
  refine o_icmpYes 44 X161 hx (hb hby d6_7) (flt (by decide : ¬ ((4 : Int32) < (4 : Int32)))).2.1 (by decide) ?_
  refine o_iload 46 X161 hx (hb hby d6_44) rfl rfl ?_
  exact own_retI X161 hx hlk hret (hb hby d6_46) (by rw [e161]; exact ⟨rfl, N161, Kp, A_d⟩) (by decide) (by decide)
theorem ef_rmC3_4 (mM : MethodId) (s' : Addr) (ks : ClassId) (x0 : Int32) (x1 : Int32) (x2 : Int32) (x3 : Int32) : entryFrame mM #[.ref s', .int 0, .int 4] 6 = mkF mM 0 #[.val (.ref s'), .val (.int 0), .val (.int 4), .unset, .unset, .unset] [] := by first | (simp [entryFrame, mkF, argsToLocals, Value.category]; done) | rfl
theorem rmC3_4 (lL : Launch) (Z : State) (a0 : Array Value) (hw : own_tb a0 Z) (ws : List Jvm.Cond) (s' : Addr) (ks : ClassId) (x0 : Int32) (x1 : Int32) (x2 : Int32) (x3 : Int32) (h0 : Heap) (n0 : Nat) (Zn : n0 ≤ h0.size) (A_s' : Arv Z h0 s' ks .char 4 [.int x0, .int x1, .int x2, .int x3] (.int 0)) (cx0 : Ck x0) (cx1 : Ck x1) (cx2 : Ck x2) (cx3 : Ck x3) :
    own_Ct lL Z yn6 jdk_52_method_16_code 6 (some (.array .byte)) ws (⟨1, 1, 4, 18⟩ : Room) #[.ref s', .int 0, .int 4] h0 (QC3 Z 4 [(.int (((x0).toInt8.toInt32)).toInt8.toInt32), (.int (((x1).toInt8.toInt32)).toInt8.toInt32), (.int (((x2).toInt8.toInt32)).toInt8.toInt32), (.int (((x3).toInt8.toInt32)).toInt8.toInt32)] h0 n0) := by
  refine own_body (plainFor_of_name pn_java_2flang_2fStringUTF16) 1 4 rfl rfl (fun mM => ef_rmC3_4 mM s' ks x0 x1 x2 x3) fun pP eE sS mM below meth cC s₁ hZ hx hby hml hown hnm hret hlk X0 e0 => ?_
  have N0 := Fr.nil n0
  have Kp := Keep.refl h0 []
  refine o_iloadN 1 X0 hx (hb hby d5_0) rfl rfl ?_
  obtain ⟨T162, h162, k162, X162, e162, E162, A162, st162⟩ := newP X0 hx hZ (ow hw 24 rfl) e0 (g := (mkF mM 1 #[.val (.ref s'), .val (.int 0), .val (.int 4), .unset, .unset, .unset] [.int 4])) rfl (hb hby d5_1) rfl (by decide) (cap := 4) (by decide) (by decide) (by decide) (by decide)
  obtain ⟨b162, g162⟩ : ∃ z, z = h0.size := ⟨_, rfl⟩
  rw [← g162] at A162 st162
  have ne_s'_b162 : s' ≠ b162 := Nat.ne_of_lt (Nat.lt_of_lt_of_le A_s'.lt (Nat.le_of_eq g162.symm))
  have g_b162 : n0 ≤ b162 := Nat.le_trans Zn (Nat.le_of_eq g162.symm)
  have b_b162 : h0.size ≤ b162 := Nat.le_trans Kp.1 (Nat.le_of_eq g162.symm)
  have A_s' := A_s'.ext E162
  have Zn := Nat.le_trans Zn E162.1
  have Kp := Kp.ext E162
  have A_b162 : Arv Z h162 b162 k162 .byte 4 [.int 0, .int 0, .int 0, .int 0] (.int 0) := (Arv.new A162 (by decide)).pad (pad_rep [] (.int 0) 4)
  refine own_k T162 3 [.ref b162] st162 ?_
  let Lv163 : Array Slot := #[.val (.ref s'), .val (.int 0), .val (.int 4), .val (.ref b162), .unset, .unset]
  refine own_st (A := T162.setTop (mkF mM 4 Lv163 [])) (fun t_ k_ => XS.astoreN X162.here hx rfl (hb hby d5_3) rfl rfl (l' := Lv163) rfl k_) ?_
  refine o_aloadN 5 X162 hx (hb hby d5_4) rfl rfl rfl ?_
  refine o_iloadN 6 X162 hx (hb hby d5_5) rfl rfl ?_
  refine o_aloadN 7 X162 hx (hb hby d5_6) rfl rfl rfl ?_
  refine o_iconst 8 0 X162 hx (hb hby d5_7) rfl rfl ?_
  refine o_iloadN 9 X162 hx (hb hby d5_8) rfl rfl ?_
  obtain ⟨_, _, ⟨T164, L164, k164, n164⟩, -, X164, ⟨Lc164, hQ164, l164, y164, z164⟩, st164⟩ := Jvm.LawKit.callS X162 hx (y := yn5) hown (mvT hZ (ow hw 25 rfl)) (mvT hZ (ow hw 26 rfl)) (mvT hZ (ow hw 22 rfl)) (mvT hZ (ow hw 27 rfl)) (by decide) (backOf (W := 0) (rmC5_4 lL Z a0 hw [] s' ks b162 k162 x0 x1 x2 x3 h162 n0 A_s' A_b162 g_b162 ne_s'_b162 cx0 cx1 cx2 cx3) hZ (ow hw 27 rfl) (ow hw 22 rfl) (by decide) (by decide)) (g := (mkF mM 9 Lv163 [.int 4, .int 0, .ref b162, .int 0, .ref s'])) rfl (by rw [hml]; rfl) (argsL := [.ref s', .int 0, .ref b162, .int 0, .int 4]) (rest := []) (lenOf pd__28_5bCI_5bBII_29I rfl) rfl (by show 2 * 0 + _ ≤ _; exact Nat.le_of_eq rfl) (hb hby d5_9) (fun _ _ => ⟨rfl, e162, (by decide : 1 + 0 ≤ _), (by decide : 4 + 0 ≤ _)⟩)
  dsimp only [Pt.U, Pt.locs, Pt.cells, Pt.slots] at X164 l164 y164 z164 st164 hQ164
  subst l164 y164 z164
  obtain ⟨rfl, N164q, K164, V164⟩ := hQ164
  have N164 := Fr.app N0 N164q
  have e164 : T164.heap = T164.heap := rfl
  refine own_k T164 12 [.int 4] st164 ?_
  have A_s' := A_s'.keep K164 (ninS ne_s'_b162 nin0)
  have Zn := Nat.le_trans Zn K164.1
  have Kp := Kp.trans K164 (allS (Or.inr b_b162) all0)
  have A_b162 := V164
  let Lv165 : Array Slot := #[.val (.ref s'), .val (.int 0), .val (.int 4), .val (.ref b162), .val (.int 4), .unset]
  refine own_st (A := T164.setTop (mkF mM 14 Lv165 [])) (fun t_ k_ => XS.istore X164.here hx rfl (hb hby d5_12) rfl (l' := Lv165) rfl k_) ?_
  refine o_iload 16 X164 hx (hb hby d5_14) rfl rfl ?_
  refine o_iloadN 17 X164 hx (hb hby d5_16) rfl rfl ?_
  refine o_icmpYes 57 X164 hx (hb hby d5_17) (teq (by decide : ((4 : Int32) = (4 : Int32)))).1 (by decide) ?_
  refine o_aloadN 58 X164 hx (hb hby d5_57) rfl rfl rfl ?_
  exact own_retA X164 hx hlk hret rfl rfl (hb hby d5_58) (by rw [e164]; exact ⟨_, _, rfl, N164, own_ext_of_keep Kp, A_b162, b_b162⟩) (by decide) (by decide)
theorem ef_rmCo_4 (mM : MethodId) (d : Addr) (kd : ClassId) (x0 : Int32) (x1 : Int32) (x2 : Int32) (x3 : Int32) : entryFrame mM #[.ref d, .int 4] 2 = mkF mM 0 #[.val (.ref d), .val (.int 4)] [] := by first | (simp [entryFrame, mkF, argsToLocals, Value.category]; done) | rfl
theorem rmCo_4 (lL : Launch) (Z : State) (a0 : Array Value) (hw : own_tb a0 Z) (ws : List Jvm.Cond) (d : Addr) (kd : ClassId) (x0 : Int32) (x1 : Int32) (x2 : Int32) (x3 : Int32) (h0 : Heap) (n0 : Nat) (A_d : Arv Z h0 d kd .byte 4 [(.int (((x0).toInt8.toInt32)).toInt8.toInt32), (.int (((x1).toInt8.toInt32)).toInt8.toInt32), (.int (((x2).toInt8.toInt32)).toInt8.toInt32), (.int (((x3).toInt8.toInt32)).toInt8.toInt32)] (.int 0)) :
    own_Ct lL Z yn7 jdk_52_method_15_code 2 (some .byte) ws (⟨0, 0, 0, 0⟩ : Room) #[.ref d, .int 4] h0 (Qw (.int 0) h0 n0) := by
  refine own_body (plainFor_of_name pn_java_2flang_2fStringUTF16) 0 0 rfl rfl (fun mM => ef_rmCo_4 mM d kd x0 x1 x2 x3) fun pP eE sS mM below meth cC s₁ hZ hx hby hml hown hnm hret hlk X0 e0 => ?_
  have N0 := Fr.nil n0
  refine o_iloadN 1 X0 hx (hb hby d7_0) rfl rfl ?_
  refine o_aloadN 2 X0 hx (hb hby d7_1) rfl rfl rfl ?_
  obtain ⟨cl166, Ar166, q166, S166, Nn166, H166, G166⟩ := id A_d
  refine own_j 3 [.int 4, .int 4] (fun t_ k_ => X0.arraylength hx (by rw [e0]; exact Ar166.1) (State.isArrayOf_alike hZ.alike Ar166.2.1) (g := (mkF mM 2 #[.val (.ref d), .val (.int 4)] [.ref d, .int 4])) rfl rfl (hb hby d7_2) t_ (by rw [len_of S166 Nn166]; exact k_)) ?_
  refine own_j 4 [.int 0] (fun t_ k_ => XS.isub X0.here hx rfl (hb hby d7_3) rfl k_) ?_
  refine o_bipush 6 31 X0 hx (hb hby d7_4) rfl rfl ?_
  refine own_j 7 [(.int (((0 : Int32).toUInt32 >>> ((31 : Int32) &&& 31).toUInt32).toInt32))] (fun t_ k_ => XS.iushr X0.here hx rfl (hb hby d7_6) rfl k_) ?_
  refine own_j 8 [(.int (((((0 : Int32).toUInt32 >>> ((31 : Int32) &&& 31).toUInt32).toInt32)).toInt8.toInt32))] (fun t_ k_ => XS.i2b X0.here hx rfl (hb hby d7_7) rfl k_) ?_
  exact own_retN X0 hx hlk (t := .byte) hret (by simp) (hb hby d7_8) (show Qw _ _ _ (some (.int 0)) _ _ from ⟨rfl, N0, e0⟩) (by decide) (by decide)
theorem ef_rmS4_4 (mM : MethodId) (a : Addr) (s' : Addr) (ks : ClassId) (cs : Int32) (x0 : Int32) (x1 : Int32) (x2 : Int32) (x3 : Int32) : entryFrame mM #[.ref a, .ref s', .int 0, .int 4, .null] 6 = mkF mM 0 #[.val (.ref a), .val (.ref s'), .val (.int 0), .val (.int 4), .val .null, .unset] [] := by first | (simp [entryFrame, mkF, argsToLocals, Value.category]; done) | rfl
theorem rmS4_4 (lL : Launch) (Z : State) (a0 : Array Value) (hw : own_tb a0 Z) (ws : List Jvm.Cond) (a : Addr) (s' : Addr) (ks : ClassId) (cs : Int32) (x0 : Int32) (x1 : Int32) (x2 : Int32) (x3 : Int32) (h0 : Heap) (n0 : Nat) (g_a : n0 ≤ a) (E_a : Exa Z h0 a "java/lang/String") (F_a_value : Fld Z h0 a "java/lang/String" "value" "[B" .null) (F_a_coder : Fld Z h0 a "java/lang/String" "coder" "B" (.int 0)) (A_s' : Arv Z h0 s' ks .char 4 [.int x0, .int x1, .int x2, .int x3] (.int 0)) (nsa : s' ≠ a) (O : Old Z n0 h0) (Zn : n0 ≤ h0.size) (S_cs : Sta Z Z.heap "java/lang/String" "COMPACT_STRINGS" "Z" (.int cs)) (hcs : ¬ cs = (0 : Int32)) (cx0 : Ck x0) (cx1 : Ck x1) (cx2 : Ck x2) (cx3 : Ck x3) :
    own_Ct lL Z yn8 jdk_42_method_149_code 6 none ws (⟨2, 1, 4, 35⟩ : Room) #[.ref a, .ref s', .int 0, .int 4, .null] h0 (QS Z a 4 [(.int (((x0).toInt8.toInt32)).toInt8.toInt32), (.int (((x1).toInt8.toInt32)).toInt8.toInt32), (.int (((x2).toInt8.toInt32)).toInt8.toInt32), (.int (((x3).toInt8.toInt32)).toInt8.toInt32)] h0 n0) := by
  refine own_body (plainFor_of_name pn_java_2flang_2fString) 1 4 rfl rfl (fun mM => ef_rmS4_4 mM a s' ks cs x0 x1 x2 x3) fun pP eE sS mM below meth cC s₁ hZ hx hby hml hown hnm hret hlk X0 e0 => ?_
  have N0 := Fr.nil n0
  have Kp := Keep.refl h0 [a]
  refine o_aloadN 1 X0 hx (hb hby d3_0) rfl rfl rfl ?_
  obtain ⟨T167, X167, e167, st167⟩ := initO X0 hx hZ hown (ow hw 16 rfl) (ow hw 17 rfl) (ow hw 18 rfl) e0 (g := (mkF mM 1 #[.val (.ref a), .val (.ref s'), .val (.int 0), .val (.int 4), .val .null, .unset] [.ref a])) rfl (by rw [hml]; rfl) rfl (hb hby d3_1) (by decide) (W := 0) (by show 2 * 0 + _ ≤ _; exact Nat.le_of_eq rfl) (by decide)
  refine own_k T167 4 [] st167 ?_
  refine o_iloadN 5 X167 hx (hb hby d3_4) rfl rfl ?_
  refine o_ifYes 27 X167 hx (hb hby d3_5) ((if0 _ _).trans (feq (by decide : ¬ ((4 : Int32) = (0 : Int32)))).2) (by decide) ?_
  obtain ⟨T168, X168, e168, st168⟩ := getS2 X167 hx hZ hown (host := "") (Or.inl (ow hw 19 rfl)) Via.refl e167 (S_cs.ext O.2) (g := (mkF mM 27 #[.val (.ref a), .val (.ref s'), .val (.int 0), .val (.int 4), .val .null, .unset] [])) rfl (hb hby d3_27)
  refine own_k T168 30 [.int cs] st168 ?_
  refine o_ifNo 33 X168 hx (hb hby d3_30) ((if0 _ _).trans (feq hcs).1) rfl ?_
  refine o_aloadN 34 X168 hx (hb hby d3_33) rfl rfl rfl ?_
  refine o_iloadN 35 X168 hx (hb hby d3_34) rfl rfl ?_
  refine o_iloadN 36 X168 hx (hb hby d3_35) rfl rfl ?_
  obtain ⟨_, _, ⟨T169, L169, k169, n169⟩, -, X169, ⟨Lc169, hQ169, l169, y169, z169⟩, st169⟩ := Jvm.LawKit.callS X168 hx (y := yn6) hown (mvT hZ (ow hw 20 rfl)) (mvT hZ (ow hw 21 rfl)) (mvT hZ (ow hw 22 rfl)) (mvT hZ (ow hw 23 rfl)) (by decide) (backOf (W := 0) (rmC3_4 lL Z a0 hw [] s' ks x0 x1 x2 x3 h0 n0 Zn A_s' cx0 cx1 cx2 cx3) hZ (ow hw 23 rfl) (ow hw 22 rfl) (by decide) (by decide)) (g := (mkF mM 36 #[.val (.ref a), .val (.ref s'), .val (.int 0), .val (.int 4), .val .null, .unset] [.int 4, .int 0, .ref s'])) rfl (by rw [hml]; rfl) (argsL := [.ref s', .int 0, .int 4]) (rest := []) (lenOf pd__28_5bCII_29_5bB rfl) rfl (by show 2 * 0 + _ ≤ _; exact Nat.le_of_eq rfl) (hb hby d3_36) (fun _ _ => ⟨rfl, e168, (by decide : 0 + 1 ≤ _), (by decide : 0 + 4 ≤ _)⟩)
  dsimp only [Pt.U, Pt.locs, Pt.cells, Pt.slots] at X169 l169 y169 z169 st169 hQ169
  subst l169 y169 z169
  obtain ⟨b169, k169', rfl, N169q, E169, V169, ge169⟩ := hQ169
  have N169 := Fr.app N0 N169q
  have e169 : T169.heap = T169.heap := rfl
  refine own_k T169 39 [.ref b169] st169 ?_
  have ne_a_b169 : a ≠ b169 := Nat.ne_of_lt (Nat.lt_of_lt_of_le E_a.lt ge169)
  have b_b169 : h0.size ≤ b169 := Nat.le_trans Kp.1 ge169
  have F_a_value := F_a_value.ext E169
  have F_a_coder := F_a_coder.ext E169
  have E_a := E_a.ext E169
  have O := O.ext E169
  have A_s' := A_s'.ext E169
  have Zn := Nat.le_trans Zn E169.1
  have Kp := Kp.ext E169
  have A_b169 := V169
  let Lv170 : Array Slot := #[.val (.ref a), .val (.ref s'), .val (.int 0), .val (.int 4), .val .null, .val (.ref b169)]
  refine own_st (A := T169.setTop (mkF mM 41 Lv170 [])) (fun t_ k_ => XS.astore X169.here hx rfl (hb hby d3_39) rfl rfl (l' := Lv170) rfl k_) ?_
  refine o_aloadN 42 X169 hx (hb hby d3_41) rfl rfl rfl ?_
  refine o_aload 44 X169 hx (hb hby d3_42) rfl rfl rfl ?_
  refine o_iloadN 45 X169 hx (hb hby d3_44) rfl rfl ?_
  obtain ⟨_, _, ⟨T171, L171, k171, n171⟩, -, X171, ⟨Lc171, hQ171, l171, y171, z171⟩, st171⟩ := Jvm.LawKit.callS X169 hx (y := yn7) hown (mvT hZ (ow hw 28 rfl)) (mvT hZ (ow hw 29 rfl)) (mvT hZ (ow hw 22 rfl)) (mvT hZ (ow hw 30 rfl)) (by decide) (backOf (W := 1) (rmCo_4 lL Z a0 hw [] b169 k169' x0 x1 x2 x3 T169.heap n0 A_b169) hZ (ow hw 30 rfl) (ow hw 22 rfl) (by decide) (by decide)) (g := (mkF mM 45 Lv170 [.int 4, .ref b169, .ref a])) rfl (by rw [hml]; rfl) (argsL := [.ref b169, .int 4]) (rest := [.ref a]) (lenOf pd__28_5bBI_29B rfl) rfl (by show 2 * 0 + _ ≤ _; exact Nat.le_of_eq rfl) (hb hby d3_45) (fun _ _ => ⟨rfl, e169, (by decide : 1 + 0 ≤ _), (by decide : 4 + 0 ≤ _)⟩)
  dsimp only [Pt.U, Pt.locs, Pt.cells, Pt.slots] at X171 l171 y171 z171 st171 hQ171
  subst l171 y171 z171
  obtain ⟨rfl, N171q, e171⟩ := hQ171
  have N171 := Fr.app N169 N171q
  refine own_k T171 48 [.int 0, .ref a] st171 ?_
  obtain ⟨T172, h172, X172, e172, W172, st172⟩ := putFN X171 hx hZ hown (ow hw 31 rfl) Via.refl e171 F_a_coder E_a (Or.inr ⟨(ow hw 32 rfl), rfl, hnm⟩) (ow hw 2 rfl) (ty := .byte) (v' := (.int 0)) (by decide) rfl (by decide) (g := (mkF mM 48 Lv170 [.int 0, .ref a])) rfl rfl (hb hby d3_48)
  have N172 := Fr.snoc X172 N171 g_a
  have F_a_value := F_a_value.other W172 (Or.inr (slot_ne (Or.inr (ow hw 34 rfl)) (Or.inr (ow hw 32 rfl)) (by decide) (t := (.array .byte)) (t' := .byte) (by decide) (by decide)))
  have F_a_coder := F_a_coder.same W172
  have E_a := E_a.wr W172
  have A_s' := A_s'.other W172 nsa
  have A_b169 := A_b169.other W172 (Ne.symm ne_a_b169)
  have O := O.wr W172 g_a
  have Zn := Nat.le_trans Zn (Keep.of_wr W172).1
  have Kp := Kp.wr W172 (Or.inl (List.mem_of_getElem? (i := 0) rfl))
  refine own_k T172 51 [] st172 ?_
  refine o_aloadN 52 X172 hx (hb hby d3_51) rfl rfl rfl ?_
  refine o_aload 54 X172 hx (hb hby d3_52) rfl rfl rfl ?_
  obtain ⟨T173, h173, X173, e173, W173, st173⟩ := putF X172 hx hZ hown (host := "") (Or.inl (ow hw 33 rfl)) Via.refl e172 F_a_value E_a (Or.inr ⟨(ow hw 34 rfl), rfl, hnm⟩) (ow hw 2 rfl) (ty := (.array .byte)) (by decide) rfl rfl (g := (mkF mM 54 Lv170 [.ref b169, .ref a])) rfl rfl (hb hby d3_54)
  have N173 := Fr.snoc X173 N172 g_a
  have F_a_value := F_a_value.same W173
  have F_a_coder := F_a_coder.other W173 (Or.inr (slot_ne (Or.inr (ow hw 32 rfl)) (Or.inr (ow hw 34 rfl)) (by decide) (t := .byte) (t' := (.array .byte)) (by decide) (by decide)))
  have E_a := E_a.wr W173
  have A_s' := A_s'.other W173 nsa
  have A_b169 := A_b169.other W173 (Ne.symm ne_a_b169)
  have O := O.wr W173 g_a
  have Zn := Nat.le_trans Zn (Keep.of_wr W173).1
  have Kp := Kp.wr W173 (Or.inl (List.mem_of_getElem? (i := 0) rfl))
  refine own_k T173 57 [] st173 ?_
  exact own_retV X173 hx hlk hret (hb hby d3_57) (by rw [e173]; exact ⟨_, _, rfl, N173, Kp, ⟨E_a, F_a_value, F_a_coder, A_b169⟩, b_b169⟩) (by decide) (by decide)
theorem ef_rmS1_4 (mM : MethodId) (a : Addr) (s' : Addr) (ks : ClassId) (cs : Int32) (x0 : Int32) (x1 : Int32) (x2 : Int32) (x3 : Int32) : entryFrame mM #[.ref a, .ref s'] 2 = mkF mM 0 #[.val (.ref a), .val (.ref s')] [] := by first | (simp [entryFrame, mkF, argsToLocals, Value.category]; done) | rfl
theorem rmS1_4 (lL : Launch) (Z : State) (a0 : Array Value) (hw : own_tb a0 Z) (ws : List Jvm.Cond) (a : Addr) (s' : Addr) (ks : ClassId) (cs : Int32) (x0 : Int32) (x1 : Int32) (x2 : Int32) (x3 : Int32) (h0 : Heap) (n0 : Nat) (g_a : n0 ≤ a) (E_a : Exa Z h0 a "java/lang/String") (F_a_value : Fld Z h0 a "java/lang/String" "value" "[B" .null) (F_a_coder : Fld Z h0 a "java/lang/String" "coder" "B" (.int 0)) (A_s' : Arv Z h0 s' ks .char 4 [.int x0, .int x1, .int x2, .int x3] (.int 0)) (nsa : s' ≠ a) (O : Old Z n0 h0) (Zn : n0 ≤ h0.size) (S_cs : Sta Z Z.heap "java/lang/String" "COMPACT_STRINGS" "Z" (.int cs)) (hcs : ¬ cs = (0 : Int32)) (cx0 : Ck x0) (cx1 : Ck x1) (cx2 : Ck x2) (cx3 : Ck x3) :
    own_Ct lL Z yn9 jdk_42_method_3_code 2 none ws (⟨3, 1, 4, 52⟩ : Room) #[.ref a, .ref s'] h0 (QS Z a 4 [(.int (((x0).toInt8.toInt32)).toInt8.toInt32), (.int (((x1).toInt8.toInt32)).toInt8.toInt32), (.int (((x2).toInt8.toInt32)).toInt8.toInt32), (.int (((x3).toInt8.toInt32)).toInt8.toInt32)] h0 n0) := by
  refine own_body (plainFor_of_name pn_java_2flang_2fString) 1 4 rfl rfl (fun mM => ef_rmS1_4 mM a s' ks cs x0 x1 x2 x3) fun pP eE sS mM below meth cC s₁ hZ hx hby hml hown hnm hret hlk X0 e0 => ?_
  have N0 := Fr.nil n0
  refine o_aloadN 1 X0 hx (hb hby d2_0) rfl rfl rfl ?_
  refine o_aloadN 2 X0 hx (hb hby d2_1) rfl rfl rfl ?_
  refine o_iconst 3 0 X0 hx (hb hby d2_2) rfl rfl ?_
  refine o_aloadN 4 X0 hx (hb hby d2_3) rfl rfl rfl ?_
  obtain ⟨cl174, Ar174, q174, S174, Nn174, H174, G174⟩ := id A_s'
  refine own_j 5 [.int 4, .int 0, .ref s', .ref a] (fun t_ k_ => X0.arraylength hx (by rw [e0]; exact Ar174.1) (State.isArrayOf_alike hZ.alike Ar174.2.1) (g := (mkF mM 4 #[.val (.ref a), .val (.ref s')] [.ref s', .int 0, .ref s', .ref a])) rfl rfl (hb hby d2_4) t_ (by rw [len_of S174 Nn174]; exact k_)) ?_
  refine own_j 6 [.null, .int 4, .int 0, .ref s', .ref a] (fun t_ k_ => XS.aconstNull X0.here hx rfl (hb hby d2_5) k_) ?_
  obtain ⟨_, _, ⟨T175, L175, k175, n175⟩, -, X175, ⟨Lc175, hQ175, l175, y175, z175⟩, st175⟩ := X0.specialBack hx (y := yn8) rfl hown (mvT hZ (ow hw 12 rfl)) (mvT hZ (ow hw 13 rfl)) (mvT hZ (ow hw 15 rfl)) (by decide) (backOf (W := 0) (rmS4_4 lL Z a0 hw [] a s' ks cs x0 x1 x2 x3 h0 n0 g_a E_a F_a_value F_a_coder A_s' nsa O Zn S_cs hcs cx0 cx1 cx2 cx3) hZ (ow hw 15 rfl) (ow hw 3 rfl) (by decide) (by decide)) (g := (mkF mM 6 #[.val (.ref a), .val (.ref s')] [.null, .int 4, .int 0, .ref s', .ref a])) rfl (by rw [hml]; rfl) (Steps.refl _) (a := a) (argsL := [.ref s', .int 0, .int 4, .null]) (rest := []) (lenOf pd__28_5bCIILjava_2flang_2fVoid_3b_29V rfl) rfl (by show 2 * 0 + _ ≤ _; exact Nat.le_of_eq rfl) (hb hby d2_6) (fun _ _ => ⟨rfl, e0, (by decide : 0 + 1 ≤ _), (by decide : 0 + 4 ≤ _)⟩)
  dsimp only [Pt.U, Pt.locs, Pt.cells, Pt.slots] at X175 l175 y175 z175 st175 hQ175
  subst l175 y175 z175
  obtain ⟨d175, k175', rfl, N175q, R175⟩ := hQ175
  have N175 := Fr.app N0 N175q
  have e175 : T175.heap = T175.heap := rfl
  refine own_k T175 9 [] (fun t_ k_ => st175.trans k_) ?_
  exact own_retV X175 hx hlk hret (hb hby d2_9) ⟨_, _, rfl, N175, R175⟩ (by decide) (by decide)
theorem ef_rmC5_5 (mM : MethodId) (s' : Addr) (ks : ClassId) (d : Addr) (kd : ClassId) (x0 : Int32) (x1 : Int32) (x2 : Int32) (x3 : Int32) (x4 : Int32) : entryFrame mM #[.ref s', .int 0, .ref d, .int 0, .int 5] 7 = mkF mM 0 #[.val (.ref s'), .val (.int 0), .val (.ref d), .val (.int 0), .val (.int 5), .unset, .unset] [] := by first | (simp [entryFrame, mkF, argsToLocals, Value.category]; done) | rfl
theorem rmC5_5 (lL : Launch) (Z : State) (a0 : Array Value) (hw : own_tb a0 Z) (ws : List Jvm.Cond) (s' : Addr) (ks : ClassId) (d : Addr) (kd : ClassId) (x0 : Int32) (x1 : Int32) (x2 : Int32) (x3 : Int32) (x4 : Int32) (h0 : Heap) (n0 : Nat) (A_s' : Arv Z h0 s' ks .char 5 [.int x0, .int x1, .int x2, .int x3, .int x4] (.int 0)) (A_d : Arv Z h0 d kd .byte 5 [.int 0, .int 0, .int 0, .int 0, .int 0] (.int 0)) (g_d : n0 ≤ d) (nsd : s' ≠ d) (cx0 : Ck x0) (cx1 : Ck x1) (cx2 : Ck x2) (cx3 : Ck x3) (cx4 : Ck x4) :
    own_Ct lL Z yn5 jdk_52_method_21_code 7 (some .int) ws (⟨0, 0, 0, 0⟩ : Room) #[.ref s', .int 0, .ref d, .int 0, .int 5] h0 (QC5 Z d kd 5 [(.int (((x0).toInt8.toInt32)).toInt8.toInt32), (.int (((x1).toInt8.toInt32)).toInt8.toInt32), (.int (((x2).toInt8.toInt32)).toInt8.toInt32), (.int (((x3).toInt8.toInt32)).toInt8.toInt32), (.int (((x4).toInt8.toInt32)).toInt8.toInt32)] h0 n0) := by
  refine own_body (plainFor_of_name pn_java_2flang_2fStringUTF16) 0 0 rfl rfl (fun mM => ef_rmC5_5 mM s' ks d kd x0 x1 x2 x3 x4) fun pP eE sS mM below meth cC s₁ hZ hx hby hml hown hnm hret hlk X0 e0 => ?_
  have N0 := Fr.nil n0
  have Kp := Keep.refl h0 [d]
  refine o_iconst 1 0 X0 hx (hb hby d6_0) rfl rfl ?_
  let Lv176 : Array Slot := #[.val (.ref s'), .val (.int 0), .val (.ref d), .val (.int 0), .val (.int 5), .val (.int 0), .unset]
  refine own_st (A := s₁.setTop (mkF mM 3 Lv176 [])) (fun t_ k_ => XS.istore X0.here hx rfl (hb hby d6_1) rfl (l' := Lv176) rfl k_) ?_
  refine T5a hw X0 hx hZ hby hml hown hlk hret e0 N0 s' ks d kd 5 0 1 0 x0 _ _ _ A_s' A_d g_d nsd (by decide) (by decide) rfl rfl (Nat.le_of_ble_eq_true rfl) cx0 rfl (fun T177 L177 h177 X177 e177 N177 K177 A_s' A_d => ?_)
  have Kp := Kp.trans K177 (allS (Or.inl (List.mem_of_getElem? (i := 0) rfl)) all0)
  refine T5b hw X177 hx hZ hby hml hown hlk hret e177 N177 s' ks d kd 5 1 2 1 x1 x0 _ _ _ A_s' A_d g_d nsd (by decide) (by decide) rfl rfl (Nat.le_of_ble_eq_true rfl) cx1 rfl (fun T178 L178 h178 X178 e178 N178 K178 A_s' A_d => ?_)
  have Kp := Kp.trans K178 (allS (Or.inl (List.mem_of_getElem? (i := 0) rfl)) all0)
  refine T5b hw X178 hx hZ hby hml hown hlk hret e178 N178 s' ks d kd 5 2 3 2 x2 x1 _ _ _ A_s' A_d g_d nsd (by decide) (by decide) rfl rfl (Nat.le_of_ble_eq_true rfl) cx2 rfl (fun T179 L179 h179 X179 e179 N179 K179 A_s' A_d => ?_)
  have Kp := Kp.trans K179 (allS (Or.inl (List.mem_of_getElem? (i := 0) rfl)) all0)
  refine T5b hw X179 hx hZ hby hml hown hlk hret e179 N179 s' ks d kd 5 3 4 3 x3 x2 _ _ _ A_s' A_d g_d nsd (by decide) (by decide) rfl rfl (Nat.le_of_ble_eq_true rfl) cx3 rfl (fun T180 L180 h180 X180 e180 N180 K180 A_s' A_d => ?_)
  have Kp := Kp.trans K180 (allS (Or.inl (List.mem_of_getElem? (i := 0) rfl)) all0)
  refine T5b hw X180 hx hZ hby hml hown hlk hret e180 N180 s' ks d kd 5 4 5 4 x4 x3 _ _ _ A_s' A_d g_d nsd (by decide) (by decide) rfl rfl (Nat.le_of_ble_eq_true rfl) cx4 rfl (fun T181 L181 h181 X181 e181 N181 K181 A_s' A_d => ?_)
  have Kp := Kp.trans K181 (allS (Or.inl (List.mem_of_getElem? (i := 0) rfl)) all0)
  refine o_iload 5 X181 hx (hb hby d6_3) rfl rfl ?_
  refine o_iload 7 X181 hx (hb hby d6_5) rfl rfl ?_
  refine o_icmpYes 44 X181 hx (hb hby d6_7) (flt (by decide : ¬ ((5 : Int32) < (5 : Int32)))).2.1 (by decide) ?_
  refine o_iload 46 X181 hx (hb hby d6_44) rfl rfl ?_
  exact own_retI X181 hx hlk hret (hb hby d6_46) (by rw [e181]; exact ⟨rfl, N181, Kp, A_d⟩) (by decide) (by decide)
theorem ef_rmC3_5 (mM : MethodId) (s' : Addr) (ks : ClassId) (x0 : Int32) (x1 : Int32) (x2 : Int32) (x3 : Int32) (x4 : Int32) : entryFrame mM #[.ref s', .int 0, .int 5] 6 = mkF mM 0 #[.val (.ref s'), .val (.int 0), .val (.int 5), .unset, .unset, .unset] [] := by first | (simp [entryFrame, mkF, argsToLocals, Value.category]; done) | rfl
theorem rmC3_5 (lL : Launch) (Z : State) (a0 : Array Value) (hw : own_tb a0 Z) (ws : List Jvm.Cond) (s' : Addr) (ks : ClassId) (x0 : Int32) (x1 : Int32) (x2 : Int32) (x3 : Int32) (x4 : Int32) (h0 : Heap) (n0 : Nat) (Zn : n0 ≤ h0.size) (A_s' : Arv Z h0 s' ks .char 5 [.int x0, .int x1, .int x2, .int x3, .int x4] (.int 0)) (cx0 : Ck x0) (cx1 : Ck x1) (cx2 : Ck x2) (cx3 : Ck x3) (cx4 : Ck x4) :
    own_Ct lL Z yn6 jdk_52_method_16_code 6 (some (.array .byte)) ws (⟨1, 1, 5, 18⟩ : Room) #[.ref s', .int 0, .int 5] h0 (QC3 Z 5 [(.int (((x0).toInt8.toInt32)).toInt8.toInt32), (.int (((x1).toInt8.toInt32)).toInt8.toInt32), (.int (((x2).toInt8.toInt32)).toInt8.toInt32), (.int (((x3).toInt8.toInt32)).toInt8.toInt32), (.int (((x4).toInt8.toInt32)).toInt8.toInt32)] h0 n0) := by
  refine own_body (plainFor_of_name pn_java_2flang_2fStringUTF16) 1 5 rfl rfl (fun mM => ef_rmC3_5 mM s' ks x0 x1 x2 x3 x4) fun pP eE sS mM below meth cC s₁ hZ hx hby hml hown hnm hret hlk X0 e0 => ?_
  have N0 := Fr.nil n0
  have Kp := Keep.refl h0 []
  refine o_iloadN 1 X0 hx (hb hby d5_0) rfl rfl ?_
  obtain ⟨T182, h182, k182, X182, e182, E182, A182, st182⟩ := newP X0 hx hZ (ow hw 24 rfl) e0 (g := (mkF mM 1 #[.val (.ref s'), .val (.int 0), .val (.int 5), .unset, .unset, .unset] [.int 5])) rfl (hb hby d5_1) rfl (by decide) (cap := 5) (by decide) (by decide) (by decide) (by decide)
  obtain ⟨b182, g182⟩ : ∃ z, z = h0.size := ⟨_, rfl⟩
  rw [← g182] at A182 st182
  have ne_s'_b182 : s' ≠ b182 := Nat.ne_of_lt (Nat.lt_of_lt_of_le A_s'.lt (Nat.le_of_eq g182.symm))
  have g_b182 : n0 ≤ b182 := Nat.le_trans Zn (Nat.le_of_eq g182.symm)
  have b_b182 : h0.size ≤ b182 := Nat.le_trans Kp.1 (Nat.le_of_eq g182.symm)
  have A_s' := A_s'.ext E182
  have Zn := Nat.le_trans Zn E182.1
  have Kp := Kp.ext E182
  have A_b182 : Arv Z h182 b182 k182 .byte 5 [.int 0, .int 0, .int 0, .int 0, .int 0] (.int 0) := (Arv.new A182 (by decide)).pad (pad_rep [] (.int 0) 5)
  refine own_k T182 3 [.ref b182] st182 ?_
  let Lv183 : Array Slot := #[.val (.ref s'), .val (.int 0), .val (.int 5), .val (.ref b182), .unset, .unset]
  refine own_st (A := T182.setTop (mkF mM 4 Lv183 [])) (fun t_ k_ => XS.astoreN X182.here hx rfl (hb hby d5_3) rfl rfl (l' := Lv183) rfl k_) ?_
  refine o_aloadN 5 X182 hx (hb hby d5_4) rfl rfl rfl ?_
  refine o_iloadN 6 X182 hx (hb hby d5_5) rfl rfl ?_
  refine o_aloadN 7 X182 hx (hb hby d5_6) rfl rfl rfl ?_
  refine o_iconst 8 0 X182 hx (hb hby d5_7) rfl rfl ?_
  refine o_iloadN 9 X182 hx (hb hby d5_8) rfl rfl ?_
  obtain ⟨_, _, ⟨T184, L184, k184, n184⟩, -, X184, ⟨Lc184, hQ184, l184, y184, z184⟩, st184⟩ := Jvm.LawKit.callS X182 hx (y := yn5) hown (mvT hZ (ow hw 25 rfl)) (mvT hZ (ow hw 26 rfl)) (mvT hZ (ow hw 22 rfl)) (mvT hZ (ow hw 27 rfl)) (by decide) (backOf (W := 0) (rmC5_5 lL Z a0 hw [] s' ks b182 k182 x0 x1 x2 x3 x4 h182 n0 A_s' A_b182 g_b182 ne_s'_b182 cx0 cx1 cx2 cx3 cx4) hZ (ow hw 27 rfl) (ow hw 22 rfl) (by decide) (by decide)) (g := (mkF mM 9 Lv183 [.int 5, .int 0, .ref b182, .int 0, .ref s'])) rfl (by rw [hml]; rfl) (argsL := [.ref s', .int 0, .ref b182, .int 0, .int 5]) (rest := []) (lenOf pd__28_5bCI_5bBII_29I rfl) rfl (by show 2 * 0 + _ ≤ _; exact Nat.le_of_eq rfl) (hb hby d5_9) (fun _ _ => ⟨rfl, e182, (by decide : 1 + 0 ≤ _), (by decide : 5 + 0 ≤ _)⟩)
  dsimp only [Pt.U, Pt.locs, Pt.cells, Pt.slots] at X184 l184 y184 z184 st184 hQ184
  subst l184 y184 z184
  obtain ⟨rfl, N184q, K184, V184⟩ := hQ184
  have N184 := Fr.app N0 N184q
  have e184 : T184.heap = T184.heap := rfl
  refine own_k T184 12 [.int 5] st184 ?_
  have A_s' := A_s'.keep K184 (ninS ne_s'_b182 nin0)
  have Zn := Nat.le_trans Zn K184.1
  have Kp := Kp.trans K184 (allS (Or.inr b_b182) all0)
  have A_b182 := V184
  let Lv185 : Array Slot := #[.val (.ref s'), .val (.int 0), .val (.int 5), .val (.ref b182), .val (.int 5), .unset]
  refine own_st (A := T184.setTop (mkF mM 14 Lv185 [])) (fun t_ k_ => XS.istore X184.here hx rfl (hb hby d5_12) rfl (l' := Lv185) rfl k_) ?_
  refine o_iload 16 X184 hx (hb hby d5_14) rfl rfl ?_
  refine o_iloadN 17 X184 hx (hb hby d5_16) rfl rfl ?_
  refine o_icmpYes 57 X184 hx (hb hby d5_17) (teq (by decide : ((5 : Int32) = (5 : Int32)))).1 (by decide) ?_
  refine o_aloadN 58 X184 hx (hb hby d5_57) rfl rfl rfl ?_
  exact own_retA X184 hx hlk hret rfl rfl (hb hby d5_58) (by rw [e184]; exact ⟨_, _, rfl, N184, own_ext_of_keep Kp, A_b182, b_b182⟩) (by decide) (by decide)
theorem ef_rmCo_5 (mM : MethodId) (d : Addr) (kd : ClassId) (x0 : Int32) (x1 : Int32) (x2 : Int32) (x3 : Int32) (x4 : Int32) : entryFrame mM #[.ref d, .int 5] 2 = mkF mM 0 #[.val (.ref d), .val (.int 5)] [] := by first | (simp [entryFrame, mkF, argsToLocals, Value.category]; done) | rfl
theorem rmCo_5 (lL : Launch) (Z : State) (a0 : Array Value) (hw : own_tb a0 Z) (ws : List Jvm.Cond) (d : Addr) (kd : ClassId) (x0 : Int32) (x1 : Int32) (x2 : Int32) (x3 : Int32) (x4 : Int32) (h0 : Heap) (n0 : Nat) (A_d : Arv Z h0 d kd .byte 5 [(.int (((x0).toInt8.toInt32)).toInt8.toInt32), (.int (((x1).toInt8.toInt32)).toInt8.toInt32), (.int (((x2).toInt8.toInt32)).toInt8.toInt32), (.int (((x3).toInt8.toInt32)).toInt8.toInt32), (.int (((x4).toInt8.toInt32)).toInt8.toInt32)] (.int 0)) :
    own_Ct lL Z yn7 jdk_52_method_15_code 2 (some .byte) ws (⟨0, 0, 0, 0⟩ : Room) #[.ref d, .int 5] h0 (Qw (.int 0) h0 n0) := by
  refine own_body (plainFor_of_name pn_java_2flang_2fStringUTF16) 0 0 rfl rfl (fun mM => ef_rmCo_5 mM d kd x0 x1 x2 x3 x4) fun pP eE sS mM below meth cC s₁ hZ hx hby hml hown hnm hret hlk X0 e0 => ?_
  have N0 := Fr.nil n0
  refine o_iloadN 1 X0 hx (hb hby d7_0) rfl rfl ?_
  refine o_aloadN 2 X0 hx (hb hby d7_1) rfl rfl rfl ?_
  obtain ⟨cl186, Ar186, q186, S186, Nn186, H186, G186⟩ := id A_d
  refine own_j 3 [.int 5, .int 5] (fun t_ k_ => X0.arraylength hx (by rw [e0]; exact Ar186.1) (State.isArrayOf_alike hZ.alike Ar186.2.1) (g := (mkF mM 2 #[.val (.ref d), .val (.int 5)] [.ref d, .int 5])) rfl rfl (hb hby d7_2) t_ (by rw [len_of S186 Nn186]; exact k_)) ?_
  refine own_j 4 [.int 0] (fun t_ k_ => XS.isub X0.here hx rfl (hb hby d7_3) rfl k_) ?_
  refine o_bipush 6 31 X0 hx (hb hby d7_4) rfl rfl ?_
  refine own_j 7 [(.int (((0 : Int32).toUInt32 >>> ((31 : Int32) &&& 31).toUInt32).toInt32))] (fun t_ k_ => XS.iushr X0.here hx rfl (hb hby d7_6) rfl k_) ?_
  refine own_j 8 [(.int (((((0 : Int32).toUInt32 >>> ((31 : Int32) &&& 31).toUInt32).toInt32)).toInt8.toInt32))] (fun t_ k_ => XS.i2b X0.here hx rfl (hb hby d7_7) rfl k_) ?_
  exact own_retN X0 hx hlk (t := .byte) hret (by simp) (hb hby d7_8) (show Qw _ _ _ (some (.int 0)) _ _ from ⟨rfl, N0, e0⟩) (by decide) (by decide)
theorem ef_rmS4_5 (mM : MethodId) (a : Addr) (s' : Addr) (ks : ClassId) (cs : Int32) (x0 : Int32) (x1 : Int32) (x2 : Int32) (x3 : Int32) (x4 : Int32) : entryFrame mM #[.ref a, .ref s', .int 0, .int 5, .null] 6 = mkF mM 0 #[.val (.ref a), .val (.ref s'), .val (.int 0), .val (.int 5), .val .null, .unset] [] := by first | (simp [entryFrame, mkF, argsToLocals, Value.category]; done) | rfl
theorem rmS4_5 (lL : Launch) (Z : State) (a0 : Array Value) (hw : own_tb a0 Z) (ws : List Jvm.Cond) (a : Addr) (s' : Addr) (ks : ClassId) (cs : Int32) (x0 : Int32) (x1 : Int32) (x2 : Int32) (x3 : Int32) (x4 : Int32) (h0 : Heap) (n0 : Nat) (g_a : n0 ≤ a) (E_a : Exa Z h0 a "java/lang/String") (F_a_value : Fld Z h0 a "java/lang/String" "value" "[B" .null) (F_a_coder : Fld Z h0 a "java/lang/String" "coder" "B" (.int 0)) (A_s' : Arv Z h0 s' ks .char 5 [.int x0, .int x1, .int x2, .int x3, .int x4] (.int 0)) (nsa : s' ≠ a) (O : Old Z n0 h0) (Zn : n0 ≤ h0.size) (S_cs : Sta Z Z.heap "java/lang/String" "COMPACT_STRINGS" "Z" (.int cs)) (hcs : ¬ cs = (0 : Int32)) (cx0 : Ck x0) (cx1 : Ck x1) (cx2 : Ck x2) (cx3 : Ck x3) (cx4 : Ck x4) :
    own_Ct lL Z yn8 jdk_42_method_149_code 6 none ws (⟨2, 1, 5, 35⟩ : Room) #[.ref a, .ref s', .int 0, .int 5, .null] h0 (QS Z a 5 [(.int (((x0).toInt8.toInt32)).toInt8.toInt32), (.int (((x1).toInt8.toInt32)).toInt8.toInt32), (.int (((x2).toInt8.toInt32)).toInt8.toInt32), (.int (((x3).toInt8.toInt32)).toInt8.toInt32), (.int (((x4).toInt8.toInt32)).toInt8.toInt32)] h0 n0) := by
  refine own_body (plainFor_of_name pn_java_2flang_2fString) 1 5 rfl rfl (fun mM => ef_rmS4_5 mM a s' ks cs x0 x1 x2 x3 x4) fun pP eE sS mM below meth cC s₁ hZ hx hby hml hown hnm hret hlk X0 e0 => ?_
  have N0 := Fr.nil n0
  have Kp := Keep.refl h0 [a]
  refine o_aloadN 1 X0 hx (hb hby d3_0) rfl rfl rfl ?_
  obtain ⟨T187, X187, e187, st187⟩ := initO X0 hx hZ hown (ow hw 16 rfl) (ow hw 17 rfl) (ow hw 18 rfl) e0 (g := (mkF mM 1 #[.val (.ref a), .val (.ref s'), .val (.int 0), .val (.int 5), .val .null, .unset] [.ref a])) rfl (by rw [hml]; rfl) rfl (hb hby d3_1) (by decide) (W := 0) (by show 2 * 0 + _ ≤ _; exact Nat.le_of_eq rfl) (by decide)
  refine own_k T187 4 [] st187 ?_
  refine o_iloadN 5 X187 hx (hb hby d3_4) rfl rfl ?_
  refine o_ifYes 27 X187 hx (hb hby d3_5) ((if0 _ _).trans (feq (by decide : ¬ ((5 : Int32) = (0 : Int32)))).2) (by decide) ?_
  obtain ⟨T188, X188, e188, st188⟩ := getS2 X187 hx hZ hown (host := "") (Or.inl (ow hw 19 rfl)) Via.refl e187 (S_cs.ext O.2) (g := (mkF mM 27 #[.val (.ref a), .val (.ref s'), .val (.int 0), .val (.int 5), .val .null, .unset] [])) rfl (hb hby d3_27)
  refine own_k T188 30 [.int cs] st188 ?_
  refine o_ifNo 33 X188 hx (hb hby d3_30) ((if0 _ _).trans (feq hcs).1) rfl ?_
  refine o_aloadN 34 X188 hx (hb hby d3_33) rfl rfl rfl ?_
  refine o_iloadN 35 X188 hx (hb hby d3_34) rfl rfl ?_
  refine o_iloadN 36 X188 hx (hb hby d3_35) rfl rfl ?_
  obtain ⟨_, _, ⟨T189, L189, k189, n189⟩, -, X189, ⟨Lc189, hQ189, l189, y189, z189⟩, st189⟩ := Jvm.LawKit.callS X188 hx (y := yn6) hown (mvT hZ (ow hw 20 rfl)) (mvT hZ (ow hw 21 rfl)) (mvT hZ (ow hw 22 rfl)) (mvT hZ (ow hw 23 rfl)) (by decide) (backOf (W := 0) (rmC3_5 lL Z a0 hw [] s' ks x0 x1 x2 x3 x4 h0 n0 Zn A_s' cx0 cx1 cx2 cx3 cx4) hZ (ow hw 23 rfl) (ow hw 22 rfl) (by decide) (by decide)) (g := (mkF mM 36 #[.val (.ref a), .val (.ref s'), .val (.int 0), .val (.int 5), .val .null, .unset] [.int 5, .int 0, .ref s'])) rfl (by rw [hml]; rfl) (argsL := [.ref s', .int 0, .int 5]) (rest := []) (lenOf pd__28_5bCII_29_5bB rfl) rfl (by show 2 * 0 + _ ≤ _; exact Nat.le_of_eq rfl) (hb hby d3_36) (fun _ _ => ⟨rfl, e188, (by decide : 0 + 1 ≤ _), (by decide : 0 + 5 ≤ _)⟩)
  dsimp only [Pt.U, Pt.locs, Pt.cells, Pt.slots] at X189 l189 y189 z189 st189 hQ189
  subst l189 y189 z189
  obtain ⟨b189, k189', rfl, N189q, E189, V189, ge189⟩ := hQ189
  have N189 := Fr.app N0 N189q
  have e189 : T189.heap = T189.heap := rfl
  refine own_k T189 39 [.ref b189] st189 ?_
  have ne_a_b189 : a ≠ b189 := Nat.ne_of_lt (Nat.lt_of_lt_of_le E_a.lt ge189)
  have b_b189 : h0.size ≤ b189 := Nat.le_trans Kp.1 ge189
  have F_a_value := F_a_value.ext E189
  have F_a_coder := F_a_coder.ext E189
  have E_a := E_a.ext E189
  have O := O.ext E189
  have A_s' := A_s'.ext E189
  have Zn := Nat.le_trans Zn E189.1
  have Kp := Kp.ext E189
  have A_b189 := V189
  let Lv190 : Array Slot := #[.val (.ref a), .val (.ref s'), .val (.int 0), .val (.int 5), .val .null, .val (.ref b189)]
  refine own_st (A := T189.setTop (mkF mM 41 Lv190 [])) (fun t_ k_ => XS.astore X189.here hx rfl (hb hby d3_39) rfl rfl (l' := Lv190) rfl k_) ?_
  refine o_aloadN 42 X189 hx (hb hby d3_41) rfl rfl rfl ?_
  refine o_aload 44 X189 hx (hb hby d3_42) rfl rfl rfl ?_
  refine o_iloadN 45 X189 hx (hb hby d3_44) rfl rfl ?_
  obtain ⟨_, _, ⟨T191, L191, k191, n191⟩, -, X191, ⟨Lc191, hQ191, l191, y191, z191⟩, st191⟩ := Jvm.LawKit.callS X189 hx (y := yn7) hown (mvT hZ (ow hw 28 rfl)) (mvT hZ (ow hw 29 rfl)) (mvT hZ (ow hw 22 rfl)) (mvT hZ (ow hw 30 rfl)) (by decide) (backOf (W := 1) (rmCo_5 lL Z a0 hw [] b189 k189' x0 x1 x2 x3 x4 T189.heap n0 A_b189) hZ (ow hw 30 rfl) (ow hw 22 rfl) (by decide) (by decide)) (g := (mkF mM 45 Lv190 [.int 5, .ref b189, .ref a])) rfl (by rw [hml]; rfl) (argsL := [.ref b189, .int 5]) (rest := [.ref a]) (lenOf pd__28_5bBI_29B rfl) rfl (by show 2 * 0 + _ ≤ _; exact Nat.le_of_eq rfl) (hb hby d3_45) (fun _ _ => ⟨rfl, e189, (by decide : 1 + 0 ≤ _), (by decide : 5 + 0 ≤ _)⟩)
  dsimp only [Pt.U, Pt.locs, Pt.cells, Pt.slots] at X191 l191 y191 z191 st191 hQ191
  subst l191 y191 z191
  obtain ⟨rfl, N191q, e191⟩ := hQ191
  have N191 := Fr.app N189 N191q
  refine own_k T191 48 [.int 0, .ref a] st191 ?_
  obtain ⟨T192, h192, X192, e192, W192, st192⟩ := putFN X191 hx hZ hown (ow hw 31 rfl) Via.refl e191 F_a_coder E_a (Or.inr ⟨(ow hw 32 rfl), rfl, hnm⟩) (ow hw 2 rfl) (ty := .byte) (v' := (.int 0)) (by decide) rfl (by decide) (g := (mkF mM 48 Lv190 [.int 0, .ref a])) rfl rfl (hb hby d3_48)
  have N192 := Fr.snoc X192 N191 g_a
  have F_a_value := F_a_value.other W192 (Or.inr (slot_ne (Or.inr (ow hw 34 rfl)) (Or.inr (ow hw 32 rfl)) (by decide) (t := (.array .byte)) (t' := .byte) (by decide) (by decide)))
  have F_a_coder := F_a_coder.same W192
  have E_a := E_a.wr W192
  have A_s' := A_s'.other W192 nsa
  have A_b189 := A_b189.other W192 (Ne.symm ne_a_b189)
  have O := O.wr W192 g_a
  have Zn := Nat.le_trans Zn (Keep.of_wr W192).1
  have Kp := Kp.wr W192 (Or.inl (List.mem_of_getElem? (i := 0) rfl))
  refine own_k T192 51 [] st192 ?_
  refine o_aloadN 52 X192 hx (hb hby d3_51) rfl rfl rfl ?_
  refine o_aload 54 X192 hx (hb hby d3_52) rfl rfl rfl ?_
  obtain ⟨T193, h193, X193, e193, W193, st193⟩ := putF X192 hx hZ hown (host := "") (Or.inl (ow hw 33 rfl)) Via.refl e192 F_a_value E_a (Or.inr ⟨(ow hw 34 rfl), rfl, hnm⟩) (ow hw 2 rfl) (ty := (.array .byte)) (by decide) rfl rfl (g := (mkF mM 54 Lv190 [.ref b189, .ref a])) rfl rfl (hb hby d3_54)
  have N193 := Fr.snoc X193 N192 g_a
  have F_a_value := F_a_value.same W193
  have F_a_coder := F_a_coder.other W193 (Or.inr (slot_ne (Or.inr (ow hw 32 rfl)) (Or.inr (ow hw 34 rfl)) (by decide) (t := .byte) (t' := (.array .byte)) (by decide) (by decide)))
  have E_a := E_a.wr W193
  have A_s' := A_s'.other W193 nsa
  have A_b189 := A_b189.other W193 (Ne.symm ne_a_b189)
  have O := O.wr W193 g_a
  have Zn := Nat.le_trans Zn (Keep.of_wr W193).1
  have Kp := Kp.wr W193 (Or.inl (List.mem_of_getElem? (i := 0) rfl))
  refine own_k T193 57 [] st193 ?_
  exact own_retV X193 hx hlk hret (hb hby d3_57) (by rw [e193]; exact ⟨_, _, rfl, N193, Kp, ⟨E_a, F_a_value, F_a_coder, A_b189⟩, b_b189⟩) (by decide) (by decide)
theorem ef_rmS1_5 (mM : MethodId) (a : Addr) (s' : Addr) (ks : ClassId) (cs : Int32) (x0 : Int32) (x1 : Int32) (x2 : Int32) (x3 : Int32) (x4 : Int32) : entryFrame mM #[.ref a, .ref s'] 2 = mkF mM 0 #[.val (.ref a), .val (.ref s')] [] := by first | (simp [entryFrame, mkF, argsToLocals, Value.category]; done) | rfl
theorem rmS1_5 (lL : Launch) (Z : State) (a0 : Array Value) (hw : own_tb a0 Z) (ws : List Jvm.Cond) (a : Addr) (s' : Addr) (ks : ClassId) (cs : Int32) (x0 : Int32) (x1 : Int32) (x2 : Int32) (x3 : Int32) (x4 : Int32) (h0 : Heap) (n0 : Nat) (g_a : n0 ≤ a) (E_a : Exa Z h0 a "java/lang/String") (F_a_value : Fld Z h0 a "java/lang/String" "value" "[B" .null) (F_a_coder : Fld Z h0 a "java/lang/String" "coder" "B" (.int 0)) (A_s' : Arv Z h0 s' ks .char 5 [.int x0, .int x1, .int x2, .int x3, .int x4] (.int 0)) (nsa : s' ≠ a) (O : Old Z n0 h0) (Zn : n0 ≤ h0.size) (S_cs : Sta Z Z.heap "java/lang/String" "COMPACT_STRINGS" "Z" (.int cs)) (hcs : ¬ cs = (0 : Int32)) (cx0 : Ck x0) (cx1 : Ck x1) (cx2 : Ck x2) (cx3 : Ck x3) (cx4 : Ck x4) :
    own_Ct lL Z yn9 jdk_42_method_3_code 2 none ws (⟨3, 1, 5, 52⟩ : Room) #[.ref a, .ref s'] h0 (QS Z a 5 [(.int (((x0).toInt8.toInt32)).toInt8.toInt32), (.int (((x1).toInt8.toInt32)).toInt8.toInt32), (.int (((x2).toInt8.toInt32)).toInt8.toInt32), (.int (((x3).toInt8.toInt32)).toInt8.toInt32), (.int (((x4).toInt8.toInt32)).toInt8.toInt32)] h0 n0) := by
  refine own_body (plainFor_of_name pn_java_2flang_2fString) 1 5 rfl rfl (fun mM => ef_rmS1_5 mM a s' ks cs x0 x1 x2 x3 x4) fun pP eE sS mM below meth cC s₁ hZ hx hby hml hown hnm hret hlk X0 e0 => ?_
  have N0 := Fr.nil n0
  refine o_aloadN 1 X0 hx (hb hby d2_0) rfl rfl rfl ?_
  refine o_aloadN 2 X0 hx (hb hby d2_1) rfl rfl rfl ?_
  refine o_iconst 3 0 X0 hx (hb hby d2_2) rfl rfl ?_
  refine o_aloadN 4 X0 hx (hb hby d2_3) rfl rfl rfl ?_
  obtain ⟨cl194, Ar194, q194, S194, Nn194, H194, G194⟩ := id A_s'
  refine own_j 5 [.int 5, .int 0, .ref s', .ref a] (fun t_ k_ => X0.arraylength hx (by rw [e0]; exact Ar194.1) (State.isArrayOf_alike hZ.alike Ar194.2.1) (g := (mkF mM 4 #[.val (.ref a), .val (.ref s')] [.ref s', .int 0, .ref s', .ref a])) rfl rfl (hb hby d2_4) t_ (by rw [len_of S194 Nn194]; exact k_)) ?_
  refine own_j 6 [.null, .int 5, .int 0, .ref s', .ref a] (fun t_ k_ => XS.aconstNull X0.here hx rfl (hb hby d2_5) k_) ?_
  obtain ⟨_, _, ⟨T195, L195, k195, n195⟩, -, X195, ⟨Lc195, hQ195, l195, y195, z195⟩, st195⟩ := X0.specialBack hx (y := yn8) rfl hown (mvT hZ (ow hw 12 rfl)) (mvT hZ (ow hw 13 rfl)) (mvT hZ (ow hw 15 rfl)) (by decide) (backOf (W := 0) (rmS4_5 lL Z a0 hw [] a s' ks cs x0 x1 x2 x3 x4 h0 n0 g_a E_a F_a_value F_a_coder A_s' nsa O Zn S_cs hcs cx0 cx1 cx2 cx3 cx4) hZ (ow hw 15 rfl) (ow hw 3 rfl) (by decide) (by decide)) (g := (mkF mM 6 #[.val (.ref a), .val (.ref s')] [.null, .int 5, .int 0, .ref s', .ref a])) rfl (by rw [hml]; rfl) (Steps.refl _) (a := a) (argsL := [.ref s', .int 0, .int 5, .null]) (rest := []) (lenOf pd__28_5bCIILjava_2flang_2fVoid_3b_29V rfl) rfl (by show 2 * 0 + _ ≤ _; exact Nat.le_of_eq rfl) (hb hby d2_6) (fun _ _ => ⟨rfl, e0, (by decide : 0 + 1 ≤ _), (by decide : 0 + 5 ≤ _)⟩)
  dsimp only [Pt.U, Pt.locs, Pt.cells, Pt.slots] at X195 l195 y195 z195 st195 hQ195
  subst l195 y195 z195
  obtain ⟨d195, k195', rfl, N195q, R195⟩ := hQ195
  have N195 := Fr.app N0 N195q
  have e195 : T195.heap = T195.heap := rfl
  refine own_k T195 9 [] (fun t_ k_ => st195.trans k_) ?_
  exact own_retV X195 hx hlk hret (hb hby d2_9) ⟨_, _, rfl, N195, R195⟩ (by decide) (by decide)
theorem ef_rmC5_6 (mM : MethodId) (s' : Addr) (ks : ClassId) (d : Addr) (kd : ClassId) (x0 : Int32) (x1 : Int32) (x2 : Int32) (x3 : Int32) (x4 : Int32) (x5 : Int32) : entryFrame mM #[.ref s', .int 0, .ref d, .int 0, .int 6] 7 = mkF mM 0 #[.val (.ref s'), .val (.int 0), .val (.ref d), .val (.int 0), .val (.int 6), .unset, .unset] [] := by first | (simp [entryFrame, mkF, argsToLocals, Value.category]; done) | rfl
theorem rmC5_6 (lL : Launch) (Z : State) (a0 : Array Value) (hw : own_tb a0 Z) (ws : List Jvm.Cond) (s' : Addr) (ks : ClassId) (d : Addr) (kd : ClassId) (x0 : Int32) (x1 : Int32) (x2 : Int32) (x3 : Int32) (x4 : Int32) (x5 : Int32) (h0 : Heap) (n0 : Nat) (A_s' : Arv Z h0 s' ks .char 6 [.int x0, .int x1, .int x2, .int x3, .int x4, .int x5] (.int 0)) (A_d : Arv Z h0 d kd .byte 6 [.int 0, .int 0, .int 0, .int 0, .int 0, .int 0] (.int 0)) (g_d : n0 ≤ d) (nsd : s' ≠ d) (cx0 : Ck x0) (cx1 : Ck x1) (cx2 : Ck x2) (cx3 : Ck x3) (cx4 : Ck x4) (cx5 : Ck x5) :
    own_Ct lL Z yn5 jdk_52_method_21_code 7 (some .int) ws (⟨0, 0, 0, 0⟩ : Room) #[.ref s', .int 0, .ref d, .int 0, .int 6] h0 (QC5 Z d kd 6 [(.int (((x0).toInt8.toInt32)).toInt8.toInt32), (.int (((x1).toInt8.toInt32)).toInt8.toInt32), (.int (((x2).toInt8.toInt32)).toInt8.toInt32), (.int (((x3).toInt8.toInt32)).toInt8.toInt32), (.int (((x4).toInt8.toInt32)).toInt8.toInt32), (.int (((x5).toInt8.toInt32)).toInt8.toInt32)] h0 n0) := by
  refine own_body (plainFor_of_name pn_java_2flang_2fStringUTF16) 0 0 rfl rfl (fun mM => ef_rmC5_6 mM s' ks d kd x0 x1 x2 x3 x4 x5) fun pP eE sS mM below meth cC s₁ hZ hx hby hml hown hnm hret hlk X0 e0 => ?_
  have N0 := Fr.nil n0
  have Kp := Keep.refl h0 [d]
  refine o_iconst 1 0 X0 hx (hb hby d6_0) rfl rfl ?_
  let Lv196 : Array Slot := #[.val (.ref s'), .val (.int 0), .val (.ref d), .val (.int 0), .val (.int 6), .val (.int 0), .unset]
  refine own_st (A := s₁.setTop (mkF mM 3 Lv196 [])) (fun t_ k_ => XS.istore X0.here hx rfl (hb hby d6_1) rfl (l' := Lv196) rfl k_) ?_
  refine T5a hw X0 hx hZ hby hml hown hlk hret e0 N0 s' ks d kd 6 0 1 0 x0 _ _ _ A_s' A_d g_d nsd (by decide) (by decide) rfl rfl (Nat.le_of_ble_eq_true rfl) cx0 rfl (fun T197 L197 h197 X197 e197 N197 K197 A_s' A_d => ?_)
  have Kp := Kp.trans K197 (allS (Or.inl (List.mem_of_getElem? (i := 0) rfl)) all0)
  refine T5b hw X197 hx hZ hby hml hown hlk hret e197 N197 s' ks d kd 6 1 2 1 x1 x0 _ _ _ A_s' A_d g_d nsd (by decide) (by decide) rfl rfl (Nat.le_of_ble_eq_true rfl) cx1 rfl (fun T198 L198 h198 X198 e198 N198 K198 A_s' A_d => ?_)
  have Kp := Kp.trans K198 (allS (Or.inl (List.mem_of_getElem? (i := 0) rfl)) all0)
  refine T5b hw X198 hx hZ hby hml hown hlk hret e198 N198 s' ks d kd 6 2 3 2 x2 x1 _ _ _ A_s' A_d g_d nsd (by decide) (by decide) rfl rfl (Nat.le_of_ble_eq_true rfl) cx2 rfl (fun T199 L199 h199 X199 e199 N199 K199 A_s' A_d => ?_)
  have Kp := Kp.trans K199 (allS (Or.inl (List.mem_of_getElem? (i := 0) rfl)) all0)
  refine T5b hw X199 hx hZ hby hml hown hlk hret e199 N199 s' ks d kd 6 3 4 3 x3 x2 _ _ _ A_s' A_d g_d nsd (by decide) (by decide) rfl rfl (Nat.le_of_ble_eq_true rfl) cx3 rfl (fun T200 L200 h200 X200 e200 N200 K200 A_s' A_d => ?_)
  have Kp := Kp.trans K200 (allS (Or.inl (List.mem_of_getElem? (i := 0) rfl)) all0)
  refine T5b hw X200 hx hZ hby hml hown hlk hret e200 N200 s' ks d kd 6 4 5 4 x4 x3 _ _ _ A_s' A_d g_d nsd (by decide) (by decide) rfl rfl (Nat.le_of_ble_eq_true rfl) cx4 rfl (fun T201 L201 h201 X201 e201 N201 K201 A_s' A_d => ?_)
  have Kp := Kp.trans K201 (allS (Or.inl (List.mem_of_getElem? (i := 0) rfl)) all0)
  refine T5b hw X201 hx hZ hby hml hown hlk hret e201 N201 s' ks d kd 6 5 6 5 x5 x4 _ _ _ A_s' A_d g_d nsd (by decide) (by decide) rfl rfl (Nat.le_of_ble_eq_true rfl) cx5 rfl (fun T202 L202 h202 X202 e202 N202 K202 A_s' A_d => ?_)
  have Kp := Kp.trans K202 (allS (Or.inl (List.mem_of_getElem? (i := 0) rfl)) all0)
  refine o_iload 5 X202 hx (hb hby d6_3) rfl rfl ?_
  refine o_iload 7 X202 hx (hb hby d6_5) rfl rfl ?_
  refine o_icmpYes 44 X202 hx (hb hby d6_7) (flt (by decide : ¬ ((6 : Int32) < (6 : Int32)))).2.1 (by decide) ?_
  refine o_iload 46 X202 hx (hb hby d6_44) rfl rfl ?_
  exact own_retI X202 hx hlk hret (hb hby d6_46) (by rw [e202]; exact ⟨rfl, N202, Kp, A_d⟩) (by decide) (by decide)
theorem ef_rmC3_6 (mM : MethodId) (s' : Addr) (ks : ClassId) (x0 : Int32) (x1 : Int32) (x2 : Int32) (x3 : Int32) (x4 : Int32) (x5 : Int32) : entryFrame mM #[.ref s', .int 0, .int 6] 6 = mkF mM 0 #[.val (.ref s'), .val (.int 0), .val (.int 6), .unset, .unset, .unset] [] := by first | (simp [entryFrame, mkF, argsToLocals, Value.category]; done) | rfl
theorem rmC3_6 (lL : Launch) (Z : State) (a0 : Array Value) (hw : own_tb a0 Z) (ws : List Jvm.Cond) (s' : Addr) (ks : ClassId) (x0 : Int32) (x1 : Int32) (x2 : Int32) (x3 : Int32) (x4 : Int32) (x5 : Int32) (h0 : Heap) (n0 : Nat) (Zn : n0 ≤ h0.size) (A_s' : Arv Z h0 s' ks .char 6 [.int x0, .int x1, .int x2, .int x3, .int x4, .int x5] (.int 0)) (cx0 : Ck x0) (cx1 : Ck x1) (cx2 : Ck x2) (cx3 : Ck x3) (cx4 : Ck x4) (cx5 : Ck x5) :
    own_Ct lL Z yn6 jdk_52_method_16_code 6 (some (.array .byte)) ws (⟨1, 1, 6, 18⟩ : Room) #[.ref s', .int 0, .int 6] h0 (QC3 Z 6 [(.int (((x0).toInt8.toInt32)).toInt8.toInt32), (.int (((x1).toInt8.toInt32)).toInt8.toInt32), (.int (((x2).toInt8.toInt32)).toInt8.toInt32), (.int (((x3).toInt8.toInt32)).toInt8.toInt32), (.int (((x4).toInt8.toInt32)).toInt8.toInt32), (.int (((x5).toInt8.toInt32)).toInt8.toInt32)] h0 n0) := by
  refine own_body (plainFor_of_name pn_java_2flang_2fStringUTF16) 1 6 rfl rfl (fun mM => ef_rmC3_6 mM s' ks x0 x1 x2 x3 x4 x5) fun pP eE sS mM below meth cC s₁ hZ hx hby hml hown hnm hret hlk X0 e0 => ?_
  have N0 := Fr.nil n0
  have Kp := Keep.refl h0 []
  refine o_iloadN 1 X0 hx (hb hby d5_0) rfl rfl ?_
  obtain ⟨T203, h203, k203, X203, e203, E203, A203, st203⟩ := newP X0 hx hZ (ow hw 24 rfl) e0 (g := (mkF mM 1 #[.val (.ref s'), .val (.int 0), .val (.int 6), .unset, .unset, .unset] [.int 6])) rfl (hb hby d5_1) rfl (by decide) (cap := 6) (by decide) (by decide) (by decide) (by decide)
  obtain ⟨b203, g203⟩ : ∃ z, z = h0.size := ⟨_, rfl⟩
  rw [← g203] at A203 st203
  have ne_s'_b203 : s' ≠ b203 := Nat.ne_of_lt (Nat.lt_of_lt_of_le A_s'.lt (Nat.le_of_eq g203.symm))
  have g_b203 : n0 ≤ b203 := Nat.le_trans Zn (Nat.le_of_eq g203.symm)
  have b_b203 : h0.size ≤ b203 := Nat.le_trans Kp.1 (Nat.le_of_eq g203.symm)
  have A_s' := A_s'.ext E203
  have Zn := Nat.le_trans Zn E203.1
  have Kp := Kp.ext E203
  have A_b203 : Arv Z h203 b203 k203 .byte 6 [.int 0, .int 0, .int 0, .int 0, .int 0, .int 0] (.int 0) := (Arv.new A203 (by decide)).pad (pad_rep [] (.int 0) 6)
  refine own_k T203 3 [.ref b203] st203 ?_
  let Lv204 : Array Slot := #[.val (.ref s'), .val (.int 0), .val (.int 6), .val (.ref b203), .unset, .unset]
  refine own_st (A := T203.setTop (mkF mM 4 Lv204 [])) (fun t_ k_ => XS.astoreN X203.here hx rfl (hb hby d5_3) rfl rfl (l' := Lv204) rfl k_) ?_
  refine o_aloadN 5 X203 hx (hb hby d5_4) rfl rfl rfl ?_
  refine o_iloadN 6 X203 hx (hb hby d5_5) rfl rfl ?_
  refine o_aloadN 7 X203 hx (hb hby d5_6) rfl rfl rfl ?_
  refine o_iconst 8 0 X203 hx (hb hby d5_7) rfl rfl ?_
  refine o_iloadN 9 X203 hx (hb hby d5_8) rfl rfl ?_
  obtain ⟨_, _, ⟨T205, L205, k205, n205⟩, -, X205, ⟨Lc205, hQ205, l205, y205, z205⟩, st205⟩ := Jvm.LawKit.callS X203 hx (y := yn5) hown (mvT hZ (ow hw 25 rfl)) (mvT hZ (ow hw 26 rfl)) (mvT hZ (ow hw 22 rfl)) (mvT hZ (ow hw 27 rfl)) (by decide) (backOf (W := 0) (rmC5_6 lL Z a0 hw [] s' ks b203 k203 x0 x1 x2 x3 x4 x5 h203 n0 A_s' A_b203 g_b203 ne_s'_b203 cx0 cx1 cx2 cx3 cx4 cx5) hZ (ow hw 27 rfl) (ow hw 22 rfl) (by decide) (by decide)) (g := (mkF mM 9 Lv204 [.int 6, .int 0, .ref b203, .int 0, .ref s'])) rfl (by rw [hml]; rfl) (argsL := [.ref s', .int 0, .ref b203, .int 0, .int 6]) (rest := []) (lenOf pd__28_5bCI_5bBII_29I rfl) rfl (by show 2 * 0 + _ ≤ _; exact Nat.le_of_eq rfl) (hb hby d5_9) (fun _ _ => ⟨rfl, e203, (by decide : 1 + 0 ≤ _), (by decide : 6 + 0 ≤ _)⟩)
  dsimp only [Pt.U, Pt.locs, Pt.cells, Pt.slots] at X205 l205 y205 z205 st205 hQ205
  subst l205 y205 z205
  obtain ⟨rfl, N205q, K205, V205⟩ := hQ205
  have N205 := Fr.app N0 N205q
  have e205 : T205.heap = T205.heap := rfl
  refine own_k T205 12 [.int 6] st205 ?_
  have A_s' := A_s'.keep K205 (ninS ne_s'_b203 nin0)
  have Zn := Nat.le_trans Zn K205.1
  have Kp := Kp.trans K205 (allS (Or.inr b_b203) all0)
  have A_b203 := V205
  let Lv206 : Array Slot := #[.val (.ref s'), .val (.int 0), .val (.int 6), .val (.ref b203), .val (.int 6), .unset]
  refine own_st (A := T205.setTop (mkF mM 14 Lv206 [])) (fun t_ k_ => XS.istore X205.here hx rfl (hb hby d5_12) rfl (l' := Lv206) rfl k_) ?_
  refine o_iload 16 X205 hx (hb hby d5_14) rfl rfl ?_
  refine o_iloadN 17 X205 hx (hb hby d5_16) rfl rfl ?_
  refine o_icmpYes 57 X205 hx (hb hby d5_17) (teq (by decide : ((6 : Int32) = (6 : Int32)))).1 (by decide) ?_
  refine o_aloadN 58 X205 hx (hb hby d5_57) rfl rfl rfl ?_
  exact own_retA X205 hx hlk hret rfl rfl (hb hby d5_58) (by rw [e205]; exact ⟨_, _, rfl, N205, own_ext_of_keep Kp, A_b203, b_b203⟩) (by decide) (by decide)
theorem ef_rmCo_6 (mM : MethodId) (d : Addr) (kd : ClassId) (x0 : Int32) (x1 : Int32) (x2 : Int32) (x3 : Int32) (x4 : Int32) (x5 : Int32) : entryFrame mM #[.ref d, .int 6] 2 = mkF mM 0 #[.val (.ref d), .val (.int 6)] [] := by first | (simp [entryFrame, mkF, argsToLocals, Value.category]; done) | rfl
theorem rmCo_6 (lL : Launch) (Z : State) (a0 : Array Value) (hw : own_tb a0 Z) (ws : List Jvm.Cond) (d : Addr) (kd : ClassId) (x0 : Int32) (x1 : Int32) (x2 : Int32) (x3 : Int32) (x4 : Int32) (x5 : Int32) (h0 : Heap) (n0 : Nat) (A_d : Arv Z h0 d kd .byte 6 [(.int (((x0).toInt8.toInt32)).toInt8.toInt32), (.int (((x1).toInt8.toInt32)).toInt8.toInt32), (.int (((x2).toInt8.toInt32)).toInt8.toInt32), (.int (((x3).toInt8.toInt32)).toInt8.toInt32), (.int (((x4).toInt8.toInt32)).toInt8.toInt32), (.int (((x5).toInt8.toInt32)).toInt8.toInt32)] (.int 0)) :
    own_Ct lL Z yn7 jdk_52_method_15_code 2 (some .byte) ws (⟨0, 0, 0, 0⟩ : Room) #[.ref d, .int 6] h0 (Qw (.int 0) h0 n0) := by
  refine own_body (plainFor_of_name pn_java_2flang_2fStringUTF16) 0 0 rfl rfl (fun mM => ef_rmCo_6 mM d kd x0 x1 x2 x3 x4 x5) fun pP eE sS mM below meth cC s₁ hZ hx hby hml hown hnm hret hlk X0 e0 => ?_
  have N0 := Fr.nil n0
  refine o_iloadN 1 X0 hx (hb hby d7_0) rfl rfl ?_
  refine o_aloadN 2 X0 hx (hb hby d7_1) rfl rfl rfl ?_
  obtain ⟨cl207, Ar207, q207, S207, Nn207, H207, G207⟩ := id A_d
  refine own_j 3 [.int 6, .int 6] (fun t_ k_ => X0.arraylength hx (by rw [e0]; exact Ar207.1) (State.isArrayOf_alike hZ.alike Ar207.2.1) (g := (mkF mM 2 #[.val (.ref d), .val (.int 6)] [.ref d, .int 6])) rfl rfl (hb hby d7_2) t_ (by rw [len_of S207 Nn207]; exact k_)) ?_
  refine own_j 4 [.int 0] (fun t_ k_ => XS.isub X0.here hx rfl (hb hby d7_3) rfl k_) ?_
  refine o_bipush 6 31 X0 hx (hb hby d7_4) rfl rfl ?_
  refine own_j 7 [(.int (((0 : Int32).toUInt32 >>> ((31 : Int32) &&& 31).toUInt32).toInt32))] (fun t_ k_ => XS.iushr X0.here hx rfl (hb hby d7_6) rfl k_) ?_
  refine own_j 8 [(.int (((((0 : Int32).toUInt32 >>> ((31 : Int32) &&& 31).toUInt32).toInt32)).toInt8.toInt32))] (fun t_ k_ => XS.i2b X0.here hx rfl (hb hby d7_7) rfl k_) ?_
  exact own_retN X0 hx hlk (t := .byte) hret (by simp) (hb hby d7_8) (show Qw _ _ _ (some (.int 0)) _ _ from ⟨rfl, N0, e0⟩) (by decide) (by decide)
theorem ef_rmS4_6 (mM : MethodId) (a : Addr) (s' : Addr) (ks : ClassId) (cs : Int32) (x0 : Int32) (x1 : Int32) (x2 : Int32) (x3 : Int32) (x4 : Int32) (x5 : Int32) : entryFrame mM #[.ref a, .ref s', .int 0, .int 6, .null] 6 = mkF mM 0 #[.val (.ref a), .val (.ref s'), .val (.int 0), .val (.int 6), .val .null, .unset] [] := by first | (simp [entryFrame, mkF, argsToLocals, Value.category]; done) | rfl
theorem rmS4_6 (lL : Launch) (Z : State) (a0 : Array Value) (hw : own_tb a0 Z) (ws : List Jvm.Cond) (a : Addr) (s' : Addr) (ks : ClassId) (cs : Int32) (x0 : Int32) (x1 : Int32) (x2 : Int32) (x3 : Int32) (x4 : Int32) (x5 : Int32) (h0 : Heap) (n0 : Nat) (g_a : n0 ≤ a) (E_a : Exa Z h0 a "java/lang/String") (F_a_value : Fld Z h0 a "java/lang/String" "value" "[B" .null) (F_a_coder : Fld Z h0 a "java/lang/String" "coder" "B" (.int 0)) (A_s' : Arv Z h0 s' ks .char 6 [.int x0, .int x1, .int x2, .int x3, .int x4, .int x5] (.int 0)) (nsa : s' ≠ a) (O : Old Z n0 h0) (Zn : n0 ≤ h0.size) (S_cs : Sta Z Z.heap "java/lang/String" "COMPACT_STRINGS" "Z" (.int cs)) (hcs : ¬ cs = (0 : Int32)) (cx0 : Ck x0) (cx1 : Ck x1) (cx2 : Ck x2) (cx3 : Ck x3) (cx4 : Ck x4) (cx5 : Ck x5) :
    own_Ct lL Z yn8 jdk_42_method_149_code 6 none ws (⟨2, 1, 6, 35⟩ : Room) #[.ref a, .ref s', .int 0, .int 6, .null] h0 (QS Z a 6 [(.int (((x0).toInt8.toInt32)).toInt8.toInt32), (.int (((x1).toInt8.toInt32)).toInt8.toInt32), (.int (((x2).toInt8.toInt32)).toInt8.toInt32), (.int (((x3).toInt8.toInt32)).toInt8.toInt32), (.int (((x4).toInt8.toInt32)).toInt8.toInt32), (.int (((x5).toInt8.toInt32)).toInt8.toInt32)] h0 n0) := by
  refine own_body (plainFor_of_name pn_java_2flang_2fString) 1 6 rfl rfl (fun mM => ef_rmS4_6 mM a s' ks cs x0 x1 x2 x3 x4 x5) fun pP eE sS mM below meth cC s₁ hZ hx hby hml hown hnm hret hlk X0 e0 => ?_
  have N0 := Fr.nil n0
  have Kp := Keep.refl h0 [a]
  refine o_aloadN 1 X0 hx (hb hby d3_0) rfl rfl rfl ?_
  obtain ⟨T208, X208, e208, st208⟩ := initO X0 hx hZ hown (ow hw 16 rfl) (ow hw 17 rfl) (ow hw 18 rfl) e0 (g := (mkF mM 1 #[.val (.ref a), .val (.ref s'), .val (.int 0), .val (.int 6), .val .null, .unset] [.ref a])) rfl (by rw [hml]; rfl) rfl (hb hby d3_1) (by decide) (W := 0) (by show 2 * 0 + _ ≤ _; exact Nat.le_of_eq rfl) (by decide)
  refine own_k T208 4 [] st208 ?_
  refine o_iloadN 5 X208 hx (hb hby d3_4) rfl rfl ?_
  refine o_ifYes 27 X208 hx (hb hby d3_5) ((if0 _ _).trans (feq (by decide : ¬ ((6 : Int32) = (0 : Int32)))).2) (by decide) ?_
  obtain ⟨T209, X209, e209, st209⟩ := getS2 X208 hx hZ hown (host := "") (Or.inl (ow hw 19 rfl)) Via.refl e208 (S_cs.ext O.2) (g := (mkF mM 27 #[.val (.ref a), .val (.ref s'), .val (.int 0), .val (.int 6), .val .null, .unset] [])) rfl (hb hby d3_27)
  refine own_k T209 30 [.int cs] st209 ?_
  refine o_ifNo 33 X209 hx (hb hby d3_30) ((if0 _ _).trans (feq hcs).1) rfl ?_
  refine o_aloadN 34 X209 hx (hb hby d3_33) rfl rfl rfl ?_
  refine o_iloadN 35 X209 hx (hb hby d3_34) rfl rfl ?_
  refine o_iloadN 36 X209 hx (hb hby d3_35) rfl rfl ?_
  obtain ⟨_, _, ⟨T210, L210, k210, n210⟩, -, X210, ⟨Lc210, hQ210, l210, y210, z210⟩, st210⟩ := Jvm.LawKit.callS X209 hx (y := yn6) hown (mvT hZ (ow hw 20 rfl)) (mvT hZ (ow hw 21 rfl)) (mvT hZ (ow hw 22 rfl)) (mvT hZ (ow hw 23 rfl)) (by decide) (backOf (W := 0) (rmC3_6 lL Z a0 hw [] s' ks x0 x1 x2 x3 x4 x5 h0 n0 Zn A_s' cx0 cx1 cx2 cx3 cx4 cx5) hZ (ow hw 23 rfl) (ow hw 22 rfl) (by decide) (by decide)) (g := (mkF mM 36 #[.val (.ref a), .val (.ref s'), .val (.int 0), .val (.int 6), .val .null, .unset] [.int 6, .int 0, .ref s'])) rfl (by rw [hml]; rfl) (argsL := [.ref s', .int 0, .int 6]) (rest := []) (lenOf pd__28_5bCII_29_5bB rfl) rfl (by show 2 * 0 + _ ≤ _; exact Nat.le_of_eq rfl) (hb hby d3_36) (fun _ _ => ⟨rfl, e209, (by decide : 0 + 1 ≤ _), (by decide : 0 + 6 ≤ _)⟩)
  dsimp only [Pt.U, Pt.locs, Pt.cells, Pt.slots] at X210 l210 y210 z210 st210 hQ210
  subst l210 y210 z210
  obtain ⟨b210, k210', rfl, N210q, E210, V210, ge210⟩ := hQ210
  have N210 := Fr.app N0 N210q
  have e210 : T210.heap = T210.heap := rfl
  refine own_k T210 39 [.ref b210] st210 ?_
  have ne_a_b210 : a ≠ b210 := Nat.ne_of_lt (Nat.lt_of_lt_of_le E_a.lt ge210)
  have b_b210 : h0.size ≤ b210 := Nat.le_trans Kp.1 ge210
  have F_a_value := F_a_value.ext E210
  have F_a_coder := F_a_coder.ext E210
  have E_a := E_a.ext E210
  have O := O.ext E210
  have A_s' := A_s'.ext E210
  have Zn := Nat.le_trans Zn E210.1
  have Kp := Kp.ext E210
  have A_b210 := V210
  let Lv211 : Array Slot := #[.val (.ref a), .val (.ref s'), .val (.int 0), .val (.int 6), .val .null, .val (.ref b210)]
  refine own_st (A := T210.setTop (mkF mM 41 Lv211 [])) (fun t_ k_ => XS.astore X210.here hx rfl (hb hby d3_39) rfl rfl (l' := Lv211) rfl k_) ?_
  refine o_aloadN 42 X210 hx (hb hby d3_41) rfl rfl rfl ?_
  refine o_aload 44 X210 hx (hb hby d3_42) rfl rfl rfl ?_
  refine o_iloadN 45 X210 hx (hb hby d3_44) rfl rfl ?_
  obtain ⟨_, _, ⟨T212, L212, k212, n212⟩, -, X212, ⟨Lc212, hQ212, l212, y212, z212⟩, st212⟩ := Jvm.LawKit.callS X210 hx (y := yn7) hown (mvT hZ (ow hw 28 rfl)) (mvT hZ (ow hw 29 rfl)) (mvT hZ (ow hw 22 rfl)) (mvT hZ (ow hw 30 rfl)) (by decide) (backOf (W := 1) (rmCo_6 lL Z a0 hw [] b210 k210' x0 x1 x2 x3 x4 x5 T210.heap n0 A_b210) hZ (ow hw 30 rfl) (ow hw 22 rfl) (by decide) (by decide)) (g := (mkF mM 45 Lv211 [.int 6, .ref b210, .ref a])) rfl (by rw [hml]; rfl) (argsL := [.ref b210, .int 6]) (rest := [.ref a]) (lenOf pd__28_5bBI_29B rfl) rfl (by show 2 * 0 + _ ≤ _; exact Nat.le_of_eq rfl) (hb hby d3_45) (fun _ _ => ⟨rfl, e210, (by decide : 1 + 0 ≤ _), (by decide : 6 + 0 ≤ _)⟩)
  dsimp only [Pt.U, Pt.locs, Pt.cells, Pt.slots] at X212 l212 y212 z212 st212 hQ212
  subst l212 y212 z212
  obtain ⟨rfl, N212q, e212⟩ := hQ212
  have N212 := Fr.app N210 N212q
  refine own_k T212 48 [.int 0, .ref a] st212 ?_
  obtain ⟨T213, h213, X213, e213, W213, st213⟩ := putFN X212 hx hZ hown (ow hw 31 rfl) Via.refl e212 F_a_coder E_a (Or.inr ⟨(ow hw 32 rfl), rfl, hnm⟩) (ow hw 2 rfl) (ty := .byte) (v' := (.int 0)) (by decide) rfl (by decide) (g := (mkF mM 48 Lv211 [.int 0, .ref a])) rfl rfl (hb hby d3_48)
  have N213 := Fr.snoc X213 N212 g_a
  have F_a_value := F_a_value.other W213 (Or.inr (slot_ne (Or.inr (ow hw 34 rfl)) (Or.inr (ow hw 32 rfl)) (by decide) (t := (.array .byte)) (t' := .byte) (by decide) (by decide)))
  have F_a_coder := F_a_coder.same W213
  have E_a := E_a.wr W213
  have A_s' := A_s'.other W213 nsa
  have A_b210 := A_b210.other W213 (Ne.symm ne_a_b210)
  have O := O.wr W213 g_a
  have Zn := Nat.le_trans Zn (Keep.of_wr W213).1
  have Kp := Kp.wr W213 (Or.inl (List.mem_of_getElem? (i := 0) rfl))
  refine own_k T213 51 [] st213 ?_
  refine o_aloadN 52 X213 hx (hb hby d3_51) rfl rfl rfl ?_
  refine o_aload 54 X213 hx (hb hby d3_52) rfl rfl rfl ?_
  obtain ⟨T214, h214, X214, e214, W214, st214⟩ := putF X213 hx hZ hown (host := "") (Or.inl (ow hw 33 rfl)) Via.refl e213 F_a_value E_a (Or.inr ⟨(ow hw 34 rfl), rfl, hnm⟩) (ow hw 2 rfl) (ty := (.array .byte)) (by decide) rfl rfl (g := (mkF mM 54 Lv211 [.ref b210, .ref a])) rfl rfl (hb hby d3_54)
  have N214 := Fr.snoc X214 N213 g_a
  have F_a_value := F_a_value.same W214
  have F_a_coder := F_a_coder.other W214 (Or.inr (slot_ne (Or.inr (ow hw 32 rfl)) (Or.inr (ow hw 34 rfl)) (by decide) (t := .byte) (t' := (.array .byte)) (by decide) (by decide)))
  have E_a := E_a.wr W214
  have A_s' := A_s'.other W214 nsa
  have A_b210 := A_b210.other W214 (Ne.symm ne_a_b210)
  have O := O.wr W214 g_a
  have Zn := Nat.le_trans Zn (Keep.of_wr W214).1
  have Kp := Kp.wr W214 (Or.inl (List.mem_of_getElem? (i := 0) rfl))
  refine own_k T214 57 [] st214 ?_
  exact own_retV X214 hx hlk hret (hb hby d3_57) (by rw [e214]; exact ⟨_, _, rfl, N214, Kp, ⟨E_a, F_a_value, F_a_coder, A_b210⟩, b_b210⟩) (by decide) (by decide)
theorem ef_rmS1_6 (mM : MethodId) (a : Addr) (s' : Addr) (ks : ClassId) (cs : Int32) (x0 : Int32) (x1 : Int32) (x2 : Int32) (x3 : Int32) (x4 : Int32) (x5 : Int32) : entryFrame mM #[.ref a, .ref s'] 2 = mkF mM 0 #[.val (.ref a), .val (.ref s')] [] := by first | (simp [entryFrame, mkF, argsToLocals, Value.category]; done) | rfl
theorem rmS1_6 (lL : Launch) (Z : State) (a0 : Array Value) (hw : own_tb a0 Z) (ws : List Jvm.Cond) (a : Addr) (s' : Addr) (ks : ClassId) (cs : Int32) (x0 : Int32) (x1 : Int32) (x2 : Int32) (x3 : Int32) (x4 : Int32) (x5 : Int32) (h0 : Heap) (n0 : Nat) (g_a : n0 ≤ a) (E_a : Exa Z h0 a "java/lang/String") (F_a_value : Fld Z h0 a "java/lang/String" "value" "[B" .null) (F_a_coder : Fld Z h0 a "java/lang/String" "coder" "B" (.int 0)) (A_s' : Arv Z h0 s' ks .char 6 [.int x0, .int x1, .int x2, .int x3, .int x4, .int x5] (.int 0)) (nsa : s' ≠ a) (O : Old Z n0 h0) (Zn : n0 ≤ h0.size) (S_cs : Sta Z Z.heap "java/lang/String" "COMPACT_STRINGS" "Z" (.int cs)) (hcs : ¬ cs = (0 : Int32)) (cx0 : Ck x0) (cx1 : Ck x1) (cx2 : Ck x2) (cx3 : Ck x3) (cx4 : Ck x4) (cx5 : Ck x5) :
    own_Ct lL Z yn9 jdk_42_method_3_code 2 none ws (⟨3, 1, 6, 52⟩ : Room) #[.ref a, .ref s'] h0 (QS Z a 6 [(.int (((x0).toInt8.toInt32)).toInt8.toInt32), (.int (((x1).toInt8.toInt32)).toInt8.toInt32), (.int (((x2).toInt8.toInt32)).toInt8.toInt32), (.int (((x3).toInt8.toInt32)).toInt8.toInt32), (.int (((x4).toInt8.toInt32)).toInt8.toInt32), (.int (((x5).toInt8.toInt32)).toInt8.toInt32)] h0 n0) := by
  refine own_body (plainFor_of_name pn_java_2flang_2fString) 1 6 rfl rfl (fun mM => ef_rmS1_6 mM a s' ks cs x0 x1 x2 x3 x4 x5) fun pP eE sS mM below meth cC s₁ hZ hx hby hml hown hnm hret hlk X0 e0 => ?_
  have N0 := Fr.nil n0
  refine o_aloadN 1 X0 hx (hb hby d2_0) rfl rfl rfl ?_
  refine o_aloadN 2 X0 hx (hb hby d2_1) rfl rfl rfl ?_
  refine o_iconst 3 0 X0 hx (hb hby d2_2) rfl rfl ?_
  refine o_aloadN 4 X0 hx (hb hby d2_3) rfl rfl rfl ?_
  obtain ⟨cl215, Ar215, q215, S215, Nn215, H215, G215⟩ := id A_s'
  refine own_j 5 [.int 6, .int 0, .ref s', .ref a] (fun t_ k_ => X0.arraylength hx (by rw [e0]; exact Ar215.1) (State.isArrayOf_alike hZ.alike Ar215.2.1) (g := (mkF mM 4 #[.val (.ref a), .val (.ref s')] [.ref s', .int 0, .ref s', .ref a])) rfl rfl (hb hby d2_4) t_ (by rw [len_of S215 Nn215]; exact k_)) ?_
  refine own_j 6 [.null, .int 6, .int 0, .ref s', .ref a] (fun t_ k_ => XS.aconstNull X0.here hx rfl (hb hby d2_5) k_) ?_
  obtain ⟨_, _, ⟨T216, L216, k216, n216⟩, -, X216, ⟨Lc216, hQ216, l216, y216, z216⟩, st216⟩ := X0.specialBack hx (y := yn8) rfl hown (mvT hZ (ow hw 12 rfl)) (mvT hZ (ow hw 13 rfl)) (mvT hZ (ow hw 15 rfl)) (by decide) (backOf (W := 0) (rmS4_6 lL Z a0 hw [] a s' ks cs x0 x1 x2 x3 x4 x5 h0 n0 g_a E_a F_a_value F_a_coder A_s' nsa O Zn S_cs hcs cx0 cx1 cx2 cx3 cx4 cx5) hZ (ow hw 15 rfl) (ow hw 3 rfl) (by decide) (by decide)) (g := (mkF mM 6 #[.val (.ref a), .val (.ref s')] [.null, .int 6, .int 0, .ref s', .ref a])) rfl (by rw [hml]; rfl) (Steps.refl _) (a := a) (argsL := [.ref s', .int 0, .int 6, .null]) (rest := []) (lenOf pd__28_5bCIILjava_2flang_2fVoid_3b_29V rfl) rfl (by show 2 * 0 + _ ≤ _; exact Nat.le_of_eq rfl) (hb hby d2_6) (fun _ _ => ⟨rfl, e0, (by decide : 0 + 1 ≤ _), (by decide : 0 + 6 ≤ _)⟩)
  dsimp only [Pt.U, Pt.locs, Pt.cells, Pt.slots] at X216 l216 y216 z216 st216 hQ216
  subst l216 y216 z216
  obtain ⟨d216, k216', rfl, N216q, R216⟩ := hQ216
  have N216 := Fr.app N0 N216q
  have e216 : T216.heap = T216.heap := rfl
  refine own_k T216 9 [] (fun t_ k_ => st216.trans k_) ?_
  exact own_retV X216 hx hlk hret (hb hby d2_9) ⟨_, _, rfl, N216, R216⟩ (by decide) (by decide)
theorem ef_rmC5_7 (mM : MethodId) (s' : Addr) (ks : ClassId) (d : Addr) (kd : ClassId) (x0 : Int32) (x1 : Int32) (x2 : Int32) (x3 : Int32) (x4 : Int32) (x5 : Int32) (x6 : Int32) : entryFrame mM #[.ref s', .int 0, .ref d, .int 0, .int 7] 7 = mkF mM 0 #[.val (.ref s'), .val (.int 0), .val (.ref d), .val (.int 0), .val (.int 7), .unset, .unset] [] := by first | (simp [entryFrame, mkF, argsToLocals, Value.category]; done) | rfl
theorem rmC5_7 (lL : Launch) (Z : State) (a0 : Array Value) (hw : own_tb a0 Z) (ws : List Jvm.Cond) (s' : Addr) (ks : ClassId) (d : Addr) (kd : ClassId) (x0 : Int32) (x1 : Int32) (x2 : Int32) (x3 : Int32) (x4 : Int32) (x5 : Int32) (x6 : Int32) (h0 : Heap) (n0 : Nat) (A_s' : Arv Z h0 s' ks .char 7 [.int x0, .int x1, .int x2, .int x3, .int x4, .int x5, .int x6] (.int 0)) (A_d : Arv Z h0 d kd .byte 7 [.int 0, .int 0, .int 0, .int 0, .int 0, .int 0, .int 0] (.int 0)) (g_d : n0 ≤ d) (nsd : s' ≠ d) (cx0 : Ck x0) (cx1 : Ck x1) (cx2 : Ck x2) (cx3 : Ck x3) (cx4 : Ck x4) (cx5 : Ck x5) (cx6 : Ck x6) :
    own_Ct lL Z yn5 jdk_52_method_21_code 7 (some .int) ws (⟨0, 0, 0, 0⟩ : Room) #[.ref s', .int 0, .ref d, .int 0, .int 7] h0 (QC5 Z d kd 7 [(.int (((x0).toInt8.toInt32)).toInt8.toInt32), (.int (((x1).toInt8.toInt32)).toInt8.toInt32), (.int (((x2).toInt8.toInt32)).toInt8.toInt32), (.int (((x3).toInt8.toInt32)).toInt8.toInt32), (.int (((x4).toInt8.toInt32)).toInt8.toInt32), (.int (((x5).toInt8.toInt32)).toInt8.toInt32), (.int (((x6).toInt8.toInt32)).toInt8.toInt32)] h0 n0) := by
  refine own_body (plainFor_of_name pn_java_2flang_2fStringUTF16) 0 0 rfl rfl (fun mM => ef_rmC5_7 mM s' ks d kd x0 x1 x2 x3 x4 x5 x6) fun pP eE sS mM below meth cC s₁ hZ hx hby hml hown hnm hret hlk X0 e0 => ?_
  have N0 := Fr.nil n0
  have Kp := Keep.refl h0 [d]
  refine o_iconst 1 0 X0 hx (hb hby d6_0) rfl rfl ?_
  let Lv217 : Array Slot := #[.val (.ref s'), .val (.int 0), .val (.ref d), .val (.int 0), .val (.int 7), .val (.int 0), .unset]
  refine own_st (A := s₁.setTop (mkF mM 3 Lv217 [])) (fun t_ k_ => XS.istore X0.here hx rfl (hb hby d6_1) rfl (l' := Lv217) rfl k_) ?_
  refine T5a hw X0 hx hZ hby hml hown hlk hret e0 N0 s' ks d kd 7 0 1 0 x0 _ _ _ A_s' A_d g_d nsd (by decide) (by decide) rfl rfl (Nat.le_of_ble_eq_true rfl) cx0 rfl (fun T218 L218 h218 X218 e218 N218 K218 A_s' A_d => ?_)
  have Kp := Kp.trans K218 (allS (Or.inl (List.mem_of_getElem? (i := 0) rfl)) all0)
  refine T5b hw X218 hx hZ hby hml hown hlk hret e218 N218 s' ks d kd 7 1 2 1 x1 x0 _ _ _ A_s' A_d g_d nsd (by decide) (by decide) rfl rfl (Nat.le_of_ble_eq_true rfl) cx1 rfl (fun T219 L219 h219 X219 e219 N219 K219 A_s' A_d => ?_)
  have Kp := Kp.trans K219 (allS (Or.inl (List.mem_of_getElem? (i := 0) rfl)) all0)
  refine T5b hw X219 hx hZ hby hml hown hlk hret e219 N219 s' ks d kd 7 2 3 2 x2 x1 _ _ _ A_s' A_d g_d nsd (by decide) (by decide) rfl rfl (Nat.le_of_ble_eq_true rfl) cx2 rfl (fun T220 L220 h220 X220 e220 N220 K220 A_s' A_d => ?_)
  have Kp := Kp.trans K220 (allS (Or.inl (List.mem_of_getElem? (i := 0) rfl)) all0)
  refine T5b hw X220 hx hZ hby hml hown hlk hret e220 N220 s' ks d kd 7 3 4 3 x3 x2 _ _ _ A_s' A_d g_d nsd (by decide) (by decide) rfl rfl (Nat.le_of_ble_eq_true rfl) cx3 rfl (fun T221 L221 h221 X221 e221 N221 K221 A_s' A_d => ?_)
  have Kp := Kp.trans K221 (allS (Or.inl (List.mem_of_getElem? (i := 0) rfl)) all0)
  refine T5b hw X221 hx hZ hby hml hown hlk hret e221 N221 s' ks d kd 7 4 5 4 x4 x3 _ _ _ A_s' A_d g_d nsd (by decide) (by decide) rfl rfl (Nat.le_of_ble_eq_true rfl) cx4 rfl (fun T222 L222 h222 X222 e222 N222 K222 A_s' A_d => ?_)
  have Kp := Kp.trans K222 (allS (Or.inl (List.mem_of_getElem? (i := 0) rfl)) all0)
  refine T5b hw X222 hx hZ hby hml hown hlk hret e222 N222 s' ks d kd 7 5 6 5 x5 x4 _ _ _ A_s' A_d g_d nsd (by decide) (by decide) rfl rfl (Nat.le_of_ble_eq_true rfl) cx5 rfl (fun T223 L223 h223 X223 e223 N223 K223 A_s' A_d => ?_)
  have Kp := Kp.trans K223 (allS (Or.inl (List.mem_of_getElem? (i := 0) rfl)) all0)
  refine T5b hw X223 hx hZ hby hml hown hlk hret e223 N223 s' ks d kd 7 6 7 6 x6 x5 _ _ _ A_s' A_d g_d nsd (by decide) (by decide) rfl rfl (Nat.le_of_ble_eq_true rfl) cx6 rfl (fun T224 L224 h224 X224 e224 N224 K224 A_s' A_d => ?_)
  have Kp := Kp.trans K224 (allS (Or.inl (List.mem_of_getElem? (i := 0) rfl)) all0)
  refine o_iload 5 X224 hx (hb hby d6_3) rfl rfl ?_
  refine o_iload 7 X224 hx (hb hby d6_5) rfl rfl ?_
  refine o_icmpYes 44 X224 hx (hb hby d6_7) (flt (by decide : ¬ ((7 : Int32) < (7 : Int32)))).2.1 (by decide) ?_
  refine o_iload 46 X224 hx (hb hby d6_44) rfl rfl ?_
  exact own_retI X224 hx hlk hret (hb hby d6_46) (by rw [e224]; exact ⟨rfl, N224, Kp, A_d⟩) (by decide) (by decide)
theorem ef_rmC3_7 (mM : MethodId) (s' : Addr) (ks : ClassId) (x0 : Int32) (x1 : Int32) (x2 : Int32) (x3 : Int32) (x4 : Int32) (x5 : Int32) (x6 : Int32) : entryFrame mM #[.ref s', .int 0, .int 7] 6 = mkF mM 0 #[.val (.ref s'), .val (.int 0), .val (.int 7), .unset, .unset, .unset] [] := by first | (simp [entryFrame, mkF, argsToLocals, Value.category]; done) | rfl
theorem rmC3_7 (lL : Launch) (Z : State) (a0 : Array Value) (hw : own_tb a0 Z) (ws : List Jvm.Cond) (s' : Addr) (ks : ClassId) (x0 : Int32) (x1 : Int32) (x2 : Int32) (x3 : Int32) (x4 : Int32) (x5 : Int32) (x6 : Int32) (h0 : Heap) (n0 : Nat) (Zn : n0 ≤ h0.size) (A_s' : Arv Z h0 s' ks .char 7 [.int x0, .int x1, .int x2, .int x3, .int x4, .int x5, .int x6] (.int 0)) (cx0 : Ck x0) (cx1 : Ck x1) (cx2 : Ck x2) (cx3 : Ck x3) (cx4 : Ck x4) (cx5 : Ck x5) (cx6 : Ck x6) :
    own_Ct lL Z yn6 jdk_52_method_16_code 6 (some (.array .byte)) ws (⟨1, 1, 7, 18⟩ : Room) #[.ref s', .int 0, .int 7] h0 (QC3 Z 7 [(.int (((x0).toInt8.toInt32)).toInt8.toInt32), (.int (((x1).toInt8.toInt32)).toInt8.toInt32), (.int (((x2).toInt8.toInt32)).toInt8.toInt32), (.int (((x3).toInt8.toInt32)).toInt8.toInt32), (.int (((x4).toInt8.toInt32)).toInt8.toInt32), (.int (((x5).toInt8.toInt32)).toInt8.toInt32), (.int (((x6).toInt8.toInt32)).toInt8.toInt32)] h0 n0) := by
  refine own_body (plainFor_of_name pn_java_2flang_2fStringUTF16) 1 7 rfl rfl (fun mM => ef_rmC3_7 mM s' ks x0 x1 x2 x3 x4 x5 x6) fun pP eE sS mM below meth cC s₁ hZ hx hby hml hown hnm hret hlk X0 e0 => ?_
  have N0 := Fr.nil n0
  have Kp := Keep.refl h0 []
  refine o_iloadN 1 X0 hx (hb hby d5_0) rfl rfl ?_
  obtain ⟨T225, h225, k225, X225, e225, E225, A225, st225⟩ := newP X0 hx hZ (ow hw 24 rfl) e0 (g := (mkF mM 1 #[.val (.ref s'), .val (.int 0), .val (.int 7), .unset, .unset, .unset] [.int 7])) rfl (hb hby d5_1) rfl (by decide) (cap := 7) (by decide) (by decide) (by decide) (by decide)
  obtain ⟨b225, g225⟩ : ∃ z, z = h0.size := ⟨_, rfl⟩
  rw [← g225] at A225 st225
  have ne_s'_b225 : s' ≠ b225 := Nat.ne_of_lt (Nat.lt_of_lt_of_le A_s'.lt (Nat.le_of_eq g225.symm))
  have g_b225 : n0 ≤ b225 := Nat.le_trans Zn (Nat.le_of_eq g225.symm)
  have b_b225 : h0.size ≤ b225 := Nat.le_trans Kp.1 (Nat.le_of_eq g225.symm)
  have A_s' := A_s'.ext E225
  have Zn := Nat.le_trans Zn E225.1
  have Kp := Kp.ext E225
  have A_b225 : Arv Z h225 b225 k225 .byte 7 [.int 0, .int 0, .int 0, .int 0, .int 0, .int 0, .int 0] (.int 0) := (Arv.new A225 (by decide)).pad (pad_rep [] (.int 0) 7)
  refine own_k T225 3 [.ref b225] st225 ?_
  let Lv226 : Array Slot := #[.val (.ref s'), .val (.int 0), .val (.int 7), .val (.ref b225), .unset, .unset]
  refine own_st (A := T225.setTop (mkF mM 4 Lv226 [])) (fun t_ k_ => XS.astoreN X225.here hx rfl (hb hby d5_3) rfl rfl (l' := Lv226) rfl k_) ?_
  refine o_aloadN 5 X225 hx (hb hby d5_4) rfl rfl rfl ?_
  refine o_iloadN 6 X225 hx (hb hby d5_5) rfl rfl ?_
  refine o_aloadN 7 X225 hx (hb hby d5_6) rfl rfl rfl ?_
  refine o_iconst 8 0 X225 hx (hb hby d5_7) rfl rfl ?_
  refine o_iloadN 9 X225 hx (hb hby d5_8) rfl rfl ?_
  obtain ⟨_, _, ⟨T227, L227, k227, n227⟩, -, X227, ⟨Lc227, hQ227, l227, y227, z227⟩, st227⟩ := Jvm.LawKit.callS X225 hx (y := yn5) hown (mvT hZ (ow hw 25 rfl)) (mvT hZ (ow hw 26 rfl)) (mvT hZ (ow hw 22 rfl)) (mvT hZ (ow hw 27 rfl)) (by decide) (backOf (W := 0) (rmC5_7 lL Z a0 hw [] s' ks b225 k225 x0 x1 x2 x3 x4 x5 x6 h225 n0 A_s' A_b225 g_b225 ne_s'_b225 cx0 cx1 cx2 cx3 cx4 cx5 cx6) hZ (ow hw 27 rfl) (ow hw 22 rfl) (by decide) (by decide)) (g := (mkF mM 9 Lv226 [.int 7, .int 0, .ref b225, .int 0, .ref s'])) rfl (by rw [hml]; rfl) (argsL := [.ref s', .int 0, .ref b225, .int 0, .int 7]) (rest := []) (lenOf pd__28_5bCI_5bBII_29I rfl) rfl (by show 2 * 0 + _ ≤ _; exact Nat.le_of_eq rfl) (hb hby d5_9) (fun _ _ => ⟨rfl, e225, (by decide : 1 + 0 ≤ _), (by decide : 7 + 0 ≤ _)⟩)
  dsimp only [Pt.U, Pt.locs, Pt.cells, Pt.slots] at X227 l227 y227 z227 st227 hQ227
  subst l227 y227 z227
  obtain ⟨rfl, N227q, K227, V227⟩ := hQ227
  have N227 := Fr.app N0 N227q
  have e227 : T227.heap = T227.heap := rfl
  refine own_k T227 12 [.int 7] st227 ?_
  have A_s' := A_s'.keep K227 (ninS ne_s'_b225 nin0)
  have Zn := Nat.le_trans Zn K227.1
  have Kp := Kp.trans K227 (allS (Or.inr b_b225) all0)
  have A_b225 := V227
  let Lv228 : Array Slot := #[.val (.ref s'), .val (.int 0), .val (.int 7), .val (.ref b225), .val (.int 7), .unset]
  refine own_st (A := T227.setTop (mkF mM 14 Lv228 [])) (fun t_ k_ => XS.istore X227.here hx rfl (hb hby d5_12) rfl (l' := Lv228) rfl k_) ?_
  refine o_iload 16 X227 hx (hb hby d5_14) rfl rfl ?_
  refine o_iloadN 17 X227 hx (hb hby d5_16) rfl rfl ?_
  refine o_icmpYes 57 X227 hx (hb hby d5_17) (teq (by decide : ((7 : Int32) = (7 : Int32)))).1 (by decide) ?_
  refine o_aloadN 58 X227 hx (hb hby d5_57) rfl rfl rfl ?_
  exact own_retA X227 hx hlk hret rfl rfl (hb hby d5_58) (by rw [e227]; exact ⟨_, _, rfl, N227, own_ext_of_keep Kp, A_b225, b_b225⟩) (by decide) (by decide)
theorem ef_rmCo_7 (mM : MethodId) (d : Addr) (kd : ClassId) (x0 : Int32) (x1 : Int32) (x2 : Int32) (x3 : Int32) (x4 : Int32) (x5 : Int32) (x6 : Int32) : entryFrame mM #[.ref d, .int 7] 2 = mkF mM 0 #[.val (.ref d), .val (.int 7)] [] := by first | (simp [entryFrame, mkF, argsToLocals, Value.category]; done) | rfl
theorem rmCo_7 (lL : Launch) (Z : State) (a0 : Array Value) (hw : own_tb a0 Z) (ws : List Jvm.Cond) (d : Addr) (kd : ClassId) (x0 : Int32) (x1 : Int32) (x2 : Int32) (x3 : Int32) (x4 : Int32) (x5 : Int32) (x6 : Int32) (h0 : Heap) (n0 : Nat) (A_d : Arv Z h0 d kd .byte 7 [(.int (((x0).toInt8.toInt32)).toInt8.toInt32), (.int (((x1).toInt8.toInt32)).toInt8.toInt32), (.int (((x2).toInt8.toInt32)).toInt8.toInt32), (.int (((x3).toInt8.toInt32)).toInt8.toInt32), (.int (((x4).toInt8.toInt32)).toInt8.toInt32), (.int (((x5).toInt8.toInt32)).toInt8.toInt32), (.int (((x6).toInt8.toInt32)).toInt8.toInt32)] (.int 0)) :
    own_Ct lL Z yn7 jdk_52_method_15_code 2 (some .byte) ws (⟨0, 0, 0, 0⟩ : Room) #[.ref d, .int 7] h0 (Qw (.int 0) h0 n0) := by
  refine own_body (plainFor_of_name pn_java_2flang_2fStringUTF16) 0 0 rfl rfl (fun mM => ef_rmCo_7 mM d kd x0 x1 x2 x3 x4 x5 x6) fun pP eE sS mM below meth cC s₁ hZ hx hby hml hown hnm hret hlk X0 e0 => ?_
  have N0 := Fr.nil n0
  refine o_iloadN 1 X0 hx (hb hby d7_0) rfl rfl ?_
  refine o_aloadN 2 X0 hx (hb hby d7_1) rfl rfl rfl ?_
  obtain ⟨cl229, Ar229, q229, S229, Nn229, H229, G229⟩ := id A_d
  refine own_j 3 [.int 7, .int 7] (fun t_ k_ => X0.arraylength hx (by rw [e0]; exact Ar229.1) (State.isArrayOf_alike hZ.alike Ar229.2.1) (g := (mkF mM 2 #[.val (.ref d), .val (.int 7)] [.ref d, .int 7])) rfl rfl (hb hby d7_2) t_ (by rw [len_of S229 Nn229]; exact k_)) ?_
  refine own_j 4 [.int 0] (fun t_ k_ => XS.isub X0.here hx rfl (hb hby d7_3) rfl k_) ?_
  refine o_bipush 6 31 X0 hx (hb hby d7_4) rfl rfl ?_
  refine own_j 7 [(.int (((0 : Int32).toUInt32 >>> ((31 : Int32) &&& 31).toUInt32).toInt32))] (fun t_ k_ => XS.iushr X0.here hx rfl (hb hby d7_6) rfl k_) ?_
  refine own_j 8 [(.int (((((0 : Int32).toUInt32 >>> ((31 : Int32) &&& 31).toUInt32).toInt32)).toInt8.toInt32))] (fun t_ k_ => XS.i2b X0.here hx rfl (hb hby d7_7) rfl k_) ?_
  exact own_retN X0 hx hlk (t := .byte) hret (by simp) (hb hby d7_8) (show Qw _ _ _ (some (.int 0)) _ _ from ⟨rfl, N0, e0⟩) (by decide) (by decide)
theorem ef_rmS4_7 (mM : MethodId) (a : Addr) (s' : Addr) (ks : ClassId) (cs : Int32) (x0 : Int32) (x1 : Int32) (x2 : Int32) (x3 : Int32) (x4 : Int32) (x5 : Int32) (x6 : Int32) : entryFrame mM #[.ref a, .ref s', .int 0, .int 7, .null] 6 = mkF mM 0 #[.val (.ref a), .val (.ref s'), .val (.int 0), .val (.int 7), .val .null, .unset] [] := by first | (simp [entryFrame, mkF, argsToLocals, Value.category]; done) | rfl
theorem rmS4_7 (lL : Launch) (Z : State) (a0 : Array Value) (hw : own_tb a0 Z) (ws : List Jvm.Cond) (a : Addr) (s' : Addr) (ks : ClassId) (cs : Int32) (x0 : Int32) (x1 : Int32) (x2 : Int32) (x3 : Int32) (x4 : Int32) (x5 : Int32) (x6 : Int32) (h0 : Heap) (n0 : Nat) (g_a : n0 ≤ a) (E_a : Exa Z h0 a "java/lang/String") (F_a_value : Fld Z h0 a "java/lang/String" "value" "[B" .null) (F_a_coder : Fld Z h0 a "java/lang/String" "coder" "B" (.int 0)) (A_s' : Arv Z h0 s' ks .char 7 [.int x0, .int x1, .int x2, .int x3, .int x4, .int x5, .int x6] (.int 0)) (nsa : s' ≠ a) (O : Old Z n0 h0) (Zn : n0 ≤ h0.size) (S_cs : Sta Z Z.heap "java/lang/String" "COMPACT_STRINGS" "Z" (.int cs)) (hcs : ¬ cs = (0 : Int32)) (cx0 : Ck x0) (cx1 : Ck x1) (cx2 : Ck x2) (cx3 : Ck x3) (cx4 : Ck x4) (cx5 : Ck x5) (cx6 : Ck x6) :
    own_Ct lL Z yn8 jdk_42_method_149_code 6 none ws (⟨2, 1, 7, 35⟩ : Room) #[.ref a, .ref s', .int 0, .int 7, .null] h0 (QS Z a 7 [(.int (((x0).toInt8.toInt32)).toInt8.toInt32), (.int (((x1).toInt8.toInt32)).toInt8.toInt32), (.int (((x2).toInt8.toInt32)).toInt8.toInt32), (.int (((x3).toInt8.toInt32)).toInt8.toInt32), (.int (((x4).toInt8.toInt32)).toInt8.toInt32), (.int (((x5).toInt8.toInt32)).toInt8.toInt32), (.int (((x6).toInt8.toInt32)).toInt8.toInt32)] h0 n0) := by
  refine own_body (plainFor_of_name pn_java_2flang_2fString) 1 7 rfl rfl (fun mM => ef_rmS4_7 mM a s' ks cs x0 x1 x2 x3 x4 x5 x6) fun pP eE sS mM below meth cC s₁ hZ hx hby hml hown hnm hret hlk X0 e0 => ?_
  have N0 := Fr.nil n0
  have Kp := Keep.refl h0 [a]
  refine o_aloadN 1 X0 hx (hb hby d3_0) rfl rfl rfl ?_
  obtain ⟨T230, X230, e230, st230⟩ := initO X0 hx hZ hown (ow hw 16 rfl) (ow hw 17 rfl) (ow hw 18 rfl) e0 (g := (mkF mM 1 #[.val (.ref a), .val (.ref s'), .val (.int 0), .val (.int 7), .val .null, .unset] [.ref a])) rfl (by rw [hml]; rfl) rfl (hb hby d3_1) (by decide) (W := 0) (by show 2 * 0 + _ ≤ _; exact Nat.le_of_eq rfl) (by decide)
  refine own_k T230 4 [] st230 ?_
  refine o_iloadN 5 X230 hx (hb hby d3_4) rfl rfl ?_
  refine o_ifYes 27 X230 hx (hb hby d3_5) ((if0 _ _).trans (feq (by decide : ¬ ((7 : Int32) = (0 : Int32)))).2) (by decide) ?_
  obtain ⟨T231, X231, e231, st231⟩ := getS2 X230 hx hZ hown (host := "") (Or.inl (ow hw 19 rfl)) Via.refl e230 (S_cs.ext O.2) (g := (mkF mM 27 #[.val (.ref a), .val (.ref s'), .val (.int 0), .val (.int 7), .val .null, .unset] [])) rfl (hb hby d3_27)
  refine own_k T231 30 [.int cs] st231 ?_
  refine o_ifNo 33 X231 hx (hb hby d3_30) ((if0 _ _).trans (feq hcs).1) rfl ?_
  refine o_aloadN 34 X231 hx (hb hby d3_33) rfl rfl rfl ?_
  refine o_iloadN 35 X231 hx (hb hby d3_34) rfl rfl ?_
  refine o_iloadN 36 X231 hx (hb hby d3_35) rfl rfl ?_
  obtain ⟨_, _, ⟨T232, L232, k232, n232⟩, -, X232, ⟨Lc232, hQ232, l232, y232, z232⟩, st232⟩ := Jvm.LawKit.callS X231 hx (y := yn6) hown (mvT hZ (ow hw 20 rfl)) (mvT hZ (ow hw 21 rfl)) (mvT hZ (ow hw 22 rfl)) (mvT hZ (ow hw 23 rfl)) (by decide) (backOf (W := 0) (rmC3_7 lL Z a0 hw [] s' ks x0 x1 x2 x3 x4 x5 x6 h0 n0 Zn A_s' cx0 cx1 cx2 cx3 cx4 cx5 cx6) hZ (ow hw 23 rfl) (ow hw 22 rfl) (by decide) (by decide)) (g := (mkF mM 36 #[.val (.ref a), .val (.ref s'), .val (.int 0), .val (.int 7), .val .null, .unset] [.int 7, .int 0, .ref s'])) rfl (by rw [hml]; rfl) (argsL := [.ref s', .int 0, .int 7]) (rest := []) (lenOf pd__28_5bCII_29_5bB rfl) rfl (by show 2 * 0 + _ ≤ _; exact Nat.le_of_eq rfl) (hb hby d3_36) (fun _ _ => ⟨rfl, e231, (by decide : 0 + 1 ≤ _), (by decide : 0 + 7 ≤ _)⟩)
  dsimp only [Pt.U, Pt.locs, Pt.cells, Pt.slots] at X232 l232 y232 z232 st232 hQ232
  subst l232 y232 z232
  obtain ⟨b232, k232', rfl, N232q, E232, V232, ge232⟩ := hQ232
  have N232 := Fr.app N0 N232q
  have e232 : T232.heap = T232.heap := rfl
  refine own_k T232 39 [.ref b232] st232 ?_
  have ne_a_b232 : a ≠ b232 := Nat.ne_of_lt (Nat.lt_of_lt_of_le E_a.lt ge232)
  have b_b232 : h0.size ≤ b232 := Nat.le_trans Kp.1 ge232
  have F_a_value := F_a_value.ext E232
  have F_a_coder := F_a_coder.ext E232
  have E_a := E_a.ext E232
  have O := O.ext E232
  have A_s' := A_s'.ext E232
  have Zn := Nat.le_trans Zn E232.1
  have Kp := Kp.ext E232
  have A_b232 := V232
  let Lv233 : Array Slot := #[.val (.ref a), .val (.ref s'), .val (.int 0), .val (.int 7), .val .null, .val (.ref b232)]
  refine own_st (A := T232.setTop (mkF mM 41 Lv233 [])) (fun t_ k_ => XS.astore X232.here hx rfl (hb hby d3_39) rfl rfl (l' := Lv233) rfl k_) ?_
  refine o_aloadN 42 X232 hx (hb hby d3_41) rfl rfl rfl ?_
  refine o_aload 44 X232 hx (hb hby d3_42) rfl rfl rfl ?_
  refine o_iloadN 45 X232 hx (hb hby d3_44) rfl rfl ?_
  obtain ⟨_, _, ⟨T234, L234, k234, n234⟩, -, X234, ⟨Lc234, hQ234, l234, y234, z234⟩, st234⟩ := Jvm.LawKit.callS X232 hx (y := yn7) hown (mvT hZ (ow hw 28 rfl)) (mvT hZ (ow hw 29 rfl)) (mvT hZ (ow hw 22 rfl)) (mvT hZ (ow hw 30 rfl)) (by decide) (backOf (W := 1) (rmCo_7 lL Z a0 hw [] b232 k232' x0 x1 x2 x3 x4 x5 x6 T232.heap n0 A_b232) hZ (ow hw 30 rfl) (ow hw 22 rfl) (by decide) (by decide)) (g := (mkF mM 45 Lv233 [.int 7, .ref b232, .ref a])) rfl (by rw [hml]; rfl) (argsL := [.ref b232, .int 7]) (rest := [.ref a]) (lenOf pd__28_5bBI_29B rfl) rfl (by show 2 * 0 + _ ≤ _; exact Nat.le_of_eq rfl) (hb hby d3_45) (fun _ _ => ⟨rfl, e232, (by decide : 1 + 0 ≤ _), (by decide : 7 + 0 ≤ _)⟩)
  dsimp only [Pt.U, Pt.locs, Pt.cells, Pt.slots] at X234 l234 y234 z234 st234 hQ234
  subst l234 y234 z234
  obtain ⟨rfl, N234q, e234⟩ := hQ234
  have N234 := Fr.app N232 N234q
  refine own_k T234 48 [.int 0, .ref a] st234 ?_
  obtain ⟨T235, h235, X235, e235, W235, st235⟩ := putFN X234 hx hZ hown (ow hw 31 rfl) Via.refl e234 F_a_coder E_a (Or.inr ⟨(ow hw 32 rfl), rfl, hnm⟩) (ow hw 2 rfl) (ty := .byte) (v' := (.int 0)) (by decide) rfl (by decide) (g := (mkF mM 48 Lv233 [.int 0, .ref a])) rfl rfl (hb hby d3_48)
  have N235 := Fr.snoc X235 N234 g_a
  have F_a_value := F_a_value.other W235 (Or.inr (slot_ne (Or.inr (ow hw 34 rfl)) (Or.inr (ow hw 32 rfl)) (by decide) (t := (.array .byte)) (t' := .byte) (by decide) (by decide)))
  have F_a_coder := F_a_coder.same W235
  have E_a := E_a.wr W235
  have A_s' := A_s'.other W235 nsa
  have A_b232 := A_b232.other W235 (Ne.symm ne_a_b232)
  have O := O.wr W235 g_a
  have Zn := Nat.le_trans Zn (Keep.of_wr W235).1
  have Kp := Kp.wr W235 (Or.inl (List.mem_of_getElem? (i := 0) rfl))
  refine own_k T235 51 [] st235 ?_
  refine o_aloadN 52 X235 hx (hb hby d3_51) rfl rfl rfl ?_
  refine o_aload 54 X235 hx (hb hby d3_52) rfl rfl rfl ?_
  obtain ⟨T236, h236, X236, e236, W236, st236⟩ := putF X235 hx hZ hown (host := "") (Or.inl (ow hw 33 rfl)) Via.refl e235 F_a_value E_a (Or.inr ⟨(ow hw 34 rfl), rfl, hnm⟩) (ow hw 2 rfl) (ty := (.array .byte)) (by decide) rfl rfl (g := (mkF mM 54 Lv233 [.ref b232, .ref a])) rfl rfl (hb hby d3_54)
  have N236 := Fr.snoc X236 N235 g_a
  have F_a_value := F_a_value.same W236
  have F_a_coder := F_a_coder.other W236 (Or.inr (slot_ne (Or.inr (ow hw 32 rfl)) (Or.inr (ow hw 34 rfl)) (by decide) (t := .byte) (t' := (.array .byte)) (by decide) (by decide)))
  have E_a := E_a.wr W236
  have A_s' := A_s'.other W236 nsa
  have A_b232 := A_b232.other W236 (Ne.symm ne_a_b232)
  have O := O.wr W236 g_a
  have Zn := Nat.le_trans Zn (Keep.of_wr W236).1
  have Kp := Kp.wr W236 (Or.inl (List.mem_of_getElem? (i := 0) rfl))
  refine own_k T236 57 [] st236 ?_
  exact own_retV X236 hx hlk hret (hb hby d3_57) (by rw [e236]; exact ⟨_, _, rfl, N236, Kp, ⟨E_a, F_a_value, F_a_coder, A_b232⟩, b_b232⟩) (by decide) (by decide)
theorem ef_rmS1_7 (mM : MethodId) (a : Addr) (s' : Addr) (ks : ClassId) (cs : Int32) (x0 : Int32) (x1 : Int32) (x2 : Int32) (x3 : Int32) (x4 : Int32) (x5 : Int32) (x6 : Int32) : entryFrame mM #[.ref a, .ref s'] 2 = mkF mM 0 #[.val (.ref a), .val (.ref s')] [] := by first | (simp [entryFrame, mkF, argsToLocals, Value.category]; done) | rfl
theorem rmS1_7 (lL : Launch) (Z : State) (a0 : Array Value) (hw : own_tb a0 Z) (ws : List Jvm.Cond) (a : Addr) (s' : Addr) (ks : ClassId) (cs : Int32) (x0 : Int32) (x1 : Int32) (x2 : Int32) (x3 : Int32) (x4 : Int32) (x5 : Int32) (x6 : Int32) (h0 : Heap) (n0 : Nat) (g_a : n0 ≤ a) (E_a : Exa Z h0 a "java/lang/String") (F_a_value : Fld Z h0 a "java/lang/String" "value" "[B" .null) (F_a_coder : Fld Z h0 a "java/lang/String" "coder" "B" (.int 0)) (A_s' : Arv Z h0 s' ks .char 7 [.int x0, .int x1, .int x2, .int x3, .int x4, .int x5, .int x6] (.int 0)) (nsa : s' ≠ a) (O : Old Z n0 h0) (Zn : n0 ≤ h0.size) (S_cs : Sta Z Z.heap "java/lang/String" "COMPACT_STRINGS" "Z" (.int cs)) (hcs : ¬ cs = (0 : Int32)) (cx0 : Ck x0) (cx1 : Ck x1) (cx2 : Ck x2) (cx3 : Ck x3) (cx4 : Ck x4) (cx5 : Ck x5) (cx6 : Ck x6) :
    own_Ct lL Z yn9 jdk_42_method_3_code 2 none ws (⟨3, 1, 7, 52⟩ : Room) #[.ref a, .ref s'] h0 (QS Z a 7 [(.int (((x0).toInt8.toInt32)).toInt8.toInt32), (.int (((x1).toInt8.toInt32)).toInt8.toInt32), (.int (((x2).toInt8.toInt32)).toInt8.toInt32), (.int (((x3).toInt8.toInt32)).toInt8.toInt32), (.int (((x4).toInt8.toInt32)).toInt8.toInt32), (.int (((x5).toInt8.toInt32)).toInt8.toInt32), (.int (((x6).toInt8.toInt32)).toInt8.toInt32)] h0 n0) := by
  refine own_body (plainFor_of_name pn_java_2flang_2fString) 1 7 rfl rfl (fun mM => ef_rmS1_7 mM a s' ks cs x0 x1 x2 x3 x4 x5 x6) fun pP eE sS mM below meth cC s₁ hZ hx hby hml hown hnm hret hlk X0 e0 => ?_
  have N0 := Fr.nil n0
  refine o_aloadN 1 X0 hx (hb hby d2_0) rfl rfl rfl ?_
  refine o_aloadN 2 X0 hx (hb hby d2_1) rfl rfl rfl ?_
  refine o_iconst 3 0 X0 hx (hb hby d2_2) rfl rfl ?_
  refine o_aloadN 4 X0 hx (hb hby d2_3) rfl rfl rfl ?_
  obtain ⟨cl237, Ar237, q237, S237, Nn237, H237, G237⟩ := id A_s'
  refine own_j 5 [.int 7, .int 0, .ref s', .ref a] (fun t_ k_ => X0.arraylength hx (by rw [e0]; exact Ar237.1) (State.isArrayOf_alike hZ.alike Ar237.2.1) (g := (mkF mM 4 #[.val (.ref a), .val (.ref s')] [.ref s', .int 0, .ref s', .ref a])) rfl rfl (hb hby d2_4) t_ (by rw [len_of S237 Nn237]; exact k_)) ?_
  refine own_j 6 [.null, .int 7, .int 0, .ref s', .ref a] (fun t_ k_ => XS.aconstNull X0.here hx rfl (hb hby d2_5) k_) ?_
  obtain ⟨_, _, ⟨T238, L238, k238, n238⟩, -, X238, ⟨Lc238, hQ238, l238, y238, z238⟩, st238⟩ := X0.specialBack hx (y := yn8) rfl hown (mvT hZ (ow hw 12 rfl)) (mvT hZ (ow hw 13 rfl)) (mvT hZ (ow hw 15 rfl)) (by decide) (backOf (W := 0) (rmS4_7 lL Z a0 hw [] a s' ks cs x0 x1 x2 x3 x4 x5 x6 h0 n0 g_a E_a F_a_value F_a_coder A_s' nsa O Zn S_cs hcs cx0 cx1 cx2 cx3 cx4 cx5 cx6) hZ (ow hw 15 rfl) (ow hw 3 rfl) (by decide) (by decide)) (g := (mkF mM 6 #[.val (.ref a), .val (.ref s')] [.null, .int 7, .int 0, .ref s', .ref a])) rfl (by rw [hml]; rfl) (Steps.refl _) (a := a) (argsL := [.ref s', .int 0, .int 7, .null]) (rest := []) (lenOf pd__28_5bCIILjava_2flang_2fVoid_3b_29V rfl) rfl (by show 2 * 0 + _ ≤ _; exact Nat.le_of_eq rfl) (hb hby d2_6) (fun _ _ => ⟨rfl, e0, (by decide : 0 + 1 ≤ _), (by decide : 0 + 7 ≤ _)⟩)
  dsimp only [Pt.U, Pt.locs, Pt.cells, Pt.slots] at X238 l238 y238 z238 st238 hQ238
  subst l238 y238 z238
  obtain ⟨d238, k238', rfl, N238q, R238⟩ := hQ238
  have N238 := Fr.app N0 N238q
  have e238 : T238.heap = T238.heap := rfl
  refine own_k T238 9 [] (fun t_ k_ => st238.trans k_) ?_
  exact own_retV X238 hx hlk hret (hb hby d2_9) ⟨_, _, rfl, N238, R238⟩ (by decide) (by decide)
theorem ef_rmC5_9 (mM : MethodId) (s' : Addr) (ks : ClassId) (d : Addr) (kd : ClassId) (x0 : Int32) (x1 : Int32) (x2 : Int32) (x3 : Int32) (x4 : Int32) (x5 : Int32) (x6 : Int32) (x7 : Int32) (x8 : Int32) : entryFrame mM #[.ref s', .int 0, .ref d, .int 0, .int 9] 7 = mkF mM 0 #[.val (.ref s'), .val (.int 0), .val (.ref d), .val (.int 0), .val (.int 9), .unset, .unset] [] := by first | (simp [entryFrame, mkF, argsToLocals, Value.category]; done) | rfl
theorem rmC5_9 (lL : Launch) (Z : State) (a0 : Array Value) (hw : own_tb a0 Z) (ws : List Jvm.Cond) (s' : Addr) (ks : ClassId) (d : Addr) (kd : ClassId) (x0 : Int32) (x1 : Int32) (x2 : Int32) (x3 : Int32) (x4 : Int32) (x5 : Int32) (x6 : Int32) (x7 : Int32) (x8 : Int32) (h0 : Heap) (n0 : Nat) (A_s' : Arv Z h0 s' ks .char 9 [.int x0, .int x1, .int x2, .int x3, .int x4, .int x5, .int x6, .int x7, .int x8] (.int 0)) (A_d : Arv Z h0 d kd .byte 9 [.int 0, .int 0, .int 0, .int 0, .int 0, .int 0, .int 0, .int 0, .int 0] (.int 0)) (g_d : n0 ≤ d) (nsd : s' ≠ d) (cx0 : Ck x0) (cx1 : Ck x1) (cx2 : Ck x2) (cx3 : Ck x3) (cx4 : Ck x4) (cx5 : Ck x5) (cx6 : Ck x6) (cx7 : Ck x7) (cx8 : Ck x8) :
    own_Ct lL Z yn5 jdk_52_method_21_code 7 (some .int) ws (⟨0, 0, 0, 0⟩ : Room) #[.ref s', .int 0, .ref d, .int 0, .int 9] h0 (QC5 Z d kd 9 [(.int (((x0).toInt8.toInt32)).toInt8.toInt32), (.int (((x1).toInt8.toInt32)).toInt8.toInt32), (.int (((x2).toInt8.toInt32)).toInt8.toInt32), (.int (((x3).toInt8.toInt32)).toInt8.toInt32), (.int (((x4).toInt8.toInt32)).toInt8.toInt32), (.int (((x5).toInt8.toInt32)).toInt8.toInt32), (.int (((x6).toInt8.toInt32)).toInt8.toInt32), (.int (((x7).toInt8.toInt32)).toInt8.toInt32), (.int (((x8).toInt8.toInt32)).toInt8.toInt32)] h0 n0) := by
  refine own_body (plainFor_of_name pn_java_2flang_2fStringUTF16) 0 0 rfl rfl (fun mM => ef_rmC5_9 mM s' ks d kd x0 x1 x2 x3 x4 x5 x6 x7 x8) fun pP eE sS mM below meth cC s₁ hZ hx hby hml hown hnm hret hlk X0 e0 => ?_
  have N0 := Fr.nil n0
  have Kp := Keep.refl h0 [d]
  refine o_iconst 1 0 X0 hx (hb hby d6_0) rfl rfl ?_
  let Lv239 : Array Slot := #[.val (.ref s'), .val (.int 0), .val (.ref d), .val (.int 0), .val (.int 9), .val (.int 0), .unset]
  refine own_st (A := s₁.setTop (mkF mM 3 Lv239 [])) (fun t_ k_ => XS.istore X0.here hx rfl (hb hby d6_1) rfl (l' := Lv239) rfl k_) ?_
  refine T5a hw X0 hx hZ hby hml hown hlk hret e0 N0 s' ks d kd 9 0 1 0 x0 _ _ _ A_s' A_d g_d nsd (by decide) (by decide) rfl rfl (Nat.le_of_ble_eq_true rfl) cx0 rfl (fun T240 L240 h240 X240 e240 N240 K240 A_s' A_d => ?_)
  have Kp := Kp.trans K240 (allS (Or.inl (List.mem_of_getElem? (i := 0) rfl)) all0)
  refine T5b hw X240 hx hZ hby hml hown hlk hret e240 N240 s' ks d kd 9 1 2 1 x1 x0 _ _ _ A_s' A_d g_d nsd (by decide) (by decide) rfl rfl (Nat.le_of_ble_eq_true rfl) cx1 rfl (fun T241 L241 h241 X241 e241 N241 K241 A_s' A_d => ?_)
  have Kp := Kp.trans K241 (allS (Or.inl (List.mem_of_getElem? (i := 0) rfl)) all0)
  refine T5b hw X241 hx hZ hby hml hown hlk hret e241 N241 s' ks d kd 9 2 3 2 x2 x1 _ _ _ A_s' A_d g_d nsd (by decide) (by decide) rfl rfl (Nat.le_of_ble_eq_true rfl) cx2 rfl (fun T242 L242 h242 X242 e242 N242 K242 A_s' A_d => ?_)
  have Kp := Kp.trans K242 (allS (Or.inl (List.mem_of_getElem? (i := 0) rfl)) all0)
  refine T5b hw X242 hx hZ hby hml hown hlk hret e242 N242 s' ks d kd 9 3 4 3 x3 x2 _ _ _ A_s' A_d g_d nsd (by decide) (by decide) rfl rfl (Nat.le_of_ble_eq_true rfl) cx3 rfl (fun T243 L243 h243 X243 e243 N243 K243 A_s' A_d => ?_)
  have Kp := Kp.trans K243 (allS (Or.inl (List.mem_of_getElem? (i := 0) rfl)) all0)
  refine T5b hw X243 hx hZ hby hml hown hlk hret e243 N243 s' ks d kd 9 4 5 4 x4 x3 _ _ _ A_s' A_d g_d nsd (by decide) (by decide) rfl rfl (Nat.le_of_ble_eq_true rfl) cx4 rfl (fun T244 L244 h244 X244 e244 N244 K244 A_s' A_d => ?_)
  have Kp := Kp.trans K244 (allS (Or.inl (List.mem_of_getElem? (i := 0) rfl)) all0)
  refine T5b hw X244 hx hZ hby hml hown hlk hret e244 N244 s' ks d kd 9 5 6 5 x5 x4 _ _ _ A_s' A_d g_d nsd (by decide) (by decide) rfl rfl (Nat.le_of_ble_eq_true rfl) cx5 rfl (fun T245 L245 h245 X245 e245 N245 K245 A_s' A_d => ?_)
  have Kp := Kp.trans K245 (allS (Or.inl (List.mem_of_getElem? (i := 0) rfl)) all0)
  refine T5b hw X245 hx hZ hby hml hown hlk hret e245 N245 s' ks d kd 9 6 7 6 x6 x5 _ _ _ A_s' A_d g_d nsd (by decide) (by decide) rfl rfl (Nat.le_of_ble_eq_true rfl) cx6 rfl (fun T246 L246 h246 X246 e246 N246 K246 A_s' A_d => ?_)
  have Kp := Kp.trans K246 (allS (Or.inl (List.mem_of_getElem? (i := 0) rfl)) all0)
  refine T5b hw X246 hx hZ hby hml hown hlk hret e246 N246 s' ks d kd 9 7 8 7 x7 x6 _ _ _ A_s' A_d g_d nsd (by decide) (by decide) rfl rfl (Nat.le_of_ble_eq_true rfl) cx7 rfl (fun T247 L247 h247 X247 e247 N247 K247 A_s' A_d => ?_)
  have Kp := Kp.trans K247 (allS (Or.inl (List.mem_of_getElem? (i := 0) rfl)) all0)
  refine T5b hw X247 hx hZ hby hml hown hlk hret e247 N247 s' ks d kd 9 8 9 8 x8 x7 _ _ _ A_s' A_d g_d nsd (by decide) (by decide) rfl rfl (Nat.le_of_ble_eq_true rfl) cx8 rfl (fun T248 L248 h248 X248 e248 N248 K248 A_s' A_d => ?_)
  have Kp := Kp.trans K248 (allS (Or.inl (List.mem_of_getElem? (i := 0) rfl)) all0)
  refine o_iload 5 X248 hx (hb hby d6_3) rfl rfl ?_
  refine o_iload 7 X248 hx (hb hby d6_5) rfl rfl ?_
  refine o_icmpYes 44 X248 hx (hb hby d6_7) (flt (by decide : ¬ ((9 : Int32) < (9 : Int32)))).2.1 (by decide) ?_
  refine o_iload 46 X248 hx (hb hby d6_44) rfl rfl ?_
  exact own_retI X248 hx hlk hret (hb hby d6_46) (by rw [e248]; exact ⟨rfl, N248, Kp, A_d⟩) (by decide) (by decide)
theorem ef_rmC3_9 (mM : MethodId) (s' : Addr) (ks : ClassId) (x0 : Int32) (x1 : Int32) (x2 : Int32) (x3 : Int32) (x4 : Int32) (x5 : Int32) (x6 : Int32) (x7 : Int32) (x8 : Int32) : entryFrame mM #[.ref s', .int 0, .int 9] 6 = mkF mM 0 #[.val (.ref s'), .val (.int 0), .val (.int 9), .unset, .unset, .unset] [] := by first | (simp [entryFrame, mkF, argsToLocals, Value.category]; done) | rfl
theorem rmC3_9 (lL : Launch) (Z : State) (a0 : Array Value) (hw : own_tb a0 Z) (ws : List Jvm.Cond) (s' : Addr) (ks : ClassId) (x0 : Int32) (x1 : Int32) (x2 : Int32) (x3 : Int32) (x4 : Int32) (x5 : Int32) (x6 : Int32) (x7 : Int32) (x8 : Int32) (h0 : Heap) (n0 : Nat) (Zn : n0 ≤ h0.size) (A_s' : Arv Z h0 s' ks .char 9 [.int x0, .int x1, .int x2, .int x3, .int x4, .int x5, .int x6, .int x7, .int x8] (.int 0)) (cx0 : Ck x0) (cx1 : Ck x1) (cx2 : Ck x2) (cx3 : Ck x3) (cx4 : Ck x4) (cx5 : Ck x5) (cx6 : Ck x6) (cx7 : Ck x7) (cx8 : Ck x8) :
    own_Ct lL Z yn6 jdk_52_method_16_code 6 (some (.array .byte)) ws (⟨1, 1, 9, 18⟩ : Room) #[.ref s', .int 0, .int 9] h0 (QC3 Z 9 [(.int (((x0).toInt8.toInt32)).toInt8.toInt32), (.int (((x1).toInt8.toInt32)).toInt8.toInt32), (.int (((x2).toInt8.toInt32)).toInt8.toInt32), (.int (((x3).toInt8.toInt32)).toInt8.toInt32), (.int (((x4).toInt8.toInt32)).toInt8.toInt32), (.int (((x5).toInt8.toInt32)).toInt8.toInt32), (.int (((x6).toInt8.toInt32)).toInt8.toInt32), (.int (((x7).toInt8.toInt32)).toInt8.toInt32), (.int (((x8).toInt8.toInt32)).toInt8.toInt32)] h0 n0) := by
  refine own_body (plainFor_of_name pn_java_2flang_2fStringUTF16) 1 9 rfl rfl (fun mM => ef_rmC3_9 mM s' ks x0 x1 x2 x3 x4 x5 x6 x7 x8) fun pP eE sS mM below meth cC s₁ hZ hx hby hml hown hnm hret hlk X0 e0 => ?_
  have N0 := Fr.nil n0
  have Kp := Keep.refl h0 []
  refine o_iloadN 1 X0 hx (hb hby d5_0) rfl rfl ?_
  obtain ⟨T249, h249, k249, X249, e249, E249, A249, st249⟩ := newP X0 hx hZ (ow hw 24 rfl) e0 (g := (mkF mM 1 #[.val (.ref s'), .val (.int 0), .val (.int 9), .unset, .unset, .unset] [.int 9])) rfl (hb hby d5_1) rfl (by decide) (cap := 9) (by decide) (by decide) (by decide) (by decide)
  obtain ⟨b249, g249⟩ : ∃ z, z = h0.size := ⟨_, rfl⟩
  rw [← g249] at A249 st249
  have ne_s'_b249 : s' ≠ b249 := Nat.ne_of_lt (Nat.lt_of_lt_of_le A_s'.lt (Nat.le_of_eq g249.symm))
  have g_b249 : n0 ≤ b249 := Nat.le_trans Zn (Nat.le_of_eq g249.symm)
  have b_b249 : h0.size ≤ b249 := Nat.le_trans Kp.1 (Nat.le_of_eq g249.symm)
  have A_s' := A_s'.ext E249
  have Zn := Nat.le_trans Zn E249.1
  have Kp := Kp.ext E249
  have A_b249 : Arv Z h249 b249 k249 .byte 9 [.int 0, .int 0, .int 0, .int 0, .int 0, .int 0, .int 0, .int 0, .int 0] (.int 0) := (Arv.new A249 (by decide)).pad (pad_rep [] (.int 0) 9)
  refine own_k T249 3 [.ref b249] st249 ?_
  let Lv250 : Array Slot := #[.val (.ref s'), .val (.int 0), .val (.int 9), .val (.ref b249), .unset, .unset]
  refine own_st (A := T249.setTop (mkF mM 4 Lv250 [])) (fun t_ k_ => XS.astoreN X249.here hx rfl (hb hby d5_3) rfl rfl (l' := Lv250) rfl k_) ?_
  refine o_aloadN 5 X249 hx (hb hby d5_4) rfl rfl rfl ?_
  refine o_iloadN 6 X249 hx (hb hby d5_5) rfl rfl ?_
  refine o_aloadN 7 X249 hx (hb hby d5_6) rfl rfl rfl ?_
  refine o_iconst 8 0 X249 hx (hb hby d5_7) rfl rfl ?_
  refine o_iloadN 9 X249 hx (hb hby d5_8) rfl rfl ?_
  obtain ⟨_, _, ⟨T251, L251, k251, n251⟩, -, X251, ⟨Lc251, hQ251, l251, y251, z251⟩, st251⟩ := Jvm.LawKit.callS X249 hx (y := yn5) hown (mvT hZ (ow hw 25 rfl)) (mvT hZ (ow hw 26 rfl)) (mvT hZ (ow hw 22 rfl)) (mvT hZ (ow hw 27 rfl)) (by decide) (backOf (W := 0) (rmC5_9 lL Z a0 hw [] s' ks b249 k249 x0 x1 x2 x3 x4 x5 x6 x7 x8 h249 n0 A_s' A_b249 g_b249 ne_s'_b249 cx0 cx1 cx2 cx3 cx4 cx5 cx6 cx7 cx8) hZ (ow hw 27 rfl) (ow hw 22 rfl) (by decide) (by decide)) (g := (mkF mM 9 Lv250 [.int 9, .int 0, .ref b249, .int 0, .ref s'])) rfl (by rw [hml]; rfl) (argsL := [.ref s', .int 0, .ref b249, .int 0, .int 9]) (rest := []) (lenOf pd__28_5bCI_5bBII_29I rfl) rfl (by show 2 * 0 + _ ≤ _; exact Nat.le_of_eq rfl) (hb hby d5_9) (fun _ _ => ⟨rfl, e249, (by decide : 1 + 0 ≤ _), (by decide : 9 + 0 ≤ _)⟩)
  dsimp only [Pt.U, Pt.locs, Pt.cells, Pt.slots] at X251 l251 y251 z251 st251 hQ251
  subst l251 y251 z251
  obtain ⟨rfl, N251q, K251, V251⟩ := hQ251
  have N251 := Fr.app N0 N251q
  have e251 : T251.heap = T251.heap := rfl
  refine own_k T251 12 [.int 9] st251 ?_
  have A_s' := A_s'.keep K251 (ninS ne_s'_b249 nin0)
  have Zn := Nat.le_trans Zn K251.1
  have Kp := Kp.trans K251 (allS (Or.inr b_b249) all0)
  have A_b249 := V251
  let Lv252 : Array Slot := #[.val (.ref s'), .val (.int 0), .val (.int 9), .val (.ref b249), .val (.int 9), .unset]
  refine own_st (A := T251.setTop (mkF mM 14 Lv252 [])) (fun t_ k_ => XS.istore X251.here hx rfl (hb hby d5_12) rfl (l' := Lv252) rfl k_) ?_
  refine o_iload 16 X251 hx (hb hby d5_14) rfl rfl ?_
  refine o_iloadN 17 X251 hx (hb hby d5_16) rfl rfl ?_
  refine o_icmpYes 57 X251 hx (hb hby d5_17) (teq (by decide : ((9 : Int32) = (9 : Int32)))).1 (by decide) ?_
  refine o_aloadN 58 X251 hx (hb hby d5_57) rfl rfl rfl ?_
  exact own_retA X251 hx hlk hret rfl rfl (hb hby d5_58) (by rw [e251]; exact ⟨_, _, rfl, N251, own_ext_of_keep Kp, A_b249, b_b249⟩) (by decide) (by decide)
theorem ef_rmCo_9 (mM : MethodId) (d : Addr) (kd : ClassId) (x0 : Int32) (x1 : Int32) (x2 : Int32) (x3 : Int32) (x4 : Int32) (x5 : Int32) (x6 : Int32) (x7 : Int32) (x8 : Int32) : entryFrame mM #[.ref d, .int 9] 2 = mkF mM 0 #[.val (.ref d), .val (.int 9)] [] := by first | (simp [entryFrame, mkF, argsToLocals, Value.category]; done) | rfl
theorem rmCo_9 (lL : Launch) (Z : State) (a0 : Array Value) (hw : own_tb a0 Z) (ws : List Jvm.Cond) (d : Addr) (kd : ClassId) (x0 : Int32) (x1 : Int32) (x2 : Int32) (x3 : Int32) (x4 : Int32) (x5 : Int32) (x6 : Int32) (x7 : Int32) (x8 : Int32) (h0 : Heap) (n0 : Nat) (A_d : Arv Z h0 d kd .byte 9 [(.int (((x0).toInt8.toInt32)).toInt8.toInt32), (.int (((x1).toInt8.toInt32)).toInt8.toInt32), (.int (((x2).toInt8.toInt32)).toInt8.toInt32), (.int (((x3).toInt8.toInt32)).toInt8.toInt32), (.int (((x4).toInt8.toInt32)).toInt8.toInt32), (.int (((x5).toInt8.toInt32)).toInt8.toInt32), (.int (((x6).toInt8.toInt32)).toInt8.toInt32), (.int (((x7).toInt8.toInt32)).toInt8.toInt32), (.int (((x8).toInt8.toInt32)).toInt8.toInt32)] (.int 0)) :
    own_Ct lL Z yn7 jdk_52_method_15_code 2 (some .byte) ws (⟨0, 0, 0, 0⟩ : Room) #[.ref d, .int 9] h0 (Qw (.int 0) h0 n0) := by
  refine own_body (plainFor_of_name pn_java_2flang_2fStringUTF16) 0 0 rfl rfl (fun mM => ef_rmCo_9 mM d kd x0 x1 x2 x3 x4 x5 x6 x7 x8) fun pP eE sS mM below meth cC s₁ hZ hx hby hml hown hnm hret hlk X0 e0 => ?_
  have N0 := Fr.nil n0
  refine o_iloadN 1 X0 hx (hb hby d7_0) rfl rfl ?_
  refine o_aloadN 2 X0 hx (hb hby d7_1) rfl rfl rfl ?_
  obtain ⟨cl253, Ar253, q253, S253, Nn253, H253, G253⟩ := id A_d
  refine own_j 3 [.int 9, .int 9] (fun t_ k_ => X0.arraylength hx (by rw [e0]; exact Ar253.1) (State.isArrayOf_alike hZ.alike Ar253.2.1) (g := (mkF mM 2 #[.val (.ref d), .val (.int 9)] [.ref d, .int 9])) rfl rfl (hb hby d7_2) t_ (by rw [len_of S253 Nn253]; exact k_)) ?_
  refine own_j 4 [.int 0] (fun t_ k_ => XS.isub X0.here hx rfl (hb hby d7_3) rfl k_) ?_
  refine o_bipush 6 31 X0 hx (hb hby d7_4) rfl rfl ?_
  refine own_j 7 [(.int (((0 : Int32).toUInt32 >>> ((31 : Int32) &&& 31).toUInt32).toInt32))] (fun t_ k_ => XS.iushr X0.here hx rfl (hb hby d7_6) rfl k_) ?_
  refine own_j 8 [(.int (((((0 : Int32).toUInt32 >>> ((31 : Int32) &&& 31).toUInt32).toInt32)).toInt8.toInt32))] (fun t_ k_ => XS.i2b X0.here hx rfl (hb hby d7_7) rfl k_) ?_
  exact own_retN X0 hx hlk (t := .byte) hret (by simp) (hb hby d7_8) (show Qw _ _ _ (some (.int 0)) _ _ from ⟨rfl, N0, e0⟩) (by decide) (by decide)
theorem ef_rmS4_9 (mM : MethodId) (a : Addr) (s' : Addr) (ks : ClassId) (cs : Int32) (x0 : Int32) (x1 : Int32) (x2 : Int32) (x3 : Int32) (x4 : Int32) (x5 : Int32) (x6 : Int32) (x7 : Int32) (x8 : Int32) : entryFrame mM #[.ref a, .ref s', .int 0, .int 9, .null] 6 = mkF mM 0 #[.val (.ref a), .val (.ref s'), .val (.int 0), .val (.int 9), .val .null, .unset] [] := by first | (simp [entryFrame, mkF, argsToLocals, Value.category]; done) | rfl
theorem rmS4_9 (lL : Launch) (Z : State) (a0 : Array Value) (hw : own_tb a0 Z) (ws : List Jvm.Cond) (a : Addr) (s' : Addr) (ks : ClassId) (cs : Int32) (x0 : Int32) (x1 : Int32) (x2 : Int32) (x3 : Int32) (x4 : Int32) (x5 : Int32) (x6 : Int32) (x7 : Int32) (x8 : Int32) (h0 : Heap) (n0 : Nat) (g_a : n0 ≤ a) (E_a : Exa Z h0 a "java/lang/String") (F_a_value : Fld Z h0 a "java/lang/String" "value" "[B" .null) (F_a_coder : Fld Z h0 a "java/lang/String" "coder" "B" (.int 0)) (A_s' : Arv Z h0 s' ks .char 9 [.int x0, .int x1, .int x2, .int x3, .int x4, .int x5, .int x6, .int x7, .int x8] (.int 0)) (nsa : s' ≠ a) (O : Old Z n0 h0) (Zn : n0 ≤ h0.size) (S_cs : Sta Z Z.heap "java/lang/String" "COMPACT_STRINGS" "Z" (.int cs)) (hcs : ¬ cs = (0 : Int32)) (cx0 : Ck x0) (cx1 : Ck x1) (cx2 : Ck x2) (cx3 : Ck x3) (cx4 : Ck x4) (cx5 : Ck x5) (cx6 : Ck x6) (cx7 : Ck x7) (cx8 : Ck x8) :
    own_Ct lL Z yn8 jdk_42_method_149_code 6 none ws (⟨2, 1, 9, 35⟩ : Room) #[.ref a, .ref s', .int 0, .int 9, .null] h0 (QS Z a 9 [(.int (((x0).toInt8.toInt32)).toInt8.toInt32), (.int (((x1).toInt8.toInt32)).toInt8.toInt32), (.int (((x2).toInt8.toInt32)).toInt8.toInt32), (.int (((x3).toInt8.toInt32)).toInt8.toInt32), (.int (((x4).toInt8.toInt32)).toInt8.toInt32), (.int (((x5).toInt8.toInt32)).toInt8.toInt32), (.int (((x6).toInt8.toInt32)).toInt8.toInt32), (.int (((x7).toInt8.toInt32)).toInt8.toInt32), (.int (((x8).toInt8.toInt32)).toInt8.toInt32)] h0 n0) := by
  refine own_body (plainFor_of_name pn_java_2flang_2fString) 1 9 rfl rfl (fun mM => ef_rmS4_9 mM a s' ks cs x0 x1 x2 x3 x4 x5 x6 x7 x8) fun pP eE sS mM below meth cC s₁ hZ hx hby hml hown hnm hret hlk X0 e0 => ?_
  have N0 := Fr.nil n0
  have Kp := Keep.refl h0 [a]
  refine o_aloadN 1 X0 hx (hb hby d3_0) rfl rfl rfl ?_
  obtain ⟨T254, X254, e254, st254⟩ := initO X0 hx hZ hown (ow hw 16 rfl) (ow hw 17 rfl) (ow hw 18 rfl) e0 (g := (mkF mM 1 #[.val (.ref a), .val (.ref s'), .val (.int 0), .val (.int 9), .val .null, .unset] [.ref a])) rfl (by rw [hml]; rfl) rfl (hb hby d3_1) (by decide) (W := 0) (by show 2 * 0 + _ ≤ _; exact Nat.le_of_eq rfl) (by decide)
  refine own_k T254 4 [] st254 ?_
  refine o_iloadN 5 X254 hx (hb hby d3_4) rfl rfl ?_
  refine o_ifYes 27 X254 hx (hb hby d3_5) ((if0 _ _).trans (feq (by decide : ¬ ((9 : Int32) = (0 : Int32)))).2) (by decide) ?_
  obtain ⟨T255, X255, e255, st255⟩ := getS2 X254 hx hZ hown (host := "") (Or.inl (ow hw 19 rfl)) Via.refl e254 (S_cs.ext O.2) (g := (mkF mM 27 #[.val (.ref a), .val (.ref s'), .val (.int 0), .val (.int 9), .val .null, .unset] [])) rfl (hb hby d3_27)
  refine own_k T255 30 [.int cs] st255 ?_
  refine o_ifNo 33 X255 hx (hb hby d3_30) ((if0 _ _).trans (feq hcs).1) rfl ?_
  refine o_aloadN 34 X255 hx (hb hby d3_33) rfl rfl rfl ?_
  refine o_iloadN 35 X255 hx (hb hby d3_34) rfl rfl ?_
  refine o_iloadN 36 X255 hx (hb hby d3_35) rfl rfl ?_
  obtain ⟨_, _, ⟨T256, L256, k256, n256⟩, -, X256, ⟨Lc256, hQ256, l256, y256, z256⟩, st256⟩ := Jvm.LawKit.callS X255 hx (y := yn6) hown (mvT hZ (ow hw 20 rfl)) (mvT hZ (ow hw 21 rfl)) (mvT hZ (ow hw 22 rfl)) (mvT hZ (ow hw 23 rfl)) (by decide) (backOf (W := 0) (rmC3_9 lL Z a0 hw [] s' ks x0 x1 x2 x3 x4 x5 x6 x7 x8 h0 n0 Zn A_s' cx0 cx1 cx2 cx3 cx4 cx5 cx6 cx7 cx8) hZ (ow hw 23 rfl) (ow hw 22 rfl) (by decide) (by decide)) (g := (mkF mM 36 #[.val (.ref a), .val (.ref s'), .val (.int 0), .val (.int 9), .val .null, .unset] [.int 9, .int 0, .ref s'])) rfl (by rw [hml]; rfl) (argsL := [.ref s', .int 0, .int 9]) (rest := []) (lenOf pd__28_5bCII_29_5bB rfl) rfl (by show 2 * 0 + _ ≤ _; exact Nat.le_of_eq rfl) (hb hby d3_36) (fun _ _ => ⟨rfl, e255, (by decide : 0 + 1 ≤ _), (by decide : 0 + 9 ≤ _)⟩)
  dsimp only [Pt.U, Pt.locs, Pt.cells, Pt.slots] at X256 l256 y256 z256 st256 hQ256
  subst l256 y256 z256
  obtain ⟨b256, k256', rfl, N256q, E256, V256, ge256⟩ := hQ256
  have N256 := Fr.app N0 N256q
  have e256 : T256.heap = T256.heap := rfl
  refine own_k T256 39 [.ref b256] st256 ?_
  have ne_a_b256 : a ≠ b256 := Nat.ne_of_lt (Nat.lt_of_lt_of_le E_a.lt ge256)
  have b_b256 : h0.size ≤ b256 := Nat.le_trans Kp.1 ge256
  have F_a_value := F_a_value.ext E256
  have F_a_coder := F_a_coder.ext E256
  have E_a := E_a.ext E256
  have O := O.ext E256
  have A_s' := A_s'.ext E256
  have Zn := Nat.le_trans Zn E256.1
  have Kp := Kp.ext E256
  have A_b256 := V256
  let Lv257 : Array Slot := #[.val (.ref a), .val (.ref s'), .val (.int 0), .val (.int 9), .val .null, .val (.ref b256)]
  refine own_st (A := T256.setTop (mkF mM 41 Lv257 [])) (fun t_ k_ => XS.astore X256.here hx rfl (hb hby d3_39) rfl rfl (l' := Lv257) rfl k_) ?_
  refine o_aloadN 42 X256 hx (hb hby d3_41) rfl rfl rfl ?_
  refine o_aload 44 X256 hx (hb hby d3_42) rfl rfl rfl ?_
  refine o_iloadN 45 X256 hx (hb hby d3_44) rfl rfl ?_
  obtain ⟨_, _, ⟨T258, L258, k258, n258⟩, -, X258, ⟨Lc258, hQ258, l258, y258, z258⟩, st258⟩ := Jvm.LawKit.callS X256 hx (y := yn7) hown (mvT hZ (ow hw 28 rfl)) (mvT hZ (ow hw 29 rfl)) (mvT hZ (ow hw 22 rfl)) (mvT hZ (ow hw 30 rfl)) (by decide) (backOf (W := 1) (rmCo_9 lL Z a0 hw [] b256 k256' x0 x1 x2 x3 x4 x5 x6 x7 x8 T256.heap n0 A_b256) hZ (ow hw 30 rfl) (ow hw 22 rfl) (by decide) (by decide)) (g := (mkF mM 45 Lv257 [.int 9, .ref b256, .ref a])) rfl (by rw [hml]; rfl) (argsL := [.ref b256, .int 9]) (rest := [.ref a]) (lenOf pd__28_5bBI_29B rfl) rfl (by show 2 * 0 + _ ≤ _; exact Nat.le_of_eq rfl) (hb hby d3_45) (fun _ _ => ⟨rfl, e256, (by decide : 1 + 0 ≤ _), (by decide : 9 + 0 ≤ _)⟩)
  dsimp only [Pt.U, Pt.locs, Pt.cells, Pt.slots] at X258 l258 y258 z258 st258 hQ258
  subst l258 y258 z258
  obtain ⟨rfl, N258q, e258⟩ := hQ258
  have N258 := Fr.app N256 N258q
  refine own_k T258 48 [.int 0, .ref a] st258 ?_
  obtain ⟨T259, h259, X259, e259, W259, st259⟩ := putFN X258 hx hZ hown (ow hw 31 rfl) Via.refl e258 F_a_coder E_a (Or.inr ⟨(ow hw 32 rfl), rfl, hnm⟩) (ow hw 2 rfl) (ty := .byte) (v' := (.int 0)) (by decide) rfl (by decide) (g := (mkF mM 48 Lv257 [.int 0, .ref a])) rfl rfl (hb hby d3_48)
  have N259 := Fr.snoc X259 N258 g_a
  have F_a_value := F_a_value.other W259 (Or.inr (slot_ne (Or.inr (ow hw 34 rfl)) (Or.inr (ow hw 32 rfl)) (by decide) (t := (.array .byte)) (t' := .byte) (by decide) (by decide)))
  have F_a_coder := F_a_coder.same W259
  have E_a := E_a.wr W259
  have A_s' := A_s'.other W259 nsa
  have A_b256 := A_b256.other W259 (Ne.symm ne_a_b256)
  have O := O.wr W259 g_a
  have Zn := Nat.le_trans Zn (Keep.of_wr W259).1
  have Kp := Kp.wr W259 (Or.inl (List.mem_of_getElem? (i := 0) rfl))
  refine own_k T259 51 [] st259 ?_
  refine o_aloadN 52 X259 hx (hb hby d3_51) rfl rfl rfl ?_
  refine o_aload 54 X259 hx (hb hby d3_52) rfl rfl rfl ?_
  obtain ⟨T260, h260, X260, e260, W260, st260⟩ := putF X259 hx hZ hown (host := "") (Or.inl (ow hw 33 rfl)) Via.refl e259 F_a_value E_a (Or.inr ⟨(ow hw 34 rfl), rfl, hnm⟩) (ow hw 2 rfl) (ty := (.array .byte)) (by decide) rfl rfl (g := (mkF mM 54 Lv257 [.ref b256, .ref a])) rfl rfl (hb hby d3_54)
  have N260 := Fr.snoc X260 N259 g_a
  have F_a_value := F_a_value.same W260
  have F_a_coder := F_a_coder.other W260 (Or.inr (slot_ne (Or.inr (ow hw 32 rfl)) (Or.inr (ow hw 34 rfl)) (by decide) (t := .byte) (t' := (.array .byte)) (by decide) (by decide)))
  have E_a := E_a.wr W260
  have A_s' := A_s'.other W260 nsa
  have A_b256 := A_b256.other W260 (Ne.symm ne_a_b256)
  have O := O.wr W260 g_a
  have Zn := Nat.le_trans Zn (Keep.of_wr W260).1
  have Kp := Kp.wr W260 (Or.inl (List.mem_of_getElem? (i := 0) rfl))
  refine own_k T260 57 [] st260 ?_
  exact own_retV X260 hx hlk hret (hb hby d3_57) (by rw [e260]; exact ⟨_, _, rfl, N260, Kp, ⟨E_a, F_a_value, F_a_coder, A_b256⟩, b_b256⟩) (by decide) (by decide)
theorem ef_rmS1_9 (mM : MethodId) (a : Addr) (s' : Addr) (ks : ClassId) (cs : Int32) (x0 : Int32) (x1 : Int32) (x2 : Int32) (x3 : Int32) (x4 : Int32) (x5 : Int32) (x6 : Int32) (x7 : Int32) (x8 : Int32) : entryFrame mM #[.ref a, .ref s'] 2 = mkF mM 0 #[.val (.ref a), .val (.ref s')] [] := by first | (simp [entryFrame, mkF, argsToLocals, Value.category]; done) | rfl
theorem rmS1_9 (lL : Launch) (Z : State) (a0 : Array Value) (hw : own_tb a0 Z) (ws : List Jvm.Cond) (a : Addr) (s' : Addr) (ks : ClassId) (cs : Int32) (x0 : Int32) (x1 : Int32) (x2 : Int32) (x3 : Int32) (x4 : Int32) (x5 : Int32) (x6 : Int32) (x7 : Int32) (x8 : Int32) (h0 : Heap) (n0 : Nat) (g_a : n0 ≤ a) (E_a : Exa Z h0 a "java/lang/String") (F_a_value : Fld Z h0 a "java/lang/String" "value" "[B" .null) (F_a_coder : Fld Z h0 a "java/lang/String" "coder" "B" (.int 0)) (A_s' : Arv Z h0 s' ks .char 9 [.int x0, .int x1, .int x2, .int x3, .int x4, .int x5, .int x6, .int x7, .int x8] (.int 0)) (nsa : s' ≠ a) (O : Old Z n0 h0) (Zn : n0 ≤ h0.size) (S_cs : Sta Z Z.heap "java/lang/String" "COMPACT_STRINGS" "Z" (.int cs)) (hcs : ¬ cs = (0 : Int32)) (cx0 : Ck x0) (cx1 : Ck x1) (cx2 : Ck x2) (cx3 : Ck x3) (cx4 : Ck x4) (cx5 : Ck x5) (cx6 : Ck x6) (cx7 : Ck x7) (cx8 : Ck x8) :
    own_Ct lL Z yn9 jdk_42_method_3_code 2 none ws (⟨3, 1, 9, 52⟩ : Room) #[.ref a, .ref s'] h0 (QS Z a 9 [(.int (((x0).toInt8.toInt32)).toInt8.toInt32), (.int (((x1).toInt8.toInt32)).toInt8.toInt32), (.int (((x2).toInt8.toInt32)).toInt8.toInt32), (.int (((x3).toInt8.toInt32)).toInt8.toInt32), (.int (((x4).toInt8.toInt32)).toInt8.toInt32), (.int (((x5).toInt8.toInt32)).toInt8.toInt32), (.int (((x6).toInt8.toInt32)).toInt8.toInt32), (.int (((x7).toInt8.toInt32)).toInt8.toInt32), (.int (((x8).toInt8.toInt32)).toInt8.toInt32)] h0 n0) := by
  refine own_body (plainFor_of_name pn_java_2flang_2fString) 1 9 rfl rfl (fun mM => ef_rmS1_9 mM a s' ks cs x0 x1 x2 x3 x4 x5 x6 x7 x8) fun pP eE sS mM below meth cC s₁ hZ hx hby hml hown hnm hret hlk X0 e0 => ?_
  have N0 := Fr.nil n0
  refine o_aloadN 1 X0 hx (hb hby d2_0) rfl rfl rfl ?_
  refine o_aloadN 2 X0 hx (hb hby d2_1) rfl rfl rfl ?_
  refine o_iconst 3 0 X0 hx (hb hby d2_2) rfl rfl ?_
  refine o_aloadN 4 X0 hx (hb hby d2_3) rfl rfl rfl ?_
  obtain ⟨cl261, Ar261, q261, S261, Nn261, H261, G261⟩ := id A_s'
  refine own_j 5 [.int 9, .int 0, .ref s', .ref a] (fun t_ k_ => X0.arraylength hx (by rw [e0]; exact Ar261.1) (State.isArrayOf_alike hZ.alike Ar261.2.1) (g := (mkF mM 4 #[.val (.ref a), .val (.ref s')] [.ref s', .int 0, .ref s', .ref a])) rfl rfl (hb hby d2_4) t_ (by rw [len_of S261 Nn261]; exact k_)) ?_
  refine own_j 6 [.null, .int 9, .int 0, .ref s', .ref a] (fun t_ k_ => XS.aconstNull X0.here hx rfl (hb hby d2_5) k_) ?_
  obtain ⟨_, _, ⟨T262, L262, k262, n262⟩, -, X262, ⟨Lc262, hQ262, l262, y262, z262⟩, st262⟩ := X0.specialBack hx (y := yn8) rfl hown (mvT hZ (ow hw 12 rfl)) (mvT hZ (ow hw 13 rfl)) (mvT hZ (ow hw 15 rfl)) (by decide) (backOf (W := 0) (rmS4_9 lL Z a0 hw [] a s' ks cs x0 x1 x2 x3 x4 x5 x6 x7 x8 h0 n0 g_a E_a F_a_value F_a_coder A_s' nsa O Zn S_cs hcs cx0 cx1 cx2 cx3 cx4 cx5 cx6 cx7 cx8) hZ (ow hw 15 rfl) (ow hw 3 rfl) (by decide) (by decide)) (g := (mkF mM 6 #[.val (.ref a), .val (.ref s')] [.null, .int 9, .int 0, .ref s', .ref a])) rfl (by rw [hml]; rfl) (Steps.refl _) (a := a) (argsL := [.ref s', .int 0, .int 9, .null]) (rest := []) (lenOf pd__28_5bCIILjava_2flang_2fVoid_3b_29V rfl) rfl (by show 2 * 0 + _ ≤ _; exact Nat.le_of_eq rfl) (hb hby d2_6) (fun _ _ => ⟨rfl, e0, (by decide : 0 + 1 ≤ _), (by decide : 0 + 9 ≤ _)⟩)
  dsimp only [Pt.U, Pt.locs, Pt.cells, Pt.slots] at X262 l262 y262 z262 st262 hQ262
  subst l262 y262 z262
  obtain ⟨d262, k262', rfl, N262q, R262⟩ := hQ262
  have N262 := Fr.app N0 N262q
  have e262 : T262.heap = T262.heap := rfl
  refine own_k T262 9 [] (fun t_ k_ => st262.trans k_) ?_
  exact own_retV X262 hx hlk hret (hb hby d2_9) ⟨_, _, rfl, N262, R262⟩ (by decide) (by decide)
theorem ef_rmC5_10 (mM : MethodId) (s' : Addr) (ks : ClassId) (d : Addr) (kd : ClassId) (x0 : Int32) (x1 : Int32) (x2 : Int32) (x3 : Int32) (x4 : Int32) (x5 : Int32) (x6 : Int32) (x7 : Int32) (x8 : Int32) (x9 : Int32) : entryFrame mM #[.ref s', .int 0, .ref d, .int 0, .int 10] 7 = mkF mM 0 #[.val (.ref s'), .val (.int 0), .val (.ref d), .val (.int 0), .val (.int 10), .unset, .unset] [] := by first | (simp [entryFrame, mkF, argsToLocals, Value.category]; done) | rfl
theorem rmC5_10 (lL : Launch) (Z : State) (a0 : Array Value) (hw : own_tb a0 Z) (ws : List Jvm.Cond) (s' : Addr) (ks : ClassId) (d : Addr) (kd : ClassId) (x0 : Int32) (x1 : Int32) (x2 : Int32) (x3 : Int32) (x4 : Int32) (x5 : Int32) (x6 : Int32) (x7 : Int32) (x8 : Int32) (x9 : Int32) (h0 : Heap) (n0 : Nat) (A_s' : Arv Z h0 s' ks .char 10 [.int x0, .int x1, .int x2, .int x3, .int x4, .int x5, .int x6, .int x7, .int x8, .int x9] (.int 0)) (A_d : Arv Z h0 d kd .byte 10 [.int 0, .int 0, .int 0, .int 0, .int 0, .int 0, .int 0, .int 0, .int 0, .int 0] (.int 0)) (g_d : n0 ≤ d) (nsd : s' ≠ d) (cx0 : Ck x0) (cx1 : Ck x1) (cx2 : Ck x2) (cx3 : Ck x3) (cx4 : Ck x4) (cx5 : Ck x5) (cx6 : Ck x6) (cx7 : Ck x7) (cx8 : Ck x8) (cx9 : Ck x9) :
    own_Ct lL Z yn5 jdk_52_method_21_code 7 (some .int) ws (⟨0, 0, 0, 0⟩ : Room) #[.ref s', .int 0, .ref d, .int 0, .int 10] h0 (QC5 Z d kd 10 [(.int (((x0).toInt8.toInt32)).toInt8.toInt32), (.int (((x1).toInt8.toInt32)).toInt8.toInt32), (.int (((x2).toInt8.toInt32)).toInt8.toInt32), (.int (((x3).toInt8.toInt32)).toInt8.toInt32), (.int (((x4).toInt8.toInt32)).toInt8.toInt32), (.int (((x5).toInt8.toInt32)).toInt8.toInt32), (.int (((x6).toInt8.toInt32)).toInt8.toInt32), (.int (((x7).toInt8.toInt32)).toInt8.toInt32), (.int (((x8).toInt8.toInt32)).toInt8.toInt32), (.int (((x9).toInt8.toInt32)).toInt8.toInt32)] h0 n0) := by
  refine own_body (plainFor_of_name pn_java_2flang_2fStringUTF16) 0 0 rfl rfl (fun mM => ef_rmC5_10 mM s' ks d kd x0 x1 x2 x3 x4 x5 x6 x7 x8 x9) fun pP eE sS mM below meth cC s₁ hZ hx hby hml hown hnm hret hlk X0 e0 => ?_
  have N0 := Fr.nil n0
  have Kp := Keep.refl h0 [d]
  refine o_iconst 1 0 X0 hx (hb hby d6_0) rfl rfl ?_
  let Lv263 : Array Slot := #[.val (.ref s'), .val (.int 0), .val (.ref d), .val (.int 0), .val (.int 10), .val (.int 0), .unset]
  refine own_st (A := s₁.setTop (mkF mM 3 Lv263 [])) (fun t_ k_ => XS.istore X0.here hx rfl (hb hby d6_1) rfl (l' := Lv263) rfl k_) ?_
  refine T5a hw X0 hx hZ hby hml hown hlk hret e0 N0 s' ks d kd 10 0 1 0 x0 _ _ _ A_s' A_d g_d nsd (by decide) (by decide) rfl rfl (Nat.le_of_ble_eq_true rfl) cx0 rfl (fun T264 L264 h264 X264 e264 N264 K264 A_s' A_d => ?_)
  have Kp := Kp.trans K264 (allS (Or.inl (List.mem_of_getElem? (i := 0) rfl)) all0)
  refine T5b hw X264 hx hZ hby hml hown hlk hret e264 N264 s' ks d kd 10 1 2 1 x1 x0 _ _ _ A_s' A_d g_d nsd (by decide) (by decide) rfl rfl (Nat.le_of_ble_eq_true rfl) cx1 rfl (fun T265 L265 h265 X265 e265 N265 K265 A_s' A_d => ?_)
  have Kp := Kp.trans K265 (allS (Or.inl (List.mem_of_getElem? (i := 0) rfl)) all0)
  refine T5b hw X265 hx hZ hby hml hown hlk hret e265 N265 s' ks d kd 10 2 3 2 x2 x1 _ _ _ A_s' A_d g_d nsd (by decide) (by decide) rfl rfl (Nat.le_of_ble_eq_true rfl) cx2 rfl (fun T266 L266 h266 X266 e266 N266 K266 A_s' A_d => ?_)
  have Kp := Kp.trans K266 (allS (Or.inl (List.mem_of_getElem? (i := 0) rfl)) all0)
  refine T5b hw X266 hx hZ hby hml hown hlk hret e266 N266 s' ks d kd 10 3 4 3 x3 x2 _ _ _ A_s' A_d g_d nsd (by decide) (by decide) rfl rfl (Nat.le_of_ble_eq_true rfl) cx3 rfl (fun T267 L267 h267 X267 e267 N267 K267 A_s' A_d => ?_)
  have Kp := Kp.trans K267 (allS (Or.inl (List.mem_of_getElem? (i := 0) rfl)) all0)
  refine T5b hw X267 hx hZ hby hml hown hlk hret e267 N267 s' ks d kd 10 4 5 4 x4 x3 _ _ _ A_s' A_d g_d nsd (by decide) (by decide) rfl rfl (Nat.le_of_ble_eq_true rfl) cx4 rfl (fun T268 L268 h268 X268 e268 N268 K268 A_s' A_d => ?_)
  have Kp := Kp.trans K268 (allS (Or.inl (List.mem_of_getElem? (i := 0) rfl)) all0)
  refine T5b hw X268 hx hZ hby hml hown hlk hret e268 N268 s' ks d kd 10 5 6 5 x5 x4 _ _ _ A_s' A_d g_d nsd (by decide) (by decide) rfl rfl (Nat.le_of_ble_eq_true rfl) cx5 rfl (fun T269 L269 h269 X269 e269 N269 K269 A_s' A_d => ?_)
  have Kp := Kp.trans K269 (allS (Or.inl (List.mem_of_getElem? (i := 0) rfl)) all0)
  refine T5b hw X269 hx hZ hby hml hown hlk hret e269 N269 s' ks d kd 10 6 7 6 x6 x5 _ _ _ A_s' A_d g_d nsd (by decide) (by decide) rfl rfl (Nat.le_of_ble_eq_true rfl) cx6 rfl (fun T270 L270 h270 X270 e270 N270 K270 A_s' A_d => ?_)
  have Kp := Kp.trans K270 (allS (Or.inl (List.mem_of_getElem? (i := 0) rfl)) all0)
  refine T5b hw X270 hx hZ hby hml hown hlk hret e270 N270 s' ks d kd 10 7 8 7 x7 x6 _ _ _ A_s' A_d g_d nsd (by decide) (by decide) rfl rfl (Nat.le_of_ble_eq_true rfl) cx7 rfl (fun T271 L271 h271 X271 e271 N271 K271 A_s' A_d => ?_)
  have Kp := Kp.trans K271 (allS (Or.inl (List.mem_of_getElem? (i := 0) rfl)) all0)
  refine T5b hw X271 hx hZ hby hml hown hlk hret e271 N271 s' ks d kd 10 8 9 8 x8 x7 _ _ _ A_s' A_d g_d nsd (by decide) (by decide) rfl rfl (Nat.le_of_ble_eq_true rfl) cx8 rfl (fun T272 L272 h272 X272 e272 N272 K272 A_s' A_d => ?_)
  have Kp := Kp.trans K272 (allS (Or.inl (List.mem_of_getElem? (i := 0) rfl)) all0)
  refine T5b hw X272 hx hZ hby hml hown hlk hret e272 N272 s' ks d kd 10 9 10 9 x9 x8 _ _ _ A_s' A_d g_d nsd (by decide) (by decide) rfl rfl (Nat.le_of_ble_eq_true rfl) cx9 rfl (fun T273 L273 h273 X273 e273 N273 K273 A_s' A_d => ?_)
  have Kp := Kp.trans K273 (allS (Or.inl (List.mem_of_getElem? (i := 0) rfl)) all0)
  refine o_iload 5 X273 hx (hb hby d6_3) rfl rfl ?_
  refine o_iload 7 X273 hx (hb hby d6_5) rfl rfl ?_
  refine o_icmpYes 44 X273 hx (hb hby d6_7) (flt (by decide : ¬ ((10 : Int32) < (10 : Int32)))).2.1 (by decide) ?_
  refine o_iload 46 X273 hx (hb hby d6_44) rfl rfl ?_
  exact own_retI X273 hx hlk hret (hb hby d6_46) (by rw [e273]; exact ⟨rfl, N273, Kp, A_d⟩) (by decide) (by decide)
theorem ef_rmC3_10 (mM : MethodId) (s' : Addr) (ks : ClassId) (x0 : Int32) (x1 : Int32) (x2 : Int32) (x3 : Int32) (x4 : Int32) (x5 : Int32) (x6 : Int32) (x7 : Int32) (x8 : Int32) (x9 : Int32) : entryFrame mM #[.ref s', .int 0, .int 10] 6 = mkF mM 0 #[.val (.ref s'), .val (.int 0), .val (.int 10), .unset, .unset, .unset] [] := by first | (simp [entryFrame, mkF, argsToLocals, Value.category]; done) | rfl
theorem rmC3_10 (lL : Launch) (Z : State) (a0 : Array Value) (hw : own_tb a0 Z) (ws : List Jvm.Cond) (s' : Addr) (ks : ClassId) (x0 : Int32) (x1 : Int32) (x2 : Int32) (x3 : Int32) (x4 : Int32) (x5 : Int32) (x6 : Int32) (x7 : Int32) (x8 : Int32) (x9 : Int32) (h0 : Heap) (n0 : Nat) (Zn : n0 ≤ h0.size) (A_s' : Arv Z h0 s' ks .char 10 [.int x0, .int x1, .int x2, .int x3, .int x4, .int x5, .int x6, .int x7, .int x8, .int x9] (.int 0)) (cx0 : Ck x0) (cx1 : Ck x1) (cx2 : Ck x2) (cx3 : Ck x3) (cx4 : Ck x4) (cx5 : Ck x5) (cx6 : Ck x6) (cx7 : Ck x7) (cx8 : Ck x8) (cx9 : Ck x9) :
    own_Ct lL Z yn6 jdk_52_method_16_code 6 (some (.array .byte)) ws (⟨1, 1, 10, 18⟩ : Room) #[.ref s', .int 0, .int 10] h0 (QC3 Z 10 [(.int (((x0).toInt8.toInt32)).toInt8.toInt32), (.int (((x1).toInt8.toInt32)).toInt8.toInt32), (.int (((x2).toInt8.toInt32)).toInt8.toInt32), (.int (((x3).toInt8.toInt32)).toInt8.toInt32), (.int (((x4).toInt8.toInt32)).toInt8.toInt32), (.int (((x5).toInt8.toInt32)).toInt8.toInt32), (.int (((x6).toInt8.toInt32)).toInt8.toInt32), (.int (((x7).toInt8.toInt32)).toInt8.toInt32), (.int (((x8).toInt8.toInt32)).toInt8.toInt32), (.int (((x9).toInt8.toInt32)).toInt8.toInt32)] h0 n0) := by
  refine own_body (plainFor_of_name pn_java_2flang_2fStringUTF16) 1 10 rfl rfl (fun mM => ef_rmC3_10 mM s' ks x0 x1 x2 x3 x4 x5 x6 x7 x8 x9) fun pP eE sS mM below meth cC s₁ hZ hx hby hml hown hnm hret hlk X0 e0 => ?_
  have N0 := Fr.nil n0
  have Kp := Keep.refl h0 []
  refine o_iloadN 1 X0 hx (hb hby d5_0) rfl rfl ?_
  obtain ⟨T274, h274, k274, X274, e274, E274, A274, st274⟩ := newP X0 hx hZ (ow hw 24 rfl) e0 (g := (mkF mM 1 #[.val (.ref s'), .val (.int 0), .val (.int 10), .unset, .unset, .unset] [.int 10])) rfl (hb hby d5_1) rfl (by decide) (cap := 10) (by decide) (by decide) (by decide) (by decide)
  obtain ⟨b274, g274⟩ : ∃ z, z = h0.size := ⟨_, rfl⟩
  rw [← g274] at A274 st274
  have ne_s'_b274 : s' ≠ b274 := Nat.ne_of_lt (Nat.lt_of_lt_of_le A_s'.lt (Nat.le_of_eq g274.symm))
  have g_b274 : n0 ≤ b274 := Nat.le_trans Zn (Nat.le_of_eq g274.symm)
  have b_b274 : h0.size ≤ b274 := Nat.le_trans Kp.1 (Nat.le_of_eq g274.symm)
  have A_s' := A_s'.ext E274
  have Zn := Nat.le_trans Zn E274.1
  have Kp := Kp.ext E274
  have A_b274 : Arv Z h274 b274 k274 .byte 10 [.int 0, .int 0, .int 0, .int 0, .int 0, .int 0, .int 0, .int 0, .int 0, .int 0] (.int 0) := (Arv.new A274 (by decide)).pad (pad_rep [] (.int 0) 10)
  refine own_k T274 3 [.ref b274] st274 ?_
  let Lv275 : Array Slot := #[.val (.ref s'), .val (.int 0), .val (.int 10), .val (.ref b274), .unset, .unset]
  refine own_st (A := T274.setTop (mkF mM 4 Lv275 [])) (fun t_ k_ => XS.astoreN X274.here hx rfl (hb hby d5_3) rfl rfl (l' := Lv275) rfl k_) ?_
  refine o_aloadN 5 X274 hx (hb hby d5_4) rfl rfl rfl ?_
  refine o_iloadN 6 X274 hx (hb hby d5_5) rfl rfl ?_
  refine o_aloadN 7 X274 hx (hb hby d5_6) rfl rfl rfl ?_
  refine o_iconst 8 0 X274 hx (hb hby d5_7) rfl rfl ?_
  refine o_iloadN 9 X274 hx (hb hby d5_8) rfl rfl ?_
  obtain ⟨_, _, ⟨T276, L276, k276, n276⟩, -, X276, ⟨Lc276, hQ276, l276, y276, z276⟩, st276⟩ := Jvm.LawKit.callS X274 hx (y := yn5) hown (mvT hZ (ow hw 25 rfl)) (mvT hZ (ow hw 26 rfl)) (mvT hZ (ow hw 22 rfl)) (mvT hZ (ow hw 27 rfl)) (by decide) (backOf (W := 0) (rmC5_10 lL Z a0 hw [] s' ks b274 k274 x0 x1 x2 x3 x4 x5 x6 x7 x8 x9 h274 n0 A_s' A_b274 g_b274 ne_s'_b274 cx0 cx1 cx2 cx3 cx4 cx5 cx6 cx7 cx8 cx9) hZ (ow hw 27 rfl) (ow hw 22 rfl) (by decide) (by decide)) (g := (mkF mM 9 Lv275 [.int 10, .int 0, .ref b274, .int 0, .ref s'])) rfl (by rw [hml]; rfl) (argsL := [.ref s', .int 0, .ref b274, .int 0, .int 10]) (rest := []) (lenOf pd__28_5bCI_5bBII_29I rfl) rfl (by show 2 * 0 + _ ≤ _; exact Nat.le_of_eq rfl) (hb hby d5_9) (fun _ _ => ⟨rfl, e274, (by decide : 1 + 0 ≤ _), (by decide : 10 + 0 ≤ _)⟩)
  dsimp only [Pt.U, Pt.locs, Pt.cells, Pt.slots] at X276 l276 y276 z276 st276 hQ276
  subst l276 y276 z276
  obtain ⟨rfl, N276q, K276, V276⟩ := hQ276
  have N276 := Fr.app N0 N276q
  have e276 : T276.heap = T276.heap := rfl
  refine own_k T276 12 [.int 10] st276 ?_
  have A_s' := A_s'.keep K276 (ninS ne_s'_b274 nin0)
  have Zn := Nat.le_trans Zn K276.1
  have Kp := Kp.trans K276 (allS (Or.inr b_b274) all0)
  have A_b274 := V276
  let Lv277 : Array Slot := #[.val (.ref s'), .val (.int 0), .val (.int 10), .val (.ref b274), .val (.int 10), .unset]
  refine own_st (A := T276.setTop (mkF mM 14 Lv277 [])) (fun t_ k_ => XS.istore X276.here hx rfl (hb hby d5_12) rfl (l' := Lv277) rfl k_) ?_
  refine o_iload 16 X276 hx (hb hby d5_14) rfl rfl ?_
  refine o_iloadN 17 X276 hx (hb hby d5_16) rfl rfl ?_
  refine o_icmpYes 57 X276 hx (hb hby d5_17) (teq (by decide : ((10 : Int32) = (10 : Int32)))).1 (by decide) ?_
  refine o_aloadN 58 X276 hx (hb hby d5_57) rfl rfl rfl ?_
  exact own_retA X276 hx hlk hret rfl rfl (hb hby d5_58) (by rw [e276]; exact ⟨_, _, rfl, N276, own_ext_of_keep Kp, A_b274, b_b274⟩) (by decide) (by decide)
theorem ef_rmCo_10 (mM : MethodId) (d : Addr) (kd : ClassId) (x0 : Int32) (x1 : Int32) (x2 : Int32) (x3 : Int32) (x4 : Int32) (x5 : Int32) (x6 : Int32) (x7 : Int32) (x8 : Int32) (x9 : Int32) : entryFrame mM #[.ref d, .int 10] 2 = mkF mM 0 #[.val (.ref d), .val (.int 10)] [] := by first | (simp [entryFrame, mkF, argsToLocals, Value.category]; done) | rfl
theorem rmCo_10 (lL : Launch) (Z : State) (a0 : Array Value) (hw : own_tb a0 Z) (ws : List Jvm.Cond) (d : Addr) (kd : ClassId) (x0 : Int32) (x1 : Int32) (x2 : Int32) (x3 : Int32) (x4 : Int32) (x5 : Int32) (x6 : Int32) (x7 : Int32) (x8 : Int32) (x9 : Int32) (h0 : Heap) (n0 : Nat) (A_d : Arv Z h0 d kd .byte 10 [(.int (((x0).toInt8.toInt32)).toInt8.toInt32), (.int (((x1).toInt8.toInt32)).toInt8.toInt32), (.int (((x2).toInt8.toInt32)).toInt8.toInt32), (.int (((x3).toInt8.toInt32)).toInt8.toInt32), (.int (((x4).toInt8.toInt32)).toInt8.toInt32), (.int (((x5).toInt8.toInt32)).toInt8.toInt32), (.int (((x6).toInt8.toInt32)).toInt8.toInt32), (.int (((x7).toInt8.toInt32)).toInt8.toInt32), (.int (((x8).toInt8.toInt32)).toInt8.toInt32), (.int (((x9).toInt8.toInt32)).toInt8.toInt32)] (.int 0)) :
    own_Ct lL Z yn7 jdk_52_method_15_code 2 (some .byte) ws (⟨0, 0, 0, 0⟩ : Room) #[.ref d, .int 10] h0 (Qw (.int 0) h0 n0) := by
  refine own_body (plainFor_of_name pn_java_2flang_2fStringUTF16) 0 0 rfl rfl (fun mM => ef_rmCo_10 mM d kd x0 x1 x2 x3 x4 x5 x6 x7 x8 x9) fun pP eE sS mM below meth cC s₁ hZ hx hby hml hown hnm hret hlk X0 e0 => ?_
  have N0 := Fr.nil n0
  refine o_iloadN 1 X0 hx (hb hby d7_0) rfl rfl ?_
  refine o_aloadN 2 X0 hx (hb hby d7_1) rfl rfl rfl ?_
  obtain ⟨cl278, Ar278, q278, S278, Nn278, H278, G278⟩ := id A_d
  refine own_j 3 [.int 10, .int 10] (fun t_ k_ => X0.arraylength hx (by rw [e0]; exact Ar278.1) (State.isArrayOf_alike hZ.alike Ar278.2.1) (g := (mkF mM 2 #[.val (.ref d), .val (.int 10)] [.ref d, .int 10])) rfl rfl (hb hby d7_2) t_ (by rw [len_of S278 Nn278]; exact k_)) ?_
  refine own_j 4 [.int 0] (fun t_ k_ => XS.isub X0.here hx rfl (hb hby d7_3) rfl k_) ?_
  refine o_bipush 6 31 X0 hx (hb hby d7_4) rfl rfl ?_
  refine own_j 7 [(.int (((0 : Int32).toUInt32 >>> ((31 : Int32) &&& 31).toUInt32).toInt32))] (fun t_ k_ => XS.iushr X0.here hx rfl (hb hby d7_6) rfl k_) ?_
  refine own_j 8 [(.int (((((0 : Int32).toUInt32 >>> ((31 : Int32) &&& 31).toUInt32).toInt32)).toInt8.toInt32))] (fun t_ k_ => XS.i2b X0.here hx rfl (hb hby d7_7) rfl k_) ?_
  exact own_retN X0 hx hlk (t := .byte) hret (by simp) (hb hby d7_8) (show Qw _ _ _ (some (.int 0)) _ _ from ⟨rfl, N0, e0⟩) (by decide) (by decide)
theorem ef_rmS4_10 (mM : MethodId) (a : Addr) (s' : Addr) (ks : ClassId) (cs : Int32) (x0 : Int32) (x1 : Int32) (x2 : Int32) (x3 : Int32) (x4 : Int32) (x5 : Int32) (x6 : Int32) (x7 : Int32) (x8 : Int32) (x9 : Int32) : entryFrame mM #[.ref a, .ref s', .int 0, .int 10, .null] 6 = mkF mM 0 #[.val (.ref a), .val (.ref s'), .val (.int 0), .val (.int 10), .val .null, .unset] [] := by first | (simp [entryFrame, mkF, argsToLocals, Value.category]; done) | rfl
theorem rmS4_10 (lL : Launch) (Z : State) (a0 : Array Value) (hw : own_tb a0 Z) (ws : List Jvm.Cond) (a : Addr) (s' : Addr) (ks : ClassId) (cs : Int32) (x0 : Int32) (x1 : Int32) (x2 : Int32) (x3 : Int32) (x4 : Int32) (x5 : Int32) (x6 : Int32) (x7 : Int32) (x8 : Int32) (x9 : Int32) (h0 : Heap) (n0 : Nat) (g_a : n0 ≤ a) (E_a : Exa Z h0 a "java/lang/String") (F_a_value : Fld Z h0 a "java/lang/String" "value" "[B" .null) (F_a_coder : Fld Z h0 a "java/lang/String" "coder" "B" (.int 0)) (A_s' : Arv Z h0 s' ks .char 10 [.int x0, .int x1, .int x2, .int x3, .int x4, .int x5, .int x6, .int x7, .int x8, .int x9] (.int 0)) (nsa : s' ≠ a) (O : Old Z n0 h0) (Zn : n0 ≤ h0.size) (S_cs : Sta Z Z.heap "java/lang/String" "COMPACT_STRINGS" "Z" (.int cs)) (hcs : ¬ cs = (0 : Int32)) (cx0 : Ck x0) (cx1 : Ck x1) (cx2 : Ck x2) (cx3 : Ck x3) (cx4 : Ck x4) (cx5 : Ck x5) (cx6 : Ck x6) (cx7 : Ck x7) (cx8 : Ck x8) (cx9 : Ck x9) :
    own_Ct lL Z yn8 jdk_42_method_149_code 6 none ws (⟨2, 1, 10, 35⟩ : Room) #[.ref a, .ref s', .int 0, .int 10, .null] h0 (QS Z a 10 [(.int (((x0).toInt8.toInt32)).toInt8.toInt32), (.int (((x1).toInt8.toInt32)).toInt8.toInt32), (.int (((x2).toInt8.toInt32)).toInt8.toInt32), (.int (((x3).toInt8.toInt32)).toInt8.toInt32), (.int (((x4).toInt8.toInt32)).toInt8.toInt32), (.int (((x5).toInt8.toInt32)).toInt8.toInt32), (.int (((x6).toInt8.toInt32)).toInt8.toInt32), (.int (((x7).toInt8.toInt32)).toInt8.toInt32), (.int (((x8).toInt8.toInt32)).toInt8.toInt32), (.int (((x9).toInt8.toInt32)).toInt8.toInt32)] h0 n0) := by
  refine own_body (plainFor_of_name pn_java_2flang_2fString) 1 10 rfl rfl (fun mM => ef_rmS4_10 mM a s' ks cs x0 x1 x2 x3 x4 x5 x6 x7 x8 x9) fun pP eE sS mM below meth cC s₁ hZ hx hby hml hown hnm hret hlk X0 e0 => ?_
  have N0 := Fr.nil n0
  have Kp := Keep.refl h0 [a]
  refine o_aloadN 1 X0 hx (hb hby d3_0) rfl rfl rfl ?_
  obtain ⟨T279, X279, e279, st279⟩ := initO X0 hx hZ hown (ow hw 16 rfl) (ow hw 17 rfl) (ow hw 18 rfl) e0 (g := (mkF mM 1 #[.val (.ref a), .val (.ref s'), .val (.int 0), .val (.int 10), .val .null, .unset] [.ref a])) rfl (by rw [hml]; rfl) rfl (hb hby d3_1) (by decide) (W := 0) (by show 2 * 0 + _ ≤ _; exact Nat.le_of_eq rfl) (by decide)
  refine own_k T279 4 [] st279 ?_
  refine o_iloadN 5 X279 hx (hb hby d3_4) rfl rfl ?_
  refine o_ifYes 27 X279 hx (hb hby d3_5) ((if0 _ _).trans (feq (by decide : ¬ ((10 : Int32) = (0 : Int32)))).2) (by decide) ?_
  obtain ⟨T280, X280, e280, st280⟩ := getS2 X279 hx hZ hown (host := "") (Or.inl (ow hw 19 rfl)) Via.refl e279 (S_cs.ext O.2) (g := (mkF mM 27 #[.val (.ref a), .val (.ref s'), .val (.int 0), .val (.int 10), .val .null, .unset] [])) rfl (hb hby d3_27)
  refine own_k T280 30 [.int cs] st280 ?_
  refine o_ifNo 33 X280 hx (hb hby d3_30) ((if0 _ _).trans (feq hcs).1) rfl ?_
  refine o_aloadN 34 X280 hx (hb hby d3_33) rfl rfl rfl ?_
  refine o_iloadN 35 X280 hx (hb hby d3_34) rfl rfl ?_
  refine o_iloadN 36 X280 hx (hb hby d3_35) rfl rfl ?_
  obtain ⟨_, _, ⟨T281, L281, k281, n281⟩, -, X281, ⟨Lc281, hQ281, l281, y281, z281⟩, st281⟩ := Jvm.LawKit.callS X280 hx (y := yn6) hown (mvT hZ (ow hw 20 rfl)) (mvT hZ (ow hw 21 rfl)) (mvT hZ (ow hw 22 rfl)) (mvT hZ (ow hw 23 rfl)) (by decide) (backOf (W := 0) (rmC3_10 lL Z a0 hw [] s' ks x0 x1 x2 x3 x4 x5 x6 x7 x8 x9 h0 n0 Zn A_s' cx0 cx1 cx2 cx3 cx4 cx5 cx6 cx7 cx8 cx9) hZ (ow hw 23 rfl) (ow hw 22 rfl) (by decide) (by decide)) (g := (mkF mM 36 #[.val (.ref a), .val (.ref s'), .val (.int 0), .val (.int 10), .val .null, .unset] [.int 10, .int 0, .ref s'])) rfl (by rw [hml]; rfl) (argsL := [.ref s', .int 0, .int 10]) (rest := []) (lenOf pd__28_5bCII_29_5bB rfl) rfl (by show 2 * 0 + _ ≤ _; exact Nat.le_of_eq rfl) (hb hby d3_36) (fun _ _ => ⟨rfl, e280, (by decide : 0 + 1 ≤ _), (by decide : 0 + 10 ≤ _)⟩)
  dsimp only [Pt.U, Pt.locs, Pt.cells, Pt.slots] at X281 l281 y281 z281 st281 hQ281
  subst l281 y281 z281
  obtain ⟨b281, k281', rfl, N281q, E281, V281, ge281⟩ := hQ281
  have N281 := Fr.app N0 N281q
  have e281 : T281.heap = T281.heap := rfl
  refine own_k T281 39 [.ref b281] st281 ?_
  have ne_a_b281 : a ≠ b281 := Nat.ne_of_lt (Nat.lt_of_lt_of_le E_a.lt ge281)
  have b_b281 : h0.size ≤ b281 := Nat.le_trans Kp.1 ge281
  have F_a_value := F_a_value.ext E281
  have F_a_coder := F_a_coder.ext E281
  have E_a := E_a.ext E281
  have O := O.ext E281
  have A_s' := A_s'.ext E281
  have Zn := Nat.le_trans Zn E281.1
  have Kp := Kp.ext E281
  have A_b281 := V281
  let Lv282 : Array Slot := #[.val (.ref a), .val (.ref s'), .val (.int 0), .val (.int 10), .val .null, .val (.ref b281)]
  refine own_st (A := T281.setTop (mkF mM 41 Lv282 [])) (fun t_ k_ => XS.astore X281.here hx rfl (hb hby d3_39) rfl rfl (l' := Lv282) rfl k_) ?_
  refine o_aloadN 42 X281 hx (hb hby d3_41) rfl rfl rfl ?_
  refine o_aload 44 X281 hx (hb hby d3_42) rfl rfl rfl ?_
  refine o_iloadN 45 X281 hx (hb hby d3_44) rfl rfl ?_
  obtain ⟨_, _, ⟨T283, L283, k283, n283⟩, -, X283, ⟨Lc283, hQ283, l283, y283, z283⟩, st283⟩ := Jvm.LawKit.callS X281 hx (y := yn7) hown (mvT hZ (ow hw 28 rfl)) (mvT hZ (ow hw 29 rfl)) (mvT hZ (ow hw 22 rfl)) (mvT hZ (ow hw 30 rfl)) (by decide) (backOf (W := 1) (rmCo_10 lL Z a0 hw [] b281 k281' x0 x1 x2 x3 x4 x5 x6 x7 x8 x9 T281.heap n0 A_b281) hZ (ow hw 30 rfl) (ow hw 22 rfl) (by decide) (by decide)) (g := (mkF mM 45 Lv282 [.int 10, .ref b281, .ref a])) rfl (by rw [hml]; rfl) (argsL := [.ref b281, .int 10]) (rest := [.ref a]) (lenOf pd__28_5bBI_29B rfl) rfl (by show 2 * 0 + _ ≤ _; exact Nat.le_of_eq rfl) (hb hby d3_45) (fun _ _ => ⟨rfl, e281, (by decide : 1 + 0 ≤ _), (by decide : 10 + 0 ≤ _)⟩)
  dsimp only [Pt.U, Pt.locs, Pt.cells, Pt.slots] at X283 l283 y283 z283 st283 hQ283
  subst l283 y283 z283
  obtain ⟨rfl, N283q, e283⟩ := hQ283
  have N283 := Fr.app N281 N283q
  refine own_k T283 48 [.int 0, .ref a] st283 ?_
  obtain ⟨T284, h284, X284, e284, W284, st284⟩ := putFN X283 hx hZ hown (ow hw 31 rfl) Via.refl e283 F_a_coder E_a (Or.inr ⟨(ow hw 32 rfl), rfl, hnm⟩) (ow hw 2 rfl) (ty := .byte) (v' := (.int 0)) (by decide) rfl (by decide) (g := (mkF mM 48 Lv282 [.int 0, .ref a])) rfl rfl (hb hby d3_48)
  have N284 := Fr.snoc X284 N283 g_a
  have F_a_value := F_a_value.other W284 (Or.inr (slot_ne (Or.inr (ow hw 34 rfl)) (Or.inr (ow hw 32 rfl)) (by decide) (t := (.array .byte)) (t' := .byte) (by decide) (by decide)))
  have F_a_coder := F_a_coder.same W284
  have E_a := E_a.wr W284
  have A_s' := A_s'.other W284 nsa
  have A_b281 := A_b281.other W284 (Ne.symm ne_a_b281)
  have O := O.wr W284 g_a
  have Zn := Nat.le_trans Zn (Keep.of_wr W284).1
  have Kp := Kp.wr W284 (Or.inl (List.mem_of_getElem? (i := 0) rfl))
  refine own_k T284 51 [] st284 ?_
  refine o_aloadN 52 X284 hx (hb hby d3_51) rfl rfl rfl ?_
  refine o_aload 54 X284 hx (hb hby d3_52) rfl rfl rfl ?_
  obtain ⟨T285, h285, X285, e285, W285, st285⟩ := putF X284 hx hZ hown (host := "") (Or.inl (ow hw 33 rfl)) Via.refl e284 F_a_value E_a (Or.inr ⟨(ow hw 34 rfl), rfl, hnm⟩) (ow hw 2 rfl) (ty := (.array .byte)) (by decide) rfl rfl (g := (mkF mM 54 Lv282 [.ref b281, .ref a])) rfl rfl (hb hby d3_54)
  have N285 := Fr.snoc X285 N284 g_a
  have F_a_value := F_a_value.same W285
  have F_a_coder := F_a_coder.other W285 (Or.inr (slot_ne (Or.inr (ow hw 32 rfl)) (Or.inr (ow hw 34 rfl)) (by decide) (t := .byte) (t' := (.array .byte)) (by decide) (by decide)))
  have E_a := E_a.wr W285
  have A_s' := A_s'.other W285 nsa
  have A_b281 := A_b281.other W285 (Ne.symm ne_a_b281)
  have O := O.wr W285 g_a
  have Zn := Nat.le_trans Zn (Keep.of_wr W285).1
  have Kp := Kp.wr W285 (Or.inl (List.mem_of_getElem? (i := 0) rfl))
  refine own_k T285 57 [] st285 ?_
  exact own_retV X285 hx hlk hret (hb hby d3_57) (by rw [e285]; exact ⟨_, _, rfl, N285, Kp, ⟨E_a, F_a_value, F_a_coder, A_b281⟩, b_b281⟩) (by decide) (by decide)
theorem ef_rmS1_10 (mM : MethodId) (a : Addr) (s' : Addr) (ks : ClassId) (cs : Int32) (x0 : Int32) (x1 : Int32) (x2 : Int32) (x3 : Int32) (x4 : Int32) (x5 : Int32) (x6 : Int32) (x7 : Int32) (x8 : Int32) (x9 : Int32) : entryFrame mM #[.ref a, .ref s'] 2 = mkF mM 0 #[.val (.ref a), .val (.ref s')] [] := by first | (simp [entryFrame, mkF, argsToLocals, Value.category]; done) | rfl
theorem rmS1_10 (lL : Launch) (Z : State) (a0 : Array Value) (hw : own_tb a0 Z) (ws : List Jvm.Cond) (a : Addr) (s' : Addr) (ks : ClassId) (cs : Int32) (x0 : Int32) (x1 : Int32) (x2 : Int32) (x3 : Int32) (x4 : Int32) (x5 : Int32) (x6 : Int32) (x7 : Int32) (x8 : Int32) (x9 : Int32) (h0 : Heap) (n0 : Nat) (g_a : n0 ≤ a) (E_a : Exa Z h0 a "java/lang/String") (F_a_value : Fld Z h0 a "java/lang/String" "value" "[B" .null) (F_a_coder : Fld Z h0 a "java/lang/String" "coder" "B" (.int 0)) (A_s' : Arv Z h0 s' ks .char 10 [.int x0, .int x1, .int x2, .int x3, .int x4, .int x5, .int x6, .int x7, .int x8, .int x9] (.int 0)) (nsa : s' ≠ a) (O : Old Z n0 h0) (Zn : n0 ≤ h0.size) (S_cs : Sta Z Z.heap "java/lang/String" "COMPACT_STRINGS" "Z" (.int cs)) (hcs : ¬ cs = (0 : Int32)) (cx0 : Ck x0) (cx1 : Ck x1) (cx2 : Ck x2) (cx3 : Ck x3) (cx4 : Ck x4) (cx5 : Ck x5) (cx6 : Ck x6) (cx7 : Ck x7) (cx8 : Ck x8) (cx9 : Ck x9) :
    own_Ct lL Z yn9 jdk_42_method_3_code 2 none ws (⟨3, 1, 10, 52⟩ : Room) #[.ref a, .ref s'] h0 (QS Z a 10 [(.int (((x0).toInt8.toInt32)).toInt8.toInt32), (.int (((x1).toInt8.toInt32)).toInt8.toInt32), (.int (((x2).toInt8.toInt32)).toInt8.toInt32), (.int (((x3).toInt8.toInt32)).toInt8.toInt32), (.int (((x4).toInt8.toInt32)).toInt8.toInt32), (.int (((x5).toInt8.toInt32)).toInt8.toInt32), (.int (((x6).toInt8.toInt32)).toInt8.toInt32), (.int (((x7).toInt8.toInt32)).toInt8.toInt32), (.int (((x8).toInt8.toInt32)).toInt8.toInt32), (.int (((x9).toInt8.toInt32)).toInt8.toInt32)] h0 n0) := by
  refine own_body (plainFor_of_name pn_java_2flang_2fString) 1 10 rfl rfl (fun mM => ef_rmS1_10 mM a s' ks cs x0 x1 x2 x3 x4 x5 x6 x7 x8 x9) fun pP eE sS mM below meth cC s₁ hZ hx hby hml hown hnm hret hlk X0 e0 => ?_
  have N0 := Fr.nil n0
  refine o_aloadN 1 X0 hx (hb hby d2_0) rfl rfl rfl ?_
  refine o_aloadN 2 X0 hx (hb hby d2_1) rfl rfl rfl ?_
  refine o_iconst 3 0 X0 hx (hb hby d2_2) rfl rfl ?_
  refine o_aloadN 4 X0 hx (hb hby d2_3) rfl rfl rfl ?_
  obtain ⟨cl286, Ar286, q286, S286, Nn286, H286, G286⟩ := id A_s'
  refine own_j 5 [.int 10, .int 0, .ref s', .ref a] (fun t_ k_ => X0.arraylength hx (by rw [e0]; exact Ar286.1) (State.isArrayOf_alike hZ.alike Ar286.2.1) (g := (mkF mM 4 #[.val (.ref a), .val (.ref s')] [.ref s', .int 0, .ref s', .ref a])) rfl rfl (hb hby d2_4) t_ (by rw [len_of S286 Nn286]; exact k_)) ?_
  refine own_j 6 [.null, .int 10, .int 0, .ref s', .ref a] (fun t_ k_ => XS.aconstNull X0.here hx rfl (hb hby d2_5) k_) ?_
  obtain ⟨_, _, ⟨T287, L287, k287, n287⟩, -, X287, ⟨Lc287, hQ287, l287, y287, z287⟩, st287⟩ := X0.specialBack hx (y := yn8) rfl hown (mvT hZ (ow hw 12 rfl)) (mvT hZ (ow hw 13 rfl)) (mvT hZ (ow hw 15 rfl)) (by decide) (backOf (W := 0) (rmS4_10 lL Z a0 hw [] a s' ks cs x0 x1 x2 x3 x4 x5 x6 x7 x8 x9 h0 n0 g_a E_a F_a_value F_a_coder A_s' nsa O Zn S_cs hcs cx0 cx1 cx2 cx3 cx4 cx5 cx6 cx7 cx8 cx9) hZ (ow hw 15 rfl) (ow hw 3 rfl) (by decide) (by decide)) (g := (mkF mM 6 #[.val (.ref a), .val (.ref s')] [.null, .int 10, .int 0, .ref s', .ref a])) rfl (by rw [hml]; rfl) (Steps.refl _) (a := a) (argsL := [.ref s', .int 0, .int 10, .null]) (rest := []) (lenOf pd__28_5bCIILjava_2flang_2fVoid_3b_29V rfl) rfl (by show 2 * 0 + _ ≤ _; exact Nat.le_of_eq rfl) (hb hby d2_6) (fun _ _ => ⟨rfl, e0, (by decide : 0 + 1 ≤ _), (by decide : 0 + 10 ≤ _)⟩)
  dsimp only [Pt.U, Pt.locs, Pt.cells, Pt.slots] at X287 l287 y287 z287 st287 hQ287
  subst l287 y287 z287
  obtain ⟨d287, k287', rfl, N287q, R287⟩ := hQ287
  have N287 := Fr.app N0 N287q
  have e287 : T287.heap = T287.heap := rfl
  refine own_k T287 9 [] (fun t_ k_ => st287.trans k_) ?_
  exact own_retV X287 hx hlk hret (hb hby d2_9) ⟨_, _, rfl, N287, R287⟩ (by decide) (by decide)
theorem ef_rmC5_11 (mM : MethodId) (s' : Addr) (ks : ClassId) (d : Addr) (kd : ClassId) (x0 : Int32) (x1 : Int32) (x2 : Int32) (x3 : Int32) (x4 : Int32) (x5 : Int32) (x6 : Int32) (x7 : Int32) (x8 : Int32) (x9 : Int32) (x10 : Int32) : entryFrame mM #[.ref s', .int 0, .ref d, .int 0, .int 11] 7 = mkF mM 0 #[.val (.ref s'), .val (.int 0), .val (.ref d), .val (.int 0), .val (.int 11), .unset, .unset] [] := by first | (simp [entryFrame, mkF, argsToLocals, Value.category]; done) | rfl
theorem rmC5_11 (lL : Launch) (Z : State) (a0 : Array Value) (hw : own_tb a0 Z) (ws : List Jvm.Cond) (s' : Addr) (ks : ClassId) (d : Addr) (kd : ClassId) (x0 : Int32) (x1 : Int32) (x2 : Int32) (x3 : Int32) (x4 : Int32) (x5 : Int32) (x6 : Int32) (x7 : Int32) (x8 : Int32) (x9 : Int32) (x10 : Int32) (h0 : Heap) (n0 : Nat) (A_s' : Arv Z h0 s' ks .char 11 [.int x0, .int x1, .int x2, .int x3, .int x4, .int x5, .int x6, .int x7, .int x8, .int x9, .int x10] (.int 0)) (A_d : Arv Z h0 d kd .byte 11 [.int 0, .int 0, .int 0, .int 0, .int 0, .int 0, .int 0, .int 0, .int 0, .int 0, .int 0] (.int 0)) (g_d : n0 ≤ d) (nsd : s' ≠ d) (cx0 : Ck x0) (cx1 : Ck x1) (cx2 : Ck x2) (cx3 : Ck x3) (cx4 : Ck x4) (cx5 : Ck x5) (cx6 : Ck x6) (cx7 : Ck x7) (cx8 : Ck x8) (cx9 : Ck x9) (cx10 : Ck x10) :
    own_Ct lL Z yn5 jdk_52_method_21_code 7 (some .int) ws (⟨0, 0, 0, 0⟩ : Room) #[.ref s', .int 0, .ref d, .int 0, .int 11] h0 (QC5 Z d kd 11 [(.int (((x0).toInt8.toInt32)).toInt8.toInt32), (.int (((x1).toInt8.toInt32)).toInt8.toInt32), (.int (((x2).toInt8.toInt32)).toInt8.toInt32), (.int (((x3).toInt8.toInt32)).toInt8.toInt32), (.int (((x4).toInt8.toInt32)).toInt8.toInt32), (.int (((x5).toInt8.toInt32)).toInt8.toInt32), (.int (((x6).toInt8.toInt32)).toInt8.toInt32), (.int (((x7).toInt8.toInt32)).toInt8.toInt32), (.int (((x8).toInt8.toInt32)).toInt8.toInt32), (.int (((x9).toInt8.toInt32)).toInt8.toInt32), (.int (((x10).toInt8.toInt32)).toInt8.toInt32)] h0 n0) := by
  refine own_body (plainFor_of_name pn_java_2flang_2fStringUTF16) 0 0 rfl rfl (fun mM => ef_rmC5_11 mM s' ks d kd x0 x1 x2 x3 x4 x5 x6 x7 x8 x9 x10) fun pP eE sS mM below meth cC s₁ hZ hx hby hml hown hnm hret hlk X0 e0 => ?_
  have N0 := Fr.nil n0
  have Kp := Keep.refl h0 [d]
  refine o_iconst 1 0 X0 hx (hb hby d6_0) rfl rfl ?_
  let Lv288 : Array Slot := #[.val (.ref s'), .val (.int 0), .val (.ref d), .val (.int 0), .val (.int 11), .val (.int 0), .unset]
  refine own_st (A := s₁.setTop (mkF mM 3 Lv288 [])) (fun t_ k_ => XS.istore X0.here hx rfl (hb hby d6_1) rfl (l' := Lv288) rfl k_) ?_
  refine T5a hw X0 hx hZ hby hml hown hlk hret e0 N0 s' ks d kd 11 0 1 0 x0 _ _ _ A_s' A_d g_d nsd (by decide) (by decide) rfl rfl (Nat.le_of_ble_eq_true rfl) cx0 rfl (fun T289 L289 h289 X289 e289 N289 K289 A_s' A_d => ?_)
  have Kp := Kp.trans K289 (allS (Or.inl (List.mem_of_getElem? (i := 0) rfl)) all0)
  refine T5b hw X289 hx hZ hby hml hown hlk hret e289 N289 s' ks d kd 11 1 2 1 x1 x0 _ _ _ A_s' A_d g_d nsd (by decide) (by decide) rfl rfl (Nat.le_of_ble_eq_true rfl) cx1 rfl (fun T290 L290 h290 X290 e290 N290 K290 A_s' A_d => ?_)
  have Kp := Kp.trans K290 (allS (Or.inl (List.mem_of_getElem? (i := 0) rfl)) all0)
  refine T5b hw X290 hx hZ hby hml hown hlk hret e290 N290 s' ks d kd 11 2 3 2 x2 x1 _ _ _ A_s' A_d g_d nsd (by decide) (by decide) rfl rfl (Nat.le_of_ble_eq_true rfl) cx2 rfl (fun T291 L291 h291 X291 e291 N291 K291 A_s' A_d => ?_)
  have Kp := Kp.trans K291 (allS (Or.inl (List.mem_of_getElem? (i := 0) rfl)) all0)
  refine T5b hw X291 hx hZ hby hml hown hlk hret e291 N291 s' ks d kd 11 3 4 3 x3 x2 _ _ _ A_s' A_d g_d nsd (by decide) (by decide) rfl rfl (Nat.le_of_ble_eq_true rfl) cx3 rfl (fun T292 L292 h292 X292 e292 N292 K292 A_s' A_d => ?_)
  have Kp := Kp.trans K292 (allS (Or.inl (List.mem_of_getElem? (i := 0) rfl)) all0)
  refine T5b hw X292 hx hZ hby hml hown hlk hret e292 N292 s' ks d kd 11 4 5 4 x4 x3 _ _ _ A_s' A_d g_d nsd (by decide) (by decide) rfl rfl (Nat.le_of_ble_eq_true rfl) cx4 rfl (fun T293 L293 h293 X293 e293 N293 K293 A_s' A_d => ?_)
  have Kp := Kp.trans K293 (allS (Or.inl (List.mem_of_getElem? (i := 0) rfl)) all0)
  refine T5b hw X293 hx hZ hby hml hown hlk hret e293 N293 s' ks d kd 11 5 6 5 x5 x4 _ _ _ A_s' A_d g_d nsd (by decide) (by decide) rfl rfl (Nat.le_of_ble_eq_true rfl) cx5 rfl (fun T294 L294 h294 X294 e294 N294 K294 A_s' A_d => ?_)
  have Kp := Kp.trans K294 (allS (Or.inl (List.mem_of_getElem? (i := 0) rfl)) all0)
  refine T5b hw X294 hx hZ hby hml hown hlk hret e294 N294 s' ks d kd 11 6 7 6 x6 x5 _ _ _ A_s' A_d g_d nsd (by decide) (by decide) rfl rfl (Nat.le_of_ble_eq_true rfl) cx6 rfl (fun T295 L295 h295 X295 e295 N295 K295 A_s' A_d => ?_)
  have Kp := Kp.trans K295 (allS (Or.inl (List.mem_of_getElem? (i := 0) rfl)) all0)
  refine T5b hw X295 hx hZ hby hml hown hlk hret e295 N295 s' ks d kd 11 7 8 7 x7 x6 _ _ _ A_s' A_d g_d nsd (by decide) (by decide) rfl rfl (Nat.le_of_ble_eq_true rfl) cx7 rfl (fun T296 L296 h296 X296 e296 N296 K296 A_s' A_d => ?_)
  have Kp := Kp.trans K296 (allS (Or.inl (List.mem_of_getElem? (i := 0) rfl)) all0)
  refine T5b hw X296 hx hZ hby hml hown hlk hret e296 N296 s' ks d kd 11 8 9 8 x8 x7 _ _ _ A_s' A_d g_d nsd (by decide) (by decide) rfl rfl (Nat.le_of_ble_eq_true rfl) cx8 rfl (fun T297 L297 h297 X297 e297 N297 K297 A_s' A_d => ?_)
  have Kp := Kp.trans K297 (allS (Or.inl (List.mem_of_getElem? (i := 0) rfl)) all0)
  refine T5b hw X297 hx hZ hby hml hown hlk hret e297 N297 s' ks d kd 11 9 10 9 x9 x8 _ _ _ A_s' A_d g_d nsd (by decide) (by decide) rfl rfl (Nat.le_of_ble_eq_true rfl) cx9 rfl (fun T298 L298 h298 X298 e298 N298 K298 A_s' A_d => ?_)
  have Kp := Kp.trans K298 (allS (Or.inl (List.mem_of_getElem? (i := 0) rfl)) all0)
  refine T5b hw X298 hx hZ hby hml hown hlk hret e298 N298 s' ks d kd 11 10 11 10 x10 x9 _ _ _ A_s' A_d g_d nsd (by decide) (by decide) rfl rfl (Nat.le_of_ble_eq_true rfl) cx10 rfl (fun T299 L299 h299 X299 e299 N299 K299 A_s' A_d => ?_)
  have Kp := Kp.trans K299 (allS (Or.inl (List.mem_of_getElem? (i := 0) rfl)) all0)
  refine o_iload 5 X299 hx (hb hby d6_3) rfl rfl ?_
  refine o_iload 7 X299 hx (hb hby d6_5) rfl rfl ?_
  refine o_icmpYes 44 X299 hx (hb hby d6_7) (flt (by decide : ¬ ((11 : Int32) < (11 : Int32)))).2.1 (by decide) ?_
  refine o_iload 46 X299 hx (hb hby d6_44) rfl rfl ?_
  exact own_retI X299 hx hlk hret (hb hby d6_46) (by rw [e299]; exact ⟨rfl, N299, Kp, A_d⟩) (by decide) (by decide)
theorem ef_rmC3_11 (mM : MethodId) (s' : Addr) (ks : ClassId) (x0 : Int32) (x1 : Int32) (x2 : Int32) (x3 : Int32) (x4 : Int32) (x5 : Int32) (x6 : Int32) (x7 : Int32) (x8 : Int32) (x9 : Int32) (x10 : Int32) : entryFrame mM #[.ref s', .int 0, .int 11] 6 = mkF mM 0 #[.val (.ref s'), .val (.int 0), .val (.int 11), .unset, .unset, .unset] [] := by first | (simp [entryFrame, mkF, argsToLocals, Value.category]; done) | rfl
theorem rmC3_11 (lL : Launch) (Z : State) (a0 : Array Value) (hw : own_tb a0 Z) (ws : List Jvm.Cond) (s' : Addr) (ks : ClassId) (x0 : Int32) (x1 : Int32) (x2 : Int32) (x3 : Int32) (x4 : Int32) (x5 : Int32) (x6 : Int32) (x7 : Int32) (x8 : Int32) (x9 : Int32) (x10 : Int32) (h0 : Heap) (n0 : Nat) (Zn : n0 ≤ h0.size) (A_s' : Arv Z h0 s' ks .char 11 [.int x0, .int x1, .int x2, .int x3, .int x4, .int x5, .int x6, .int x7, .int x8, .int x9, .int x10] (.int 0)) (cx0 : Ck x0) (cx1 : Ck x1) (cx2 : Ck x2) (cx3 : Ck x3) (cx4 : Ck x4) (cx5 : Ck x5) (cx6 : Ck x6) (cx7 : Ck x7) (cx8 : Ck x8) (cx9 : Ck x9) (cx10 : Ck x10) :
    own_Ct lL Z yn6 jdk_52_method_16_code 6 (some (.array .byte)) ws (⟨1, 1, 11, 18⟩ : Room) #[.ref s', .int 0, .int 11] h0 (QC3 Z 11 [(.int (((x0).toInt8.toInt32)).toInt8.toInt32), (.int (((x1).toInt8.toInt32)).toInt8.toInt32), (.int (((x2).toInt8.toInt32)).toInt8.toInt32), (.int (((x3).toInt8.toInt32)).toInt8.toInt32), (.int (((x4).toInt8.toInt32)).toInt8.toInt32), (.int (((x5).toInt8.toInt32)).toInt8.toInt32), (.int (((x6).toInt8.toInt32)).toInt8.toInt32), (.int (((x7).toInt8.toInt32)).toInt8.toInt32), (.int (((x8).toInt8.toInt32)).toInt8.toInt32), (.int (((x9).toInt8.toInt32)).toInt8.toInt32), (.int (((x10).toInt8.toInt32)).toInt8.toInt32)] h0 n0) := by
  refine own_body (plainFor_of_name pn_java_2flang_2fStringUTF16) 1 11 rfl rfl (fun mM => ef_rmC3_11 mM s' ks x0 x1 x2 x3 x4 x5 x6 x7 x8 x9 x10) fun pP eE sS mM below meth cC s₁ hZ hx hby hml hown hnm hret hlk X0 e0 => ?_
  have N0 := Fr.nil n0
  have Kp := Keep.refl h0 []
  refine o_iloadN 1 X0 hx (hb hby d5_0) rfl rfl ?_
  obtain ⟨T300, h300, k300, X300, e300, E300, A300, st300⟩ := newP X0 hx hZ (ow hw 24 rfl) e0 (g := (mkF mM 1 #[.val (.ref s'), .val (.int 0), .val (.int 11), .unset, .unset, .unset] [.int 11])) rfl (hb hby d5_1) rfl (by decide) (cap := 11) (by decide) (by decide) (by decide) (by decide)
  obtain ⟨b300, g300⟩ : ∃ z, z = h0.size := ⟨_, rfl⟩
  rw [← g300] at A300 st300
  have ne_s'_b300 : s' ≠ b300 := Nat.ne_of_lt (Nat.lt_of_lt_of_le A_s'.lt (Nat.le_of_eq g300.symm))
  have g_b300 : n0 ≤ b300 := Nat.le_trans Zn (Nat.le_of_eq g300.symm)
  have b_b300 : h0.size ≤ b300 := Nat.le_trans Kp.1 (Nat.le_of_eq g300.symm)
  have A_s' := A_s'.ext E300
  have Zn := Nat.le_trans Zn E300.1
  have Kp := Kp.ext E300
  have A_b300 : Arv Z h300 b300 k300 .byte 11 [.int 0, .int 0, .int 0, .int 0, .int 0, .int 0, .int 0, .int 0, .int 0, .int 0, .int 0] (.int 0) := (Arv.new A300 (by decide)).pad (pad_rep [] (.int 0) 11)
  refine own_k T300 3 [.ref b300] st300 ?_
  let Lv301 : Array Slot := #[.val (.ref s'), .val (.int 0), .val (.int 11), .val (.ref b300), .unset, .unset]
  refine own_st (A := T300.setTop (mkF mM 4 Lv301 [])) (fun t_ k_ => XS.astoreN X300.here hx rfl (hb hby d5_3) rfl rfl (l' := Lv301) rfl k_) ?_
  refine o_aloadN 5 X300 hx (hb hby d5_4) rfl rfl rfl ?_
  refine o_iloadN 6 X300 hx (hb hby d5_5) rfl rfl ?_
  refine o_aloadN 7 X300 hx (hb hby d5_6) rfl rfl rfl ?_
  refine o_iconst 8 0 X300 hx (hb hby d5_7) rfl rfl ?_
  refine o_iloadN 9 X300 hx (hb hby d5_8) rfl rfl ?_
  obtain ⟨_, _, ⟨T302, L302, k302, n302⟩, -, X302, ⟨Lc302, hQ302, l302, y302, z302⟩, st302⟩ := Jvm.LawKit.callS X300 hx (y := yn5) hown (mvT hZ (ow hw 25 rfl)) (mvT hZ (ow hw 26 rfl)) (mvT hZ (ow hw 22 rfl)) (mvT hZ (ow hw 27 rfl)) (by decide) (backOf (W := 0) (rmC5_11 lL Z a0 hw [] s' ks b300 k300 x0 x1 x2 x3 x4 x5 x6 x7 x8 x9 x10 h300 n0 A_s' A_b300 g_b300 ne_s'_b300 cx0 cx1 cx2 cx3 cx4 cx5 cx6 cx7 cx8 cx9 cx10) hZ (ow hw 27 rfl) (ow hw 22 rfl) (by decide) (by decide)) (g := (mkF mM 9 Lv301 [.int 11, .int 0, .ref b300, .int 0, .ref s'])) rfl (by rw [hml]; rfl) (argsL := [.ref s', .int 0, .ref b300, .int 0, .int 11]) (rest := []) (lenOf pd__28_5bCI_5bBII_29I rfl) rfl (by show 2 * 0 + _ ≤ _; exact Nat.le_of_eq rfl) (hb hby d5_9) (fun _ _ => ⟨rfl, e300, (by decide : 1 + 0 ≤ _), (by decide : 11 + 0 ≤ _)⟩)
  dsimp only [Pt.U, Pt.locs, Pt.cells, Pt.slots] at X302 l302 y302 z302 st302 hQ302
  subst l302 y302 z302
  obtain ⟨rfl, N302q, K302, V302⟩ := hQ302
  have N302 := Fr.app N0 N302q
  have e302 : T302.heap = T302.heap := rfl
  refine own_k T302 12 [.int 11] st302 ?_
  have A_s' := A_s'.keep K302 (ninS ne_s'_b300 nin0)
  have Zn := Nat.le_trans Zn K302.1
  have Kp := Kp.trans K302 (allS (Or.inr b_b300) all0)
  have A_b300 := V302
  let Lv303 : Array Slot := #[.val (.ref s'), .val (.int 0), .val (.int 11), .val (.ref b300), .val (.int 11), .unset]
  refine own_st (A := T302.setTop (mkF mM 14 Lv303 [])) (fun t_ k_ => XS.istore X302.here hx rfl (hb hby d5_12) rfl (l' := Lv303) rfl k_) ?_
  refine o_iload 16 X302 hx (hb hby d5_14) rfl rfl ?_
  refine o_iloadN 17 X302 hx (hb hby d5_16) rfl rfl ?_
  refine o_icmpYes 57 X302 hx (hb hby d5_17) (teq (by decide : ((11 : Int32) = (11 : Int32)))).1 (by decide) ?_
  refine o_aloadN 58 X302 hx (hb hby d5_57) rfl rfl rfl ?_
  exact own_retA X302 hx hlk hret rfl rfl (hb hby d5_58) (by rw [e302]; exact ⟨_, _, rfl, N302, own_ext_of_keep Kp, A_b300, b_b300⟩) (by decide) (by decide)
theorem ef_rmCo_11 (mM : MethodId) (d : Addr) (kd : ClassId) (x0 : Int32) (x1 : Int32) (x2 : Int32) (x3 : Int32) (x4 : Int32) (x5 : Int32) (x6 : Int32) (x7 : Int32) (x8 : Int32) (x9 : Int32) (x10 : Int32) : entryFrame mM #[.ref d, .int 11] 2 = mkF mM 0 #[.val (.ref d), .val (.int 11)] [] := by first | (simp [entryFrame, mkF, argsToLocals, Value.category]; done) | rfl
theorem rmCo_11 (lL : Launch) (Z : State) (a0 : Array Value) (hw : own_tb a0 Z) (ws : List Jvm.Cond) (d : Addr) (kd : ClassId) (x0 : Int32) (x1 : Int32) (x2 : Int32) (x3 : Int32) (x4 : Int32) (x5 : Int32) (x6 : Int32) (x7 : Int32) (x8 : Int32) (x9 : Int32) (x10 : Int32) (h0 : Heap) (n0 : Nat) (A_d : Arv Z h0 d kd .byte 11 [(.int (((x0).toInt8.toInt32)).toInt8.toInt32), (.int (((x1).toInt8.toInt32)).toInt8.toInt32), (.int (((x2).toInt8.toInt32)).toInt8.toInt32), (.int (((x3).toInt8.toInt32)).toInt8.toInt32), (.int (((x4).toInt8.toInt32)).toInt8.toInt32), (.int (((x5).toInt8.toInt32)).toInt8.toInt32), (.int (((x6).toInt8.toInt32)).toInt8.toInt32), (.int (((x7).toInt8.toInt32)).toInt8.toInt32), (.int (((x8).toInt8.toInt32)).toInt8.toInt32), (.int (((x9).toInt8.toInt32)).toInt8.toInt32), (.int (((x10).toInt8.toInt32)).toInt8.toInt32)] (.int 0)) :
    own_Ct lL Z yn7 jdk_52_method_15_code 2 (some .byte) ws (⟨0, 0, 0, 0⟩ : Room) #[.ref d, .int 11] h0 (Qw (.int 0) h0 n0) := by
  refine own_body (plainFor_of_name pn_java_2flang_2fStringUTF16) 0 0 rfl rfl (fun mM => ef_rmCo_11 mM d kd x0 x1 x2 x3 x4 x5 x6 x7 x8 x9 x10) fun pP eE sS mM below meth cC s₁ hZ hx hby hml hown hnm hret hlk X0 e0 => ?_
  have N0 := Fr.nil n0
  refine o_iloadN 1 X0 hx (hb hby d7_0) rfl rfl ?_
  refine o_aloadN 2 X0 hx (hb hby d7_1) rfl rfl rfl ?_
  obtain ⟨cl304, Ar304, q304, S304, Nn304, H304, G304⟩ := id A_d
  refine own_j 3 [.int 11, .int 11] (fun t_ k_ => X0.arraylength hx (by rw [e0]; exact Ar304.1) (State.isArrayOf_alike hZ.alike Ar304.2.1) (g := (mkF mM 2 #[.val (.ref d), .val (.int 11)] [.ref d, .int 11])) rfl rfl (hb hby d7_2) t_ (by rw [len_of S304 Nn304]; exact k_)) ?_
  refine own_j 4 [.int 0] (fun t_ k_ => XS.isub X0.here hx rfl (hb hby d7_3) rfl k_) ?_
  refine o_bipush 6 31 X0 hx (hb hby d7_4) rfl rfl ?_
  refine own_j 7 [(.int (((0 : Int32).toUInt32 >>> ((31 : Int32) &&& 31).toUInt32).toInt32))] (fun t_ k_ => XS.iushr X0.here hx rfl (hb hby d7_6) rfl k_) ?_
  refine own_j 8 [(.int (((((0 : Int32).toUInt32 >>> ((31 : Int32) &&& 31).toUInt32).toInt32)).toInt8.toInt32))] (fun t_ k_ => XS.i2b X0.here hx rfl (hb hby d7_7) rfl k_) ?_
  exact own_retN X0 hx hlk (t := .byte) hret (by simp) (hb hby d7_8) (show Qw _ _ _ (some (.int 0)) _ _ from ⟨rfl, N0, e0⟩) (by decide) (by decide)
theorem ef_rmS4_11 (mM : MethodId) (a : Addr) (s' : Addr) (ks : ClassId) (cs : Int32) (x0 : Int32) (x1 : Int32) (x2 : Int32) (x3 : Int32) (x4 : Int32) (x5 : Int32) (x6 : Int32) (x7 : Int32) (x8 : Int32) (x9 : Int32) (x10 : Int32) : entryFrame mM #[.ref a, .ref s', .int 0, .int 11, .null] 6 = mkF mM 0 #[.val (.ref a), .val (.ref s'), .val (.int 0), .val (.int 11), .val .null, .unset] [] := by first | (simp [entryFrame, mkF, argsToLocals, Value.category]; done) | rfl
theorem rmS4_11 (lL : Launch) (Z : State) (a0 : Array Value) (hw : own_tb a0 Z) (ws : List Jvm.Cond) (a : Addr) (s' : Addr) (ks : ClassId) (cs : Int32) (x0 : Int32) (x1 : Int32) (x2 : Int32) (x3 : Int32) (x4 : Int32) (x5 : Int32) (x6 : Int32) (x7 : Int32) (x8 : Int32) (x9 : Int32) (x10 : Int32) (h0 : Heap) (n0 : Nat) (g_a : n0 ≤ a) (E_a : Exa Z h0 a "java/lang/String") (F_a_value : Fld Z h0 a "java/lang/String" "value" "[B" .null) (F_a_coder : Fld Z h0 a "java/lang/String" "coder" "B" (.int 0)) (A_s' : Arv Z h0 s' ks .char 11 [.int x0, .int x1, .int x2, .int x3, .int x4, .int x5, .int x6, .int x7, .int x8, .int x9, .int x10] (.int 0)) (nsa : s' ≠ a) (O : Old Z n0 h0) (Zn : n0 ≤ h0.size) (S_cs : Sta Z Z.heap "java/lang/String" "COMPACT_STRINGS" "Z" (.int cs)) (hcs : ¬ cs = (0 : Int32)) (cx0 : Ck x0) (cx1 : Ck x1) (cx2 : Ck x2) (cx3 : Ck x3) (cx4 : Ck x4) (cx5 : Ck x5) (cx6 : Ck x6) (cx7 : Ck x7) (cx8 : Ck x8) (cx9 : Ck x9) (cx10 : Ck x10) :
    own_Ct lL Z yn8 jdk_42_method_149_code 6 none ws (⟨2, 1, 11, 35⟩ : Room) #[.ref a, .ref s', .int 0, .int 11, .null] h0 (QS Z a 11 [(.int (((x0).toInt8.toInt32)).toInt8.toInt32), (.int (((x1).toInt8.toInt32)).toInt8.toInt32), (.int (((x2).toInt8.toInt32)).toInt8.toInt32), (.int (((x3).toInt8.toInt32)).toInt8.toInt32), (.int (((x4).toInt8.toInt32)).toInt8.toInt32), (.int (((x5).toInt8.toInt32)).toInt8.toInt32), (.int (((x6).toInt8.toInt32)).toInt8.toInt32), (.int (((x7).toInt8.toInt32)).toInt8.toInt32), (.int (((x8).toInt8.toInt32)).toInt8.toInt32), (.int (((x9).toInt8.toInt32)).toInt8.toInt32), (.int (((x10).toInt8.toInt32)).toInt8.toInt32)] h0 n0) := by
  refine own_body (plainFor_of_name pn_java_2flang_2fString) 1 11 rfl rfl (fun mM => ef_rmS4_11 mM a s' ks cs x0 x1 x2 x3 x4 x5 x6 x7 x8 x9 x10) fun pP eE sS mM below meth cC s₁ hZ hx hby hml hown hnm hret hlk X0 e0 => ?_
  have N0 := Fr.nil n0
  have Kp := Keep.refl h0 [a]
  refine o_aloadN 1 X0 hx (hb hby d3_0) rfl rfl rfl ?_
  obtain ⟨T305, X305, e305, st305⟩ := initO X0 hx hZ hown (ow hw 16 rfl) (ow hw 17 rfl) (ow hw 18 rfl) e0 (g := (mkF mM 1 #[.val (.ref a), .val (.ref s'), .val (.int 0), .val (.int 11), .val .null, .unset] [.ref a])) rfl (by rw [hml]; rfl) rfl (hb hby d3_1) (by decide) (W := 0) (by show 2 * 0 + _ ≤ _; exact Nat.le_of_eq rfl) (by decide)
  refine own_k T305 4 [] st305 ?_
  refine o_iloadN 5 X305 hx (hb hby d3_4) rfl rfl ?_
  refine o_ifYes 27 X305 hx (hb hby d3_5) ((if0 _ _).trans (feq (by decide : ¬ ((11 : Int32) = (0 : Int32)))).2) (by decide) ?_
  obtain ⟨T306, X306, e306, st306⟩ := getS2 X305 hx hZ hown (host := "") (Or.inl (ow hw 19 rfl)) Via.refl e305 (S_cs.ext O.2) (g := (mkF mM 27 #[.val (.ref a), .val (.ref s'), .val (.int 0), .val (.int 11), .val .null, .unset] [])) rfl (hb hby d3_27)
  refine own_k T306 30 [.int cs] st306 ?_
  refine o_ifNo 33 X306 hx (hb hby d3_30) ((if0 _ _).trans (feq hcs).1) rfl ?_
  refine o_aloadN 34 X306 hx (hb hby d3_33) rfl rfl rfl ?_
  refine o_iloadN 35 X306 hx (hb hby d3_34) rfl rfl ?_
  refine o_iloadN 36 X306 hx (hb hby d3_35) rfl rfl ?_
  obtain ⟨_, _, ⟨T307, L307, k307, n307⟩, -, X307, ⟨Lc307, hQ307, l307, y307, z307⟩, st307⟩ := Jvm.LawKit.callS X306 hx (y := yn6) hown (mvT hZ (ow hw 20 rfl)) (mvT hZ (ow hw 21 rfl)) (mvT hZ (ow hw 22 rfl)) (mvT hZ (ow hw 23 rfl)) (by decide) (backOf (W := 0) (rmC3_11 lL Z a0 hw [] s' ks x0 x1 x2 x3 x4 x5 x6 x7 x8 x9 x10 h0 n0 Zn A_s' cx0 cx1 cx2 cx3 cx4 cx5 cx6 cx7 cx8 cx9 cx10) hZ (ow hw 23 rfl) (ow hw 22 rfl) (by decide) (by decide)) (g := (mkF mM 36 #[.val (.ref a), .val (.ref s'), .val (.int 0), .val (.int 11), .val .null, .unset] [.int 11, .int 0, .ref s'])) rfl (by rw [hml]; rfl) (argsL := [.ref s', .int 0, .int 11]) (rest := []) (lenOf pd__28_5bCII_29_5bB rfl) rfl (by show 2 * 0 + _ ≤ _; exact Nat.le_of_eq rfl) (hb hby d3_36) (fun _ _ => ⟨rfl, e306, (by decide : 0 + 1 ≤ _), (by decide : 0 + 11 ≤ _)⟩)
  dsimp only [Pt.U, Pt.locs, Pt.cells, Pt.slots] at X307 l307 y307 z307 st307 hQ307
  subst l307 y307 z307
  obtain ⟨b307, k307', rfl, N307q, E307, V307, ge307⟩ := hQ307
  have N307 := Fr.app N0 N307q
  have e307 : T307.heap = T307.heap := rfl
  refine own_k T307 39 [.ref b307] st307 ?_
  have ne_a_b307 : a ≠ b307 := Nat.ne_of_lt (Nat.lt_of_lt_of_le E_a.lt ge307)
  have b_b307 : h0.size ≤ b307 := Nat.le_trans Kp.1 ge307
  have F_a_value := F_a_value.ext E307
  have F_a_coder := F_a_coder.ext E307
  have E_a := E_a.ext E307
  have O := O.ext E307
  have A_s' := A_s'.ext E307
  have Zn := Nat.le_trans Zn E307.1
  have Kp := Kp.ext E307
  have A_b307 := V307
  let Lv308 : Array Slot := #[.val (.ref a), .val (.ref s'), .val (.int 0), .val (.int 11), .val .null, .val (.ref b307)]
  refine own_st (A := T307.setTop (mkF mM 41 Lv308 [])) (fun t_ k_ => XS.astore X307.here hx rfl (hb hby d3_39) rfl rfl (l' := Lv308) rfl k_) ?_
  refine o_aloadN 42 X307 hx (hb hby d3_41) rfl rfl rfl ?_
  refine o_aload 44 X307 hx (hb hby d3_42) rfl rfl rfl ?_
  refine o_iloadN 45 X307 hx (hb hby d3_44) rfl rfl ?_
  obtain ⟨_, _, ⟨T309, L309, k309, n309⟩, -, X309, ⟨Lc309, hQ309, l309, y309, z309⟩, st309⟩ := Jvm.LawKit.callS X307 hx (y := yn7) hown (mvT hZ (ow hw 28 rfl)) (mvT hZ (ow hw 29 rfl)) (mvT hZ (ow hw 22 rfl)) (mvT hZ (ow hw 30 rfl)) (by decide) (backOf (W := 1) (rmCo_11 lL Z a0 hw [] b307 k307' x0 x1 x2 x3 x4 x5 x6 x7 x8 x9 x10 T307.heap n0 A_b307) hZ (ow hw 30 rfl) (ow hw 22 rfl) (by decide) (by decide)) (g := (mkF mM 45 Lv308 [.int 11, .ref b307, .ref a])) rfl (by rw [hml]; rfl) (argsL := [.ref b307, .int 11]) (rest := [.ref a]) (lenOf pd__28_5bBI_29B rfl) rfl (by show 2 * 0 + _ ≤ _; exact Nat.le_of_eq rfl) (hb hby d3_45) (fun _ _ => ⟨rfl, e307, (by decide : 1 + 0 ≤ _), (by decide : 11 + 0 ≤ _)⟩)
  dsimp only [Pt.U, Pt.locs, Pt.cells, Pt.slots] at X309 l309 y309 z309 st309 hQ309
  subst l309 y309 z309
  obtain ⟨rfl, N309q, e309⟩ := hQ309
  have N309 := Fr.app N307 N309q
  refine own_k T309 48 [.int 0, .ref a] st309 ?_
  obtain ⟨T310, h310, X310, e310, W310, st310⟩ := putFN X309 hx hZ hown (ow hw 31 rfl) Via.refl e309 F_a_coder E_a (Or.inr ⟨(ow hw 32 rfl), rfl, hnm⟩) (ow hw 2 rfl) (ty := .byte) (v' := (.int 0)) (by decide) rfl (by decide) (g := (mkF mM 48 Lv308 [.int 0, .ref a])) rfl rfl (hb hby d3_48)
  have N310 := Fr.snoc X310 N309 g_a
  have F_a_value := F_a_value.other W310 (Or.inr (slot_ne (Or.inr (ow hw 34 rfl)) (Or.inr (ow hw 32 rfl)) (by decide) (t := (.array .byte)) (t' := .byte) (by decide) (by decide)))
  have F_a_coder := F_a_coder.same W310
  have E_a := E_a.wr W310
  have A_s' := A_s'.other W310 nsa
  have A_b307 := A_b307.other W310 (Ne.symm ne_a_b307)
  have O := O.wr W310 g_a
  have Zn := Nat.le_trans Zn (Keep.of_wr W310).1
  have Kp := Kp.wr W310 (Or.inl (List.mem_of_getElem? (i := 0) rfl))
  refine own_k T310 51 [] st310 ?_
  refine o_aloadN 52 X310 hx (hb hby d3_51) rfl rfl rfl ?_
  refine o_aload 54 X310 hx (hb hby d3_52) rfl rfl rfl ?_
  obtain ⟨T311, h311, X311, e311, W311, st311⟩ := putF X310 hx hZ hown (host := "") (Or.inl (ow hw 33 rfl)) Via.refl e310 F_a_value E_a (Or.inr ⟨(ow hw 34 rfl), rfl, hnm⟩) (ow hw 2 rfl) (ty := (.array .byte)) (by decide) rfl rfl (g := (mkF mM 54 Lv308 [.ref b307, .ref a])) rfl rfl (hb hby d3_54)
  have N311 := Fr.snoc X311 N310 g_a
  have F_a_value := F_a_value.same W311
  have F_a_coder := F_a_coder.other W311 (Or.inr (slot_ne (Or.inr (ow hw 32 rfl)) (Or.inr (ow hw 34 rfl)) (by decide) (t := .byte) (t' := (.array .byte)) (by decide) (by decide)))
  have E_a := E_a.wr W311
  have A_s' := A_s'.other W311 nsa
  have A_b307 := A_b307.other W311 (Ne.symm ne_a_b307)
  have O := O.wr W311 g_a
  have Zn := Nat.le_trans Zn (Keep.of_wr W311).1
  have Kp := Kp.wr W311 (Or.inl (List.mem_of_getElem? (i := 0) rfl))
  refine own_k T311 57 [] st311 ?_
  exact own_retV X311 hx hlk hret (hb hby d3_57) (by rw [e311]; exact ⟨_, _, rfl, N311, Kp, ⟨E_a, F_a_value, F_a_coder, A_b307⟩, b_b307⟩) (by decide) (by decide)
theorem ef_rmS1_11 (mM : MethodId) (a : Addr) (s' : Addr) (ks : ClassId) (cs : Int32) (x0 : Int32) (x1 : Int32) (x2 : Int32) (x3 : Int32) (x4 : Int32) (x5 : Int32) (x6 : Int32) (x7 : Int32) (x8 : Int32) (x9 : Int32) (x10 : Int32) : entryFrame mM #[.ref a, .ref s'] 2 = mkF mM 0 #[.val (.ref a), .val (.ref s')] [] := by first | (simp [entryFrame, mkF, argsToLocals, Value.category]; done) | rfl
theorem rmS1_11 (lL : Launch) (Z : State) (a0 : Array Value) (hw : own_tb a0 Z) (ws : List Jvm.Cond) (a : Addr) (s' : Addr) (ks : ClassId) (cs : Int32) (x0 : Int32) (x1 : Int32) (x2 : Int32) (x3 : Int32) (x4 : Int32) (x5 : Int32) (x6 : Int32) (x7 : Int32) (x8 : Int32) (x9 : Int32) (x10 : Int32) (h0 : Heap) (n0 : Nat) (g_a : n0 ≤ a) (E_a : Exa Z h0 a "java/lang/String") (F_a_value : Fld Z h0 a "java/lang/String" "value" "[B" .null) (F_a_coder : Fld Z h0 a "java/lang/String" "coder" "B" (.int 0)) (A_s' : Arv Z h0 s' ks .char 11 [.int x0, .int x1, .int x2, .int x3, .int x4, .int x5, .int x6, .int x7, .int x8, .int x9, .int x10] (.int 0)) (nsa : s' ≠ a) (O : Old Z n0 h0) (Zn : n0 ≤ h0.size) (S_cs : Sta Z Z.heap "java/lang/String" "COMPACT_STRINGS" "Z" (.int cs)) (hcs : ¬ cs = (0 : Int32)) (cx0 : Ck x0) (cx1 : Ck x1) (cx2 : Ck x2) (cx3 : Ck x3) (cx4 : Ck x4) (cx5 : Ck x5) (cx6 : Ck x6) (cx7 : Ck x7) (cx8 : Ck x8) (cx9 : Ck x9) (cx10 : Ck x10) :
    own_Ct lL Z yn9 jdk_42_method_3_code 2 none ws (⟨3, 1, 11, 52⟩ : Room) #[.ref a, .ref s'] h0 (QS Z a 11 [(.int (((x0).toInt8.toInt32)).toInt8.toInt32), (.int (((x1).toInt8.toInt32)).toInt8.toInt32), (.int (((x2).toInt8.toInt32)).toInt8.toInt32), (.int (((x3).toInt8.toInt32)).toInt8.toInt32), (.int (((x4).toInt8.toInt32)).toInt8.toInt32), (.int (((x5).toInt8.toInt32)).toInt8.toInt32), (.int (((x6).toInt8.toInt32)).toInt8.toInt32), (.int (((x7).toInt8.toInt32)).toInt8.toInt32), (.int (((x8).toInt8.toInt32)).toInt8.toInt32), (.int (((x9).toInt8.toInt32)).toInt8.toInt32), (.int (((x10).toInt8.toInt32)).toInt8.toInt32)] h0 n0) := by
  refine own_body (plainFor_of_name pn_java_2flang_2fString) 1 11 rfl rfl (fun mM => ef_rmS1_11 mM a s' ks cs x0 x1 x2 x3 x4 x5 x6 x7 x8 x9 x10) fun pP eE sS mM below meth cC s₁ hZ hx hby hml hown hnm hret hlk X0 e0 => ?_
  have N0 := Fr.nil n0
  refine o_aloadN 1 X0 hx (hb hby d2_0) rfl rfl rfl ?_
  refine o_aloadN 2 X0 hx (hb hby d2_1) rfl rfl rfl ?_
  refine o_iconst 3 0 X0 hx (hb hby d2_2) rfl rfl ?_
  refine o_aloadN 4 X0 hx (hb hby d2_3) rfl rfl rfl ?_
  obtain ⟨cl312, Ar312, q312, S312, Nn312, H312, G312⟩ := id A_s'
  refine own_j 5 [.int 11, .int 0, .ref s', .ref a] (fun t_ k_ => X0.arraylength hx (by rw [e0]; exact Ar312.1) (State.isArrayOf_alike hZ.alike Ar312.2.1) (g := (mkF mM 4 #[.val (.ref a), .val (.ref s')] [.ref s', .int 0, .ref s', .ref a])) rfl rfl (hb hby d2_4) t_ (by rw [len_of S312 Nn312]; exact k_)) ?_
  refine own_j 6 [.null, .int 11, .int 0, .ref s', .ref a] (fun t_ k_ => XS.aconstNull X0.here hx rfl (hb hby d2_5) k_) ?_
  obtain ⟨_, _, ⟨T313, L313, k313, n313⟩, -, X313, ⟨Lc313, hQ313, l313, y313, z313⟩, st313⟩ := X0.specialBack hx (y := yn8) rfl hown (mvT hZ (ow hw 12 rfl)) (mvT hZ (ow hw 13 rfl)) (mvT hZ (ow hw 15 rfl)) (by decide) (backOf (W := 0) (rmS4_11 lL Z a0 hw [] a s' ks cs x0 x1 x2 x3 x4 x5 x6 x7 x8 x9 x10 h0 n0 g_a E_a F_a_value F_a_coder A_s' nsa O Zn S_cs hcs cx0 cx1 cx2 cx3 cx4 cx5 cx6 cx7 cx8 cx9 cx10) hZ (ow hw 15 rfl) (ow hw 3 rfl) (by decide) (by decide)) (g := (mkF mM 6 #[.val (.ref a), .val (.ref s')] [.null, .int 11, .int 0, .ref s', .ref a])) rfl (by rw [hml]; rfl) (Steps.refl _) (a := a) (argsL := [.ref s', .int 0, .int 11, .null]) (rest := []) (lenOf pd__28_5bCIILjava_2flang_2fVoid_3b_29V rfl) rfl (by show 2 * 0 + _ ≤ _; exact Nat.le_of_eq rfl) (hb hby d2_6) (fun _ _ => ⟨rfl, e0, (by decide : 0 + 1 ≤ _), (by decide : 0 + 11 ≤ _)⟩)
  dsimp only [Pt.U, Pt.locs, Pt.cells, Pt.slots] at X313 l313 y313 z313 st313 hQ313
  subst l313 y313 z313
  obtain ⟨d313, k313', rfl, N313q, R313⟩ := hQ313
  have N313 := Fr.app N0 N313q
  have e313 : T313.heap = T313.heap := rfl
  refine own_k T313 9 [] (fun t_ k_ => st313.trans k_) ?_
  exact own_retV X313 hx hlk hret (hb hby d2_9) ⟨_, _, rfl, N313, R313⟩ (by decide) (by decide)
theorem d17_0 : decode jdk_43_method_3_code 0 = .ok (.iload_n 0, 1) := by decide +kernel
theorem d17_1 : decode jdk_43_method_3_code 1 = .ok (.sipush 255, 3) := by decide +kernel
theorem d17_4 : decode jdk_43_method_3_code 4 = .ok (.if_icmp .gt 7, 3) := by decide +kernel
theorem d17_7 : decode jdk_43_method_3_code 7 = .ok (.iconst 1, 1) := by decide +kernel
theorem d17_8 : decode jdk_43_method_3_code 8 = .ok (.goto 4, 3) := by decide +kernel
theorem d17_12 : decode jdk_43_method_3_code 12 = .ok (.ireturn, 1) := by decide +kernel
theorem ef_rmCE (mM : MethodId) (xc : Int32) : entryFrame mM #[.int xc] 1 = mkF mM 0 #[.val (.int xc)] [] := by first | (simp [entryFrame, mkF, argsToLocals, Value.category]; done) | rfl
theorem rmCE (lL : Launch) (Z : State) (a0 : Array Value) (hw : own_tb a0 Z) (ws : List Jvm.Cond) (xc : Int32) (h0 : Heap) (n0 : Nat) (cxc : Ck xc) :
    own_Ct lL Z yn10 jdk_43_method_3_code 1 (some .boolean) ws (⟨0, 0, 0, 0⟩ : Room) #[.int xc] h0 (Qw (.int 1) h0 n0) := by
  refine own_body (plainFor_of_name pn_java_2flang_2fStringLatin1) 0 0 rfl rfl (fun mM => ef_rmCE mM xc) fun pP eE sS mM below meth cC s₁ hZ hx hby hml hown hnm hret hlk X0 e0 => ?_
  have N0 := Fr.nil n0
  refine o_iloadN 1 X0 hx (hb hby d17_0) rfl rfl ?_
  refine o_sipush 4 255 X0 hx (hb hby d17_1) rfl rfl ?_
  refine o_icmpNo 7 X0 hx (hb hby d17_4) (flt cxc.2.1).2.2.1 rfl ?_
  refine o_iconst 8 1 X0 hx (hb hby d17_7) rfl rfl ?_
  refine o_goto 12 X0 hx (hb hby d17_8) (by decide) ?_
  exact own_retN X0 hx hlk (t := .boolean) hret (by simp) (hb hby d17_12) ⟨rfl, N0, e0⟩ (by decide) (by decide)
theorem d18_0 : decode jdk_43_method_46_code 0 = .ok (.iconst 1, 1) := by decide +kernel
theorem d18_1 : decode jdk_43_method_46_code 1 = .ok (.newarray .byte, 2) := by decide +kernel
theorem d18_3 : decode jdk_43_method_46_code 3 = .ok (.dup, 1) := by decide +kernel
theorem d18_4 : decode jdk_43_method_46_code 4 = .ok (.iconst 0, 1) := by decide +kernel
theorem d18_5 : decode jdk_43_method_46_code 5 = .ok (.iload_n 0, 1) := by decide +kernel
theorem d18_6 : decode jdk_43_method_46_code 6 = .ok (.i2b, 1) := by decide +kernel
theorem d18_7 : decode jdk_43_method_46_code 7 = .ok (.bastore, 1) := by decide +kernel
theorem d18_8 : decode jdk_43_method_46_code 8 = .ok (.areturn, 1) := by decide +kernel
theorem ef_rmTB (mM : MethodId) (xc : Int32) : entryFrame mM #[.int xc] 1 = mkF mM 0 #[.val (.int xc)] [] := by first | (simp [entryFrame, mkF, argsToLocals, Value.category]; done) | rfl
theorem rmTB (lL : Launch) (Z : State) (a0 : Array Value) (hw : own_tb a0 Z) (ws : List Jvm.Cond) (xc : Int32) (h0 : Heap) (n0 : Nat) (Zn : n0 ≤ h0.size) :
    own_Ct lL Z yn11 jdk_43_method_46_code 1 (some (.array .byte)) ws (⟨0, 1, 1, 0⟩ : Room) #[.int xc] h0 (QC3 Z 1 [(.int (((xc).toInt8.toInt32)).toInt8.toInt32)] h0 n0) := by
  refine own_body (plainFor_of_name pn_java_2flang_2fStringLatin1) 1 1 rfl rfl (fun mM => ef_rmTB mM xc) fun pP eE sS mM below meth cC s₁ hZ hx hby hml hown hnm hret hlk X0 e0 => ?_
  have N0 := Fr.nil n0
  have Kp := Keep.refl h0 []
  refine o_iconst 1 1 X0 hx (hb hby d18_0) rfl rfl ?_
  obtain ⟨T314, h314, k314, X314, e314, E314, A314, st314⟩ := newP X0 hx hZ (ow hw 24 rfl) e0 (g := (mkF mM 1 #[.val (.int xc)] [.int 1])) rfl (hb hby d18_1) rfl (by decide) (cap := 1) (by decide) (by decide) (by decide) (by decide)
  obtain ⟨b314, g314⟩ : ∃ z, z = h0.size := ⟨_, rfl⟩
  rw [← g314] at A314 st314
  have g_b314 : n0 ≤ b314 := Nat.le_trans Zn (Nat.le_of_eq g314.symm)
  have b_b314 : h0.size ≤ b314 := Nat.le_trans Kp.1 (Nat.le_of_eq g314.symm)
  have Zn := Nat.le_trans Zn E314.1
  have Kp := Kp.ext E314
  have A_b314 : Arv Z h314 b314 k314 .byte 1 [.int 0] (.int 0) := (Arv.new A314 (by decide)).pad (pad_rep [] (.int 0) 1)
  refine own_k T314 3 [.ref b314] st314 ?_
  refine o_dup 4 X314 hx (hb hby d18_3) rfl rfl ?_
  refine o_iconst 5 0 X314 hx (hb hby d18_4) rfl rfl ?_
  refine o_iloadN 6 X314 hx (hb hby d18_5) rfl rfl ?_
  refine own_j 7 [(.int ((xc).toInt8.toInt32)), .int 0, .ref b314, .ref b314] (fun t_ k_ => XS.i2b X314.here hx rfl (hb hby d18_6) rfl k_) ?_
  obtain ⟨cl315, Ar315, q315, S315, Nn315, H315, G315⟩ := id A_b314
  obtain ⟨T316, h316, X316, e316, W316, st316⟩ := stB X314 hx hZ e314 Ar315 (j := (0 : Int32)) (inb_of S315 ⟨by decide, by decide⟩) (g := (mkF mM 7 #[.val (.int xc)] [(.int ((xc).toInt8.toInt32)), .int 0, .ref b314, .ref b314])) rfl rfl (hb hby d18_7)
  have N316 := Fr.snoc X316 N0 g_b314
  have Zn := Nat.le_trans Zn (Keep.of_wr W316).1
  have Kp := Kp.wr W316 (Or.inr b_b314)
  have A_b314 : Arv Z h316 b314 k314 .byte 1 [(.int (((xc).toInt8.toInt32)).toInt8.toInt32)] (.int 0) := Arv.set Ar315 q315 S315 Nn315 H315 G315 (fits_nar_byte _) W316 0 rfl (Nat.le_of_ble_eq_true rfl)
  refine own_k T316 8 [.ref b314] st316 ?_
  exact own_retA X316 hx hlk hret rfl rfl (hb hby d18_8) (by rw [e316]; exact ⟨_, _, rfl, N316, own_ext_of_keep Kp, A_b314, b_b314⟩) (by decide) (by decide)
theorem d19_0 : decode jdk_42_method_151_code 0 = .ok (.aload_n 0, 1) := by decide +kernel
theorem d19_1 : decode jdk_42_method_151_code 1 = .ok (.invokespecial 1, 3) := by decide +kernel
theorem d19_4 : decode jdk_42_method_151_code 4 = .ok (.aload_n 0, 1) := by decide +kernel
theorem d19_5 : decode jdk_42_method_151_code 5 = .ok (.aload_n 1, 1) := by decide +kernel
theorem d19_6 : decode jdk_42_method_151_code 6 = .ok (.putfield 9, 3) := by decide +kernel
theorem d19_9 : decode jdk_42_method_151_code 9 = .ok (.aload_n 0, 1) := by decide +kernel
theorem d19_10 : decode jdk_42_method_151_code 10 = .ok (.iload_n 2, 1) := by decide +kernel
theorem d19_11 : decode jdk_42_method_151_code 11 = .ok (.putfield 15, 3) := by decide +kernel
theorem d19_14 : decode jdk_42_method_151_code 14 = .ok (.return_, 1) := by decide +kernel
theorem ef_rmIB (mM : MethodId) (a : Addr) (d : Addr) : entryFrame mM #[.ref a, .ref d, .int 0] 3 = mkF mM 0 #[.val (.ref a), .val (.ref d), .val (.int 0)] [] := by first | (simp [entryFrame, mkF, argsToLocals, Value.category]; done) | rfl
theorem rmIB (lL : Launch) (Z : State) (a0 : Array Value) (hw : own_tb a0 Z) (ws : List Jvm.Cond) (a : Addr) (d : Addr) (h0 : Heap) (n0 : Nat) (g_a : n0 ≤ a) (E_a : Exa Z h0 a "java/lang/String") (F_a_value : Fld Z h0 a "java/lang/String" "value" "[B" .null) (F_a_coder : Fld Z h0 a "java/lang/String" "coder" "B" (.int 0)) :
    own_Ct lL Z yn12 jdk_42_method_151_code 3 none ws (⟨1, 0, 0, 12⟩ : Room) #[.ref a, .ref d, .int 0] h0 (QSB a Z d h0 n0) := by
  refine own_body (plainFor_of_name pn_java_2flang_2fString) 0 0 rfl rfl (fun mM => ef_rmIB mM a d) fun pP eE sS mM below meth cC s₁ hZ hx hby hml hown hnm hret hlk X0 e0 => ?_
  have N0 := Fr.nil n0
  have Kp := Keep.refl h0 [a]
  refine o_aloadN 1 X0 hx (hb hby d19_0) rfl rfl rfl ?_
  obtain ⟨T317, X317, e317, st317⟩ := initO X0 hx hZ hown (ow hw 16 rfl) (ow hw 17 rfl) (ow hw 18 rfl) e0 (g := (mkF mM 1 #[.val (.ref a), .val (.ref d), .val (.int 0)] [.ref a])) rfl (by rw [hml]; rfl) rfl (hb hby d19_1) (by decide) (W := 0) (by show 2 * 0 + _ ≤ _; exact Nat.le_of_eq rfl) (by decide)
  refine own_k T317 4 [] st317 ?_
  refine o_aloadN 5 X317 hx (hb hby d19_4) rfl rfl rfl ?_
  refine o_aloadN 6 X317 hx (hb hby d19_5) rfl rfl rfl ?_
  obtain ⟨T318, h318, X318, e318, W318, st318⟩ := putF X317 hx hZ hown (host := "") (Or.inl (ow hw 33 rfl)) Via.refl e317 F_a_value E_a (Or.inr ⟨(ow hw 34 rfl), rfl, hnm⟩) (ow hw 2 rfl) (ty := (.array .byte)) (by decide) rfl rfl (g := (mkF mM 6 #[.val (.ref a), .val (.ref d), .val (.int 0)] [.ref d, .ref a])) rfl rfl (hb hby d19_6)
  have N318 := Fr.snoc X318 N0 g_a
  have F_a_value := F_a_value.same W318
  have F_a_coder := F_a_coder.other W318 (Or.inr (slot_ne (Or.inr (ow hw 32 rfl)) (Or.inr (ow hw 34 rfl)) (by decide) (t := .byte) (t' := (.array .byte)) (by decide) (by decide)))
  have E_a := E_a.wr W318
  have Kp := Kp.wr W318 (Or.inl (List.mem_of_getElem? (i := 0) rfl))
  refine own_k T318 9 [] st318 ?_
  refine o_aloadN 10 X318 hx (hb hby d19_9) rfl rfl rfl ?_
  refine o_iloadN 11 X318 hx (hb hby d19_10) rfl rfl ?_
  obtain ⟨T319, h319, X319, e319, W319, st319⟩ := putFN X318 hx hZ hown (ow hw 31 rfl) Via.refl e318 F_a_coder E_a (Or.inr ⟨(ow hw 32 rfl), rfl, hnm⟩) (ow hw 2 rfl) (ty := .byte) (v' := (.int 0)) (by decide) rfl (by decide) (g := (mkF mM 11 #[.val (.ref a), .val (.ref d), .val (.int 0)] [.int 0, .ref a])) rfl rfl (hb hby d19_11)
  have N319 := Fr.snoc X319 N318 g_a
  have F_a_value := F_a_value.other W319 (Or.inr (slot_ne (Or.inr (ow hw 34 rfl)) (Or.inr (ow hw 32 rfl)) (by decide) (t := (.array .byte)) (t' := .byte) (by decide) (by decide)))
  have F_a_coder := F_a_coder.same W319
  have E_a := E_a.wr W319
  have Kp := Kp.wr W319 (Or.inl (List.mem_of_getElem? (i := 0) rfl))
  refine own_k T319 14 [] st319 ?_
  exact own_retV X319 hx hlk hret (hb hby d19_14) (by rw [e319]; exact ⟨rfl, N319, Kp, E_a, F_a_value, F_a_coder⟩) (by decide) (by decide)
theorem d16_0 : decode jdk_42_method_139_code 0 = .ok (.getstatic 38, 3) := by decide +kernel
theorem d16_3 : decode jdk_42_method_139_code 3 = .ok (.ifCond .eq 23, 3) := by decide +kernel
theorem d16_6 : decode jdk_42_method_139_code 6 = .ok (.iload_n 0, 1) := by decide +kernel
theorem d16_7 : decode jdk_42_method_139_code 7 = .ok (.invokestatic 1015, 3) := by decide +kernel
theorem pd__28C_29Z : parseMethodDescriptor "(C)Z" = some ⟨[.char], some .boolean⟩ := by decide +kernel
theorem d16_10 : decode jdk_42_method_139_code 10 = .ok (.ifCond .eq 16, 3) := by decide +kernel
theorem d16_13 : decode jdk_42_method_139_code 13 = .ok (.new 10, 3) := by decide +kernel
theorem d16_16 : decode jdk_42_method_139_code 16 = .ok (.dup, 1) := by decide +kernel
theorem d16_17 : decode jdk_42_method_139_code 17 = .ok (.iload_n 0, 1) := by decide +kernel
theorem d16_18 : decode jdk_42_method_139_code 18 = .ok (.invokestatic 1018, 3) := by decide +kernel
theorem pd__28C_29_5bB : parseMethodDescriptor "(C)[B" = some ⟨[.char], some (.array .byte)⟩ := by decide +kernel
theorem d16_21 : decode jdk_42_method_139_code 21 = .ok (.iconst 0, 1) := by decide +kernel
theorem d16_22 : decode jdk_42_method_139_code 22 = .ok (.invokespecial 209, 3) := by decide +kernel
theorem pd__28_5bBB_29V : parseMethodDescriptor "([BB)V" = some ⟨[(.array .byte), .byte], none⟩ := by decide +kernel
theorem d16_25 : decode jdk_42_method_139_code 25 = .ok (.areturn, 1) := by decide +kernel
theorem ef_rmVO (mM : MethodId) (xc : Int32) (cs : Int32) : entryFrame mM #[.int xc] 1 = mkF mM 0 #[.val (.int xc)] [] := by first | (simp [entryFrame, mkF, argsToLocals, Value.category]; done) | rfl
theorem rmVO (lL : Launch) (Z : State) (a0 : Array Value) (hw : own_tb a0 Z) (ws : List Jvm.Cond) (xc : Int32) (cs : Int32) (h0 : Heap) (n0 : Nat) (O : Old Z n0 h0) (Zn : n0 ≤ h0.size) (S_cs : Sta Z Z.heap "java/lang/String" "COMPACT_STRINGS" "Z" (.int cs)) (hcs : ¬ cs = (0 : Int32)) (cxc : Ck xc) :
    own_Ct lL Z yn13 jdk_42_method_139_code 1 (some (.object "java/lang/String")) ws (⟨2, 2, 5, 27⟩ : Room) #[.int xc] h0 (QDr Z h0 n0) := by
  refine own_body (plainFor_of_name pn_java_2flang_2fString) 2 5 rfl rfl (fun mM => ef_rmVO mM xc cs) fun pP eE sS mM below meth cC s₁ hZ hx hby hml hown hnm hret hlk X0 e0 => ?_
  have N0 := Fr.nil n0
  have Kp := Keep.refl h0 []
  obtain ⟨T320, X320, e320, st320⟩ := getS2 X0 hx hZ hown (host := "") (Or.inl (ow hw 19 rfl)) Via.refl e0 (S_cs.ext O.2) (g := (mkF mM 0 #[.val (.int xc)] [])) rfl (hb hby d16_0)
  refine own_k T320 3 [.int cs] st320 ?_
  refine o_ifNo 6 X320 hx (hb hby d16_3) ((if0 _ _).trans (feq hcs).1) rfl ?_
  refine o_iloadN 7 X320 hx (hb hby d16_6) rfl rfl ?_
  obtain ⟨_, _, ⟨T321, L321, k321, n321⟩, -, X321, ⟨Lc321, hQ321, l321, y321, z321⟩, st321⟩ := Jvm.LawKit.callS X320 hx (y := yn10) hown (mvT hZ (ow hw 93 rfl)) (mvT hZ (ow hw 94 rfl)) (mvT hZ (ow hw 49 rfl)) (mvT hZ (ow hw 95 rfl)) (by decide) (backOf (W := 0) (rmCE lL Z a0 hw [] xc h0 n0 cxc) hZ (ow hw 95 rfl) (ow hw 49 rfl) (by decide) (by decide)) (g := (mkF mM 7 #[.val (.int xc)] [.int xc])) rfl (by rw [hml]; rfl) (argsL := [.int xc]) (rest := []) (lenOf pd__28C_29Z rfl) rfl (by show 2 * 0 + _ ≤ _; exact Nat.le_of_eq rfl) (hb hby d16_7) (fun _ _ => ⟨rfl, e320, (by decide : 0 + 0 ≤ _), (by decide : 0 + 0 ≤ _)⟩)
  dsimp only [Pt.U, Pt.locs, Pt.cells, Pt.slots] at X321 l321 y321 z321 st321 hQ321
  subst l321 y321 z321
  obtain ⟨rfl, N321q, e321⟩ := hQ321
  have N321 := Fr.app N0 N321q
  refine own_k T321 10 [.int 1] st321 ?_
  refine o_ifNo 13 X321 hx (hb hby d16_10) ((if0 _ _).trans (feq (by decide : ¬ ((1 : Int32) = (0 : Int32)))).1) rfl ?_
  obtain ⟨T322, h322, X322, e322, E322, A322, D322, -, st322⟩ := newO X321 hx hZ hown (ow hw 46 rfl) (ow hw 2 rfl) (ow hw 3 rfl) e321 (g := (mkF mM 13 #[.val (.int xc)] [])) rfl (hb hby d16_13) (by decide) (by decide)
  obtain ⟨b322, g322⟩ : ∃ z, z = h0.size := ⟨_, rfl⟩
  rw [← g322] at A322 D322 st322
  have g_b322 : n0 ≤ b322 := Nat.le_trans Zn (Nat.le_of_eq g322.symm)
  have b_b322 : h0.size ≤ b322 := Nat.le_trans Kp.1 (Nat.le_of_eq g322.symm)
  have O := O.ext E322
  have Zn := Nat.le_trans Zn E322.1
  have Kp := Kp.ext E322
  have E_b322 := A322
  have F_b322_coder : Fld Z h322 b322 "java/lang/String" "coder" "B" (.int 0) := D322 (Or.inr (ow hw 32 rfl)) (ty := .byte) (by decide)
  have F_b322_value : Fld Z h322 b322 "java/lang/String" "value" "[B" .null := D322 (Or.inr (ow hw 34 rfl)) (ty := (.array .byte)) (by decide)
  refine own_k T322 16 [.ref b322] st322 ?_
  refine o_dup 17 X322 hx (hb hby d16_16) rfl rfl ?_
  refine o_iloadN 18 X322 hx (hb hby d16_17) rfl rfl ?_
  obtain ⟨_, _, ⟨T323, L323, k323, n323⟩, -, X323, ⟨Lc323, hQ323, l323, y323, z323⟩, st323⟩ := Jvm.LawKit.callS X322 hx (y := yn11) hown (mvT hZ (ow hw 96 rfl)) (mvT hZ (ow hw 97 rfl)) (mvT hZ (ow hw 49 rfl)) (mvT hZ (ow hw 98 rfl)) (by decide) (backOf (W := 2) (rmTB lL Z a0 hw [] xc h322 n0 Zn) hZ (ow hw 98 rfl) (ow hw 49 rfl) (by decide) (by decide)) (g := (mkF mM 18 #[.val (.int xc)] [.int xc, .ref b322, .ref b322])) rfl (by rw [hml]; rfl) (argsL := [.int xc]) (rest := [.ref b322, .ref b322]) (lenOf pd__28C_29_5bB rfl) rfl (by show 2 * 0 + _ ≤ _; exact Nat.le_of_eq rfl) (hb hby d16_18) (fun _ _ => ⟨rfl, e322, (by decide : 1 + 1 ≤ _), (by decide : 4 + 1 ≤ _)⟩)
  dsimp only [Pt.U, Pt.locs, Pt.cells, Pt.slots] at X323 l323 y323 z323 st323 hQ323
  subst l323 y323 z323
  obtain ⟨b323, k323', rfl, N323q, E323, V323, ge323⟩ := hQ323
  have N323 := Fr.app N321 N323q
  have e323 : T323.heap = T323.heap := rfl
  refine own_k T323 21 [.ref b323, .ref b322, .ref b322] st323 ?_
  have ne_b322_b323 : b322 ≠ b323 := Nat.ne_of_lt (Nat.lt_of_lt_of_le E_b322.lt ge323)
  have F_b322_coder := F_b322_coder.ext E323
  have F_b322_value := F_b322_value.ext E323
  have E_b322 := E_b322.ext E323
  have O := O.ext E323
  have Zn := Nat.le_trans Zn E323.1
  have Kp := Kp.ext E323
  have A_b323 := V323
  refine o_iconst 22 0 X323 hx (hb hby d16_21) rfl rfl ?_
  obtain ⟨_, _, ⟨T324, L324, k324, n324⟩, -, X324, ⟨Lc324, hQ324, l324, y324, z324⟩, st324⟩ := X323.specialBack hx (y := yn12) rfl hown (mvT hZ (ow hw 99 rfl)) (mvT hZ (ow hw 100 rfl)) (mvT hZ (ow hw 101 rfl)) (by decide) (backOf (W := 1) (rmIB lL Z a0 hw [] b322 b323 T323.heap n0 g_b322 E_b322 F_b322_value F_b322_coder) hZ (ow hw 101 rfl) (ow hw 3 rfl) (by decide) (by decide)) (g := (mkF mM 22 #[.val (.int xc)] [.int 0, .ref b323, .ref b322, .ref b322])) rfl (by rw [hml]; rfl) (Steps.refl _) (a := b322) (argsL := [.ref b323, .int 0]) (rest := [.ref b322]) (lenOf pd__28_5bBB_29V rfl) rfl (by show 2 * 0 + _ ≤ _; exact Nat.le_of_eq rfl) (hb hby d16_22) (fun _ _ => ⟨rfl, e323, (by decide : 2 + 0 ≤ _), (by decide : 5 + 0 ≤ _)⟩)
  dsimp only [Pt.U, Pt.locs, Pt.cells, Pt.slots] at X324 l324 y324 z324 st324 hQ324
  subst l324 y324 z324
  obtain ⟨rfl, N324q, K324, x324, y324, z324'⟩ := hQ324
  have N324 := Fr.app N323 N324q
  have e324 : T324.heap = T324.heap := rfl
  refine own_k T324 25 [.ref b322] (fun t_ k_ => st324.trans k_) ?_
  have E_b322 := E_b322.keep K324
  have A_b323 := A_b323.keep K324 (ninS (Ne.symm ne_b322_b323) nin0)
  have O := O.keep K324 (allS g_b322 all0)
  have Zn := Nat.le_trans Zn K324.1
  have Kp := Kp.trans K324 (allS (Or.inr b_b322) all0)
  exact own_retA X324 hx hlk hret rfl rfl (hb hby d16_25) (by rw [e324]; exact ⟨_, [(((xc).toInt8.toInt32)).toInt8.toInt32], rfl, N324, own_ext_of_keep Kp, ⟨_, _, _, ⟨x324, y324, z324', A_b323⟩, rfl⟩⟩) (by decide) (by decide)
theorem d3_8 : decode jdk_42_method_149_code 8 = .ok (.aload_n 0, 1) := by decide +kernel
theorem d3_9 : decode jdk_42_method_149_code 9 = .ok (.ldc 7, 2) := by decide +kernel
theorem d3_11 : decode jdk_42_method_149_code 11 = .ok (.getfield 9, 3) := by decide +kernel
theorem d3_14 : decode jdk_42_method_149_code 14 = .ok (.putfield 9, 3) := by decide +kernel
theorem d3_17 : decode jdk_42_method_149_code 17 = .ok (.aload_n 0, 1) := by decide +kernel
theorem d3_18 : decode jdk_42_method_149_code 18 = .ok (.ldc 7, 2) := by decide +kernel
theorem d3_20 : decode jdk_42_method_149_code 20 = .ok (.getfield 15, 3) := by decide +kernel
theorem d3_23 : decode jdk_42_method_149_code 23 = .ok (.putfield 15, 3) := by decide +kernel
theorem d3_26 : decode jdk_42_method_149_code 26 = .ok (.return_, 1) := by decide +kernel
theorem ef_rmS4_0 (mM : MethodId) (a : Addr) (s' : Addr) : entryFrame mM #[.ref a, .ref s', .int 0, .int 0, .null] 6 = mkF mM 0 #[.val (.ref a), .val (.ref s'), .val (.int 0), .val (.int 0), .val .null, .unset] [] := by first | (simp [entryFrame, mkF, argsToLocals, Value.category]; done) | rfl
theorem rmS4_0 (lL : Launch) (Z : State) (a0 : Array Value) (hw : own_tb a0 Z) (ws : List Jvm.Cond) (a : Addr) (s' : Addr) (h0 : Heap) (n0 : Nat) (g_a : n0 ≤ a) (E_a : Exa Z h0 a "java/lang/String") (F_a_value : Fld Z h0 a "java/lang/String" "value" "[B" .null) (F_a_coder : Fld Z h0 a "java/lang/String" "coder" "B" (.int 0)) (O : Old Z n0 h0) (Zn : n0 ≤ h0.size) (hcw : Jvm.Lit.compactW.before a0 Z = true) (hh7 : Jvm.Lit.constHeld Z "java/lang/String" 7) :
    MetFree lL yn8 (head1 (Jvm.Cond.code yn8 jdk_42_method_149_code 6 none :: ws) (⟨1, 2, 4, 12⟩ : Room)) (fun as_ uU_ => as_ = #[.ref a, .ref s', .int 0, .int 0, .null] ∧ Z.Warmed39 uU_.vm ∧ uU_.heap = h0 ∧ IB Z uU_.vm []) (fun _ _ _ _ _ => True) (fun _ uU_ oO_ uE_ => ∃ vV_ lL_, oO_ = .returned vV_ ∧ QSE Z a h0 n0 vV_ uE_.heap lL_ uE_.vm ∧ ReturnedEndW uU_ oO_ uE_ lL_ (⟨1, 2, 4, 12⟩ : Room).cells (⟨1, 2, 4, 12⟩ : Room).slots) := by
  refine MetFree.of_bodySF (plainFor_of_name pn_java_2flang_2fString) hisR ?_
  intro pP eE sS mM args below meth cC s₁ Bd hml0 hP hK
  obtain ⟨rfl, hZ, hh, hI⟩ := hP
  have hx := Bd.exec
  have hby := Bd.bytes
  have hml : cC.maxLocals = 6 := hml0
  have hown : sS.vm.findClass "java/lang/String" = some mM.cls := findClass_of_methodNamed Bd.named
  have hnm := (name_of_methodNamed Bd.named Bd.method).1
  have hret := Bd.returns
  have hlk := BodyLoose.notSynchronized Bd
  have X0 : Stand pP lL eE (⟨1, 2, 4, 12⟩ : Room) sS mM #[.ref a, .ref s', .int 0, .int 0, .null] below meth cC s₁ [] 0 0 := Stand.of_body Bd
  have e0 : s₁.heap = h0 := by rw [← hh, Bd.state]; rfl
  have N0 := Fr.nil n0
  have X0 : Stand pP lL eE (⟨1, 2, 4, 12⟩ : Room) (sS.setVm sS.vm) mM #[.ref a, .ref s', .int 0, .int 0, .null] below meth cC s₁ [] 0 0 := X0
  have hZ : Z.Warmed39 (sS.setVm sS.vm).vm := hZ
  have hown : (sS.setVm sS.vm).vm.findClass "java/lang/String" = some mM.cls := hown
  have hS : sS.Since sS.vm 0 := (State.WarmedH.refl sS).since 0
  have hk : 0 ≤ h0.size := Nat.zero_le _
  show own_GoW pP eE below sS (QSE Z a h0 n0) 2 4 (s₁.setTop (entryFrame mM #[.ref a, .ref s', .int 0, .int 0, .null] 6))
  refine own_stW (A := s₁.setTop (mkF mM 0 #[.val (.ref a), .val (.ref s'), .val (.int 0), .val (.int 0), .val .null, .unset] [])) (fun t_ k_ => castTop (ef_rmS4_0 mM a s') k_) ?_
  have Kp := Keep.refl h0 [a]
  refine o_aloadNW 1 X0 hx (hb hby d3_0) rfl rfl rfl ?_
  obtain ⟨T325, X325, e325, st325⟩ := initO X0 hx hZ hown (ow hw 16 rfl) (ow hw 17 rfl) (ow hw 18 rfl) e0 (g := (mkF mM 1 #[.val (.ref a), .val (.ref s'), .val (.int 0), .val (.int 0), .val .null, .unset] [.ref a])) rfl (by rw [hml]; rfl) rfl (hb hby d3_1) (by decide) (W := 0) (by show 2 * 0 + _ ≤ _; exact Nat.le_of_eq rfl) (by decide)
  refine own_kW T325 4 [] st325 ?_
  refine o_iloadNW 5 X325 hx (hb hby d3_4) rfl rfl ?_
  refine o_ifNoW 8 X325 hx (hb hby d3_5) ((if0 _ _).trans (teq (by decide : ((0 : Int32) = (0 : Int32)))).2) rfl ?_
  refine o_aloadNW 9 X325 hx (hb hby d3_8) rfl rfl rfl ?_
  obtain ⟨lz, T326, h326, k326, lzv, kz326, X326, e326, E326, hS, hk326, hZ326, hown326, EX326, FC326, FV326, AZ326, -, -, IB326, Li_lz, st326⟩ := ldcSVL X325 hx hZ hown (ow hw 89 rfl) (own_wS hw) e325 hS hk (Fr.nil _) (fun b cl q => by rw [hh]; exact O.2.2 b cl q) hI (by decide) hh7 hcw (vs := []) (z := 0) ⟨by decide, by rfl⟩ (by decide) (by decide) (g := (mkF mM 9 #[.val (.ref a), .val (.ref s'), .val (.int 0), .val (.int 0), .val .null, .unset] [.ref a])) rfl (hb hby d3_9) (n := 0) (by decide) (by decide) (by decide) (by decide)
  have F_a_value := F_a_value.ext E326
  have F_a_coder := F_a_coder.ext E326
  have E_a := E_a.ext E326
  have O := O.ext E326
  have hk := Nat.le_trans hk E326.1
  have Zn := Nat.le_trans Zn E326.1
  have Kp := Kp.ext E326
  have hk := hk326
  have hZ := hZ326
  have hown := hown326
  have E_lz := EX326
  have F_lz_value := FV326
  have F_lz_coder := FC326
  refine own_kW T326 11 [.ref lz, .ref a] st326 ?_
  have hI := IB326
  have ne_lz_a : lz ≠ a := by
    intro q; rw [q] at F_lz_value; cases own_Fld_inj F_a_value F_lz_value
  have A_lzv := AZ326
  have ne_lzv_a : lzv ≠ a := (Exa.neArv E_a A_lzv (ow hw 2 rfl)).symm
  obtain ⟨T327, X327, e327, st327⟩ := getF X326 hx hZ hown (host := "") (Or.inl (ow hw 33 rfl)) Via.refl e326 F_lz_value (g := (mkF mM 11 #[.val (.ref a), .val (.ref s'), .val (.int 0), .val (.int 0), .val .null, .unset] [.ref lz, .ref a])) rfl rfl (hb hby d3_11)
  refine own_kW T327 14 [.ref lzv, .ref a] st327 ?_
  obtain ⟨T328, h328, X328, e328, W328, st328⟩ := putF X327 hx hZ hown (host := "") (Or.inl (ow hw 33 rfl)) Via.refl e327 F_a_value E_a (Or.inr ⟨(ow hw 34 rfl), rfl, hnm⟩) (ow hw 2 rfl) (ty := (.array .byte)) (by decide) rfl rfl (g := (mkF mM 14 #[.val (.ref a), .val (.ref s'), .val (.int 0), .val (.int 0), .val .null, .unset] [.ref lzv, .ref a])) rfl rfl (hb hby d3_14)
  have N328 := Fr.snoc X328 N0 g_a
  have F_a_value := F_a_value.same W328
  have F_a_coder := F_a_coder.other W328 (Or.inr (slot_ne (Or.inr (ow hw 32 rfl)) (Or.inr (ow hw 34 rfl)) (by decide) (t := .byte) (t' := (.array .byte)) (by decide) (by decide)))
  have F_lz_value := F_lz_value.other W328 (Or.inl ne_lz_a)
  have F_lz_coder := F_lz_coder.other W328 (Or.inl ne_lz_a)
  have E_a := E_a.wr W328
  have E_lz := E_lz.wr W328
  have A_lzv := A_lzv.other W328 ne_lzv_a
  have hk := Nat.le_trans hk (Keep.of_wr W328).1
  have O := O.wr W328 g_a
  have Zn := Nat.le_trans Zn (Keep.of_wr W328).1
  have Kp := Kp.wr W328 (Or.inl (List.mem_of_getElem? (i := 0) rfl))
  refine own_kW T328 17 [] st328 ?_
  refine o_aloadNW 18 X328 hx (hb hby d3_17) rfl rfl rfl ?_
  refine own_jW 20 [.ref lz, .ref a] (fun t_ k_ => ldcAgain X328 hx hZ hown (ow hw 89 rfl) Li_lz (g := (mkF mM 18 #[.val (.ref a), .val (.ref s'), .val (.int 0), .val (.int 0), .val .null, .unset] [.ref a])) rfl (hb hby d3_18) t_ k_) ?_
  obtain ⟨T329, X329, e329, st329⟩ := getF X328 hx hZ hown (host := "") (Or.inl (ow hw 31 rfl)) Via.refl e328 F_lz_coder (g := (mkF mM 20 #[.val (.ref a), .val (.ref s'), .val (.int 0), .val (.int 0), .val .null, .unset] [.ref lz, .ref a])) rfl rfl (hb hby d3_20)
  refine own_kW T329 23 [.int 0, .ref a] st329 ?_
  obtain ⟨T330, h330, X330, e330, W330, st330⟩ := putFN X329 hx hZ hown (ow hw 31 rfl) Via.refl e329 F_a_coder E_a (Or.inr ⟨(ow hw 32 rfl), rfl, hnm⟩) (ow hw 2 rfl) (ty := .byte) (v' := (.int 0)) (by decide) rfl (by decide) (g := (mkF mM 23 #[.val (.ref a), .val (.ref s'), .val (.int 0), .val (.int 0), .val .null, .unset] [.int 0, .ref a])) rfl rfl (hb hby d3_23)
  have N330 := Fr.snoc X330 N328 g_a
  have F_a_value := F_a_value.other W330 (Or.inr (slot_ne (Or.inr (ow hw 34 rfl)) (Or.inr (ow hw 32 rfl)) (by decide) (t := (.array .byte)) (t' := .byte) (by decide) (by decide)))
  have F_a_coder := F_a_coder.same W330
  have F_lz_value := F_lz_value.other W330 (Or.inl ne_lz_a)
  have F_lz_coder := F_lz_coder.other W330 (Or.inl ne_lz_a)
  have E_a := E_a.wr W330
  have E_lz := E_lz.wr W330
  have A_lzv := A_lzv.other W330 ne_lzv_a
  have hk := Nat.le_trans hk (Keep.of_wr W330).1
  have O := O.wr W330 g_a
  have Zn := Nat.le_trans Zn (Keep.of_wr W330).1
  have Kp := Kp.wr W330 (Or.inl (List.mem_of_getElem? (i := 0) rfl))
  refine own_kW T330 26 [] st330 ?_
  exact own_retWV X330 hx hlk hS (by rw [e330]; exact hk) hret (hb hby d3_26) (by rw [e330]; exact ⟨rfl, N330, Kp, ⟨_, _, _, ⟨E_a, F_a_value, F_a_coder, A_lzv⟩, rfl⟩, own_IBt hI X330.warmed.interned_eq⟩) (by decide) (by decide)
theorem ef_rmS1_0 (mM : MethodId) (a : Addr) (s' : Addr) (ks : ClassId) : entryFrame mM #[.ref a, .ref s'] 2 = mkF mM 0 #[.val (.ref a), .val (.ref s')] [] := by first | (simp [entryFrame, mkF, argsToLocals, Value.category]; done) | rfl
theorem rmS1_0 (lL : Launch) (Z : State) (a0 : Array Value) (hw : own_tb a0 Z) (ws : List Jvm.Cond) (a : Addr) (s' : Addr) (ks : ClassId) (h0 : Heap) (n0 : Nat) (g_a : n0 ≤ a) (E_a : Exa Z h0 a "java/lang/String") (F_a_value : Fld Z h0 a "java/lang/String" "value" "[B" .null) (F_a_coder : Fld Z h0 a "java/lang/String" "coder" "B" (.int 0)) (A_s' : Arv Z h0 s' ks .char 0 [] (.int 0)) (O : Old Z n0 h0) (Zn : n0 ≤ h0.size) (hcw : Jvm.Lit.compactW.before a0 Z = true) (hh7 : Jvm.Lit.constHeld Z "java/lang/String" 7) :
    MetFree lL yn9 (head1 (Jvm.Cond.code yn9 jdk_42_method_3_code 2 none :: ws) (⟨2, 2, 4, 29⟩ : Room)) (fun as_ uU_ => as_ = #[.ref a, .ref s'] ∧ Z.Warmed39 uU_.vm ∧ uU_.heap = h0 ∧ IB Z uU_.vm []) (fun _ _ _ _ _ => True) (fun _ uU_ oO_ uE_ => ∃ vV_ lL_, oO_ = .returned vV_ ∧ QSE Z a h0 n0 vV_ uE_.heap lL_ uE_.vm ∧ ReturnedEndW uU_ oO_ uE_ lL_ (⟨2, 2, 4, 29⟩ : Room).cells (⟨2, 2, 4, 29⟩ : Room).slots) := by
  refine MetFree.of_bodySF (plainFor_of_name pn_java_2flang_2fString) hisR ?_
  intro pP eE sS mM args below meth cC s₁ Bd hml0 hP hK
  obtain ⟨rfl, hZ, hh, hI⟩ := hP
  have hx := Bd.exec
  have hby := Bd.bytes
  have hml : cC.maxLocals = 2 := hml0
  have hown : sS.vm.findClass "java/lang/String" = some mM.cls := findClass_of_methodNamed Bd.named
  have hnm := (name_of_methodNamed Bd.named Bd.method).1
  have hret := Bd.returns
  have hlk := BodyLoose.notSynchronized Bd
  have X0 : Stand pP lL eE (⟨2, 2, 4, 29⟩ : Room) sS mM #[.ref a, .ref s'] below meth cC s₁ [] 0 0 := Stand.of_body Bd
  have e0 : s₁.heap = h0 := by rw [← hh, Bd.state]; rfl
  have N0 := Fr.nil n0
  have X0 : Stand pP lL eE (⟨2, 2, 4, 29⟩ : Room) (sS.setVm sS.vm) mM #[.ref a, .ref s'] below meth cC s₁ [] 0 0 := X0
  have hZ : Z.Warmed39 (sS.setVm sS.vm).vm := hZ
  have hown : (sS.setVm sS.vm).vm.findClass "java/lang/String" = some mM.cls := hown
  have hS : sS.Since sS.vm 0 := (State.WarmedH.refl sS).since 0
  have hk : 0 ≤ h0.size := Nat.zero_le _
  show own_GoW pP eE below sS (QSE Z a h0 n0) 2 4 (s₁.setTop (entryFrame mM #[.ref a, .ref s'] 2))
  refine own_stW (A := s₁.setTop (mkF mM 0 #[.val (.ref a), .val (.ref s')] [])) (fun t_ k_ => castTop (ef_rmS1_0 mM a s' ks) k_) ?_
  refine o_aloadNW 1 X0 hx (hb hby d2_0) rfl rfl rfl ?_
  refine o_aloadNW 2 X0 hx (hb hby d2_1) rfl rfl rfl ?_
  refine o_iconstW 3 0 X0 hx (hb hby d2_2) rfl rfl ?_
  refine o_aloadNW 4 X0 hx (hb hby d2_3) rfl rfl rfl ?_
  obtain ⟨cl331, Ar331, q331, S331, Nn331, H331, G331⟩ := id A_s'
  refine own_jW 5 [.int 0, .int 0, .ref s', .ref a] (fun t_ k_ => X0.arraylength hx (by rw [e0]; exact Ar331.1) (State.isArrayOf_alike hZ.alike Ar331.2.1) (g := (mkF mM 4 #[.val (.ref a), .val (.ref s')] [.ref s', .int 0, .ref s', .ref a])) rfl rfl (hb hby d2_4) t_ (by rw [len_of S331 Nn331]; exact k_)) ?_
  refine own_jW 6 [.null, .int 0, .int 0, .ref s', .ref a] (fun t_ k_ => XS.aconstNull X0.here hx rfl (hb hby d2_5) k_) ?_
  obtain ⟨_, _, ⟨T332, L332, k332, n332⟩, -, X332, hS332, hg332, ⟨Lc332, hQ332, l332, y332, z332⟩, st332⟩ := X0.specialBackS hx (y := yn8) rfl hown (mvT hZ (ow hw 12 rfl)) (mvT hZ (ow hw 13 rfl)) (mvT hZ (ow hw 15 rfl)) (by decide) (own_backOfSI (W := 0) (rmS4_0 lL Z a0 hw [] a s' h0 n0 g_a E_a F_a_value F_a_coder O Zn hcw hh7) hZ (ow hw 15 rfl) (ow hw 3 rfl) (by decide) (by decide) hI) (g := (mkF mM 6 #[.val (.ref a), .val (.ref s')] [.null, .int 0, .int 0, .ref s', .ref a])) rfl (by rw [hml]; rfl) (Steps.refl _) (a := a) (argsL := [.ref s', .int 0, .int 0, .null]) (rest := []) (lenOf pd__28_5bCIILjava_2flang_2fVoid_3b_29V rfl) rfl (by show 2 * 0 + _ ≤ _; exact Nat.le_of_eq rfl) (hb hby d2_6) (fun _ _ => ⟨rfl, e0, (by decide : 0 + 2 ≤ _), (by decide : 0 + 4 ≤ _)⟩)
  dsimp only [Pt.U, Pt.locs, Pt.cells, Pt.slots] at X332 l332 y332 z332 st332 hQ332 hS332 hg332
  subst l332 y332 z332
  obtain ⟨rfl, N332q, R332, sx332, hI⟩ := hQ332
  have N332 := Fr.app N0 N332q
  rw [e0] at hg332
  have hZ := own_wideZ hZ hS332
  have hown := own_wideO hown hS332
  have hS := hS.trans hS332 (Nat.le_trans hk hg332)
  have hk : T332.heap.size ≤ T332.heap.size := Nat.le_refl _
  have X332 : Stand pP lL eE (⟨2, 2, 4, 29⟩ : Room) (sS.setVm T332.vm) mM #[.ref a, .ref s'] below meth cC T332 _ 2 4 := X332
  have e332 : T332.heap = T332.heap := rfl
  refine own_kW T332 9 [] (fun t_ k_ => st332.trans k_) ?_
  exact own_retWV X332 hx hlk hS (by rw [e332]; exact hk) hret (hb hby d2_9) ⟨rfl, N332, R332, sx332, own_IBt hI X332.warmed.interned_eq⟩ (by decide) (by decide)
theorem d15_0 : decode method_7_code 0 = .ok (.iload_n 1, 1) := by decide +kernel
theorem d15_1 : decode method_7_code 1 = .ok (.sipush 255, 3) := by decide +kernel
theorem d15_4 : decode method_7_code 4 = .ok (.iand, 1) := by decide +kernel
theorem d15_5 : decode method_7_code 5 = .ok (.i2c, 1) := by decide +kernel
theorem d15_6 : decode method_7_code 6 = .ok (.istore_n 2, 1) := by decide +kernel
theorem d15_7 : decode method_7_code 7 = .ok (.iload_n 1, 1) := by decide +kernel
theorem d15_8 : decode method_7_code 8 = .ok (.bipush 8, 2) := by decide +kernel
theorem d15_10 : decode method_7_code 10 = .ok (.iushr, 1) := by decide +kernel
theorem d15_11 : decode method_7_code 11 = .ok (.sipush 255, 3) := by decide +kernel
theorem d15_14 : decode method_7_code 14 = .ok (.iand, 1) := by decide +kernel
theorem d15_15 : decode method_7_code 15 = .ok (.i2c, 1) := by decide +kernel
theorem d15_16 : decode method_7_code 16 = .ok (.istore_n 3, 1) := by decide +kernel
theorem d15_17 : decode method_7_code 17 = .ok (.iload_n 1, 1) := by decide +kernel
theorem d15_18 : decode method_7_code 18 = .ok (.bipush 16, 2) := by decide +kernel
theorem d15_20 : decode method_7_code 20 = .ok (.iushr, 1) := by decide +kernel
theorem d15_21 : decode method_7_code 21 = .ok (.sipush 255, 3) := by decide +kernel
theorem d15_24 : decode method_7_code 24 = .ok (.iand, 1) := by decide +kernel
theorem d15_25 : decode method_7_code 25 = .ok (.i2c, 1) := by decide +kernel
theorem d15_26 : decode method_7_code 26 = .ok (.istore 4, 2) := by decide +kernel
theorem d15_28 : decode method_7_code 28 = .ok (.iload_n 0, 1) := by decide +kernel
theorem d15_29 : decode method_7_code 29 = .ok (.ifCond .ne 14, 3) := by decide +kernel
theorem d15_32 : decode method_7_code 32 = .ok (.new 8, 3) := by decide +kernel
theorem d15_35 : decode method_7_code 35 = .ok (.dup, 1) := by decide +kernel
theorem d15_36 : decode method_7_code 36 = .ok (.iconst 0, 1) := by decide +kernel
theorem d15_37 : decode method_7_code 37 = .ok (.newarray .char, 2) := by decide +kernel
theorem d15_39 : decode method_7_code 39 = .ok (.invokespecial 16, 3) := by decide +kernel
theorem pd__28_5bC_29V : parseMethodDescriptor "([C)V" = some ⟨[(.array .char)], none⟩ := by decide +kernel
theorem d15_42 : decode method_7_code 42 = .ok (.areturn, 1) := by decide +kernel
theorem ef_rmDr0 (mM : MethodId) (u2 : Int32) (cs : Int32) : entryFrame mM #[.int 0, .int u2] 5 = mkF mM 0 #[.val (.int 0), .val (.int u2), .unset, .unset, .unset] [] := by first | (simp [entryFrame, mkF, argsToLocals, Value.category]; done) | rfl
theorem rmDr0 (lL : Launch) (Z : State) (a0 : Array Value) (hw : own_tb a0 Z) (ws : List Jvm.Cond) (u2 : Int32) (cs : Int32) (h0 : Heap) (n0 : Nat) (O : Old Z n0 h0) (Zn : n0 ≤ h0.size) (S_cs : Sta Z Z.heap "java/lang/String" "COMPACT_STRINGS" "Z" (.int cs)) (hcs : ¬ cs = (0 : Int32)) (hcw : Jvm.Lit.compactW.before a0 Z = true) (hh7 : Jvm.Lit.constHeld Z "java/lang/String" 7) :
    MetFree lL yn14 (head1 (Jvm.Cond.code yn14 method_7_code 5 (some (.object "java/lang/String")) :: ws) (⟨3, 4, 8, 43⟩ : Room)) (fun as_ uU_ => as_ = #[.int 0, .int u2] ∧ Z.Warmed39 uU_.vm ∧ uU_.heap = h0 ∧ IB Z uU_.vm []) (fun _ _ _ _ _ => True) (fun _ uU_ oO_ uE_ => ∃ vV_ lL_, oO_ = .returned vV_ ∧ QDrV Z h0 n0 vV_ uE_.heap lL_ uE_.vm ∧ ReturnedEndW uU_ oO_ uE_ lL_ (⟨3, 4, 8, 43⟩ : Room).cells (⟨3, 4, 8, 43⟩ : Room).slots) := by
  refine MetFree.of_bodySF (plainFor_of_name pn_com_2fexample_2fslotwright_2fslotwright_2fmodel_2fLinkTypeOfKeyPinLaw) hisR ?_
  intro pP eE sS mM args below meth cC s₁ Bd hml0 hP hK
  obtain ⟨rfl, hZ, hh, hI⟩ := hP
  have hx := Bd.exec
  have hby := Bd.bytes
  have hml : cC.maxLocals = 5 := hml0
  have hown : sS.vm.findClass "com/example/slotwright/slotwright/model/LinkTypeOfKeyPinLaw" = some mM.cls := findClass_of_methodNamed Bd.named
  have hnm := (name_of_methodNamed Bd.named Bd.method).1
  have hret := Bd.returns
  have hlk := BodyLoose.notSynchronized Bd
  have X0 : Stand pP lL eE (⟨3, 4, 8, 43⟩ : Room) sS mM #[.int 0, .int u2] below meth cC s₁ [] 0 0 := Stand.of_body Bd
  have e0 : s₁.heap = h0 := by rw [← hh, Bd.state]; rfl
  have N0 := Fr.nil n0
  have X0 : Stand pP lL eE (⟨3, 4, 8, 43⟩ : Room) (sS.setVm sS.vm) mM #[.int 0, .int u2] below meth cC s₁ [] 0 0 := X0
  have hZ : Z.Warmed39 (sS.setVm sS.vm).vm := hZ
  have hown : (sS.setVm sS.vm).vm.findClass "com/example/slotwright/slotwright/model/LinkTypeOfKeyPinLaw" = some mM.cls := hown
  have hS : sS.Since sS.vm 0 := (State.WarmedH.refl sS).since 0
  have hk : 0 ≤ h0.size := Nat.zero_le _
  show own_GoW pP eE below sS (QDrV Z h0 n0) 4 8 (s₁.setTop (entryFrame mM #[.int 0, .int u2] 5))
  refine own_stW (A := s₁.setTop (mkF mM 0 #[.val (.int 0), .val (.int u2), .unset, .unset, .unset] [])) (fun t_ k_ => castTop (ef_rmDr0 mM u2 cs) k_) ?_
  have Kp := Keep.refl h0 []
  refine o_iloadNW 1 X0 hx (hb hby d15_0) rfl rfl ?_
  refine o_sipushW 4 255 X0 hx (hb hby d15_1) rfl rfl ?_
  refine own_jW 5 [(.int (u2 &&& (255 : Int32)))] (fun t_ k_ => XS.iand X0.here hx rfl (hb hby d15_4) rfl k_) ?_
  refine own_jW 6 [(.int (((u2 &&& (255 : Int32))).toUInt32.toUInt16.toUInt32.toInt32))] (fun t_ k_ => XS.i2c X0.here hx rfl (hb hby d15_5) rfl k_) ?_
  let Lv333 : Array Slot := #[.val (.int 0), .val (.int u2), .val (.int (((u2 &&& (255 : Int32))).toUInt32.toUInt16.toUInt32.toInt32)), .unset, .unset]
  refine own_stW (A := s₁.setTop (mkF mM 7 Lv333 [])) (fun t_ k_ => XS.istoreN X0.here hx rfl (hb hby d15_6) rfl (l' := Lv333) rfl k_) ?_
  refine o_iloadNW 8 X0 hx (hb hby d15_7) rfl rfl ?_
  refine o_bipushW 10 8 X0 hx (hb hby d15_8) rfl rfl ?_
  refine own_jW 11 [(.int ((u2.toUInt32 >>> ((8 : Int32) &&& 31).toUInt32).toInt32))] (fun t_ k_ => XS.iushr X0.here hx rfl (hb hby d15_10) rfl k_) ?_
  refine o_sipushW 14 255 X0 hx (hb hby d15_11) rfl rfl ?_
  refine own_jW 15 [(.int (((u2.toUInt32 >>> ((8 : Int32) &&& 31).toUInt32).toInt32) &&& (255 : Int32)))] (fun t_ k_ => XS.iand X0.here hx rfl (hb hby d15_14) rfl k_) ?_
  refine own_jW 16 [(.int (((((u2.toUInt32 >>> ((8 : Int32) &&& 31).toUInt32).toInt32) &&& (255 : Int32))).toUInt32.toUInt16.toUInt32.toInt32))] (fun t_ k_ => XS.i2c X0.here hx rfl (hb hby d15_15) rfl k_) ?_
  let Lv334 : Array Slot := #[.val (.int 0), .val (.int u2), .val (.int (((u2 &&& (255 : Int32))).toUInt32.toUInt16.toUInt32.toInt32)), .val (.int (((((u2.toUInt32 >>> ((8 : Int32) &&& 31).toUInt32).toInt32) &&& (255 : Int32))).toUInt32.toUInt16.toUInt32.toInt32)), .unset]
  refine own_stW (A := s₁.setTop (mkF mM 17 Lv334 [])) (fun t_ k_ => XS.istoreN X0.here hx rfl (hb hby d15_16) rfl (l' := Lv334) rfl k_) ?_
  refine o_iloadNW 18 X0 hx (hb hby d15_17) rfl rfl ?_
  refine o_bipushW 20 16 X0 hx (hb hby d15_18) rfl rfl ?_
  refine own_jW 21 [(.int ((u2.toUInt32 >>> ((16 : Int32) &&& 31).toUInt32).toInt32))] (fun t_ k_ => XS.iushr X0.here hx rfl (hb hby d15_20) rfl k_) ?_
  refine o_sipushW 24 255 X0 hx (hb hby d15_21) rfl rfl ?_
  refine own_jW 25 [(.int (((u2.toUInt32 >>> ((16 : Int32) &&& 31).toUInt32).toInt32) &&& (255 : Int32)))] (fun t_ k_ => XS.iand X0.here hx rfl (hb hby d15_24) rfl k_) ?_
  refine own_jW 26 [(.int (((((u2.toUInt32 >>> ((16 : Int32) &&& 31).toUInt32).toInt32) &&& (255 : Int32))).toUInt32.toUInt16.toUInt32.toInt32))] (fun t_ k_ => XS.i2c X0.here hx rfl (hb hby d15_25) rfl k_) ?_
  let Lv335 : Array Slot := #[.val (.int 0), .val (.int u2), .val (.int (((u2 &&& (255 : Int32))).toUInt32.toUInt16.toUInt32.toInt32)), .val (.int (((((u2.toUInt32 >>> ((8 : Int32) &&& 31).toUInt32).toInt32) &&& (255 : Int32))).toUInt32.toUInt16.toUInt32.toInt32)), .val (.int (((((u2.toUInt32 >>> ((16 : Int32) &&& 31).toUInt32).toInt32) &&& (255 : Int32))).toUInt32.toUInt16.toUInt32.toInt32))]
  refine own_stW (A := s₁.setTop (mkF mM 28 Lv335 [])) (fun t_ k_ => XS.istore X0.here hx rfl (hb hby d15_26) rfl (l' := Lv335) rfl k_) ?_
  refine o_iloadNW 29 X0 hx (hb hby d15_28) rfl rfl ?_
  refine o_ifNoW 32 X0 hx (hb hby d15_29) ((if0 _ _).trans (teq (by decide : ((0 : Int32) = (0 : Int32)))).2) rfl ?_
  obtain ⟨T336, h336, X336, e336, E336, A336, D336, -, st336⟩ := newO X0 hx hZ hown (ow hw 1 rfl) (ow hw 2 rfl) (ow hw 3 rfl) e0 (g := (mkF mM 32 Lv335 [])) rfl (hb hby d15_32) (by decide) (by decide)
  obtain ⟨b336, g336⟩ : ∃ z, z = h0.size := ⟨_, rfl⟩
  rw [← g336] at A336 D336 st336
  have g_b336 : n0 ≤ b336 := Nat.le_trans Zn (Nat.le_of_eq g336.symm)
  have b_b336 : h0.size ≤ b336 := Nat.le_trans Kp.1 (Nat.le_of_eq g336.symm)
  have O := O.ext E336
  have hk := Nat.le_trans hk E336.1
  have Zn := Nat.le_trans Zn E336.1
  have Kp := Kp.ext E336
  have E_b336 := A336
  have F_b336_coder : Fld Z h336 b336 "java/lang/String" "coder" "B" (.int 0) := D336 (Or.inr (ow hw 32 rfl)) (ty := .byte) (by decide)
  have F_b336_value : Fld Z h336 b336 "java/lang/String" "value" "[B" .null := D336 (Or.inr (ow hw 34 rfl)) (ty := (.array .byte)) (by decide)
  refine own_kW T336 35 [.ref b336] st336 ?_
  refine o_dupW 36 X336 hx (hb hby d15_35) rfl rfl ?_
  refine o_iconstW 37 0 X336 hx (hb hby d15_36) rfl rfl ?_
  obtain ⟨T337, h337, k337, X337, e337, E337, A337, st337⟩ := newP X336 hx hZ (ow hw 8 rfl) e336 (g := (mkF mM 37 Lv335 [.int 0, .ref b336, .ref b336])) rfl (hb hby d15_37) rfl (by decide) (cap := 0) (by decide) (by decide) (by decide) (by decide)
  obtain ⟨b337, g337⟩ : ∃ z, z = h336.size := ⟨_, rfl⟩
  rw [← g337] at A337 st337
  have ne_b336_b337 : b336 ≠ b337 := Nat.ne_of_lt (Nat.lt_of_lt_of_le E_b336.lt (Nat.le_of_eq g337.symm))
  have g_b337 : n0 ≤ b337 := Nat.le_trans Zn (Nat.le_of_eq g337.symm)
  have b_b337 : h0.size ≤ b337 := Nat.le_trans Kp.1 (Nat.le_of_eq g337.symm)
  have F_b336_coder := F_b336_coder.ext E337
  have F_b336_value := F_b336_value.ext E337
  have E_b336 := E_b336.ext E337
  have O := O.ext E337
  have hk := Nat.le_trans hk E337.1
  have Zn := Nat.le_trans Zn E337.1
  have Kp := Kp.ext E337
  have A_b337 : Arv Z h337 b337 k337 .char 0 [] (.int 0) := (Arv.new A337 (by decide)).pad (pad_rep [] (.int 0) 0)
  refine own_kW T337 39 [.ref b337, .ref b336, .ref b336] st337 ?_
  obtain ⟨_, _, ⟨T338, L338, k338, n338⟩, -, X338, hS338, hg338, ⟨Lc338, hQ338, l338, y338, z338⟩, st338⟩ := X337.specialBackS hx (y := yn9) rfl hown (mvT hZ (ow hw 9 rfl)) (mvT hZ (ow hw 10 rfl)) (mvT hZ (ow hw 11 rfl)) (by decide) (own_backOfSI (W := 1) (rmS1_0 lL Z a0 hw [] b336 b337 k337 h337 n0 g_b336 E_b336 F_b336_value F_b336_coder A_b337 O Zn hcw hh7) hZ (ow hw 11 rfl) (ow hw 3 rfl) (by decide) (by decide) hI) (g := (mkF mM 39 Lv335 [.ref b337, .ref b336, .ref b336])) rfl (by rw [hml]; rfl) (Steps.refl _) (a := b336) (argsL := [.ref b337]) (rest := [.ref b336]) (lenOf pd__28_5bC_29V rfl) rfl (by show 2 * 0 + _ ≤ _; exact Nat.le_of_eq rfl) (hb hby d15_39) (fun _ _ => ⟨rfl, e337, (by decide : 2 + 2 ≤ _), (by decide : 4 + 4 ≤ _)⟩)
  dsimp only [Pt.U, Pt.locs, Pt.cells, Pt.slots] at X338 l338 y338 z338 st338 hQ338 hS338 hg338
  subst l338 y338 z338
  obtain ⟨rfl, N338q, K338, sx338, hI⟩ := hQ338
  have N338 := Fr.app N0 N338q
  rw [e337] at hg338
  have hZ := own_wideZ hZ hS338
  have hown := own_wideO hown hS338
  have hS := hS.trans hS338 (Nat.le_trans hk hg338)
  have hk : T338.heap.size ≤ T338.heap.size := Nat.le_refl _
  have X338 : Stand pP lL eE (⟨3, 4, 8, 43⟩ : Room) (sS.setVm T338.vm) mM #[.int 0, .int u2] below meth cC T338 _ 4 8 := X338
  have e338 : T338.heap = T338.heap := rfl
  refine own_kW T338 42 [.ref b336] (fun t_ k_ => st338.trans k_) ?_
  have E_b336 := E_b336.keep K338
  have A_b337 := A_b337.keep K338 (ninS (Ne.symm ne_b336_b337) nin0)
  have O := O.keep K338 (allS g_b336 all0)
  have Zn := Nat.le_trans Zn K338.1
  have Kp := Kp.trans K338 (allS (Or.inr b_b336) all0)
  exact own_retWA X338 hx hlk hS (by rw [e338]; exact hk) hret rfl rfl (hb hby d15_42) (by rw [e338]; exact ⟨_, _, rfl, N338, own_ext_of_keep Kp, sx338, own_IBt hI X338.warmed.interned_eq⟩) (by decide) (by decide)
theorem d15_43 : decode method_7_code 43 = .ok (.iload_n 0, 1) := by decide +kernel
theorem d15_44 : decode method_7_code 44 = .ok (.iconst 1, 1) := by decide +kernel
theorem d15_45 : decode method_7_code 45 = .ok (.if_icmp .ne 8, 3) := by decide +kernel
theorem d15_48 : decode method_7_code 48 = .ok (.iload_n 2, 1) := by decide +kernel
theorem d15_49 : decode method_7_code 49 = .ok (.invokestatic 59, 3) := by decide +kernel
theorem pd__28C_29Ljava_2flang_2fString_3b : parseMethodDescriptor "(C)Ljava/lang/String;" = some ⟨[.char], some (.object "java/lang/String")⟩ := by decide +kernel
theorem d15_52 : decode method_7_code 52 = .ok (.areturn, 1) := by decide +kernel
theorem ef_rmDr1 (mM : MethodId) (u2 : Int32) (cs : Int32) : entryFrame mM #[.int 1, .int u2] 5 = mkF mM 0 #[.val (.int 1), .val (.int u2), .unset, .unset, .unset] [] := by first | (simp [entryFrame, mkF, argsToLocals, Value.category]; done) | rfl
theorem rmDr1 (lL : Launch) (Z : State) (a0 : Array Value) (hw : own_tb a0 Z) (ws : List Jvm.Cond) (u2 : Int32) (cs : Int32) (h0 : Heap) (n0 : Nat) (O : Old Z n0 h0) (Zn : n0 ≤ h0.size) (S_cs : Sta Z Z.heap "java/lang/String" "COMPACT_STRINGS" "Z" (.int cs)) (hcs : ¬ cs = (0 : Int32)) :
    own_Ct lL Z yn14 method_7_code 5 (some (.object "java/lang/String")) ws (⟨3, 2, 5, 39⟩ : Room) #[.int 1, .int u2] h0 (QDr Z h0 n0) := by
  refine own_body (plainFor_of_name pn_com_2fexample_2fslotwright_2fslotwright_2fmodel_2fLinkTypeOfKeyPinLaw) 2 5 rfl rfl (fun mM => ef_rmDr1 mM u2 cs) fun pP eE sS mM below meth cC s₁ hZ hx hby hml hown hnm hret hlk X0 e0 => ?_
  have N0 := Fr.nil n0
  have Kp := Keep.refl h0 []
  refine o_iloadN 1 X0 hx (hb hby d15_0) rfl rfl ?_
  refine o_sipush 4 255 X0 hx (hb hby d15_1) rfl rfl ?_
  refine own_j 5 [(.int (u2 &&& (255 : Int32)))] (fun t_ k_ => XS.iand X0.here hx rfl (hb hby d15_4) rfl k_) ?_
  refine own_j 6 [(.int (((u2 &&& (255 : Int32))).toUInt32.toUInt16.toUInt32.toInt32))] (fun t_ k_ => XS.i2c X0.here hx rfl (hb hby d15_5) rfl k_) ?_
  let Lv339 : Array Slot := #[.val (.int 1), .val (.int u2), .val (.int (((u2 &&& (255 : Int32))).toUInt32.toUInt16.toUInt32.toInt32)), .unset, .unset]
  refine own_st (A := s₁.setTop (mkF mM 7 Lv339 [])) (fun t_ k_ => XS.istoreN X0.here hx rfl (hb hby d15_6) rfl (l' := Lv339) rfl k_) ?_
  refine o_iloadN 8 X0 hx (hb hby d15_7) rfl rfl ?_
  refine o_bipush 10 8 X0 hx (hb hby d15_8) rfl rfl ?_
  refine own_j 11 [(.int ((u2.toUInt32 >>> ((8 : Int32) &&& 31).toUInt32).toInt32))] (fun t_ k_ => XS.iushr X0.here hx rfl (hb hby d15_10) rfl k_) ?_
  refine o_sipush 14 255 X0 hx (hb hby d15_11) rfl rfl ?_
  refine own_j 15 [(.int (((u2.toUInt32 >>> ((8 : Int32) &&& 31).toUInt32).toInt32) &&& (255 : Int32)))] (fun t_ k_ => XS.iand X0.here hx rfl (hb hby d15_14) rfl k_) ?_
  refine own_j 16 [(.int (((((u2.toUInt32 >>> ((8 : Int32) &&& 31).toUInt32).toInt32) &&& (255 : Int32))).toUInt32.toUInt16.toUInt32.toInt32))] (fun t_ k_ => XS.i2c X0.here hx rfl (hb hby d15_15) rfl k_) ?_
  let Lv340 : Array Slot := #[.val (.int 1), .val (.int u2), .val (.int (((u2 &&& (255 : Int32))).toUInt32.toUInt16.toUInt32.toInt32)), .val (.int (((((u2.toUInt32 >>> ((8 : Int32) &&& 31).toUInt32).toInt32) &&& (255 : Int32))).toUInt32.toUInt16.toUInt32.toInt32)), .unset]
  refine own_st (A := s₁.setTop (mkF mM 17 Lv340 [])) (fun t_ k_ => XS.istoreN X0.here hx rfl (hb hby d15_16) rfl (l' := Lv340) rfl k_) ?_
  refine o_iloadN 18 X0 hx (hb hby d15_17) rfl rfl ?_
  refine o_bipush 20 16 X0 hx (hb hby d15_18) rfl rfl ?_
  refine own_j 21 [(.int ((u2.toUInt32 >>> ((16 : Int32) &&& 31).toUInt32).toInt32))] (fun t_ k_ => XS.iushr X0.here hx rfl (hb hby d15_20) rfl k_) ?_
  refine o_sipush 24 255 X0 hx (hb hby d15_21) rfl rfl ?_
  refine own_j 25 [(.int (((u2.toUInt32 >>> ((16 : Int32) &&& 31).toUInt32).toInt32) &&& (255 : Int32)))] (fun t_ k_ => XS.iand X0.here hx rfl (hb hby d15_24) rfl k_) ?_
  refine own_j 26 [(.int (((((u2.toUInt32 >>> ((16 : Int32) &&& 31).toUInt32).toInt32) &&& (255 : Int32))).toUInt32.toUInt16.toUInt32.toInt32))] (fun t_ k_ => XS.i2c X0.here hx rfl (hb hby d15_25) rfl k_) ?_
  let Lv341 : Array Slot := #[.val (.int 1), .val (.int u2), .val (.int (((u2 &&& (255 : Int32))).toUInt32.toUInt16.toUInt32.toInt32)), .val (.int (((((u2.toUInt32 >>> ((8 : Int32) &&& 31).toUInt32).toInt32) &&& (255 : Int32))).toUInt32.toUInt16.toUInt32.toInt32)), .val (.int (((((u2.toUInt32 >>> ((16 : Int32) &&& 31).toUInt32).toInt32) &&& (255 : Int32))).toUInt32.toUInt16.toUInt32.toInt32))]
  refine own_st (A := s₁.setTop (mkF mM 28 Lv341 [])) (fun t_ k_ => XS.istore X0.here hx rfl (hb hby d15_26) rfl (l' := Lv341) rfl k_) ?_
  refine o_iloadN 29 X0 hx (hb hby d15_28) rfl rfl ?_
  refine o_ifYes 43 X0 hx (hb hby d15_29) ((if0 _ _).trans (feq (by decide : ¬ ((1 : Int32) = (0 : Int32)))).2) (by decide) ?_
  refine o_iloadN 44 X0 hx (hb hby d15_43) rfl rfl ?_
  refine o_iconst 45 1 X0 hx (hb hby d15_44) rfl rfl ?_
  refine o_icmpNo 48 X0 hx (hb hby d15_45) (teq (by decide : ((1 : Int32) = (1 : Int32)))).2 rfl ?_
  refine o_iloadN 49 X0 hx (hb hby d15_48) rfl rfl ?_
  obtain ⟨_, _, ⟨T342, L342, k342, n342⟩, -, X342, ⟨Lc342, hQ342, l342, y342, z342⟩, st342⟩ := Jvm.LawKit.callS X0 hx (y := yn13) hown (mvT hZ (ow hw 90 rfl)) (mvT hZ (ow hw 91 rfl)) (mvT hZ (ow hw 3 rfl)) (mvT hZ (ow hw 92 rfl)) (by decide) (backOf (W := 0) (rmVO lL Z a0 hw [] (((u2 &&& (255 : Int32))).toUInt32.toUInt16.toUInt32.toInt32) cs h0 n0 O Zn S_cs hcs (own_Ck _)) hZ (ow hw 92 rfl) (ow hw 3 rfl) (by decide) (by decide)) (g := (mkF mM 49 Lv341 [(.int (((u2 &&& (255 : Int32))).toUInt32.toUInt16.toUInt32.toInt32))])) rfl (by rw [hml]; rfl) (argsL := [(.int (((u2 &&& (255 : Int32))).toUInt32.toUInt16.toUInt32.toInt32))]) (rest := []) (lenOf pd__28C_29Ljava_2flang_2fString_3b rfl) rfl (by show 2 * 0 + _ ≤ _; exact Nat.le_of_eq rfl) (hb hby d15_49) (fun _ _ => ⟨rfl, e0, (by decide : 0 + 2 ≤ _), (by decide : 0 + 5 ≤ _)⟩)
  dsimp only [Pt.U, Pt.locs, Pt.cells, Pt.slots] at X342 l342 y342 z342 st342 hQ342
  subst l342 y342 z342
  obtain ⟨p342, l342, rfl, N342q, E342, sx342⟩ := hQ342
  have N342 := Fr.app N0 N342q
  have e342 : T342.heap = T342.heap := rfl
  refine own_k T342 52 [.ref p342] st342 ?_
  exact own_retA X342 hx hlk hret rfl rfl (hb hby d15_52) (by rw [e342]; exact ⟨_, _, rfl, N342, E342, sx342⟩) (by decide) (by decide)
theorem d15_53 : decode method_7_code 53 = .ok (.iload_n 0, 1) := by decide +kernel
theorem d15_54 : decode method_7_code 54 = .ok (.iconst 2, 1) := by decide +kernel
theorem d15_55 : decode method_7_code 55 = .ok (.if_icmp .ne 22, 3) := by decide +kernel
theorem d15_58 : decode method_7_code 58 = .ok (.new 8, 3) := by decide +kernel
theorem d15_61 : decode method_7_code 61 = .ok (.dup, 1) := by decide +kernel
theorem d15_62 : decode method_7_code 62 = .ok (.iconst 2, 1) := by decide +kernel
theorem d15_63 : decode method_7_code 63 = .ok (.newarray .char, 2) := by decide +kernel
theorem d15_65 : decode method_7_code 65 = .ok (.dup, 1) := by decide +kernel
theorem d15_66 : decode method_7_code 66 = .ok (.iconst 0, 1) := by decide +kernel
theorem d15_67 : decode method_7_code 67 = .ok (.iload_n 2, 1) := by decide +kernel
theorem d15_68 : decode method_7_code 68 = .ok (.castore, 1) := by decide +kernel
theorem d15_69 : decode method_7_code 69 = .ok (.dup, 1) := by decide +kernel
theorem d15_70 : decode method_7_code 70 = .ok (.iconst 1, 1) := by decide +kernel
theorem d15_71 : decode method_7_code 71 = .ok (.iload_n 3, 1) := by decide +kernel
theorem d15_72 : decode method_7_code 72 = .ok (.castore, 1) := by decide +kernel
theorem d15_73 : decode method_7_code 73 = .ok (.invokespecial 16, 3) := by decide +kernel
theorem d15_76 : decode method_7_code 76 = .ok (.areturn, 1) := by decide +kernel
theorem ef_rmDr2 (mM : MethodId) (u2 : Int32) (cs : Int32) : entryFrame mM #[.int 2, .int u2] 5 = mkF mM 0 #[.val (.int 2), .val (.int u2), .unset, .unset, .unset] [] := by first | (simp [entryFrame, mkF, argsToLocals, Value.category]; done) | rfl
theorem rmDr2 (lL : Launch) (Z : State) (a0 : Array Value) (hw : own_tb a0 Z) (ws : List Jvm.Cond) (u2 : Int32) (cs : Int32) (h0 : Heap) (n0 : Nat) (O : Old Z n0 h0) (Zn : n0 ≤ h0.size) (S_cs : Sta Z Z.heap "java/lang/String" "COMPACT_STRINGS" "Z" (.int cs)) (hcs : ¬ cs = (0 : Int32)) :
    own_Ct lL Z yn14 method_7_code 5 (some (.object "java/lang/String")) ws (⟨4, 3, 8, 66⟩ : Room) #[.int 2, .int u2] h0 (QDr Z h0 n0) := by
  refine own_body (plainFor_of_name pn_com_2fexample_2fslotwright_2fslotwright_2fmodel_2fLinkTypeOfKeyPinLaw) 3 8 rfl rfl (fun mM => ef_rmDr2 mM u2 cs) fun pP eE sS mM below meth cC s₁ hZ hx hby hml hown hnm hret hlk X0 e0 => ?_
  have N0 := Fr.nil n0
  have Kp := Keep.refl h0 []
  refine o_iloadN 1 X0 hx (hb hby d15_0) rfl rfl ?_
  refine o_sipush 4 255 X0 hx (hb hby d15_1) rfl rfl ?_
  refine own_j 5 [(.int (u2 &&& (255 : Int32)))] (fun t_ k_ => XS.iand X0.here hx rfl (hb hby d15_4) rfl k_) ?_
  refine own_j 6 [(.int (((u2 &&& (255 : Int32))).toUInt32.toUInt16.toUInt32.toInt32))] (fun t_ k_ => XS.i2c X0.here hx rfl (hb hby d15_5) rfl k_) ?_
  let Lv343 : Array Slot := #[.val (.int 2), .val (.int u2), .val (.int (((u2 &&& (255 : Int32))).toUInt32.toUInt16.toUInt32.toInt32)), .unset, .unset]
  refine own_st (A := s₁.setTop (mkF mM 7 Lv343 [])) (fun t_ k_ => XS.istoreN X0.here hx rfl (hb hby d15_6) rfl (l' := Lv343) rfl k_) ?_
  refine o_iloadN 8 X0 hx (hb hby d15_7) rfl rfl ?_
  refine o_bipush 10 8 X0 hx (hb hby d15_8) rfl rfl ?_
  refine own_j 11 [(.int ((u2.toUInt32 >>> ((8 : Int32) &&& 31).toUInt32).toInt32))] (fun t_ k_ => XS.iushr X0.here hx rfl (hb hby d15_10) rfl k_) ?_
  refine o_sipush 14 255 X0 hx (hb hby d15_11) rfl rfl ?_
  refine own_j 15 [(.int (((u2.toUInt32 >>> ((8 : Int32) &&& 31).toUInt32).toInt32) &&& (255 : Int32)))] (fun t_ k_ => XS.iand X0.here hx rfl (hb hby d15_14) rfl k_) ?_
  refine own_j 16 [(.int (((((u2.toUInt32 >>> ((8 : Int32) &&& 31).toUInt32).toInt32) &&& (255 : Int32))).toUInt32.toUInt16.toUInt32.toInt32))] (fun t_ k_ => XS.i2c X0.here hx rfl (hb hby d15_15) rfl k_) ?_
  let Lv344 : Array Slot := #[.val (.int 2), .val (.int u2), .val (.int (((u2 &&& (255 : Int32))).toUInt32.toUInt16.toUInt32.toInt32)), .val (.int (((((u2.toUInt32 >>> ((8 : Int32) &&& 31).toUInt32).toInt32) &&& (255 : Int32))).toUInt32.toUInt16.toUInt32.toInt32)), .unset]
  refine own_st (A := s₁.setTop (mkF mM 17 Lv344 [])) (fun t_ k_ => XS.istoreN X0.here hx rfl (hb hby d15_16) rfl (l' := Lv344) rfl k_) ?_
  refine o_iloadN 18 X0 hx (hb hby d15_17) rfl rfl ?_
  refine o_bipush 20 16 X0 hx (hb hby d15_18) rfl rfl ?_
  refine own_j 21 [(.int ((u2.toUInt32 >>> ((16 : Int32) &&& 31).toUInt32).toInt32))] (fun t_ k_ => XS.iushr X0.here hx rfl (hb hby d15_20) rfl k_) ?_
  refine o_sipush 24 255 X0 hx (hb hby d15_21) rfl rfl ?_
  refine own_j 25 [(.int (((u2.toUInt32 >>> ((16 : Int32) &&& 31).toUInt32).toInt32) &&& (255 : Int32)))] (fun t_ k_ => XS.iand X0.here hx rfl (hb hby d15_24) rfl k_) ?_
  refine own_j 26 [(.int (((((u2.toUInt32 >>> ((16 : Int32) &&& 31).toUInt32).toInt32) &&& (255 : Int32))).toUInt32.toUInt16.toUInt32.toInt32))] (fun t_ k_ => XS.i2c X0.here hx rfl (hb hby d15_25) rfl k_) ?_
  let Lv345 : Array Slot := #[.val (.int 2), .val (.int u2), .val (.int (((u2 &&& (255 : Int32))).toUInt32.toUInt16.toUInt32.toInt32)), .val (.int (((((u2.toUInt32 >>> ((8 : Int32) &&& 31).toUInt32).toInt32) &&& (255 : Int32))).toUInt32.toUInt16.toUInt32.toInt32)), .val (.int (((((u2.toUInt32 >>> ((16 : Int32) &&& 31).toUInt32).toInt32) &&& (255 : Int32))).toUInt32.toUInt16.toUInt32.toInt32))]
  refine own_st (A := s₁.setTop (mkF mM 28 Lv345 [])) (fun t_ k_ => XS.istore X0.here hx rfl (hb hby d15_26) rfl (l' := Lv345) rfl k_) ?_
  refine o_iloadN 29 X0 hx (hb hby d15_28) rfl rfl ?_
  refine o_ifYes 43 X0 hx (hb hby d15_29) ((if0 _ _).trans (feq (by decide : ¬ ((2 : Int32) = (0 : Int32)))).2) (by decide) ?_
  refine o_iloadN 44 X0 hx (hb hby d15_43) rfl rfl ?_
  refine o_iconst 45 1 X0 hx (hb hby d15_44) rfl rfl ?_
  refine o_icmpYes 53 X0 hx (hb hby d15_45) (feq (by decide : ¬ ((2 : Int32) = (1 : Int32)))).2 (by decide) ?_
  refine o_iloadN 54 X0 hx (hb hby d15_53) rfl rfl ?_
  refine o_iconst 55 2 X0 hx (hb hby d15_54) rfl rfl ?_
  refine o_icmpNo 58 X0 hx (hb hby d15_55) (teq (by decide : ((2 : Int32) = (2 : Int32)))).2 rfl ?_
  obtain ⟨T346, h346, X346, e346, E346, A346, D346, -, st346⟩ := newO X0 hx hZ hown (ow hw 1 rfl) (ow hw 2 rfl) (ow hw 3 rfl) e0 (g := (mkF mM 58 Lv345 [])) rfl (hb hby d15_58) (by decide) (by decide)
  obtain ⟨b346, g346⟩ : ∃ z, z = h0.size := ⟨_, rfl⟩
  rw [← g346] at A346 D346 st346
  have g_b346 : n0 ≤ b346 := Nat.le_trans Zn (Nat.le_of_eq g346.symm)
  have b_b346 : h0.size ≤ b346 := Nat.le_trans Kp.1 (Nat.le_of_eq g346.symm)
  have O := O.ext E346
  have Zn := Nat.le_trans Zn E346.1
  have Kp := Kp.ext E346
  have E_b346 := A346
  have F_b346_coder : Fld Z h346 b346 "java/lang/String" "coder" "B" (.int 0) := D346 (Or.inr (ow hw 32 rfl)) (ty := .byte) (by decide)
  have F_b346_value : Fld Z h346 b346 "java/lang/String" "value" "[B" .null := D346 (Or.inr (ow hw 34 rfl)) (ty := (.array .byte)) (by decide)
  refine own_k T346 61 [.ref b346] st346 ?_
  refine o_dup 62 X346 hx (hb hby d15_61) rfl rfl ?_
  refine o_iconst 63 2 X346 hx (hb hby d15_62) rfl rfl ?_
  obtain ⟨T347, h347, k347, X347, e347, E347, A347, st347⟩ := newP X346 hx hZ (ow hw 8 rfl) e346 (g := (mkF mM 63 Lv345 [.int 2, .ref b346, .ref b346])) rfl (hb hby d15_63) rfl (by decide) (cap := 2) (by decide) (by decide) (by decide) (by decide)
  obtain ⟨b347, g347⟩ : ∃ z, z = h346.size := ⟨_, rfl⟩
  rw [← g347] at A347 st347
  have ne_b346_b347 : b346 ≠ b347 := Nat.ne_of_lt (Nat.lt_of_lt_of_le E_b346.lt (Nat.le_of_eq g347.symm))
  have g_b347 : n0 ≤ b347 := Nat.le_trans Zn (Nat.le_of_eq g347.symm)
  have b_b347 : h0.size ≤ b347 := Nat.le_trans Kp.1 (Nat.le_of_eq g347.symm)
  have F_b346_coder := F_b346_coder.ext E347
  have F_b346_value := F_b346_value.ext E347
  have E_b346 := E_b346.ext E347
  have O := O.ext E347
  have Zn := Nat.le_trans Zn E347.1
  have Kp := Kp.ext E347
  have A_b347 : Arv Z h347 b347 k347 .char 2 [.int 0, .int 0] (.int 0) := (Arv.new A347 (by decide)).pad (pad_rep [] (.int 0) 2)
  refine own_k T347 65 [.ref b347, .ref b346, .ref b346] st347 ?_
  refine o_dup 66 X347 hx (hb hby d15_65) rfl rfl ?_
  refine o_iconst 67 0 X347 hx (hb hby d15_66) rfl rfl ?_
  refine o_iloadN 68 X347 hx (hb hby d15_67) rfl rfl ?_
  obtain ⟨cl348, Ar348, q348, S348, Nn348, H348, G348⟩ := id A_b347
  obtain ⟨T349, h349, X349, e349, W349, st349⟩ := stC X347 hx hZ e347 Ar348 (j := (0 : Int32)) (inb_of S348 ⟨by decide, by decide⟩) (g := (mkF mM 68 Lv345 [(.int (((u2 &&& (255 : Int32))).toUInt32.toUInt16.toUInt32.toInt32)), .int 0, .ref b347, .ref b347, .ref b346, .ref b346])) rfl rfl (hb hby d15_68)
  have N349 := Fr.snoc X349 N0 g_b347
  have F_b346_coder := F_b346_coder.other W349 (Or.inl ne_b346_b347)
  have F_b346_value := F_b346_value.other W349 (Or.inl ne_b346_b347)
  have E_b346 := E_b346.wr W349
  have O := O.wr W349 g_b347
  have Zn := Nat.le_trans Zn (Keep.of_wr W349).1
  have Kp := Kp.wr W349 (Or.inr b_b347)
  have A_b347 : Arv Z h349 b347 k347 .char 2 [(.int (nar .char (((u2 &&& (255 : Int32))).toUInt32.toUInt16.toUInt32.toInt32))), .int 0] (.int 0) := Arv.set Ar348 q348 S348 Nn348 H348 G348 (fits_nar_char _) W349 0 rfl (Nat.le_of_ble_eq_true rfl)
  refine own_k T349 69 [.ref b347, .ref b346, .ref b346] st349 ?_
  rw [show nar .char (((u2 &&& (255 : Int32))).toUInt32.toUInt16.toUInt32.toInt32) = (((u2 &&& (255 : Int32))).toUInt32.toUInt16.toUInt32.toInt32) from (own_Ck _).1] at A_b347
  refine o_dup 70 X349 hx (hb hby d15_69) rfl rfl ?_
  refine o_iconst 71 1 X349 hx (hb hby d15_70) rfl rfl ?_
  refine o_iloadN 72 X349 hx (hb hby d15_71) rfl rfl ?_
  obtain ⟨cl350, Ar350, q350, S350, Nn350, H350, G350⟩ := id A_b347
  obtain ⟨T351, h351, X351, e351, W351, st351⟩ := stC X349 hx hZ e349 Ar350 (j := (1 : Int32)) (inb_of S350 ⟨by decide, by decide⟩) (g := (mkF mM 72 Lv345 [(.int (((((u2.toUInt32 >>> ((8 : Int32) &&& 31).toUInt32).toInt32) &&& (255 : Int32))).toUInt32.toUInt16.toUInt32.toInt32)), .int 1, .ref b347, .ref b347, .ref b346, .ref b346])) rfl rfl (hb hby d15_72)
  have N351 := Fr.snoc X351 N349 g_b347
  have F_b346_coder := F_b346_coder.other W351 (Or.inl ne_b346_b347)
  have F_b346_value := F_b346_value.other W351 (Or.inl ne_b346_b347)
  have E_b346 := E_b346.wr W351
  have O := O.wr W351 g_b347
  have Zn := Nat.le_trans Zn (Keep.of_wr W351).1
  have Kp := Kp.wr W351 (Or.inr b_b347)
  have A_b347 : Arv Z h351 b347 k347 .char 2 [(.int (((u2 &&& (255 : Int32))).toUInt32.toUInt16.toUInt32.toInt32)), (.int (nar .char (((((u2.toUInt32 >>> ((8 : Int32) &&& 31).toUInt32).toInt32) &&& (255 : Int32))).toUInt32.toUInt16.toUInt32.toInt32)))] (.int 0) := Arv.set Ar350 q350 S350 Nn350 H350 G350 (fits_nar_char _) W351 1 rfl (Nat.le_of_ble_eq_true rfl)
  refine own_k T351 73 [.ref b347, .ref b346, .ref b346] st351 ?_
  rw [show nar .char (((((u2.toUInt32 >>> ((8 : Int32) &&& 31).toUInt32).toInt32) &&& (255 : Int32))).toUInt32.toUInt16.toUInt32.toInt32) = (((((u2.toUInt32 >>> ((8 : Int32) &&& 31).toUInt32).toInt32) &&& (255 : Int32))).toUInt32.toUInt16.toUInt32.toInt32) from (own_Ck _).1] at A_b347
  obtain ⟨_, _, ⟨T352, L352, k352, n352⟩, -, X352, ⟨Lc352, hQ352, l352, y352, z352⟩, st352⟩ := X351.specialBack hx (y := yn9) rfl hown (mvT hZ (ow hw 9 rfl)) (mvT hZ (ow hw 10 rfl)) (mvT hZ (ow hw 11 rfl)) (by decide) (backOf (W := 1) (rmS1_2 lL Z a0 hw [] b346 b347 k347 cs ((((u2 &&& (255 : Int32))).toUInt32.toUInt16.toUInt32.toInt32)) ((((((u2.toUInt32 >>> ((8 : Int32) &&& 31).toUInt32).toInt32) &&& (255 : Int32))).toUInt32.toUInt16.toUInt32.toInt32)) h351 n0 g_b346 E_b346 F_b346_value F_b346_coder A_b347 (Ne.symm ne_b346_b347) O Zn S_cs hcs (own_Ck _) (own_Ck _)) hZ (ow hw 11 rfl) (ow hw 3 rfl) (by decide) (by decide)) (g := (mkF mM 73 Lv345 [.ref b347, .ref b346, .ref b346])) rfl (by rw [hml]; rfl) (Steps.refl _) (a := b346) (argsL := [.ref b347]) (rest := [.ref b346]) (lenOf pd__28_5bC_29V rfl) rfl (by show 2 * 0 + _ ≤ _; exact Nat.le_of_eq rfl) (hb hby d15_73) (fun _ _ => ⟨rfl, e351, (by decide : 2 + 1 ≤ _), (by decide : 6 + 2 ≤ _)⟩)
  dsimp only [Pt.U, Pt.locs, Pt.cells, Pt.slots] at X352 l352 y352 z352 st352 hQ352
  subst l352 y352 z352
  obtain ⟨d352, k352', rfl, N352q, K352, str352, ge352⟩ := hQ352
  have N352 := Fr.app N351 N352q
  have e352 : T352.heap = T352.heap := rfl
  refine own_k T352 76 [.ref b346] (fun t_ k_ => st352.trans k_) ?_
  have ged352 := Nat.le_trans Kp.1 ge352
  have E_b346 := E_b346.keep K352
  have A_b347 := A_b347.keep K352 (ninS (Ne.symm ne_b346_b347) nin0)
  have O := O.keep K352 (allS g_b346 all0)
  have Zn := Nat.le_trans Zn K352.1
  have Kp := Kp.trans K352 (allS (Or.inr b_b346) all0)
  exact own_retA X352 hx hlk hret rfl rfl (hb hby d15_76) (by rw [e352]; exact ⟨_, _, rfl, N352, own_ext_of_keep Kp, (⟨_, _, _, str352, rfl⟩ : StrX _ _ _ [((((((u2 &&& (255 : Int32))).toUInt32.toUInt16.toUInt32.toInt32)).toInt8.toInt32)).toInt8.toInt32, ((((((((u2.toUInt32 >>> ((8 : Int32) &&& 31).toUInt32).toInt32) &&& (255 : Int32))).toUInt32.toUInt16.toUInt32.toInt32)).toInt8.toInt32)).toInt8.toInt32])⟩) (by decide) (by decide)
theorem d15_77 : decode method_7_code 77 = .ok (.new 8, 3) := by decide +kernel
theorem d15_80 : decode method_7_code 80 = .ok (.dup, 1) := by decide +kernel
theorem d15_81 : decode method_7_code 81 = .ok (.iconst 3, 1) := by decide +kernel
theorem d15_82 : decode method_7_code 82 = .ok (.newarray .char, 2) := by decide +kernel
theorem d15_84 : decode method_7_code 84 = .ok (.dup, 1) := by decide +kernel
theorem d15_85 : decode method_7_code 85 = .ok (.iconst 0, 1) := by decide +kernel
theorem d15_86 : decode method_7_code 86 = .ok (.iload_n 2, 1) := by decide +kernel
theorem d15_87 : decode method_7_code 87 = .ok (.castore, 1) := by decide +kernel
theorem d15_88 : decode method_7_code 88 = .ok (.dup, 1) := by decide +kernel
theorem d15_89 : decode method_7_code 89 = .ok (.iconst 1, 1) := by decide +kernel
theorem d15_90 : decode method_7_code 90 = .ok (.iload_n 3, 1) := by decide +kernel
theorem d15_91 : decode method_7_code 91 = .ok (.castore, 1) := by decide +kernel
theorem d15_92 : decode method_7_code 92 = .ok (.dup, 1) := by decide +kernel
theorem d15_93 : decode method_7_code 93 = .ok (.iconst 2, 1) := by decide +kernel
theorem d15_94 : decode method_7_code 94 = .ok (.iload 4, 2) := by decide +kernel
theorem d15_96 : decode method_7_code 96 = .ok (.castore, 1) := by decide +kernel
theorem d15_97 : decode method_7_code 97 = .ok (.invokespecial 16, 3) := by decide +kernel
theorem d15_100 : decode method_7_code 100 = .ok (.areturn, 1) := by decide +kernel
theorem ef_rmDr3 (mM : MethodId) (u2 : Int32) (cs : Int32) : entryFrame mM #[.int 3, .int u2] 5 = mkF mM 0 #[.val (.int 3), .val (.int u2), .unset, .unset, .unset] [] := by first | (simp [entryFrame, mkF, argsToLocals, Value.category]; done) | rfl
theorem rmDr3 (lL : Launch) (Z : State) (a0 : Array Value) (hw : own_tb a0 Z) (ws : List Jvm.Cond) (u2 : Int32) (cs : Int32) (h0 : Heap) (n0 : Nat) (O : Old Z n0 h0) (Zn : n0 ≤ h0.size) (S_cs : Sta Z Z.heap "java/lang/String" "COMPACT_STRINGS" "Z" (.int cs)) (hcs : ¬ cs = (0 : Int32)) :
    own_Ct lL Z yn14 method_7_code 5 (some (.object "java/lang/String")) ws (⟨4, 3, 10, 66⟩ : Room) #[.int 3, .int u2] h0 (QDr Z h0 n0) := by
  refine own_body (plainFor_of_name pn_com_2fexample_2fslotwright_2fslotwright_2fmodel_2fLinkTypeOfKeyPinLaw) 3 10 rfl rfl (fun mM => ef_rmDr3 mM u2 cs) fun pP eE sS mM below meth cC s₁ hZ hx hby hml hown hnm hret hlk X0 e0 => ?_
  have N0 := Fr.nil n0
  have Kp := Keep.refl h0 []
  refine o_iloadN 1 X0 hx (hb hby d15_0) rfl rfl ?_
  refine o_sipush 4 255 X0 hx (hb hby d15_1) rfl rfl ?_
  refine own_j 5 [(.int (u2 &&& (255 : Int32)))] (fun t_ k_ => XS.iand X0.here hx rfl (hb hby d15_4) rfl k_) ?_
  refine own_j 6 [(.int (((u2 &&& (255 : Int32))).toUInt32.toUInt16.toUInt32.toInt32))] (fun t_ k_ => XS.i2c X0.here hx rfl (hb hby d15_5) rfl k_) ?_
  let Lv353 : Array Slot := #[.val (.int 3), .val (.int u2), .val (.int (((u2 &&& (255 : Int32))).toUInt32.toUInt16.toUInt32.toInt32)), .unset, .unset]
  refine own_st (A := s₁.setTop (mkF mM 7 Lv353 [])) (fun t_ k_ => XS.istoreN X0.here hx rfl (hb hby d15_6) rfl (l' := Lv353) rfl k_) ?_
  refine o_iloadN 8 X0 hx (hb hby d15_7) rfl rfl ?_
  refine o_bipush 10 8 X0 hx (hb hby d15_8) rfl rfl ?_
  refine own_j 11 [(.int ((u2.toUInt32 >>> ((8 : Int32) &&& 31).toUInt32).toInt32))] (fun t_ k_ => XS.iushr X0.here hx rfl (hb hby d15_10) rfl k_) ?_
  refine o_sipush 14 255 X0 hx (hb hby d15_11) rfl rfl ?_
  refine own_j 15 [(.int (((u2.toUInt32 >>> ((8 : Int32) &&& 31).toUInt32).toInt32) &&& (255 : Int32)))] (fun t_ k_ => XS.iand X0.here hx rfl (hb hby d15_14) rfl k_) ?_
  refine own_j 16 [(.int (((((u2.toUInt32 >>> ((8 : Int32) &&& 31).toUInt32).toInt32) &&& (255 : Int32))).toUInt32.toUInt16.toUInt32.toInt32))] (fun t_ k_ => XS.i2c X0.here hx rfl (hb hby d15_15) rfl k_) ?_
  let Lv354 : Array Slot := #[.val (.int 3), .val (.int u2), .val (.int (((u2 &&& (255 : Int32))).toUInt32.toUInt16.toUInt32.toInt32)), .val (.int (((((u2.toUInt32 >>> ((8 : Int32) &&& 31).toUInt32).toInt32) &&& (255 : Int32))).toUInt32.toUInt16.toUInt32.toInt32)), .unset]
  refine own_st (A := s₁.setTop (mkF mM 17 Lv354 [])) (fun t_ k_ => XS.istoreN X0.here hx rfl (hb hby d15_16) rfl (l' := Lv354) rfl k_) ?_
  refine o_iloadN 18 X0 hx (hb hby d15_17) rfl rfl ?_
  refine o_bipush 20 16 X0 hx (hb hby d15_18) rfl rfl ?_
  refine own_j 21 [(.int ((u2.toUInt32 >>> ((16 : Int32) &&& 31).toUInt32).toInt32))] (fun t_ k_ => XS.iushr X0.here hx rfl (hb hby d15_20) rfl k_) ?_
  refine o_sipush 24 255 X0 hx (hb hby d15_21) rfl rfl ?_
  refine own_j 25 [(.int (((u2.toUInt32 >>> ((16 : Int32) &&& 31).toUInt32).toInt32) &&& (255 : Int32)))] (fun t_ k_ => XS.iand X0.here hx rfl (hb hby d15_24) rfl k_) ?_
  refine own_j 26 [(.int (((((u2.toUInt32 >>> ((16 : Int32) &&& 31).toUInt32).toInt32) &&& (255 : Int32))).toUInt32.toUInt16.toUInt32.toInt32))] (fun t_ k_ => XS.i2c X0.here hx rfl (hb hby d15_25) rfl k_) ?_
  let Lv355 : Array Slot := #[.val (.int 3), .val (.int u2), .val (.int (((u2 &&& (255 : Int32))).toUInt32.toUInt16.toUInt32.toInt32)), .val (.int (((((u2.toUInt32 >>> ((8 : Int32) &&& 31).toUInt32).toInt32) &&& (255 : Int32))).toUInt32.toUInt16.toUInt32.toInt32)), .val (.int (((((u2.toUInt32 >>> ((16 : Int32) &&& 31).toUInt32).toInt32) &&& (255 : Int32))).toUInt32.toUInt16.toUInt32.toInt32))]
  refine own_st (A := s₁.setTop (mkF mM 28 Lv355 [])) (fun t_ k_ => XS.istore X0.here hx rfl (hb hby d15_26) rfl (l' := Lv355) rfl k_) ?_
  refine o_iloadN 29 X0 hx (hb hby d15_28) rfl rfl ?_
  refine o_ifYes 43 X0 hx (hb hby d15_29) ((if0 _ _).trans (feq (by decide : ¬ ((3 : Int32) = (0 : Int32)))).2) (by decide) ?_
  refine o_iloadN 44 X0 hx (hb hby d15_43) rfl rfl ?_
  refine o_iconst 45 1 X0 hx (hb hby d15_44) rfl rfl ?_
  refine o_icmpYes 53 X0 hx (hb hby d15_45) (feq (by decide : ¬ ((3 : Int32) = (1 : Int32)))).2 (by decide) ?_
  refine o_iloadN 54 X0 hx (hb hby d15_53) rfl rfl ?_
  refine o_iconst 55 2 X0 hx (hb hby d15_54) rfl rfl ?_
  refine o_icmpYes 77 X0 hx (hb hby d15_55) (feq (by decide : ¬ ((3 : Int32) = (2 : Int32)))).2 (by decide) ?_
  obtain ⟨T356, h356, X356, e356, E356, A356, D356, -, st356⟩ := newO X0 hx hZ hown (ow hw 1 rfl) (ow hw 2 rfl) (ow hw 3 rfl) e0 (g := (mkF mM 77 Lv355 [])) rfl (hb hby d15_77) (by decide) (by decide)
  obtain ⟨b356, g356⟩ : ∃ z, z = h0.size := ⟨_, rfl⟩
  rw [← g356] at A356 D356 st356
  have g_b356 : n0 ≤ b356 := Nat.le_trans Zn (Nat.le_of_eq g356.symm)
  have b_b356 : h0.size ≤ b356 := Nat.le_trans Kp.1 (Nat.le_of_eq g356.symm)
  have O := O.ext E356
  have Zn := Nat.le_trans Zn E356.1
  have Kp := Kp.ext E356
  have E_b356 := A356
  have F_b356_coder : Fld Z h356 b356 "java/lang/String" "coder" "B" (.int 0) := D356 (Or.inr (ow hw 32 rfl)) (ty := .byte) (by decide)
  have F_b356_value : Fld Z h356 b356 "java/lang/String" "value" "[B" .null := D356 (Or.inr (ow hw 34 rfl)) (ty := (.array .byte)) (by decide)
  refine own_k T356 80 [.ref b356] st356 ?_
  refine o_dup 81 X356 hx (hb hby d15_80) rfl rfl ?_
  refine o_iconst 82 3 X356 hx (hb hby d15_81) rfl rfl ?_
  obtain ⟨T357, h357, k357, X357, e357, E357, A357, st357⟩ := newP X356 hx hZ (ow hw 8 rfl) e356 (g := (mkF mM 82 Lv355 [.int 3, .ref b356, .ref b356])) rfl (hb hby d15_82) rfl (by decide) (cap := 3) (by decide) (by decide) (by decide) (by decide)
  obtain ⟨b357, g357⟩ : ∃ z, z = h356.size := ⟨_, rfl⟩
  rw [← g357] at A357 st357
  have ne_b356_b357 : b356 ≠ b357 := Nat.ne_of_lt (Nat.lt_of_lt_of_le E_b356.lt (Nat.le_of_eq g357.symm))
  have g_b357 : n0 ≤ b357 := Nat.le_trans Zn (Nat.le_of_eq g357.symm)
  have b_b357 : h0.size ≤ b357 := Nat.le_trans Kp.1 (Nat.le_of_eq g357.symm)
  have F_b356_coder := F_b356_coder.ext E357
  have F_b356_value := F_b356_value.ext E357
  have E_b356 := E_b356.ext E357
  have O := O.ext E357
  have Zn := Nat.le_trans Zn E357.1
  have Kp := Kp.ext E357
  have A_b357 : Arv Z h357 b357 k357 .char 3 [.int 0, .int 0, .int 0] (.int 0) := (Arv.new A357 (by decide)).pad (pad_rep [] (.int 0) 3)
  refine own_k T357 84 [.ref b357, .ref b356, .ref b356] st357 ?_
  refine o_dup 85 X357 hx (hb hby d15_84) rfl rfl ?_
  refine o_iconst 86 0 X357 hx (hb hby d15_85) rfl rfl ?_
  refine o_iloadN 87 X357 hx (hb hby d15_86) rfl rfl ?_
  obtain ⟨cl358, Ar358, q358, S358, Nn358, H358, G358⟩ := id A_b357
  obtain ⟨T359, h359, X359, e359, W359, st359⟩ := stC X357 hx hZ e357 Ar358 (j := (0 : Int32)) (inb_of S358 ⟨by decide, by decide⟩) (g := (mkF mM 87 Lv355 [(.int (((u2 &&& (255 : Int32))).toUInt32.toUInt16.toUInt32.toInt32)), .int 0, .ref b357, .ref b357, .ref b356, .ref b356])) rfl rfl (hb hby d15_87)
  have N359 := Fr.snoc X359 N0 g_b357
  have F_b356_coder := F_b356_coder.other W359 (Or.inl ne_b356_b357)
  have F_b356_value := F_b356_value.other W359 (Or.inl ne_b356_b357)
  have E_b356 := E_b356.wr W359
  have O := O.wr W359 g_b357
  have Zn := Nat.le_trans Zn (Keep.of_wr W359).1
  have Kp := Kp.wr W359 (Or.inr b_b357)
  have A_b357 : Arv Z h359 b357 k357 .char 3 [(.int (nar .char (((u2 &&& (255 : Int32))).toUInt32.toUInt16.toUInt32.toInt32))), .int 0, .int 0] (.int 0) := Arv.set Ar358 q358 S358 Nn358 H358 G358 (fits_nar_char _) W359 0 rfl (Nat.le_of_ble_eq_true rfl)
  refine own_k T359 88 [.ref b357, .ref b356, .ref b356] st359 ?_
  rw [show nar .char (((u2 &&& (255 : Int32))).toUInt32.toUInt16.toUInt32.toInt32) = (((u2 &&& (255 : Int32))).toUInt32.toUInt16.toUInt32.toInt32) from (own_Ck _).1] at A_b357
  refine o_dup 89 X359 hx (hb hby d15_88) rfl rfl ?_
  refine o_iconst 90 1 X359 hx (hb hby d15_89) rfl rfl ?_
  refine o_iloadN 91 X359 hx (hb hby d15_90) rfl rfl ?_
  obtain ⟨cl360, Ar360, q360, S360, Nn360, H360, G360⟩ := id A_b357
  obtain ⟨T361, h361, X361, e361, W361, st361⟩ := stC X359 hx hZ e359 Ar360 (j := (1 : Int32)) (inb_of S360 ⟨by decide, by decide⟩) (g := (mkF mM 91 Lv355 [(.int (((((u2.toUInt32 >>> ((8 : Int32) &&& 31).toUInt32).toInt32) &&& (255 : Int32))).toUInt32.toUInt16.toUInt32.toInt32)), .int 1, .ref b357, .ref b357, .ref b356, .ref b356])) rfl rfl (hb hby d15_91)
  have N361 := Fr.snoc X361 N359 g_b357
  have F_b356_coder := F_b356_coder.other W361 (Or.inl ne_b356_b357)
  have F_b356_value := F_b356_value.other W361 (Or.inl ne_b356_b357)
  have E_b356 := E_b356.wr W361
  have O := O.wr W361 g_b357
  have Zn := Nat.le_trans Zn (Keep.of_wr W361).1
  have Kp := Kp.wr W361 (Or.inr b_b357)
  have A_b357 : Arv Z h361 b357 k357 .char 3 [(.int (((u2 &&& (255 : Int32))).toUInt32.toUInt16.toUInt32.toInt32)), (.int (nar .char (((((u2.toUInt32 >>> ((8 : Int32) &&& 31).toUInt32).toInt32) &&& (255 : Int32))).toUInt32.toUInt16.toUInt32.toInt32))), .int 0] (.int 0) := Arv.set Ar360 q360 S360 Nn360 H360 G360 (fits_nar_char _) W361 1 rfl (Nat.le_of_ble_eq_true rfl)
  refine own_k T361 92 [.ref b357, .ref b356, .ref b356] st361 ?_
  rw [show nar .char (((((u2.toUInt32 >>> ((8 : Int32) &&& 31).toUInt32).toInt32) &&& (255 : Int32))).toUInt32.toUInt16.toUInt32.toInt32) = (((((u2.toUInt32 >>> ((8 : Int32) &&& 31).toUInt32).toInt32) &&& (255 : Int32))).toUInt32.toUInt16.toUInt32.toInt32) from (own_Ck _).1] at A_b357
  refine o_dup 93 X361 hx (hb hby d15_92) rfl rfl ?_
  refine o_iconst 94 2 X361 hx (hb hby d15_93) rfl rfl ?_
  refine o_iload 96 X361 hx (hb hby d15_94) rfl rfl ?_
  obtain ⟨cl362, Ar362, q362, S362, Nn362, H362, G362⟩ := id A_b357
  obtain ⟨T363, h363, X363, e363, W363, st363⟩ := stC X361 hx hZ e361 Ar362 (j := (2 : Int32)) (inb_of S362 ⟨by decide, by decide⟩) (g := (mkF mM 96 Lv355 [(.int (((((u2.toUInt32 >>> ((16 : Int32) &&& 31).toUInt32).toInt32) &&& (255 : Int32))).toUInt32.toUInt16.toUInt32.toInt32)), .int 2, .ref b357, .ref b357, .ref b356, .ref b356])) rfl rfl (hb hby d15_96)
  have N363 := Fr.snoc X363 N361 g_b357
  have F_b356_coder := F_b356_coder.other W363 (Or.inl ne_b356_b357)
  have F_b356_value := F_b356_value.other W363 (Or.inl ne_b356_b357)
  have E_b356 := E_b356.wr W363
  have O := O.wr W363 g_b357
  have Zn := Nat.le_trans Zn (Keep.of_wr W363).1
  have Kp := Kp.wr W363 (Or.inr b_b357)
  have A_b357 : Arv Z h363 b357 k357 .char 3 [(.int (((u2 &&& (255 : Int32))).toUInt32.toUInt16.toUInt32.toInt32)), (.int (((((u2.toUInt32 >>> ((8 : Int32) &&& 31).toUInt32).toInt32) &&& (255 : Int32))).toUInt32.toUInt16.toUInt32.toInt32)), (.int (nar .char (((((u2.toUInt32 >>> ((16 : Int32) &&& 31).toUInt32).toInt32) &&& (255 : Int32))).toUInt32.toUInt16.toUInt32.toInt32)))] (.int 0) := Arv.set Ar362 q362 S362 Nn362 H362 G362 (fits_nar_char _) W363 2 rfl (Nat.le_of_ble_eq_true rfl)
  refine own_k T363 97 [.ref b357, .ref b356, .ref b356] st363 ?_
  rw [show nar .char (((((u2.toUInt32 >>> ((16 : Int32) &&& 31).toUInt32).toInt32) &&& (255 : Int32))).toUInt32.toUInt16.toUInt32.toInt32) = (((((u2.toUInt32 >>> ((16 : Int32) &&& 31).toUInt32).toInt32) &&& (255 : Int32))).toUInt32.toUInt16.toUInt32.toInt32) from (own_Ck _).1] at A_b357
  obtain ⟨_, _, ⟨T364, L364, k364, n364⟩, -, X364, ⟨Lc364, hQ364, l364, y364, z364⟩, st364⟩ := X363.specialBack hx (y := yn9) rfl hown (mvT hZ (ow hw 9 rfl)) (mvT hZ (ow hw 10 rfl)) (mvT hZ (ow hw 11 rfl)) (by decide) (backOf (W := 1) (rmS1_3 lL Z a0 hw [] b356 b357 k357 cs ((((u2 &&& (255 : Int32))).toUInt32.toUInt16.toUInt32.toInt32)) ((((((u2.toUInt32 >>> ((8 : Int32) &&& 31).toUInt32).toInt32) &&& (255 : Int32))).toUInt32.toUInt16.toUInt32.toInt32)) ((((((u2.toUInt32 >>> ((16 : Int32) &&& 31).toUInt32).toInt32) &&& (255 : Int32))).toUInt32.toUInt16.toUInt32.toInt32)) h363 n0 g_b356 E_b356 F_b356_value F_b356_coder A_b357 (Ne.symm ne_b356_b357) O Zn S_cs hcs (own_Ck _) (own_Ck _) (own_Ck _)) hZ (ow hw 11 rfl) (ow hw 3 rfl) (by decide) (by decide)) (g := (mkF mM 97 Lv355 [.ref b357, .ref b356, .ref b356])) rfl (by rw [hml]; rfl) (Steps.refl _) (a := b356) (argsL := [.ref b357]) (rest := [.ref b356]) (lenOf pd__28_5bC_29V rfl) rfl (by show 2 * 0 + _ ≤ _; exact Nat.le_of_eq rfl) (hb hby d15_97) (fun _ _ => ⟨rfl, e363, (by decide : 2 + 1 ≤ _), (by decide : 7 + 3 ≤ _)⟩)
  dsimp only [Pt.U, Pt.locs, Pt.cells, Pt.slots] at X364 l364 y364 z364 st364 hQ364
  subst l364 y364 z364
  obtain ⟨d364, k364', rfl, N364q, K364, str364, ge364⟩ := hQ364
  have N364 := Fr.app N363 N364q
  have e364 : T364.heap = T364.heap := rfl
  refine own_k T364 100 [.ref b356] (fun t_ k_ => st364.trans k_) ?_
  have ged364 := Nat.le_trans Kp.1 ge364
  have E_b356 := E_b356.keep K364
  have A_b357 := A_b357.keep K364 (ninS (Ne.symm ne_b356_b357) nin0)
  have O := O.keep K364 (allS g_b356 all0)
  have Zn := Nat.le_trans Zn K364.1
  have Kp := Kp.trans K364 (allS (Or.inr b_b356) all0)
  exact own_retA X364 hx hlk hret rfl rfl (hb hby d15_100) (by rw [e364]; exact ⟨_, _, rfl, N364, own_ext_of_keep Kp, (⟨_, _, _, str364, rfl⟩ : StrX _ _ _ [((((((u2 &&& (255 : Int32))).toUInt32.toUInt16.toUInt32.toInt32)).toInt8.toInt32)).toInt8.toInt32, ((((((((u2.toUInt32 >>> ((8 : Int32) &&& 31).toUInt32).toInt32) &&& (255 : Int32))).toUInt32.toUInt16.toUInt32.toInt32)).toInt8.toInt32)).toInt8.toInt32, ((((((((u2.toUInt32 >>> ((16 : Int32) &&& 31).toUInt32).toInt32) &&& (255 : Int32))).toUInt32.toUInt16.toUInt32.toInt32)).toInt8.toInt32)).toInt8.toInt32])⟩) (by decide) (by decide)
theorem pd__28II_29Ljava_2flang_2fString_3b : parseMethodDescriptor "(II)Ljava/lang/String;" = some ⟨[.int, .int], some (.object "java/lang/String")⟩ := by decide +kernel
theorem J139_0 {vmV : Vm} (hw : own_tb a0 Z) (X0 : Stand pP lL eE room_1 (sS.setVm vmV) mM args below meth cC T0 locs 0 0) (hx : pP.tables.exec = Jvm.exec) (hZ : Z.Warmed39 (sS.setVm vmV).vm) (hby : cC.code = code) (hml : cC.maxLocals = 8) (hown : (sS.setVm vmV).vm.findClass "com/example/slotwright/slotwright/model/LinkTypeOfKeyPinLaw" = some mM.cls) (hlk : meth.locks = false) (hret : meth.sig.returnType = ret) {kV : Nat} (hS : sS.Since vmV kV) (hk : kV ≤ h0.size) (e0 : T0.heap = h0) (N0 : Fr n0 locs) (u0 : Int32) (u1 : Int32) (u2 : Int32) (mo : Int32) (kk : Int32) (xc : Int32) (cs : Int32) (a1 : Addr) (a2 : Addr) (a3 : Addr) (t : Addr) (cl : Cell) (y1 : Addr) (y2 : Addr) (y3 : Addr) (Zn : n0 ≤ h0.size) (O : Old Z n0 h0) (S_cs : Sta Z Z.heap "java/lang/String" "COMPACT_STRINGS" "Z" (.int cs)) (hcs : ¬ cs = (0 : Int32)) (hcw : Jvm.Lit.compactW.before a0 Z = true) (hh39 : Jvm.Lit.constHeld Z "com/example/slotwright/slotwright/model/LinkTypeOfKeyPinLaw" 39) (hh49 : Jvm.Lit.constHeld Z "com/example/slotwright/slotwright/model/LinkTypeOfKeyPinLaw" 49) (hh54 : Jvm.Lit.constHeld Z "com/example/slotwright/slotwright/model/LinkTypeOfKeyPinLaw" 54) (hh7 : Jvm.Lit.constHeld Z "java/lang/String" 7) (S_BEFORE : Sta Z Z.heap "com/example/slotwright/slotwright/model/LinkType" "BEFORE" "Lcom/example/slotwright/slotwright/model/LinkType;" (.ref a1)) (S_MEETS : Sta Z Z.heap "com/example/slotwright/slotwright/model/LinkType" "MEETS" "Lcom/example/slotwright/slotwright/model/LinkType;" (.ref a2)) (S_CONCURRENT : Sta Z Z.heap "com/example/slotwright/slotwright/model/LinkType" "CONCURRENT" "Lcom/example/slotwright/slotwright/model/LinkType;" (.ref a3)) (S_V : Sta Z Z.heap "com/example/slotwright/slotwright/model/LinkType" "$VALUES" "[Lcom/example/slotwright/slotwright/model/LinkType;" (.ref t)) (Ar : Arr Z Z.heap t cl (.object "com/example/slotwright/slotwright/model/LinkType")) (Ex : Exa Z Z.heap t "[Lcom/example/slotwright/slotwright/model/LinkType;") (FC : FitC Z cl) (sz : cl.slots.size = (3 : Int32).toNatClampNeg) (el0 : cl.slots[(0 : Int32).toNatClampNeg]? = some (.ref a1)) (el1 : cl.slots[(1 : Int32).toNatClampNeg]? = some (.ref a2)) (el2 : cl.slots[(2 : Int32).toNatClampNeg]? = some (.ref a3)) (Fk1 : Fld Z Z.heap a1 "com/example/slotwright/slotwright/model/LinkType" "key" "Ljava/lang/String;" (.ref y1)) (Fk2 : Fld Z Z.heap a2 "com/example/slotwright/slotwright/model/LinkType" "key" "Ljava/lang/String;" (.ref y2)) (Fk3 : Fld Z Z.heap a3 "com/example/slotwright/slotwright/model/LinkType" "key" "Ljava/lang/String;" (.ref y3)) (SX1 : StrX Z Z.heap y1 bB) (SX2 : StrX Z Z.heap y2 bM) (SX3 : StrX Z Z.heap y3 bC) (cxc : Ck xc) (hI : IB Z vmV []) :
    own_GoW pP eE below sS (QLaw n0) 24 4288 (T0.setTop (mkF mM 139 #[.val (.int u0), .val (.int u1), .val (.int u2), .val (.int mo), .val (.int kk), .val (.int xc), .unset, .unset] [.int u2, .int 0])) := by
  obtain ⟨_, _, ⟨T365, L365, k365, n365⟩, -, X365, hS365, hg365, ⟨Lc365, hQ365, l365, y365, z365⟩, st365⟩ := callSS X0 hx (y := yn14) hown (mvT hZ (ow hw 85 rfl)) (mvT hZ (ow hw 86 rfl)) (mvT hZ (ow hw 6 rfl)) (mvT hZ (ow hw 87 rfl)) (by decide) (own_backOfSI (W := 0) (rmDr0 lL Z a0 hw [] u2 cs h0 n0 O Zn S_cs hcs hcw hh7) hZ (ow hw 87 rfl) (ow hw 6 rfl) (by decide) (by decide) hI) (g := (mkF mM 139 #[.val (.int u0), .val (.int u1), .val (.int u2), .val (.int mo), .val (.int kk), .val (.int xc), .unset, .unset] [.int u2, .int 0])) rfl (by rw [hml]; rfl) (argsL := [.int 0, .int u2]) (rest := []) (lenOf pd__28II_29Ljava_2flang_2fString_3b rfl) rfl (by show 2 * 0 + _ ≤ _; exact Nat.le_of_eq rfl) (hb hby at_139) (fun _ _ => ⟨rfl, e0, (by decide : 0 + 4 ≤ _), (by decide : 0 + 8 ≤ _)⟩)
  dsimp only [Pt.U, Pt.locs, Pt.cells, Pt.slots] at X365 l365 y365 z365 st365 hQ365 hS365 hg365
  subst l365 y365 z365
  obtain ⟨p365, l365, rfl, N365q, E365, sx365, hI⟩ := hQ365
  have N365 := Fr.app N0 N365q
  rw [e0] at hg365
  have hZ := own_wideZ hZ hS365
  have hown := own_wideO hown hS365
  have hS := hS.trans hS365 (Nat.le_trans hk hg365)
  have hk : T365.heap.size ≤ T365.heap.size := Nat.le_refl _
  have X365 : Stand pP lL eE room_1 (sS.setVm T365.vm) mM args below meth cC T365 _ 4 8 := X365
  have e365 : T365.heap = T365.heap := rfl
  refine own_kW T365 142 [.ref p365] (fun t_ k_ => st365.trans k_) ?_
  have O := O.ext E365
  have Zn := Nat.le_trans Zn E365.1
  let Lv366 : Array Slot := #[.val (.int u0), .val (.int u1), .val (.int u2), .val (.int mo), .val (.int kk), .val (.int xc), .val (.ref p365), .unset]
  refine own_stW (A := T365.setTop (mkF mM 144 Lv366 [])) (fun t_ k_ => XS.astore X365.here hx rfl (hb hby at_142) rfl rfl (l' := Lv366) rfl k_) ?_
  refine o_gotoW 150 X365 hx (hb hby at_144) (by decide) ?_
  exact J150u hw (X365.more (by decide) (by decide)) hx hZ hby hml hown hlk hret hS hk e365 N365 u0 u1 u2 mo kk xc p365 l365 cs a1 a2 a3 t cl y1 y2 y3 sx365 O S_cs hcs hcw hh39 hh49 hh54 hh7 S_BEFORE S_MEETS S_CONCURRENT S_V Ar Ex FC sz el0 el1 el2 Fk1 Fk2 Fk3 SX1 SX2 SX3 hI
theorem J139_1 {vmV : Vm} (hw : own_tb a0 Z) (X0 : Stand pP lL eE room_1 (sS.setVm vmV) mM args below meth cC T0 locs 0 0) (hx : pP.tables.exec = Jvm.exec) (hZ : Z.Warmed39 (sS.setVm vmV).vm) (hby : cC.code = code) (hml : cC.maxLocals = 8) (hown : (sS.setVm vmV).vm.findClass "com/example/slotwright/slotwright/model/LinkTypeOfKeyPinLaw" = some mM.cls) (hlk : meth.locks = false) (hret : meth.sig.returnType = ret) {kV : Nat} (hS : sS.Since vmV kV) (hk : kV ≤ h0.size) (e0 : T0.heap = h0) (N0 : Fr n0 locs) (u0 : Int32) (u1 : Int32) (u2 : Int32) (mo : Int32) (kk : Int32) (xc : Int32) (cs : Int32) (a1 : Addr) (a2 : Addr) (a3 : Addr) (t : Addr) (cl : Cell) (y1 : Addr) (y2 : Addr) (y3 : Addr) (Zn : n0 ≤ h0.size) (O : Old Z n0 h0) (S_cs : Sta Z Z.heap "java/lang/String" "COMPACT_STRINGS" "Z" (.int cs)) (hcs : ¬ cs = (0 : Int32)) (hcw : Jvm.Lit.compactW.before a0 Z = true) (hh39 : Jvm.Lit.constHeld Z "com/example/slotwright/slotwright/model/LinkTypeOfKeyPinLaw" 39) (hh49 : Jvm.Lit.constHeld Z "com/example/slotwright/slotwright/model/LinkTypeOfKeyPinLaw" 49) (hh54 : Jvm.Lit.constHeld Z "com/example/slotwright/slotwright/model/LinkTypeOfKeyPinLaw" 54) (hh7 : Jvm.Lit.constHeld Z "java/lang/String" 7) (S_BEFORE : Sta Z Z.heap "com/example/slotwright/slotwright/model/LinkType" "BEFORE" "Lcom/example/slotwright/slotwright/model/LinkType;" (.ref a1)) (S_MEETS : Sta Z Z.heap "com/example/slotwright/slotwright/model/LinkType" "MEETS" "Lcom/example/slotwright/slotwright/model/LinkType;" (.ref a2)) (S_CONCURRENT : Sta Z Z.heap "com/example/slotwright/slotwright/model/LinkType" "CONCURRENT" "Lcom/example/slotwright/slotwright/model/LinkType;" (.ref a3)) (S_V : Sta Z Z.heap "com/example/slotwright/slotwright/model/LinkType" "$VALUES" "[Lcom/example/slotwright/slotwright/model/LinkType;" (.ref t)) (Ar : Arr Z Z.heap t cl (.object "com/example/slotwright/slotwright/model/LinkType")) (Ex : Exa Z Z.heap t "[Lcom/example/slotwright/slotwright/model/LinkType;") (FC : FitC Z cl) (sz : cl.slots.size = (3 : Int32).toNatClampNeg) (el0 : cl.slots[(0 : Int32).toNatClampNeg]? = some (.ref a1)) (el1 : cl.slots[(1 : Int32).toNatClampNeg]? = some (.ref a2)) (el2 : cl.slots[(2 : Int32).toNatClampNeg]? = some (.ref a3)) (Fk1 : Fld Z Z.heap a1 "com/example/slotwright/slotwright/model/LinkType" "key" "Ljava/lang/String;" (.ref y1)) (Fk2 : Fld Z Z.heap a2 "com/example/slotwright/slotwright/model/LinkType" "key" "Ljava/lang/String;" (.ref y2)) (Fk3 : Fld Z Z.heap a3 "com/example/slotwright/slotwright/model/LinkType" "key" "Ljava/lang/String;" (.ref y3)) (SX1 : StrX Z Z.heap y1 bB) (SX2 : StrX Z Z.heap y2 bM) (SX3 : StrX Z Z.heap y3 bC) (cxc : Ck xc) (hI : IB Z vmV []) :
    own_GoW pP eE below sS (QLaw n0) 24 4288 (T0.setTop (mkF mM 139 #[.val (.int u0), .val (.int u1), .val (.int u2), .val (.int mo), .val (.int kk), .val (.int xc), .unset, .unset] [.int u2, .int 1])) := by
  obtain ⟨_, _, ⟨T367, L367, k367, n367⟩, -, X367, ⟨Lc367, hQ367, l367, y367, z367⟩, st367⟩ := Jvm.LawKit.callS X0 hx (y := yn14) hown (mvT hZ (ow hw 85 rfl)) (mvT hZ (ow hw 86 rfl)) (mvT hZ (ow hw 6 rfl)) (mvT hZ (ow hw 87 rfl)) (by decide) (backOf (W := 0) (rmDr1 lL Z a0 hw [] u2 cs h0 n0 O Zn S_cs hcs) hZ (ow hw 87 rfl) (ow hw 6 rfl) (by decide) (by decide)) (g := (mkF mM 139 #[.val (.int u0), .val (.int u1), .val (.int u2), .val (.int mo), .val (.int kk), .val (.int xc), .unset, .unset] [.int u2, .int 1])) rfl (by rw [hml]; rfl) (argsL := [.int 1, .int u2]) (rest := []) (lenOf pd__28II_29Ljava_2flang_2fString_3b rfl) rfl (by show 2 * 0 + _ ≤ _; exact Nat.le_of_eq rfl) (hb hby at_139) (fun _ _ => ⟨rfl, e0, (by decide : 0 + 2 ≤ _), (by decide : 0 + 5 ≤ _)⟩)
  dsimp only [Pt.U, Pt.locs, Pt.cells, Pt.slots] at X367 l367 y367 z367 st367 hQ367
  subst l367 y367 z367
  obtain ⟨p367, l367, rfl, N367q, E367, sx367⟩ := hQ367
  have N367 := Fr.app N0 N367q
  have e367 : T367.heap = T367.heap := rfl
  refine own_kW T367 142 [.ref p367] st367 ?_
  have O := O.ext E367
  have hk := Nat.le_trans hk E367.1
  have Zn := Nat.le_trans Zn E367.1
  let Lv368 : Array Slot := #[.val (.int u0), .val (.int u1), .val (.int u2), .val (.int mo), .val (.int kk), .val (.int xc), .val (.ref p367), .unset]
  refine own_stW (A := T367.setTop (mkF mM 144 Lv368 [])) (fun t_ k_ => XS.astore X367.here hx rfl (hb hby at_142) rfl rfl (l' := Lv368) rfl k_) ?_
  refine o_gotoW 150 X367 hx (hb hby at_144) (by decide) ?_
  exact J150u hw (X367.more (by decide) (by decide)) hx hZ hby hml hown hlk hret hS hk e367 N367 u0 u1 u2 mo kk xc p367 l367 cs a1 a2 a3 t cl y1 y2 y3 sx367 O S_cs hcs hcw hh39 hh49 hh54 hh7 S_BEFORE S_MEETS S_CONCURRENT S_V Ar Ex FC sz el0 el1 el2 Fk1 Fk2 Fk3 SX1 SX2 SX3 (own_IBw hI (fun _ q => by cases q))
theorem J139_2 {vmV : Vm} (hw : own_tb a0 Z) (X0 : Stand pP lL eE room_1 (sS.setVm vmV) mM args below meth cC T0 locs 0 0) (hx : pP.tables.exec = Jvm.exec) (hZ : Z.Warmed39 (sS.setVm vmV).vm) (hby : cC.code = code) (hml : cC.maxLocals = 8) (hown : (sS.setVm vmV).vm.findClass "com/example/slotwright/slotwright/model/LinkTypeOfKeyPinLaw" = some mM.cls) (hlk : meth.locks = false) (hret : meth.sig.returnType = ret) {kV : Nat} (hS : sS.Since vmV kV) (hk : kV ≤ h0.size) (e0 : T0.heap = h0) (N0 : Fr n0 locs) (u0 : Int32) (u1 : Int32) (u2 : Int32) (mo : Int32) (kk : Int32) (xc : Int32) (cs : Int32) (a1 : Addr) (a2 : Addr) (a3 : Addr) (t : Addr) (cl : Cell) (y1 : Addr) (y2 : Addr) (y3 : Addr) (Zn : n0 ≤ h0.size) (O : Old Z n0 h0) (S_cs : Sta Z Z.heap "java/lang/String" "COMPACT_STRINGS" "Z" (.int cs)) (hcs : ¬ cs = (0 : Int32)) (hcw : Jvm.Lit.compactW.before a0 Z = true) (hh39 : Jvm.Lit.constHeld Z "com/example/slotwright/slotwright/model/LinkTypeOfKeyPinLaw" 39) (hh49 : Jvm.Lit.constHeld Z "com/example/slotwright/slotwright/model/LinkTypeOfKeyPinLaw" 49) (hh54 : Jvm.Lit.constHeld Z "com/example/slotwright/slotwright/model/LinkTypeOfKeyPinLaw" 54) (hh7 : Jvm.Lit.constHeld Z "java/lang/String" 7) (S_BEFORE : Sta Z Z.heap "com/example/slotwright/slotwright/model/LinkType" "BEFORE" "Lcom/example/slotwright/slotwright/model/LinkType;" (.ref a1)) (S_MEETS : Sta Z Z.heap "com/example/slotwright/slotwright/model/LinkType" "MEETS" "Lcom/example/slotwright/slotwright/model/LinkType;" (.ref a2)) (S_CONCURRENT : Sta Z Z.heap "com/example/slotwright/slotwright/model/LinkType" "CONCURRENT" "Lcom/example/slotwright/slotwright/model/LinkType;" (.ref a3)) (S_V : Sta Z Z.heap "com/example/slotwright/slotwright/model/LinkType" "$VALUES" "[Lcom/example/slotwright/slotwright/model/LinkType;" (.ref t)) (Ar : Arr Z Z.heap t cl (.object "com/example/slotwright/slotwright/model/LinkType")) (Ex : Exa Z Z.heap t "[Lcom/example/slotwright/slotwright/model/LinkType;") (FC : FitC Z cl) (sz : cl.slots.size = (3 : Int32).toNatClampNeg) (el0 : cl.slots[(0 : Int32).toNatClampNeg]? = some (.ref a1)) (el1 : cl.slots[(1 : Int32).toNatClampNeg]? = some (.ref a2)) (el2 : cl.slots[(2 : Int32).toNatClampNeg]? = some (.ref a3)) (Fk1 : Fld Z Z.heap a1 "com/example/slotwright/slotwright/model/LinkType" "key" "Ljava/lang/String;" (.ref y1)) (Fk2 : Fld Z Z.heap a2 "com/example/slotwright/slotwright/model/LinkType" "key" "Ljava/lang/String;" (.ref y2)) (Fk3 : Fld Z Z.heap a3 "com/example/slotwright/slotwright/model/LinkType" "key" "Ljava/lang/String;" (.ref y3)) (SX1 : StrX Z Z.heap y1 bB) (SX2 : StrX Z Z.heap y2 bM) (SX3 : StrX Z Z.heap y3 bC) (cxc : Ck xc) (hI : IB Z vmV []) :
    own_GoW pP eE below sS (QLaw n0) 24 4288 (T0.setTop (mkF mM 139 #[.val (.int u0), .val (.int u1), .val (.int u2), .val (.int mo), .val (.int kk), .val (.int xc), .unset, .unset] [.int u2, .int 2])) := by
  obtain ⟨_, _, ⟨T369, L369, k369, n369⟩, -, X369, ⟨Lc369, hQ369, l369, y369, z369⟩, st369⟩ := Jvm.LawKit.callS X0 hx (y := yn14) hown (mvT hZ (ow hw 85 rfl)) (mvT hZ (ow hw 86 rfl)) (mvT hZ (ow hw 6 rfl)) (mvT hZ (ow hw 87 rfl)) (by decide) (backOf (W := 0) (rmDr2 lL Z a0 hw [] u2 cs h0 n0 O Zn S_cs hcs) hZ (ow hw 87 rfl) (ow hw 6 rfl) (by decide) (by decide)) (g := (mkF mM 139 #[.val (.int u0), .val (.int u1), .val (.int u2), .val (.int mo), .val (.int kk), .val (.int xc), .unset, .unset] [.int u2, .int 2])) rfl (by rw [hml]; rfl) (argsL := [.int 2, .int u2]) (rest := []) (lenOf pd__28II_29Ljava_2flang_2fString_3b rfl) rfl (by show 2 * 0 + _ ≤ _; exact Nat.le_of_eq rfl) (hb hby at_139) (fun _ _ => ⟨rfl, e0, (by decide : 0 + 3 ≤ _), (by decide : 0 + 8 ≤ _)⟩)
  dsimp only [Pt.U, Pt.locs, Pt.cells, Pt.slots] at X369 l369 y369 z369 st369 hQ369
  subst l369 y369 z369
  obtain ⟨p369, l369, rfl, N369q, E369, sx369⟩ := hQ369
  have N369 := Fr.app N0 N369q
  have e369 : T369.heap = T369.heap := rfl
  refine own_kW T369 142 [.ref p369] st369 ?_
  have O := O.ext E369
  have hk := Nat.le_trans hk E369.1
  have Zn := Nat.le_trans Zn E369.1
  let Lv370 : Array Slot := #[.val (.int u0), .val (.int u1), .val (.int u2), .val (.int mo), .val (.int kk), .val (.int xc), .val (.ref p369), .unset]
  refine own_stW (A := T369.setTop (mkF mM 144 Lv370 [])) (fun t_ k_ => XS.astore X369.here hx rfl (hb hby at_142) rfl rfl (l' := Lv370) rfl k_) ?_
  refine o_gotoW 150 X369 hx (hb hby at_144) (by decide) ?_
  exact J150u hw (X369.more (by decide) (by decide)) hx hZ hby hml hown hlk hret hS hk e369 N369 u0 u1 u2 mo kk xc p369 l369 cs a1 a2 a3 t cl y1 y2 y3 sx369 O S_cs hcs hcw hh39 hh49 hh54 hh7 S_BEFORE S_MEETS S_CONCURRENT S_V Ar Ex FC sz el0 el1 el2 Fk1 Fk2 Fk3 SX1 SX2 SX3 (own_IBw hI (fun _ q => by cases q))
theorem J139_3 {vmV : Vm} (hw : own_tb a0 Z) (X0 : Stand pP lL eE room_1 (sS.setVm vmV) mM args below meth cC T0 locs 0 0) (hx : pP.tables.exec = Jvm.exec) (hZ : Z.Warmed39 (sS.setVm vmV).vm) (hby : cC.code = code) (hml : cC.maxLocals = 8) (hown : (sS.setVm vmV).vm.findClass "com/example/slotwright/slotwright/model/LinkTypeOfKeyPinLaw" = some mM.cls) (hlk : meth.locks = false) (hret : meth.sig.returnType = ret) {kV : Nat} (hS : sS.Since vmV kV) (hk : kV ≤ h0.size) (e0 : T0.heap = h0) (N0 : Fr n0 locs) (u0 : Int32) (u1 : Int32) (u2 : Int32) (mo : Int32) (kk : Int32) (xc : Int32) (cs : Int32) (a1 : Addr) (a2 : Addr) (a3 : Addr) (t : Addr) (cl : Cell) (y1 : Addr) (y2 : Addr) (y3 : Addr) (Zn : n0 ≤ h0.size) (O : Old Z n0 h0) (S_cs : Sta Z Z.heap "java/lang/String" "COMPACT_STRINGS" "Z" (.int cs)) (hcs : ¬ cs = (0 : Int32)) (hcw : Jvm.Lit.compactW.before a0 Z = true) (hh39 : Jvm.Lit.constHeld Z "com/example/slotwright/slotwright/model/LinkTypeOfKeyPinLaw" 39) (hh49 : Jvm.Lit.constHeld Z "com/example/slotwright/slotwright/model/LinkTypeOfKeyPinLaw" 49) (hh54 : Jvm.Lit.constHeld Z "com/example/slotwright/slotwright/model/LinkTypeOfKeyPinLaw" 54) (hh7 : Jvm.Lit.constHeld Z "java/lang/String" 7) (S_BEFORE : Sta Z Z.heap "com/example/slotwright/slotwright/model/LinkType" "BEFORE" "Lcom/example/slotwright/slotwright/model/LinkType;" (.ref a1)) (S_MEETS : Sta Z Z.heap "com/example/slotwright/slotwright/model/LinkType" "MEETS" "Lcom/example/slotwright/slotwright/model/LinkType;" (.ref a2)) (S_CONCURRENT : Sta Z Z.heap "com/example/slotwright/slotwright/model/LinkType" "CONCURRENT" "Lcom/example/slotwright/slotwright/model/LinkType;" (.ref a3)) (S_V : Sta Z Z.heap "com/example/slotwright/slotwright/model/LinkType" "$VALUES" "[Lcom/example/slotwright/slotwright/model/LinkType;" (.ref t)) (Ar : Arr Z Z.heap t cl (.object "com/example/slotwright/slotwright/model/LinkType")) (Ex : Exa Z Z.heap t "[Lcom/example/slotwright/slotwright/model/LinkType;") (FC : FitC Z cl) (sz : cl.slots.size = (3 : Int32).toNatClampNeg) (el0 : cl.slots[(0 : Int32).toNatClampNeg]? = some (.ref a1)) (el1 : cl.slots[(1 : Int32).toNatClampNeg]? = some (.ref a2)) (el2 : cl.slots[(2 : Int32).toNatClampNeg]? = some (.ref a3)) (Fk1 : Fld Z Z.heap a1 "com/example/slotwright/slotwright/model/LinkType" "key" "Ljava/lang/String;" (.ref y1)) (Fk2 : Fld Z Z.heap a2 "com/example/slotwright/slotwright/model/LinkType" "key" "Ljava/lang/String;" (.ref y2)) (Fk3 : Fld Z Z.heap a3 "com/example/slotwright/slotwright/model/LinkType" "key" "Ljava/lang/String;" (.ref y3)) (SX1 : StrX Z Z.heap y1 bB) (SX2 : StrX Z Z.heap y2 bM) (SX3 : StrX Z Z.heap y3 bC) (cxc : Ck xc) (hI : IB Z vmV []) :
    own_GoW pP eE below sS (QLaw n0) 24 4288 (T0.setTop (mkF mM 139 #[.val (.int u0), .val (.int u1), .val (.int u2), .val (.int mo), .val (.int kk), .val (.int xc), .unset, .unset] [.int u2, .int 3])) := by
  obtain ⟨_, _, ⟨T371, L371, k371, n371⟩, -, X371, ⟨Lc371, hQ371, l371, y371, z371⟩, st371⟩ := Jvm.LawKit.callS X0 hx (y := yn14) hown (mvT hZ (ow hw 85 rfl)) (mvT hZ (ow hw 86 rfl)) (mvT hZ (ow hw 6 rfl)) (mvT hZ (ow hw 87 rfl)) (by decide) (backOf (W := 0) (rmDr3 lL Z a0 hw [] u2 cs h0 n0 O Zn S_cs hcs) hZ (ow hw 87 rfl) (ow hw 6 rfl) (by decide) (by decide)) (g := (mkF mM 139 #[.val (.int u0), .val (.int u1), .val (.int u2), .val (.int mo), .val (.int kk), .val (.int xc), .unset, .unset] [.int u2, .int 3])) rfl (by rw [hml]; rfl) (argsL := [.int 3, .int u2]) (rest := []) (lenOf pd__28II_29Ljava_2flang_2fString_3b rfl) rfl (by show 2 * 0 + _ ≤ _; exact Nat.le_of_eq rfl) (hb hby at_139) (fun _ _ => ⟨rfl, e0, (by decide : 0 + 3 ≤ _), (by decide : 0 + 10 ≤ _)⟩)
  dsimp only [Pt.U, Pt.locs, Pt.cells, Pt.slots] at X371 l371 y371 z371 st371 hQ371
  subst l371 y371 z371
  obtain ⟨p371, l371, rfl, N371q, E371, sx371⟩ := hQ371
  have N371 := Fr.app N0 N371q
  have e371 : T371.heap = T371.heap := rfl
  refine own_kW T371 142 [.ref p371] st371 ?_
  have O := O.ext E371
  have hk := Nat.le_trans hk E371.1
  have Zn := Nat.le_trans Zn E371.1
  let Lv372 : Array Slot := #[.val (.int u0), .val (.int u1), .val (.int u2), .val (.int mo), .val (.int kk), .val (.int xc), .val (.ref p371), .unset]
  refine own_stW (A := T371.setTop (mkF mM 144 Lv372 [])) (fun t_ k_ => XS.astore X371.here hx rfl (hb hby at_142) rfl rfl (l' := Lv372) rfl k_) ?_
  refine o_gotoW 150 X371 hx (hb hby at_144) (by decide) ?_
  exact J150u hw (X371.more (by decide) (by decide)) hx hZ hby hml hown hlk hret hS hk e371 N371 u0 u1 u2 mo kk xc p371 l371 cs a1 a2 a3 t cl y1 y2 y3 sx371 O S_cs hcs hcw hh39 hh49 hh54 hh7 S_BEFORE S_MEETS S_CONCURRENT S_V Ar Ex FC sz el0 el1 el2 Fk1 Fk2 Fk3 SX1 SX2 SX3 (own_IBw hI (fun _ q => by cases q))
theorem own_mod5 (x : Int32) : ((x &&& (2147483647 : Int32)) % (5 : Int32)) = 0 ∨ ((x &&& (2147483647 : Int32)) % (5 : Int32)) = 1 ∨ ((x &&& (2147483647 : Int32)) % (5 : Int32)) = 2 ∨ ((x &&& (2147483647 : Int32)) % (5 : Int32)) = 3 ∨ ((x &&& (2147483647 : Int32)) % (5 : Int32)) = 4 := by
  have m := c_mask x 2147483647 31 (by decide) (by decide)
  have q := (c_irem (x &&& (2147483647 : Int32)) 5 5 (by decide)).1 (by omega)
  have e0 : (0 : Int32).toInt = 0 := by decide
  have e1 : (1 : Int32).toInt = 1 := by decide
  have e2 : (2 : Int32).toInt = 2 := by decide
  have e3 : (3 : Int32).toInt = 3 := by decide
  have e4 : (4 : Int32).toInt = 4 := by decide
  simp only [← Int32.toInt_inj]
  omega
theorem own_mod6 (x : Int32) : ((x &&& (2147483647 : Int32)) % (6 : Int32)) = 0 ∨ ((x &&& (2147483647 : Int32)) % (6 : Int32)) = 1 ∨ ((x &&& (2147483647 : Int32)) % (6 : Int32)) = 2 ∨ ((x &&& (2147483647 : Int32)) % (6 : Int32)) = 3 ∨ ((x &&& (2147483647 : Int32)) % (6 : Int32)) = 4 ∨ ((x &&& (2147483647 : Int32)) % (6 : Int32)) = 5 := by
  have m := c_mask x 2147483647 31 (by decide) (by decide)
  have q := (c_irem (x &&& (2147483647 : Int32)) 6 6 (by decide)).1 (by omega)
  have e0 : (0 : Int32).toInt = 0 := by decide
  have e1 : (1 : Int32).toInt = 1 := by decide
  have e2 : (2 : Int32).toInt = 2 := by decide
  have e3 : (3 : Int32).toInt = 3 := by decide
  have e4 : (4 : Int32).toInt = 4 := by decide
  have e5 : (5 : Int32).toInt = 5 := by decide
  simp only [← Int32.toInt_inj]
  omega
theorem own_mod10 (x : Int32) : ((x &&& (2147483647 : Int32)) % (10 : Int32)) = 0 ∨ ((x &&& (2147483647 : Int32)) % (10 : Int32)) = 1 ∨ ((x &&& (2147483647 : Int32)) % (10 : Int32)) = 2 ∨ ((x &&& (2147483647 : Int32)) % (10 : Int32)) = 3 ∨ ((x &&& (2147483647 : Int32)) % (10 : Int32)) = 4 ∨ ((x &&& (2147483647 : Int32)) % (10 : Int32)) = 5 ∨ ((x &&& (2147483647 : Int32)) % (10 : Int32)) = 6 ∨ ((x &&& (2147483647 : Int32)) % (10 : Int32)) = 7 ∨ ((x &&& (2147483647 : Int32)) % (10 : Int32)) = 8 ∨ ((x &&& (2147483647 : Int32)) % (10 : Int32)) = 9 := by
  have m := c_mask x 2147483647 31 (by decide) (by decide)
  have q := (c_irem (x &&& (2147483647 : Int32)) 10 10 (by decide)).1 (by omega)
  have e0 : (0 : Int32).toInt = 0 := by decide
  have e1 : (1 : Int32).toInt = 1 := by decide
  have e2 : (2 : Int32).toInt = 2 := by decide
  have e3 : (3 : Int32).toInt = 3 := by decide
  have e4 : (4 : Int32).toInt = 4 := by decide
  have e5 : (5 : Int32).toInt = 5 := by decide
  have e6 : (6 : Int32).toInt = 6 := by decide
  have e7 : (7 : Int32).toInt = 7 := by decide
  have e8 : (8 : Int32).toInt = 8 := by decide
  have e9 : (9 : Int32).toInt = 9 := by decide
  simp only [← Int32.toInt_inj]
  omega
theorem J69_0_0 {vmV : Vm} (hw : own_tb a0 Z) (X0 : Stand pP lL eE room_1 (sS.setVm vmV) mM args below meth cC T0 locs 1 6) (hx : pP.tables.exec = Jvm.exec) (hZ : Z.Warmed39 (sS.setVm vmV).vm) (hby : cC.code = code) (hml : cC.maxLocals = 8) (hown : (sS.setVm vmV).vm.findClass "com/example/slotwright/slotwright/model/LinkTypeOfKeyPinLaw" = some mM.cls) (hlk : meth.locks = false) (hret : meth.sig.returnType = ret) {kV : Nat} (hS : sS.Since vmV kV) (hk : kV ≤ h0.size) (e0 : T0.heap = h0) (N0 : Fr n0 locs) (u0 : Int32) (u1 : Int32) (u2 : Int32) (mo : Int32) (kk : Int32) (xc : Int32) (tt : Addr) (kt : ClassId) (cs : Int32) (a1 : Addr) (a2 : Addr) (a3 : Addr) (t : Addr) (cl : Cell) (y1 : Addr) (y2 : Addr) (y3 : Addr) (A_tt : Arv Z h0 tt kt .char 6 [.int 98, .int 101, .int 102, .int 111, .int 114, .int 101] (.int 0)) (g_tt : n0 ≤ tt) (Zn : n0 ≤ h0.size) (O : Old Z n0 h0) (S_cs : Sta Z Z.heap "java/lang/String" "COMPACT_STRINGS" "Z" (.int cs)) (hcs : ¬ cs = (0 : Int32)) (hcw : Jvm.Lit.compactW.before a0 Z = true) (hh39 : Jvm.Lit.constHeld Z "com/example/slotwright/slotwright/model/LinkTypeOfKeyPinLaw" 39) (hh49 : Jvm.Lit.constHeld Z "com/example/slotwright/slotwright/model/LinkTypeOfKeyPinLaw" 49) (hh54 : Jvm.Lit.constHeld Z "com/example/slotwright/slotwright/model/LinkTypeOfKeyPinLaw" 54) (hh7 : Jvm.Lit.constHeld Z "java/lang/String" 7) (S_BEFORE : Sta Z Z.heap "com/example/slotwright/slotwright/model/LinkType" "BEFORE" "Lcom/example/slotwright/slotwright/model/LinkType;" (.ref a1)) (S_MEETS : Sta Z Z.heap "com/example/slotwright/slotwright/model/LinkType" "MEETS" "Lcom/example/slotwright/slotwright/model/LinkType;" (.ref a2)) (S_CONCURRENT : Sta Z Z.heap "com/example/slotwright/slotwright/model/LinkType" "CONCURRENT" "Lcom/example/slotwright/slotwright/model/LinkType;" (.ref a3)) (S_V : Sta Z Z.heap "com/example/slotwright/slotwright/model/LinkType" "$VALUES" "[Lcom/example/slotwright/slotwright/model/LinkType;" (.ref t)) (Ar : Arr Z Z.heap t cl (.object "com/example/slotwright/slotwright/model/LinkType")) (Ex : Exa Z Z.heap t "[Lcom/example/slotwright/slotwright/model/LinkType;") (FC : FitC Z cl) (sz : cl.slots.size = (3 : Int32).toNatClampNeg) (el0 : cl.slots[(0 : Int32).toNatClampNeg]? = some (.ref a1)) (el1 : cl.slots[(1 : Int32).toNatClampNeg]? = some (.ref a2)) (el2 : cl.slots[(2 : Int32).toNatClampNeg]? = some (.ref a3)) (Fk1 : Fld Z Z.heap a1 "com/example/slotwright/slotwright/model/LinkType" "key" "Ljava/lang/String;" (.ref y1)) (Fk2 : Fld Z Z.heap a2 "com/example/slotwright/slotwright/model/LinkType" "key" "Ljava/lang/String;" (.ref y2)) (Fk3 : Fld Z Z.heap a3 "com/example/slotwright/slotwright/model/LinkType" "key" "Ljava/lang/String;" (.ref y3)) (SX1 : StrX Z Z.heap y1 bB) (SX2 : StrX Z Z.heap y2 bM) (SX3 : StrX Z Z.heap y3 bC) (cxc : Ck xc) (hI : IB Z vmV []) :
    own_GoW pP eE below sS (QLaw n0) 24 4288 (T0.setTop (mkF mM 69 #[.val (.int u0), .val (.int u1), .val (.int u2), .val (.int mo), .val (.int kk), .val (.int xc), .unset, .val (.ref tt)] [.int xc, .int 0, .ref tt])) := by
  obtain ⟨cl373, Ar373, q373, S373, Nn373, H373, G373⟩ := id A_tt
  obtain ⟨T374, h374, X374, e374, W374, st374⟩ := stC X0 hx hZ e0 Ar373 (j := (0 : Int32)) (inb_of S373 ⟨by decide, by decide⟩) (g := (mkF mM 69 #[.val (.int u0), .val (.int u1), .val (.int u2), .val (.int mo), .val (.int kk), .val (.int xc), .unset, .val (.ref tt)] [.int xc, .int 0, .ref tt])) rfl rfl (hb hby at_69)
  have N374 := Fr.snoc X374 N0 g_tt
  have hk := Nat.le_trans hk (Keep.of_wr W374).1
  have O := O.wr W374 g_tt
  have Zn := Nat.le_trans Zn (Keep.of_wr W374).1
  have A_tt : Arv Z h374 tt kt .char 6 [(.int (nar .char xc)), .int 101, .int 102, .int 111, .int 114, .int 101] (.int 0) := Arv.set Ar373 q373 S373 Nn373 H373 G373 (fits_nar_char _) W374 0 rfl (Nat.le_of_ble_eq_true rfl)
  refine own_kW T374 70 [] st374 ?_
  rw [show nar .char xc = xc from cxc.1] at A_tt
  obtain ⟨T375, h375, X375, e375, E375, A375, D375, -, st375⟩ := newO X374 hx hZ hown (ow hw 1 rfl) (ow hw 2 rfl) (ow hw 3 rfl) e374 (g := (mkF mM 70 #[.val (.int u0), .val (.int u1), .val (.int u2), .val (.int mo), .val (.int kk), .val (.int xc), .unset, .val (.ref tt)] [])) rfl (hb hby at_70) (by decide) (by decide)
  obtain ⟨b375, g375⟩ : ∃ z, z = h374.size := ⟨_, rfl⟩
  rw [← g375] at A375 D375 st375
  have ne_tt_b375 : tt ≠ b375 := Nat.ne_of_lt (Nat.lt_of_lt_of_le A_tt.lt (Nat.le_of_eq g375.symm))
  have g_b375 : n0 ≤ b375 := Nat.le_trans Zn (Nat.le_of_eq g375.symm)
  have O := O.ext E375
  have A_tt := A_tt.ext E375
  have hk := Nat.le_trans hk E375.1
  have Zn := Nat.le_trans Zn E375.1
  have E_b375 := A375
  have F_b375_coder : Fld Z h375 b375 "java/lang/String" "coder" "B" (.int 0) := D375 (Or.inr (ow hw 32 rfl)) (ty := .byte) (by decide)
  have F_b375_value : Fld Z h375 b375 "java/lang/String" "value" "[B" .null := D375 (Or.inr (ow hw 34 rfl)) (ty := (.array .byte)) (by decide)
  refine own_kW T375 73 [.ref b375] st375 ?_
  refine o_dupW 74 X375 hx (hb hby at_73) rfl rfl ?_
  refine o_aloadW 76 X375 hx (hb hby at_74) rfl rfl rfl ?_
  obtain ⟨_, _, ⟨T376, L376, k376, n376⟩, -, X376, ⟨Lc376, hQ376, l376, y376, z376⟩, st376⟩ := X375.specialBack hx (y := yn9) rfl hown (mvT hZ (ow hw 9 rfl)) (mvT hZ (ow hw 10 rfl)) (mvT hZ (ow hw 11 rfl)) (by decide) (backOf (W := 1) (rmS1_6 lL Z a0 hw [] b375 tt kt cs (xc) ((101 : Int32)) ((102 : Int32)) ((111 : Int32)) ((114 : Int32)) ((101 : Int32)) h375 n0 g_b375 E_b375 F_b375_value F_b375_coder A_tt ne_tt_b375 O Zn S_cs hcs cxc (⟨by decide, by decide, by decide⟩ : Ck _) (⟨by decide, by decide, by decide⟩ : Ck _) (⟨by decide, by decide, by decide⟩ : Ck _) (⟨by decide, by decide, by decide⟩ : Ck _) (⟨by decide, by decide, by decide⟩ : Ck _)) hZ (ow hw 11 rfl) (ow hw 3 rfl) (by decide) (by decide)) (g := (mkF mM 76 #[.val (.int u0), .val (.int u1), .val (.int u2), .val (.int mo), .val (.int kk), .val (.int xc), .unset, .val (.ref tt)] [.ref tt, .ref b375, .ref b375])) rfl (by rw [hml]; rfl) (Steps.refl _) (a := b375) (argsL := [.ref tt]) (rest := [.ref b375]) (lenOf pd__28_5bC_29V rfl) rfl (by show 2 * 0 + _ ≤ _; exact Nat.le_of_eq rfl) (hb hby at_76) (fun _ _ => ⟨rfl, e375, (by decide : 2 + 1 ≤ _), (by decide : 10 + 6 ≤ _)⟩)
  dsimp only [Pt.U, Pt.locs, Pt.cells, Pt.slots] at X376 l376 y376 z376 st376 hQ376
  subst l376 y376 z376
  obtain ⟨d376, k376', rfl, N376q, K376, str376, ge376⟩ := hQ376
  have N376 := Fr.app N374 N376q
  have e376 : T376.heap = T376.heap := rfl
  refine own_kW T376 79 [.ref b375] (fun t_ k_ => st376.trans k_) ?_
  have E_b375 := E_b375.keep K376
  have A_tt := A_tt.keep K376 (ninS ne_tt_b375 nin0)
  have hk := Nat.le_trans hk K376.1
  have O := O.keep K376 (allS g_b375 all0)
  have Zn := Nat.le_trans Zn K376.1
  let Lv377 : Array Slot := #[.val (.int u0), .val (.int u1), .val (.int u2), .val (.int mo), .val (.int kk), .val (.int xc), .val (.ref b375), .val (.ref tt)]
  refine own_stW (A := T376.setTop (mkF mM 81 Lv377 [])) (fun t_ k_ => XS.astore X376.here hx rfl (hb hby at_79) rfl rfl (l' := Lv377) rfl k_) ?_
  refine o_gotoW 150 X376 hx (hb hby at_81) (by decide) ?_
  exact J150t hw (X376.more (by decide) (by decide)) hx hZ hby hml hown hlk hret hS hk e376 N376 u0 u1 u2 mo kk xc b375 [(((xc).toInt8.toInt32)).toInt8.toInt32, ((((101 : Int32)).toInt8.toInt32)).toInt8.toInt32, ((((102 : Int32)).toInt8.toInt32)).toInt8.toInt32, ((((111 : Int32)).toInt8.toInt32)).toInt8.toInt32, ((((114 : Int32)).toInt8.toInt32)).toInt8.toInt32, ((((101 : Int32)).toInt8.toInt32)).toInt8.toInt32] tt cs a1 a2 a3 t cl y1 y2 y3 (⟨_, _, _, str376, rfl⟩ : StrX _ _ _ [(((xc).toInt8.toInt32)).toInt8.toInt32, ((((101 : Int32)).toInt8.toInt32)).toInt8.toInt32, ((((102 : Int32)).toInt8.toInt32)).toInt8.toInt32, ((((111 : Int32)).toInt8.toInt32)).toInt8.toInt32, ((((114 : Int32)).toInt8.toInt32)).toInt8.toInt32, ((((101 : Int32)).toInt8.toInt32)).toInt8.toInt32]) O S_cs hcs hcw hh39 hh49 hh54 hh7 S_BEFORE S_MEETS S_CONCURRENT S_V Ar Ex FC sz el0 el1 el2 Fk1 Fk2 Fk3 SX1 SX2 SX3 (own_IBw hI (fun _ q => by cases q))
theorem J69_0_1 {vmV : Vm} (hw : own_tb a0 Z) (X0 : Stand pP lL eE room_1 (sS.setVm vmV) mM args below meth cC T0 locs 1 6) (hx : pP.tables.exec = Jvm.exec) (hZ : Z.Warmed39 (sS.setVm vmV).vm) (hby : cC.code = code) (hml : cC.maxLocals = 8) (hown : (sS.setVm vmV).vm.findClass "com/example/slotwright/slotwright/model/LinkTypeOfKeyPinLaw" = some mM.cls) (hlk : meth.locks = false) (hret : meth.sig.returnType = ret) {kV : Nat} (hS : sS.Since vmV kV) (hk : kV ≤ h0.size) (e0 : T0.heap = h0) (N0 : Fr n0 locs) (u0 : Int32) (u1 : Int32) (u2 : Int32) (mo : Int32) (kk : Int32) (xc : Int32) (tt : Addr) (kt : ClassId) (cs : Int32) (a1 : Addr) (a2 : Addr) (a3 : Addr) (t : Addr) (cl : Cell) (y1 : Addr) (y2 : Addr) (y3 : Addr) (A_tt : Arv Z h0 tt kt .char 6 [.int 98, .int 101, .int 102, .int 111, .int 114, .int 101] (.int 0)) (g_tt : n0 ≤ tt) (Zn : n0 ≤ h0.size) (O : Old Z n0 h0) (S_cs : Sta Z Z.heap "java/lang/String" "COMPACT_STRINGS" "Z" (.int cs)) (hcs : ¬ cs = (0 : Int32)) (hcw : Jvm.Lit.compactW.before a0 Z = true) (hh39 : Jvm.Lit.constHeld Z "com/example/slotwright/slotwright/model/LinkTypeOfKeyPinLaw" 39) (hh49 : Jvm.Lit.constHeld Z "com/example/slotwright/slotwright/model/LinkTypeOfKeyPinLaw" 49) (hh54 : Jvm.Lit.constHeld Z "com/example/slotwright/slotwright/model/LinkTypeOfKeyPinLaw" 54) (hh7 : Jvm.Lit.constHeld Z "java/lang/String" 7) (S_BEFORE : Sta Z Z.heap "com/example/slotwright/slotwright/model/LinkType" "BEFORE" "Lcom/example/slotwright/slotwright/model/LinkType;" (.ref a1)) (S_MEETS : Sta Z Z.heap "com/example/slotwright/slotwright/model/LinkType" "MEETS" "Lcom/example/slotwright/slotwright/model/LinkType;" (.ref a2)) (S_CONCURRENT : Sta Z Z.heap "com/example/slotwright/slotwright/model/LinkType" "CONCURRENT" "Lcom/example/slotwright/slotwright/model/LinkType;" (.ref a3)) (S_V : Sta Z Z.heap "com/example/slotwright/slotwright/model/LinkType" "$VALUES" "[Lcom/example/slotwright/slotwright/model/LinkType;" (.ref t)) (Ar : Arr Z Z.heap t cl (.object "com/example/slotwright/slotwright/model/LinkType")) (Ex : Exa Z Z.heap t "[Lcom/example/slotwright/slotwright/model/LinkType;") (FC : FitC Z cl) (sz : cl.slots.size = (3 : Int32).toNatClampNeg) (el0 : cl.slots[(0 : Int32).toNatClampNeg]? = some (.ref a1)) (el1 : cl.slots[(1 : Int32).toNatClampNeg]? = some (.ref a2)) (el2 : cl.slots[(2 : Int32).toNatClampNeg]? = some (.ref a3)) (Fk1 : Fld Z Z.heap a1 "com/example/slotwright/slotwright/model/LinkType" "key" "Ljava/lang/String;" (.ref y1)) (Fk2 : Fld Z Z.heap a2 "com/example/slotwright/slotwright/model/LinkType" "key" "Ljava/lang/String;" (.ref y2)) (Fk3 : Fld Z Z.heap a3 "com/example/slotwright/slotwright/model/LinkType" "key" "Ljava/lang/String;" (.ref y3)) (SX1 : StrX Z Z.heap y1 bB) (SX2 : StrX Z Z.heap y2 bM) (SX3 : StrX Z Z.heap y3 bC) (cxc : Ck xc) (hI : IB Z vmV []) :
    own_GoW pP eE below sS (QLaw n0) 24 4288 (T0.setTop (mkF mM 69 #[.val (.int u0), .val (.int u1), .val (.int u2), .val (.int mo), .val (.int kk), .val (.int xc), .unset, .val (.ref tt)] [.int xc, .int 1, .ref tt])) := by
  obtain ⟨cl378, Ar378, q378, S378, Nn378, H378, G378⟩ := id A_tt
  obtain ⟨T379, h379, X379, e379, W379, st379⟩ := stC X0 hx hZ e0 Ar378 (j := (1 : Int32)) (inb_of S378 ⟨by decide, by decide⟩) (g := (mkF mM 69 #[.val (.int u0), .val (.int u1), .val (.int u2), .val (.int mo), .val (.int kk), .val (.int xc), .unset, .val (.ref tt)] [.int xc, .int 1, .ref tt])) rfl rfl (hb hby at_69)
  have N379 := Fr.snoc X379 N0 g_tt
  have hk := Nat.le_trans hk (Keep.of_wr W379).1
  have O := O.wr W379 g_tt
  have Zn := Nat.le_trans Zn (Keep.of_wr W379).1
  have A_tt : Arv Z h379 tt kt .char 6 [.int 98, (.int (nar .char xc)), .int 102, .int 111, .int 114, .int 101] (.int 0) := Arv.set Ar378 q378 S378 Nn378 H378 G378 (fits_nar_char _) W379 1 rfl (Nat.le_of_ble_eq_true rfl)
  refine own_kW T379 70 [] st379 ?_
  rw [show nar .char xc = xc from cxc.1] at A_tt
  obtain ⟨T380, h380, X380, e380, E380, A380, D380, -, st380⟩ := newO X379 hx hZ hown (ow hw 1 rfl) (ow hw 2 rfl) (ow hw 3 rfl) e379 (g := (mkF mM 70 #[.val (.int u0), .val (.int u1), .val (.int u2), .val (.int mo), .val (.int kk), .val (.int xc), .unset, .val (.ref tt)] [])) rfl (hb hby at_70) (by decide) (by decide)
  obtain ⟨b380, g380⟩ : ∃ z, z = h379.size := ⟨_, rfl⟩
  rw [← g380] at A380 D380 st380
  have ne_tt_b380 : tt ≠ b380 := Nat.ne_of_lt (Nat.lt_of_lt_of_le A_tt.lt (Nat.le_of_eq g380.symm))
  have g_b380 : n0 ≤ b380 := Nat.le_trans Zn (Nat.le_of_eq g380.symm)
  have O := O.ext E380
  have A_tt := A_tt.ext E380
  have hk := Nat.le_trans hk E380.1
  have Zn := Nat.le_trans Zn E380.1
  have E_b380 := A380
  have F_b380_coder : Fld Z h380 b380 "java/lang/String" "coder" "B" (.int 0) := D380 (Or.inr (ow hw 32 rfl)) (ty := .byte) (by decide)
  have F_b380_value : Fld Z h380 b380 "java/lang/String" "value" "[B" .null := D380 (Or.inr (ow hw 34 rfl)) (ty := (.array .byte)) (by decide)
  refine own_kW T380 73 [.ref b380] st380 ?_
  refine o_dupW 74 X380 hx (hb hby at_73) rfl rfl ?_
  refine o_aloadW 76 X380 hx (hb hby at_74) rfl rfl rfl ?_
  obtain ⟨_, _, ⟨T381, L381, k381, n381⟩, -, X381, ⟨Lc381, hQ381, l381, y381, z381⟩, st381⟩ := X380.specialBack hx (y := yn9) rfl hown (mvT hZ (ow hw 9 rfl)) (mvT hZ (ow hw 10 rfl)) (mvT hZ (ow hw 11 rfl)) (by decide) (backOf (W := 1) (rmS1_6 lL Z a0 hw [] b380 tt kt cs ((98 : Int32)) (xc) ((102 : Int32)) ((111 : Int32)) ((114 : Int32)) ((101 : Int32)) h380 n0 g_b380 E_b380 F_b380_value F_b380_coder A_tt ne_tt_b380 O Zn S_cs hcs (⟨by decide, by decide, by decide⟩ : Ck _) cxc (⟨by decide, by decide, by decide⟩ : Ck _) (⟨by decide, by decide, by decide⟩ : Ck _) (⟨by decide, by decide, by decide⟩ : Ck _) (⟨by decide, by decide, by decide⟩ : Ck _)) hZ (ow hw 11 rfl) (ow hw 3 rfl) (by decide) (by decide)) (g := (mkF mM 76 #[.val (.int u0), .val (.int u1), .val (.int u2), .val (.int mo), .val (.int kk), .val (.int xc), .unset, .val (.ref tt)] [.ref tt, .ref b380, .ref b380])) rfl (by rw [hml]; rfl) (Steps.refl _) (a := b380) (argsL := [.ref tt]) (rest := [.ref b380]) (lenOf pd__28_5bC_29V rfl) rfl (by show 2 * 0 + _ ≤ _; exact Nat.le_of_eq rfl) (hb hby at_76) (fun _ _ => ⟨rfl, e380, (by decide : 2 + 1 ≤ _), (by decide : 10 + 6 ≤ _)⟩)
  dsimp only [Pt.U, Pt.locs, Pt.cells, Pt.slots] at X381 l381 y381 z381 st381 hQ381
  subst l381 y381 z381
  obtain ⟨d381, k381', rfl, N381q, K381, str381, ge381⟩ := hQ381
  have N381 := Fr.app N379 N381q
  have e381 : T381.heap = T381.heap := rfl
  refine own_kW T381 79 [.ref b380] (fun t_ k_ => st381.trans k_) ?_
  have E_b380 := E_b380.keep K381
  have A_tt := A_tt.keep K381 (ninS ne_tt_b380 nin0)
  have hk := Nat.le_trans hk K381.1
  have O := O.keep K381 (allS g_b380 all0)
  have Zn := Nat.le_trans Zn K381.1
  let Lv382 : Array Slot := #[.val (.int u0), .val (.int u1), .val (.int u2), .val (.int mo), .val (.int kk), .val (.int xc), .val (.ref b380), .val (.ref tt)]
  refine own_stW (A := T381.setTop (mkF mM 81 Lv382 [])) (fun t_ k_ => XS.astore X381.here hx rfl (hb hby at_79) rfl rfl (l' := Lv382) rfl k_) ?_
  refine o_gotoW 150 X381 hx (hb hby at_81) (by decide) ?_
  exact J150t hw (X381.more (by decide) (by decide)) hx hZ hby hml hown hlk hret hS hk e381 N381 u0 u1 u2 mo kk xc b380 [((((98 : Int32)).toInt8.toInt32)).toInt8.toInt32, (((xc).toInt8.toInt32)).toInt8.toInt32, ((((102 : Int32)).toInt8.toInt32)).toInt8.toInt32, ((((111 : Int32)).toInt8.toInt32)).toInt8.toInt32, ((((114 : Int32)).toInt8.toInt32)).toInt8.toInt32, ((((101 : Int32)).toInt8.toInt32)).toInt8.toInt32] tt cs a1 a2 a3 t cl y1 y2 y3 (⟨_, _, _, str381, rfl⟩ : StrX _ _ _ [((((98 : Int32)).toInt8.toInt32)).toInt8.toInt32, (((xc).toInt8.toInt32)).toInt8.toInt32, ((((102 : Int32)).toInt8.toInt32)).toInt8.toInt32, ((((111 : Int32)).toInt8.toInt32)).toInt8.toInt32, ((((114 : Int32)).toInt8.toInt32)).toInt8.toInt32, ((((101 : Int32)).toInt8.toInt32)).toInt8.toInt32]) O S_cs hcs hcw hh39 hh49 hh54 hh7 S_BEFORE S_MEETS S_CONCURRENT S_V Ar Ex FC sz el0 el1 el2 Fk1 Fk2 Fk3 SX1 SX2 SX3 (own_IBw hI (fun _ q => by cases q))
theorem J69_0_2 {vmV : Vm} (hw : own_tb a0 Z) (X0 : Stand pP lL eE room_1 (sS.setVm vmV) mM args below meth cC T0 locs 1 6) (hx : pP.tables.exec = Jvm.exec) (hZ : Z.Warmed39 (sS.setVm vmV).vm) (hby : cC.code = code) (hml : cC.maxLocals = 8) (hown : (sS.setVm vmV).vm.findClass "com/example/slotwright/slotwright/model/LinkTypeOfKeyPinLaw" = some mM.cls) (hlk : meth.locks = false) (hret : meth.sig.returnType = ret) {kV : Nat} (hS : sS.Since vmV kV) (hk : kV ≤ h0.size) (e0 : T0.heap = h0) (N0 : Fr n0 locs) (u0 : Int32) (u1 : Int32) (u2 : Int32) (mo : Int32) (kk : Int32) (xc : Int32) (tt : Addr) (kt : ClassId) (cs : Int32) (a1 : Addr) (a2 : Addr) (a3 : Addr) (t : Addr) (cl : Cell) (y1 : Addr) (y2 : Addr) (y3 : Addr) (A_tt : Arv Z h0 tt kt .char 6 [.int 98, .int 101, .int 102, .int 111, .int 114, .int 101] (.int 0)) (g_tt : n0 ≤ tt) (Zn : n0 ≤ h0.size) (O : Old Z n0 h0) (S_cs : Sta Z Z.heap "java/lang/String" "COMPACT_STRINGS" "Z" (.int cs)) (hcs : ¬ cs = (0 : Int32)) (hcw : Jvm.Lit.compactW.before a0 Z = true) (hh39 : Jvm.Lit.constHeld Z "com/example/slotwright/slotwright/model/LinkTypeOfKeyPinLaw" 39) (hh49 : Jvm.Lit.constHeld Z "com/example/slotwright/slotwright/model/LinkTypeOfKeyPinLaw" 49) (hh54 : Jvm.Lit.constHeld Z "com/example/slotwright/slotwright/model/LinkTypeOfKeyPinLaw" 54) (hh7 : Jvm.Lit.constHeld Z "java/lang/String" 7) (S_BEFORE : Sta Z Z.heap "com/example/slotwright/slotwright/model/LinkType" "BEFORE" "Lcom/example/slotwright/slotwright/model/LinkType;" (.ref a1)) (S_MEETS : Sta Z Z.heap "com/example/slotwright/slotwright/model/LinkType" "MEETS" "Lcom/example/slotwright/slotwright/model/LinkType;" (.ref a2)) (S_CONCURRENT : Sta Z Z.heap "com/example/slotwright/slotwright/model/LinkType" "CONCURRENT" "Lcom/example/slotwright/slotwright/model/LinkType;" (.ref a3)) (S_V : Sta Z Z.heap "com/example/slotwright/slotwright/model/LinkType" "$VALUES" "[Lcom/example/slotwright/slotwright/model/LinkType;" (.ref t)) (Ar : Arr Z Z.heap t cl (.object "com/example/slotwright/slotwright/model/LinkType")) (Ex : Exa Z Z.heap t "[Lcom/example/slotwright/slotwright/model/LinkType;") (FC : FitC Z cl) (sz : cl.slots.size = (3 : Int32).toNatClampNeg) (el0 : cl.slots[(0 : Int32).toNatClampNeg]? = some (.ref a1)) (el1 : cl.slots[(1 : Int32).toNatClampNeg]? = some (.ref a2)) (el2 : cl.slots[(2 : Int32).toNatClampNeg]? = some (.ref a3)) (Fk1 : Fld Z Z.heap a1 "com/example/slotwright/slotwright/model/LinkType" "key" "Ljava/lang/String;" (.ref y1)) (Fk2 : Fld Z Z.heap a2 "com/example/slotwright/slotwright/model/LinkType" "key" "Ljava/lang/String;" (.ref y2)) (Fk3 : Fld Z Z.heap a3 "com/example/slotwright/slotwright/model/LinkType" "key" "Ljava/lang/String;" (.ref y3)) (SX1 : StrX Z Z.heap y1 bB) (SX2 : StrX Z Z.heap y2 bM) (SX3 : StrX Z Z.heap y3 bC) (cxc : Ck xc) (hI : IB Z vmV []) :
    own_GoW pP eE below sS (QLaw n0) 24 4288 (T0.setTop (mkF mM 69 #[.val (.int u0), .val (.int u1), .val (.int u2), .val (.int mo), .val (.int kk), .val (.int xc), .unset, .val (.ref tt)] [.int xc, .int 2, .ref tt])) := by
  obtain ⟨cl383, Ar383, q383, S383, Nn383, H383, G383⟩ := id A_tt
  obtain ⟨T384, h384, X384, e384, W384, st384⟩ := stC X0 hx hZ e0 Ar383 (j := (2 : Int32)) (inb_of S383 ⟨by decide, by decide⟩) (g := (mkF mM 69 #[.val (.int u0), .val (.int u1), .val (.int u2), .val (.int mo), .val (.int kk), .val (.int xc), .unset, .val (.ref tt)] [.int xc, .int 2, .ref tt])) rfl rfl (hb hby at_69)
  have N384 := Fr.snoc X384 N0 g_tt
  have hk := Nat.le_trans hk (Keep.of_wr W384).1
  have O := O.wr W384 g_tt
  have Zn := Nat.le_trans Zn (Keep.of_wr W384).1
  have A_tt : Arv Z h384 tt kt .char 6 [.int 98, .int 101, (.int (nar .char xc)), .int 111, .int 114, .int 101] (.int 0) := Arv.set Ar383 q383 S383 Nn383 H383 G383 (fits_nar_char _) W384 2 rfl (Nat.le_of_ble_eq_true rfl)
  refine own_kW T384 70 [] st384 ?_
  rw [show nar .char xc = xc from cxc.1] at A_tt
  obtain ⟨T385, h385, X385, e385, E385, A385, D385, -, st385⟩ := newO X384 hx hZ hown (ow hw 1 rfl) (ow hw 2 rfl) (ow hw 3 rfl) e384 (g := (mkF mM 70 #[.val (.int u0), .val (.int u1), .val (.int u2), .val (.int mo), .val (.int kk), .val (.int xc), .unset, .val (.ref tt)] [])) rfl (hb hby at_70) (by decide) (by decide)
  obtain ⟨b385, g385⟩ : ∃ z, z = h384.size := ⟨_, rfl⟩
  rw [← g385] at A385 D385 st385
  have ne_tt_b385 : tt ≠ b385 := Nat.ne_of_lt (Nat.lt_of_lt_of_le A_tt.lt (Nat.le_of_eq g385.symm))
  have g_b385 : n0 ≤ b385 := Nat.le_trans Zn (Nat.le_of_eq g385.symm)
  have O := O.ext E385
  have A_tt := A_tt.ext E385
  have hk := Nat.le_trans hk E385.1
  have Zn := Nat.le_trans Zn E385.1
  have E_b385 := A385
  have F_b385_coder : Fld Z h385 b385 "java/lang/String" "coder" "B" (.int 0) := D385 (Or.inr (ow hw 32 rfl)) (ty := .byte) (by decide)
  have F_b385_value : Fld Z h385 b385 "java/lang/String" "value" "[B" .null := D385 (Or.inr (ow hw 34 rfl)) (ty := (.array .byte)) (by decide)
  refine own_kW T385 73 [.ref b385] st385 ?_
  refine o_dupW 74 X385 hx (hb hby at_73) rfl rfl ?_
  refine o_aloadW 76 X385 hx (hb hby at_74) rfl rfl rfl ?_
  obtain ⟨_, _, ⟨T386, L386, k386, n386⟩, -, X386, ⟨Lc386, hQ386, l386, y386, z386⟩, st386⟩ := X385.specialBack hx (y := yn9) rfl hown (mvT hZ (ow hw 9 rfl)) (mvT hZ (ow hw 10 rfl)) (mvT hZ (ow hw 11 rfl)) (by decide) (backOf (W := 1) (rmS1_6 lL Z a0 hw [] b385 tt kt cs ((98 : Int32)) ((101 : Int32)) (xc) ((111 : Int32)) ((114 : Int32)) ((101 : Int32)) h385 n0 g_b385 E_b385 F_b385_value F_b385_coder A_tt ne_tt_b385 O Zn S_cs hcs (⟨by decide, by decide, by decide⟩ : Ck _) (⟨by decide, by decide, by decide⟩ : Ck _) cxc (⟨by decide, by decide, by decide⟩ : Ck _) (⟨by decide, by decide, by decide⟩ : Ck _) (⟨by decide, by decide, by decide⟩ : Ck _)) hZ (ow hw 11 rfl) (ow hw 3 rfl) (by decide) (by decide)) (g := (mkF mM 76 #[.val (.int u0), .val (.int u1), .val (.int u2), .val (.int mo), .val (.int kk), .val (.int xc), .unset, .val (.ref tt)] [.ref tt, .ref b385, .ref b385])) rfl (by rw [hml]; rfl) (Steps.refl _) (a := b385) (argsL := [.ref tt]) (rest := [.ref b385]) (lenOf pd__28_5bC_29V rfl) rfl (by show 2 * 0 + _ ≤ _; exact Nat.le_of_eq rfl) (hb hby at_76) (fun _ _ => ⟨rfl, e385, (by decide : 2 + 1 ≤ _), (by decide : 10 + 6 ≤ _)⟩)
  dsimp only [Pt.U, Pt.locs, Pt.cells, Pt.slots] at X386 l386 y386 z386 st386 hQ386
  subst l386 y386 z386
  obtain ⟨d386, k386', rfl, N386q, K386, str386, ge386⟩ := hQ386
  have N386 := Fr.app N384 N386q
  have e386 : T386.heap = T386.heap := rfl
  refine own_kW T386 79 [.ref b385] (fun t_ k_ => st386.trans k_) ?_
  have E_b385 := E_b385.keep K386
  have A_tt := A_tt.keep K386 (ninS ne_tt_b385 nin0)
  have hk := Nat.le_trans hk K386.1
  have O := O.keep K386 (allS g_b385 all0)
  have Zn := Nat.le_trans Zn K386.1
  let Lv387 : Array Slot := #[.val (.int u0), .val (.int u1), .val (.int u2), .val (.int mo), .val (.int kk), .val (.int xc), .val (.ref b385), .val (.ref tt)]
  refine own_stW (A := T386.setTop (mkF mM 81 Lv387 [])) (fun t_ k_ => XS.astore X386.here hx rfl (hb hby at_79) rfl rfl (l' := Lv387) rfl k_) ?_
  refine o_gotoW 150 X386 hx (hb hby at_81) (by decide) ?_
  exact J150t hw (X386.more (by decide) (by decide)) hx hZ hby hml hown hlk hret hS hk e386 N386 u0 u1 u2 mo kk xc b385 [((((98 : Int32)).toInt8.toInt32)).toInt8.toInt32, ((((101 : Int32)).toInt8.toInt32)).toInt8.toInt32, (((xc).toInt8.toInt32)).toInt8.toInt32, ((((111 : Int32)).toInt8.toInt32)).toInt8.toInt32, ((((114 : Int32)).toInt8.toInt32)).toInt8.toInt32, ((((101 : Int32)).toInt8.toInt32)).toInt8.toInt32] tt cs a1 a2 a3 t cl y1 y2 y3 (⟨_, _, _, str386, rfl⟩ : StrX _ _ _ [((((98 : Int32)).toInt8.toInt32)).toInt8.toInt32, ((((101 : Int32)).toInt8.toInt32)).toInt8.toInt32, (((xc).toInt8.toInt32)).toInt8.toInt32, ((((111 : Int32)).toInt8.toInt32)).toInt8.toInt32, ((((114 : Int32)).toInt8.toInt32)).toInt8.toInt32, ((((101 : Int32)).toInt8.toInt32)).toInt8.toInt32]) O S_cs hcs hcw hh39 hh49 hh54 hh7 S_BEFORE S_MEETS S_CONCURRENT S_V Ar Ex FC sz el0 el1 el2 Fk1 Fk2 Fk3 SX1 SX2 SX3 (own_IBw hI (fun _ q => by cases q))
theorem J69_0_3 {vmV : Vm} (hw : own_tb a0 Z) (X0 : Stand pP lL eE room_1 (sS.setVm vmV) mM args below meth cC T0 locs 1 6) (hx : pP.tables.exec = Jvm.exec) (hZ : Z.Warmed39 (sS.setVm vmV).vm) (hby : cC.code = code) (hml : cC.maxLocals = 8) (hown : (sS.setVm vmV).vm.findClass "com/example/slotwright/slotwright/model/LinkTypeOfKeyPinLaw" = some mM.cls) (hlk : meth.locks = false) (hret : meth.sig.returnType = ret) {kV : Nat} (hS : sS.Since vmV kV) (hk : kV ≤ h0.size) (e0 : T0.heap = h0) (N0 : Fr n0 locs) (u0 : Int32) (u1 : Int32) (u2 : Int32) (mo : Int32) (kk : Int32) (xc : Int32) (tt : Addr) (kt : ClassId) (cs : Int32) (a1 : Addr) (a2 : Addr) (a3 : Addr) (t : Addr) (cl : Cell) (y1 : Addr) (y2 : Addr) (y3 : Addr) (A_tt : Arv Z h0 tt kt .char 6 [.int 98, .int 101, .int 102, .int 111, .int 114, .int 101] (.int 0)) (g_tt : n0 ≤ tt) (Zn : n0 ≤ h0.size) (O : Old Z n0 h0) (S_cs : Sta Z Z.heap "java/lang/String" "COMPACT_STRINGS" "Z" (.int cs)) (hcs : ¬ cs = (0 : Int32)) (hcw : Jvm.Lit.compactW.before a0 Z = true) (hh39 : Jvm.Lit.constHeld Z "com/example/slotwright/slotwright/model/LinkTypeOfKeyPinLaw" 39) (hh49 : Jvm.Lit.constHeld Z "com/example/slotwright/slotwright/model/LinkTypeOfKeyPinLaw" 49) (hh54 : Jvm.Lit.constHeld Z "com/example/slotwright/slotwright/model/LinkTypeOfKeyPinLaw" 54) (hh7 : Jvm.Lit.constHeld Z "java/lang/String" 7) (S_BEFORE : Sta Z Z.heap "com/example/slotwright/slotwright/model/LinkType" "BEFORE" "Lcom/example/slotwright/slotwright/model/LinkType;" (.ref a1)) (S_MEETS : Sta Z Z.heap "com/example/slotwright/slotwright/model/LinkType" "MEETS" "Lcom/example/slotwright/slotwright/model/LinkType;" (.ref a2)) (S_CONCURRENT : Sta Z Z.heap "com/example/slotwright/slotwright/model/LinkType" "CONCURRENT" "Lcom/example/slotwright/slotwright/model/LinkType;" (.ref a3)) (S_V : Sta Z Z.heap "com/example/slotwright/slotwright/model/LinkType" "$VALUES" "[Lcom/example/slotwright/slotwright/model/LinkType;" (.ref t)) (Ar : Arr Z Z.heap t cl (.object "com/example/slotwright/slotwright/model/LinkType")) (Ex : Exa Z Z.heap t "[Lcom/example/slotwright/slotwright/model/LinkType;") (FC : FitC Z cl) (sz : cl.slots.size = (3 : Int32).toNatClampNeg) (el0 : cl.slots[(0 : Int32).toNatClampNeg]? = some (.ref a1)) (el1 : cl.slots[(1 : Int32).toNatClampNeg]? = some (.ref a2)) (el2 : cl.slots[(2 : Int32).toNatClampNeg]? = some (.ref a3)) (Fk1 : Fld Z Z.heap a1 "com/example/slotwright/slotwright/model/LinkType" "key" "Ljava/lang/String;" (.ref y1)) (Fk2 : Fld Z Z.heap a2 "com/example/slotwright/slotwright/model/LinkType" "key" "Ljava/lang/String;" (.ref y2)) (Fk3 : Fld Z Z.heap a3 "com/example/slotwright/slotwright/model/LinkType" "key" "Ljava/lang/String;" (.ref y3)) (SX1 : StrX Z Z.heap y1 bB) (SX2 : StrX Z Z.heap y2 bM) (SX3 : StrX Z Z.heap y3 bC) (cxc : Ck xc) (hI : IB Z vmV []) :
    own_GoW pP eE below sS (QLaw n0) 24 4288 (T0.setTop (mkF mM 69 #[.val (.int u0), .val (.int u1), .val (.int u2), .val (.int mo), .val (.int kk), .val (.int xc), .unset, .val (.ref tt)] [.int xc, .int 3, .ref tt])) := by
  obtain ⟨cl388, Ar388, q388, S388, Nn388, H388, G388⟩ := id A_tt
  obtain ⟨T389, h389, X389, e389, W389, st389⟩ := stC X0 hx hZ e0 Ar388 (j := (3 : Int32)) (inb_of S388 ⟨by decide, by decide⟩) (g := (mkF mM 69 #[.val (.int u0), .val (.int u1), .val (.int u2), .val (.int mo), .val (.int kk), .val (.int xc), .unset, .val (.ref tt)] [.int xc, .int 3, .ref tt])) rfl rfl (hb hby at_69)
  have N389 := Fr.snoc X389 N0 g_tt
  have hk := Nat.le_trans hk (Keep.of_wr W389).1
  have O := O.wr W389 g_tt
  have Zn := Nat.le_trans Zn (Keep.of_wr W389).1
  have A_tt : Arv Z h389 tt kt .char 6 [.int 98, .int 101, .int 102, (.int (nar .char xc)), .int 114, .int 101] (.int 0) := Arv.set Ar388 q388 S388 Nn388 H388 G388 (fits_nar_char _) W389 3 rfl (Nat.le_of_ble_eq_true rfl)
  refine own_kW T389 70 [] st389 ?_
  rw [show nar .char xc = xc from cxc.1] at A_tt
  obtain ⟨T390, h390, X390, e390, E390, A390, D390, -, st390⟩ := newO X389 hx hZ hown (ow hw 1 rfl) (ow hw 2 rfl) (ow hw 3 rfl) e389 (g := (mkF mM 70 #[.val (.int u0), .val (.int u1), .val (.int u2), .val (.int mo), .val (.int kk), .val (.int xc), .unset, .val (.ref tt)] [])) rfl (hb hby at_70) (by decide) (by decide)
  obtain ⟨b390, g390⟩ : ∃ z, z = h389.size := ⟨_, rfl⟩
  rw [← g390] at A390 D390 st390
  have ne_tt_b390 : tt ≠ b390 := Nat.ne_of_lt (Nat.lt_of_lt_of_le A_tt.lt (Nat.le_of_eq g390.symm))
  have g_b390 : n0 ≤ b390 := Nat.le_trans Zn (Nat.le_of_eq g390.symm)
  have O := O.ext E390
  have A_tt := A_tt.ext E390
  have hk := Nat.le_trans hk E390.1
  have Zn := Nat.le_trans Zn E390.1
  have E_b390 := A390
  have F_b390_coder : Fld Z h390 b390 "java/lang/String" "coder" "B" (.int 0) := D390 (Or.inr (ow hw 32 rfl)) (ty := .byte) (by decide)
  have F_b390_value : Fld Z h390 b390 "java/lang/String" "value" "[B" .null := D390 (Or.inr (ow hw 34 rfl)) (ty := (.array .byte)) (by decide)
  refine own_kW T390 73 [.ref b390] st390 ?_
  refine o_dupW 74 X390 hx (hb hby at_73) rfl rfl ?_
  refine o_aloadW 76 X390 hx (hb hby at_74) rfl rfl rfl ?_
  obtain ⟨_, _, ⟨T391, L391, k391, n391⟩, -, X391, ⟨Lc391, hQ391, l391, y391, z391⟩, st391⟩ := X390.specialBack hx (y := yn9) rfl hown (mvT hZ (ow hw 9 rfl)) (mvT hZ (ow hw 10 rfl)) (mvT hZ (ow hw 11 rfl)) (by decide) (backOf (W := 1) (rmS1_6 lL Z a0 hw [] b390 tt kt cs ((98 : Int32)) ((101 : Int32)) ((102 : Int32)) (xc) ((114 : Int32)) ((101 : Int32)) h390 n0 g_b390 E_b390 F_b390_value F_b390_coder A_tt ne_tt_b390 O Zn S_cs hcs (⟨by decide, by decide, by decide⟩ : Ck _) (⟨by decide, by decide, by decide⟩ : Ck _) (⟨by decide, by decide, by decide⟩ : Ck _) cxc (⟨by decide, by decide, by decide⟩ : Ck _) (⟨by decide, by decide, by decide⟩ : Ck _)) hZ (ow hw 11 rfl) (ow hw 3 rfl) (by decide) (by decide)) (g := (mkF mM 76 #[.val (.int u0), .val (.int u1), .val (.int u2), .val (.int mo), .val (.int kk), .val (.int xc), .unset, .val (.ref tt)] [.ref tt, .ref b390, .ref b390])) rfl (by rw [hml]; rfl) (Steps.refl _) (a := b390) (argsL := [.ref tt]) (rest := [.ref b390]) (lenOf pd__28_5bC_29V rfl) rfl (by show 2 * 0 + _ ≤ _; exact Nat.le_of_eq rfl) (hb hby at_76) (fun _ _ => ⟨rfl, e390, (by decide : 2 + 1 ≤ _), (by decide : 10 + 6 ≤ _)⟩)
  dsimp only [Pt.U, Pt.locs, Pt.cells, Pt.slots] at X391 l391 y391 z391 st391 hQ391
  subst l391 y391 z391
  obtain ⟨d391, k391', rfl, N391q, K391, str391, ge391⟩ := hQ391
  have N391 := Fr.app N389 N391q
  have e391 : T391.heap = T391.heap := rfl
  refine own_kW T391 79 [.ref b390] (fun t_ k_ => st391.trans k_) ?_
  have E_b390 := E_b390.keep K391
  have A_tt := A_tt.keep K391 (ninS ne_tt_b390 nin0)
  have hk := Nat.le_trans hk K391.1
  have O := O.keep K391 (allS g_b390 all0)
  have Zn := Nat.le_trans Zn K391.1
  let Lv392 : Array Slot := #[.val (.int u0), .val (.int u1), .val (.int u2), .val (.int mo), .val (.int kk), .val (.int xc), .val (.ref b390), .val (.ref tt)]
  refine own_stW (A := T391.setTop (mkF mM 81 Lv392 [])) (fun t_ k_ => XS.astore X391.here hx rfl (hb hby at_79) rfl rfl (l' := Lv392) rfl k_) ?_
  refine o_gotoW 150 X391 hx (hb hby at_81) (by decide) ?_
  exact J150t hw (X391.more (by decide) (by decide)) hx hZ hby hml hown hlk hret hS hk e391 N391 u0 u1 u2 mo kk xc b390 [((((98 : Int32)).toInt8.toInt32)).toInt8.toInt32, ((((101 : Int32)).toInt8.toInt32)).toInt8.toInt32, ((((102 : Int32)).toInt8.toInt32)).toInt8.toInt32, (((xc).toInt8.toInt32)).toInt8.toInt32, ((((114 : Int32)).toInt8.toInt32)).toInt8.toInt32, ((((101 : Int32)).toInt8.toInt32)).toInt8.toInt32] tt cs a1 a2 a3 t cl y1 y2 y3 (⟨_, _, _, str391, rfl⟩ : StrX _ _ _ [((((98 : Int32)).toInt8.toInt32)).toInt8.toInt32, ((((101 : Int32)).toInt8.toInt32)).toInt8.toInt32, ((((102 : Int32)).toInt8.toInt32)).toInt8.toInt32, (((xc).toInt8.toInt32)).toInt8.toInt32, ((((114 : Int32)).toInt8.toInt32)).toInt8.toInt32, ((((101 : Int32)).toInt8.toInt32)).toInt8.toInt32]) O S_cs hcs hcw hh39 hh49 hh54 hh7 S_BEFORE S_MEETS S_CONCURRENT S_V Ar Ex FC sz el0 el1 el2 Fk1 Fk2 Fk3 SX1 SX2 SX3 (own_IBw hI (fun _ q => by cases q))
theorem J69_0_4 {vmV : Vm} (hw : own_tb a0 Z) (X0 : Stand pP lL eE room_1 (sS.setVm vmV) mM args below meth cC T0 locs 1 6) (hx : pP.tables.exec = Jvm.exec) (hZ : Z.Warmed39 (sS.setVm vmV).vm) (hby : cC.code = code) (hml : cC.maxLocals = 8) (hown : (sS.setVm vmV).vm.findClass "com/example/slotwright/slotwright/model/LinkTypeOfKeyPinLaw" = some mM.cls) (hlk : meth.locks = false) (hret : meth.sig.returnType = ret) {kV : Nat} (hS : sS.Since vmV kV) (hk : kV ≤ h0.size) (e0 : T0.heap = h0) (N0 : Fr n0 locs) (u0 : Int32) (u1 : Int32) (u2 : Int32) (mo : Int32) (kk : Int32) (xc : Int32) (tt : Addr) (kt : ClassId) (cs : Int32) (a1 : Addr) (a2 : Addr) (a3 : Addr) (t : Addr) (cl : Cell) (y1 : Addr) (y2 : Addr) (y3 : Addr) (A_tt : Arv Z h0 tt kt .char 6 [.int 98, .int 101, .int 102, .int 111, .int 114, .int 101] (.int 0)) (g_tt : n0 ≤ tt) (Zn : n0 ≤ h0.size) (O : Old Z n0 h0) (S_cs : Sta Z Z.heap "java/lang/String" "COMPACT_STRINGS" "Z" (.int cs)) (hcs : ¬ cs = (0 : Int32)) (hcw : Jvm.Lit.compactW.before a0 Z = true) (hh39 : Jvm.Lit.constHeld Z "com/example/slotwright/slotwright/model/LinkTypeOfKeyPinLaw" 39) (hh49 : Jvm.Lit.constHeld Z "com/example/slotwright/slotwright/model/LinkTypeOfKeyPinLaw" 49) (hh54 : Jvm.Lit.constHeld Z "com/example/slotwright/slotwright/model/LinkTypeOfKeyPinLaw" 54) (hh7 : Jvm.Lit.constHeld Z "java/lang/String" 7) (S_BEFORE : Sta Z Z.heap "com/example/slotwright/slotwright/model/LinkType" "BEFORE" "Lcom/example/slotwright/slotwright/model/LinkType;" (.ref a1)) (S_MEETS : Sta Z Z.heap "com/example/slotwright/slotwright/model/LinkType" "MEETS" "Lcom/example/slotwright/slotwright/model/LinkType;" (.ref a2)) (S_CONCURRENT : Sta Z Z.heap "com/example/slotwright/slotwright/model/LinkType" "CONCURRENT" "Lcom/example/slotwright/slotwright/model/LinkType;" (.ref a3)) (S_V : Sta Z Z.heap "com/example/slotwright/slotwright/model/LinkType" "$VALUES" "[Lcom/example/slotwright/slotwright/model/LinkType;" (.ref t)) (Ar : Arr Z Z.heap t cl (.object "com/example/slotwright/slotwright/model/LinkType")) (Ex : Exa Z Z.heap t "[Lcom/example/slotwright/slotwright/model/LinkType;") (FC : FitC Z cl) (sz : cl.slots.size = (3 : Int32).toNatClampNeg) (el0 : cl.slots[(0 : Int32).toNatClampNeg]? = some (.ref a1)) (el1 : cl.slots[(1 : Int32).toNatClampNeg]? = some (.ref a2)) (el2 : cl.slots[(2 : Int32).toNatClampNeg]? = some (.ref a3)) (Fk1 : Fld Z Z.heap a1 "com/example/slotwright/slotwright/model/LinkType" "key" "Ljava/lang/String;" (.ref y1)) (Fk2 : Fld Z Z.heap a2 "com/example/slotwright/slotwright/model/LinkType" "key" "Ljava/lang/String;" (.ref y2)) (Fk3 : Fld Z Z.heap a3 "com/example/slotwright/slotwright/model/LinkType" "key" "Ljava/lang/String;" (.ref y3)) (SX1 : StrX Z Z.heap y1 bB) (SX2 : StrX Z Z.heap y2 bM) (SX3 : StrX Z Z.heap y3 bC) (cxc : Ck xc) (hI : IB Z vmV []) :
    own_GoW pP eE below sS (QLaw n0) 24 4288 (T0.setTop (mkF mM 69 #[.val (.int u0), .val (.int u1), .val (.int u2), .val (.int mo), .val (.int kk), .val (.int xc), .unset, .val (.ref tt)] [.int xc, .int 4, .ref tt])) := by
  obtain ⟨cl393, Ar393, q393, S393, Nn393, H393, G393⟩ := id A_tt
  obtain ⟨T394, h394, X394, e394, W394, st394⟩ := stC X0 hx hZ e0 Ar393 (j := (4 : Int32)) (inb_of S393 ⟨by decide, by decide⟩) (g := (mkF mM 69 #[.val (.int u0), .val (.int u1), .val (.int u2), .val (.int mo), .val (.int kk), .val (.int xc), .unset, .val (.ref tt)] [.int xc, .int 4, .ref tt])) rfl rfl (hb hby at_69)
  have N394 := Fr.snoc X394 N0 g_tt
  have hk := Nat.le_trans hk (Keep.of_wr W394).1
  have O := O.wr W394 g_tt
  have Zn := Nat.le_trans Zn (Keep.of_wr W394).1
  have A_tt : Arv Z h394 tt kt .char 6 [.int 98, .int 101, .int 102, .int 111, (.int (nar .char xc)), .int 101] (.int 0) := Arv.set Ar393 q393 S393 Nn393 H393 G393 (fits_nar_char _) W394 4 rfl (Nat.le_of_ble_eq_true rfl)
  refine own_kW T394 70 [] st394 ?_
  rw [show nar .char xc = xc from cxc.1] at A_tt
  obtain ⟨T395, h395, X395, e395, E395, A395, D395, -, st395⟩ := newO X394 hx hZ hown (ow hw 1 rfl) (ow hw 2 rfl) (ow hw 3 rfl) e394 (g := (mkF mM 70 #[.val (.int u0), .val (.int u1), .val (.int u2), .val (.int mo), .val (.int kk), .val (.int xc), .unset, .val (.ref tt)] [])) rfl (hb hby at_70) (by decide) (by decide)
  obtain ⟨b395, g395⟩ : ∃ z, z = h394.size := ⟨_, rfl⟩
  rw [← g395] at A395 D395 st395
  have ne_tt_b395 : tt ≠ b395 := Nat.ne_of_lt (Nat.lt_of_lt_of_le A_tt.lt (Nat.le_of_eq g395.symm))
  have g_b395 : n0 ≤ b395 := Nat.le_trans Zn (Nat.le_of_eq g395.symm)
  have O := O.ext E395
  have A_tt := A_tt.ext E395
  have hk := Nat.le_trans hk E395.1
  have Zn := Nat.le_trans Zn E395.1
  have E_b395 := A395
  have F_b395_coder : Fld Z h395 b395 "java/lang/String" "coder" "B" (.int 0) := D395 (Or.inr (ow hw 32 rfl)) (ty := .byte) (by decide)
  have F_b395_value : Fld Z h395 b395 "java/lang/String" "value" "[B" .null := D395 (Or.inr (ow hw 34 rfl)) (ty := (.array .byte)) (by decide)
  refine own_kW T395 73 [.ref b395] st395 ?_
  refine o_dupW 74 X395 hx (hb hby at_73) rfl rfl ?_
  refine o_aloadW 76 X395 hx (hb hby at_74) rfl rfl rfl ?_
  obtain ⟨_, _, ⟨T396, L396, k396, n396⟩, -, X396, ⟨Lc396, hQ396, l396, y396, z396⟩, st396⟩ := X395.specialBack hx (y := yn9) rfl hown (mvT hZ (ow hw 9 rfl)) (mvT hZ (ow hw 10 rfl)) (mvT hZ (ow hw 11 rfl)) (by decide) (backOf (W := 1) (rmS1_6 lL Z a0 hw [] b395 tt kt cs ((98 : Int32)) ((101 : Int32)) ((102 : Int32)) ((111 : Int32)) (xc) ((101 : Int32)) h395 n0 g_b395 E_b395 F_b395_value F_b395_coder A_tt ne_tt_b395 O Zn S_cs hcs (⟨by decide, by decide, by decide⟩ : Ck _) (⟨by decide, by decide, by decide⟩ : Ck _) (⟨by decide, by decide, by decide⟩ : Ck _) (⟨by decide, by decide, by decide⟩ : Ck _) cxc (⟨by decide, by decide, by decide⟩ : Ck _)) hZ (ow hw 11 rfl) (ow hw 3 rfl) (by decide) (by decide)) (g := (mkF mM 76 #[.val (.int u0), .val (.int u1), .val (.int u2), .val (.int mo), .val (.int kk), .val (.int xc), .unset, .val (.ref tt)] [.ref tt, .ref b395, .ref b395])) rfl (by rw [hml]; rfl) (Steps.refl _) (a := b395) (argsL := [.ref tt]) (rest := [.ref b395]) (lenOf pd__28_5bC_29V rfl) rfl (by show 2 * 0 + _ ≤ _; exact Nat.le_of_eq rfl) (hb hby at_76) (fun _ _ => ⟨rfl, e395, (by decide : 2 + 1 ≤ _), (by decide : 10 + 6 ≤ _)⟩)
  dsimp only [Pt.U, Pt.locs, Pt.cells, Pt.slots] at X396 l396 y396 z396 st396 hQ396
  subst l396 y396 z396
  obtain ⟨d396, k396', rfl, N396q, K396, str396, ge396⟩ := hQ396
  have N396 := Fr.app N394 N396q
  have e396 : T396.heap = T396.heap := rfl
  refine own_kW T396 79 [.ref b395] (fun t_ k_ => st396.trans k_) ?_
  have E_b395 := E_b395.keep K396
  have A_tt := A_tt.keep K396 (ninS ne_tt_b395 nin0)
  have hk := Nat.le_trans hk K396.1
  have O := O.keep K396 (allS g_b395 all0)
  have Zn := Nat.le_trans Zn K396.1
  let Lv397 : Array Slot := #[.val (.int u0), .val (.int u1), .val (.int u2), .val (.int mo), .val (.int kk), .val (.int xc), .val (.ref b395), .val (.ref tt)]
  refine own_stW (A := T396.setTop (mkF mM 81 Lv397 [])) (fun t_ k_ => XS.astore X396.here hx rfl (hb hby at_79) rfl rfl (l' := Lv397) rfl k_) ?_
  refine o_gotoW 150 X396 hx (hb hby at_81) (by decide) ?_
  exact J150t hw (X396.more (by decide) (by decide)) hx hZ hby hml hown hlk hret hS hk e396 N396 u0 u1 u2 mo kk xc b395 [((((98 : Int32)).toInt8.toInt32)).toInt8.toInt32, ((((101 : Int32)).toInt8.toInt32)).toInt8.toInt32, ((((102 : Int32)).toInt8.toInt32)).toInt8.toInt32, ((((111 : Int32)).toInt8.toInt32)).toInt8.toInt32, (((xc).toInt8.toInt32)).toInt8.toInt32, ((((101 : Int32)).toInt8.toInt32)).toInt8.toInt32] tt cs a1 a2 a3 t cl y1 y2 y3 (⟨_, _, _, str396, rfl⟩ : StrX _ _ _ [((((98 : Int32)).toInt8.toInt32)).toInt8.toInt32, ((((101 : Int32)).toInt8.toInt32)).toInt8.toInt32, ((((102 : Int32)).toInt8.toInt32)).toInt8.toInt32, ((((111 : Int32)).toInt8.toInt32)).toInt8.toInt32, (((xc).toInt8.toInt32)).toInt8.toInt32, ((((101 : Int32)).toInt8.toInt32)).toInt8.toInt32]) O S_cs hcs hcw hh39 hh49 hh54 hh7 S_BEFORE S_MEETS S_CONCURRENT S_V Ar Ex FC sz el0 el1 el2 Fk1 Fk2 Fk3 SX1 SX2 SX3 (own_IBw hI (fun _ q => by cases q))
theorem J69_0_5 {vmV : Vm} (hw : own_tb a0 Z) (X0 : Stand pP lL eE room_1 (sS.setVm vmV) mM args below meth cC T0 locs 1 6) (hx : pP.tables.exec = Jvm.exec) (hZ : Z.Warmed39 (sS.setVm vmV).vm) (hby : cC.code = code) (hml : cC.maxLocals = 8) (hown : (sS.setVm vmV).vm.findClass "com/example/slotwright/slotwright/model/LinkTypeOfKeyPinLaw" = some mM.cls) (hlk : meth.locks = false) (hret : meth.sig.returnType = ret) {kV : Nat} (hS : sS.Since vmV kV) (hk : kV ≤ h0.size) (e0 : T0.heap = h0) (N0 : Fr n0 locs) (u0 : Int32) (u1 : Int32) (u2 : Int32) (mo : Int32) (kk : Int32) (xc : Int32) (tt : Addr) (kt : ClassId) (cs : Int32) (a1 : Addr) (a2 : Addr) (a3 : Addr) (t : Addr) (cl : Cell) (y1 : Addr) (y2 : Addr) (y3 : Addr) (A_tt : Arv Z h0 tt kt .char 6 [.int 98, .int 101, .int 102, .int 111, .int 114, .int 101] (.int 0)) (g_tt : n0 ≤ tt) (Zn : n0 ≤ h0.size) (O : Old Z n0 h0) (S_cs : Sta Z Z.heap "java/lang/String" "COMPACT_STRINGS" "Z" (.int cs)) (hcs : ¬ cs = (0 : Int32)) (hcw : Jvm.Lit.compactW.before a0 Z = true) (hh39 : Jvm.Lit.constHeld Z "com/example/slotwright/slotwright/model/LinkTypeOfKeyPinLaw" 39) (hh49 : Jvm.Lit.constHeld Z "com/example/slotwright/slotwright/model/LinkTypeOfKeyPinLaw" 49) (hh54 : Jvm.Lit.constHeld Z "com/example/slotwright/slotwright/model/LinkTypeOfKeyPinLaw" 54) (hh7 : Jvm.Lit.constHeld Z "java/lang/String" 7) (S_BEFORE : Sta Z Z.heap "com/example/slotwright/slotwright/model/LinkType" "BEFORE" "Lcom/example/slotwright/slotwright/model/LinkType;" (.ref a1)) (S_MEETS : Sta Z Z.heap "com/example/slotwright/slotwright/model/LinkType" "MEETS" "Lcom/example/slotwright/slotwright/model/LinkType;" (.ref a2)) (S_CONCURRENT : Sta Z Z.heap "com/example/slotwright/slotwright/model/LinkType" "CONCURRENT" "Lcom/example/slotwright/slotwright/model/LinkType;" (.ref a3)) (S_V : Sta Z Z.heap "com/example/slotwright/slotwright/model/LinkType" "$VALUES" "[Lcom/example/slotwright/slotwright/model/LinkType;" (.ref t)) (Ar : Arr Z Z.heap t cl (.object "com/example/slotwright/slotwright/model/LinkType")) (Ex : Exa Z Z.heap t "[Lcom/example/slotwright/slotwright/model/LinkType;") (FC : FitC Z cl) (sz : cl.slots.size = (3 : Int32).toNatClampNeg) (el0 : cl.slots[(0 : Int32).toNatClampNeg]? = some (.ref a1)) (el1 : cl.slots[(1 : Int32).toNatClampNeg]? = some (.ref a2)) (el2 : cl.slots[(2 : Int32).toNatClampNeg]? = some (.ref a3)) (Fk1 : Fld Z Z.heap a1 "com/example/slotwright/slotwright/model/LinkType" "key" "Ljava/lang/String;" (.ref y1)) (Fk2 : Fld Z Z.heap a2 "com/example/slotwright/slotwright/model/LinkType" "key" "Ljava/lang/String;" (.ref y2)) (Fk3 : Fld Z Z.heap a3 "com/example/slotwright/slotwright/model/LinkType" "key" "Ljava/lang/String;" (.ref y3)) (SX1 : StrX Z Z.heap y1 bB) (SX2 : StrX Z Z.heap y2 bM) (SX3 : StrX Z Z.heap y3 bC) (cxc : Ck xc) (hI : IB Z vmV []) :
    own_GoW pP eE below sS (QLaw n0) 24 4288 (T0.setTop (mkF mM 69 #[.val (.int u0), .val (.int u1), .val (.int u2), .val (.int mo), .val (.int kk), .val (.int xc), .unset, .val (.ref tt)] [.int xc, .int 5, .ref tt])) := by
  obtain ⟨cl398, Ar398, q398, S398, Nn398, H398, G398⟩ := id A_tt
  obtain ⟨T399, h399, X399, e399, W399, st399⟩ := stC X0 hx hZ e0 Ar398 (j := (5 : Int32)) (inb_of S398 ⟨by decide, by decide⟩) (g := (mkF mM 69 #[.val (.int u0), .val (.int u1), .val (.int u2), .val (.int mo), .val (.int kk), .val (.int xc), .unset, .val (.ref tt)] [.int xc, .int 5, .ref tt])) rfl rfl (hb hby at_69)
  have N399 := Fr.snoc X399 N0 g_tt
  have hk := Nat.le_trans hk (Keep.of_wr W399).1
  have O := O.wr W399 g_tt
  have Zn := Nat.le_trans Zn (Keep.of_wr W399).1
  have A_tt : Arv Z h399 tt kt .char 6 [.int 98, .int 101, .int 102, .int 111, .int 114, (.int (nar .char xc))] (.int 0) := Arv.set Ar398 q398 S398 Nn398 H398 G398 (fits_nar_char _) W399 5 rfl (Nat.le_of_ble_eq_true rfl)
  refine own_kW T399 70 [] st399 ?_
  rw [show nar .char xc = xc from cxc.1] at A_tt
  obtain ⟨T400, h400, X400, e400, E400, A400, D400, -, st400⟩ := newO X399 hx hZ hown (ow hw 1 rfl) (ow hw 2 rfl) (ow hw 3 rfl) e399 (g := (mkF mM 70 #[.val (.int u0), .val (.int u1), .val (.int u2), .val (.int mo), .val (.int kk), .val (.int xc), .unset, .val (.ref tt)] [])) rfl (hb hby at_70) (by decide) (by decide)
  obtain ⟨b400, g400⟩ : ∃ z, z = h399.size := ⟨_, rfl⟩
  rw [← g400] at A400 D400 st400
  have ne_tt_b400 : tt ≠ b400 := Nat.ne_of_lt (Nat.lt_of_lt_of_le A_tt.lt (Nat.le_of_eq g400.symm))
  have g_b400 : n0 ≤ b400 := Nat.le_trans Zn (Nat.le_of_eq g400.symm)
  have O := O.ext E400
  have A_tt := A_tt.ext E400
  have hk := Nat.le_trans hk E400.1
  have Zn := Nat.le_trans Zn E400.1
  have E_b400 := A400
  have F_b400_coder : Fld Z h400 b400 "java/lang/String" "coder" "B" (.int 0) := D400 (Or.inr (ow hw 32 rfl)) (ty := .byte) (by decide)
  have F_b400_value : Fld Z h400 b400 "java/lang/String" "value" "[B" .null := D400 (Or.inr (ow hw 34 rfl)) (ty := (.array .byte)) (by decide)
  refine own_kW T400 73 [.ref b400] st400 ?_
  refine o_dupW 74 X400 hx (hb hby at_73) rfl rfl ?_
  refine o_aloadW 76 X400 hx (hb hby at_74) rfl rfl rfl ?_
  obtain ⟨_, _, ⟨T401, L401, k401, n401⟩, -, X401, ⟨Lc401, hQ401, l401, y401, z401⟩, st401⟩ := X400.specialBack hx (y := yn9) rfl hown (mvT hZ (ow hw 9 rfl)) (mvT hZ (ow hw 10 rfl)) (mvT hZ (ow hw 11 rfl)) (by decide) (backOf (W := 1) (rmS1_6 lL Z a0 hw [] b400 tt kt cs ((98 : Int32)) ((101 : Int32)) ((102 : Int32)) ((111 : Int32)) ((114 : Int32)) (xc) h400 n0 g_b400 E_b400 F_b400_value F_b400_coder A_tt ne_tt_b400 O Zn S_cs hcs (⟨by decide, by decide, by decide⟩ : Ck _) (⟨by decide, by decide, by decide⟩ : Ck _) (⟨by decide, by decide, by decide⟩ : Ck _) (⟨by decide, by decide, by decide⟩ : Ck _) (⟨by decide, by decide, by decide⟩ : Ck _) cxc) hZ (ow hw 11 rfl) (ow hw 3 rfl) (by decide) (by decide)) (g := (mkF mM 76 #[.val (.int u0), .val (.int u1), .val (.int u2), .val (.int mo), .val (.int kk), .val (.int xc), .unset, .val (.ref tt)] [.ref tt, .ref b400, .ref b400])) rfl (by rw [hml]; rfl) (Steps.refl _) (a := b400) (argsL := [.ref tt]) (rest := [.ref b400]) (lenOf pd__28_5bC_29V rfl) rfl (by show 2 * 0 + _ ≤ _; exact Nat.le_of_eq rfl) (hb hby at_76) (fun _ _ => ⟨rfl, e400, (by decide : 2 + 1 ≤ _), (by decide : 10 + 6 ≤ _)⟩)
  dsimp only [Pt.U, Pt.locs, Pt.cells, Pt.slots] at X401 l401 y401 z401 st401 hQ401
  subst l401 y401 z401
  obtain ⟨d401, k401', rfl, N401q, K401, str401, ge401⟩ := hQ401
  have N401 := Fr.app N399 N401q
  have e401 : T401.heap = T401.heap := rfl
  refine own_kW T401 79 [.ref b400] (fun t_ k_ => st401.trans k_) ?_
  have E_b400 := E_b400.keep K401
  have A_tt := A_tt.keep K401 (ninS ne_tt_b400 nin0)
  have hk := Nat.le_trans hk K401.1
  have O := O.keep K401 (allS g_b400 all0)
  have Zn := Nat.le_trans Zn K401.1
  let Lv402 : Array Slot := #[.val (.int u0), .val (.int u1), .val (.int u2), .val (.int mo), .val (.int kk), .val (.int xc), .val (.ref b400), .val (.ref tt)]
  refine own_stW (A := T401.setTop (mkF mM 81 Lv402 [])) (fun t_ k_ => XS.astore X401.here hx rfl (hb hby at_79) rfl rfl (l' := Lv402) rfl k_) ?_
  refine o_gotoW 150 X401 hx (hb hby at_81) (by decide) ?_
  exact J150t hw (X401.more (by decide) (by decide)) hx hZ hby hml hown hlk hret hS hk e401 N401 u0 u1 u2 mo kk xc b400 [((((98 : Int32)).toInt8.toInt32)).toInt8.toInt32, ((((101 : Int32)).toInt8.toInt32)).toInt8.toInt32, ((((102 : Int32)).toInt8.toInt32)).toInt8.toInt32, ((((111 : Int32)).toInt8.toInt32)).toInt8.toInt32, ((((114 : Int32)).toInt8.toInt32)).toInt8.toInt32, (((xc).toInt8.toInt32)).toInt8.toInt32] tt cs a1 a2 a3 t cl y1 y2 y3 (⟨_, _, _, str401, rfl⟩ : StrX _ _ _ [((((98 : Int32)).toInt8.toInt32)).toInt8.toInt32, ((((101 : Int32)).toInt8.toInt32)).toInt8.toInt32, ((((102 : Int32)).toInt8.toInt32)).toInt8.toInt32, ((((111 : Int32)).toInt8.toInt32)).toInt8.toInt32, ((((114 : Int32)).toInt8.toInt32)).toInt8.toInt32, (((xc).toInt8.toInt32)).toInt8.toInt32]) O S_cs hcs hcw hh39 hh49 hh54 hh7 S_BEFORE S_MEETS S_CONCURRENT S_V Ar Ex FC sz el0 el1 el2 Fk1 Fk2 Fk3 SX1 SX2 SX3 (own_IBw hI (fun _ q => by cases q))
theorem d1_0 : decode method_4_code 0 = .ok (.iload_n 0, 1) := by decide +kernel
theorem d1_1 : decode method_4_code 1 = .ok (.ifCond .ne 38, 3) := by decide +kernel
theorem d1_4 : decode method_4_code 4 = .ok (.bipush 6, 2) := by decide +kernel
theorem d1_6 : decode method_4_code 6 = .ok (.newarray .char, 2) := by decide +kernel
theorem d1_8 : decode method_4_code 8 = .ok (.dup, 1) := by decide +kernel
theorem d1_9 : decode method_4_code 9 = .ok (.iconst 0, 1) := by decide +kernel
theorem d1_10 : decode method_4_code 10 = .ok (.bipush 98, 2) := by decide +kernel
theorem d1_12 : decode method_4_code 12 = .ok (.castore, 1) := by decide +kernel
theorem d1_13 : decode method_4_code 13 = .ok (.dup, 1) := by decide +kernel
theorem d1_14 : decode method_4_code 14 = .ok (.iconst 1, 1) := by decide +kernel
theorem d1_15 : decode method_4_code 15 = .ok (.bipush 101, 2) := by decide +kernel
theorem d1_17 : decode method_4_code 17 = .ok (.castore, 1) := by decide +kernel
theorem d1_18 : decode method_4_code 18 = .ok (.dup, 1) := by decide +kernel
theorem d1_19 : decode method_4_code 19 = .ok (.iconst 2, 1) := by decide +kernel
theorem d1_20 : decode method_4_code 20 = .ok (.bipush 102, 2) := by decide +kernel
theorem d1_22 : decode method_4_code 22 = .ok (.castore, 1) := by decide +kernel
theorem d1_23 : decode method_4_code 23 = .ok (.dup, 1) := by decide +kernel
theorem d1_24 : decode method_4_code 24 = .ok (.iconst 3, 1) := by decide +kernel
theorem d1_25 : decode method_4_code 25 = .ok (.bipush 111, 2) := by decide +kernel
theorem d1_27 : decode method_4_code 27 = .ok (.castore, 1) := by decide +kernel
theorem d1_28 : decode method_4_code 28 = .ok (.dup, 1) := by decide +kernel
theorem d1_29 : decode method_4_code 29 = .ok (.iconst 4, 1) := by decide +kernel
theorem d1_30 : decode method_4_code 30 = .ok (.bipush 114, 2) := by decide +kernel
theorem d1_32 : decode method_4_code 32 = .ok (.castore, 1) := by decide +kernel
theorem d1_33 : decode method_4_code 33 = .ok (.dup, 1) := by decide +kernel
theorem d1_34 : decode method_4_code 34 = .ok (.iconst 5, 1) := by decide +kernel
theorem d1_35 : decode method_4_code 35 = .ok (.bipush 101, 2) := by decide +kernel
theorem d1_37 : decode method_4_code 37 = .ok (.castore, 1) := by decide +kernel
theorem d1_38 : decode method_4_code 38 = .ok (.areturn, 1) := by decide +kernel
theorem ef_rm_keyChars0 (mM : MethodId)  : entryFrame mM #[.int 0] 1 = mkF mM 0 #[.val (.int 0)] [] := by first | (simp [entryFrame, mkF, argsToLocals, Value.category]; done) | rfl
theorem rm_keyChars0 (lL : Launch) (Z : State) (a0 : Array Value) (hw : own_tb a0 Z) (ws : List Jvm.Cond)  (h0 : Heap) (n0 : Nat) (Zn : n0 ≤ h0.size) :
    own_Ct lL Z yn15 method_4_code 1 (some (.array .char)) ws (⟨0, 1, 6, 0⟩ : Room) #[.int 0] h0 (QCh Z 6 [.int 98, .int 101, .int 102, .int 111, .int 114, .int 101] h0 n0) := by
  refine own_body (plainFor_of_name pn_com_2fexample_2fslotwright_2fslotwright_2fmodel_2fLinkTypeOfKeyPinLaw) 1 6 rfl rfl (fun mM => ef_rm_keyChars0 mM) fun pP eE sS mM below meth cC s₁ hZ hx hby hml hown hnm hret hlk X0 e0 => ?_
  have N0 := Fr.nil n0
  have Kp := Keep.refl h0 []
  refine o_iloadN 1 X0 hx (hb hby d1_0) rfl rfl ?_
  refine o_ifNo 4 X0 hx (hb hby d1_1) ((if0 _ _).trans (teq (by decide : ((0 : Int32) = (0 : Int32)))).2) rfl ?_
  refine o_bipush 6 6 X0 hx (hb hby d1_4) rfl rfl ?_
  obtain ⟨T403, h403, k403, X403, e403, E403, A403, st403⟩ := newP X0 hx hZ (ow hw 8 rfl) e0 (g := (mkF mM 6 #[.val (.int 0)] [.int 6])) rfl (hb hby d1_6) rfl (by decide) (cap := 6) (by decide) (by decide) (by decide) (by decide)
  obtain ⟨b403, g403⟩ : ∃ z, z = h0.size := ⟨_, rfl⟩
  rw [← g403] at A403 st403
  have g_b403 : n0 ≤ b403 := Nat.le_trans Zn (Nat.le_of_eq g403.symm)
  have b_b403 : h0.size ≤ b403 := Nat.le_trans Kp.1 (Nat.le_of_eq g403.symm)
  have Zn := Nat.le_trans Zn E403.1
  have Kp := Kp.ext E403
  have A_b403 : Arv Z h403 b403 k403 .char 6 [.int 0, .int 0, .int 0, .int 0, .int 0, .int 0] (.int 0) := (Arv.new A403 (by decide)).pad (pad_rep [] (.int 0) 6)
  refine own_k T403 8 [.ref b403] st403 ?_
  refine o_dup 9 X403 hx (hb hby d1_8) rfl rfl ?_
  refine o_iconst 10 0 X403 hx (hb hby d1_9) rfl rfl ?_
  refine o_bipush 12 98 X403 hx (hb hby d1_10) rfl rfl ?_
  obtain ⟨cl404, Ar404, q404, S404, Nn404, H404, G404⟩ := id A_b403
  obtain ⟨T405, h405, X405, e405, W405, st405⟩ := stC X403 hx hZ e403 Ar404 (j := (0 : Int32)) (inb_of S404 ⟨by decide, by decide⟩) (g := (mkF mM 12 #[.val (.int 0)] [.int 98, .int 0, .ref b403, .ref b403])) rfl rfl (hb hby d1_12)
  have N405 := Fr.snoc X405 N0 g_b403
  have Zn := Nat.le_trans Zn (Keep.of_wr W405).1
  have Kp := Kp.wr W405 (Or.inr b_b403)
  have A_b403 : Arv Z h405 b403 k403 .char 6 [(.int (nar .char (98 : Int32))), .int 0, .int 0, .int 0, .int 0, .int 0] (.int 0) := Arv.set Ar404 q404 S404 Nn404 H404 G404 (fits_nar_char _) W405 0 rfl (Nat.le_of_ble_eq_true rfl)
  refine own_k T405 13 [.ref b403] st405 ?_
  rw [show nar .char (98 : Int32) = (98 : Int32) from (by decide)] at A_b403
  refine o_dup 14 X405 hx (hb hby d1_13) rfl rfl ?_
  refine o_iconst 15 1 X405 hx (hb hby d1_14) rfl rfl ?_
  refine o_bipush 17 101 X405 hx (hb hby d1_15) rfl rfl ?_
  obtain ⟨cl406, Ar406, q406, S406, Nn406, H406, G406⟩ := id A_b403
  obtain ⟨T407, h407, X407, e407, W407, st407⟩ := stC X405 hx hZ e405 Ar406 (j := (1 : Int32)) (inb_of S406 ⟨by decide, by decide⟩) (g := (mkF mM 17 #[.val (.int 0)] [.int 101, .int 1, .ref b403, .ref b403])) rfl rfl (hb hby d1_17)
  have N407 := Fr.snoc X407 N405 g_b403
  have Zn := Nat.le_trans Zn (Keep.of_wr W407).1
  have Kp := Kp.wr W407 (Or.inr b_b403)
  have A_b403 : Arv Z h407 b403 k403 .char 6 [.int 98, (.int (nar .char (101 : Int32))), .int 0, .int 0, .int 0, .int 0] (.int 0) := Arv.set Ar406 q406 S406 Nn406 H406 G406 (fits_nar_char _) W407 1 rfl (Nat.le_of_ble_eq_true rfl)
  refine own_k T407 18 [.ref b403] st407 ?_
  rw [show nar .char (101 : Int32) = (101 : Int32) from (by decide)] at A_b403
  refine o_dup 19 X407 hx (hb hby d1_18) rfl rfl ?_
  refine o_iconst 20 2 X407 hx (hb hby d1_19) rfl rfl ?_
  refine o_bipush 22 102 X407 hx (hb hby d1_20) rfl rfl ?_
  obtain ⟨cl408, Ar408, q408, S408, Nn408, H408, G408⟩ := id A_b403
  obtain ⟨T409, h409, X409, e409, W409, st409⟩ := stC X407 hx hZ e407 Ar408 (j := (2 : Int32)) (inb_of S408 ⟨by decide, by decide⟩) (g := (mkF mM 22 #[.val (.int 0)] [.int 102, .int 2, .ref b403, .ref b403])) rfl rfl (hb hby d1_22)
  have N409 := Fr.snoc X409 N407 g_b403
  have Zn := Nat.le_trans Zn (Keep.of_wr W409).1
  have Kp := Kp.wr W409 (Or.inr b_b403)
  have A_b403 : Arv Z h409 b403 k403 .char 6 [.int 98, .int 101, (.int (nar .char (102 : Int32))), .int 0, .int 0, .int 0] (.int 0) := Arv.set Ar408 q408 S408 Nn408 H408 G408 (fits_nar_char _) W409 2 rfl (Nat.le_of_ble_eq_true rfl)
  refine own_k T409 23 [.ref b403] st409 ?_
  rw [show nar .char (102 : Int32) = (102 : Int32) from (by decide)] at A_b403
  refine o_dup 24 X409 hx (hb hby d1_23) rfl rfl ?_
  refine o_iconst 25 3 X409 hx (hb hby d1_24) rfl rfl ?_
  refine o_bipush 27 111 X409 hx (hb hby d1_25) rfl rfl ?_
  obtain ⟨cl410, Ar410, q410, S410, Nn410, H410, G410⟩ := id A_b403
  obtain ⟨T411, h411, X411, e411, W411, st411⟩ := stC X409 hx hZ e409 Ar410 (j := (3 : Int32)) (inb_of S410 ⟨by decide, by decide⟩) (g := (mkF mM 27 #[.val (.int 0)] [.int 111, .int 3, .ref b403, .ref b403])) rfl rfl (hb hby d1_27)
  have N411 := Fr.snoc X411 N409 g_b403
  have Zn := Nat.le_trans Zn (Keep.of_wr W411).1
  have Kp := Kp.wr W411 (Or.inr b_b403)
  have A_b403 : Arv Z h411 b403 k403 .char 6 [.int 98, .int 101, .int 102, (.int (nar .char (111 : Int32))), .int 0, .int 0] (.int 0) := Arv.set Ar410 q410 S410 Nn410 H410 G410 (fits_nar_char _) W411 3 rfl (Nat.le_of_ble_eq_true rfl)
  refine own_k T411 28 [.ref b403] st411 ?_
  rw [show nar .char (111 : Int32) = (111 : Int32) from (by decide)] at A_b403
  refine o_dup 29 X411 hx (hb hby d1_28) rfl rfl ?_
  refine o_iconst 30 4 X411 hx (hb hby d1_29) rfl rfl ?_
  refine o_bipush 32 114 X411 hx (hb hby d1_30) rfl rfl ?_
  obtain ⟨cl412, Ar412, q412, S412, Nn412, H412, G412⟩ := id A_b403
  obtain ⟨T413, h413, X413, e413, W413, st413⟩ := stC X411 hx hZ e411 Ar412 (j := (4 : Int32)) (inb_of S412 ⟨by decide, by decide⟩) (g := (mkF mM 32 #[.val (.int 0)] [.int 114, .int 4, .ref b403, .ref b403])) rfl rfl (hb hby d1_32)
  have N413 := Fr.snoc X413 N411 g_b403
  have Zn := Nat.le_trans Zn (Keep.of_wr W413).1
  have Kp := Kp.wr W413 (Or.inr b_b403)
  have A_b403 : Arv Z h413 b403 k403 .char 6 [.int 98, .int 101, .int 102, .int 111, (.int (nar .char (114 : Int32))), .int 0] (.int 0) := Arv.set Ar412 q412 S412 Nn412 H412 G412 (fits_nar_char _) W413 4 rfl (Nat.le_of_ble_eq_true rfl)
  refine own_k T413 33 [.ref b403] st413 ?_
  rw [show nar .char (114 : Int32) = (114 : Int32) from (by decide)] at A_b403
  refine o_dup 34 X413 hx (hb hby d1_33) rfl rfl ?_
  refine o_iconst 35 5 X413 hx (hb hby d1_34) rfl rfl ?_
  refine o_bipush 37 101 X413 hx (hb hby d1_35) rfl rfl ?_
  obtain ⟨cl414, Ar414, q414, S414, Nn414, H414, G414⟩ := id A_b403
  obtain ⟨T415, h415, X415, e415, W415, st415⟩ := stC X413 hx hZ e413 Ar414 (j := (5 : Int32)) (inb_of S414 ⟨by decide, by decide⟩) (g := (mkF mM 37 #[.val (.int 0)] [.int 101, .int 5, .ref b403, .ref b403])) rfl rfl (hb hby d1_37)
  have N415 := Fr.snoc X415 N413 g_b403
  have Zn := Nat.le_trans Zn (Keep.of_wr W415).1
  have Kp := Kp.wr W415 (Or.inr b_b403)
  have A_b403 : Arv Z h415 b403 k403 .char 6 [.int 98, .int 101, .int 102, .int 111, .int 114, (.int (nar .char (101 : Int32)))] (.int 0) := Arv.set Ar414 q414 S414 Nn414 H414 G414 (fits_nar_char _) W415 5 rfl (Nat.le_of_ble_eq_true rfl)
  refine own_k T415 38 [.ref b403] st415 ?_
  rw [show nar .char (101 : Int32) = (101 : Int32) from (by decide)] at A_b403
  exact own_retA X415 hx hlk hret rfl rfl (hb hby d1_38) (by rw [e415]; exact ⟨_, _, rfl, N415, own_ext_of_keep Kp, A_b403, b_b403⟩) (by decide) (by decide)
theorem d13_0 : decode method_5_code 0 = .ok (.iload_n 0, 1) := by decide +kernel
theorem d13_1 : decode method_5_code 1 = .ok (.ifCond .ne 43, 3) := by decide +kernel
theorem d13_4 : decode method_5_code 4 = .ok (.bipush 7, 2) := by decide +kernel
theorem d13_6 : decode method_5_code 6 = .ok (.newarray .char, 2) := by decide +kernel
theorem d13_8 : decode method_5_code 8 = .ok (.dup, 1) := by decide +kernel
theorem d13_9 : decode method_5_code 9 = .ok (.iconst 0, 1) := by decide +kernel
theorem d13_10 : decode method_5_code 10 = .ok (.bipush 98, 2) := by decide +kernel
theorem d13_12 : decode method_5_code 12 = .ok (.castore, 1) := by decide +kernel
theorem d13_13 : decode method_5_code 13 = .ok (.dup, 1) := by decide +kernel
theorem d13_14 : decode method_5_code 14 = .ok (.iconst 1, 1) := by decide +kernel
theorem d13_15 : decode method_5_code 15 = .ok (.bipush 101, 2) := by decide +kernel
theorem d13_17 : decode method_5_code 17 = .ok (.castore, 1) := by decide +kernel
theorem d13_18 : decode method_5_code 18 = .ok (.dup, 1) := by decide +kernel
theorem d13_19 : decode method_5_code 19 = .ok (.iconst 2, 1) := by decide +kernel
theorem d13_20 : decode method_5_code 20 = .ok (.bipush 102, 2) := by decide +kernel
theorem d13_22 : decode method_5_code 22 = .ok (.castore, 1) := by decide +kernel
theorem d13_23 : decode method_5_code 23 = .ok (.dup, 1) := by decide +kernel
theorem d13_24 : decode method_5_code 24 = .ok (.iconst 3, 1) := by decide +kernel
theorem d13_25 : decode method_5_code 25 = .ok (.bipush 111, 2) := by decide +kernel
theorem d13_27 : decode method_5_code 27 = .ok (.castore, 1) := by decide +kernel
theorem d13_28 : decode method_5_code 28 = .ok (.dup, 1) := by decide +kernel
theorem d13_29 : decode method_5_code 29 = .ok (.iconst 4, 1) := by decide +kernel
theorem d13_30 : decode method_5_code 30 = .ok (.bipush 114, 2) := by decide +kernel
theorem d13_32 : decode method_5_code 32 = .ok (.castore, 1) := by decide +kernel
theorem d13_33 : decode method_5_code 33 = .ok (.dup, 1) := by decide +kernel
theorem d13_34 : decode method_5_code 34 = .ok (.iconst 5, 1) := by decide +kernel
theorem d13_35 : decode method_5_code 35 = .ok (.bipush 101, 2) := by decide +kernel
theorem d13_37 : decode method_5_code 37 = .ok (.castore, 1) := by decide +kernel
theorem d13_38 : decode method_5_code 38 = .ok (.dup, 1) := by decide +kernel
theorem d13_39 : decode method_5_code 39 = .ok (.bipush 6, 2) := by decide +kernel
theorem d13_41 : decode method_5_code 41 = .ok (.iload_n 1, 1) := by decide +kernel
theorem d13_42 : decode method_5_code 42 = .ok (.castore, 1) := by decide +kernel
theorem d13_43 : decode method_5_code 43 = .ok (.areturn, 1) := by decide +kernel
theorem ef_rm_extended0 (mM : MethodId) (xc : Int32) : entryFrame mM #[.int 0, .int xc] 2 = mkF mM 0 #[.val (.int 0), .val (.int xc)] [] := by first | (simp [entryFrame, mkF, argsToLocals, Value.category]; done) | rfl
theorem rm_extended0 (lL : Launch) (Z : State) (a0 : Array Value) (hw : own_tb a0 Z) (ws : List Jvm.Cond) (xc : Int32) (h0 : Heap) (n0 : Nat) (Zn : n0 ≤ h0.size) (cxc : Ck xc) :
    own_Ct lL Z yn16 method_5_code 2 (some (.array .char)) ws (⟨0, 1, 7, 0⟩ : Room) #[.int 0, .int xc] h0 (QCh Z 7 [.int 98, .int 101, .int 102, .int 111, .int 114, .int 101, .int xc] h0 n0) := by
  refine own_body (plainFor_of_name pn_com_2fexample_2fslotwright_2fslotwright_2fmodel_2fLinkTypeOfKeyPinLaw) 1 7 rfl rfl (fun mM => ef_rm_extended0 mM xc) fun pP eE sS mM below meth cC s₁ hZ hx hby hml hown hnm hret hlk X0 e0 => ?_
  have N0 := Fr.nil n0
  have Kp := Keep.refl h0 []
  refine o_iloadN 1 X0 hx (hb hby d13_0) rfl rfl ?_
  refine o_ifNo 4 X0 hx (hb hby d13_1) ((if0 _ _).trans (teq (by decide : ((0 : Int32) = (0 : Int32)))).2) rfl ?_
  refine o_bipush 6 7 X0 hx (hb hby d13_4) rfl rfl ?_
  obtain ⟨T416, h416, k416, X416, e416, E416, A416, st416⟩ := newP X0 hx hZ (ow hw 8 rfl) e0 (g := (mkF mM 6 #[.val (.int 0), .val (.int xc)] [.int 7])) rfl (hb hby d13_6) rfl (by decide) (cap := 7) (by decide) (by decide) (by decide) (by decide)
  obtain ⟨b416, g416⟩ : ∃ z, z = h0.size := ⟨_, rfl⟩
  rw [← g416] at A416 st416
  have g_b416 : n0 ≤ b416 := Nat.le_trans Zn (Nat.le_of_eq g416.symm)
  have b_b416 : h0.size ≤ b416 := Nat.le_trans Kp.1 (Nat.le_of_eq g416.symm)
  have Zn := Nat.le_trans Zn E416.1
  have Kp := Kp.ext E416
  have A_b416 : Arv Z h416 b416 k416 .char 7 [.int 0, .int 0, .int 0, .int 0, .int 0, .int 0, .int 0] (.int 0) := (Arv.new A416 (by decide)).pad (pad_rep [] (.int 0) 7)
  refine own_k T416 8 [.ref b416] st416 ?_
  refine o_dup 9 X416 hx (hb hby d13_8) rfl rfl ?_
  refine o_iconst 10 0 X416 hx (hb hby d13_9) rfl rfl ?_
  refine o_bipush 12 98 X416 hx (hb hby d13_10) rfl rfl ?_
  obtain ⟨cl417, Ar417, q417, S417, Nn417, H417, G417⟩ := id A_b416
  obtain ⟨T418, h418, X418, e418, W418, st418⟩ := stC X416 hx hZ e416 Ar417 (j := (0 : Int32)) (inb_of S417 ⟨by decide, by decide⟩) (g := (mkF mM 12 #[.val (.int 0), .val (.int xc)] [.int 98, .int 0, .ref b416, .ref b416])) rfl rfl (hb hby d13_12)
  have N418 := Fr.snoc X418 N0 g_b416
  have Zn := Nat.le_trans Zn (Keep.of_wr W418).1
  have Kp := Kp.wr W418 (Or.inr b_b416)
  have A_b416 : Arv Z h418 b416 k416 .char 7 [(.int (nar .char (98 : Int32))), .int 0, .int 0, .int 0, .int 0, .int 0, .int 0] (.int 0) := Arv.set Ar417 q417 S417 Nn417 H417 G417 (fits_nar_char _) W418 0 rfl (Nat.le_of_ble_eq_true rfl)
  refine own_k T418 13 [.ref b416] st418 ?_
  rw [show nar .char (98 : Int32) = (98 : Int32) from (by decide)] at A_b416
  refine o_dup 14 X418 hx (hb hby d13_13) rfl rfl ?_
  refine o_iconst 15 1 X418 hx (hb hby d13_14) rfl rfl ?_
  refine o_bipush 17 101 X418 hx (hb hby d13_15) rfl rfl ?_
  obtain ⟨cl419, Ar419, q419, S419, Nn419, H419, G419⟩ := id A_b416
  obtain ⟨T420, h420, X420, e420, W420, st420⟩ := stC X418 hx hZ e418 Ar419 (j := (1 : Int32)) (inb_of S419 ⟨by decide, by decide⟩) (g := (mkF mM 17 #[.val (.int 0), .val (.int xc)] [.int 101, .int 1, .ref b416, .ref b416])) rfl rfl (hb hby d13_17)
  have N420 := Fr.snoc X420 N418 g_b416
  have Zn := Nat.le_trans Zn (Keep.of_wr W420).1
  have Kp := Kp.wr W420 (Or.inr b_b416)
  have A_b416 : Arv Z h420 b416 k416 .char 7 [.int 98, (.int (nar .char (101 : Int32))), .int 0, .int 0, .int 0, .int 0, .int 0] (.int 0) := Arv.set Ar419 q419 S419 Nn419 H419 G419 (fits_nar_char _) W420 1 rfl (Nat.le_of_ble_eq_true rfl)
  refine own_k T420 18 [.ref b416] st420 ?_
  rw [show nar .char (101 : Int32) = (101 : Int32) from (by decide)] at A_b416
  refine o_dup 19 X420 hx (hb hby d13_18) rfl rfl ?_
  refine o_iconst 20 2 X420 hx (hb hby d13_19) rfl rfl ?_
  refine o_bipush 22 102 X420 hx (hb hby d13_20) rfl rfl ?_
  obtain ⟨cl421, Ar421, q421, S421, Nn421, H421, G421⟩ := id A_b416
  obtain ⟨T422, h422, X422, e422, W422, st422⟩ := stC X420 hx hZ e420 Ar421 (j := (2 : Int32)) (inb_of S421 ⟨by decide, by decide⟩) (g := (mkF mM 22 #[.val (.int 0), .val (.int xc)] [.int 102, .int 2, .ref b416, .ref b416])) rfl rfl (hb hby d13_22)
  have N422 := Fr.snoc X422 N420 g_b416
  have Zn := Nat.le_trans Zn (Keep.of_wr W422).1
  have Kp := Kp.wr W422 (Or.inr b_b416)
  have A_b416 : Arv Z h422 b416 k416 .char 7 [.int 98, .int 101, (.int (nar .char (102 : Int32))), .int 0, .int 0, .int 0, .int 0] (.int 0) := Arv.set Ar421 q421 S421 Nn421 H421 G421 (fits_nar_char _) W422 2 rfl (Nat.le_of_ble_eq_true rfl)
  refine own_k T422 23 [.ref b416] st422 ?_
  rw [show nar .char (102 : Int32) = (102 : Int32) from (by decide)] at A_b416
  refine o_dup 24 X422 hx (hb hby d13_23) rfl rfl ?_
  refine o_iconst 25 3 X422 hx (hb hby d13_24) rfl rfl ?_
  refine o_bipush 27 111 X422 hx (hb hby d13_25) rfl rfl ?_
  obtain ⟨cl423, Ar423, q423, S423, Nn423, H423, G423⟩ := id A_b416
  obtain ⟨T424, h424, X424, e424, W424, st424⟩ := stC X422 hx hZ e422 Ar423 (j := (3 : Int32)) (inb_of S423 ⟨by decide, by decide⟩) (g := (mkF mM 27 #[.val (.int 0), .val (.int xc)] [.int 111, .int 3, .ref b416, .ref b416])) rfl rfl (hb hby d13_27)
  have N424 := Fr.snoc X424 N422 g_b416
  have Zn := Nat.le_trans Zn (Keep.of_wr W424).1
  have Kp := Kp.wr W424 (Or.inr b_b416)
  have A_b416 : Arv Z h424 b416 k416 .char 7 [.int 98, .int 101, .int 102, (.int (nar .char (111 : Int32))), .int 0, .int 0, .int 0] (.int 0) := Arv.set Ar423 q423 S423 Nn423 H423 G423 (fits_nar_char _) W424 3 rfl (Nat.le_of_ble_eq_true rfl)
  refine own_k T424 28 [.ref b416] st424 ?_
  rw [show nar .char (111 : Int32) = (111 : Int32) from (by decide)] at A_b416
  refine o_dup 29 X424 hx (hb hby d13_28) rfl rfl ?_
  refine o_iconst 30 4 X424 hx (hb hby d13_29) rfl rfl ?_
  refine o_bipush 32 114 X424 hx (hb hby d13_30) rfl rfl ?_
  obtain ⟨cl425, Ar425, q425, S425, Nn425, H425, G425⟩ := id A_b416
  obtain ⟨T426, h426, X426, e426, W426, st426⟩ := stC X424 hx hZ e424 Ar425 (j := (4 : Int32)) (inb_of S425 ⟨by decide, by decide⟩) (g := (mkF mM 32 #[.val (.int 0), .val (.int xc)] [.int 114, .int 4, .ref b416, .ref b416])) rfl rfl (hb hby d13_32)
  have N426 := Fr.snoc X426 N424 g_b416
  have Zn := Nat.le_trans Zn (Keep.of_wr W426).1
  have Kp := Kp.wr W426 (Or.inr b_b416)
  have A_b416 : Arv Z h426 b416 k416 .char 7 [.int 98, .int 101, .int 102, .int 111, (.int (nar .char (114 : Int32))), .int 0, .int 0] (.int 0) := Arv.set Ar425 q425 S425 Nn425 H425 G425 (fits_nar_char _) W426 4 rfl (Nat.le_of_ble_eq_true rfl)
  refine own_k T426 33 [.ref b416] st426 ?_
  rw [show nar .char (114 : Int32) = (114 : Int32) from (by decide)] at A_b416
  refine o_dup 34 X426 hx (hb hby d13_33) rfl rfl ?_
  refine o_iconst 35 5 X426 hx (hb hby d13_34) rfl rfl ?_
  refine o_bipush 37 101 X426 hx (hb hby d13_35) rfl rfl ?_
  obtain ⟨cl427, Ar427, q427, S427, Nn427, H427, G427⟩ := id A_b416
  obtain ⟨T428, h428, X428, e428, W428, st428⟩ := stC X426 hx hZ e426 Ar427 (j := (5 : Int32)) (inb_of S427 ⟨by decide, by decide⟩) (g := (mkF mM 37 #[.val (.int 0), .val (.int xc)] [.int 101, .int 5, .ref b416, .ref b416])) rfl rfl (hb hby d13_37)
  have N428 := Fr.snoc X428 N426 g_b416
  have Zn := Nat.le_trans Zn (Keep.of_wr W428).1
  have Kp := Kp.wr W428 (Or.inr b_b416)
  have A_b416 : Arv Z h428 b416 k416 .char 7 [.int 98, .int 101, .int 102, .int 111, .int 114, (.int (nar .char (101 : Int32))), .int 0] (.int 0) := Arv.set Ar427 q427 S427 Nn427 H427 G427 (fits_nar_char _) W428 5 rfl (Nat.le_of_ble_eq_true rfl)
  refine own_k T428 38 [.ref b416] st428 ?_
  rw [show nar .char (101 : Int32) = (101 : Int32) from (by decide)] at A_b416
  refine o_dup 39 X428 hx (hb hby d13_38) rfl rfl ?_
  refine o_bipush 41 6 X428 hx (hb hby d13_39) rfl rfl ?_
  refine o_iloadN 42 X428 hx (hb hby d13_41) rfl rfl ?_
  obtain ⟨cl429, Ar429, q429, S429, Nn429, H429, G429⟩ := id A_b416
  obtain ⟨T430, h430, X430, e430, W430, st430⟩ := stC X428 hx hZ e428 Ar429 (j := (6 : Int32)) (inb_of S429 ⟨by decide, by decide⟩) (g := (mkF mM 42 #[.val (.int 0), .val (.int xc)] [.int xc, .int 6, .ref b416, .ref b416])) rfl rfl (hb hby d13_42)
  have N430 := Fr.snoc X430 N428 g_b416
  have Zn := Nat.le_trans Zn (Keep.of_wr W430).1
  have Kp := Kp.wr W430 (Or.inr b_b416)
  have A_b416 : Arv Z h430 b416 k416 .char 7 [.int 98, .int 101, .int 102, .int 111, .int 114, .int 101, (.int (nar .char xc))] (.int 0) := Arv.set Ar429 q429 S429 Nn429 H429 G429 (fits_nar_char _) W430 6 rfl (Nat.le_of_ble_eq_true rfl)
  refine own_k T430 43 [.ref b416] st430 ?_
  rw [show nar .char xc = xc from cxc.1] at A_b416
  exact own_retA X430 hx hlk hret rfl rfl (hb hby d13_43) (by rw [e430]; exact ⟨_, _, rfl, N430, own_ext_of_keep Kp, A_b416, b_b416⟩) (by decide) (by decide)
theorem d14_0 : decode method_6_code 0 = .ok (.iload_n 0, 1) := by decide +kernel
theorem d14_1 : decode method_6_code 1 = .ok (.ifCond .ne 32, 3) := by decide +kernel
theorem d14_4 : decode method_6_code 4 = .ok (.iconst 5, 1) := by decide +kernel
theorem d14_5 : decode method_6_code 5 = .ok (.newarray .char, 2) := by decide +kernel
theorem d14_7 : decode method_6_code 7 = .ok (.dup, 1) := by decide +kernel
theorem d14_8 : decode method_6_code 8 = .ok (.iconst 0, 1) := by decide +kernel
theorem d14_9 : decode method_6_code 9 = .ok (.bipush 98, 2) := by decide +kernel
theorem d14_11 : decode method_6_code 11 = .ok (.castore, 1) := by decide +kernel
theorem d14_12 : decode method_6_code 12 = .ok (.dup, 1) := by decide +kernel
theorem d14_13 : decode method_6_code 13 = .ok (.iconst 1, 1) := by decide +kernel
theorem d14_14 : decode method_6_code 14 = .ok (.bipush 101, 2) := by decide +kernel
theorem d14_16 : decode method_6_code 16 = .ok (.castore, 1) := by decide +kernel
theorem d14_17 : decode method_6_code 17 = .ok (.dup, 1) := by decide +kernel
theorem d14_18 : decode method_6_code 18 = .ok (.iconst 2, 1) := by decide +kernel
theorem d14_19 : decode method_6_code 19 = .ok (.bipush 102, 2) := by decide +kernel
theorem d14_21 : decode method_6_code 21 = .ok (.castore, 1) := by decide +kernel
theorem d14_22 : decode method_6_code 22 = .ok (.dup, 1) := by decide +kernel
theorem d14_23 : decode method_6_code 23 = .ok (.iconst 3, 1) := by decide +kernel
theorem d14_24 : decode method_6_code 24 = .ok (.bipush 111, 2) := by decide +kernel
theorem d14_26 : decode method_6_code 26 = .ok (.castore, 1) := by decide +kernel
theorem d14_27 : decode method_6_code 27 = .ok (.dup, 1) := by decide +kernel
theorem d14_28 : decode method_6_code 28 = .ok (.iconst 4, 1) := by decide +kernel
theorem d14_29 : decode method_6_code 29 = .ok (.bipush 114, 2) := by decide +kernel
theorem d14_31 : decode method_6_code 31 = .ok (.castore, 1) := by decide +kernel
theorem d14_32 : decode method_6_code 32 = .ok (.areturn, 1) := by decide +kernel
theorem ef_rm_truncated0 (mM : MethodId)  : entryFrame mM #[.int 0] 1 = mkF mM 0 #[.val (.int 0)] [] := by first | (simp [entryFrame, mkF, argsToLocals, Value.category]; done) | rfl
theorem rm_truncated0 (lL : Launch) (Z : State) (a0 : Array Value) (hw : own_tb a0 Z) (ws : List Jvm.Cond)  (h0 : Heap) (n0 : Nat) (Zn : n0 ≤ h0.size) :
    own_Ct lL Z yn17 method_6_code 1 (some (.array .char)) ws (⟨0, 1, 5, 0⟩ : Room) #[.int 0] h0 (QCh Z 5 [.int 98, .int 101, .int 102, .int 111, .int 114] h0 n0) := by
  refine own_body (plainFor_of_name pn_com_2fexample_2fslotwright_2fslotwright_2fmodel_2fLinkTypeOfKeyPinLaw) 1 5 rfl rfl (fun mM => ef_rm_truncated0 mM) fun pP eE sS mM below meth cC s₁ hZ hx hby hml hown hnm hret hlk X0 e0 => ?_
  have N0 := Fr.nil n0
  have Kp := Keep.refl h0 []
  refine o_iloadN 1 X0 hx (hb hby d14_0) rfl rfl ?_
  refine o_ifNo 4 X0 hx (hb hby d14_1) ((if0 _ _).trans (teq (by decide : ((0 : Int32) = (0 : Int32)))).2) rfl ?_
  refine o_iconst 5 5 X0 hx (hb hby d14_4) rfl rfl ?_
  obtain ⟨T431, h431, k431, X431, e431, E431, A431, st431⟩ := newP X0 hx hZ (ow hw 8 rfl) e0 (g := (mkF mM 5 #[.val (.int 0)] [.int 5])) rfl (hb hby d14_5) rfl (by decide) (cap := 5) (by decide) (by decide) (by decide) (by decide)
  obtain ⟨b431, g431⟩ : ∃ z, z = h0.size := ⟨_, rfl⟩
  rw [← g431] at A431 st431
  have g_b431 : n0 ≤ b431 := Nat.le_trans Zn (Nat.le_of_eq g431.symm)
  have b_b431 : h0.size ≤ b431 := Nat.le_trans Kp.1 (Nat.le_of_eq g431.symm)
  have Zn := Nat.le_trans Zn E431.1
  have Kp := Kp.ext E431
  have A_b431 : Arv Z h431 b431 k431 .char 5 [.int 0, .int 0, .int 0, .int 0, .int 0] (.int 0) := (Arv.new A431 (by decide)).pad (pad_rep [] (.int 0) 5)
  refine own_k T431 7 [.ref b431] st431 ?_
  refine o_dup 8 X431 hx (hb hby d14_7) rfl rfl ?_
  refine o_iconst 9 0 X431 hx (hb hby d14_8) rfl rfl ?_
  refine o_bipush 11 98 X431 hx (hb hby d14_9) rfl rfl ?_
  obtain ⟨cl432, Ar432, q432, S432, Nn432, H432, G432⟩ := id A_b431
  obtain ⟨T433, h433, X433, e433, W433, st433⟩ := stC X431 hx hZ e431 Ar432 (j := (0 : Int32)) (inb_of S432 ⟨by decide, by decide⟩) (g := (mkF mM 11 #[.val (.int 0)] [.int 98, .int 0, .ref b431, .ref b431])) rfl rfl (hb hby d14_11)
  have N433 := Fr.snoc X433 N0 g_b431
  have Zn := Nat.le_trans Zn (Keep.of_wr W433).1
  have Kp := Kp.wr W433 (Or.inr b_b431)
  have A_b431 : Arv Z h433 b431 k431 .char 5 [(.int (nar .char (98 : Int32))), .int 0, .int 0, .int 0, .int 0] (.int 0) := Arv.set Ar432 q432 S432 Nn432 H432 G432 (fits_nar_char _) W433 0 rfl (Nat.le_of_ble_eq_true rfl)
  refine own_k T433 12 [.ref b431] st433 ?_
  rw [show nar .char (98 : Int32) = (98 : Int32) from (by decide)] at A_b431
  refine o_dup 13 X433 hx (hb hby d14_12) rfl rfl ?_
  refine o_iconst 14 1 X433 hx (hb hby d14_13) rfl rfl ?_
  refine o_bipush 16 101 X433 hx (hb hby d14_14) rfl rfl ?_
  obtain ⟨cl434, Ar434, q434, S434, Nn434, H434, G434⟩ := id A_b431
  obtain ⟨T435, h435, X435, e435, W435, st435⟩ := stC X433 hx hZ e433 Ar434 (j := (1 : Int32)) (inb_of S434 ⟨by decide, by decide⟩) (g := (mkF mM 16 #[.val (.int 0)] [.int 101, .int 1, .ref b431, .ref b431])) rfl rfl (hb hby d14_16)
  have N435 := Fr.snoc X435 N433 g_b431
  have Zn := Nat.le_trans Zn (Keep.of_wr W435).1
  have Kp := Kp.wr W435 (Or.inr b_b431)
  have A_b431 : Arv Z h435 b431 k431 .char 5 [.int 98, (.int (nar .char (101 : Int32))), .int 0, .int 0, .int 0] (.int 0) := Arv.set Ar434 q434 S434 Nn434 H434 G434 (fits_nar_char _) W435 1 rfl (Nat.le_of_ble_eq_true rfl)
  refine own_k T435 17 [.ref b431] st435 ?_
  rw [show nar .char (101 : Int32) = (101 : Int32) from (by decide)] at A_b431
  refine o_dup 18 X435 hx (hb hby d14_17) rfl rfl ?_
  refine o_iconst 19 2 X435 hx (hb hby d14_18) rfl rfl ?_
  refine o_bipush 21 102 X435 hx (hb hby d14_19) rfl rfl ?_
  obtain ⟨cl436, Ar436, q436, S436, Nn436, H436, G436⟩ := id A_b431
  obtain ⟨T437, h437, X437, e437, W437, st437⟩ := stC X435 hx hZ e435 Ar436 (j := (2 : Int32)) (inb_of S436 ⟨by decide, by decide⟩) (g := (mkF mM 21 #[.val (.int 0)] [.int 102, .int 2, .ref b431, .ref b431])) rfl rfl (hb hby d14_21)
  have N437 := Fr.snoc X437 N435 g_b431
  have Zn := Nat.le_trans Zn (Keep.of_wr W437).1
  have Kp := Kp.wr W437 (Or.inr b_b431)
  have A_b431 : Arv Z h437 b431 k431 .char 5 [.int 98, .int 101, (.int (nar .char (102 : Int32))), .int 0, .int 0] (.int 0) := Arv.set Ar436 q436 S436 Nn436 H436 G436 (fits_nar_char _) W437 2 rfl (Nat.le_of_ble_eq_true rfl)
  refine own_k T437 22 [.ref b431] st437 ?_
  rw [show nar .char (102 : Int32) = (102 : Int32) from (by decide)] at A_b431
  refine o_dup 23 X437 hx (hb hby d14_22) rfl rfl ?_
  refine o_iconst 24 3 X437 hx (hb hby d14_23) rfl rfl ?_
  refine o_bipush 26 111 X437 hx (hb hby d14_24) rfl rfl ?_
  obtain ⟨cl438, Ar438, q438, S438, Nn438, H438, G438⟩ := id A_b431
  obtain ⟨T439, h439, X439, e439, W439, st439⟩ := stC X437 hx hZ e437 Ar438 (j := (3 : Int32)) (inb_of S438 ⟨by decide, by decide⟩) (g := (mkF mM 26 #[.val (.int 0)] [.int 111, .int 3, .ref b431, .ref b431])) rfl rfl (hb hby d14_26)
  have N439 := Fr.snoc X439 N437 g_b431
  have Zn := Nat.le_trans Zn (Keep.of_wr W439).1
  have Kp := Kp.wr W439 (Or.inr b_b431)
  have A_b431 : Arv Z h439 b431 k431 .char 5 [.int 98, .int 101, .int 102, (.int (nar .char (111 : Int32))), .int 0] (.int 0) := Arv.set Ar438 q438 S438 Nn438 H438 G438 (fits_nar_char _) W439 3 rfl (Nat.le_of_ble_eq_true rfl)
  refine own_k T439 27 [.ref b431] st439 ?_
  rw [show nar .char (111 : Int32) = (111 : Int32) from (by decide)] at A_b431
  refine o_dup 28 X439 hx (hb hby d14_27) rfl rfl ?_
  refine o_iconst 29 4 X439 hx (hb hby d14_28) rfl rfl ?_
  refine o_bipush 31 114 X439 hx (hb hby d14_29) rfl rfl ?_
  obtain ⟨cl440, Ar440, q440, S440, Nn440, H440, G440⟩ := id A_b431
  obtain ⟨T441, h441, X441, e441, W441, st441⟩ := stC X439 hx hZ e439 Ar440 (j := (4 : Int32)) (inb_of S440 ⟨by decide, by decide⟩) (g := (mkF mM 31 #[.val (.int 0)] [.int 114, .int 4, .ref b431, .ref b431])) rfl rfl (hb hby d14_31)
  have N441 := Fr.snoc X441 N439 g_b431
  have Zn := Nat.le_trans Zn (Keep.of_wr W441).1
  have Kp := Kp.wr W441 (Or.inr b_b431)
  have A_b431 : Arv Z h441 b431 k431 .char 5 [.int 98, .int 101, .int 102, .int 111, (.int (nar .char (114 : Int32)))] (.int 0) := Arv.set Ar440 q440 S440 Nn440 H440 G440 (fits_nar_char _) W441 4 rfl (Nat.le_of_ble_eq_true rfl)
  refine own_k T441 32 [.ref b431] st441 ?_
  rw [show nar .char (114 : Int32) = (114 : Int32) from (by decide)] at A_b431
  exact own_retA X441 hx hlk hret rfl rfl (hb hby d14_32) (by rw [e441]; exact ⟨_, _, rfl, N441, own_ext_of_keep Kp, A_b431, b_b431⟩) (by decide) (by decide)
theorem pd__28I_29_5bC : parseMethodDescriptor "(I)[C" = some ⟨[.int], some (.array .char)⟩ := by decide +kernel
theorem pd__28IC_29_5bC : parseMethodDescriptor "(IC)[C" = some ⟨[.int, .char], some (.array .char)⟩ := by decide +kernel
theorem J24_0 {vmV : Vm} (hw : own_tb a0 Z) (X0 : Stand pP lL eE room_1 (sS.setVm vmV) mM args below meth cC T0 locs 0 0) (hx : pP.tables.exec = Jvm.exec) (hZ : Z.Warmed39 (sS.setVm vmV).vm) (hby : cC.code = code) (hml : cC.maxLocals = 8) (hown : (sS.setVm vmV).vm.findClass "com/example/slotwright/slotwright/model/LinkTypeOfKeyPinLaw" = some mM.cls) (hlk : meth.locks = false) (hret : meth.sig.returnType = ret) {kV : Nat} (hS : sS.Since vmV kV) (hk : kV ≤ h0.size) (e0 : T0.heap = h0) (N0 : Fr n0 locs) (u0 : Int32) (u1 : Int32) (u2 : Int32) (mo : Int32) (xc : Int32) (cs : Int32) (a1 : Addr) (a2 : Addr) (a3 : Addr) (t : Addr) (cl : Cell) (y1 : Addr) (y2 : Addr) (y3 : Addr) (Zn : n0 ≤ h0.size) (O : Old Z n0 h0) (S_cs : Sta Z Z.heap "java/lang/String" "COMPACT_STRINGS" "Z" (.int cs)) (hcs : ¬ cs = (0 : Int32)) (hcw : Jvm.Lit.compactW.before a0 Z = true) (hh39 : Jvm.Lit.constHeld Z "com/example/slotwright/slotwright/model/LinkTypeOfKeyPinLaw" 39) (hh49 : Jvm.Lit.constHeld Z "com/example/slotwright/slotwright/model/LinkTypeOfKeyPinLaw" 49) (hh54 : Jvm.Lit.constHeld Z "com/example/slotwright/slotwright/model/LinkTypeOfKeyPinLaw" 54) (hh7 : Jvm.Lit.constHeld Z "java/lang/String" 7) (S_BEFORE : Sta Z Z.heap "com/example/slotwright/slotwright/model/LinkType" "BEFORE" "Lcom/example/slotwright/slotwright/model/LinkType;" (.ref a1)) (S_MEETS : Sta Z Z.heap "com/example/slotwright/slotwright/model/LinkType" "MEETS" "Lcom/example/slotwright/slotwright/model/LinkType;" (.ref a2)) (S_CONCURRENT : Sta Z Z.heap "com/example/slotwright/slotwright/model/LinkType" "CONCURRENT" "Lcom/example/slotwright/slotwright/model/LinkType;" (.ref a3)) (S_V : Sta Z Z.heap "com/example/slotwright/slotwright/model/LinkType" "$VALUES" "[Lcom/example/slotwright/slotwright/model/LinkType;" (.ref t)) (Ar : Arr Z Z.heap t cl (.object "com/example/slotwright/slotwright/model/LinkType")) (Ex : Exa Z Z.heap t "[Lcom/example/slotwright/slotwright/model/LinkType;") (FC : FitC Z cl) (sz : cl.slots.size = (3 : Int32).toNatClampNeg) (el0 : cl.slots[(0 : Int32).toNatClampNeg]? = some (.ref a1)) (el1 : cl.slots[(1 : Int32).toNatClampNeg]? = some (.ref a2)) (el2 : cl.slots[(2 : Int32).toNatClampNeg]? = some (.ref a3)) (Fk1 : Fld Z Z.heap a1 "com/example/slotwright/slotwright/model/LinkType" "key" "Ljava/lang/String;" (.ref y1)) (Fk2 : Fld Z Z.heap a2 "com/example/slotwright/slotwright/model/LinkType" "key" "Ljava/lang/String;" (.ref y2)) (Fk3 : Fld Z Z.heap a3 "com/example/slotwright/slotwright/model/LinkType" "key" "Ljava/lang/String;" (.ref y3)) (SX1 : StrX Z Z.heap y1 bB) (SX2 : StrX Z Z.heap y2 bM) (SX3 : StrX Z Z.heap y3 bC) (cxc : Ck xc) (hI : IB Z vmV []) :
    own_GoW pP eE below sS (QLaw n0) 24 4288 (T0.setTop (mkF mM 24 #[.val (.int u0), .val (.int u1), .val (.int u2), .val (.int mo), .val (.int 0), .val (.int xc), .unset, .unset] [])) := by
  refine o_iloadNW 25 X0 hx (hb hby at_24) rfl rfl ?_
  by_cases hc25_442 : mo = (0 : Int32)
  · skip
    refine o_ifNoW 28 X0 hx (hb hby at_25) ((if0 _ _).trans (teq hc25_442).2) rfl ?_
    obtain ⟨T443, h443, X443, e443, E443, A443, D443, -, st443⟩ := newO X0 hx hZ hown (ow hw 1 rfl) (ow hw 2 rfl) (ow hw 3 rfl) e0 (g := (mkF mM 28 #[.val (.int u0), .val (.int u1), .val (.int u2), .val (.int mo), .val (.int 0), .val (.int xc), .unset, .unset] [])) rfl (hb hby at_28) (by decide) (by decide)
    obtain ⟨b443, g443⟩ : ∃ z, z = h0.size := ⟨_, rfl⟩
    rw [← g443] at A443 D443 st443
    have g_b443 : n0 ≤ b443 := Nat.le_trans Zn (Nat.le_of_eq g443.symm)
    have O := O.ext E443
    have hk := Nat.le_trans hk E443.1
    have Zn := Nat.le_trans Zn E443.1
    have E_b443 := A443
    have F_b443_coder : Fld Z h443 b443 "java/lang/String" "coder" "B" (.int 0) := D443 (Or.inr (ow hw 32 rfl)) (ty := .byte) (by decide)
    have F_b443_value : Fld Z h443 b443 "java/lang/String" "value" "[B" .null := D443 (Or.inr (ow hw 34 rfl)) (ty := (.array .byte)) (by decide)
    refine own_kW T443 31 [.ref b443] st443 ?_
    refine o_dupW 32 X443 hx (hb hby at_31) rfl rfl ?_
    refine o_iloadW 34 X443 hx (hb hby at_32) rfl rfl ?_
    obtain ⟨_, _, ⟨T444, L444, k444, n444⟩, -, X444, ⟨Lc444, hQ444, l444, y444, z444⟩, st444⟩ := Jvm.LawKit.callS X443 hx (y := yn15) hown (mvT hZ (ow hw 4 rfl)) (mvT hZ (ow hw 5 rfl)) (mvT hZ (ow hw 6 rfl)) (mvT hZ (ow hw 7 rfl)) (by decide) (backOf (W := 2) (rm_keyChars0 lL Z a0 hw []  h443 n0 Zn) hZ (ow hw 7 rfl) (ow hw 6 rfl) (by decide) (by decide)) (g := (mkF mM 34 #[.val (.int u0), .val (.int u1), .val (.int u2), .val (.int mo), .val (.int 0), .val (.int xc), .unset, .unset] [.int 0, .ref b443, .ref b443])) rfl (by rw [hml]; rfl) (argsL := [.int 0]) (rest := [.ref b443, .ref b443]) (lenOf pd__28I_29_5bC rfl) rfl (by show 2 * 0 + _ ≤ _; exact Nat.le_of_eq rfl) (hb hby at_34) (fun _ _ => ⟨rfl, e443, (by decide : 1 + 1 ≤ _), (by decide : 4 + 6 ≤ _)⟩)
    dsimp only [Pt.U, Pt.locs, Pt.cells, Pt.slots] at X444 l444 y444 z444 st444 hQ444
    subst l444 y444 z444
    obtain ⟨b444, k444', rfl, N444q, E444, V444, ge444⟩ := hQ444
    have N444 := Fr.app N0 N444q
    have e444 : T444.heap = T444.heap := rfl
    refine own_kW T444 37 [.ref b444, .ref b443, .ref b443] st444 ?_
    have ne_b443_b444 : b443 ≠ b444 := Nat.ne_of_lt (Nat.lt_of_lt_of_le E_b443.lt ge444)
    have g_b444 : n0 ≤ b444 := Nat.le_trans Zn ge444
    have F_b443_coder := F_b443_coder.ext E444
    have F_b443_value := F_b443_value.ext E444
    have E_b443 := E_b443.ext E444
    have O := O.ext E444
    have hk := Nat.le_trans hk E444.1
    have Zn := Nat.le_trans Zn E444.1
    have A_b444 := V444
    obtain ⟨_, _, ⟨T445, L445, k445, n445⟩, -, X445, ⟨Lc445, hQ445, l445, y445, z445⟩, st445⟩ := X444.specialBack hx (y := yn9) rfl hown (mvT hZ (ow hw 9 rfl)) (mvT hZ (ow hw 10 rfl)) (mvT hZ (ow hw 11 rfl)) (by decide) (backOf (W := 1) (rmS1_6 lL Z a0 hw [] b443 b444 k444' cs ((98 : Int32)) ((101 : Int32)) ((102 : Int32)) ((111 : Int32)) ((114 : Int32)) ((101 : Int32)) T444.heap n0 g_b443 E_b443 F_b443_value F_b443_coder A_b444 (Ne.symm ne_b443_b444) O Zn S_cs hcs (⟨by decide, by decide, by decide⟩ : Ck _) (⟨by decide, by decide, by decide⟩ : Ck _) (⟨by decide, by decide, by decide⟩ : Ck _) (⟨by decide, by decide, by decide⟩ : Ck _) (⟨by decide, by decide, by decide⟩ : Ck _) (⟨by decide, by decide, by decide⟩ : Ck _)) hZ (ow hw 11 rfl) (ow hw 3 rfl) (by decide) (by decide)) (g := (mkF mM 37 #[.val (.int u0), .val (.int u1), .val (.int u2), .val (.int mo), .val (.int 0), .val (.int xc), .unset, .unset] [.ref b444, .ref b443, .ref b443])) rfl (by rw [hml]; rfl) (Steps.refl _) (a := b443) (argsL := [.ref b444]) (rest := [.ref b443]) (lenOf pd__28_5bC_29V rfl) rfl (by show 2 * 0 + _ ≤ _; exact Nat.le_of_eq rfl) (hb hby at_37) (fun _ _ => ⟨rfl, e444, (by decide : 2 + 1 ≤ _), (by decide : 10 + 6 ≤ _)⟩)
    dsimp only [Pt.U, Pt.locs, Pt.cells, Pt.slots] at X445 l445 y445 z445 st445 hQ445
    subst l445 y445 z445
    obtain ⟨d445, k445', rfl, N445q, K445, str445, ge445⟩ := hQ445
    have N445 := Fr.app N444 N445q
    have e445 : T445.heap = T445.heap := rfl
    refine own_kW T445 40 [.ref b443] (fun t_ k_ => st445.trans k_) ?_
    have E_b443 := E_b443.keep K445
    have A_b444 := A_b444.keep K445 (ninS (Ne.symm ne_b443_b444) nin0)
    have hk := Nat.le_trans hk K445.1
    have O := O.keep K445 (allS g_b443 all0)
    have Zn := Nat.le_trans Zn K445.1
    let Lv446 : Array Slot := #[.val (.int u0), .val (.int u1), .val (.int u2), .val (.int mo), .val (.int 0), .val (.int xc), .val (.ref b443), .unset]
    refine own_stW (A := T445.setTop (mkF mM 42 Lv446 [])) (fun t_ k_ => XS.astore X445.here hx rfl (hb hby at_40) rfl rfl (l' := Lv446) rfl k_) ?_
    refine o_gotoW 150 X445 hx (hb hby at_42) (by decide) ?_
    exact J150u hw (X445.more (by decide) (by decide)) hx hZ hby hml hown hlk hret hS hk e445 N445 u0 u1 u2 mo (0 : Int32) xc b443 [((((98 : Int32)).toInt8.toInt32)).toInt8.toInt32, ((((101 : Int32)).toInt8.toInt32)).toInt8.toInt32, ((((102 : Int32)).toInt8.toInt32)).toInt8.toInt32, ((((111 : Int32)).toInt8.toInt32)).toInt8.toInt32, ((((114 : Int32)).toInt8.toInt32)).toInt8.toInt32, ((((101 : Int32)).toInt8.toInt32)).toInt8.toInt32] cs a1 a2 a3 t cl y1 y2 y3 (⟨_, _, _, str445, rfl⟩ : StrX _ _ _ [((((98 : Int32)).toInt8.toInt32)).toInt8.toInt32, ((((101 : Int32)).toInt8.toInt32)).toInt8.toInt32, ((((102 : Int32)).toInt8.toInt32)).toInt8.toInt32, ((((111 : Int32)).toInt8.toInt32)).toInt8.toInt32, ((((114 : Int32)).toInt8.toInt32)).toInt8.toInt32, ((((101 : Int32)).toInt8.toInt32)).toInt8.toInt32]) O S_cs hcs hcw hh39 hh49 hh54 hh7 S_BEFORE S_MEETS S_CONCURRENT S_V Ar Ex FC sz el0 el1 el2 Fk1 Fk2 Fk3 SX1 SX2 SX3 (own_IBw hI (fun _ q => by cases q))
  · skip
    refine o_ifYesW 45 X0 hx (hb hby at_25) ((if0 _ _).trans (feq hc25_442).2) (by decide) ?_
    refine o_iloadNW 46 X0 hx (hb hby at_45) rfl rfl ?_
    refine o_iconstW 47 1 X0 hx (hb hby at_46) rfl rfl ?_
    by_cases hc47_447 : mo = (1 : Int32)
    · skip
      refine o_icmpNoW 50 X0 hx (hb hby at_47) (teq hc47_447).2 rfl ?_
      refine o_iloadW 52 X0 hx (hb hby at_50) rfl rfl ?_
      obtain ⟨_, _, ⟨T448, L448, k448, n448⟩, -, X448, ⟨Lc448, hQ448, l448, y448, z448⟩, st448⟩ := Jvm.LawKit.callS X0 hx (y := yn15) hown (mvT hZ (ow hw 4 rfl)) (mvT hZ (ow hw 5 rfl)) (mvT hZ (ow hw 6 rfl)) (mvT hZ (ow hw 7 rfl)) (by decide) (backOf (W := 0) (rm_keyChars0 lL Z a0 hw []  h0 n0 Zn) hZ (ow hw 7 rfl) (ow hw 6 rfl) (by decide) (by decide)) (g := (mkF mM 52 #[.val (.int u0), .val (.int u1), .val (.int u2), .val (.int mo), .val (.int 0), .val (.int xc), .unset, .unset] [.int 0])) rfl (by rw [hml]; rfl) (argsL := [.int 0]) (rest := []) (lenOf pd__28I_29_5bC rfl) rfl (by show 2 * 0 + _ ≤ _; exact Nat.le_of_eq rfl) (hb hby at_52) (fun _ _ => ⟨rfl, e0, (by decide : 0 + 1 ≤ _), (by decide : 0 + 6 ≤ _)⟩)
      dsimp only [Pt.U, Pt.locs, Pt.cells, Pt.slots] at X448 l448 y448 z448 st448 hQ448
      subst l448 y448 z448
      obtain ⟨b448, k448', rfl, N448q, E448, V448, ge448⟩ := hQ448
      have N448 := Fr.app N0 N448q
      have e448 : T448.heap = T448.heap := rfl
      refine own_kW T448 55 [.ref b448] st448 ?_
      have g_b448 : n0 ≤ b448 := Nat.le_trans Zn ge448
      have O := O.ext E448
      have hk := Nat.le_trans hk E448.1
      have Zn := Nat.le_trans Zn E448.1
      have A_b448 := V448
      let Lv449 : Array Slot := #[.val (.int u0), .val (.int u1), .val (.int u2), .val (.int mo), .val (.int 0), .val (.int xc), .unset, .val (.ref b448)]
      refine own_stW (A := T448.setTop (mkF mM 57 Lv449 [])) (fun t_ k_ => XS.astore X448.here hx rfl (hb hby at_55) rfl rfl (l' := Lv449) rfl k_) ?_
      refine o_aloadW 59 X448 hx (hb hby at_57) rfl rfl rfl ?_
      refine o_iloadNW 60 X448 hx (hb hby at_59) rfl rfl ?_
      refine own_jW 62 [.int 2147483647, .int u1, .ref b448] (fun t_ k_ => X448.ldcInt hx hown (mvT hZ (ow hw 0 rfl)) (g := (mkF mM 60 Lv449 [.int u1, .ref b448])) rfl (hb hby at_60) t_ k_) ?_
      refine own_jW 63 [(.int (u1 &&& (2147483647 : Int32))), .ref b448] (fun t_ k_ => XS.iand X448.here hx rfl (hb hby at_62) rfl k_) ?_
      refine o_aloadW 65 X448 hx (hb hby at_63) rfl rfl rfl ?_
      obtain ⟨cl450, Ar450, q450, S450, Nn450, H450, G450⟩ := id A_b448
      refine own_jW 66 [.int 6, (.int (u1 &&& (2147483647 : Int32))), .ref b448] (fun t_ k_ => X448.arraylength hx (by rw [e448]; exact Ar450.1) (State.isArrayOf_alike hZ.alike Ar450.2.1) (g := (mkF mM 65 Lv449 [.ref b448, (.int (u1 &&& (2147483647 : Int32))), .ref b448])) rfl rfl (hb hby at_65) t_ (by rw [len_of S450 Nn450]; exact k_)) ?_
      refine own_jW 67 [(.int ((u1 &&& (2147483647 : Int32)) % (6 : Int32))), .ref b448] (fun t_ k_ => iremM X448 hx rfl (hb hby at_66) rfl (by decide) k_) ?_
      refine o_iloadW 69 X448 hx (hb hby at_67) rfl rfl ?_
      rcases own_mod6 u1 with q451 | q451 | q451 | q451 | q451 | q451
      · rw [q451]
        exact J69_0_0 hw X448 hx hZ hby hml hown hlk hret hS hk e448 N448 u0 u1 u2 mo 0 xc b448 k448' cs a1 a2 a3 t cl y1 y2 y3 A_b448 g_b448 Zn O S_cs hcs hcw hh39 hh49 hh54 hh7 S_BEFORE S_MEETS S_CONCURRENT S_V Ar Ex FC sz el0 el1 el2 Fk1 Fk2 Fk3 SX1 SX2 SX3 cxc hI
      · rw [q451]
        exact J69_0_1 hw X448 hx hZ hby hml hown hlk hret hS hk e448 N448 u0 u1 u2 mo 0 xc b448 k448' cs a1 a2 a3 t cl y1 y2 y3 A_b448 g_b448 Zn O S_cs hcs hcw hh39 hh49 hh54 hh7 S_BEFORE S_MEETS S_CONCURRENT S_V Ar Ex FC sz el0 el1 el2 Fk1 Fk2 Fk3 SX1 SX2 SX3 cxc hI
      · rw [q451]
        exact J69_0_2 hw X448 hx hZ hby hml hown hlk hret hS hk e448 N448 u0 u1 u2 mo 0 xc b448 k448' cs a1 a2 a3 t cl y1 y2 y3 A_b448 g_b448 Zn O S_cs hcs hcw hh39 hh49 hh54 hh7 S_BEFORE S_MEETS S_CONCURRENT S_V Ar Ex FC sz el0 el1 el2 Fk1 Fk2 Fk3 SX1 SX2 SX3 cxc hI
      · rw [q451]
        exact J69_0_3 hw X448 hx hZ hby hml hown hlk hret hS hk e448 N448 u0 u1 u2 mo 0 xc b448 k448' cs a1 a2 a3 t cl y1 y2 y3 A_b448 g_b448 Zn O S_cs hcs hcw hh39 hh49 hh54 hh7 S_BEFORE S_MEETS S_CONCURRENT S_V Ar Ex FC sz el0 el1 el2 Fk1 Fk2 Fk3 SX1 SX2 SX3 cxc hI
      · rw [q451]
        exact J69_0_4 hw X448 hx hZ hby hml hown hlk hret hS hk e448 N448 u0 u1 u2 mo 0 xc b448 k448' cs a1 a2 a3 t cl y1 y2 y3 A_b448 g_b448 Zn O S_cs hcs hcw hh39 hh49 hh54 hh7 S_BEFORE S_MEETS S_CONCURRENT S_V Ar Ex FC sz el0 el1 el2 Fk1 Fk2 Fk3 SX1 SX2 SX3 cxc hI
      · rw [q451]
        exact J69_0_5 hw X448 hx hZ hby hml hown hlk hret hS hk e448 N448 u0 u1 u2 mo 0 xc b448 k448' cs a1 a2 a3 t cl y1 y2 y3 A_b448 g_b448 Zn O S_cs hcs hcw hh39 hh49 hh54 hh7 S_BEFORE S_MEETS S_CONCURRENT S_V Ar Ex FC sz el0 el1 el2 Fk1 Fk2 Fk3 SX1 SX2 SX3 cxc hI
    · skip
      refine o_icmpYesW 84 X0 hx (hb hby at_47) (feq hc47_447).2 (by decide) ?_
      refine o_iloadNW 85 X0 hx (hb hby at_84) rfl rfl ?_
      refine o_iconstW 86 2 X0 hx (hb hby at_85) rfl rfl ?_
      by_cases hc86_452 : mo = (2 : Int32)
      · skip
        refine o_icmpNoW 89 X0 hx (hb hby at_86) (teq hc86_452).2 rfl ?_
        obtain ⟨T453, h453, X453, e453, E453, A453, D453, -, st453⟩ := newO X0 hx hZ hown (ow hw 1 rfl) (ow hw 2 rfl) (ow hw 3 rfl) e0 (g := (mkF mM 89 #[.val (.int u0), .val (.int u1), .val (.int u2), .val (.int mo), .val (.int 0), .val (.int xc), .unset, .unset] [])) rfl (hb hby at_89) (by decide) (by decide)
        obtain ⟨b453, g453⟩ : ∃ z, z = h0.size := ⟨_, rfl⟩
        rw [← g453] at A453 D453 st453
        have g_b453 : n0 ≤ b453 := Nat.le_trans Zn (Nat.le_of_eq g453.symm)
        have O := O.ext E453
        have hk := Nat.le_trans hk E453.1
        have Zn := Nat.le_trans Zn E453.1
        have E_b453 := A453
        have F_b453_coder : Fld Z h453 b453 "java/lang/String" "coder" "B" (.int 0) := D453 (Or.inr (ow hw 32 rfl)) (ty := .byte) (by decide)
        have F_b453_value : Fld Z h453 b453 "java/lang/String" "value" "[B" .null := D453 (Or.inr (ow hw 34 rfl)) (ty := (.array .byte)) (by decide)
        refine own_kW T453 92 [.ref b453] st453 ?_
        refine o_dupW 93 X453 hx (hb hby at_92) rfl rfl ?_
        refine o_iloadW 95 X453 hx (hb hby at_93) rfl rfl ?_
        refine o_iloadW 97 X453 hx (hb hby at_95) rfl rfl ?_
        obtain ⟨_, _, ⟨T454, L454, k454, n454⟩, -, X454, ⟨Lc454, hQ454, l454, y454, z454⟩, st454⟩ := Jvm.LawKit.callS X453 hx (y := yn16) hown (mvT hZ (ow hw 79 rfl)) (mvT hZ (ow hw 80 rfl)) (mvT hZ (ow hw 6 rfl)) (mvT hZ (ow hw 81 rfl)) (by decide) (backOf (W := 2) (rm_extended0 lL Z a0 hw [] xc h453 n0 Zn cxc) hZ (ow hw 81 rfl) (ow hw 6 rfl) (by decide) (by decide)) (g := (mkF mM 97 #[.val (.int u0), .val (.int u1), .val (.int u2), .val (.int mo), .val (.int 0), .val (.int xc), .unset, .unset] [.int xc, .int 0, .ref b453, .ref b453])) rfl (by rw [hml]; rfl) (argsL := [.int 0, .int xc]) (rest := [.ref b453, .ref b453]) (lenOf pd__28IC_29_5bC rfl) rfl (by show 2 * 0 + _ ≤ _; exact Nat.le_of_eq rfl) (hb hby at_97) (fun _ _ => ⟨rfl, e453, (by decide : 1 + 1 ≤ _), (by decide : 4 + 7 ≤ _)⟩)
        dsimp only [Pt.U, Pt.locs, Pt.cells, Pt.slots] at X454 l454 y454 z454 st454 hQ454
        subst l454 y454 z454
        obtain ⟨b454, k454', rfl, N454q, E454, V454, ge454⟩ := hQ454
        have N454 := Fr.app N0 N454q
        have e454 : T454.heap = T454.heap := rfl
        refine own_kW T454 100 [.ref b454, .ref b453, .ref b453] st454 ?_
        have ne_b453_b454 : b453 ≠ b454 := Nat.ne_of_lt (Nat.lt_of_lt_of_le E_b453.lt ge454)
        have g_b454 : n0 ≤ b454 := Nat.le_trans Zn ge454
        have F_b453_coder := F_b453_coder.ext E454
        have F_b453_value := F_b453_value.ext E454
        have E_b453 := E_b453.ext E454
        have O := O.ext E454
        have hk := Nat.le_trans hk E454.1
        have Zn := Nat.le_trans Zn E454.1
        have A_b454 := V454
        obtain ⟨_, _, ⟨T455, L455, k455, n455⟩, -, X455, ⟨Lc455, hQ455, l455, y455, z455⟩, st455⟩ := X454.specialBack hx (y := yn9) rfl hown (mvT hZ (ow hw 9 rfl)) (mvT hZ (ow hw 10 rfl)) (mvT hZ (ow hw 11 rfl)) (by decide) (backOf (W := 1) (rmS1_7 lL Z a0 hw [] b453 b454 k454' cs ((98 : Int32)) ((101 : Int32)) ((102 : Int32)) ((111 : Int32)) ((114 : Int32)) ((101 : Int32)) (xc) T454.heap n0 g_b453 E_b453 F_b453_value F_b453_coder A_b454 (Ne.symm ne_b453_b454) O Zn S_cs hcs (⟨by decide, by decide, by decide⟩ : Ck _) (⟨by decide, by decide, by decide⟩ : Ck _) (⟨by decide, by decide, by decide⟩ : Ck _) (⟨by decide, by decide, by decide⟩ : Ck _) (⟨by decide, by decide, by decide⟩ : Ck _) (⟨by decide, by decide, by decide⟩ : Ck _) cxc) hZ (ow hw 11 rfl) (ow hw 3 rfl) (by decide) (by decide)) (g := (mkF mM 100 #[.val (.int u0), .val (.int u1), .val (.int u2), .val (.int mo), .val (.int 0), .val (.int xc), .unset, .unset] [.ref b454, .ref b453, .ref b453])) rfl (by rw [hml]; rfl) (Steps.refl _) (a := b453) (argsL := [.ref b454]) (rest := [.ref b453]) (lenOf pd__28_5bC_29V rfl) rfl (by show 2 * 0 + _ ≤ _; exact Nat.le_of_eq rfl) (hb hby at_100) (fun _ _ => ⟨rfl, e454, (by decide : 2 + 1 ≤ _), (by decide : 11 + 7 ≤ _)⟩)
        dsimp only [Pt.U, Pt.locs, Pt.cells, Pt.slots] at X455 l455 y455 z455 st455 hQ455
        subst l455 y455 z455
        obtain ⟨d455, k455', rfl, N455q, K455, str455, ge455⟩ := hQ455
        have N455 := Fr.app N454 N455q
        have e455 : T455.heap = T455.heap := rfl
        refine own_kW T455 103 [.ref b453] (fun t_ k_ => st455.trans k_) ?_
        have E_b453 := E_b453.keep K455
        have A_b454 := A_b454.keep K455 (ninS (Ne.symm ne_b453_b454) nin0)
        have hk := Nat.le_trans hk K455.1
        have O := O.keep K455 (allS g_b453 all0)
        have Zn := Nat.le_trans Zn K455.1
        let Lv456 : Array Slot := #[.val (.int u0), .val (.int u1), .val (.int u2), .val (.int mo), .val (.int 0), .val (.int xc), .val (.ref b453), .unset]
        refine own_stW (A := T455.setTop (mkF mM 105 Lv456 [])) (fun t_ k_ => XS.astore X455.here hx rfl (hb hby at_103) rfl rfl (l' := Lv456) rfl k_) ?_
        refine o_gotoW 150 X455 hx (hb hby at_105) (by decide) ?_
        exact J150u hw (X455.more (by decide) (by decide)) hx hZ hby hml hown hlk hret hS hk e455 N455 u0 u1 u2 mo (0 : Int32) xc b453 [((((98 : Int32)).toInt8.toInt32)).toInt8.toInt32, ((((101 : Int32)).toInt8.toInt32)).toInt8.toInt32, ((((102 : Int32)).toInt8.toInt32)).toInt8.toInt32, ((((111 : Int32)).toInt8.toInt32)).toInt8.toInt32, ((((114 : Int32)).toInt8.toInt32)).toInt8.toInt32, ((((101 : Int32)).toInt8.toInt32)).toInt8.toInt32, (((xc).toInt8.toInt32)).toInt8.toInt32] cs a1 a2 a3 t cl y1 y2 y3 (⟨_, _, _, str455, rfl⟩ : StrX _ _ _ [((((98 : Int32)).toInt8.toInt32)).toInt8.toInt32, ((((101 : Int32)).toInt8.toInt32)).toInt8.toInt32, ((((102 : Int32)).toInt8.toInt32)).toInt8.toInt32, ((((111 : Int32)).toInt8.toInt32)).toInt8.toInt32, ((((114 : Int32)).toInt8.toInt32)).toInt8.toInt32, ((((101 : Int32)).toInt8.toInt32)).toInt8.toInt32, (((xc).toInt8.toInt32)).toInt8.toInt32]) O S_cs hcs hcw hh39 hh49 hh54 hh7 S_BEFORE S_MEETS S_CONCURRENT S_V Ar Ex FC sz el0 el1 el2 Fk1 Fk2 Fk3 SX1 SX2 SX3 (own_IBw hI (fun _ q => by cases q))
      · skip
        refine o_icmpYesW 108 X0 hx (hb hby at_86) (feq hc86_452).2 (by decide) ?_
        refine o_iloadNW 109 X0 hx (hb hby at_108) rfl rfl ?_
        refine o_iconstW 110 3 X0 hx (hb hby at_109) rfl rfl ?_
        by_cases hc110_457 : mo = (3 : Int32)
        · skip
          refine o_icmpNoW 113 X0 hx (hb hby at_110) (teq hc110_457).2 rfl ?_
          obtain ⟨T458, h458, X458, e458, E458, A458, D458, -, st458⟩ := newO X0 hx hZ hown (ow hw 1 rfl) (ow hw 2 rfl) (ow hw 3 rfl) e0 (g := (mkF mM 113 #[.val (.int u0), .val (.int u1), .val (.int u2), .val (.int mo), .val (.int 0), .val (.int xc), .unset, .unset] [])) rfl (hb hby at_113) (by decide) (by decide)
          obtain ⟨b458, g458⟩ : ∃ z, z = h0.size := ⟨_, rfl⟩
          rw [← g458] at A458 D458 st458
          have g_b458 : n0 ≤ b458 := Nat.le_trans Zn (Nat.le_of_eq g458.symm)
          have O := O.ext E458
          have hk := Nat.le_trans hk E458.1
          have Zn := Nat.le_trans Zn E458.1
          have E_b458 := A458
          have F_b458_coder : Fld Z h458 b458 "java/lang/String" "coder" "B" (.int 0) := D458 (Or.inr (ow hw 32 rfl)) (ty := .byte) (by decide)
          have F_b458_value : Fld Z h458 b458 "java/lang/String" "value" "[B" .null := D458 (Or.inr (ow hw 34 rfl)) (ty := (.array .byte)) (by decide)
          refine own_kW T458 116 [.ref b458] st458 ?_
          refine o_dupW 117 X458 hx (hb hby at_116) rfl rfl ?_
          refine o_iloadW 119 X458 hx (hb hby at_117) rfl rfl ?_
          obtain ⟨_, _, ⟨T459, L459, k459, n459⟩, -, X459, ⟨Lc459, hQ459, l459, y459, z459⟩, st459⟩ := Jvm.LawKit.callS X458 hx (y := yn17) hown (mvT hZ (ow hw 82 rfl)) (mvT hZ (ow hw 83 rfl)) (mvT hZ (ow hw 6 rfl)) (mvT hZ (ow hw 84 rfl)) (by decide) (backOf (W := 2) (rm_truncated0 lL Z a0 hw []  h458 n0 Zn) hZ (ow hw 84 rfl) (ow hw 6 rfl) (by decide) (by decide)) (g := (mkF mM 119 #[.val (.int u0), .val (.int u1), .val (.int u2), .val (.int mo), .val (.int 0), .val (.int xc), .unset, .unset] [.int 0, .ref b458, .ref b458])) rfl (by rw [hml]; rfl) (argsL := [.int 0]) (rest := [.ref b458, .ref b458]) (lenOf pd__28I_29_5bC rfl) rfl (by show 2 * 0 + _ ≤ _; exact Nat.le_of_eq rfl) (hb hby at_119) (fun _ _ => ⟨rfl, e458, (by decide : 1 + 1 ≤ _), (by decide : 4 + 5 ≤ _)⟩)
          dsimp only [Pt.U, Pt.locs, Pt.cells, Pt.slots] at X459 l459 y459 z459 st459 hQ459
          subst l459 y459 z459
          obtain ⟨b459, k459', rfl, N459q, E459, V459, ge459⟩ := hQ459
          have N459 := Fr.app N0 N459q
          have e459 : T459.heap = T459.heap := rfl
          refine own_kW T459 122 [.ref b459, .ref b458, .ref b458] st459 ?_
          have ne_b458_b459 : b458 ≠ b459 := Nat.ne_of_lt (Nat.lt_of_lt_of_le E_b458.lt ge459)
          have g_b459 : n0 ≤ b459 := Nat.le_trans Zn ge459
          have F_b458_coder := F_b458_coder.ext E459
          have F_b458_value := F_b458_value.ext E459
          have E_b458 := E_b458.ext E459
          have O := O.ext E459
          have hk := Nat.le_trans hk E459.1
          have Zn := Nat.le_trans Zn E459.1
          have A_b459 := V459
          obtain ⟨_, _, ⟨T460, L460, k460, n460⟩, -, X460, ⟨Lc460, hQ460, l460, y460, z460⟩, st460⟩ := X459.specialBack hx (y := yn9) rfl hown (mvT hZ (ow hw 9 rfl)) (mvT hZ (ow hw 10 rfl)) (mvT hZ (ow hw 11 rfl)) (by decide) (backOf (W := 1) (rmS1_5 lL Z a0 hw [] b458 b459 k459' cs ((98 : Int32)) ((101 : Int32)) ((102 : Int32)) ((111 : Int32)) ((114 : Int32)) T459.heap n0 g_b458 E_b458 F_b458_value F_b458_coder A_b459 (Ne.symm ne_b458_b459) O Zn S_cs hcs (⟨by decide, by decide, by decide⟩ : Ck _) (⟨by decide, by decide, by decide⟩ : Ck _) (⟨by decide, by decide, by decide⟩ : Ck _) (⟨by decide, by decide, by decide⟩ : Ck _) (⟨by decide, by decide, by decide⟩ : Ck _)) hZ (ow hw 11 rfl) (ow hw 3 rfl) (by decide) (by decide)) (g := (mkF mM 122 #[.val (.int u0), .val (.int u1), .val (.int u2), .val (.int mo), .val (.int 0), .val (.int xc), .unset, .unset] [.ref b459, .ref b458, .ref b458])) rfl (by rw [hml]; rfl) (Steps.refl _) (a := b458) (argsL := [.ref b459]) (rest := [.ref b458]) (lenOf pd__28_5bC_29V rfl) rfl (by show 2 * 0 + _ ≤ _; exact Nat.le_of_eq rfl) (hb hby at_122) (fun _ _ => ⟨rfl, e459, (by decide : 2 + 1 ≤ _), (by decide : 9 + 5 ≤ _)⟩)
          dsimp only [Pt.U, Pt.locs, Pt.cells, Pt.slots] at X460 l460 y460 z460 st460 hQ460
          subst l460 y460 z460
          obtain ⟨d460, k460', rfl, N460q, K460, str460, ge460⟩ := hQ460
          have N460 := Fr.app N459 N460q
          have e460 : T460.heap = T460.heap := rfl
          refine own_kW T460 125 [.ref b458] (fun t_ k_ => st460.trans k_) ?_
          have E_b458 := E_b458.keep K460
          have A_b459 := A_b459.keep K460 (ninS (Ne.symm ne_b458_b459) nin0)
          have hk := Nat.le_trans hk K460.1
          have O := O.keep K460 (allS g_b458 all0)
          have Zn := Nat.le_trans Zn K460.1
          let Lv461 : Array Slot := #[.val (.int u0), .val (.int u1), .val (.int u2), .val (.int mo), .val (.int 0), .val (.int xc), .val (.ref b458), .unset]
          refine own_stW (A := T460.setTop (mkF mM 127 Lv461 [])) (fun t_ k_ => XS.astore X460.here hx rfl (hb hby at_125) rfl rfl (l' := Lv461) rfl k_) ?_
          refine o_gotoW 150 X460 hx (hb hby at_127) (by decide) ?_
          exact J150u hw (X460.more (by decide) (by decide)) hx hZ hby hml hown hlk hret hS hk e460 N460 u0 u1 u2 mo (0 : Int32) xc b458 [((((98 : Int32)).toInt8.toInt32)).toInt8.toInt32, ((((101 : Int32)).toInt8.toInt32)).toInt8.toInt32, ((((102 : Int32)).toInt8.toInt32)).toInt8.toInt32, ((((111 : Int32)).toInt8.toInt32)).toInt8.toInt32, ((((114 : Int32)).toInt8.toInt32)).toInt8.toInt32] cs a1 a2 a3 t cl y1 y2 y3 (⟨_, _, _, str460, rfl⟩ : StrX _ _ _ [((((98 : Int32)).toInt8.toInt32)).toInt8.toInt32, ((((101 : Int32)).toInt8.toInt32)).toInt8.toInt32, ((((102 : Int32)).toInt8.toInt32)).toInt8.toInt32, ((((111 : Int32)).toInt8.toInt32)).toInt8.toInt32, ((((114 : Int32)).toInt8.toInt32)).toInt8.toInt32]) O S_cs hcs hcw hh39 hh49 hh54 hh7 S_BEFORE S_MEETS S_CONCURRENT S_V Ar Ex FC sz el0 el1 el2 Fk1 Fk2 Fk3 SX1 SX2 SX3 (own_IBw hI (fun _ q => by cases q))
        · skip
          refine o_icmpYesW 130 X0 hx (hb hby at_110) (feq hc110_457).2 (by decide) ?_
          refine o_iloadNW 131 X0 hx (hb hby at_130) rfl rfl ?_
          refine o_iconstW 132 4 X0 hx (hb hby at_131) rfl rfl ?_
          by_cases hc132_462 : mo = (4 : Int32)
          · skip
            refine o_icmpNoW 135 X0 hx (hb hby at_132) (teq hc132_462).2 rfl ?_
            refine o_iloadNW 136 X0 hx (hb hby at_135) rfl rfl ?_
            refine o_iconstW 137 3 X0 hx (hb hby at_136) rfl rfl ?_
            refine own_jW 138 [(.int (u1 &&& (3 : Int32)))] (fun t_ k_ => XS.iand X0.here hx rfl (hb hby at_137) rfl k_) ?_
            refine o_iloadNW 139 X0 hx (hb hby at_138) rfl rfl ?_
            rcases own_and3 u1 with q463 | q463 | q463 | q463
            · rw [q463]
              exact J139_0 hw X0 hx hZ hby hml hown hlk hret hS hk e0 N0 u0 u1 u2 mo (0 : Int32) xc cs a1 a2 a3 t cl y1 y2 y3 Zn O S_cs hcs hcw hh39 hh49 hh54 hh7 S_BEFORE S_MEETS S_CONCURRENT S_V Ar Ex FC sz el0 el1 el2 Fk1 Fk2 Fk3 SX1 SX2 SX3 cxc hI
            · rw [q463]
              exact J139_1 hw X0 hx hZ hby hml hown hlk hret hS hk e0 N0 u0 u1 u2 mo (0 : Int32) xc cs a1 a2 a3 t cl y1 y2 y3 Zn O S_cs hcs hcw hh39 hh49 hh54 hh7 S_BEFORE S_MEETS S_CONCURRENT S_V Ar Ex FC sz el0 el1 el2 Fk1 Fk2 Fk3 SX1 SX2 SX3 cxc hI
            · rw [q463]
              exact J139_2 hw X0 hx hZ hby hml hown hlk hret hS hk e0 N0 u0 u1 u2 mo (0 : Int32) xc cs a1 a2 a3 t cl y1 y2 y3 Zn O S_cs hcs hcw hh39 hh49 hh54 hh7 S_BEFORE S_MEETS S_CONCURRENT S_V Ar Ex FC sz el0 el1 el2 Fk1 Fk2 Fk3 SX1 SX2 SX3 cxc hI
            · rw [q463]
              exact J139_3 hw X0 hx hZ hby hml hown hlk hret hS hk e0 N0 u0 u1 u2 mo (0 : Int32) xc cs a1 a2 a3 t cl y1 y2 y3 Zn O S_cs hcs hcw hh39 hh49 hh54 hh7 S_BEFORE S_MEETS S_CONCURRENT S_V Ar Ex FC sz el0 el1 el2 Fk1 Fk2 Fk3 SX1 SX2 SX3 cxc hI
          · skip
            refine o_icmpYesW 147 X0 hx (hb hby at_132) (feq hc132_462).2 (by decide) ?_
            refine own_jW 148 [.null] (fun t_ k_ => XS.aconstNull X0.here hx rfl (hb hby at_147) k_) ?_
            let Lv464 : Array Slot := #[.val (.int u0), .val (.int u1), .val (.int u2), .val (.int mo), .val (.int 0), .val (.int xc), .val .null, .unset]
            refine own_stW (A := T0.setTop (mkF mM 150 Lv464 [])) (fun t_ k_ => XS.astore X0.here hx rfl (hb hby at_148) rfl rfl (l' := Lv464) rfl k_) ?_
            exact J150n hw (X0.more (by decide) (by decide)) hx hZ hby hml hown hlk hret hS hk e0 N0 u0 u1 u2 mo (0 : Int32) xc cs a1 a2 a3 t cl y1 y2 y3 O S_cs hcs hcw hh39 hh49 hh54 hh7 S_BEFORE S_MEETS S_CONCURRENT S_V Ar Ex FC sz el0 el1 el2 Fk1 Fk2 Fk3 SX1 SX2 SX3
theorem J69_1_0 {vmV : Vm} (hw : own_tb a0 Z) (X0 : Stand pP lL eE room_1 (sS.setVm vmV) mM args below meth cC T0 locs 1 5) (hx : pP.tables.exec = Jvm.exec) (hZ : Z.Warmed39 (sS.setVm vmV).vm) (hby : cC.code = code) (hml : cC.maxLocals = 8) (hown : (sS.setVm vmV).vm.findClass "com/example/slotwright/slotwright/model/LinkTypeOfKeyPinLaw" = some mM.cls) (hlk : meth.locks = false) (hret : meth.sig.returnType = ret) {kV : Nat} (hS : sS.Since vmV kV) (hk : kV ≤ h0.size) (e0 : T0.heap = h0) (N0 : Fr n0 locs) (u0 : Int32) (u1 : Int32) (u2 : Int32) (mo : Int32) (kk : Int32) (xc : Int32) (tt : Addr) (kt : ClassId) (cs : Int32) (a1 : Addr) (a2 : Addr) (a3 : Addr) (t : Addr) (cl : Cell) (y1 : Addr) (y2 : Addr) (y3 : Addr) (A_tt : Arv Z h0 tt kt .char 5 [.int 109, .int 101, .int 101, .int 116, .int 115] (.int 0)) (g_tt : n0 ≤ tt) (Zn : n0 ≤ h0.size) (O : Old Z n0 h0) (S_cs : Sta Z Z.heap "java/lang/String" "COMPACT_STRINGS" "Z" (.int cs)) (hcs : ¬ cs = (0 : Int32)) (hcw : Jvm.Lit.compactW.before a0 Z = true) (hh39 : Jvm.Lit.constHeld Z "com/example/slotwright/slotwright/model/LinkTypeOfKeyPinLaw" 39) (hh49 : Jvm.Lit.constHeld Z "com/example/slotwright/slotwright/model/LinkTypeOfKeyPinLaw" 49) (hh54 : Jvm.Lit.constHeld Z "com/example/slotwright/slotwright/model/LinkTypeOfKeyPinLaw" 54) (hh7 : Jvm.Lit.constHeld Z "java/lang/String" 7) (S_BEFORE : Sta Z Z.heap "com/example/slotwright/slotwright/model/LinkType" "BEFORE" "Lcom/example/slotwright/slotwright/model/LinkType;" (.ref a1)) (S_MEETS : Sta Z Z.heap "com/example/slotwright/slotwright/model/LinkType" "MEETS" "Lcom/example/slotwright/slotwright/model/LinkType;" (.ref a2)) (S_CONCURRENT : Sta Z Z.heap "com/example/slotwright/slotwright/model/LinkType" "CONCURRENT" "Lcom/example/slotwright/slotwright/model/LinkType;" (.ref a3)) (S_V : Sta Z Z.heap "com/example/slotwright/slotwright/model/LinkType" "$VALUES" "[Lcom/example/slotwright/slotwright/model/LinkType;" (.ref t)) (Ar : Arr Z Z.heap t cl (.object "com/example/slotwright/slotwright/model/LinkType")) (Ex : Exa Z Z.heap t "[Lcom/example/slotwright/slotwright/model/LinkType;") (FC : FitC Z cl) (sz : cl.slots.size = (3 : Int32).toNatClampNeg) (el0 : cl.slots[(0 : Int32).toNatClampNeg]? = some (.ref a1)) (el1 : cl.slots[(1 : Int32).toNatClampNeg]? = some (.ref a2)) (el2 : cl.slots[(2 : Int32).toNatClampNeg]? = some (.ref a3)) (Fk1 : Fld Z Z.heap a1 "com/example/slotwright/slotwright/model/LinkType" "key" "Ljava/lang/String;" (.ref y1)) (Fk2 : Fld Z Z.heap a2 "com/example/slotwright/slotwright/model/LinkType" "key" "Ljava/lang/String;" (.ref y2)) (Fk3 : Fld Z Z.heap a3 "com/example/slotwright/slotwright/model/LinkType" "key" "Ljava/lang/String;" (.ref y3)) (SX1 : StrX Z Z.heap y1 bB) (SX2 : StrX Z Z.heap y2 bM) (SX3 : StrX Z Z.heap y3 bC) (cxc : Ck xc) (hI : IB Z vmV []) :
    own_GoW pP eE below sS (QLaw n0) 24 4288 (T0.setTop (mkF mM 69 #[.val (.int u0), .val (.int u1), .val (.int u2), .val (.int mo), .val (.int kk), .val (.int xc), .unset, .val (.ref tt)] [.int xc, .int 0, .ref tt])) := by
  obtain ⟨cl465, Ar465, q465, S465, Nn465, H465, G465⟩ := id A_tt
  obtain ⟨T466, h466, X466, e466, W466, st466⟩ := stC X0 hx hZ e0 Ar465 (j := (0 : Int32)) (inb_of S465 ⟨by decide, by decide⟩) (g := (mkF mM 69 #[.val (.int u0), .val (.int u1), .val (.int u2), .val (.int mo), .val (.int kk), .val (.int xc), .unset, .val (.ref tt)] [.int xc, .int 0, .ref tt])) rfl rfl (hb hby at_69)
  have N466 := Fr.snoc X466 N0 g_tt
  have hk := Nat.le_trans hk (Keep.of_wr W466).1
  have O := O.wr W466 g_tt
  have Zn := Nat.le_trans Zn (Keep.of_wr W466).1
  have A_tt : Arv Z h466 tt kt .char 5 [(.int (nar .char xc)), .int 101, .int 101, .int 116, .int 115] (.int 0) := Arv.set Ar465 q465 S465 Nn465 H465 G465 (fits_nar_char _) W466 0 rfl (Nat.le_of_ble_eq_true rfl)
  refine own_kW T466 70 [] st466 ?_
  rw [show nar .char xc = xc from cxc.1] at A_tt
  obtain ⟨T467, h467, X467, e467, E467, A467, D467, -, st467⟩ := newO X466 hx hZ hown (ow hw 1 rfl) (ow hw 2 rfl) (ow hw 3 rfl) e466 (g := (mkF mM 70 #[.val (.int u0), .val (.int u1), .val (.int u2), .val (.int mo), .val (.int kk), .val (.int xc), .unset, .val (.ref tt)] [])) rfl (hb hby at_70) (by decide) (by decide)
  obtain ⟨b467, g467⟩ : ∃ z, z = h466.size := ⟨_, rfl⟩
  rw [← g467] at A467 D467 st467
  have ne_tt_b467 : tt ≠ b467 := Nat.ne_of_lt (Nat.lt_of_lt_of_le A_tt.lt (Nat.le_of_eq g467.symm))
  have g_b467 : n0 ≤ b467 := Nat.le_trans Zn (Nat.le_of_eq g467.symm)
  have O := O.ext E467
  have A_tt := A_tt.ext E467
  have hk := Nat.le_trans hk E467.1
  have Zn := Nat.le_trans Zn E467.1
  have E_b467 := A467
  have F_b467_coder : Fld Z h467 b467 "java/lang/String" "coder" "B" (.int 0) := D467 (Or.inr (ow hw 32 rfl)) (ty := .byte) (by decide)
  have F_b467_value : Fld Z h467 b467 "java/lang/String" "value" "[B" .null := D467 (Or.inr (ow hw 34 rfl)) (ty := (.array .byte)) (by decide)
  refine own_kW T467 73 [.ref b467] st467 ?_
  refine o_dupW 74 X467 hx (hb hby at_73) rfl rfl ?_
  refine o_aloadW 76 X467 hx (hb hby at_74) rfl rfl rfl ?_
  obtain ⟨_, _, ⟨T468, L468, k468, n468⟩, -, X468, ⟨Lc468, hQ468, l468, y468, z468⟩, st468⟩ := X467.specialBack hx (y := yn9) rfl hown (mvT hZ (ow hw 9 rfl)) (mvT hZ (ow hw 10 rfl)) (mvT hZ (ow hw 11 rfl)) (by decide) (backOf (W := 1) (rmS1_5 lL Z a0 hw [] b467 tt kt cs (xc) ((101 : Int32)) ((101 : Int32)) ((116 : Int32)) ((115 : Int32)) h467 n0 g_b467 E_b467 F_b467_value F_b467_coder A_tt ne_tt_b467 O Zn S_cs hcs cxc (⟨by decide, by decide, by decide⟩ : Ck _) (⟨by decide, by decide, by decide⟩ : Ck _) (⟨by decide, by decide, by decide⟩ : Ck _) (⟨by decide, by decide, by decide⟩ : Ck _)) hZ (ow hw 11 rfl) (ow hw 3 rfl) (by decide) (by decide)) (g := (mkF mM 76 #[.val (.int u0), .val (.int u1), .val (.int u2), .val (.int mo), .val (.int kk), .val (.int xc), .unset, .val (.ref tt)] [.ref tt, .ref b467, .ref b467])) rfl (by rw [hml]; rfl) (Steps.refl _) (a := b467) (argsL := [.ref tt]) (rest := [.ref b467]) (lenOf pd__28_5bC_29V rfl) rfl (by show 2 * 0 + _ ≤ _; exact Nat.le_of_eq rfl) (hb hby at_76) (fun _ _ => ⟨rfl, e467, (by decide : 2 + 1 ≤ _), (by decide : 9 + 5 ≤ _)⟩)
  dsimp only [Pt.U, Pt.locs, Pt.cells, Pt.slots] at X468 l468 y468 z468 st468 hQ468
  subst l468 y468 z468
  obtain ⟨d468, k468', rfl, N468q, K468, str468, ge468⟩ := hQ468
  have N468 := Fr.app N466 N468q
  have e468 : T468.heap = T468.heap := rfl
  refine own_kW T468 79 [.ref b467] (fun t_ k_ => st468.trans k_) ?_
  have E_b467 := E_b467.keep K468
  have A_tt := A_tt.keep K468 (ninS ne_tt_b467 nin0)
  have hk := Nat.le_trans hk K468.1
  have O := O.keep K468 (allS g_b467 all0)
  have Zn := Nat.le_trans Zn K468.1
  let Lv469 : Array Slot := #[.val (.int u0), .val (.int u1), .val (.int u2), .val (.int mo), .val (.int kk), .val (.int xc), .val (.ref b467), .val (.ref tt)]
  refine own_stW (A := T468.setTop (mkF mM 81 Lv469 [])) (fun t_ k_ => XS.astore X468.here hx rfl (hb hby at_79) rfl rfl (l' := Lv469) rfl k_) ?_
  refine o_gotoW 150 X468 hx (hb hby at_81) (by decide) ?_
  exact J150t hw (X468.more (by decide) (by decide)) hx hZ hby hml hown hlk hret hS hk e468 N468 u0 u1 u2 mo kk xc b467 [(((xc).toInt8.toInt32)).toInt8.toInt32, ((((101 : Int32)).toInt8.toInt32)).toInt8.toInt32, ((((101 : Int32)).toInt8.toInt32)).toInt8.toInt32, ((((116 : Int32)).toInt8.toInt32)).toInt8.toInt32, ((((115 : Int32)).toInt8.toInt32)).toInt8.toInt32] tt cs a1 a2 a3 t cl y1 y2 y3 (⟨_, _, _, str468, rfl⟩ : StrX _ _ _ [(((xc).toInt8.toInt32)).toInt8.toInt32, ((((101 : Int32)).toInt8.toInt32)).toInt8.toInt32, ((((101 : Int32)).toInt8.toInt32)).toInt8.toInt32, ((((116 : Int32)).toInt8.toInt32)).toInt8.toInt32, ((((115 : Int32)).toInt8.toInt32)).toInt8.toInt32]) O S_cs hcs hcw hh39 hh49 hh54 hh7 S_BEFORE S_MEETS S_CONCURRENT S_V Ar Ex FC sz el0 el1 el2 Fk1 Fk2 Fk3 SX1 SX2 SX3 (own_IBw hI (fun _ q => by cases q))
theorem J69_1_1 {vmV : Vm} (hw : own_tb a0 Z) (X0 : Stand pP lL eE room_1 (sS.setVm vmV) mM args below meth cC T0 locs 1 5) (hx : pP.tables.exec = Jvm.exec) (hZ : Z.Warmed39 (sS.setVm vmV).vm) (hby : cC.code = code) (hml : cC.maxLocals = 8) (hown : (sS.setVm vmV).vm.findClass "com/example/slotwright/slotwright/model/LinkTypeOfKeyPinLaw" = some mM.cls) (hlk : meth.locks = false) (hret : meth.sig.returnType = ret) {kV : Nat} (hS : sS.Since vmV kV) (hk : kV ≤ h0.size) (e0 : T0.heap = h0) (N0 : Fr n0 locs) (u0 : Int32) (u1 : Int32) (u2 : Int32) (mo : Int32) (kk : Int32) (xc : Int32) (tt : Addr) (kt : ClassId) (cs : Int32) (a1 : Addr) (a2 : Addr) (a3 : Addr) (t : Addr) (cl : Cell) (y1 : Addr) (y2 : Addr) (y3 : Addr) (A_tt : Arv Z h0 tt kt .char 5 [.int 109, .int 101, .int 101, .int 116, .int 115] (.int 0)) (g_tt : n0 ≤ tt) (Zn : n0 ≤ h0.size) (O : Old Z n0 h0) (S_cs : Sta Z Z.heap "java/lang/String" "COMPACT_STRINGS" "Z" (.int cs)) (hcs : ¬ cs = (0 : Int32)) (hcw : Jvm.Lit.compactW.before a0 Z = true) (hh39 : Jvm.Lit.constHeld Z "com/example/slotwright/slotwright/model/LinkTypeOfKeyPinLaw" 39) (hh49 : Jvm.Lit.constHeld Z "com/example/slotwright/slotwright/model/LinkTypeOfKeyPinLaw" 49) (hh54 : Jvm.Lit.constHeld Z "com/example/slotwright/slotwright/model/LinkTypeOfKeyPinLaw" 54) (hh7 : Jvm.Lit.constHeld Z "java/lang/String" 7) (S_BEFORE : Sta Z Z.heap "com/example/slotwright/slotwright/model/LinkType" "BEFORE" "Lcom/example/slotwright/slotwright/model/LinkType;" (.ref a1)) (S_MEETS : Sta Z Z.heap "com/example/slotwright/slotwright/model/LinkType" "MEETS" "Lcom/example/slotwright/slotwright/model/LinkType;" (.ref a2)) (S_CONCURRENT : Sta Z Z.heap "com/example/slotwright/slotwright/model/LinkType" "CONCURRENT" "Lcom/example/slotwright/slotwright/model/LinkType;" (.ref a3)) (S_V : Sta Z Z.heap "com/example/slotwright/slotwright/model/LinkType" "$VALUES" "[Lcom/example/slotwright/slotwright/model/LinkType;" (.ref t)) (Ar : Arr Z Z.heap t cl (.object "com/example/slotwright/slotwright/model/LinkType")) (Ex : Exa Z Z.heap t "[Lcom/example/slotwright/slotwright/model/LinkType;") (FC : FitC Z cl) (sz : cl.slots.size = (3 : Int32).toNatClampNeg) (el0 : cl.slots[(0 : Int32).toNatClampNeg]? = some (.ref a1)) (el1 : cl.slots[(1 : Int32).toNatClampNeg]? = some (.ref a2)) (el2 : cl.slots[(2 : Int32).toNatClampNeg]? = some (.ref a3)) (Fk1 : Fld Z Z.heap a1 "com/example/slotwright/slotwright/model/LinkType" "key" "Ljava/lang/String;" (.ref y1)) (Fk2 : Fld Z Z.heap a2 "com/example/slotwright/slotwright/model/LinkType" "key" "Ljava/lang/String;" (.ref y2)) (Fk3 : Fld Z Z.heap a3 "com/example/slotwright/slotwright/model/LinkType" "key" "Ljava/lang/String;" (.ref y3)) (SX1 : StrX Z Z.heap y1 bB) (SX2 : StrX Z Z.heap y2 bM) (SX3 : StrX Z Z.heap y3 bC) (cxc : Ck xc) (hI : IB Z vmV []) :
    own_GoW pP eE below sS (QLaw n0) 24 4288 (T0.setTop (mkF mM 69 #[.val (.int u0), .val (.int u1), .val (.int u2), .val (.int mo), .val (.int kk), .val (.int xc), .unset, .val (.ref tt)] [.int xc, .int 1, .ref tt])) := by
  obtain ⟨cl470, Ar470, q470, S470, Nn470, H470, G470⟩ := id A_tt
  obtain ⟨T471, h471, X471, e471, W471, st471⟩ := stC X0 hx hZ e0 Ar470 (j := (1 : Int32)) (inb_of S470 ⟨by decide, by decide⟩) (g := (mkF mM 69 #[.val (.int u0), .val (.int u1), .val (.int u2), .val (.int mo), .val (.int kk), .val (.int xc), .unset, .val (.ref tt)] [.int xc, .int 1, .ref tt])) rfl rfl (hb hby at_69)
  have N471 := Fr.snoc X471 N0 g_tt
  have hk := Nat.le_trans hk (Keep.of_wr W471).1
  have O := O.wr W471 g_tt
  have Zn := Nat.le_trans Zn (Keep.of_wr W471).1
  have A_tt : Arv Z h471 tt kt .char 5 [.int 109, (.int (nar .char xc)), .int 101, .int 116, .int 115] (.int 0) := Arv.set Ar470 q470 S470 Nn470 H470 G470 (fits_nar_char _) W471 1 rfl (Nat.le_of_ble_eq_true rfl)
  refine own_kW T471 70 [] st471 ?_
  rw [show nar .char xc = xc from cxc.1] at A_tt
  obtain ⟨T472, h472, X472, e472, E472, A472, D472, -, st472⟩ := newO X471 hx hZ hown (ow hw 1 rfl) (ow hw 2 rfl) (ow hw 3 rfl) e471 (g := (mkF mM 70 #[.val (.int u0), .val (.int u1), .val (.int u2), .val (.int mo), .val (.int kk), .val (.int xc), .unset, .val (.ref tt)] [])) rfl (hb hby at_70) (by decide) (by decide)
  obtain ⟨b472, g472⟩ : ∃ z, z = h471.size := ⟨_, rfl⟩
  rw [← g472] at A472 D472 st472
  have ne_tt_b472 : tt ≠ b472 := Nat.ne_of_lt (Nat.lt_of_lt_of_le A_tt.lt (Nat.le_of_eq g472.symm))
  have g_b472 : n0 ≤ b472 := Nat.le_trans Zn (Nat.le_of_eq g472.symm)
  have O := O.ext E472
  have A_tt := A_tt.ext E472
  have hk := Nat.le_trans hk E472.1
  have Zn := Nat.le_trans Zn E472.1
  have E_b472 := A472
  have F_b472_coder : Fld Z h472 b472 "java/lang/String" "coder" "B" (.int 0) := D472 (Or.inr (ow hw 32 rfl)) (ty := .byte) (by decide)
  have F_b472_value : Fld Z h472 b472 "java/lang/String" "value" "[B" .null := D472 (Or.inr (ow hw 34 rfl)) (ty := (.array .byte)) (by decide)
  refine own_kW T472 73 [.ref b472] st472 ?_
  refine o_dupW 74 X472 hx (hb hby at_73) rfl rfl ?_
  refine o_aloadW 76 X472 hx (hb hby at_74) rfl rfl rfl ?_
  obtain ⟨_, _, ⟨T473, L473, k473, n473⟩, -, X473, ⟨Lc473, hQ473, l473, y473, z473⟩, st473⟩ := X472.specialBack hx (y := yn9) rfl hown (mvT hZ (ow hw 9 rfl)) (mvT hZ (ow hw 10 rfl)) (mvT hZ (ow hw 11 rfl)) (by decide) (backOf (W := 1) (rmS1_5 lL Z a0 hw [] b472 tt kt cs ((109 : Int32)) (xc) ((101 : Int32)) ((116 : Int32)) ((115 : Int32)) h472 n0 g_b472 E_b472 F_b472_value F_b472_coder A_tt ne_tt_b472 O Zn S_cs hcs (⟨by decide, by decide, by decide⟩ : Ck _) cxc (⟨by decide, by decide, by decide⟩ : Ck _) (⟨by decide, by decide, by decide⟩ : Ck _) (⟨by decide, by decide, by decide⟩ : Ck _)) hZ (ow hw 11 rfl) (ow hw 3 rfl) (by decide) (by decide)) (g := (mkF mM 76 #[.val (.int u0), .val (.int u1), .val (.int u2), .val (.int mo), .val (.int kk), .val (.int xc), .unset, .val (.ref tt)] [.ref tt, .ref b472, .ref b472])) rfl (by rw [hml]; rfl) (Steps.refl _) (a := b472) (argsL := [.ref tt]) (rest := [.ref b472]) (lenOf pd__28_5bC_29V rfl) rfl (by show 2 * 0 + _ ≤ _; exact Nat.le_of_eq rfl) (hb hby at_76) (fun _ _ => ⟨rfl, e472, (by decide : 2 + 1 ≤ _), (by decide : 9 + 5 ≤ _)⟩)
  dsimp only [Pt.U, Pt.locs, Pt.cells, Pt.slots] at X473 l473 y473 z473 st473 hQ473
  subst l473 y473 z473
  obtain ⟨d473, k473', rfl, N473q, K473, str473, ge473⟩ := hQ473
  have N473 := Fr.app N471 N473q
  have e473 : T473.heap = T473.heap := rfl
  refine own_kW T473 79 [.ref b472] (fun t_ k_ => st473.trans k_) ?_
  have E_b472 := E_b472.keep K473
  have A_tt := A_tt.keep K473 (ninS ne_tt_b472 nin0)
  have hk := Nat.le_trans hk K473.1
  have O := O.keep K473 (allS g_b472 all0)
  have Zn := Nat.le_trans Zn K473.1
  let Lv474 : Array Slot := #[.val (.int u0), .val (.int u1), .val (.int u2), .val (.int mo), .val (.int kk), .val (.int xc), .val (.ref b472), .val (.ref tt)]
  refine own_stW (A := T473.setTop (mkF mM 81 Lv474 [])) (fun t_ k_ => XS.astore X473.here hx rfl (hb hby at_79) rfl rfl (l' := Lv474) rfl k_) ?_
  refine o_gotoW 150 X473 hx (hb hby at_81) (by decide) ?_
  exact J150t hw (X473.more (by decide) (by decide)) hx hZ hby hml hown hlk hret hS hk e473 N473 u0 u1 u2 mo kk xc b472 [((((109 : Int32)).toInt8.toInt32)).toInt8.toInt32, (((xc).toInt8.toInt32)).toInt8.toInt32, ((((101 : Int32)).toInt8.toInt32)).toInt8.toInt32, ((((116 : Int32)).toInt8.toInt32)).toInt8.toInt32, ((((115 : Int32)).toInt8.toInt32)).toInt8.toInt32] tt cs a1 a2 a3 t cl y1 y2 y3 (⟨_, _, _, str473, rfl⟩ : StrX _ _ _ [((((109 : Int32)).toInt8.toInt32)).toInt8.toInt32, (((xc).toInt8.toInt32)).toInt8.toInt32, ((((101 : Int32)).toInt8.toInt32)).toInt8.toInt32, ((((116 : Int32)).toInt8.toInt32)).toInt8.toInt32, ((((115 : Int32)).toInt8.toInt32)).toInt8.toInt32]) O S_cs hcs hcw hh39 hh49 hh54 hh7 S_BEFORE S_MEETS S_CONCURRENT S_V Ar Ex FC sz el0 el1 el2 Fk1 Fk2 Fk3 SX1 SX2 SX3 (own_IBw hI (fun _ q => by cases q))
theorem J69_1_2 {vmV : Vm} (hw : own_tb a0 Z) (X0 : Stand pP lL eE room_1 (sS.setVm vmV) mM args below meth cC T0 locs 1 5) (hx : pP.tables.exec = Jvm.exec) (hZ : Z.Warmed39 (sS.setVm vmV).vm) (hby : cC.code = code) (hml : cC.maxLocals = 8) (hown : (sS.setVm vmV).vm.findClass "com/example/slotwright/slotwright/model/LinkTypeOfKeyPinLaw" = some mM.cls) (hlk : meth.locks = false) (hret : meth.sig.returnType = ret) {kV : Nat} (hS : sS.Since vmV kV) (hk : kV ≤ h0.size) (e0 : T0.heap = h0) (N0 : Fr n0 locs) (u0 : Int32) (u1 : Int32) (u2 : Int32) (mo : Int32) (kk : Int32) (xc : Int32) (tt : Addr) (kt : ClassId) (cs : Int32) (a1 : Addr) (a2 : Addr) (a3 : Addr) (t : Addr) (cl : Cell) (y1 : Addr) (y2 : Addr) (y3 : Addr) (A_tt : Arv Z h0 tt kt .char 5 [.int 109, .int 101, .int 101, .int 116, .int 115] (.int 0)) (g_tt : n0 ≤ tt) (Zn : n0 ≤ h0.size) (O : Old Z n0 h0) (S_cs : Sta Z Z.heap "java/lang/String" "COMPACT_STRINGS" "Z" (.int cs)) (hcs : ¬ cs = (0 : Int32)) (hcw : Jvm.Lit.compactW.before a0 Z = true) (hh39 : Jvm.Lit.constHeld Z "com/example/slotwright/slotwright/model/LinkTypeOfKeyPinLaw" 39) (hh49 : Jvm.Lit.constHeld Z "com/example/slotwright/slotwright/model/LinkTypeOfKeyPinLaw" 49) (hh54 : Jvm.Lit.constHeld Z "com/example/slotwright/slotwright/model/LinkTypeOfKeyPinLaw" 54) (hh7 : Jvm.Lit.constHeld Z "java/lang/String" 7) (S_BEFORE : Sta Z Z.heap "com/example/slotwright/slotwright/model/LinkType" "BEFORE" "Lcom/example/slotwright/slotwright/model/LinkType;" (.ref a1)) (S_MEETS : Sta Z Z.heap "com/example/slotwright/slotwright/model/LinkType" "MEETS" "Lcom/example/slotwright/slotwright/model/LinkType;" (.ref a2)) (S_CONCURRENT : Sta Z Z.heap "com/example/slotwright/slotwright/model/LinkType" "CONCURRENT" "Lcom/example/slotwright/slotwright/model/LinkType;" (.ref a3)) (S_V : Sta Z Z.heap "com/example/slotwright/slotwright/model/LinkType" "$VALUES" "[Lcom/example/slotwright/slotwright/model/LinkType;" (.ref t)) (Ar : Arr Z Z.heap t cl (.object "com/example/slotwright/slotwright/model/LinkType")) (Ex : Exa Z Z.heap t "[Lcom/example/slotwright/slotwright/model/LinkType;") (FC : FitC Z cl) (sz : cl.slots.size = (3 : Int32).toNatClampNeg) (el0 : cl.slots[(0 : Int32).toNatClampNeg]? = some (.ref a1)) (el1 : cl.slots[(1 : Int32).toNatClampNeg]? = some (.ref a2)) (el2 : cl.slots[(2 : Int32).toNatClampNeg]? = some (.ref a3)) (Fk1 : Fld Z Z.heap a1 "com/example/slotwright/slotwright/model/LinkType" "key" "Ljava/lang/String;" (.ref y1)) (Fk2 : Fld Z Z.heap a2 "com/example/slotwright/slotwright/model/LinkType" "key" "Ljava/lang/String;" (.ref y2)) (Fk3 : Fld Z Z.heap a3 "com/example/slotwright/slotwright/model/LinkType" "key" "Ljava/lang/String;" (.ref y3)) (SX1 : StrX Z Z.heap y1 bB) (SX2 : StrX Z Z.heap y2 bM) (SX3 : StrX Z Z.heap y3 bC) (cxc : Ck xc) (hI : IB Z vmV []) :
    own_GoW pP eE below sS (QLaw n0) 24 4288 (T0.setTop (mkF mM 69 #[.val (.int u0), .val (.int u1), .val (.int u2), .val (.int mo), .val (.int kk), .val (.int xc), .unset, .val (.ref tt)] [.int xc, .int 2, .ref tt])) := by
  obtain ⟨cl475, Ar475, q475, S475, Nn475, H475, G475⟩ := id A_tt
  obtain ⟨T476, h476, X476, e476, W476, st476⟩ := stC X0 hx hZ e0 Ar475 (j := (2 : Int32)) (inb_of S475 ⟨by decide, by decide⟩) (g := (mkF mM 69 #[.val (.int u0), .val (.int u1), .val (.int u2), .val (.int mo), .val (.int kk), .val (.int xc), .unset, .val (.ref tt)] [.int xc, .int 2, .ref tt])) rfl rfl (hb hby at_69)
  have N476 := Fr.snoc X476 N0 g_tt
  have hk := Nat.le_trans hk (Keep.of_wr W476).1
  have O := O.wr W476 g_tt
  have Zn := Nat.le_trans Zn (Keep.of_wr W476).1
  have A_tt : Arv Z h476 tt kt .char 5 [.int 109, .int 101, (.int (nar .char xc)), .int 116, .int 115] (.int 0) := Arv.set Ar475 q475 S475 Nn475 H475 G475 (fits_nar_char _) W476 2 rfl (Nat.le_of_ble_eq_true rfl)
  refine own_kW T476 70 [] st476 ?_
  rw [show nar .char xc = xc from cxc.1] at A_tt
  obtain ⟨T477, h477, X477, e477, E477, A477, D477, -, st477⟩ := newO X476 hx hZ hown (ow hw 1 rfl) (ow hw 2 rfl) (ow hw 3 rfl) e476 (g := (mkF mM 70 #[.val (.int u0), .val (.int u1), .val (.int u2), .val (.int mo), .val (.int kk), .val (.int xc), .unset, .val (.ref tt)] [])) rfl (hb hby at_70) (by decide) (by decide)
  obtain ⟨b477, g477⟩ : ∃ z, z = h476.size := ⟨_, rfl⟩
  rw [← g477] at A477 D477 st477
  have ne_tt_b477 : tt ≠ b477 := Nat.ne_of_lt (Nat.lt_of_lt_of_le A_tt.lt (Nat.le_of_eq g477.symm))
  have g_b477 : n0 ≤ b477 := Nat.le_trans Zn (Nat.le_of_eq g477.symm)
  have O := O.ext E477
  have A_tt := A_tt.ext E477
  have hk := Nat.le_trans hk E477.1
  have Zn := Nat.le_trans Zn E477.1
  have E_b477 := A477
  have F_b477_coder : Fld Z h477 b477 "java/lang/String" "coder" "B" (.int 0) := D477 (Or.inr (ow hw 32 rfl)) (ty := .byte) (by decide)
  have F_b477_value : Fld Z h477 b477 "java/lang/String" "value" "[B" .null := D477 (Or.inr (ow hw 34 rfl)) (ty := (.array .byte)) (by decide)
  refine own_kW T477 73 [.ref b477] st477 ?_
  refine o_dupW 74 X477 hx (hb hby at_73) rfl rfl ?_
  refine o_aloadW 76 X477 hx (hb hby at_74) rfl rfl rfl ?_
  obtain ⟨_, _, ⟨T478, L478, k478, n478⟩, -, X478, ⟨Lc478, hQ478, l478, y478, z478⟩, st478⟩ := X477.specialBack hx (y := yn9) rfl hown (mvT hZ (ow hw 9 rfl)) (mvT hZ (ow hw 10 rfl)) (mvT hZ (ow hw 11 rfl)) (by decide) (backOf (W := 1) (rmS1_5 lL Z a0 hw [] b477 tt kt cs ((109 : Int32)) ((101 : Int32)) (xc) ((116 : Int32)) ((115 : Int32)) h477 n0 g_b477 E_b477 F_b477_value F_b477_coder A_tt ne_tt_b477 O Zn S_cs hcs (⟨by decide, by decide, by decide⟩ : Ck _) (⟨by decide, by decide, by decide⟩ : Ck _) cxc (⟨by decide, by decide, by decide⟩ : Ck _) (⟨by decide, by decide, by decide⟩ : Ck _)) hZ (ow hw 11 rfl) (ow hw 3 rfl) (by decide) (by decide)) (g := (mkF mM 76 #[.val (.int u0), .val (.int u1), .val (.int u2), .val (.int mo), .val (.int kk), .val (.int xc), .unset, .val (.ref tt)] [.ref tt, .ref b477, .ref b477])) rfl (by rw [hml]; rfl) (Steps.refl _) (a := b477) (argsL := [.ref tt]) (rest := [.ref b477]) (lenOf pd__28_5bC_29V rfl) rfl (by show 2 * 0 + _ ≤ _; exact Nat.le_of_eq rfl) (hb hby at_76) (fun _ _ => ⟨rfl, e477, (by decide : 2 + 1 ≤ _), (by decide : 9 + 5 ≤ _)⟩)
  dsimp only [Pt.U, Pt.locs, Pt.cells, Pt.slots] at X478 l478 y478 z478 st478 hQ478
  subst l478 y478 z478
  obtain ⟨d478, k478', rfl, N478q, K478, str478, ge478⟩ := hQ478
  have N478 := Fr.app N476 N478q
  have e478 : T478.heap = T478.heap := rfl
  refine own_kW T478 79 [.ref b477] (fun t_ k_ => st478.trans k_) ?_
  have E_b477 := E_b477.keep K478
  have A_tt := A_tt.keep K478 (ninS ne_tt_b477 nin0)
  have hk := Nat.le_trans hk K478.1
  have O := O.keep K478 (allS g_b477 all0)
  have Zn := Nat.le_trans Zn K478.1
  let Lv479 : Array Slot := #[.val (.int u0), .val (.int u1), .val (.int u2), .val (.int mo), .val (.int kk), .val (.int xc), .val (.ref b477), .val (.ref tt)]
  refine own_stW (A := T478.setTop (mkF mM 81 Lv479 [])) (fun t_ k_ => XS.astore X478.here hx rfl (hb hby at_79) rfl rfl (l' := Lv479) rfl k_) ?_
  refine o_gotoW 150 X478 hx (hb hby at_81) (by decide) ?_
  exact J150t hw (X478.more (by decide) (by decide)) hx hZ hby hml hown hlk hret hS hk e478 N478 u0 u1 u2 mo kk xc b477 [((((109 : Int32)).toInt8.toInt32)).toInt8.toInt32, ((((101 : Int32)).toInt8.toInt32)).toInt8.toInt32, (((xc).toInt8.toInt32)).toInt8.toInt32, ((((116 : Int32)).toInt8.toInt32)).toInt8.toInt32, ((((115 : Int32)).toInt8.toInt32)).toInt8.toInt32] tt cs a1 a2 a3 t cl y1 y2 y3 (⟨_, _, _, str478, rfl⟩ : StrX _ _ _ [((((109 : Int32)).toInt8.toInt32)).toInt8.toInt32, ((((101 : Int32)).toInt8.toInt32)).toInt8.toInt32, (((xc).toInt8.toInt32)).toInt8.toInt32, ((((116 : Int32)).toInt8.toInt32)).toInt8.toInt32, ((((115 : Int32)).toInt8.toInt32)).toInt8.toInt32]) O S_cs hcs hcw hh39 hh49 hh54 hh7 S_BEFORE S_MEETS S_CONCURRENT S_V Ar Ex FC sz el0 el1 el2 Fk1 Fk2 Fk3 SX1 SX2 SX3 (own_IBw hI (fun _ q => by cases q))
theorem J69_1_3 {vmV : Vm} (hw : own_tb a0 Z) (X0 : Stand pP lL eE room_1 (sS.setVm vmV) mM args below meth cC T0 locs 1 5) (hx : pP.tables.exec = Jvm.exec) (hZ : Z.Warmed39 (sS.setVm vmV).vm) (hby : cC.code = code) (hml : cC.maxLocals = 8) (hown : (sS.setVm vmV).vm.findClass "com/example/slotwright/slotwright/model/LinkTypeOfKeyPinLaw" = some mM.cls) (hlk : meth.locks = false) (hret : meth.sig.returnType = ret) {kV : Nat} (hS : sS.Since vmV kV) (hk : kV ≤ h0.size) (e0 : T0.heap = h0) (N0 : Fr n0 locs) (u0 : Int32) (u1 : Int32) (u2 : Int32) (mo : Int32) (kk : Int32) (xc : Int32) (tt : Addr) (kt : ClassId) (cs : Int32) (a1 : Addr) (a2 : Addr) (a3 : Addr) (t : Addr) (cl : Cell) (y1 : Addr) (y2 : Addr) (y3 : Addr) (A_tt : Arv Z h0 tt kt .char 5 [.int 109, .int 101, .int 101, .int 116, .int 115] (.int 0)) (g_tt : n0 ≤ tt) (Zn : n0 ≤ h0.size) (O : Old Z n0 h0) (S_cs : Sta Z Z.heap "java/lang/String" "COMPACT_STRINGS" "Z" (.int cs)) (hcs : ¬ cs = (0 : Int32)) (hcw : Jvm.Lit.compactW.before a0 Z = true) (hh39 : Jvm.Lit.constHeld Z "com/example/slotwright/slotwright/model/LinkTypeOfKeyPinLaw" 39) (hh49 : Jvm.Lit.constHeld Z "com/example/slotwright/slotwright/model/LinkTypeOfKeyPinLaw" 49) (hh54 : Jvm.Lit.constHeld Z "com/example/slotwright/slotwright/model/LinkTypeOfKeyPinLaw" 54) (hh7 : Jvm.Lit.constHeld Z "java/lang/String" 7) (S_BEFORE : Sta Z Z.heap "com/example/slotwright/slotwright/model/LinkType" "BEFORE" "Lcom/example/slotwright/slotwright/model/LinkType;" (.ref a1)) (S_MEETS : Sta Z Z.heap "com/example/slotwright/slotwright/model/LinkType" "MEETS" "Lcom/example/slotwright/slotwright/model/LinkType;" (.ref a2)) (S_CONCURRENT : Sta Z Z.heap "com/example/slotwright/slotwright/model/LinkType" "CONCURRENT" "Lcom/example/slotwright/slotwright/model/LinkType;" (.ref a3)) (S_V : Sta Z Z.heap "com/example/slotwright/slotwright/model/LinkType" "$VALUES" "[Lcom/example/slotwright/slotwright/model/LinkType;" (.ref t)) (Ar : Arr Z Z.heap t cl (.object "com/example/slotwright/slotwright/model/LinkType")) (Ex : Exa Z Z.heap t "[Lcom/example/slotwright/slotwright/model/LinkType;") (FC : FitC Z cl) (sz : cl.slots.size = (3 : Int32).toNatClampNeg) (el0 : cl.slots[(0 : Int32).toNatClampNeg]? = some (.ref a1)) (el1 : cl.slots[(1 : Int32).toNatClampNeg]? = some (.ref a2)) (el2 : cl.slots[(2 : Int32).toNatClampNeg]? = some (.ref a3)) (Fk1 : Fld Z Z.heap a1 "com/example/slotwright/slotwright/model/LinkType" "key" "Ljava/lang/String;" (.ref y1)) (Fk2 : Fld Z Z.heap a2 "com/example/slotwright/slotwright/model/LinkType" "key" "Ljava/lang/String;" (.ref y2)) (Fk3 : Fld Z Z.heap a3 "com/example/slotwright/slotwright/model/LinkType" "key" "Ljava/lang/String;" (.ref y3)) (SX1 : StrX Z Z.heap y1 bB) (SX2 : StrX Z Z.heap y2 bM) (SX3 : StrX Z Z.heap y3 bC) (cxc : Ck xc) (hI : IB Z vmV []) :
    own_GoW pP eE below sS (QLaw n0) 24 4288 (T0.setTop (mkF mM 69 #[.val (.int u0), .val (.int u1), .val (.int u2), .val (.int mo), .val (.int kk), .val (.int xc), .unset, .val (.ref tt)] [.int xc, .int 3, .ref tt])) := by
  obtain ⟨cl480, Ar480, q480, S480, Nn480, H480, G480⟩ := id A_tt
  obtain ⟨T481, h481, X481, e481, W481, st481⟩ := stC X0 hx hZ e0 Ar480 (j := (3 : Int32)) (inb_of S480 ⟨by decide, by decide⟩) (g := (mkF mM 69 #[.val (.int u0), .val (.int u1), .val (.int u2), .val (.int mo), .val (.int kk), .val (.int xc), .unset, .val (.ref tt)] [.int xc, .int 3, .ref tt])) rfl rfl (hb hby at_69)
  have N481 := Fr.snoc X481 N0 g_tt
  have hk := Nat.le_trans hk (Keep.of_wr W481).1
  have O := O.wr W481 g_tt
  have Zn := Nat.le_trans Zn (Keep.of_wr W481).1
  have A_tt : Arv Z h481 tt kt .char 5 [.int 109, .int 101, .int 101, (.int (nar .char xc)), .int 115] (.int 0) := Arv.set Ar480 q480 S480 Nn480 H480 G480 (fits_nar_char _) W481 3 rfl (Nat.le_of_ble_eq_true rfl)
  refine own_kW T481 70 [] st481 ?_
  rw [show nar .char xc = xc from cxc.1] at A_tt
  obtain ⟨T482, h482, X482, e482, E482, A482, D482, -, st482⟩ := newO X481 hx hZ hown (ow hw 1 rfl) (ow hw 2 rfl) (ow hw 3 rfl) e481 (g := (mkF mM 70 #[.val (.int u0), .val (.int u1), .val (.int u2), .val (.int mo), .val (.int kk), .val (.int xc), .unset, .val (.ref tt)] [])) rfl (hb hby at_70) (by decide) (by decide)
  obtain ⟨b482, g482⟩ : ∃ z, z = h481.size := ⟨_, rfl⟩
  rw [← g482] at A482 D482 st482
  have ne_tt_b482 : tt ≠ b482 := Nat.ne_of_lt (Nat.lt_of_lt_of_le A_tt.lt (Nat.le_of_eq g482.symm))
  have g_b482 : n0 ≤ b482 := Nat.le_trans Zn (Nat.le_of_eq g482.symm)
  have O := O.ext E482
  have A_tt := A_tt.ext E482
  have hk := Nat.le_trans hk E482.1
  have Zn := Nat.le_trans Zn E482.1
  have E_b482 := A482
  have F_b482_coder : Fld Z h482 b482 "java/lang/String" "coder" "B" (.int 0) := D482 (Or.inr (ow hw 32 rfl)) (ty := .byte) (by decide)
  have F_b482_value : Fld Z h482 b482 "java/lang/String" "value" "[B" .null := D482 (Or.inr (ow hw 34 rfl)) (ty := (.array .byte)) (by decide)
  refine own_kW T482 73 [.ref b482] st482 ?_
  refine o_dupW 74 X482 hx (hb hby at_73) rfl rfl ?_
  refine o_aloadW 76 X482 hx (hb hby at_74) rfl rfl rfl ?_
  obtain ⟨_, _, ⟨T483, L483, k483, n483⟩, -, X483, ⟨Lc483, hQ483, l483, y483, z483⟩, st483⟩ := X482.specialBack hx (y := yn9) rfl hown (mvT hZ (ow hw 9 rfl)) (mvT hZ (ow hw 10 rfl)) (mvT hZ (ow hw 11 rfl)) (by decide) (backOf (W := 1) (rmS1_5 lL Z a0 hw [] b482 tt kt cs ((109 : Int32)) ((101 : Int32)) ((101 : Int32)) (xc) ((115 : Int32)) h482 n0 g_b482 E_b482 F_b482_value F_b482_coder A_tt ne_tt_b482 O Zn S_cs hcs (⟨by decide, by decide, by decide⟩ : Ck _) (⟨by decide, by decide, by decide⟩ : Ck _) (⟨by decide, by decide, by decide⟩ : Ck _) cxc (⟨by decide, by decide, by decide⟩ : Ck _)) hZ (ow hw 11 rfl) (ow hw 3 rfl) (by decide) (by decide)) (g := (mkF mM 76 #[.val (.int u0), .val (.int u1), .val (.int u2), .val (.int mo), .val (.int kk), .val (.int xc), .unset, .val (.ref tt)] [.ref tt, .ref b482, .ref b482])) rfl (by rw [hml]; rfl) (Steps.refl _) (a := b482) (argsL := [.ref tt]) (rest := [.ref b482]) (lenOf pd__28_5bC_29V rfl) rfl (by show 2 * 0 + _ ≤ _; exact Nat.le_of_eq rfl) (hb hby at_76) (fun _ _ => ⟨rfl, e482, (by decide : 2 + 1 ≤ _), (by decide : 9 + 5 ≤ _)⟩)
  dsimp only [Pt.U, Pt.locs, Pt.cells, Pt.slots] at X483 l483 y483 z483 st483 hQ483
  subst l483 y483 z483
  obtain ⟨d483, k483', rfl, N483q, K483, str483, ge483⟩ := hQ483
  have N483 := Fr.app N481 N483q
  have e483 : T483.heap = T483.heap := rfl
  refine own_kW T483 79 [.ref b482] (fun t_ k_ => st483.trans k_) ?_
  have E_b482 := E_b482.keep K483
  have A_tt := A_tt.keep K483 (ninS ne_tt_b482 nin0)
  have hk := Nat.le_trans hk K483.1
  have O := O.keep K483 (allS g_b482 all0)
  have Zn := Nat.le_trans Zn K483.1
  let Lv484 : Array Slot := #[.val (.int u0), .val (.int u1), .val (.int u2), .val (.int mo), .val (.int kk), .val (.int xc), .val (.ref b482), .val (.ref tt)]
  refine own_stW (A := T483.setTop (mkF mM 81 Lv484 [])) (fun t_ k_ => XS.astore X483.here hx rfl (hb hby at_79) rfl rfl (l' := Lv484) rfl k_) ?_
  refine o_gotoW 150 X483 hx (hb hby at_81) (by decide) ?_
  exact J150t hw (X483.more (by decide) (by decide)) hx hZ hby hml hown hlk hret hS hk e483 N483 u0 u1 u2 mo kk xc b482 [((((109 : Int32)).toInt8.toInt32)).toInt8.toInt32, ((((101 : Int32)).toInt8.toInt32)).toInt8.toInt32, ((((101 : Int32)).toInt8.toInt32)).toInt8.toInt32, (((xc).toInt8.toInt32)).toInt8.toInt32, ((((115 : Int32)).toInt8.toInt32)).toInt8.toInt32] tt cs a1 a2 a3 t cl y1 y2 y3 (⟨_, _, _, str483, rfl⟩ : StrX _ _ _ [((((109 : Int32)).toInt8.toInt32)).toInt8.toInt32, ((((101 : Int32)).toInt8.toInt32)).toInt8.toInt32, ((((101 : Int32)).toInt8.toInt32)).toInt8.toInt32, (((xc).toInt8.toInt32)).toInt8.toInt32, ((((115 : Int32)).toInt8.toInt32)).toInt8.toInt32]) O S_cs hcs hcw hh39 hh49 hh54 hh7 S_BEFORE S_MEETS S_CONCURRENT S_V Ar Ex FC sz el0 el1 el2 Fk1 Fk2 Fk3 SX1 SX2 SX3 (own_IBw hI (fun _ q => by cases q))
theorem J69_1_4 {vmV : Vm} (hw : own_tb a0 Z) (X0 : Stand pP lL eE room_1 (sS.setVm vmV) mM args below meth cC T0 locs 1 5) (hx : pP.tables.exec = Jvm.exec) (hZ : Z.Warmed39 (sS.setVm vmV).vm) (hby : cC.code = code) (hml : cC.maxLocals = 8) (hown : (sS.setVm vmV).vm.findClass "com/example/slotwright/slotwright/model/LinkTypeOfKeyPinLaw" = some mM.cls) (hlk : meth.locks = false) (hret : meth.sig.returnType = ret) {kV : Nat} (hS : sS.Since vmV kV) (hk : kV ≤ h0.size) (e0 : T0.heap = h0) (N0 : Fr n0 locs) (u0 : Int32) (u1 : Int32) (u2 : Int32) (mo : Int32) (kk : Int32) (xc : Int32) (tt : Addr) (kt : ClassId) (cs : Int32) (a1 : Addr) (a2 : Addr) (a3 : Addr) (t : Addr) (cl : Cell) (y1 : Addr) (y2 : Addr) (y3 : Addr) (A_tt : Arv Z h0 tt kt .char 5 [.int 109, .int 101, .int 101, .int 116, .int 115] (.int 0)) (g_tt : n0 ≤ tt) (Zn : n0 ≤ h0.size) (O : Old Z n0 h0) (S_cs : Sta Z Z.heap "java/lang/String" "COMPACT_STRINGS" "Z" (.int cs)) (hcs : ¬ cs = (0 : Int32)) (hcw : Jvm.Lit.compactW.before a0 Z = true) (hh39 : Jvm.Lit.constHeld Z "com/example/slotwright/slotwright/model/LinkTypeOfKeyPinLaw" 39) (hh49 : Jvm.Lit.constHeld Z "com/example/slotwright/slotwright/model/LinkTypeOfKeyPinLaw" 49) (hh54 : Jvm.Lit.constHeld Z "com/example/slotwright/slotwright/model/LinkTypeOfKeyPinLaw" 54) (hh7 : Jvm.Lit.constHeld Z "java/lang/String" 7) (S_BEFORE : Sta Z Z.heap "com/example/slotwright/slotwright/model/LinkType" "BEFORE" "Lcom/example/slotwright/slotwright/model/LinkType;" (.ref a1)) (S_MEETS : Sta Z Z.heap "com/example/slotwright/slotwright/model/LinkType" "MEETS" "Lcom/example/slotwright/slotwright/model/LinkType;" (.ref a2)) (S_CONCURRENT : Sta Z Z.heap "com/example/slotwright/slotwright/model/LinkType" "CONCURRENT" "Lcom/example/slotwright/slotwright/model/LinkType;" (.ref a3)) (S_V : Sta Z Z.heap "com/example/slotwright/slotwright/model/LinkType" "$VALUES" "[Lcom/example/slotwright/slotwright/model/LinkType;" (.ref t)) (Ar : Arr Z Z.heap t cl (.object "com/example/slotwright/slotwright/model/LinkType")) (Ex : Exa Z Z.heap t "[Lcom/example/slotwright/slotwright/model/LinkType;") (FC : FitC Z cl) (sz : cl.slots.size = (3 : Int32).toNatClampNeg) (el0 : cl.slots[(0 : Int32).toNatClampNeg]? = some (.ref a1)) (el1 : cl.slots[(1 : Int32).toNatClampNeg]? = some (.ref a2)) (el2 : cl.slots[(2 : Int32).toNatClampNeg]? = some (.ref a3)) (Fk1 : Fld Z Z.heap a1 "com/example/slotwright/slotwright/model/LinkType" "key" "Ljava/lang/String;" (.ref y1)) (Fk2 : Fld Z Z.heap a2 "com/example/slotwright/slotwright/model/LinkType" "key" "Ljava/lang/String;" (.ref y2)) (Fk3 : Fld Z Z.heap a3 "com/example/slotwright/slotwright/model/LinkType" "key" "Ljava/lang/String;" (.ref y3)) (SX1 : StrX Z Z.heap y1 bB) (SX2 : StrX Z Z.heap y2 bM) (SX3 : StrX Z Z.heap y3 bC) (cxc : Ck xc) (hI : IB Z vmV []) :
    own_GoW pP eE below sS (QLaw n0) 24 4288 (T0.setTop (mkF mM 69 #[.val (.int u0), .val (.int u1), .val (.int u2), .val (.int mo), .val (.int kk), .val (.int xc), .unset, .val (.ref tt)] [.int xc, .int 4, .ref tt])) := by
  obtain ⟨cl485, Ar485, q485, S485, Nn485, H485, G485⟩ := id A_tt
  obtain ⟨T486, h486, X486, e486, W486, st486⟩ := stC X0 hx hZ e0 Ar485 (j := (4 : Int32)) (inb_of S485 ⟨by decide, by decide⟩) (g := (mkF mM 69 #[.val (.int u0), .val (.int u1), .val (.int u2), .val (.int mo), .val (.int kk), .val (.int xc), .unset, .val (.ref tt)] [.int xc, .int 4, .ref tt])) rfl rfl (hb hby at_69)
  have N486 := Fr.snoc X486 N0 g_tt
  have hk := Nat.le_trans hk (Keep.of_wr W486).1
  have O := O.wr W486 g_tt
  have Zn := Nat.le_trans Zn (Keep.of_wr W486).1
  have A_tt : Arv Z h486 tt kt .char 5 [.int 109, .int 101, .int 101, .int 116, (.int (nar .char xc))] (.int 0) := Arv.set Ar485 q485 S485 Nn485 H485 G485 (fits_nar_char _) W486 4 rfl (Nat.le_of_ble_eq_true rfl)
  refine own_kW T486 70 [] st486 ?_
  rw [show nar .char xc = xc from cxc.1] at A_tt
  obtain ⟨T487, h487, X487, e487, E487, A487, D487, -, st487⟩ := newO X486 hx hZ hown (ow hw 1 rfl) (ow hw 2 rfl) (ow hw 3 rfl) e486 (g := (mkF mM 70 #[.val (.int u0), .val (.int u1), .val (.int u2), .val (.int mo), .val (.int kk), .val (.int xc), .unset, .val (.ref tt)] [])) rfl (hb hby at_70) (by decide) (by decide)
  obtain ⟨b487, g487⟩ : ∃ z, z = h486.size := ⟨_, rfl⟩
  rw [← g487] at A487 D487 st487
  have ne_tt_b487 : tt ≠ b487 := Nat.ne_of_lt (Nat.lt_of_lt_of_le A_tt.lt (Nat.le_of_eq g487.symm))
  have g_b487 : n0 ≤ b487 := Nat.le_trans Zn (Nat.le_of_eq g487.symm)
  have O := O.ext E487
  have A_tt := A_tt.ext E487
  have hk := Nat.le_trans hk E487.1
  have Zn := Nat.le_trans Zn E487.1
  have E_b487 := A487
  have F_b487_coder : Fld Z h487 b487 "java/lang/String" "coder" "B" (.int 0) := D487 (Or.inr (ow hw 32 rfl)) (ty := .byte) (by decide)
  have F_b487_value : Fld Z h487 b487 "java/lang/String" "value" "[B" .null := D487 (Or.inr (ow hw 34 rfl)) (ty := (.array .byte)) (by decide)
  refine own_kW T487 73 [.ref b487] st487 ?_
  refine o_dupW 74 X487 hx (hb hby at_73) rfl rfl ?_
  refine o_aloadW 76 X487 hx (hb hby at_74) rfl rfl rfl ?_
  obtain ⟨_, _, ⟨T488, L488, k488, n488⟩, -, X488, ⟨Lc488, hQ488, l488, y488, z488⟩, st488⟩ := X487.specialBack hx (y := yn9) rfl hown (mvT hZ (ow hw 9 rfl)) (mvT hZ (ow hw 10 rfl)) (mvT hZ (ow hw 11 rfl)) (by decide) (backOf (W := 1) (rmS1_5 lL Z a0 hw [] b487 tt kt cs ((109 : Int32)) ((101 : Int32)) ((101 : Int32)) ((116 : Int32)) (xc) h487 n0 g_b487 E_b487 F_b487_value F_b487_coder A_tt ne_tt_b487 O Zn S_cs hcs (⟨by decide, by decide, by decide⟩ : Ck _) (⟨by decide, by decide, by decide⟩ : Ck _) (⟨by decide, by decide, by decide⟩ : Ck _) (⟨by decide, by decide, by decide⟩ : Ck _) cxc) hZ (ow hw 11 rfl) (ow hw 3 rfl) (by decide) (by decide)) (g := (mkF mM 76 #[.val (.int u0), .val (.int u1), .val (.int u2), .val (.int mo), .val (.int kk), .val (.int xc), .unset, .val (.ref tt)] [.ref tt, .ref b487, .ref b487])) rfl (by rw [hml]; rfl) (Steps.refl _) (a := b487) (argsL := [.ref tt]) (rest := [.ref b487]) (lenOf pd__28_5bC_29V rfl) rfl (by show 2 * 0 + _ ≤ _; exact Nat.le_of_eq rfl) (hb hby at_76) (fun _ _ => ⟨rfl, e487, (by decide : 2 + 1 ≤ _), (by decide : 9 + 5 ≤ _)⟩)
  dsimp only [Pt.U, Pt.locs, Pt.cells, Pt.slots] at X488 l488 y488 z488 st488 hQ488
  subst l488 y488 z488
  obtain ⟨d488, k488', rfl, N488q, K488, str488, ge488⟩ := hQ488
  have N488 := Fr.app N486 N488q
  have e488 : T488.heap = T488.heap := rfl
  refine own_kW T488 79 [.ref b487] (fun t_ k_ => st488.trans k_) ?_
  have E_b487 := E_b487.keep K488
  have A_tt := A_tt.keep K488 (ninS ne_tt_b487 nin0)
  have hk := Nat.le_trans hk K488.1
  have O := O.keep K488 (allS g_b487 all0)
  have Zn := Nat.le_trans Zn K488.1
  let Lv489 : Array Slot := #[.val (.int u0), .val (.int u1), .val (.int u2), .val (.int mo), .val (.int kk), .val (.int xc), .val (.ref b487), .val (.ref tt)]
  refine own_stW (A := T488.setTop (mkF mM 81 Lv489 [])) (fun t_ k_ => XS.astore X488.here hx rfl (hb hby at_79) rfl rfl (l' := Lv489) rfl k_) ?_
  refine o_gotoW 150 X488 hx (hb hby at_81) (by decide) ?_
  exact J150t hw (X488.more (by decide) (by decide)) hx hZ hby hml hown hlk hret hS hk e488 N488 u0 u1 u2 mo kk xc b487 [((((109 : Int32)).toInt8.toInt32)).toInt8.toInt32, ((((101 : Int32)).toInt8.toInt32)).toInt8.toInt32, ((((101 : Int32)).toInt8.toInt32)).toInt8.toInt32, ((((116 : Int32)).toInt8.toInt32)).toInt8.toInt32, (((xc).toInt8.toInt32)).toInt8.toInt32] tt cs a1 a2 a3 t cl y1 y2 y3 (⟨_, _, _, str488, rfl⟩ : StrX _ _ _ [((((109 : Int32)).toInt8.toInt32)).toInt8.toInt32, ((((101 : Int32)).toInt8.toInt32)).toInt8.toInt32, ((((101 : Int32)).toInt8.toInt32)).toInt8.toInt32, ((((116 : Int32)).toInt8.toInt32)).toInt8.toInt32, (((xc).toInt8.toInt32)).toInt8.toInt32]) O S_cs hcs hcw hh39 hh49 hh54 hh7 S_BEFORE S_MEETS S_CONCURRENT S_V Ar Ex FC sz el0 el1 el2 Fk1 Fk2 Fk3 SX1 SX2 SX3 (own_IBw hI (fun _ q => by cases q))
theorem d1_39 : decode method_4_code 39 = .ok (.iload_n 0, 1) := by decide +kernel
theorem d1_40 : decode method_4_code 40 = .ok (.iconst 1, 1) := by decide +kernel
theorem d1_41 : decode method_4_code 41 = .ok (.if_icmp .ne 32, 3) := by decide +kernel
theorem d1_44 : decode method_4_code 44 = .ok (.iconst 5, 1) := by decide +kernel
theorem d1_45 : decode method_4_code 45 = .ok (.newarray .char, 2) := by decide +kernel
theorem d1_47 : decode method_4_code 47 = .ok (.dup, 1) := by decide +kernel
theorem d1_48 : decode method_4_code 48 = .ok (.iconst 0, 1) := by decide +kernel
theorem d1_49 : decode method_4_code 49 = .ok (.bipush 109, 2) := by decide +kernel
theorem d1_51 : decode method_4_code 51 = .ok (.castore, 1) := by decide +kernel
theorem d1_52 : decode method_4_code 52 = .ok (.dup, 1) := by decide +kernel
theorem d1_53 : decode method_4_code 53 = .ok (.iconst 1, 1) := by decide +kernel
theorem d1_54 : decode method_4_code 54 = .ok (.bipush 101, 2) := by decide +kernel
theorem d1_56 : decode method_4_code 56 = .ok (.castore, 1) := by decide +kernel
theorem d1_57 : decode method_4_code 57 = .ok (.dup, 1) := by decide +kernel
theorem d1_58 : decode method_4_code 58 = .ok (.iconst 2, 1) := by decide +kernel
theorem d1_59 : decode method_4_code 59 = .ok (.bipush 101, 2) := by decide +kernel
theorem d1_61 : decode method_4_code 61 = .ok (.castore, 1) := by decide +kernel
theorem d1_62 : decode method_4_code 62 = .ok (.dup, 1) := by decide +kernel
theorem d1_63 : decode method_4_code 63 = .ok (.iconst 3, 1) := by decide +kernel
theorem d1_64 : decode method_4_code 64 = .ok (.bipush 116, 2) := by decide +kernel
theorem d1_66 : decode method_4_code 66 = .ok (.castore, 1) := by decide +kernel
theorem d1_67 : decode method_4_code 67 = .ok (.dup, 1) := by decide +kernel
theorem d1_68 : decode method_4_code 68 = .ok (.iconst 4, 1) := by decide +kernel
theorem d1_69 : decode method_4_code 69 = .ok (.bipush 115, 2) := by decide +kernel
theorem d1_71 : decode method_4_code 71 = .ok (.castore, 1) := by decide +kernel
theorem d1_72 : decode method_4_code 72 = .ok (.areturn, 1) := by decide +kernel
theorem ef_rm_keyChars1 (mM : MethodId)  : entryFrame mM #[.int 1] 1 = mkF mM 0 #[.val (.int 1)] [] := by first | (simp [entryFrame, mkF, argsToLocals, Value.category]; done) | rfl
theorem rm_keyChars1 (lL : Launch) (Z : State) (a0 : Array Value) (hw : own_tb a0 Z) (ws : List Jvm.Cond)  (h0 : Heap) (n0 : Nat) (Zn : n0 ≤ h0.size) :
    own_Ct lL Z yn15 method_4_code 1 (some (.array .char)) ws (⟨0, 1, 5, 0⟩ : Room) #[.int 1] h0 (QCh Z 5 [.int 109, .int 101, .int 101, .int 116, .int 115] h0 n0) := by
  refine own_body (plainFor_of_name pn_com_2fexample_2fslotwright_2fslotwright_2fmodel_2fLinkTypeOfKeyPinLaw) 1 5 rfl rfl (fun mM => ef_rm_keyChars1 mM) fun pP eE sS mM below meth cC s₁ hZ hx hby hml hown hnm hret hlk X0 e0 => ?_
  have N0 := Fr.nil n0
  have Kp := Keep.refl h0 []
  refine o_iloadN 1 X0 hx (hb hby d1_0) rfl rfl ?_
  refine o_ifYes 39 X0 hx (hb hby d1_1) ((if0 _ _).trans (feq (by decide : ¬ ((1 : Int32) = (0 : Int32)))).2) (by decide) ?_
  refine o_iloadN 40 X0 hx (hb hby d1_39) rfl rfl ?_
  refine o_iconst 41 1 X0 hx (hb hby d1_40) rfl rfl ?_
  refine o_icmpNo 44 X0 hx (hb hby d1_41) (teq (by decide : ((1 : Int32) = (1 : Int32)))).2 rfl ?_
  refine o_iconst 45 5 X0 hx (hb hby d1_44) rfl rfl ?_
  obtain ⟨T490, h490, k490, X490, e490, E490, A490, st490⟩ := newP X0 hx hZ (ow hw 8 rfl) e0 (g := (mkF mM 45 #[.val (.int 1)] [.int 5])) rfl (hb hby d1_45) rfl (by decide) (cap := 5) (by decide) (by decide) (by decide) (by decide)
  obtain ⟨b490, g490⟩ : ∃ z, z = h0.size := ⟨_, rfl⟩
  rw [← g490] at A490 st490
  have g_b490 : n0 ≤ b490 := Nat.le_trans Zn (Nat.le_of_eq g490.symm)
  have b_b490 : h0.size ≤ b490 := Nat.le_trans Kp.1 (Nat.le_of_eq g490.symm)
  have Zn := Nat.le_trans Zn E490.1
  have Kp := Kp.ext E490
  have A_b490 : Arv Z h490 b490 k490 .char 5 [.int 0, .int 0, .int 0, .int 0, .int 0] (.int 0) := (Arv.new A490 (by decide)).pad (pad_rep [] (.int 0) 5)
  refine own_k T490 47 [.ref b490] st490 ?_
  refine o_dup 48 X490 hx (hb hby d1_47) rfl rfl ?_
  refine o_iconst 49 0 X490 hx (hb hby d1_48) rfl rfl ?_
  refine o_bipush 51 109 X490 hx (hb hby d1_49) rfl rfl ?_
  obtain ⟨cl491, Ar491, q491, S491, Nn491, H491, G491⟩ := id A_b490
  obtain ⟨T492, h492, X492, e492, W492, st492⟩ := stC X490 hx hZ e490 Ar491 (j := (0 : Int32)) (inb_of S491 ⟨by decide, by decide⟩) (g := (mkF mM 51 #[.val (.int 1)] [.int 109, .int 0, .ref b490, .ref b490])) rfl rfl (hb hby d1_51)
  have N492 := Fr.snoc X492 N0 g_b490
  have Zn := Nat.le_trans Zn (Keep.of_wr W492).1
  have Kp := Kp.wr W492 (Or.inr b_b490)
  have A_b490 : Arv Z h492 b490 k490 .char 5 [(.int (nar .char (109 : Int32))), .int 0, .int 0, .int 0, .int 0] (.int 0) := Arv.set Ar491 q491 S491 Nn491 H491 G491 (fits_nar_char _) W492 0 rfl (Nat.le_of_ble_eq_true rfl)
  refine own_k T492 52 [.ref b490] st492 ?_
  rw [show nar .char (109 : Int32) = (109 : Int32) from (by decide)] at A_b490
  refine o_dup 53 X492 hx (hb hby d1_52) rfl rfl ?_
  refine o_iconst 54 1 X492 hx (hb hby d1_53) rfl rfl ?_
  refine o_bipush 56 101 X492 hx (hb hby d1_54) rfl rfl ?_
  obtain ⟨cl493, Ar493, q493, S493, Nn493, H493, G493⟩ := id A_b490
  obtain ⟨T494, h494, X494, e494, W494, st494⟩ := stC X492 hx hZ e492 Ar493 (j := (1 : Int32)) (inb_of S493 ⟨by decide, by decide⟩) (g := (mkF mM 56 #[.val (.int 1)] [.int 101, .int 1, .ref b490, .ref b490])) rfl rfl (hb hby d1_56)
  have N494 := Fr.snoc X494 N492 g_b490
  have Zn := Nat.le_trans Zn (Keep.of_wr W494).1
  have Kp := Kp.wr W494 (Or.inr b_b490)
  have A_b490 : Arv Z h494 b490 k490 .char 5 [.int 109, (.int (nar .char (101 : Int32))), .int 0, .int 0, .int 0] (.int 0) := Arv.set Ar493 q493 S493 Nn493 H493 G493 (fits_nar_char _) W494 1 rfl (Nat.le_of_ble_eq_true rfl)
  refine own_k T494 57 [.ref b490] st494 ?_
  rw [show nar .char (101 : Int32) = (101 : Int32) from (by decide)] at A_b490
  refine o_dup 58 X494 hx (hb hby d1_57) rfl rfl ?_
  refine o_iconst 59 2 X494 hx (hb hby d1_58) rfl rfl ?_
  refine o_bipush 61 101 X494 hx (hb hby d1_59) rfl rfl ?_
  obtain ⟨cl495, Ar495, q495, S495, Nn495, H495, G495⟩ := id A_b490
  obtain ⟨T496, h496, X496, e496, W496, st496⟩ := stC X494 hx hZ e494 Ar495 (j := (2 : Int32)) (inb_of S495 ⟨by decide, by decide⟩) (g := (mkF mM 61 #[.val (.int 1)] [.int 101, .int 2, .ref b490, .ref b490])) rfl rfl (hb hby d1_61)
  have N496 := Fr.snoc X496 N494 g_b490
  have Zn := Nat.le_trans Zn (Keep.of_wr W496).1
  have Kp := Kp.wr W496 (Or.inr b_b490)
  have A_b490 : Arv Z h496 b490 k490 .char 5 [.int 109, .int 101, (.int (nar .char (101 : Int32))), .int 0, .int 0] (.int 0) := Arv.set Ar495 q495 S495 Nn495 H495 G495 (fits_nar_char _) W496 2 rfl (Nat.le_of_ble_eq_true rfl)
  refine own_k T496 62 [.ref b490] st496 ?_
  rw [show nar .char (101 : Int32) = (101 : Int32) from (by decide)] at A_b490
  refine o_dup 63 X496 hx (hb hby d1_62) rfl rfl ?_
  refine o_iconst 64 3 X496 hx (hb hby d1_63) rfl rfl ?_
  refine o_bipush 66 116 X496 hx (hb hby d1_64) rfl rfl ?_
  obtain ⟨cl497, Ar497, q497, S497, Nn497, H497, G497⟩ := id A_b490
  obtain ⟨T498, h498, X498, e498, W498, st498⟩ := stC X496 hx hZ e496 Ar497 (j := (3 : Int32)) (inb_of S497 ⟨by decide, by decide⟩) (g := (mkF mM 66 #[.val (.int 1)] [.int 116, .int 3, .ref b490, .ref b490])) rfl rfl (hb hby d1_66)
  have N498 := Fr.snoc X498 N496 g_b490
  have Zn := Nat.le_trans Zn (Keep.of_wr W498).1
  have Kp := Kp.wr W498 (Or.inr b_b490)
  have A_b490 : Arv Z h498 b490 k490 .char 5 [.int 109, .int 101, .int 101, (.int (nar .char (116 : Int32))), .int 0] (.int 0) := Arv.set Ar497 q497 S497 Nn497 H497 G497 (fits_nar_char _) W498 3 rfl (Nat.le_of_ble_eq_true rfl)
  refine own_k T498 67 [.ref b490] st498 ?_
  rw [show nar .char (116 : Int32) = (116 : Int32) from (by decide)] at A_b490
  refine o_dup 68 X498 hx (hb hby d1_67) rfl rfl ?_
  refine o_iconst 69 4 X498 hx (hb hby d1_68) rfl rfl ?_
  refine o_bipush 71 115 X498 hx (hb hby d1_69) rfl rfl ?_
  obtain ⟨cl499, Ar499, q499, S499, Nn499, H499, G499⟩ := id A_b490
  obtain ⟨T500, h500, X500, e500, W500, st500⟩ := stC X498 hx hZ e498 Ar499 (j := (4 : Int32)) (inb_of S499 ⟨by decide, by decide⟩) (g := (mkF mM 71 #[.val (.int 1)] [.int 115, .int 4, .ref b490, .ref b490])) rfl rfl (hb hby d1_71)
  have N500 := Fr.snoc X500 N498 g_b490
  have Zn := Nat.le_trans Zn (Keep.of_wr W500).1
  have Kp := Kp.wr W500 (Or.inr b_b490)
  have A_b490 : Arv Z h500 b490 k490 .char 5 [.int 109, .int 101, .int 101, .int 116, (.int (nar .char (115 : Int32)))] (.int 0) := Arv.set Ar499 q499 S499 Nn499 H499 G499 (fits_nar_char _) W500 4 rfl (Nat.le_of_ble_eq_true rfl)
  refine own_k T500 72 [.ref b490] st500 ?_
  rw [show nar .char (115 : Int32) = (115 : Int32) from (by decide)] at A_b490
  exact own_retA X500 hx hlk hret rfl rfl (hb hby d1_72) (by rw [e500]; exact ⟨_, _, rfl, N500, own_ext_of_keep Kp, A_b490, b_b490⟩) (by decide) (by decide)
theorem d13_44 : decode method_5_code 44 = .ok (.iload_n 0, 1) := by decide +kernel
theorem d13_45 : decode method_5_code 45 = .ok (.iconst 1, 1) := by decide +kernel
theorem d13_46 : decode method_5_code 46 = .ok (.if_icmp .ne 37, 3) := by decide +kernel
theorem d13_49 : decode method_5_code 49 = .ok (.bipush 6, 2) := by decide +kernel
theorem d13_51 : decode method_5_code 51 = .ok (.newarray .char, 2) := by decide +kernel
theorem d13_53 : decode method_5_code 53 = .ok (.dup, 1) := by decide +kernel
theorem d13_54 : decode method_5_code 54 = .ok (.iconst 0, 1) := by decide +kernel
theorem d13_55 : decode method_5_code 55 = .ok (.bipush 109, 2) := by decide +kernel
theorem d13_57 : decode method_5_code 57 = .ok (.castore, 1) := by decide +kernel
theorem d13_58 : decode method_5_code 58 = .ok (.dup, 1) := by decide +kernel
theorem d13_59 : decode method_5_code 59 = .ok (.iconst 1, 1) := by decide +kernel
theorem d13_60 : decode method_5_code 60 = .ok (.bipush 101, 2) := by decide +kernel
theorem d13_62 : decode method_5_code 62 = .ok (.castore, 1) := by decide +kernel
theorem d13_63 : decode method_5_code 63 = .ok (.dup, 1) := by decide +kernel
theorem d13_64 : decode method_5_code 64 = .ok (.iconst 2, 1) := by decide +kernel
theorem d13_65 : decode method_5_code 65 = .ok (.bipush 101, 2) := by decide +kernel
theorem d13_67 : decode method_5_code 67 = .ok (.castore, 1) := by decide +kernel
theorem d13_68 : decode method_5_code 68 = .ok (.dup, 1) := by decide +kernel
theorem d13_69 : decode method_5_code 69 = .ok (.iconst 3, 1) := by decide +kernel
theorem d13_70 : decode method_5_code 70 = .ok (.bipush 116, 2) := by decide +kernel
theorem d13_72 : decode method_5_code 72 = .ok (.castore, 1) := by decide +kernel
theorem d13_73 : decode method_5_code 73 = .ok (.dup, 1) := by decide +kernel
theorem d13_74 : decode method_5_code 74 = .ok (.iconst 4, 1) := by decide +kernel
theorem d13_75 : decode method_5_code 75 = .ok (.bipush 115, 2) := by decide +kernel
theorem d13_77 : decode method_5_code 77 = .ok (.castore, 1) := by decide +kernel
theorem d13_78 : decode method_5_code 78 = .ok (.dup, 1) := by decide +kernel
theorem d13_79 : decode method_5_code 79 = .ok (.iconst 5, 1) := by decide +kernel
theorem d13_80 : decode method_5_code 80 = .ok (.iload_n 1, 1) := by decide +kernel
theorem d13_81 : decode method_5_code 81 = .ok (.castore, 1) := by decide +kernel
theorem d13_82 : decode method_5_code 82 = .ok (.areturn, 1) := by decide +kernel
theorem ef_rm_extended1 (mM : MethodId) (xc : Int32) : entryFrame mM #[.int 1, .int xc] 2 = mkF mM 0 #[.val (.int 1), .val (.int xc)] [] := by first | (simp [entryFrame, mkF, argsToLocals, Value.category]; done) | rfl
theorem rm_extended1 (lL : Launch) (Z : State) (a0 : Array Value) (hw : own_tb a0 Z) (ws : List Jvm.Cond) (xc : Int32) (h0 : Heap) (n0 : Nat) (Zn : n0 ≤ h0.size) (cxc : Ck xc) :
    own_Ct lL Z yn16 method_5_code 2 (some (.array .char)) ws (⟨0, 1, 6, 0⟩ : Room) #[.int 1, .int xc] h0 (QCh Z 6 [.int 109, .int 101, .int 101, .int 116, .int 115, .int xc] h0 n0) := by
  refine own_body (plainFor_of_name pn_com_2fexample_2fslotwright_2fslotwright_2fmodel_2fLinkTypeOfKeyPinLaw) 1 6 rfl rfl (fun mM => ef_rm_extended1 mM xc) fun pP eE sS mM below meth cC s₁ hZ hx hby hml hown hnm hret hlk X0 e0 => ?_
  have N0 := Fr.nil n0
  have Kp := Keep.refl h0 []
  refine o_iloadN 1 X0 hx (hb hby d13_0) rfl rfl ?_
  refine o_ifYes 44 X0 hx (hb hby d13_1) ((if0 _ _).trans (feq (by decide : ¬ ((1 : Int32) = (0 : Int32)))).2) (by decide) ?_
  refine o_iloadN 45 X0 hx (hb hby d13_44) rfl rfl ?_
  refine o_iconst 46 1 X0 hx (hb hby d13_45) rfl rfl ?_
  refine o_icmpNo 49 X0 hx (hb hby d13_46) (teq (by decide : ((1 : Int32) = (1 : Int32)))).2 rfl ?_
  refine o_bipush 51 6 X0 hx (hb hby d13_49) rfl rfl ?_
  obtain ⟨T501, h501, k501, X501, e501, E501, A501, st501⟩ := newP X0 hx hZ (ow hw 8 rfl) e0 (g := (mkF mM 51 #[.val (.int 1), .val (.int xc)] [.int 6])) rfl (hb hby d13_51) rfl (by decide) (cap := 6) (by decide) (by decide) (by decide) (by decide)
  obtain ⟨b501, g501⟩ : ∃ z, z = h0.size := ⟨_, rfl⟩
  rw [← g501] at A501 st501
  have g_b501 : n0 ≤ b501 := Nat.le_trans Zn (Nat.le_of_eq g501.symm)
  have b_b501 : h0.size ≤ b501 := Nat.le_trans Kp.1 (Nat.le_of_eq g501.symm)
  have Zn := Nat.le_trans Zn E501.1
  have Kp := Kp.ext E501
  have A_b501 : Arv Z h501 b501 k501 .char 6 [.int 0, .int 0, .int 0, .int 0, .int 0, .int 0] (.int 0) := (Arv.new A501 (by decide)).pad (pad_rep [] (.int 0) 6)
  refine own_k T501 53 [.ref b501] st501 ?_
  refine o_dup 54 X501 hx (hb hby d13_53) rfl rfl ?_
  refine o_iconst 55 0 X501 hx (hb hby d13_54) rfl rfl ?_
  refine o_bipush 57 109 X501 hx (hb hby d13_55) rfl rfl ?_
  obtain ⟨cl502, Ar502, q502, S502, Nn502, H502, G502⟩ := id A_b501
  obtain ⟨T503, h503, X503, e503, W503, st503⟩ := stC X501 hx hZ e501 Ar502 (j := (0 : Int32)) (inb_of S502 ⟨by decide, by decide⟩) (g := (mkF mM 57 #[.val (.int 1), .val (.int xc)] [.int 109, .int 0, .ref b501, .ref b501])) rfl rfl (hb hby d13_57)
  have N503 := Fr.snoc X503 N0 g_b501
  have Zn := Nat.le_trans Zn (Keep.of_wr W503).1
  have Kp := Kp.wr W503 (Or.inr b_b501)
  have A_b501 : Arv Z h503 b501 k501 .char 6 [(.int (nar .char (109 : Int32))), .int 0, .int 0, .int 0, .int 0, .int 0] (.int 0) := Arv.set Ar502 q502 S502 Nn502 H502 G502 (fits_nar_char _) W503 0 rfl (Nat.le_of_ble_eq_true rfl)
  refine own_k T503 58 [.ref b501] st503 ?_
  rw [show nar .char (109 : Int32) = (109 : Int32) from (by decide)] at A_b501
  refine o_dup 59 X503 hx (hb hby d13_58) rfl rfl ?_
  refine o_iconst 60 1 X503 hx (hb hby d13_59) rfl rfl ?_
  refine o_bipush 62 101 X503 hx (hb hby d13_60) rfl rfl ?_
  obtain ⟨cl504, Ar504, q504, S504, Nn504, H504, G504⟩ := id A_b501
  obtain ⟨T505, h505, X505, e505, W505, st505⟩ := stC X503 hx hZ e503 Ar504 (j := (1 : Int32)) (inb_of S504 ⟨by decide, by decide⟩) (g := (mkF mM 62 #[.val (.int 1), .val (.int xc)] [.int 101, .int 1, .ref b501, .ref b501])) rfl rfl (hb hby d13_62)
  have N505 := Fr.snoc X505 N503 g_b501
  have Zn := Nat.le_trans Zn (Keep.of_wr W505).1
  have Kp := Kp.wr W505 (Or.inr b_b501)
  have A_b501 : Arv Z h505 b501 k501 .char 6 [.int 109, (.int (nar .char (101 : Int32))), .int 0, .int 0, .int 0, .int 0] (.int 0) := Arv.set Ar504 q504 S504 Nn504 H504 G504 (fits_nar_char _) W505 1 rfl (Nat.le_of_ble_eq_true rfl)
  refine own_k T505 63 [.ref b501] st505 ?_
  rw [show nar .char (101 : Int32) = (101 : Int32) from (by decide)] at A_b501
  refine o_dup 64 X505 hx (hb hby d13_63) rfl rfl ?_
  refine o_iconst 65 2 X505 hx (hb hby d13_64) rfl rfl ?_
  refine o_bipush 67 101 X505 hx (hb hby d13_65) rfl rfl ?_
  obtain ⟨cl506, Ar506, q506, S506, Nn506, H506, G506⟩ := id A_b501
  obtain ⟨T507, h507, X507, e507, W507, st507⟩ := stC X505 hx hZ e505 Ar506 (j := (2 : Int32)) (inb_of S506 ⟨by decide, by decide⟩) (g := (mkF mM 67 #[.val (.int 1), .val (.int xc)] [.int 101, .int 2, .ref b501, .ref b501])) rfl rfl (hb hby d13_67)
  have N507 := Fr.snoc X507 N505 g_b501
  have Zn := Nat.le_trans Zn (Keep.of_wr W507).1
  have Kp := Kp.wr W507 (Or.inr b_b501)
  have A_b501 : Arv Z h507 b501 k501 .char 6 [.int 109, .int 101, (.int (nar .char (101 : Int32))), .int 0, .int 0, .int 0] (.int 0) := Arv.set Ar506 q506 S506 Nn506 H506 G506 (fits_nar_char _) W507 2 rfl (Nat.le_of_ble_eq_true rfl)
  refine own_k T507 68 [.ref b501] st507 ?_
  rw [show nar .char (101 : Int32) = (101 : Int32) from (by decide)] at A_b501
  refine o_dup 69 X507 hx (hb hby d13_68) rfl rfl ?_
  refine o_iconst 70 3 X507 hx (hb hby d13_69) rfl rfl ?_
  refine o_bipush 72 116 X507 hx (hb hby d13_70) rfl rfl ?_
  obtain ⟨cl508, Ar508, q508, S508, Nn508, H508, G508⟩ := id A_b501
  obtain ⟨T509, h509, X509, e509, W509, st509⟩ := stC X507 hx hZ e507 Ar508 (j := (3 : Int32)) (inb_of S508 ⟨by decide, by decide⟩) (g := (mkF mM 72 #[.val (.int 1), .val (.int xc)] [.int 116, .int 3, .ref b501, .ref b501])) rfl rfl (hb hby d13_72)
  have N509 := Fr.snoc X509 N507 g_b501
  have Zn := Nat.le_trans Zn (Keep.of_wr W509).1
  have Kp := Kp.wr W509 (Or.inr b_b501)
  have A_b501 : Arv Z h509 b501 k501 .char 6 [.int 109, .int 101, .int 101, (.int (nar .char (116 : Int32))), .int 0, .int 0] (.int 0) := Arv.set Ar508 q508 S508 Nn508 H508 G508 (fits_nar_char _) W509 3 rfl (Nat.le_of_ble_eq_true rfl)
  refine own_k T509 73 [.ref b501] st509 ?_
  rw [show nar .char (116 : Int32) = (116 : Int32) from (by decide)] at A_b501
  refine o_dup 74 X509 hx (hb hby d13_73) rfl rfl ?_
  refine o_iconst 75 4 X509 hx (hb hby d13_74) rfl rfl ?_
  refine o_bipush 77 115 X509 hx (hb hby d13_75) rfl rfl ?_
  obtain ⟨cl510, Ar510, q510, S510, Nn510, H510, G510⟩ := id A_b501
  obtain ⟨T511, h511, X511, e511, W511, st511⟩ := stC X509 hx hZ e509 Ar510 (j := (4 : Int32)) (inb_of S510 ⟨by decide, by decide⟩) (g := (mkF mM 77 #[.val (.int 1), .val (.int xc)] [.int 115, .int 4, .ref b501, .ref b501])) rfl rfl (hb hby d13_77)
  have N511 := Fr.snoc X511 N509 g_b501
  have Zn := Nat.le_trans Zn (Keep.of_wr W511).1
  have Kp := Kp.wr W511 (Or.inr b_b501)
  have A_b501 : Arv Z h511 b501 k501 .char 6 [.int 109, .int 101, .int 101, .int 116, (.int (nar .char (115 : Int32))), .int 0] (.int 0) := Arv.set Ar510 q510 S510 Nn510 H510 G510 (fits_nar_char _) W511 4 rfl (Nat.le_of_ble_eq_true rfl)
  refine own_k T511 78 [.ref b501] st511 ?_
  rw [show nar .char (115 : Int32) = (115 : Int32) from (by decide)] at A_b501
  refine o_dup 79 X511 hx (hb hby d13_78) rfl rfl ?_
  refine o_iconst 80 5 X511 hx (hb hby d13_79) rfl rfl ?_
  refine o_iloadN 81 X511 hx (hb hby d13_80) rfl rfl ?_
  obtain ⟨cl512, Ar512, q512, S512, Nn512, H512, G512⟩ := id A_b501
  obtain ⟨T513, h513, X513, e513, W513, st513⟩ := stC X511 hx hZ e511 Ar512 (j := (5 : Int32)) (inb_of S512 ⟨by decide, by decide⟩) (g := (mkF mM 81 #[.val (.int 1), .val (.int xc)] [.int xc, .int 5, .ref b501, .ref b501])) rfl rfl (hb hby d13_81)
  have N513 := Fr.snoc X513 N511 g_b501
  have Zn := Nat.le_trans Zn (Keep.of_wr W513).1
  have Kp := Kp.wr W513 (Or.inr b_b501)
  have A_b501 : Arv Z h513 b501 k501 .char 6 [.int 109, .int 101, .int 101, .int 116, .int 115, (.int (nar .char xc))] (.int 0) := Arv.set Ar512 q512 S512 Nn512 H512 G512 (fits_nar_char _) W513 5 rfl (Nat.le_of_ble_eq_true rfl)
  refine own_k T513 82 [.ref b501] st513 ?_
  rw [show nar .char xc = xc from cxc.1] at A_b501
  exact own_retA X513 hx hlk hret rfl rfl (hb hby d13_82) (by rw [e513]; exact ⟨_, _, rfl, N513, own_ext_of_keep Kp, A_b501, b_b501⟩) (by decide) (by decide)
theorem d14_33 : decode method_6_code 33 = .ok (.iload_n 0, 1) := by decide +kernel
theorem d14_34 : decode method_6_code 34 = .ok (.iconst 1, 1) := by decide +kernel
theorem d14_35 : decode method_6_code 35 = .ok (.if_icmp .ne 27, 3) := by decide +kernel
theorem d14_38 : decode method_6_code 38 = .ok (.iconst 4, 1) := by decide +kernel
theorem d14_39 : decode method_6_code 39 = .ok (.newarray .char, 2) := by decide +kernel
theorem d14_41 : decode method_6_code 41 = .ok (.dup, 1) := by decide +kernel
theorem d14_42 : decode method_6_code 42 = .ok (.iconst 0, 1) := by decide +kernel
theorem d14_43 : decode method_6_code 43 = .ok (.bipush 109, 2) := by decide +kernel
theorem d14_45 : decode method_6_code 45 = .ok (.castore, 1) := by decide +kernel
theorem d14_46 : decode method_6_code 46 = .ok (.dup, 1) := by decide +kernel
theorem d14_47 : decode method_6_code 47 = .ok (.iconst 1, 1) := by decide +kernel
theorem d14_48 : decode method_6_code 48 = .ok (.bipush 101, 2) := by decide +kernel
theorem d14_50 : decode method_6_code 50 = .ok (.castore, 1) := by decide +kernel
theorem d14_51 : decode method_6_code 51 = .ok (.dup, 1) := by decide +kernel
theorem d14_52 : decode method_6_code 52 = .ok (.iconst 2, 1) := by decide +kernel
theorem d14_53 : decode method_6_code 53 = .ok (.bipush 101, 2) := by decide +kernel
theorem d14_55 : decode method_6_code 55 = .ok (.castore, 1) := by decide +kernel
theorem d14_56 : decode method_6_code 56 = .ok (.dup, 1) := by decide +kernel
theorem d14_57 : decode method_6_code 57 = .ok (.iconst 3, 1) := by decide +kernel
theorem d14_58 : decode method_6_code 58 = .ok (.bipush 116, 2) := by decide +kernel
theorem d14_60 : decode method_6_code 60 = .ok (.castore, 1) := by decide +kernel
theorem d14_61 : decode method_6_code 61 = .ok (.areturn, 1) := by decide +kernel
theorem ef_rm_truncated1 (mM : MethodId)  : entryFrame mM #[.int 1] 1 = mkF mM 0 #[.val (.int 1)] [] := by first | (simp [entryFrame, mkF, argsToLocals, Value.category]; done) | rfl
theorem rm_truncated1 (lL : Launch) (Z : State) (a0 : Array Value) (hw : own_tb a0 Z) (ws : List Jvm.Cond)  (h0 : Heap) (n0 : Nat) (Zn : n0 ≤ h0.size) :
    own_Ct lL Z yn17 method_6_code 1 (some (.array .char)) ws (⟨0, 1, 4, 0⟩ : Room) #[.int 1] h0 (QCh Z 4 [.int 109, .int 101, .int 101, .int 116] h0 n0) := by
  refine own_body (plainFor_of_name pn_com_2fexample_2fslotwright_2fslotwright_2fmodel_2fLinkTypeOfKeyPinLaw) 1 4 rfl rfl (fun mM => ef_rm_truncated1 mM) fun pP eE sS mM below meth cC s₁ hZ hx hby hml hown hnm hret hlk X0 e0 => ?_
  have N0 := Fr.nil n0
  have Kp := Keep.refl h0 []
  refine o_iloadN 1 X0 hx (hb hby d14_0) rfl rfl ?_
  refine o_ifYes 33 X0 hx (hb hby d14_1) ((if0 _ _).trans (feq (by decide : ¬ ((1 : Int32) = (0 : Int32)))).2) (by decide) ?_
  refine o_iloadN 34 X0 hx (hb hby d14_33) rfl rfl ?_
  refine o_iconst 35 1 X0 hx (hb hby d14_34) rfl rfl ?_
  refine o_icmpNo 38 X0 hx (hb hby d14_35) (teq (by decide : ((1 : Int32) = (1 : Int32)))).2 rfl ?_
  refine o_iconst 39 4 X0 hx (hb hby d14_38) rfl rfl ?_
  obtain ⟨T514, h514, k514, X514, e514, E514, A514, st514⟩ := newP X0 hx hZ (ow hw 8 rfl) e0 (g := (mkF mM 39 #[.val (.int 1)] [.int 4])) rfl (hb hby d14_39) rfl (by decide) (cap := 4) (by decide) (by decide) (by decide) (by decide)
  obtain ⟨b514, g514⟩ : ∃ z, z = h0.size := ⟨_, rfl⟩
  rw [← g514] at A514 st514
  have g_b514 : n0 ≤ b514 := Nat.le_trans Zn (Nat.le_of_eq g514.symm)
  have b_b514 : h0.size ≤ b514 := Nat.le_trans Kp.1 (Nat.le_of_eq g514.symm)
  have Zn := Nat.le_trans Zn E514.1
  have Kp := Kp.ext E514
  have A_b514 : Arv Z h514 b514 k514 .char 4 [.int 0, .int 0, .int 0, .int 0] (.int 0) := (Arv.new A514 (by decide)).pad (pad_rep [] (.int 0) 4)
  refine own_k T514 41 [.ref b514] st514 ?_
  refine o_dup 42 X514 hx (hb hby d14_41) rfl rfl ?_
  refine o_iconst 43 0 X514 hx (hb hby d14_42) rfl rfl ?_
  refine o_bipush 45 109 X514 hx (hb hby d14_43) rfl rfl ?_
  obtain ⟨cl515, Ar515, q515, S515, Nn515, H515, G515⟩ := id A_b514
  obtain ⟨T516, h516, X516, e516, W516, st516⟩ := stC X514 hx hZ e514 Ar515 (j := (0 : Int32)) (inb_of S515 ⟨by decide, by decide⟩) (g := (mkF mM 45 #[.val (.int 1)] [.int 109, .int 0, .ref b514, .ref b514])) rfl rfl (hb hby d14_45)
  have N516 := Fr.snoc X516 N0 g_b514
  have Zn := Nat.le_trans Zn (Keep.of_wr W516).1
  have Kp := Kp.wr W516 (Or.inr b_b514)
  have A_b514 : Arv Z h516 b514 k514 .char 4 [(.int (nar .char (109 : Int32))), .int 0, .int 0, .int 0] (.int 0) := Arv.set Ar515 q515 S515 Nn515 H515 G515 (fits_nar_char _) W516 0 rfl (Nat.le_of_ble_eq_true rfl)
  refine own_k T516 46 [.ref b514] st516 ?_
  rw [show nar .char (109 : Int32) = (109 : Int32) from (by decide)] at A_b514
  refine o_dup 47 X516 hx (hb hby d14_46) rfl rfl ?_
  refine o_iconst 48 1 X516 hx (hb hby d14_47) rfl rfl ?_
  refine o_bipush 50 101 X516 hx (hb hby d14_48) rfl rfl ?_
  obtain ⟨cl517, Ar517, q517, S517, Nn517, H517, G517⟩ := id A_b514
  obtain ⟨T518, h518, X518, e518, W518, st518⟩ := stC X516 hx hZ e516 Ar517 (j := (1 : Int32)) (inb_of S517 ⟨by decide, by decide⟩) (g := (mkF mM 50 #[.val (.int 1)] [.int 101, .int 1, .ref b514, .ref b514])) rfl rfl (hb hby d14_50)
  have N518 := Fr.snoc X518 N516 g_b514
  have Zn := Nat.le_trans Zn (Keep.of_wr W518).1
  have Kp := Kp.wr W518 (Or.inr b_b514)
  have A_b514 : Arv Z h518 b514 k514 .char 4 [.int 109, (.int (nar .char (101 : Int32))), .int 0, .int 0] (.int 0) := Arv.set Ar517 q517 S517 Nn517 H517 G517 (fits_nar_char _) W518 1 rfl (Nat.le_of_ble_eq_true rfl)
  refine own_k T518 51 [.ref b514] st518 ?_
  rw [show nar .char (101 : Int32) = (101 : Int32) from (by decide)] at A_b514
  refine o_dup 52 X518 hx (hb hby d14_51) rfl rfl ?_
  refine o_iconst 53 2 X518 hx (hb hby d14_52) rfl rfl ?_
  refine o_bipush 55 101 X518 hx (hb hby d14_53) rfl rfl ?_
  obtain ⟨cl519, Ar519, q519, S519, Nn519, H519, G519⟩ := id A_b514
  obtain ⟨T520, h520, X520, e520, W520, st520⟩ := stC X518 hx hZ e518 Ar519 (j := (2 : Int32)) (inb_of S519 ⟨by decide, by decide⟩) (g := (mkF mM 55 #[.val (.int 1)] [.int 101, .int 2, .ref b514, .ref b514])) rfl rfl (hb hby d14_55)
  have N520 := Fr.snoc X520 N518 g_b514
  have Zn := Nat.le_trans Zn (Keep.of_wr W520).1
  have Kp := Kp.wr W520 (Or.inr b_b514)
  have A_b514 : Arv Z h520 b514 k514 .char 4 [.int 109, .int 101, (.int (nar .char (101 : Int32))), .int 0] (.int 0) := Arv.set Ar519 q519 S519 Nn519 H519 G519 (fits_nar_char _) W520 2 rfl (Nat.le_of_ble_eq_true rfl)
  refine own_k T520 56 [.ref b514] st520 ?_
  rw [show nar .char (101 : Int32) = (101 : Int32) from (by decide)] at A_b514
  refine o_dup 57 X520 hx (hb hby d14_56) rfl rfl ?_
  refine o_iconst 58 3 X520 hx (hb hby d14_57) rfl rfl ?_
  refine o_bipush 60 116 X520 hx (hb hby d14_58) rfl rfl ?_
  obtain ⟨cl521, Ar521, q521, S521, Nn521, H521, G521⟩ := id A_b514
  obtain ⟨T522, h522, X522, e522, W522, st522⟩ := stC X520 hx hZ e520 Ar521 (j := (3 : Int32)) (inb_of S521 ⟨by decide, by decide⟩) (g := (mkF mM 60 #[.val (.int 1)] [.int 116, .int 3, .ref b514, .ref b514])) rfl rfl (hb hby d14_60)
  have N522 := Fr.snoc X522 N520 g_b514
  have Zn := Nat.le_trans Zn (Keep.of_wr W522).1
  have Kp := Kp.wr W522 (Or.inr b_b514)
  have A_b514 : Arv Z h522 b514 k514 .char 4 [.int 109, .int 101, .int 101, (.int (nar .char (116 : Int32)))] (.int 0) := Arv.set Ar521 q521 S521 Nn521 H521 G521 (fits_nar_char _) W522 3 rfl (Nat.le_of_ble_eq_true rfl)
  refine own_k T522 61 [.ref b514] st522 ?_
  rw [show nar .char (116 : Int32) = (116 : Int32) from (by decide)] at A_b514
  exact own_retA X522 hx hlk hret rfl rfl (hb hby d14_61) (by rw [e522]; exact ⟨_, _, rfl, N522, own_ext_of_keep Kp, A_b514, b_b514⟩) (by decide) (by decide)
theorem J24_1 {vmV : Vm} (hw : own_tb a0 Z) (X0 : Stand pP lL eE room_1 (sS.setVm vmV) mM args below meth cC T0 locs 0 0) (hx : pP.tables.exec = Jvm.exec) (hZ : Z.Warmed39 (sS.setVm vmV).vm) (hby : cC.code = code) (hml : cC.maxLocals = 8) (hown : (sS.setVm vmV).vm.findClass "com/example/slotwright/slotwright/model/LinkTypeOfKeyPinLaw" = some mM.cls) (hlk : meth.locks = false) (hret : meth.sig.returnType = ret) {kV : Nat} (hS : sS.Since vmV kV) (hk : kV ≤ h0.size) (e0 : T0.heap = h0) (N0 : Fr n0 locs) (u0 : Int32) (u1 : Int32) (u2 : Int32) (mo : Int32) (xc : Int32) (cs : Int32) (a1 : Addr) (a2 : Addr) (a3 : Addr) (t : Addr) (cl : Cell) (y1 : Addr) (y2 : Addr) (y3 : Addr) (Zn : n0 ≤ h0.size) (O : Old Z n0 h0) (S_cs : Sta Z Z.heap "java/lang/String" "COMPACT_STRINGS" "Z" (.int cs)) (hcs : ¬ cs = (0 : Int32)) (hcw : Jvm.Lit.compactW.before a0 Z = true) (hh39 : Jvm.Lit.constHeld Z "com/example/slotwright/slotwright/model/LinkTypeOfKeyPinLaw" 39) (hh49 : Jvm.Lit.constHeld Z "com/example/slotwright/slotwright/model/LinkTypeOfKeyPinLaw" 49) (hh54 : Jvm.Lit.constHeld Z "com/example/slotwright/slotwright/model/LinkTypeOfKeyPinLaw" 54) (hh7 : Jvm.Lit.constHeld Z "java/lang/String" 7) (S_BEFORE : Sta Z Z.heap "com/example/slotwright/slotwright/model/LinkType" "BEFORE" "Lcom/example/slotwright/slotwright/model/LinkType;" (.ref a1)) (S_MEETS : Sta Z Z.heap "com/example/slotwright/slotwright/model/LinkType" "MEETS" "Lcom/example/slotwright/slotwright/model/LinkType;" (.ref a2)) (S_CONCURRENT : Sta Z Z.heap "com/example/slotwright/slotwright/model/LinkType" "CONCURRENT" "Lcom/example/slotwright/slotwright/model/LinkType;" (.ref a3)) (S_V : Sta Z Z.heap "com/example/slotwright/slotwright/model/LinkType" "$VALUES" "[Lcom/example/slotwright/slotwright/model/LinkType;" (.ref t)) (Ar : Arr Z Z.heap t cl (.object "com/example/slotwright/slotwright/model/LinkType")) (Ex : Exa Z Z.heap t "[Lcom/example/slotwright/slotwright/model/LinkType;") (FC : FitC Z cl) (sz : cl.slots.size = (3 : Int32).toNatClampNeg) (el0 : cl.slots[(0 : Int32).toNatClampNeg]? = some (.ref a1)) (el1 : cl.slots[(1 : Int32).toNatClampNeg]? = some (.ref a2)) (el2 : cl.slots[(2 : Int32).toNatClampNeg]? = some (.ref a3)) (Fk1 : Fld Z Z.heap a1 "com/example/slotwright/slotwright/model/LinkType" "key" "Ljava/lang/String;" (.ref y1)) (Fk2 : Fld Z Z.heap a2 "com/example/slotwright/slotwright/model/LinkType" "key" "Ljava/lang/String;" (.ref y2)) (Fk3 : Fld Z Z.heap a3 "com/example/slotwright/slotwright/model/LinkType" "key" "Ljava/lang/String;" (.ref y3)) (SX1 : StrX Z Z.heap y1 bB) (SX2 : StrX Z Z.heap y2 bM) (SX3 : StrX Z Z.heap y3 bC) (cxc : Ck xc) (hI : IB Z vmV []) :
    own_GoW pP eE below sS (QLaw n0) 24 4288 (T0.setTop (mkF mM 24 #[.val (.int u0), .val (.int u1), .val (.int u2), .val (.int mo), .val (.int 1), .val (.int xc), .unset, .unset] [])) := by
  refine o_iloadNW 25 X0 hx (hb hby at_24) rfl rfl ?_
  by_cases hc25_523 : mo = (0 : Int32)
  · skip
    refine o_ifNoW 28 X0 hx (hb hby at_25) ((if0 _ _).trans (teq hc25_523).2) rfl ?_
    obtain ⟨T524, h524, X524, e524, E524, A524, D524, -, st524⟩ := newO X0 hx hZ hown (ow hw 1 rfl) (ow hw 2 rfl) (ow hw 3 rfl) e0 (g := (mkF mM 28 #[.val (.int u0), .val (.int u1), .val (.int u2), .val (.int mo), .val (.int 1), .val (.int xc), .unset, .unset] [])) rfl (hb hby at_28) (by decide) (by decide)
    obtain ⟨b524, g524⟩ : ∃ z, z = h0.size := ⟨_, rfl⟩
    rw [← g524] at A524 D524 st524
    have g_b524 : n0 ≤ b524 := Nat.le_trans Zn (Nat.le_of_eq g524.symm)
    have O := O.ext E524
    have hk := Nat.le_trans hk E524.1
    have Zn := Nat.le_trans Zn E524.1
    have E_b524 := A524
    have F_b524_coder : Fld Z h524 b524 "java/lang/String" "coder" "B" (.int 0) := D524 (Or.inr (ow hw 32 rfl)) (ty := .byte) (by decide)
    have F_b524_value : Fld Z h524 b524 "java/lang/String" "value" "[B" .null := D524 (Or.inr (ow hw 34 rfl)) (ty := (.array .byte)) (by decide)
    refine own_kW T524 31 [.ref b524] st524 ?_
    refine o_dupW 32 X524 hx (hb hby at_31) rfl rfl ?_
    refine o_iloadW 34 X524 hx (hb hby at_32) rfl rfl ?_
    obtain ⟨_, _, ⟨T525, L525, k525, n525⟩, -, X525, ⟨Lc525, hQ525, l525, y525, z525⟩, st525⟩ := Jvm.LawKit.callS X524 hx (y := yn15) hown (mvT hZ (ow hw 4 rfl)) (mvT hZ (ow hw 5 rfl)) (mvT hZ (ow hw 6 rfl)) (mvT hZ (ow hw 7 rfl)) (by decide) (backOf (W := 2) (rm_keyChars1 lL Z a0 hw []  h524 n0 Zn) hZ (ow hw 7 rfl) (ow hw 6 rfl) (by decide) (by decide)) (g := (mkF mM 34 #[.val (.int u0), .val (.int u1), .val (.int u2), .val (.int mo), .val (.int 1), .val (.int xc), .unset, .unset] [.int 1, .ref b524, .ref b524])) rfl (by rw [hml]; rfl) (argsL := [.int 1]) (rest := [.ref b524, .ref b524]) (lenOf pd__28I_29_5bC rfl) rfl (by show 2 * 0 + _ ≤ _; exact Nat.le_of_eq rfl) (hb hby at_34) (fun _ _ => ⟨rfl, e524, (by decide : 1 + 1 ≤ _), (by decide : 4 + 5 ≤ _)⟩)
    dsimp only [Pt.U, Pt.locs, Pt.cells, Pt.slots] at X525 l525 y525 z525 st525 hQ525
    subst l525 y525 z525
    obtain ⟨b525, k525', rfl, N525q, E525, V525, ge525⟩ := hQ525
    have N525 := Fr.app N0 N525q
    have e525 : T525.heap = T525.heap := rfl
    refine own_kW T525 37 [.ref b525, .ref b524, .ref b524] st525 ?_
    have ne_b524_b525 : b524 ≠ b525 := Nat.ne_of_lt (Nat.lt_of_lt_of_le E_b524.lt ge525)
    have g_b525 : n0 ≤ b525 := Nat.le_trans Zn ge525
    have F_b524_coder := F_b524_coder.ext E525
    have F_b524_value := F_b524_value.ext E525
    have E_b524 := E_b524.ext E525
    have O := O.ext E525
    have hk := Nat.le_trans hk E525.1
    have Zn := Nat.le_trans Zn E525.1
    have A_b525 := V525
    obtain ⟨_, _, ⟨T526, L526, k526, n526⟩, -, X526, ⟨Lc526, hQ526, l526, y526, z526⟩, st526⟩ := X525.specialBack hx (y := yn9) rfl hown (mvT hZ (ow hw 9 rfl)) (mvT hZ (ow hw 10 rfl)) (mvT hZ (ow hw 11 rfl)) (by decide) (backOf (W := 1) (rmS1_5 lL Z a0 hw [] b524 b525 k525' cs ((109 : Int32)) ((101 : Int32)) ((101 : Int32)) ((116 : Int32)) ((115 : Int32)) T525.heap n0 g_b524 E_b524 F_b524_value F_b524_coder A_b525 (Ne.symm ne_b524_b525) O Zn S_cs hcs (⟨by decide, by decide, by decide⟩ : Ck _) (⟨by decide, by decide, by decide⟩ : Ck _) (⟨by decide, by decide, by decide⟩ : Ck _) (⟨by decide, by decide, by decide⟩ : Ck _) (⟨by decide, by decide, by decide⟩ : Ck _)) hZ (ow hw 11 rfl) (ow hw 3 rfl) (by decide) (by decide)) (g := (mkF mM 37 #[.val (.int u0), .val (.int u1), .val (.int u2), .val (.int mo), .val (.int 1), .val (.int xc), .unset, .unset] [.ref b525, .ref b524, .ref b524])) rfl (by rw [hml]; rfl) (Steps.refl _) (a := b524) (argsL := [.ref b525]) (rest := [.ref b524]) (lenOf pd__28_5bC_29V rfl) rfl (by show 2 * 0 + _ ≤ _; exact Nat.le_of_eq rfl) (hb hby at_37) (fun _ _ => ⟨rfl, e525, (by decide : 2 + 1 ≤ _), (by decide : 9 + 5 ≤ _)⟩)
    dsimp only [Pt.U, Pt.locs, Pt.cells, Pt.slots] at X526 l526 y526 z526 st526 hQ526
    subst l526 y526 z526
    obtain ⟨d526, k526', rfl, N526q, K526, str526, ge526⟩ := hQ526
    have N526 := Fr.app N525 N526q
    have e526 : T526.heap = T526.heap := rfl
    refine own_kW T526 40 [.ref b524] (fun t_ k_ => st526.trans k_) ?_
    have E_b524 := E_b524.keep K526
    have A_b525 := A_b525.keep K526 (ninS (Ne.symm ne_b524_b525) nin0)
    have hk := Nat.le_trans hk K526.1
    have O := O.keep K526 (allS g_b524 all0)
    have Zn := Nat.le_trans Zn K526.1
    let Lv527 : Array Slot := #[.val (.int u0), .val (.int u1), .val (.int u2), .val (.int mo), .val (.int 1), .val (.int xc), .val (.ref b524), .unset]
    refine own_stW (A := T526.setTop (mkF mM 42 Lv527 [])) (fun t_ k_ => XS.astore X526.here hx rfl (hb hby at_40) rfl rfl (l' := Lv527) rfl k_) ?_
    refine o_gotoW 150 X526 hx (hb hby at_42) (by decide) ?_
    exact J150u hw (X526.more (by decide) (by decide)) hx hZ hby hml hown hlk hret hS hk e526 N526 u0 u1 u2 mo (1 : Int32) xc b524 [((((109 : Int32)).toInt8.toInt32)).toInt8.toInt32, ((((101 : Int32)).toInt8.toInt32)).toInt8.toInt32, ((((101 : Int32)).toInt8.toInt32)).toInt8.toInt32, ((((116 : Int32)).toInt8.toInt32)).toInt8.toInt32, ((((115 : Int32)).toInt8.toInt32)).toInt8.toInt32] cs a1 a2 a3 t cl y1 y2 y3 (⟨_, _, _, str526, rfl⟩ : StrX _ _ _ [((((109 : Int32)).toInt8.toInt32)).toInt8.toInt32, ((((101 : Int32)).toInt8.toInt32)).toInt8.toInt32, ((((101 : Int32)).toInt8.toInt32)).toInt8.toInt32, ((((116 : Int32)).toInt8.toInt32)).toInt8.toInt32, ((((115 : Int32)).toInt8.toInt32)).toInt8.toInt32]) O S_cs hcs hcw hh39 hh49 hh54 hh7 S_BEFORE S_MEETS S_CONCURRENT S_V Ar Ex FC sz el0 el1 el2 Fk1 Fk2 Fk3 SX1 SX2 SX3 (own_IBw hI (fun _ q => by cases q))
  · skip
    refine o_ifYesW 45 X0 hx (hb hby at_25) ((if0 _ _).trans (feq hc25_523).2) (by decide) ?_
    refine o_iloadNW 46 X0 hx (hb hby at_45) rfl rfl ?_
    refine o_iconstW 47 1 X0 hx (hb hby at_46) rfl rfl ?_
    by_cases hc47_528 : mo = (1 : Int32)
    · skip
      refine o_icmpNoW 50 X0 hx (hb hby at_47) (teq hc47_528).2 rfl ?_
      refine o_iloadW 52 X0 hx (hb hby at_50) rfl rfl ?_
      obtain ⟨_, _, ⟨T529, L529, k529, n529⟩, -, X529, ⟨Lc529, hQ529, l529, y529, z529⟩, st529⟩ := Jvm.LawKit.callS X0 hx (y := yn15) hown (mvT hZ (ow hw 4 rfl)) (mvT hZ (ow hw 5 rfl)) (mvT hZ (ow hw 6 rfl)) (mvT hZ (ow hw 7 rfl)) (by decide) (backOf (W := 0) (rm_keyChars1 lL Z a0 hw []  h0 n0 Zn) hZ (ow hw 7 rfl) (ow hw 6 rfl) (by decide) (by decide)) (g := (mkF mM 52 #[.val (.int u0), .val (.int u1), .val (.int u2), .val (.int mo), .val (.int 1), .val (.int xc), .unset, .unset] [.int 1])) rfl (by rw [hml]; rfl) (argsL := [.int 1]) (rest := []) (lenOf pd__28I_29_5bC rfl) rfl (by show 2 * 0 + _ ≤ _; exact Nat.le_of_eq rfl) (hb hby at_52) (fun _ _ => ⟨rfl, e0, (by decide : 0 + 1 ≤ _), (by decide : 0 + 5 ≤ _)⟩)
      dsimp only [Pt.U, Pt.locs, Pt.cells, Pt.slots] at X529 l529 y529 z529 st529 hQ529
      subst l529 y529 z529
      obtain ⟨b529, k529', rfl, N529q, E529, V529, ge529⟩ := hQ529
      have N529 := Fr.app N0 N529q
      have e529 : T529.heap = T529.heap := rfl
      refine own_kW T529 55 [.ref b529] st529 ?_
      have g_b529 : n0 ≤ b529 := Nat.le_trans Zn ge529
      have O := O.ext E529
      have hk := Nat.le_trans hk E529.1
      have Zn := Nat.le_trans Zn E529.1
      have A_b529 := V529
      let Lv530 : Array Slot := #[.val (.int u0), .val (.int u1), .val (.int u2), .val (.int mo), .val (.int 1), .val (.int xc), .unset, .val (.ref b529)]
      refine own_stW (A := T529.setTop (mkF mM 57 Lv530 [])) (fun t_ k_ => XS.astore X529.here hx rfl (hb hby at_55) rfl rfl (l' := Lv530) rfl k_) ?_
      refine o_aloadW 59 X529 hx (hb hby at_57) rfl rfl rfl ?_
      refine o_iloadNW 60 X529 hx (hb hby at_59) rfl rfl ?_
      refine own_jW 62 [.int 2147483647, .int u1, .ref b529] (fun t_ k_ => X529.ldcInt hx hown (mvT hZ (ow hw 0 rfl)) (g := (mkF mM 60 Lv530 [.int u1, .ref b529])) rfl (hb hby at_60) t_ k_) ?_
      refine own_jW 63 [(.int (u1 &&& (2147483647 : Int32))), .ref b529] (fun t_ k_ => XS.iand X529.here hx rfl (hb hby at_62) rfl k_) ?_
      refine o_aloadW 65 X529 hx (hb hby at_63) rfl rfl rfl ?_
      obtain ⟨cl531, Ar531, q531, S531, Nn531, H531, G531⟩ := id A_b529
      refine own_jW 66 [.int 5, (.int (u1 &&& (2147483647 : Int32))), .ref b529] (fun t_ k_ => X529.arraylength hx (by rw [e529]; exact Ar531.1) (State.isArrayOf_alike hZ.alike Ar531.2.1) (g := (mkF mM 65 Lv530 [.ref b529, (.int (u1 &&& (2147483647 : Int32))), .ref b529])) rfl rfl (hb hby at_65) t_ (by rw [len_of S531 Nn531]; exact k_)) ?_
      refine own_jW 67 [(.int ((u1 &&& (2147483647 : Int32)) % (5 : Int32))), .ref b529] (fun t_ k_ => iremM X529 hx rfl (hb hby at_66) rfl (by decide) k_) ?_
      refine o_iloadW 69 X529 hx (hb hby at_67) rfl rfl ?_
      rcases own_mod5 u1 with q532 | q532 | q532 | q532 | q532
      · rw [q532]
        exact J69_1_0 hw X529 hx hZ hby hml hown hlk hret hS hk e529 N529 u0 u1 u2 mo 1 xc b529 k529' cs a1 a2 a3 t cl y1 y2 y3 A_b529 g_b529 Zn O S_cs hcs hcw hh39 hh49 hh54 hh7 S_BEFORE S_MEETS S_CONCURRENT S_V Ar Ex FC sz el0 el1 el2 Fk1 Fk2 Fk3 SX1 SX2 SX3 cxc hI
      · rw [q532]
        exact J69_1_1 hw X529 hx hZ hby hml hown hlk hret hS hk e529 N529 u0 u1 u2 mo 1 xc b529 k529' cs a1 a2 a3 t cl y1 y2 y3 A_b529 g_b529 Zn O S_cs hcs hcw hh39 hh49 hh54 hh7 S_BEFORE S_MEETS S_CONCURRENT S_V Ar Ex FC sz el0 el1 el2 Fk1 Fk2 Fk3 SX1 SX2 SX3 cxc hI
      · rw [q532]
        exact J69_1_2 hw X529 hx hZ hby hml hown hlk hret hS hk e529 N529 u0 u1 u2 mo 1 xc b529 k529' cs a1 a2 a3 t cl y1 y2 y3 A_b529 g_b529 Zn O S_cs hcs hcw hh39 hh49 hh54 hh7 S_BEFORE S_MEETS S_CONCURRENT S_V Ar Ex FC sz el0 el1 el2 Fk1 Fk2 Fk3 SX1 SX2 SX3 cxc hI
      · rw [q532]
        exact J69_1_3 hw X529 hx hZ hby hml hown hlk hret hS hk e529 N529 u0 u1 u2 mo 1 xc b529 k529' cs a1 a2 a3 t cl y1 y2 y3 A_b529 g_b529 Zn O S_cs hcs hcw hh39 hh49 hh54 hh7 S_BEFORE S_MEETS S_CONCURRENT S_V Ar Ex FC sz el0 el1 el2 Fk1 Fk2 Fk3 SX1 SX2 SX3 cxc hI
      · rw [q532]
        exact J69_1_4 hw X529 hx hZ hby hml hown hlk hret hS hk e529 N529 u0 u1 u2 mo 1 xc b529 k529' cs a1 a2 a3 t cl y1 y2 y3 A_b529 g_b529 Zn O S_cs hcs hcw hh39 hh49 hh54 hh7 S_BEFORE S_MEETS S_CONCURRENT S_V Ar Ex FC sz el0 el1 el2 Fk1 Fk2 Fk3 SX1 SX2 SX3 cxc hI
    · skip
      refine o_icmpYesW 84 X0 hx (hb hby at_47) (feq hc47_528).2 (by decide) ?_
      refine o_iloadNW 85 X0 hx (hb hby at_84) rfl rfl ?_
      refine o_iconstW 86 2 X0 hx (hb hby at_85) rfl rfl ?_
      by_cases hc86_533 : mo = (2 : Int32)
      · skip
        refine o_icmpNoW 89 X0 hx (hb hby at_86) (teq hc86_533).2 rfl ?_
        obtain ⟨T534, h534, X534, e534, E534, A534, D534, -, st534⟩ := newO X0 hx hZ hown (ow hw 1 rfl) (ow hw 2 rfl) (ow hw 3 rfl) e0 (g := (mkF mM 89 #[.val (.int u0), .val (.int u1), .val (.int u2), .val (.int mo), .val (.int 1), .val (.int xc), .unset, .unset] [])) rfl (hb hby at_89) (by decide) (by decide)
        obtain ⟨b534, g534⟩ : ∃ z, z = h0.size := ⟨_, rfl⟩
        rw [← g534] at A534 D534 st534
        have g_b534 : n0 ≤ b534 := Nat.le_trans Zn (Nat.le_of_eq g534.symm)
        have O := O.ext E534
        have hk := Nat.le_trans hk E534.1
        have Zn := Nat.le_trans Zn E534.1
        have E_b534 := A534
        have F_b534_coder : Fld Z h534 b534 "java/lang/String" "coder" "B" (.int 0) := D534 (Or.inr (ow hw 32 rfl)) (ty := .byte) (by decide)
        have F_b534_value : Fld Z h534 b534 "java/lang/String" "value" "[B" .null := D534 (Or.inr (ow hw 34 rfl)) (ty := (.array .byte)) (by decide)
        refine own_kW T534 92 [.ref b534] st534 ?_
        refine o_dupW 93 X534 hx (hb hby at_92) rfl rfl ?_
        refine o_iloadW 95 X534 hx (hb hby at_93) rfl rfl ?_
        refine o_iloadW 97 X534 hx (hb hby at_95) rfl rfl ?_
        obtain ⟨_, _, ⟨T535, L535, k535, n535⟩, -, X535, ⟨Lc535, hQ535, l535, y535, z535⟩, st535⟩ := Jvm.LawKit.callS X534 hx (y := yn16) hown (mvT hZ (ow hw 79 rfl)) (mvT hZ (ow hw 80 rfl)) (mvT hZ (ow hw 6 rfl)) (mvT hZ (ow hw 81 rfl)) (by decide) (backOf (W := 2) (rm_extended1 lL Z a0 hw [] xc h534 n0 Zn cxc) hZ (ow hw 81 rfl) (ow hw 6 rfl) (by decide) (by decide)) (g := (mkF mM 97 #[.val (.int u0), .val (.int u1), .val (.int u2), .val (.int mo), .val (.int 1), .val (.int xc), .unset, .unset] [.int xc, .int 1, .ref b534, .ref b534])) rfl (by rw [hml]; rfl) (argsL := [.int 1, .int xc]) (rest := [.ref b534, .ref b534]) (lenOf pd__28IC_29_5bC rfl) rfl (by show 2 * 0 + _ ≤ _; exact Nat.le_of_eq rfl) (hb hby at_97) (fun _ _ => ⟨rfl, e534, (by decide : 1 + 1 ≤ _), (by decide : 4 + 6 ≤ _)⟩)
        dsimp only [Pt.U, Pt.locs, Pt.cells, Pt.slots] at X535 l535 y535 z535 st535 hQ535
        subst l535 y535 z535
        obtain ⟨b535, k535', rfl, N535q, E535, V535, ge535⟩ := hQ535
        have N535 := Fr.app N0 N535q
        have e535 : T535.heap = T535.heap := rfl
        refine own_kW T535 100 [.ref b535, .ref b534, .ref b534] st535 ?_
        have ne_b534_b535 : b534 ≠ b535 := Nat.ne_of_lt (Nat.lt_of_lt_of_le E_b534.lt ge535)
        have g_b535 : n0 ≤ b535 := Nat.le_trans Zn ge535
        have F_b534_coder := F_b534_coder.ext E535
        have F_b534_value := F_b534_value.ext E535
        have E_b534 := E_b534.ext E535
        have O := O.ext E535
        have hk := Nat.le_trans hk E535.1
        have Zn := Nat.le_trans Zn E535.1
        have A_b535 := V535
        obtain ⟨_, _, ⟨T536, L536, k536, n536⟩, -, X536, ⟨Lc536, hQ536, l536, y536, z536⟩, st536⟩ := X535.specialBack hx (y := yn9) rfl hown (mvT hZ (ow hw 9 rfl)) (mvT hZ (ow hw 10 rfl)) (mvT hZ (ow hw 11 rfl)) (by decide) (backOf (W := 1) (rmS1_6 lL Z a0 hw [] b534 b535 k535' cs ((109 : Int32)) ((101 : Int32)) ((101 : Int32)) ((116 : Int32)) ((115 : Int32)) (xc) T535.heap n0 g_b534 E_b534 F_b534_value F_b534_coder A_b535 (Ne.symm ne_b534_b535) O Zn S_cs hcs (⟨by decide, by decide, by decide⟩ : Ck _) (⟨by decide, by decide, by decide⟩ : Ck _) (⟨by decide, by decide, by decide⟩ : Ck _) (⟨by decide, by decide, by decide⟩ : Ck _) (⟨by decide, by decide, by decide⟩ : Ck _) cxc) hZ (ow hw 11 rfl) (ow hw 3 rfl) (by decide) (by decide)) (g := (mkF mM 100 #[.val (.int u0), .val (.int u1), .val (.int u2), .val (.int mo), .val (.int 1), .val (.int xc), .unset, .unset] [.ref b535, .ref b534, .ref b534])) rfl (by rw [hml]; rfl) (Steps.refl _) (a := b534) (argsL := [.ref b535]) (rest := [.ref b534]) (lenOf pd__28_5bC_29V rfl) rfl (by show 2 * 0 + _ ≤ _; exact Nat.le_of_eq rfl) (hb hby at_100) (fun _ _ => ⟨rfl, e535, (by decide : 2 + 1 ≤ _), (by decide : 10 + 6 ≤ _)⟩)
        dsimp only [Pt.U, Pt.locs, Pt.cells, Pt.slots] at X536 l536 y536 z536 st536 hQ536
        subst l536 y536 z536
        obtain ⟨d536, k536', rfl, N536q, K536, str536, ge536⟩ := hQ536
        have N536 := Fr.app N535 N536q
        have e536 : T536.heap = T536.heap := rfl
        refine own_kW T536 103 [.ref b534] (fun t_ k_ => st536.trans k_) ?_
        have E_b534 := E_b534.keep K536
        have A_b535 := A_b535.keep K536 (ninS (Ne.symm ne_b534_b535) nin0)
        have hk := Nat.le_trans hk K536.1
        have O := O.keep K536 (allS g_b534 all0)
        have Zn := Nat.le_trans Zn K536.1
        let Lv537 : Array Slot := #[.val (.int u0), .val (.int u1), .val (.int u2), .val (.int mo), .val (.int 1), .val (.int xc), .val (.ref b534), .unset]
        refine own_stW (A := T536.setTop (mkF mM 105 Lv537 [])) (fun t_ k_ => XS.astore X536.here hx rfl (hb hby at_103) rfl rfl (l' := Lv537) rfl k_) ?_
        refine o_gotoW 150 X536 hx (hb hby at_105) (by decide) ?_
        exact J150u hw (X536.more (by decide) (by decide)) hx hZ hby hml hown hlk hret hS hk e536 N536 u0 u1 u2 mo (1 : Int32) xc b534 [((((109 : Int32)).toInt8.toInt32)).toInt8.toInt32, ((((101 : Int32)).toInt8.toInt32)).toInt8.toInt32, ((((101 : Int32)).toInt8.toInt32)).toInt8.toInt32, ((((116 : Int32)).toInt8.toInt32)).toInt8.toInt32, ((((115 : Int32)).toInt8.toInt32)).toInt8.toInt32, (((xc).toInt8.toInt32)).toInt8.toInt32] cs a1 a2 a3 t cl y1 y2 y3 (⟨_, _, _, str536, rfl⟩ : StrX _ _ _ [((((109 : Int32)).toInt8.toInt32)).toInt8.toInt32, ((((101 : Int32)).toInt8.toInt32)).toInt8.toInt32, ((((101 : Int32)).toInt8.toInt32)).toInt8.toInt32, ((((116 : Int32)).toInt8.toInt32)).toInt8.toInt32, ((((115 : Int32)).toInt8.toInt32)).toInt8.toInt32, (((xc).toInt8.toInt32)).toInt8.toInt32]) O S_cs hcs hcw hh39 hh49 hh54 hh7 S_BEFORE S_MEETS S_CONCURRENT S_V Ar Ex FC sz el0 el1 el2 Fk1 Fk2 Fk3 SX1 SX2 SX3 (own_IBw hI (fun _ q => by cases q))
      · skip
        refine o_icmpYesW 108 X0 hx (hb hby at_86) (feq hc86_533).2 (by decide) ?_
        refine o_iloadNW 109 X0 hx (hb hby at_108) rfl rfl ?_
        refine o_iconstW 110 3 X0 hx (hb hby at_109) rfl rfl ?_
        by_cases hc110_538 : mo = (3 : Int32)
        · skip
          refine o_icmpNoW 113 X0 hx (hb hby at_110) (teq hc110_538).2 rfl ?_
          obtain ⟨T539, h539, X539, e539, E539, A539, D539, -, st539⟩ := newO X0 hx hZ hown (ow hw 1 rfl) (ow hw 2 rfl) (ow hw 3 rfl) e0 (g := (mkF mM 113 #[.val (.int u0), .val (.int u1), .val (.int u2), .val (.int mo), .val (.int 1), .val (.int xc), .unset, .unset] [])) rfl (hb hby at_113) (by decide) (by decide)
          obtain ⟨b539, g539⟩ : ∃ z, z = h0.size := ⟨_, rfl⟩
          rw [← g539] at A539 D539 st539
          have g_b539 : n0 ≤ b539 := Nat.le_trans Zn (Nat.le_of_eq g539.symm)
          have O := O.ext E539
          have hk := Nat.le_trans hk E539.1
          have Zn := Nat.le_trans Zn E539.1
          have E_b539 := A539
          have F_b539_coder : Fld Z h539 b539 "java/lang/String" "coder" "B" (.int 0) := D539 (Or.inr (ow hw 32 rfl)) (ty := .byte) (by decide)
          have F_b539_value : Fld Z h539 b539 "java/lang/String" "value" "[B" .null := D539 (Or.inr (ow hw 34 rfl)) (ty := (.array .byte)) (by decide)
          refine own_kW T539 116 [.ref b539] st539 ?_
          refine o_dupW 117 X539 hx (hb hby at_116) rfl rfl ?_
          refine o_iloadW 119 X539 hx (hb hby at_117) rfl rfl ?_
          obtain ⟨_, _, ⟨T540, L540, k540, n540⟩, -, X540, ⟨Lc540, hQ540, l540, y540, z540⟩, st540⟩ := Jvm.LawKit.callS X539 hx (y := yn17) hown (mvT hZ (ow hw 82 rfl)) (mvT hZ (ow hw 83 rfl)) (mvT hZ (ow hw 6 rfl)) (mvT hZ (ow hw 84 rfl)) (by decide) (backOf (W := 2) (rm_truncated1 lL Z a0 hw []  h539 n0 Zn) hZ (ow hw 84 rfl) (ow hw 6 rfl) (by decide) (by decide)) (g := (mkF mM 119 #[.val (.int u0), .val (.int u1), .val (.int u2), .val (.int mo), .val (.int 1), .val (.int xc), .unset, .unset] [.int 1, .ref b539, .ref b539])) rfl (by rw [hml]; rfl) (argsL := [.int 1]) (rest := [.ref b539, .ref b539]) (lenOf pd__28I_29_5bC rfl) rfl (by show 2 * 0 + _ ≤ _; exact Nat.le_of_eq rfl) (hb hby at_119) (fun _ _ => ⟨rfl, e539, (by decide : 1 + 1 ≤ _), (by decide : 4 + 4 ≤ _)⟩)
          dsimp only [Pt.U, Pt.locs, Pt.cells, Pt.slots] at X540 l540 y540 z540 st540 hQ540
          subst l540 y540 z540
          obtain ⟨b540, k540', rfl, N540q, E540, V540, ge540⟩ := hQ540
          have N540 := Fr.app N0 N540q
          have e540 : T540.heap = T540.heap := rfl
          refine own_kW T540 122 [.ref b540, .ref b539, .ref b539] st540 ?_
          have ne_b539_b540 : b539 ≠ b540 := Nat.ne_of_lt (Nat.lt_of_lt_of_le E_b539.lt ge540)
          have g_b540 : n0 ≤ b540 := Nat.le_trans Zn ge540
          have F_b539_coder := F_b539_coder.ext E540
          have F_b539_value := F_b539_value.ext E540
          have E_b539 := E_b539.ext E540
          have O := O.ext E540
          have hk := Nat.le_trans hk E540.1
          have Zn := Nat.le_trans Zn E540.1
          have A_b540 := V540
          obtain ⟨_, _, ⟨T541, L541, k541, n541⟩, -, X541, ⟨Lc541, hQ541, l541, y541, z541⟩, st541⟩ := X540.specialBack hx (y := yn9) rfl hown (mvT hZ (ow hw 9 rfl)) (mvT hZ (ow hw 10 rfl)) (mvT hZ (ow hw 11 rfl)) (by decide) (backOf (W := 1) (rmS1_4 lL Z a0 hw [] b539 b540 k540' cs ((109 : Int32)) ((101 : Int32)) ((101 : Int32)) ((116 : Int32)) T540.heap n0 g_b539 E_b539 F_b539_value F_b539_coder A_b540 (Ne.symm ne_b539_b540) O Zn S_cs hcs (⟨by decide, by decide, by decide⟩ : Ck _) (⟨by decide, by decide, by decide⟩ : Ck _) (⟨by decide, by decide, by decide⟩ : Ck _) (⟨by decide, by decide, by decide⟩ : Ck _)) hZ (ow hw 11 rfl) (ow hw 3 rfl) (by decide) (by decide)) (g := (mkF mM 122 #[.val (.int u0), .val (.int u1), .val (.int u2), .val (.int mo), .val (.int 1), .val (.int xc), .unset, .unset] [.ref b540, .ref b539, .ref b539])) rfl (by rw [hml]; rfl) (Steps.refl _) (a := b539) (argsL := [.ref b540]) (rest := [.ref b539]) (lenOf pd__28_5bC_29V rfl) rfl (by show 2 * 0 + _ ≤ _; exact Nat.le_of_eq rfl) (hb hby at_122) (fun _ _ => ⟨rfl, e540, (by decide : 2 + 1 ≤ _), (by decide : 8 + 4 ≤ _)⟩)
          dsimp only [Pt.U, Pt.locs, Pt.cells, Pt.slots] at X541 l541 y541 z541 st541 hQ541
          subst l541 y541 z541
          obtain ⟨d541, k541', rfl, N541q, K541, str541, ge541⟩ := hQ541
          have N541 := Fr.app N540 N541q
          have e541 : T541.heap = T541.heap := rfl
          refine own_kW T541 125 [.ref b539] (fun t_ k_ => st541.trans k_) ?_
          have E_b539 := E_b539.keep K541
          have A_b540 := A_b540.keep K541 (ninS (Ne.symm ne_b539_b540) nin0)
          have hk := Nat.le_trans hk K541.1
          have O := O.keep K541 (allS g_b539 all0)
          have Zn := Nat.le_trans Zn K541.1
          let Lv542 : Array Slot := #[.val (.int u0), .val (.int u1), .val (.int u2), .val (.int mo), .val (.int 1), .val (.int xc), .val (.ref b539), .unset]
          refine own_stW (A := T541.setTop (mkF mM 127 Lv542 [])) (fun t_ k_ => XS.astore X541.here hx rfl (hb hby at_125) rfl rfl (l' := Lv542) rfl k_) ?_
          refine o_gotoW 150 X541 hx (hb hby at_127) (by decide) ?_
          exact J150u hw (X541.more (by decide) (by decide)) hx hZ hby hml hown hlk hret hS hk e541 N541 u0 u1 u2 mo (1 : Int32) xc b539 [((((109 : Int32)).toInt8.toInt32)).toInt8.toInt32, ((((101 : Int32)).toInt8.toInt32)).toInt8.toInt32, ((((101 : Int32)).toInt8.toInt32)).toInt8.toInt32, ((((116 : Int32)).toInt8.toInt32)).toInt8.toInt32] cs a1 a2 a3 t cl y1 y2 y3 (⟨_, _, _, str541, rfl⟩ : StrX _ _ _ [((((109 : Int32)).toInt8.toInt32)).toInt8.toInt32, ((((101 : Int32)).toInt8.toInt32)).toInt8.toInt32, ((((101 : Int32)).toInt8.toInt32)).toInt8.toInt32, ((((116 : Int32)).toInt8.toInt32)).toInt8.toInt32]) O S_cs hcs hcw hh39 hh49 hh54 hh7 S_BEFORE S_MEETS S_CONCURRENT S_V Ar Ex FC sz el0 el1 el2 Fk1 Fk2 Fk3 SX1 SX2 SX3 (own_IBw hI (fun _ q => by cases q))
        · skip
          refine o_icmpYesW 130 X0 hx (hb hby at_110) (feq hc110_538).2 (by decide) ?_
          refine o_iloadNW 131 X0 hx (hb hby at_130) rfl rfl ?_
          refine o_iconstW 132 4 X0 hx (hb hby at_131) rfl rfl ?_
          by_cases hc132_543 : mo = (4 : Int32)
          · skip
            refine o_icmpNoW 135 X0 hx (hb hby at_132) (teq hc132_543).2 rfl ?_
            refine o_iloadNW 136 X0 hx (hb hby at_135) rfl rfl ?_
            refine o_iconstW 137 3 X0 hx (hb hby at_136) rfl rfl ?_
            refine own_jW 138 [(.int (u1 &&& (3 : Int32)))] (fun t_ k_ => XS.iand X0.here hx rfl (hb hby at_137) rfl k_) ?_
            refine o_iloadNW 139 X0 hx (hb hby at_138) rfl rfl ?_
            rcases own_and3 u1 with q544 | q544 | q544 | q544
            · rw [q544]
              exact J139_0 hw X0 hx hZ hby hml hown hlk hret hS hk e0 N0 u0 u1 u2 mo (1 : Int32) xc cs a1 a2 a3 t cl y1 y2 y3 Zn O S_cs hcs hcw hh39 hh49 hh54 hh7 S_BEFORE S_MEETS S_CONCURRENT S_V Ar Ex FC sz el0 el1 el2 Fk1 Fk2 Fk3 SX1 SX2 SX3 cxc hI
            · rw [q544]
              exact J139_1 hw X0 hx hZ hby hml hown hlk hret hS hk e0 N0 u0 u1 u2 mo (1 : Int32) xc cs a1 a2 a3 t cl y1 y2 y3 Zn O S_cs hcs hcw hh39 hh49 hh54 hh7 S_BEFORE S_MEETS S_CONCURRENT S_V Ar Ex FC sz el0 el1 el2 Fk1 Fk2 Fk3 SX1 SX2 SX3 cxc hI
            · rw [q544]
              exact J139_2 hw X0 hx hZ hby hml hown hlk hret hS hk e0 N0 u0 u1 u2 mo (1 : Int32) xc cs a1 a2 a3 t cl y1 y2 y3 Zn O S_cs hcs hcw hh39 hh49 hh54 hh7 S_BEFORE S_MEETS S_CONCURRENT S_V Ar Ex FC sz el0 el1 el2 Fk1 Fk2 Fk3 SX1 SX2 SX3 cxc hI
            · rw [q544]
              exact J139_3 hw X0 hx hZ hby hml hown hlk hret hS hk e0 N0 u0 u1 u2 mo (1 : Int32) xc cs a1 a2 a3 t cl y1 y2 y3 Zn O S_cs hcs hcw hh39 hh49 hh54 hh7 S_BEFORE S_MEETS S_CONCURRENT S_V Ar Ex FC sz el0 el1 el2 Fk1 Fk2 Fk3 SX1 SX2 SX3 cxc hI
          · skip
            refine o_icmpYesW 147 X0 hx (hb hby at_132) (feq hc132_543).2 (by decide) ?_
            refine own_jW 148 [.null] (fun t_ k_ => XS.aconstNull X0.here hx rfl (hb hby at_147) k_) ?_
            let Lv545 : Array Slot := #[.val (.int u0), .val (.int u1), .val (.int u2), .val (.int mo), .val (.int 1), .val (.int xc), .val .null, .unset]
            refine own_stW (A := T0.setTop (mkF mM 150 Lv545 [])) (fun t_ k_ => XS.astore X0.here hx rfl (hb hby at_148) rfl rfl (l' := Lv545) rfl k_) ?_
            exact J150n hw (X0.more (by decide) (by decide)) hx hZ hby hml hown hlk hret hS hk e0 N0 u0 u1 u2 mo (1 : Int32) xc cs a1 a2 a3 t cl y1 y2 y3 O S_cs hcs hcw hh39 hh49 hh54 hh7 S_BEFORE S_MEETS S_CONCURRENT S_V Ar Ex FC sz el0 el1 el2 Fk1 Fk2 Fk3 SX1 SX2 SX3
theorem J69_2_0 {vmV : Vm} (hw : own_tb a0 Z) (X0 : Stand pP lL eE room_1 (sS.setVm vmV) mM args below meth cC T0 locs 1 10) (hx : pP.tables.exec = Jvm.exec) (hZ : Z.Warmed39 (sS.setVm vmV).vm) (hby : cC.code = code) (hml : cC.maxLocals = 8) (hown : (sS.setVm vmV).vm.findClass "com/example/slotwright/slotwright/model/LinkTypeOfKeyPinLaw" = some mM.cls) (hlk : meth.locks = false) (hret : meth.sig.returnType = ret) {kV : Nat} (hS : sS.Since vmV kV) (hk : kV ≤ h0.size) (e0 : T0.heap = h0) (N0 : Fr n0 locs) (u0 : Int32) (u1 : Int32) (u2 : Int32) (mo : Int32) (kk : Int32) (xc : Int32) (tt : Addr) (kt : ClassId) (cs : Int32) (a1 : Addr) (a2 : Addr) (a3 : Addr) (t : Addr) (cl : Cell) (y1 : Addr) (y2 : Addr) (y3 : Addr) (A_tt : Arv Z h0 tt kt .char 10 [.int 99, .int 111, .int 110, .int 99, .int 117, .int 114, .int 114, .int 101, .int 110, .int 116] (.int 0)) (g_tt : n0 ≤ tt) (Zn : n0 ≤ h0.size) (O : Old Z n0 h0) (S_cs : Sta Z Z.heap "java/lang/String" "COMPACT_STRINGS" "Z" (.int cs)) (hcs : ¬ cs = (0 : Int32)) (hcw : Jvm.Lit.compactW.before a0 Z = true) (hh39 : Jvm.Lit.constHeld Z "com/example/slotwright/slotwright/model/LinkTypeOfKeyPinLaw" 39) (hh49 : Jvm.Lit.constHeld Z "com/example/slotwright/slotwright/model/LinkTypeOfKeyPinLaw" 49) (hh54 : Jvm.Lit.constHeld Z "com/example/slotwright/slotwright/model/LinkTypeOfKeyPinLaw" 54) (hh7 : Jvm.Lit.constHeld Z "java/lang/String" 7) (S_BEFORE : Sta Z Z.heap "com/example/slotwright/slotwright/model/LinkType" "BEFORE" "Lcom/example/slotwright/slotwright/model/LinkType;" (.ref a1)) (S_MEETS : Sta Z Z.heap "com/example/slotwright/slotwright/model/LinkType" "MEETS" "Lcom/example/slotwright/slotwright/model/LinkType;" (.ref a2)) (S_CONCURRENT : Sta Z Z.heap "com/example/slotwright/slotwright/model/LinkType" "CONCURRENT" "Lcom/example/slotwright/slotwright/model/LinkType;" (.ref a3)) (S_V : Sta Z Z.heap "com/example/slotwright/slotwright/model/LinkType" "$VALUES" "[Lcom/example/slotwright/slotwright/model/LinkType;" (.ref t)) (Ar : Arr Z Z.heap t cl (.object "com/example/slotwright/slotwright/model/LinkType")) (Ex : Exa Z Z.heap t "[Lcom/example/slotwright/slotwright/model/LinkType;") (FC : FitC Z cl) (sz : cl.slots.size = (3 : Int32).toNatClampNeg) (el0 : cl.slots[(0 : Int32).toNatClampNeg]? = some (.ref a1)) (el1 : cl.slots[(1 : Int32).toNatClampNeg]? = some (.ref a2)) (el2 : cl.slots[(2 : Int32).toNatClampNeg]? = some (.ref a3)) (Fk1 : Fld Z Z.heap a1 "com/example/slotwright/slotwright/model/LinkType" "key" "Ljava/lang/String;" (.ref y1)) (Fk2 : Fld Z Z.heap a2 "com/example/slotwright/slotwright/model/LinkType" "key" "Ljava/lang/String;" (.ref y2)) (Fk3 : Fld Z Z.heap a3 "com/example/slotwright/slotwright/model/LinkType" "key" "Ljava/lang/String;" (.ref y3)) (SX1 : StrX Z Z.heap y1 bB) (SX2 : StrX Z Z.heap y2 bM) (SX3 : StrX Z Z.heap y3 bC) (cxc : Ck xc) (hI : IB Z vmV []) :
    own_GoW pP eE below sS (QLaw n0) 24 4288 (T0.setTop (mkF mM 69 #[.val (.int u0), .val (.int u1), .val (.int u2), .val (.int mo), .val (.int kk), .val (.int xc), .unset, .val (.ref tt)] [.int xc, .int 0, .ref tt])) := by
  obtain ⟨cl546, Ar546, q546, S546, Nn546, H546, G546⟩ := id A_tt
  obtain ⟨T547, h547, X547, e547, W547, st547⟩ := stC X0 hx hZ e0 Ar546 (j := (0 : Int32)) (inb_of S546 ⟨by decide, by decide⟩) (g := (mkF mM 69 #[.val (.int u0), .val (.int u1), .val (.int u2), .val (.int mo), .val (.int kk), .val (.int xc), .unset, .val (.ref tt)] [.int xc, .int 0, .ref tt])) rfl rfl (hb hby at_69)
  have N547 := Fr.snoc X547 N0 g_tt
  have hk := Nat.le_trans hk (Keep.of_wr W547).1
  have O := O.wr W547 g_tt
  have Zn := Nat.le_trans Zn (Keep.of_wr W547).1
  have A_tt : Arv Z h547 tt kt .char 10 [(.int (nar .char xc)), .int 111, .int 110, .int 99, .int 117, .int 114, .int 114, .int 101, .int 110, .int 116] (.int 0) := Arv.set Ar546 q546 S546 Nn546 H546 G546 (fits_nar_char _) W547 0 rfl (Nat.le_of_ble_eq_true rfl)
  refine own_kW T547 70 [] st547 ?_
  rw [show nar .char xc = xc from cxc.1] at A_tt
  obtain ⟨T548, h548, X548, e548, E548, A548, D548, -, st548⟩ := newO X547 hx hZ hown (ow hw 1 rfl) (ow hw 2 rfl) (ow hw 3 rfl) e547 (g := (mkF mM 70 #[.val (.int u0), .val (.int u1), .val (.int u2), .val (.int mo), .val (.int kk), .val (.int xc), .unset, .val (.ref tt)] [])) rfl (hb hby at_70) (by decide) (by decide)
  obtain ⟨b548, g548⟩ : ∃ z, z = h547.size := ⟨_, rfl⟩
  rw [← g548] at A548 D548 st548
  have ne_tt_b548 : tt ≠ b548 := Nat.ne_of_lt (Nat.lt_of_lt_of_le A_tt.lt (Nat.le_of_eq g548.symm))
  have g_b548 : n0 ≤ b548 := Nat.le_trans Zn (Nat.le_of_eq g548.symm)
  have O := O.ext E548
  have A_tt := A_tt.ext E548
  have hk := Nat.le_trans hk E548.1
  have Zn := Nat.le_trans Zn E548.1
  have E_b548 := A548
  have F_b548_coder : Fld Z h548 b548 "java/lang/String" "coder" "B" (.int 0) := D548 (Or.inr (ow hw 32 rfl)) (ty := .byte) (by decide)
  have F_b548_value : Fld Z h548 b548 "java/lang/String" "value" "[B" .null := D548 (Or.inr (ow hw 34 rfl)) (ty := (.array .byte)) (by decide)
  refine own_kW T548 73 [.ref b548] st548 ?_
  refine o_dupW 74 X548 hx (hb hby at_73) rfl rfl ?_
  refine o_aloadW 76 X548 hx (hb hby at_74) rfl rfl rfl ?_
  obtain ⟨_, _, ⟨T549, L549, k549, n549⟩, -, X549, ⟨Lc549, hQ549, l549, y549, z549⟩, st549⟩ := X548.specialBack hx (y := yn9) rfl hown (mvT hZ (ow hw 9 rfl)) (mvT hZ (ow hw 10 rfl)) (mvT hZ (ow hw 11 rfl)) (by decide) (backOf (W := 1) (rmS1_10 lL Z a0 hw [] b548 tt kt cs (xc) ((111 : Int32)) ((110 : Int32)) ((99 : Int32)) ((117 : Int32)) ((114 : Int32)) ((114 : Int32)) ((101 : Int32)) ((110 : Int32)) ((116 : Int32)) h548 n0 g_b548 E_b548 F_b548_value F_b548_coder A_tt ne_tt_b548 O Zn S_cs hcs cxc (⟨by decide, by decide, by decide⟩ : Ck _) (⟨by decide, by decide, by decide⟩ : Ck _) (⟨by decide, by decide, by decide⟩ : Ck _) (⟨by decide, by decide, by decide⟩ : Ck _) (⟨by decide, by decide, by decide⟩ : Ck _) (⟨by decide, by decide, by decide⟩ : Ck _) (⟨by decide, by decide, by decide⟩ : Ck _) (⟨by decide, by decide, by decide⟩ : Ck _) (⟨by decide, by decide, by decide⟩ : Ck _)) hZ (ow hw 11 rfl) (ow hw 3 rfl) (by decide) (by decide)) (g := (mkF mM 76 #[.val (.int u0), .val (.int u1), .val (.int u2), .val (.int mo), .val (.int kk), .val (.int xc), .unset, .val (.ref tt)] [.ref tt, .ref b548, .ref b548])) rfl (by rw [hml]; rfl) (Steps.refl _) (a := b548) (argsL := [.ref tt]) (rest := [.ref b548]) (lenOf pd__28_5bC_29V rfl) rfl (by show 2 * 0 + _ ≤ _; exact Nat.le_of_eq rfl) (hb hby at_76) (fun _ _ => ⟨rfl, e548, (by decide : 2 + 1 ≤ _), (by decide : 14 + 10 ≤ _)⟩)
  dsimp only [Pt.U, Pt.locs, Pt.cells, Pt.slots] at X549 l549 y549 z549 st549 hQ549
  subst l549 y549 z549
  obtain ⟨d549, k549', rfl, N549q, K549, str549, ge549⟩ := hQ549
  have N549 := Fr.app N547 N549q
  have e549 : T549.heap = T549.heap := rfl
  refine own_kW T549 79 [.ref b548] (fun t_ k_ => st549.trans k_) ?_
  have E_b548 := E_b548.keep K549
  have A_tt := A_tt.keep K549 (ninS ne_tt_b548 nin0)
  have hk := Nat.le_trans hk K549.1
  have O := O.keep K549 (allS g_b548 all0)
  have Zn := Nat.le_trans Zn K549.1
  let Lv550 : Array Slot := #[.val (.int u0), .val (.int u1), .val (.int u2), .val (.int mo), .val (.int kk), .val (.int xc), .val (.ref b548), .val (.ref tt)]
  refine own_stW (A := T549.setTop (mkF mM 81 Lv550 [])) (fun t_ k_ => XS.astore X549.here hx rfl (hb hby at_79) rfl rfl (l' := Lv550) rfl k_) ?_
  refine o_gotoW 150 X549 hx (hb hby at_81) (by decide) ?_
  exact J150t hw (X549.more (by decide) (by decide)) hx hZ hby hml hown hlk hret hS hk e549 N549 u0 u1 u2 mo kk xc b548 [(((xc).toInt8.toInt32)).toInt8.toInt32, ((((111 : Int32)).toInt8.toInt32)).toInt8.toInt32, ((((110 : Int32)).toInt8.toInt32)).toInt8.toInt32, ((((99 : Int32)).toInt8.toInt32)).toInt8.toInt32, ((((117 : Int32)).toInt8.toInt32)).toInt8.toInt32, ((((114 : Int32)).toInt8.toInt32)).toInt8.toInt32, ((((114 : Int32)).toInt8.toInt32)).toInt8.toInt32, ((((101 : Int32)).toInt8.toInt32)).toInt8.toInt32, ((((110 : Int32)).toInt8.toInt32)).toInt8.toInt32, ((((116 : Int32)).toInt8.toInt32)).toInt8.toInt32] tt cs a1 a2 a3 t cl y1 y2 y3 (⟨_, _, _, str549, rfl⟩ : StrX _ _ _ [(((xc).toInt8.toInt32)).toInt8.toInt32, ((((111 : Int32)).toInt8.toInt32)).toInt8.toInt32, ((((110 : Int32)).toInt8.toInt32)).toInt8.toInt32, ((((99 : Int32)).toInt8.toInt32)).toInt8.toInt32, ((((117 : Int32)).toInt8.toInt32)).toInt8.toInt32, ((((114 : Int32)).toInt8.toInt32)).toInt8.toInt32, ((((114 : Int32)).toInt8.toInt32)).toInt8.toInt32, ((((101 : Int32)).toInt8.toInt32)).toInt8.toInt32, ((((110 : Int32)).toInt8.toInt32)).toInt8.toInt32, ((((116 : Int32)).toInt8.toInt32)).toInt8.toInt32]) O S_cs hcs hcw hh39 hh49 hh54 hh7 S_BEFORE S_MEETS S_CONCURRENT S_V Ar Ex FC sz el0 el1 el2 Fk1 Fk2 Fk3 SX1 SX2 SX3 (own_IBw hI (fun _ q => by cases q))
theorem J69_2_1 {vmV : Vm} (hw : own_tb a0 Z) (X0 : Stand pP lL eE room_1 (sS.setVm vmV) mM args below meth cC T0 locs 1 10) (hx : pP.tables.exec = Jvm.exec) (hZ : Z.Warmed39 (sS.setVm vmV).vm) (hby : cC.code = code) (hml : cC.maxLocals = 8) (hown : (sS.setVm vmV).vm.findClass "com/example/slotwright/slotwright/model/LinkTypeOfKeyPinLaw" = some mM.cls) (hlk : meth.locks = false) (hret : meth.sig.returnType = ret) {kV : Nat} (hS : sS.Since vmV kV) (hk : kV ≤ h0.size) (e0 : T0.heap = h0) (N0 : Fr n0 locs) (u0 : Int32) (u1 : Int32) (u2 : Int32) (mo : Int32) (kk : Int32) (xc : Int32) (tt : Addr) (kt : ClassId) (cs : Int32) (a1 : Addr) (a2 : Addr) (a3 : Addr) (t : Addr) (cl : Cell) (y1 : Addr) (y2 : Addr) (y3 : Addr) (A_tt : Arv Z h0 tt kt .char 10 [.int 99, .int 111, .int 110, .int 99, .int 117, .int 114, .int 114, .int 101, .int 110, .int 116] (.int 0)) (g_tt : n0 ≤ tt) (Zn : n0 ≤ h0.size) (O : Old Z n0 h0) (S_cs : Sta Z Z.heap "java/lang/String" "COMPACT_STRINGS" "Z" (.int cs)) (hcs : ¬ cs = (0 : Int32)) (hcw : Jvm.Lit.compactW.before a0 Z = true) (hh39 : Jvm.Lit.constHeld Z "com/example/slotwright/slotwright/model/LinkTypeOfKeyPinLaw" 39) (hh49 : Jvm.Lit.constHeld Z "com/example/slotwright/slotwright/model/LinkTypeOfKeyPinLaw" 49) (hh54 : Jvm.Lit.constHeld Z "com/example/slotwright/slotwright/model/LinkTypeOfKeyPinLaw" 54) (hh7 : Jvm.Lit.constHeld Z "java/lang/String" 7) (S_BEFORE : Sta Z Z.heap "com/example/slotwright/slotwright/model/LinkType" "BEFORE" "Lcom/example/slotwright/slotwright/model/LinkType;" (.ref a1)) (S_MEETS : Sta Z Z.heap "com/example/slotwright/slotwright/model/LinkType" "MEETS" "Lcom/example/slotwright/slotwright/model/LinkType;" (.ref a2)) (S_CONCURRENT : Sta Z Z.heap "com/example/slotwright/slotwright/model/LinkType" "CONCURRENT" "Lcom/example/slotwright/slotwright/model/LinkType;" (.ref a3)) (S_V : Sta Z Z.heap "com/example/slotwright/slotwright/model/LinkType" "$VALUES" "[Lcom/example/slotwright/slotwright/model/LinkType;" (.ref t)) (Ar : Arr Z Z.heap t cl (.object "com/example/slotwright/slotwright/model/LinkType")) (Ex : Exa Z Z.heap t "[Lcom/example/slotwright/slotwright/model/LinkType;") (FC : FitC Z cl) (sz : cl.slots.size = (3 : Int32).toNatClampNeg) (el0 : cl.slots[(0 : Int32).toNatClampNeg]? = some (.ref a1)) (el1 : cl.slots[(1 : Int32).toNatClampNeg]? = some (.ref a2)) (el2 : cl.slots[(2 : Int32).toNatClampNeg]? = some (.ref a3)) (Fk1 : Fld Z Z.heap a1 "com/example/slotwright/slotwright/model/LinkType" "key" "Ljava/lang/String;" (.ref y1)) (Fk2 : Fld Z Z.heap a2 "com/example/slotwright/slotwright/model/LinkType" "key" "Ljava/lang/String;" (.ref y2)) (Fk3 : Fld Z Z.heap a3 "com/example/slotwright/slotwright/model/LinkType" "key" "Ljava/lang/String;" (.ref y3)) (SX1 : StrX Z Z.heap y1 bB) (SX2 : StrX Z Z.heap y2 bM) (SX3 : StrX Z Z.heap y3 bC) (cxc : Ck xc) (hI : IB Z vmV []) :
    own_GoW pP eE below sS (QLaw n0) 24 4288 (T0.setTop (mkF mM 69 #[.val (.int u0), .val (.int u1), .val (.int u2), .val (.int mo), .val (.int kk), .val (.int xc), .unset, .val (.ref tt)] [.int xc, .int 1, .ref tt])) := by
  obtain ⟨cl551, Ar551, q551, S551, Nn551, H551, G551⟩ := id A_tt
  obtain ⟨T552, h552, X552, e552, W552, st552⟩ := stC X0 hx hZ e0 Ar551 (j := (1 : Int32)) (inb_of S551 ⟨by decide, by decide⟩) (g := (mkF mM 69 #[.val (.int u0), .val (.int u1), .val (.int u2), .val (.int mo), .val (.int kk), .val (.int xc), .unset, .val (.ref tt)] [.int xc, .int 1, .ref tt])) rfl rfl (hb hby at_69)
  have N552 := Fr.snoc X552 N0 g_tt
  have hk := Nat.le_trans hk (Keep.of_wr W552).1
  have O := O.wr W552 g_tt
  have Zn := Nat.le_trans Zn (Keep.of_wr W552).1
  have A_tt : Arv Z h552 tt kt .char 10 [.int 99, (.int (nar .char xc)), .int 110, .int 99, .int 117, .int 114, .int 114, .int 101, .int 110, .int 116] (.int 0) := Arv.set Ar551 q551 S551 Nn551 H551 G551 (fits_nar_char _) W552 1 rfl (Nat.le_of_ble_eq_true rfl)
  refine own_kW T552 70 [] st552 ?_
  rw [show nar .char xc = xc from cxc.1] at A_tt
  obtain ⟨T553, h553, X553, e553, E553, A553, D553, -, st553⟩ := newO X552 hx hZ hown (ow hw 1 rfl) (ow hw 2 rfl) (ow hw 3 rfl) e552 (g := (mkF mM 70 #[.val (.int u0), .val (.int u1), .val (.int u2), .val (.int mo), .val (.int kk), .val (.int xc), .unset, .val (.ref tt)] [])) rfl (hb hby at_70) (by decide) (by decide)
  obtain ⟨b553, g553⟩ : ∃ z, z = h552.size := ⟨_, rfl⟩
  rw [← g553] at A553 D553 st553
  have ne_tt_b553 : tt ≠ b553 := Nat.ne_of_lt (Nat.lt_of_lt_of_le A_tt.lt (Nat.le_of_eq g553.symm))
  have g_b553 : n0 ≤ b553 := Nat.le_trans Zn (Nat.le_of_eq g553.symm)
  have O := O.ext E553
  have A_tt := A_tt.ext E553
  have hk := Nat.le_trans hk E553.1
  have Zn := Nat.le_trans Zn E553.1
  have E_b553 := A553
  have F_b553_coder : Fld Z h553 b553 "java/lang/String" "coder" "B" (.int 0) := D553 (Or.inr (ow hw 32 rfl)) (ty := .byte) (by decide)
  have F_b553_value : Fld Z h553 b553 "java/lang/String" "value" "[B" .null := D553 (Or.inr (ow hw 34 rfl)) (ty := (.array .byte)) (by decide)
  refine own_kW T553 73 [.ref b553] st553 ?_
  refine o_dupW 74 X553 hx (hb hby at_73) rfl rfl ?_
  refine o_aloadW 76 X553 hx (hb hby at_74) rfl rfl rfl ?_
  obtain ⟨_, _, ⟨T554, L554, k554, n554⟩, -, X554, ⟨Lc554, hQ554, l554, y554, z554⟩, st554⟩ := X553.specialBack hx (y := yn9) rfl hown (mvT hZ (ow hw 9 rfl)) (mvT hZ (ow hw 10 rfl)) (mvT hZ (ow hw 11 rfl)) (by decide) (backOf (W := 1) (rmS1_10 lL Z a0 hw [] b553 tt kt cs ((99 : Int32)) (xc) ((110 : Int32)) ((99 : Int32)) ((117 : Int32)) ((114 : Int32)) ((114 : Int32)) ((101 : Int32)) ((110 : Int32)) ((116 : Int32)) h553 n0 g_b553 E_b553 F_b553_value F_b553_coder A_tt ne_tt_b553 O Zn S_cs hcs (⟨by decide, by decide, by decide⟩ : Ck _) cxc (⟨by decide, by decide, by decide⟩ : Ck _) (⟨by decide, by decide, by decide⟩ : Ck _) (⟨by decide, by decide, by decide⟩ : Ck _) (⟨by decide, by decide, by decide⟩ : Ck _) (⟨by decide, by decide, by decide⟩ : Ck _) (⟨by decide, by decide, by decide⟩ : Ck _) (⟨by decide, by decide, by decide⟩ : Ck _) (⟨by decide, by decide, by decide⟩ : Ck _)) hZ (ow hw 11 rfl) (ow hw 3 rfl) (by decide) (by decide)) (g := (mkF mM 76 #[.val (.int u0), .val (.int u1), .val (.int u2), .val (.int mo), .val (.int kk), .val (.int xc), .unset, .val (.ref tt)] [.ref tt, .ref b553, .ref b553])) rfl (by rw [hml]; rfl) (Steps.refl _) (a := b553) (argsL := [.ref tt]) (rest := [.ref b553]) (lenOf pd__28_5bC_29V rfl) rfl (by show 2 * 0 + _ ≤ _; exact Nat.le_of_eq rfl) (hb hby at_76) (fun _ _ => ⟨rfl, e553, (by decide : 2 + 1 ≤ _), (by decide : 14 + 10 ≤ _)⟩)
  dsimp only [Pt.U, Pt.locs, Pt.cells, Pt.slots] at X554 l554 y554 z554 st554 hQ554
  subst l554 y554 z554
  obtain ⟨d554, k554', rfl, N554q, K554, str554, ge554⟩ := hQ554
  have N554 := Fr.app N552 N554q
  have e554 : T554.heap = T554.heap := rfl
  refine own_kW T554 79 [.ref b553] (fun t_ k_ => st554.trans k_) ?_
  have E_b553 := E_b553.keep K554
  have A_tt := A_tt.keep K554 (ninS ne_tt_b553 nin0)
  have hk := Nat.le_trans hk K554.1
  have O := O.keep K554 (allS g_b553 all0)
  have Zn := Nat.le_trans Zn K554.1
  let Lv555 : Array Slot := #[.val (.int u0), .val (.int u1), .val (.int u2), .val (.int mo), .val (.int kk), .val (.int xc), .val (.ref b553), .val (.ref tt)]
  refine own_stW (A := T554.setTop (mkF mM 81 Lv555 [])) (fun t_ k_ => XS.astore X554.here hx rfl (hb hby at_79) rfl rfl (l' := Lv555) rfl k_) ?_
  refine o_gotoW 150 X554 hx (hb hby at_81) (by decide) ?_
  exact J150t hw (X554.more (by decide) (by decide)) hx hZ hby hml hown hlk hret hS hk e554 N554 u0 u1 u2 mo kk xc b553 [((((99 : Int32)).toInt8.toInt32)).toInt8.toInt32, (((xc).toInt8.toInt32)).toInt8.toInt32, ((((110 : Int32)).toInt8.toInt32)).toInt8.toInt32, ((((99 : Int32)).toInt8.toInt32)).toInt8.toInt32, ((((117 : Int32)).toInt8.toInt32)).toInt8.toInt32, ((((114 : Int32)).toInt8.toInt32)).toInt8.toInt32, ((((114 : Int32)).toInt8.toInt32)).toInt8.toInt32, ((((101 : Int32)).toInt8.toInt32)).toInt8.toInt32, ((((110 : Int32)).toInt8.toInt32)).toInt8.toInt32, ((((116 : Int32)).toInt8.toInt32)).toInt8.toInt32] tt cs a1 a2 a3 t cl y1 y2 y3 (⟨_, _, _, str554, rfl⟩ : StrX _ _ _ [((((99 : Int32)).toInt8.toInt32)).toInt8.toInt32, (((xc).toInt8.toInt32)).toInt8.toInt32, ((((110 : Int32)).toInt8.toInt32)).toInt8.toInt32, ((((99 : Int32)).toInt8.toInt32)).toInt8.toInt32, ((((117 : Int32)).toInt8.toInt32)).toInt8.toInt32, ((((114 : Int32)).toInt8.toInt32)).toInt8.toInt32, ((((114 : Int32)).toInt8.toInt32)).toInt8.toInt32, ((((101 : Int32)).toInt8.toInt32)).toInt8.toInt32, ((((110 : Int32)).toInt8.toInt32)).toInt8.toInt32, ((((116 : Int32)).toInt8.toInt32)).toInt8.toInt32]) O S_cs hcs hcw hh39 hh49 hh54 hh7 S_BEFORE S_MEETS S_CONCURRENT S_V Ar Ex FC sz el0 el1 el2 Fk1 Fk2 Fk3 SX1 SX2 SX3 (own_IBw hI (fun _ q => by cases q))
theorem J69_2_2 {vmV : Vm} (hw : own_tb a0 Z) (X0 : Stand pP lL eE room_1 (sS.setVm vmV) mM args below meth cC T0 locs 1 10) (hx : pP.tables.exec = Jvm.exec) (hZ : Z.Warmed39 (sS.setVm vmV).vm) (hby : cC.code = code) (hml : cC.maxLocals = 8) (hown : (sS.setVm vmV).vm.findClass "com/example/slotwright/slotwright/model/LinkTypeOfKeyPinLaw" = some mM.cls) (hlk : meth.locks = false) (hret : meth.sig.returnType = ret) {kV : Nat} (hS : sS.Since vmV kV) (hk : kV ≤ h0.size) (e0 : T0.heap = h0) (N0 : Fr n0 locs) (u0 : Int32) (u1 : Int32) (u2 : Int32) (mo : Int32) (kk : Int32) (xc : Int32) (tt : Addr) (kt : ClassId) (cs : Int32) (a1 : Addr) (a2 : Addr) (a3 : Addr) (t : Addr) (cl : Cell) (y1 : Addr) (y2 : Addr) (y3 : Addr) (A_tt : Arv Z h0 tt kt .char 10 [.int 99, .int 111, .int 110, .int 99, .int 117, .int 114, .int 114, .int 101, .int 110, .int 116] (.int 0)) (g_tt : n0 ≤ tt) (Zn : n0 ≤ h0.size) (O : Old Z n0 h0) (S_cs : Sta Z Z.heap "java/lang/String" "COMPACT_STRINGS" "Z" (.int cs)) (hcs : ¬ cs = (0 : Int32)) (hcw : Jvm.Lit.compactW.before a0 Z = true) (hh39 : Jvm.Lit.constHeld Z "com/example/slotwright/slotwright/model/LinkTypeOfKeyPinLaw" 39) (hh49 : Jvm.Lit.constHeld Z "com/example/slotwright/slotwright/model/LinkTypeOfKeyPinLaw" 49) (hh54 : Jvm.Lit.constHeld Z "com/example/slotwright/slotwright/model/LinkTypeOfKeyPinLaw" 54) (hh7 : Jvm.Lit.constHeld Z "java/lang/String" 7) (S_BEFORE : Sta Z Z.heap "com/example/slotwright/slotwright/model/LinkType" "BEFORE" "Lcom/example/slotwright/slotwright/model/LinkType;" (.ref a1)) (S_MEETS : Sta Z Z.heap "com/example/slotwright/slotwright/model/LinkType" "MEETS" "Lcom/example/slotwright/slotwright/model/LinkType;" (.ref a2)) (S_CONCURRENT : Sta Z Z.heap "com/example/slotwright/slotwright/model/LinkType" "CONCURRENT" "Lcom/example/slotwright/slotwright/model/LinkType;" (.ref a3)) (S_V : Sta Z Z.heap "com/example/slotwright/slotwright/model/LinkType" "$VALUES" "[Lcom/example/slotwright/slotwright/model/LinkType;" (.ref t)) (Ar : Arr Z Z.heap t cl (.object "com/example/slotwright/slotwright/model/LinkType")) (Ex : Exa Z Z.heap t "[Lcom/example/slotwright/slotwright/model/LinkType;") (FC : FitC Z cl) (sz : cl.slots.size = (3 : Int32).toNatClampNeg) (el0 : cl.slots[(0 : Int32).toNatClampNeg]? = some (.ref a1)) (el1 : cl.slots[(1 : Int32).toNatClampNeg]? = some (.ref a2)) (el2 : cl.slots[(2 : Int32).toNatClampNeg]? = some (.ref a3)) (Fk1 : Fld Z Z.heap a1 "com/example/slotwright/slotwright/model/LinkType" "key" "Ljava/lang/String;" (.ref y1)) (Fk2 : Fld Z Z.heap a2 "com/example/slotwright/slotwright/model/LinkType" "key" "Ljava/lang/String;" (.ref y2)) (Fk3 : Fld Z Z.heap a3 "com/example/slotwright/slotwright/model/LinkType" "key" "Ljava/lang/String;" (.ref y3)) (SX1 : StrX Z Z.heap y1 bB) (SX2 : StrX Z Z.heap y2 bM) (SX3 : StrX Z Z.heap y3 bC) (cxc : Ck xc) (hI : IB Z vmV []) :
    own_GoW pP eE below sS (QLaw n0) 24 4288 (T0.setTop (mkF mM 69 #[.val (.int u0), .val (.int u1), .val (.int u2), .val (.int mo), .val (.int kk), .val (.int xc), .unset, .val (.ref tt)] [.int xc, .int 2, .ref tt])) := by
  obtain ⟨cl556, Ar556, q556, S556, Nn556, H556, G556⟩ := id A_tt
  obtain ⟨T557, h557, X557, e557, W557, st557⟩ := stC X0 hx hZ e0 Ar556 (j := (2 : Int32)) (inb_of S556 ⟨by decide, by decide⟩) (g := (mkF mM 69 #[.val (.int u0), .val (.int u1), .val (.int u2), .val (.int mo), .val (.int kk), .val (.int xc), .unset, .val (.ref tt)] [.int xc, .int 2, .ref tt])) rfl rfl (hb hby at_69)
  have N557 := Fr.snoc X557 N0 g_tt
  have hk := Nat.le_trans hk (Keep.of_wr W557).1
  have O := O.wr W557 g_tt
  have Zn := Nat.le_trans Zn (Keep.of_wr W557).1
  have A_tt : Arv Z h557 tt kt .char 10 [.int 99, .int 111, (.int (nar .char xc)), .int 99, .int 117, .int 114, .int 114, .int 101, .int 110, .int 116] (.int 0) := Arv.set Ar556 q556 S556 Nn556 H556 G556 (fits_nar_char _) W557 2 rfl (Nat.le_of_ble_eq_true rfl)
  refine own_kW T557 70 [] st557 ?_
  rw [show nar .char xc = xc from cxc.1] at A_tt
  obtain ⟨T558, h558, X558, e558, E558, A558, D558, -, st558⟩ := newO X557 hx hZ hown (ow hw 1 rfl) (ow hw 2 rfl) (ow hw 3 rfl) e557 (g := (mkF mM 70 #[.val (.int u0), .val (.int u1), .val (.int u2), .val (.int mo), .val (.int kk), .val (.int xc), .unset, .val (.ref tt)] [])) rfl (hb hby at_70) (by decide) (by decide)
  obtain ⟨b558, g558⟩ : ∃ z, z = h557.size := ⟨_, rfl⟩
  rw [← g558] at A558 D558 st558
  have ne_tt_b558 : tt ≠ b558 := Nat.ne_of_lt (Nat.lt_of_lt_of_le A_tt.lt (Nat.le_of_eq g558.symm))
  have g_b558 : n0 ≤ b558 := Nat.le_trans Zn (Nat.le_of_eq g558.symm)
  have O := O.ext E558
  have A_tt := A_tt.ext E558
  have hk := Nat.le_trans hk E558.1
  have Zn := Nat.le_trans Zn E558.1
  have E_b558 := A558
  have F_b558_coder : Fld Z h558 b558 "java/lang/String" "coder" "B" (.int 0) := D558 (Or.inr (ow hw 32 rfl)) (ty := .byte) (by decide)
  have F_b558_value : Fld Z h558 b558 "java/lang/String" "value" "[B" .null := D558 (Or.inr (ow hw 34 rfl)) (ty := (.array .byte)) (by decide)
  refine own_kW T558 73 [.ref b558] st558 ?_
  refine o_dupW 74 X558 hx (hb hby at_73) rfl rfl ?_
  refine o_aloadW 76 X558 hx (hb hby at_74) rfl rfl rfl ?_
  obtain ⟨_, _, ⟨T559, L559, k559, n559⟩, -, X559, ⟨Lc559, hQ559, l559, y559, z559⟩, st559⟩ := X558.specialBack hx (y := yn9) rfl hown (mvT hZ (ow hw 9 rfl)) (mvT hZ (ow hw 10 rfl)) (mvT hZ (ow hw 11 rfl)) (by decide) (backOf (W := 1) (rmS1_10 lL Z a0 hw [] b558 tt kt cs ((99 : Int32)) ((111 : Int32)) (xc) ((99 : Int32)) ((117 : Int32)) ((114 : Int32)) ((114 : Int32)) ((101 : Int32)) ((110 : Int32)) ((116 : Int32)) h558 n0 g_b558 E_b558 F_b558_value F_b558_coder A_tt ne_tt_b558 O Zn S_cs hcs (⟨by decide, by decide, by decide⟩ : Ck _) (⟨by decide, by decide, by decide⟩ : Ck _) cxc (⟨by decide, by decide, by decide⟩ : Ck _) (⟨by decide, by decide, by decide⟩ : Ck _) (⟨by decide, by decide, by decide⟩ : Ck _) (⟨by decide, by decide, by decide⟩ : Ck _) (⟨by decide, by decide, by decide⟩ : Ck _) (⟨by decide, by decide, by decide⟩ : Ck _) (⟨by decide, by decide, by decide⟩ : Ck _)) hZ (ow hw 11 rfl) (ow hw 3 rfl) (by decide) (by decide)) (g := (mkF mM 76 #[.val (.int u0), .val (.int u1), .val (.int u2), .val (.int mo), .val (.int kk), .val (.int xc), .unset, .val (.ref tt)] [.ref tt, .ref b558, .ref b558])) rfl (by rw [hml]; rfl) (Steps.refl _) (a := b558) (argsL := [.ref tt]) (rest := [.ref b558]) (lenOf pd__28_5bC_29V rfl) rfl (by show 2 * 0 + _ ≤ _; exact Nat.le_of_eq rfl) (hb hby at_76) (fun _ _ => ⟨rfl, e558, (by decide : 2 + 1 ≤ _), (by decide : 14 + 10 ≤ _)⟩)
  dsimp only [Pt.U, Pt.locs, Pt.cells, Pt.slots] at X559 l559 y559 z559 st559 hQ559
  subst l559 y559 z559
  obtain ⟨d559, k559', rfl, N559q, K559, str559, ge559⟩ := hQ559
  have N559 := Fr.app N557 N559q
  have e559 : T559.heap = T559.heap := rfl
  refine own_kW T559 79 [.ref b558] (fun t_ k_ => st559.trans k_) ?_
  have E_b558 := E_b558.keep K559
  have A_tt := A_tt.keep K559 (ninS ne_tt_b558 nin0)
  have hk := Nat.le_trans hk K559.1
  have O := O.keep K559 (allS g_b558 all0)
  have Zn := Nat.le_trans Zn K559.1
  let Lv560 : Array Slot := #[.val (.int u0), .val (.int u1), .val (.int u2), .val (.int mo), .val (.int kk), .val (.int xc), .val (.ref b558), .val (.ref tt)]
  refine own_stW (A := T559.setTop (mkF mM 81 Lv560 [])) (fun t_ k_ => XS.astore X559.here hx rfl (hb hby at_79) rfl rfl (l' := Lv560) rfl k_) ?_
  refine o_gotoW 150 X559 hx (hb hby at_81) (by decide) ?_
  exact J150t hw (X559.more (by decide) (by decide)) hx hZ hby hml hown hlk hret hS hk e559 N559 u0 u1 u2 mo kk xc b558 [((((99 : Int32)).toInt8.toInt32)).toInt8.toInt32, ((((111 : Int32)).toInt8.toInt32)).toInt8.toInt32, (((xc).toInt8.toInt32)).toInt8.toInt32, ((((99 : Int32)).toInt8.toInt32)).toInt8.toInt32, ((((117 : Int32)).toInt8.toInt32)).toInt8.toInt32, ((((114 : Int32)).toInt8.toInt32)).toInt8.toInt32, ((((114 : Int32)).toInt8.toInt32)).toInt8.toInt32, ((((101 : Int32)).toInt8.toInt32)).toInt8.toInt32, ((((110 : Int32)).toInt8.toInt32)).toInt8.toInt32, ((((116 : Int32)).toInt8.toInt32)).toInt8.toInt32] tt cs a1 a2 a3 t cl y1 y2 y3 (⟨_, _, _, str559, rfl⟩ : StrX _ _ _ [((((99 : Int32)).toInt8.toInt32)).toInt8.toInt32, ((((111 : Int32)).toInt8.toInt32)).toInt8.toInt32, (((xc).toInt8.toInt32)).toInt8.toInt32, ((((99 : Int32)).toInt8.toInt32)).toInt8.toInt32, ((((117 : Int32)).toInt8.toInt32)).toInt8.toInt32, ((((114 : Int32)).toInt8.toInt32)).toInt8.toInt32, ((((114 : Int32)).toInt8.toInt32)).toInt8.toInt32, ((((101 : Int32)).toInt8.toInt32)).toInt8.toInt32, ((((110 : Int32)).toInt8.toInt32)).toInt8.toInt32, ((((116 : Int32)).toInt8.toInt32)).toInt8.toInt32]) O S_cs hcs hcw hh39 hh49 hh54 hh7 S_BEFORE S_MEETS S_CONCURRENT S_V Ar Ex FC sz el0 el1 el2 Fk1 Fk2 Fk3 SX1 SX2 SX3 (own_IBw hI (fun _ q => by cases q))
theorem J69_2_3 {vmV : Vm} (hw : own_tb a0 Z) (X0 : Stand pP lL eE room_1 (sS.setVm vmV) mM args below meth cC T0 locs 1 10) (hx : pP.tables.exec = Jvm.exec) (hZ : Z.Warmed39 (sS.setVm vmV).vm) (hby : cC.code = code) (hml : cC.maxLocals = 8) (hown : (sS.setVm vmV).vm.findClass "com/example/slotwright/slotwright/model/LinkTypeOfKeyPinLaw" = some mM.cls) (hlk : meth.locks = false) (hret : meth.sig.returnType = ret) {kV : Nat} (hS : sS.Since vmV kV) (hk : kV ≤ h0.size) (e0 : T0.heap = h0) (N0 : Fr n0 locs) (u0 : Int32) (u1 : Int32) (u2 : Int32) (mo : Int32) (kk : Int32) (xc : Int32) (tt : Addr) (kt : ClassId) (cs : Int32) (a1 : Addr) (a2 : Addr) (a3 : Addr) (t : Addr) (cl : Cell) (y1 : Addr) (y2 : Addr) (y3 : Addr) (A_tt : Arv Z h0 tt kt .char 10 [.int 99, .int 111, .int 110, .int 99, .int 117, .int 114, .int 114, .int 101, .int 110, .int 116] (.int 0)) (g_tt : n0 ≤ tt) (Zn : n0 ≤ h0.size) (O : Old Z n0 h0) (S_cs : Sta Z Z.heap "java/lang/String" "COMPACT_STRINGS" "Z" (.int cs)) (hcs : ¬ cs = (0 : Int32)) (hcw : Jvm.Lit.compactW.before a0 Z = true) (hh39 : Jvm.Lit.constHeld Z "com/example/slotwright/slotwright/model/LinkTypeOfKeyPinLaw" 39) (hh49 : Jvm.Lit.constHeld Z "com/example/slotwright/slotwright/model/LinkTypeOfKeyPinLaw" 49) (hh54 : Jvm.Lit.constHeld Z "com/example/slotwright/slotwright/model/LinkTypeOfKeyPinLaw" 54) (hh7 : Jvm.Lit.constHeld Z "java/lang/String" 7) (S_BEFORE : Sta Z Z.heap "com/example/slotwright/slotwright/model/LinkType" "BEFORE" "Lcom/example/slotwright/slotwright/model/LinkType;" (.ref a1)) (S_MEETS : Sta Z Z.heap "com/example/slotwright/slotwright/model/LinkType" "MEETS" "Lcom/example/slotwright/slotwright/model/LinkType;" (.ref a2)) (S_CONCURRENT : Sta Z Z.heap "com/example/slotwright/slotwright/model/LinkType" "CONCURRENT" "Lcom/example/slotwright/slotwright/model/LinkType;" (.ref a3)) (S_V : Sta Z Z.heap "com/example/slotwright/slotwright/model/LinkType" "$VALUES" "[Lcom/example/slotwright/slotwright/model/LinkType;" (.ref t)) (Ar : Arr Z Z.heap t cl (.object "com/example/slotwright/slotwright/model/LinkType")) (Ex : Exa Z Z.heap t "[Lcom/example/slotwright/slotwright/model/LinkType;") (FC : FitC Z cl) (sz : cl.slots.size = (3 : Int32).toNatClampNeg) (el0 : cl.slots[(0 : Int32).toNatClampNeg]? = some (.ref a1)) (el1 : cl.slots[(1 : Int32).toNatClampNeg]? = some (.ref a2)) (el2 : cl.slots[(2 : Int32).toNatClampNeg]? = some (.ref a3)) (Fk1 : Fld Z Z.heap a1 "com/example/slotwright/slotwright/model/LinkType" "key" "Ljava/lang/String;" (.ref y1)) (Fk2 : Fld Z Z.heap a2 "com/example/slotwright/slotwright/model/LinkType" "key" "Ljava/lang/String;" (.ref y2)) (Fk3 : Fld Z Z.heap a3 "com/example/slotwright/slotwright/model/LinkType" "key" "Ljava/lang/String;" (.ref y3)) (SX1 : StrX Z Z.heap y1 bB) (SX2 : StrX Z Z.heap y2 bM) (SX3 : StrX Z Z.heap y3 bC) (cxc : Ck xc) (hI : IB Z vmV []) :
    own_GoW pP eE below sS (QLaw n0) 24 4288 (T0.setTop (mkF mM 69 #[.val (.int u0), .val (.int u1), .val (.int u2), .val (.int mo), .val (.int kk), .val (.int xc), .unset, .val (.ref tt)] [.int xc, .int 3, .ref tt])) := by
  obtain ⟨cl561, Ar561, q561, S561, Nn561, H561, G561⟩ := id A_tt
  obtain ⟨T562, h562, X562, e562, W562, st562⟩ := stC X0 hx hZ e0 Ar561 (j := (3 : Int32)) (inb_of S561 ⟨by decide, by decide⟩) (g := (mkF mM 69 #[.val (.int u0), .val (.int u1), .val (.int u2), .val (.int mo), .val (.int kk), .val (.int xc), .unset, .val (.ref tt)] [.int xc, .int 3, .ref tt])) rfl rfl (hb hby at_69)
  have N562 := Fr.snoc X562 N0 g_tt
  have hk := Nat.le_trans hk (Keep.of_wr W562).1
  have O := O.wr W562 g_tt
  have Zn := Nat.le_trans Zn (Keep.of_wr W562).1
  have A_tt : Arv Z h562 tt kt .char 10 [.int 99, .int 111, .int 110, (.int (nar .char xc)), .int 117, .int 114, .int 114, .int 101, .int 110, .int 116] (.int 0) := Arv.set Ar561 q561 S561 Nn561 H561 G561 (fits_nar_char _) W562 3 rfl (Nat.le_of_ble_eq_true rfl)
  refine own_kW T562 70 [] st562 ?_
  rw [show nar .char xc = xc from cxc.1] at A_tt
  obtain ⟨T563, h563, X563, e563, E563, A563, D563, -, st563⟩ := newO X562 hx hZ hown (ow hw 1 rfl) (ow hw 2 rfl) (ow hw 3 rfl) e562 (g := (mkF mM 70 #[.val (.int u0), .val (.int u1), .val (.int u2), .val (.int mo), .val (.int kk), .val (.int xc), .unset, .val (.ref tt)] [])) rfl (hb hby at_70) (by decide) (by decide)
  obtain ⟨b563, g563⟩ : ∃ z, z = h562.size := ⟨_, rfl⟩
  rw [← g563] at A563 D563 st563
  have ne_tt_b563 : tt ≠ b563 := Nat.ne_of_lt (Nat.lt_of_lt_of_le A_tt.lt (Nat.le_of_eq g563.symm))
  have g_b563 : n0 ≤ b563 := Nat.le_trans Zn (Nat.le_of_eq g563.symm)
  have O := O.ext E563
  have A_tt := A_tt.ext E563
  have hk := Nat.le_trans hk E563.1
  have Zn := Nat.le_trans Zn E563.1
  have E_b563 := A563
  have F_b563_coder : Fld Z h563 b563 "java/lang/String" "coder" "B" (.int 0) := D563 (Or.inr (ow hw 32 rfl)) (ty := .byte) (by decide)
  have F_b563_value : Fld Z h563 b563 "java/lang/String" "value" "[B" .null := D563 (Or.inr (ow hw 34 rfl)) (ty := (.array .byte)) (by decide)
  refine own_kW T563 73 [.ref b563] st563 ?_
  refine o_dupW 74 X563 hx (hb hby at_73) rfl rfl ?_
  refine o_aloadW 76 X563 hx (hb hby at_74) rfl rfl rfl ?_
  obtain ⟨_, _, ⟨T564, L564, k564, n564⟩, -, X564, ⟨Lc564, hQ564, l564, y564, z564⟩, st564⟩ := X563.specialBack hx (y := yn9) rfl hown (mvT hZ (ow hw 9 rfl)) (mvT hZ (ow hw 10 rfl)) (mvT hZ (ow hw 11 rfl)) (by decide) (backOf (W := 1) (rmS1_10 lL Z a0 hw [] b563 tt kt cs ((99 : Int32)) ((111 : Int32)) ((110 : Int32)) (xc) ((117 : Int32)) ((114 : Int32)) ((114 : Int32)) ((101 : Int32)) ((110 : Int32)) ((116 : Int32)) h563 n0 g_b563 E_b563 F_b563_value F_b563_coder A_tt ne_tt_b563 O Zn S_cs hcs (⟨by decide, by decide, by decide⟩ : Ck _) (⟨by decide, by decide, by decide⟩ : Ck _) (⟨by decide, by decide, by decide⟩ : Ck _) cxc (⟨by decide, by decide, by decide⟩ : Ck _) (⟨by decide, by decide, by decide⟩ : Ck _) (⟨by decide, by decide, by decide⟩ : Ck _) (⟨by decide, by decide, by decide⟩ : Ck _) (⟨by decide, by decide, by decide⟩ : Ck _) (⟨by decide, by decide, by decide⟩ : Ck _)) hZ (ow hw 11 rfl) (ow hw 3 rfl) (by decide) (by decide)) (g := (mkF mM 76 #[.val (.int u0), .val (.int u1), .val (.int u2), .val (.int mo), .val (.int kk), .val (.int xc), .unset, .val (.ref tt)] [.ref tt, .ref b563, .ref b563])) rfl (by rw [hml]; rfl) (Steps.refl _) (a := b563) (argsL := [.ref tt]) (rest := [.ref b563]) (lenOf pd__28_5bC_29V rfl) rfl (by show 2 * 0 + _ ≤ _; exact Nat.le_of_eq rfl) (hb hby at_76) (fun _ _ => ⟨rfl, e563, (by decide : 2 + 1 ≤ _), (by decide : 14 + 10 ≤ _)⟩)
  dsimp only [Pt.U, Pt.locs, Pt.cells, Pt.slots] at X564 l564 y564 z564 st564 hQ564
  subst l564 y564 z564
  obtain ⟨d564, k564', rfl, N564q, K564, str564, ge564⟩ := hQ564
  have N564 := Fr.app N562 N564q
  have e564 : T564.heap = T564.heap := rfl
  refine own_kW T564 79 [.ref b563] (fun t_ k_ => st564.trans k_) ?_
  have E_b563 := E_b563.keep K564
  have A_tt := A_tt.keep K564 (ninS ne_tt_b563 nin0)
  have hk := Nat.le_trans hk K564.1
  have O := O.keep K564 (allS g_b563 all0)
  have Zn := Nat.le_trans Zn K564.1
  let Lv565 : Array Slot := #[.val (.int u0), .val (.int u1), .val (.int u2), .val (.int mo), .val (.int kk), .val (.int xc), .val (.ref b563), .val (.ref tt)]
  refine own_stW (A := T564.setTop (mkF mM 81 Lv565 [])) (fun t_ k_ => XS.astore X564.here hx rfl (hb hby at_79) rfl rfl (l' := Lv565) rfl k_) ?_
  refine o_gotoW 150 X564 hx (hb hby at_81) (by decide) ?_
  exact J150t hw (X564.more (by decide) (by decide)) hx hZ hby hml hown hlk hret hS hk e564 N564 u0 u1 u2 mo kk xc b563 [((((99 : Int32)).toInt8.toInt32)).toInt8.toInt32, ((((111 : Int32)).toInt8.toInt32)).toInt8.toInt32, ((((110 : Int32)).toInt8.toInt32)).toInt8.toInt32, (((xc).toInt8.toInt32)).toInt8.toInt32, ((((117 : Int32)).toInt8.toInt32)).toInt8.toInt32, ((((114 : Int32)).toInt8.toInt32)).toInt8.toInt32, ((((114 : Int32)).toInt8.toInt32)).toInt8.toInt32, ((((101 : Int32)).toInt8.toInt32)).toInt8.toInt32, ((((110 : Int32)).toInt8.toInt32)).toInt8.toInt32, ((((116 : Int32)).toInt8.toInt32)).toInt8.toInt32] tt cs a1 a2 a3 t cl y1 y2 y3 (⟨_, _, _, str564, rfl⟩ : StrX _ _ _ [((((99 : Int32)).toInt8.toInt32)).toInt8.toInt32, ((((111 : Int32)).toInt8.toInt32)).toInt8.toInt32, ((((110 : Int32)).toInt8.toInt32)).toInt8.toInt32, (((xc).toInt8.toInt32)).toInt8.toInt32, ((((117 : Int32)).toInt8.toInt32)).toInt8.toInt32, ((((114 : Int32)).toInt8.toInt32)).toInt8.toInt32, ((((114 : Int32)).toInt8.toInt32)).toInt8.toInt32, ((((101 : Int32)).toInt8.toInt32)).toInt8.toInt32, ((((110 : Int32)).toInt8.toInt32)).toInt8.toInt32, ((((116 : Int32)).toInt8.toInt32)).toInt8.toInt32]) O S_cs hcs hcw hh39 hh49 hh54 hh7 S_BEFORE S_MEETS S_CONCURRENT S_V Ar Ex FC sz el0 el1 el2 Fk1 Fk2 Fk3 SX1 SX2 SX3 (own_IBw hI (fun _ q => by cases q))
theorem J69_2_4 {vmV : Vm} (hw : own_tb a0 Z) (X0 : Stand pP lL eE room_1 (sS.setVm vmV) mM args below meth cC T0 locs 1 10) (hx : pP.tables.exec = Jvm.exec) (hZ : Z.Warmed39 (sS.setVm vmV).vm) (hby : cC.code = code) (hml : cC.maxLocals = 8) (hown : (sS.setVm vmV).vm.findClass "com/example/slotwright/slotwright/model/LinkTypeOfKeyPinLaw" = some mM.cls) (hlk : meth.locks = false) (hret : meth.sig.returnType = ret) {kV : Nat} (hS : sS.Since vmV kV) (hk : kV ≤ h0.size) (e0 : T0.heap = h0) (N0 : Fr n0 locs) (u0 : Int32) (u1 : Int32) (u2 : Int32) (mo : Int32) (kk : Int32) (xc : Int32) (tt : Addr) (kt : ClassId) (cs : Int32) (a1 : Addr) (a2 : Addr) (a3 : Addr) (t : Addr) (cl : Cell) (y1 : Addr) (y2 : Addr) (y3 : Addr) (A_tt : Arv Z h0 tt kt .char 10 [.int 99, .int 111, .int 110, .int 99, .int 117, .int 114, .int 114, .int 101, .int 110, .int 116] (.int 0)) (g_tt : n0 ≤ tt) (Zn : n0 ≤ h0.size) (O : Old Z n0 h0) (S_cs : Sta Z Z.heap "java/lang/String" "COMPACT_STRINGS" "Z" (.int cs)) (hcs : ¬ cs = (0 : Int32)) (hcw : Jvm.Lit.compactW.before a0 Z = true) (hh39 : Jvm.Lit.constHeld Z "com/example/slotwright/slotwright/model/LinkTypeOfKeyPinLaw" 39) (hh49 : Jvm.Lit.constHeld Z "com/example/slotwright/slotwright/model/LinkTypeOfKeyPinLaw" 49) (hh54 : Jvm.Lit.constHeld Z "com/example/slotwright/slotwright/model/LinkTypeOfKeyPinLaw" 54) (hh7 : Jvm.Lit.constHeld Z "java/lang/String" 7) (S_BEFORE : Sta Z Z.heap "com/example/slotwright/slotwright/model/LinkType" "BEFORE" "Lcom/example/slotwright/slotwright/model/LinkType;" (.ref a1)) (S_MEETS : Sta Z Z.heap "com/example/slotwright/slotwright/model/LinkType" "MEETS" "Lcom/example/slotwright/slotwright/model/LinkType;" (.ref a2)) (S_CONCURRENT : Sta Z Z.heap "com/example/slotwright/slotwright/model/LinkType" "CONCURRENT" "Lcom/example/slotwright/slotwright/model/LinkType;" (.ref a3)) (S_V : Sta Z Z.heap "com/example/slotwright/slotwright/model/LinkType" "$VALUES" "[Lcom/example/slotwright/slotwright/model/LinkType;" (.ref t)) (Ar : Arr Z Z.heap t cl (.object "com/example/slotwright/slotwright/model/LinkType")) (Ex : Exa Z Z.heap t "[Lcom/example/slotwright/slotwright/model/LinkType;") (FC : FitC Z cl) (sz : cl.slots.size = (3 : Int32).toNatClampNeg) (el0 : cl.slots[(0 : Int32).toNatClampNeg]? = some (.ref a1)) (el1 : cl.slots[(1 : Int32).toNatClampNeg]? = some (.ref a2)) (el2 : cl.slots[(2 : Int32).toNatClampNeg]? = some (.ref a3)) (Fk1 : Fld Z Z.heap a1 "com/example/slotwright/slotwright/model/LinkType" "key" "Ljava/lang/String;" (.ref y1)) (Fk2 : Fld Z Z.heap a2 "com/example/slotwright/slotwright/model/LinkType" "key" "Ljava/lang/String;" (.ref y2)) (Fk3 : Fld Z Z.heap a3 "com/example/slotwright/slotwright/model/LinkType" "key" "Ljava/lang/String;" (.ref y3)) (SX1 : StrX Z Z.heap y1 bB) (SX2 : StrX Z Z.heap y2 bM) (SX3 : StrX Z Z.heap y3 bC) (cxc : Ck xc) (hI : IB Z vmV []) :
    own_GoW pP eE below sS (QLaw n0) 24 4288 (T0.setTop (mkF mM 69 #[.val (.int u0), .val (.int u1), .val (.int u2), .val (.int mo), .val (.int kk), .val (.int xc), .unset, .val (.ref tt)] [.int xc, .int 4, .ref tt])) := by
  obtain ⟨cl566, Ar566, q566, S566, Nn566, H566, G566⟩ := id A_tt
  obtain ⟨T567, h567, X567, e567, W567, st567⟩ := stC X0 hx hZ e0 Ar566 (j := (4 : Int32)) (inb_of S566 ⟨by decide, by decide⟩) (g := (mkF mM 69 #[.val (.int u0), .val (.int u1), .val (.int u2), .val (.int mo), .val (.int kk), .val (.int xc), .unset, .val (.ref tt)] [.int xc, .int 4, .ref tt])) rfl rfl (hb hby at_69)
  have N567 := Fr.snoc X567 N0 g_tt
  have hk := Nat.le_trans hk (Keep.of_wr W567).1
  have O := O.wr W567 g_tt
  have Zn := Nat.le_trans Zn (Keep.of_wr W567).1
  have A_tt : Arv Z h567 tt kt .char 10 [.int 99, .int 111, .int 110, .int 99, (.int (nar .char xc)), .int 114, .int 114, .int 101, .int 110, .int 116] (.int 0) := Arv.set Ar566 q566 S566 Nn566 H566 G566 (fits_nar_char _) W567 4 rfl (Nat.le_of_ble_eq_true rfl)
  refine own_kW T567 70 [] st567 ?_
  rw [show nar .char xc = xc from cxc.1] at A_tt
  obtain ⟨T568, h568, X568, e568, E568, A568, D568, -, st568⟩ := newO X567 hx hZ hown (ow hw 1 rfl) (ow hw 2 rfl) (ow hw 3 rfl) e567 (g := (mkF mM 70 #[.val (.int u0), .val (.int u1), .val (.int u2), .val (.int mo), .val (.int kk), .val (.int xc), .unset, .val (.ref tt)] [])) rfl (hb hby at_70) (by decide) (by decide)
  obtain ⟨b568, g568⟩ : ∃ z, z = h567.size := ⟨_, rfl⟩
  rw [← g568] at A568 D568 st568
  have ne_tt_b568 : tt ≠ b568 := Nat.ne_of_lt (Nat.lt_of_lt_of_le A_tt.lt (Nat.le_of_eq g568.symm))
  have g_b568 : n0 ≤ b568 := Nat.le_trans Zn (Nat.le_of_eq g568.symm)
  have O := O.ext E568
  have A_tt := A_tt.ext E568
  have hk := Nat.le_trans hk E568.1
  have Zn := Nat.le_trans Zn E568.1
  have E_b568 := A568
  have F_b568_coder : Fld Z h568 b568 "java/lang/String" "coder" "B" (.int 0) := D568 (Or.inr (ow hw 32 rfl)) (ty := .byte) (by decide)
  have F_b568_value : Fld Z h568 b568 "java/lang/String" "value" "[B" .null := D568 (Or.inr (ow hw 34 rfl)) (ty := (.array .byte)) (by decide)
  refine own_kW T568 73 [.ref b568] st568 ?_
  refine o_dupW 74 X568 hx (hb hby at_73) rfl rfl ?_
  refine o_aloadW 76 X568 hx (hb hby at_74) rfl rfl rfl ?_
  obtain ⟨_, _, ⟨T569, L569, k569, n569⟩, -, X569, ⟨Lc569, hQ569, l569, y569, z569⟩, st569⟩ := X568.specialBack hx (y := yn9) rfl hown (mvT hZ (ow hw 9 rfl)) (mvT hZ (ow hw 10 rfl)) (mvT hZ (ow hw 11 rfl)) (by decide) (backOf (W := 1) (rmS1_10 lL Z a0 hw [] b568 tt kt cs ((99 : Int32)) ((111 : Int32)) ((110 : Int32)) ((99 : Int32)) (xc) ((114 : Int32)) ((114 : Int32)) ((101 : Int32)) ((110 : Int32)) ((116 : Int32)) h568 n0 g_b568 E_b568 F_b568_value F_b568_coder A_tt ne_tt_b568 O Zn S_cs hcs (⟨by decide, by decide, by decide⟩ : Ck _) (⟨by decide, by decide, by decide⟩ : Ck _) (⟨by decide, by decide, by decide⟩ : Ck _) (⟨by decide, by decide, by decide⟩ : Ck _) cxc (⟨by decide, by decide, by decide⟩ : Ck _) (⟨by decide, by decide, by decide⟩ : Ck _) (⟨by decide, by decide, by decide⟩ : Ck _) (⟨by decide, by decide, by decide⟩ : Ck _) (⟨by decide, by decide, by decide⟩ : Ck _)) hZ (ow hw 11 rfl) (ow hw 3 rfl) (by decide) (by decide)) (g := (mkF mM 76 #[.val (.int u0), .val (.int u1), .val (.int u2), .val (.int mo), .val (.int kk), .val (.int xc), .unset, .val (.ref tt)] [.ref tt, .ref b568, .ref b568])) rfl (by rw [hml]; rfl) (Steps.refl _) (a := b568) (argsL := [.ref tt]) (rest := [.ref b568]) (lenOf pd__28_5bC_29V rfl) rfl (by show 2 * 0 + _ ≤ _; exact Nat.le_of_eq rfl) (hb hby at_76) (fun _ _ => ⟨rfl, e568, (by decide : 2 + 1 ≤ _), (by decide : 14 + 10 ≤ _)⟩)
  dsimp only [Pt.U, Pt.locs, Pt.cells, Pt.slots] at X569 l569 y569 z569 st569 hQ569
  subst l569 y569 z569
  obtain ⟨d569, k569', rfl, N569q, K569, str569, ge569⟩ := hQ569
  have N569 := Fr.app N567 N569q
  have e569 : T569.heap = T569.heap := rfl
  refine own_kW T569 79 [.ref b568] (fun t_ k_ => st569.trans k_) ?_
  have E_b568 := E_b568.keep K569
  have A_tt := A_tt.keep K569 (ninS ne_tt_b568 nin0)
  have hk := Nat.le_trans hk K569.1
  have O := O.keep K569 (allS g_b568 all0)
  have Zn := Nat.le_trans Zn K569.1
  let Lv570 : Array Slot := #[.val (.int u0), .val (.int u1), .val (.int u2), .val (.int mo), .val (.int kk), .val (.int xc), .val (.ref b568), .val (.ref tt)]
  refine own_stW (A := T569.setTop (mkF mM 81 Lv570 [])) (fun t_ k_ => XS.astore X569.here hx rfl (hb hby at_79) rfl rfl (l' := Lv570) rfl k_) ?_
  refine o_gotoW 150 X569 hx (hb hby at_81) (by decide) ?_
  exact J150t hw (X569.more (by decide) (by decide)) hx hZ hby hml hown hlk hret hS hk e569 N569 u0 u1 u2 mo kk xc b568 [((((99 : Int32)).toInt8.toInt32)).toInt8.toInt32, ((((111 : Int32)).toInt8.toInt32)).toInt8.toInt32, ((((110 : Int32)).toInt8.toInt32)).toInt8.toInt32, ((((99 : Int32)).toInt8.toInt32)).toInt8.toInt32, (((xc).toInt8.toInt32)).toInt8.toInt32, ((((114 : Int32)).toInt8.toInt32)).toInt8.toInt32, ((((114 : Int32)).toInt8.toInt32)).toInt8.toInt32, ((((101 : Int32)).toInt8.toInt32)).toInt8.toInt32, ((((110 : Int32)).toInt8.toInt32)).toInt8.toInt32, ((((116 : Int32)).toInt8.toInt32)).toInt8.toInt32] tt cs a1 a2 a3 t cl y1 y2 y3 (⟨_, _, _, str569, rfl⟩ : StrX _ _ _ [((((99 : Int32)).toInt8.toInt32)).toInt8.toInt32, ((((111 : Int32)).toInt8.toInt32)).toInt8.toInt32, ((((110 : Int32)).toInt8.toInt32)).toInt8.toInt32, ((((99 : Int32)).toInt8.toInt32)).toInt8.toInt32, (((xc).toInt8.toInt32)).toInt8.toInt32, ((((114 : Int32)).toInt8.toInt32)).toInt8.toInt32, ((((114 : Int32)).toInt8.toInt32)).toInt8.toInt32, ((((101 : Int32)).toInt8.toInt32)).toInt8.toInt32, ((((110 : Int32)).toInt8.toInt32)).toInt8.toInt32, ((((116 : Int32)).toInt8.toInt32)).toInt8.toInt32]) O S_cs hcs hcw hh39 hh49 hh54 hh7 S_BEFORE S_MEETS S_CONCURRENT S_V Ar Ex FC sz el0 el1 el2 Fk1 Fk2 Fk3 SX1 SX2 SX3 (own_IBw hI (fun _ q => by cases q))
theorem J69_2_5 {vmV : Vm} (hw : own_tb a0 Z) (X0 : Stand pP lL eE room_1 (sS.setVm vmV) mM args below meth cC T0 locs 1 10) (hx : pP.tables.exec = Jvm.exec) (hZ : Z.Warmed39 (sS.setVm vmV).vm) (hby : cC.code = code) (hml : cC.maxLocals = 8) (hown : (sS.setVm vmV).vm.findClass "com/example/slotwright/slotwright/model/LinkTypeOfKeyPinLaw" = some mM.cls) (hlk : meth.locks = false) (hret : meth.sig.returnType = ret) {kV : Nat} (hS : sS.Since vmV kV) (hk : kV ≤ h0.size) (e0 : T0.heap = h0) (N0 : Fr n0 locs) (u0 : Int32) (u1 : Int32) (u2 : Int32) (mo : Int32) (kk : Int32) (xc : Int32) (tt : Addr) (kt : ClassId) (cs : Int32) (a1 : Addr) (a2 : Addr) (a3 : Addr) (t : Addr) (cl : Cell) (y1 : Addr) (y2 : Addr) (y3 : Addr) (A_tt : Arv Z h0 tt kt .char 10 [.int 99, .int 111, .int 110, .int 99, .int 117, .int 114, .int 114, .int 101, .int 110, .int 116] (.int 0)) (g_tt : n0 ≤ tt) (Zn : n0 ≤ h0.size) (O : Old Z n0 h0) (S_cs : Sta Z Z.heap "java/lang/String" "COMPACT_STRINGS" "Z" (.int cs)) (hcs : ¬ cs = (0 : Int32)) (hcw : Jvm.Lit.compactW.before a0 Z = true) (hh39 : Jvm.Lit.constHeld Z "com/example/slotwright/slotwright/model/LinkTypeOfKeyPinLaw" 39) (hh49 : Jvm.Lit.constHeld Z "com/example/slotwright/slotwright/model/LinkTypeOfKeyPinLaw" 49) (hh54 : Jvm.Lit.constHeld Z "com/example/slotwright/slotwright/model/LinkTypeOfKeyPinLaw" 54) (hh7 : Jvm.Lit.constHeld Z "java/lang/String" 7) (S_BEFORE : Sta Z Z.heap "com/example/slotwright/slotwright/model/LinkType" "BEFORE" "Lcom/example/slotwright/slotwright/model/LinkType;" (.ref a1)) (S_MEETS : Sta Z Z.heap "com/example/slotwright/slotwright/model/LinkType" "MEETS" "Lcom/example/slotwright/slotwright/model/LinkType;" (.ref a2)) (S_CONCURRENT : Sta Z Z.heap "com/example/slotwright/slotwright/model/LinkType" "CONCURRENT" "Lcom/example/slotwright/slotwright/model/LinkType;" (.ref a3)) (S_V : Sta Z Z.heap "com/example/slotwright/slotwright/model/LinkType" "$VALUES" "[Lcom/example/slotwright/slotwright/model/LinkType;" (.ref t)) (Ar : Arr Z Z.heap t cl (.object "com/example/slotwright/slotwright/model/LinkType")) (Ex : Exa Z Z.heap t "[Lcom/example/slotwright/slotwright/model/LinkType;") (FC : FitC Z cl) (sz : cl.slots.size = (3 : Int32).toNatClampNeg) (el0 : cl.slots[(0 : Int32).toNatClampNeg]? = some (.ref a1)) (el1 : cl.slots[(1 : Int32).toNatClampNeg]? = some (.ref a2)) (el2 : cl.slots[(2 : Int32).toNatClampNeg]? = some (.ref a3)) (Fk1 : Fld Z Z.heap a1 "com/example/slotwright/slotwright/model/LinkType" "key" "Ljava/lang/String;" (.ref y1)) (Fk2 : Fld Z Z.heap a2 "com/example/slotwright/slotwright/model/LinkType" "key" "Ljava/lang/String;" (.ref y2)) (Fk3 : Fld Z Z.heap a3 "com/example/slotwright/slotwright/model/LinkType" "key" "Ljava/lang/String;" (.ref y3)) (SX1 : StrX Z Z.heap y1 bB) (SX2 : StrX Z Z.heap y2 bM) (SX3 : StrX Z Z.heap y3 bC) (cxc : Ck xc) (hI : IB Z vmV []) :
    own_GoW pP eE below sS (QLaw n0) 24 4288 (T0.setTop (mkF mM 69 #[.val (.int u0), .val (.int u1), .val (.int u2), .val (.int mo), .val (.int kk), .val (.int xc), .unset, .val (.ref tt)] [.int xc, .int 5, .ref tt])) := by
  obtain ⟨cl571, Ar571, q571, S571, Nn571, H571, G571⟩ := id A_tt
  obtain ⟨T572, h572, X572, e572, W572, st572⟩ := stC X0 hx hZ e0 Ar571 (j := (5 : Int32)) (inb_of S571 ⟨by decide, by decide⟩) (g := (mkF mM 69 #[.val (.int u0), .val (.int u1), .val (.int u2), .val (.int mo), .val (.int kk), .val (.int xc), .unset, .val (.ref tt)] [.int xc, .int 5, .ref tt])) rfl rfl (hb hby at_69)
  have N572 := Fr.snoc X572 N0 g_tt
  have hk := Nat.le_trans hk (Keep.of_wr W572).1
  have O := O.wr W572 g_tt
  have Zn := Nat.le_trans Zn (Keep.of_wr W572).1
  have A_tt : Arv Z h572 tt kt .char 10 [.int 99, .int 111, .int 110, .int 99, .int 117, (.int (nar .char xc)), .int 114, .int 101, .int 110, .int 116] (.int 0) := Arv.set Ar571 q571 S571 Nn571 H571 G571 (fits_nar_char _) W572 5 rfl (Nat.le_of_ble_eq_true rfl)
  refine own_kW T572 70 [] st572 ?_
  rw [show nar .char xc = xc from cxc.1] at A_tt
  obtain ⟨T573, h573, X573, e573, E573, A573, D573, -, st573⟩ := newO X572 hx hZ hown (ow hw 1 rfl) (ow hw 2 rfl) (ow hw 3 rfl) e572 (g := (mkF mM 70 #[.val (.int u0), .val (.int u1), .val (.int u2), .val (.int mo), .val (.int kk), .val (.int xc), .unset, .val (.ref tt)] [])) rfl (hb hby at_70) (by decide) (by decide)
  obtain ⟨b573, g573⟩ : ∃ z, z = h572.size := ⟨_, rfl⟩
  rw [← g573] at A573 D573 st573
  have ne_tt_b573 : tt ≠ b573 := Nat.ne_of_lt (Nat.lt_of_lt_of_le A_tt.lt (Nat.le_of_eq g573.symm))
  have g_b573 : n0 ≤ b573 := Nat.le_trans Zn (Nat.le_of_eq g573.symm)
  have O := O.ext E573
  have A_tt := A_tt.ext E573
  have hk := Nat.le_trans hk E573.1
  have Zn := Nat.le_trans Zn E573.1
  have E_b573 := A573
  have F_b573_coder : Fld Z h573 b573 "java/lang/String" "coder" "B" (.int 0) := D573 (Or.inr (ow hw 32 rfl)) (ty := .byte) (by decide)
  have F_b573_value : Fld Z h573 b573 "java/lang/String" "value" "[B" .null := D573 (Or.inr (ow hw 34 rfl)) (ty := (.array .byte)) (by decide)
  refine own_kW T573 73 [.ref b573] st573 ?_
  refine o_dupW 74 X573 hx (hb hby at_73) rfl rfl ?_
  refine o_aloadW 76 X573 hx (hb hby at_74) rfl rfl rfl ?_
  obtain ⟨_, _, ⟨T574, L574, k574, n574⟩, -, X574, ⟨Lc574, hQ574, l574, y574, z574⟩, st574⟩ := X573.specialBack hx (y := yn9) rfl hown (mvT hZ (ow hw 9 rfl)) (mvT hZ (ow hw 10 rfl)) (mvT hZ (ow hw 11 rfl)) (by decide) (backOf (W := 1) (rmS1_10 lL Z a0 hw [] b573 tt kt cs ((99 : Int32)) ((111 : Int32)) ((110 : Int32)) ((99 : Int32)) ((117 : Int32)) (xc) ((114 : Int32)) ((101 : Int32)) ((110 : Int32)) ((116 : Int32)) h573 n0 g_b573 E_b573 F_b573_value F_b573_coder A_tt ne_tt_b573 O Zn S_cs hcs (⟨by decide, by decide, by decide⟩ : Ck _) (⟨by decide, by decide, by decide⟩ : Ck _) (⟨by decide, by decide, by decide⟩ : Ck _) (⟨by decide, by decide, by decide⟩ : Ck _) (⟨by decide, by decide, by decide⟩ : Ck _) cxc (⟨by decide, by decide, by decide⟩ : Ck _) (⟨by decide, by decide, by decide⟩ : Ck _) (⟨by decide, by decide, by decide⟩ : Ck _) (⟨by decide, by decide, by decide⟩ : Ck _)) hZ (ow hw 11 rfl) (ow hw 3 rfl) (by decide) (by decide)) (g := (mkF mM 76 #[.val (.int u0), .val (.int u1), .val (.int u2), .val (.int mo), .val (.int kk), .val (.int xc), .unset, .val (.ref tt)] [.ref tt, .ref b573, .ref b573])) rfl (by rw [hml]; rfl) (Steps.refl _) (a := b573) (argsL := [.ref tt]) (rest := [.ref b573]) (lenOf pd__28_5bC_29V rfl) rfl (by show 2 * 0 + _ ≤ _; exact Nat.le_of_eq rfl) (hb hby at_76) (fun _ _ => ⟨rfl, e573, (by decide : 2 + 1 ≤ _), (by decide : 14 + 10 ≤ _)⟩)
  dsimp only [Pt.U, Pt.locs, Pt.cells, Pt.slots] at X574 l574 y574 z574 st574 hQ574
  subst l574 y574 z574
  obtain ⟨d574, k574', rfl, N574q, K574, str574, ge574⟩ := hQ574
  have N574 := Fr.app N572 N574q
  have e574 : T574.heap = T574.heap := rfl
  refine own_kW T574 79 [.ref b573] (fun t_ k_ => st574.trans k_) ?_
  have E_b573 := E_b573.keep K574
  have A_tt := A_tt.keep K574 (ninS ne_tt_b573 nin0)
  have hk := Nat.le_trans hk K574.1
  have O := O.keep K574 (allS g_b573 all0)
  have Zn := Nat.le_trans Zn K574.1
  let Lv575 : Array Slot := #[.val (.int u0), .val (.int u1), .val (.int u2), .val (.int mo), .val (.int kk), .val (.int xc), .val (.ref b573), .val (.ref tt)]
  refine own_stW (A := T574.setTop (mkF mM 81 Lv575 [])) (fun t_ k_ => XS.astore X574.here hx rfl (hb hby at_79) rfl rfl (l' := Lv575) rfl k_) ?_
  refine o_gotoW 150 X574 hx (hb hby at_81) (by decide) ?_
  exact J150t hw (X574.more (by decide) (by decide)) hx hZ hby hml hown hlk hret hS hk e574 N574 u0 u1 u2 mo kk xc b573 [((((99 : Int32)).toInt8.toInt32)).toInt8.toInt32, ((((111 : Int32)).toInt8.toInt32)).toInt8.toInt32, ((((110 : Int32)).toInt8.toInt32)).toInt8.toInt32, ((((99 : Int32)).toInt8.toInt32)).toInt8.toInt32, ((((117 : Int32)).toInt8.toInt32)).toInt8.toInt32, (((xc).toInt8.toInt32)).toInt8.toInt32, ((((114 : Int32)).toInt8.toInt32)).toInt8.toInt32, ((((101 : Int32)).toInt8.toInt32)).toInt8.toInt32, ((((110 : Int32)).toInt8.toInt32)).toInt8.toInt32, ((((116 : Int32)).toInt8.toInt32)).toInt8.toInt32] tt cs a1 a2 a3 t cl y1 y2 y3 (⟨_, _, _, str574, rfl⟩ : StrX _ _ _ [((((99 : Int32)).toInt8.toInt32)).toInt8.toInt32, ((((111 : Int32)).toInt8.toInt32)).toInt8.toInt32, ((((110 : Int32)).toInt8.toInt32)).toInt8.toInt32, ((((99 : Int32)).toInt8.toInt32)).toInt8.toInt32, ((((117 : Int32)).toInt8.toInt32)).toInt8.toInt32, (((xc).toInt8.toInt32)).toInt8.toInt32, ((((114 : Int32)).toInt8.toInt32)).toInt8.toInt32, ((((101 : Int32)).toInt8.toInt32)).toInt8.toInt32, ((((110 : Int32)).toInt8.toInt32)).toInt8.toInt32, ((((116 : Int32)).toInt8.toInt32)).toInt8.toInt32]) O S_cs hcs hcw hh39 hh49 hh54 hh7 S_BEFORE S_MEETS S_CONCURRENT S_V Ar Ex FC sz el0 el1 el2 Fk1 Fk2 Fk3 SX1 SX2 SX3 (own_IBw hI (fun _ q => by cases q))
theorem J69_2_6 {vmV : Vm} (hw : own_tb a0 Z) (X0 : Stand pP lL eE room_1 (sS.setVm vmV) mM args below meth cC T0 locs 1 10) (hx : pP.tables.exec = Jvm.exec) (hZ : Z.Warmed39 (sS.setVm vmV).vm) (hby : cC.code = code) (hml : cC.maxLocals = 8) (hown : (sS.setVm vmV).vm.findClass "com/example/slotwright/slotwright/model/LinkTypeOfKeyPinLaw" = some mM.cls) (hlk : meth.locks = false) (hret : meth.sig.returnType = ret) {kV : Nat} (hS : sS.Since vmV kV) (hk : kV ≤ h0.size) (e0 : T0.heap = h0) (N0 : Fr n0 locs) (u0 : Int32) (u1 : Int32) (u2 : Int32) (mo : Int32) (kk : Int32) (xc : Int32) (tt : Addr) (kt : ClassId) (cs : Int32) (a1 : Addr) (a2 : Addr) (a3 : Addr) (t : Addr) (cl : Cell) (y1 : Addr) (y2 : Addr) (y3 : Addr) (A_tt : Arv Z h0 tt kt .char 10 [.int 99, .int 111, .int 110, .int 99, .int 117, .int 114, .int 114, .int 101, .int 110, .int 116] (.int 0)) (g_tt : n0 ≤ tt) (Zn : n0 ≤ h0.size) (O : Old Z n0 h0) (S_cs : Sta Z Z.heap "java/lang/String" "COMPACT_STRINGS" "Z" (.int cs)) (hcs : ¬ cs = (0 : Int32)) (hcw : Jvm.Lit.compactW.before a0 Z = true) (hh39 : Jvm.Lit.constHeld Z "com/example/slotwright/slotwright/model/LinkTypeOfKeyPinLaw" 39) (hh49 : Jvm.Lit.constHeld Z "com/example/slotwright/slotwright/model/LinkTypeOfKeyPinLaw" 49) (hh54 : Jvm.Lit.constHeld Z "com/example/slotwright/slotwright/model/LinkTypeOfKeyPinLaw" 54) (hh7 : Jvm.Lit.constHeld Z "java/lang/String" 7) (S_BEFORE : Sta Z Z.heap "com/example/slotwright/slotwright/model/LinkType" "BEFORE" "Lcom/example/slotwright/slotwright/model/LinkType;" (.ref a1)) (S_MEETS : Sta Z Z.heap "com/example/slotwright/slotwright/model/LinkType" "MEETS" "Lcom/example/slotwright/slotwright/model/LinkType;" (.ref a2)) (S_CONCURRENT : Sta Z Z.heap "com/example/slotwright/slotwright/model/LinkType" "CONCURRENT" "Lcom/example/slotwright/slotwright/model/LinkType;" (.ref a3)) (S_V : Sta Z Z.heap "com/example/slotwright/slotwright/model/LinkType" "$VALUES" "[Lcom/example/slotwright/slotwright/model/LinkType;" (.ref t)) (Ar : Arr Z Z.heap t cl (.object "com/example/slotwright/slotwright/model/LinkType")) (Ex : Exa Z Z.heap t "[Lcom/example/slotwright/slotwright/model/LinkType;") (FC : FitC Z cl) (sz : cl.slots.size = (3 : Int32).toNatClampNeg) (el0 : cl.slots[(0 : Int32).toNatClampNeg]? = some (.ref a1)) (el1 : cl.slots[(1 : Int32).toNatClampNeg]? = some (.ref a2)) (el2 : cl.slots[(2 : Int32).toNatClampNeg]? = some (.ref a3)) (Fk1 : Fld Z Z.heap a1 "com/example/slotwright/slotwright/model/LinkType" "key" "Ljava/lang/String;" (.ref y1)) (Fk2 : Fld Z Z.heap a2 "com/example/slotwright/slotwright/model/LinkType" "key" "Ljava/lang/String;" (.ref y2)) (Fk3 : Fld Z Z.heap a3 "com/example/slotwright/slotwright/model/LinkType" "key" "Ljava/lang/String;" (.ref y3)) (SX1 : StrX Z Z.heap y1 bB) (SX2 : StrX Z Z.heap y2 bM) (SX3 : StrX Z Z.heap y3 bC) (cxc : Ck xc) (hI : IB Z vmV []) :
    own_GoW pP eE below sS (QLaw n0) 24 4288 (T0.setTop (mkF mM 69 #[.val (.int u0), .val (.int u1), .val (.int u2), .val (.int mo), .val (.int kk), .val (.int xc), .unset, .val (.ref tt)] [.int xc, .int 6, .ref tt])) := by
  obtain ⟨cl576, Ar576, q576, S576, Nn576, H576, G576⟩ := id A_tt
  obtain ⟨T577, h577, X577, e577, W577, st577⟩ := stC X0 hx hZ e0 Ar576 (j := (6 : Int32)) (inb_of S576 ⟨by decide, by decide⟩) (g := (mkF mM 69 #[.val (.int u0), .val (.int u1), .val (.int u2), .val (.int mo), .val (.int kk), .val (.int xc), .unset, .val (.ref tt)] [.int xc, .int 6, .ref tt])) rfl rfl (hb hby at_69)
  have N577 := Fr.snoc X577 N0 g_tt
  have hk := Nat.le_trans hk (Keep.of_wr W577).1
  have O := O.wr W577 g_tt
  have Zn := Nat.le_trans Zn (Keep.of_wr W577).1
  have A_tt : Arv Z h577 tt kt .char 10 [.int 99, .int 111, .int 110, .int 99, .int 117, .int 114, (.int (nar .char xc)), .int 101, .int 110, .int 116] (.int 0) := Arv.set Ar576 q576 S576 Nn576 H576 G576 (fits_nar_char _) W577 6 rfl (Nat.le_of_ble_eq_true rfl)
  refine own_kW T577 70 [] st577 ?_
  rw [show nar .char xc = xc from cxc.1] at A_tt
  obtain ⟨T578, h578, X578, e578, E578, A578, D578, -, st578⟩ := newO X577 hx hZ hown (ow hw 1 rfl) (ow hw 2 rfl) (ow hw 3 rfl) e577 (g := (mkF mM 70 #[.val (.int u0), .val (.int u1), .val (.int u2), .val (.int mo), .val (.int kk), .val (.int xc), .unset, .val (.ref tt)] [])) rfl (hb hby at_70) (by decide) (by decide)
  obtain ⟨b578, g578⟩ : ∃ z, z = h577.size := ⟨_, rfl⟩
  rw [← g578] at A578 D578 st578
  have ne_tt_b578 : tt ≠ b578 := Nat.ne_of_lt (Nat.lt_of_lt_of_le A_tt.lt (Nat.le_of_eq g578.symm))
  have g_b578 : n0 ≤ b578 := Nat.le_trans Zn (Nat.le_of_eq g578.symm)
  have O := O.ext E578
  have A_tt := A_tt.ext E578
  have hk := Nat.le_trans hk E578.1
  have Zn := Nat.le_trans Zn E578.1
  have E_b578 := A578
  have F_b578_coder : Fld Z h578 b578 "java/lang/String" "coder" "B" (.int 0) := D578 (Or.inr (ow hw 32 rfl)) (ty := .byte) (by decide)
  have F_b578_value : Fld Z h578 b578 "java/lang/String" "value" "[B" .null := D578 (Or.inr (ow hw 34 rfl)) (ty := (.array .byte)) (by decide)
  refine own_kW T578 73 [.ref b578] st578 ?_
  refine o_dupW 74 X578 hx (hb hby at_73) rfl rfl ?_
  refine o_aloadW 76 X578 hx (hb hby at_74) rfl rfl rfl ?_
  obtain ⟨_, _, ⟨T579, L579, k579, n579⟩, -, X579, ⟨Lc579, hQ579, l579, y579, z579⟩, st579⟩ := X578.specialBack hx (y := yn9) rfl hown (mvT hZ (ow hw 9 rfl)) (mvT hZ (ow hw 10 rfl)) (mvT hZ (ow hw 11 rfl)) (by decide) (backOf (W := 1) (rmS1_10 lL Z a0 hw [] b578 tt kt cs ((99 : Int32)) ((111 : Int32)) ((110 : Int32)) ((99 : Int32)) ((117 : Int32)) ((114 : Int32)) (xc) ((101 : Int32)) ((110 : Int32)) ((116 : Int32)) h578 n0 g_b578 E_b578 F_b578_value F_b578_coder A_tt ne_tt_b578 O Zn S_cs hcs (⟨by decide, by decide, by decide⟩ : Ck _) (⟨by decide, by decide, by decide⟩ : Ck _) (⟨by decide, by decide, by decide⟩ : Ck _) (⟨by decide, by decide, by decide⟩ : Ck _) (⟨by decide, by decide, by decide⟩ : Ck _) (⟨by decide, by decide, by decide⟩ : Ck _) cxc (⟨by decide, by decide, by decide⟩ : Ck _) (⟨by decide, by decide, by decide⟩ : Ck _) (⟨by decide, by decide, by decide⟩ : Ck _)) hZ (ow hw 11 rfl) (ow hw 3 rfl) (by decide) (by decide)) (g := (mkF mM 76 #[.val (.int u0), .val (.int u1), .val (.int u2), .val (.int mo), .val (.int kk), .val (.int xc), .unset, .val (.ref tt)] [.ref tt, .ref b578, .ref b578])) rfl (by rw [hml]; rfl) (Steps.refl _) (a := b578) (argsL := [.ref tt]) (rest := [.ref b578]) (lenOf pd__28_5bC_29V rfl) rfl (by show 2 * 0 + _ ≤ _; exact Nat.le_of_eq rfl) (hb hby at_76) (fun _ _ => ⟨rfl, e578, (by decide : 2 + 1 ≤ _), (by decide : 14 + 10 ≤ _)⟩)
  dsimp only [Pt.U, Pt.locs, Pt.cells, Pt.slots] at X579 l579 y579 z579 st579 hQ579
  subst l579 y579 z579
  obtain ⟨d579, k579', rfl, N579q, K579, str579, ge579⟩ := hQ579
  have N579 := Fr.app N577 N579q
  have e579 : T579.heap = T579.heap := rfl
  refine own_kW T579 79 [.ref b578] (fun t_ k_ => st579.trans k_) ?_
  have E_b578 := E_b578.keep K579
  have A_tt := A_tt.keep K579 (ninS ne_tt_b578 nin0)
  have hk := Nat.le_trans hk K579.1
  have O := O.keep K579 (allS g_b578 all0)
  have Zn := Nat.le_trans Zn K579.1
  let Lv580 : Array Slot := #[.val (.int u0), .val (.int u1), .val (.int u2), .val (.int mo), .val (.int kk), .val (.int xc), .val (.ref b578), .val (.ref tt)]
  refine own_stW (A := T579.setTop (mkF mM 81 Lv580 [])) (fun t_ k_ => XS.astore X579.here hx rfl (hb hby at_79) rfl rfl (l' := Lv580) rfl k_) ?_
  refine o_gotoW 150 X579 hx (hb hby at_81) (by decide) ?_
  exact J150t hw (X579.more (by decide) (by decide)) hx hZ hby hml hown hlk hret hS hk e579 N579 u0 u1 u2 mo kk xc b578 [((((99 : Int32)).toInt8.toInt32)).toInt8.toInt32, ((((111 : Int32)).toInt8.toInt32)).toInt8.toInt32, ((((110 : Int32)).toInt8.toInt32)).toInt8.toInt32, ((((99 : Int32)).toInt8.toInt32)).toInt8.toInt32, ((((117 : Int32)).toInt8.toInt32)).toInt8.toInt32, ((((114 : Int32)).toInt8.toInt32)).toInt8.toInt32, (((xc).toInt8.toInt32)).toInt8.toInt32, ((((101 : Int32)).toInt8.toInt32)).toInt8.toInt32, ((((110 : Int32)).toInt8.toInt32)).toInt8.toInt32, ((((116 : Int32)).toInt8.toInt32)).toInt8.toInt32] tt cs a1 a2 a3 t cl y1 y2 y3 (⟨_, _, _, str579, rfl⟩ : StrX _ _ _ [((((99 : Int32)).toInt8.toInt32)).toInt8.toInt32, ((((111 : Int32)).toInt8.toInt32)).toInt8.toInt32, ((((110 : Int32)).toInt8.toInt32)).toInt8.toInt32, ((((99 : Int32)).toInt8.toInt32)).toInt8.toInt32, ((((117 : Int32)).toInt8.toInt32)).toInt8.toInt32, ((((114 : Int32)).toInt8.toInt32)).toInt8.toInt32, (((xc).toInt8.toInt32)).toInt8.toInt32, ((((101 : Int32)).toInt8.toInt32)).toInt8.toInt32, ((((110 : Int32)).toInt8.toInt32)).toInt8.toInt32, ((((116 : Int32)).toInt8.toInt32)).toInt8.toInt32]) O S_cs hcs hcw hh39 hh49 hh54 hh7 S_BEFORE S_MEETS S_CONCURRENT S_V Ar Ex FC sz el0 el1 el2 Fk1 Fk2 Fk3 SX1 SX2 SX3 (own_IBw hI (fun _ q => by cases q))
theorem J69_2_7 {vmV : Vm} (hw : own_tb a0 Z) (X0 : Stand pP lL eE room_1 (sS.setVm vmV) mM args below meth cC T0 locs 1 10) (hx : pP.tables.exec = Jvm.exec) (hZ : Z.Warmed39 (sS.setVm vmV).vm) (hby : cC.code = code) (hml : cC.maxLocals = 8) (hown : (sS.setVm vmV).vm.findClass "com/example/slotwright/slotwright/model/LinkTypeOfKeyPinLaw" = some mM.cls) (hlk : meth.locks = false) (hret : meth.sig.returnType = ret) {kV : Nat} (hS : sS.Since vmV kV) (hk : kV ≤ h0.size) (e0 : T0.heap = h0) (N0 : Fr n0 locs) (u0 : Int32) (u1 : Int32) (u2 : Int32) (mo : Int32) (kk : Int32) (xc : Int32) (tt : Addr) (kt : ClassId) (cs : Int32) (a1 : Addr) (a2 : Addr) (a3 : Addr) (t : Addr) (cl : Cell) (y1 : Addr) (y2 : Addr) (y3 : Addr) (A_tt : Arv Z h0 tt kt .char 10 [.int 99, .int 111, .int 110, .int 99, .int 117, .int 114, .int 114, .int 101, .int 110, .int 116] (.int 0)) (g_tt : n0 ≤ tt) (Zn : n0 ≤ h0.size) (O : Old Z n0 h0) (S_cs : Sta Z Z.heap "java/lang/String" "COMPACT_STRINGS" "Z" (.int cs)) (hcs : ¬ cs = (0 : Int32)) (hcw : Jvm.Lit.compactW.before a0 Z = true) (hh39 : Jvm.Lit.constHeld Z "com/example/slotwright/slotwright/model/LinkTypeOfKeyPinLaw" 39) (hh49 : Jvm.Lit.constHeld Z "com/example/slotwright/slotwright/model/LinkTypeOfKeyPinLaw" 49) (hh54 : Jvm.Lit.constHeld Z "com/example/slotwright/slotwright/model/LinkTypeOfKeyPinLaw" 54) (hh7 : Jvm.Lit.constHeld Z "java/lang/String" 7) (S_BEFORE : Sta Z Z.heap "com/example/slotwright/slotwright/model/LinkType" "BEFORE" "Lcom/example/slotwright/slotwright/model/LinkType;" (.ref a1)) (S_MEETS : Sta Z Z.heap "com/example/slotwright/slotwright/model/LinkType" "MEETS" "Lcom/example/slotwright/slotwright/model/LinkType;" (.ref a2)) (S_CONCURRENT : Sta Z Z.heap "com/example/slotwright/slotwright/model/LinkType" "CONCURRENT" "Lcom/example/slotwright/slotwright/model/LinkType;" (.ref a3)) (S_V : Sta Z Z.heap "com/example/slotwright/slotwright/model/LinkType" "$VALUES" "[Lcom/example/slotwright/slotwright/model/LinkType;" (.ref t)) (Ar : Arr Z Z.heap t cl (.object "com/example/slotwright/slotwright/model/LinkType")) (Ex : Exa Z Z.heap t "[Lcom/example/slotwright/slotwright/model/LinkType;") (FC : FitC Z cl) (sz : cl.slots.size = (3 : Int32).toNatClampNeg) (el0 : cl.slots[(0 : Int32).toNatClampNeg]? = some (.ref a1)) (el1 : cl.slots[(1 : Int32).toNatClampNeg]? = some (.ref a2)) (el2 : cl.slots[(2 : Int32).toNatClampNeg]? = some (.ref a3)) (Fk1 : Fld Z Z.heap a1 "com/example/slotwright/slotwright/model/LinkType" "key" "Ljava/lang/String;" (.ref y1)) (Fk2 : Fld Z Z.heap a2 "com/example/slotwright/slotwright/model/LinkType" "key" "Ljava/lang/String;" (.ref y2)) (Fk3 : Fld Z Z.heap a3 "com/example/slotwright/slotwright/model/LinkType" "key" "Ljava/lang/String;" (.ref y3)) (SX1 : StrX Z Z.heap y1 bB) (SX2 : StrX Z Z.heap y2 bM) (SX3 : StrX Z Z.heap y3 bC) (cxc : Ck xc) (hI : IB Z vmV []) :
    own_GoW pP eE below sS (QLaw n0) 24 4288 (T0.setTop (mkF mM 69 #[.val (.int u0), .val (.int u1), .val (.int u2), .val (.int mo), .val (.int kk), .val (.int xc), .unset, .val (.ref tt)] [.int xc, .int 7, .ref tt])) := by
  obtain ⟨cl581, Ar581, q581, S581, Nn581, H581, G581⟩ := id A_tt
  obtain ⟨T582, h582, X582, e582, W582, st582⟩ := stC X0 hx hZ e0 Ar581 (j := (7 : Int32)) (inb_of S581 ⟨by decide, by decide⟩) (g := (mkF mM 69 #[.val (.int u0), .val (.int u1), .val (.int u2), .val (.int mo), .val (.int kk), .val (.int xc), .unset, .val (.ref tt)] [.int xc, .int 7, .ref tt])) rfl rfl (hb hby at_69)
  have N582 := Fr.snoc X582 N0 g_tt
  have hk := Nat.le_trans hk (Keep.of_wr W582).1
  have O := O.wr W582 g_tt
  have Zn := Nat.le_trans Zn (Keep.of_wr W582).1
  have A_tt : Arv Z h582 tt kt .char 10 [.int 99, .int 111, .int 110, .int 99, .int 117, .int 114, .int 114, (.int (nar .char xc)), .int 110, .int 116] (.int 0) := Arv.set Ar581 q581 S581 Nn581 H581 G581 (fits_nar_char _) W582 7 rfl (Nat.le_of_ble_eq_true rfl)
  refine own_kW T582 70 [] st582 ?_
  rw [show nar .char xc = xc from cxc.1] at A_tt
  obtain ⟨T583, h583, X583, e583, E583, A583, D583, -, st583⟩ := newO X582 hx hZ hown (ow hw 1 rfl) (ow hw 2 rfl) (ow hw 3 rfl) e582 (g := (mkF mM 70 #[.val (.int u0), .val (.int u1), .val (.int u2), .val (.int mo), .val (.int kk), .val (.int xc), .unset, .val (.ref tt)] [])) rfl (hb hby at_70) (by decide) (by decide)
  obtain ⟨b583, g583⟩ : ∃ z, z = h582.size := ⟨_, rfl⟩
  rw [← g583] at A583 D583 st583
  have ne_tt_b583 : tt ≠ b583 := Nat.ne_of_lt (Nat.lt_of_lt_of_le A_tt.lt (Nat.le_of_eq g583.symm))
  have g_b583 : n0 ≤ b583 := Nat.le_trans Zn (Nat.le_of_eq g583.symm)
  have O := O.ext E583
  have A_tt := A_tt.ext E583
  have hk := Nat.le_trans hk E583.1
  have Zn := Nat.le_trans Zn E583.1
  have E_b583 := A583
  have F_b583_coder : Fld Z h583 b583 "java/lang/String" "coder" "B" (.int 0) := D583 (Or.inr (ow hw 32 rfl)) (ty := .byte) (by decide)
  have F_b583_value : Fld Z h583 b583 "java/lang/String" "value" "[B" .null := D583 (Or.inr (ow hw 34 rfl)) (ty := (.array .byte)) (by decide)
  refine own_kW T583 73 [.ref b583] st583 ?_
  refine o_dupW 74 X583 hx (hb hby at_73) rfl rfl ?_
  refine o_aloadW 76 X583 hx (hb hby at_74) rfl rfl rfl ?_
  obtain ⟨_, _, ⟨T584, L584, k584, n584⟩, -, X584, ⟨Lc584, hQ584, l584, y584, z584⟩, st584⟩ := X583.specialBack hx (y := yn9) rfl hown (mvT hZ (ow hw 9 rfl)) (mvT hZ (ow hw 10 rfl)) (mvT hZ (ow hw 11 rfl)) (by decide) (backOf (W := 1) (rmS1_10 lL Z a0 hw [] b583 tt kt cs ((99 : Int32)) ((111 : Int32)) ((110 : Int32)) ((99 : Int32)) ((117 : Int32)) ((114 : Int32)) ((114 : Int32)) (xc) ((110 : Int32)) ((116 : Int32)) h583 n0 g_b583 E_b583 F_b583_value F_b583_coder A_tt ne_tt_b583 O Zn S_cs hcs (⟨by decide, by decide, by decide⟩ : Ck _) (⟨by decide, by decide, by decide⟩ : Ck _) (⟨by decide, by decide, by decide⟩ : Ck _) (⟨by decide, by decide, by decide⟩ : Ck _) (⟨by decide, by decide, by decide⟩ : Ck _) (⟨by decide, by decide, by decide⟩ : Ck _) (⟨by decide, by decide, by decide⟩ : Ck _) cxc (⟨by decide, by decide, by decide⟩ : Ck _) (⟨by decide, by decide, by decide⟩ : Ck _)) hZ (ow hw 11 rfl) (ow hw 3 rfl) (by decide) (by decide)) (g := (mkF mM 76 #[.val (.int u0), .val (.int u1), .val (.int u2), .val (.int mo), .val (.int kk), .val (.int xc), .unset, .val (.ref tt)] [.ref tt, .ref b583, .ref b583])) rfl (by rw [hml]; rfl) (Steps.refl _) (a := b583) (argsL := [.ref tt]) (rest := [.ref b583]) (lenOf pd__28_5bC_29V rfl) rfl (by show 2 * 0 + _ ≤ _; exact Nat.le_of_eq rfl) (hb hby at_76) (fun _ _ => ⟨rfl, e583, (by decide : 2 + 1 ≤ _), (by decide : 14 + 10 ≤ _)⟩)
  dsimp only [Pt.U, Pt.locs, Pt.cells, Pt.slots] at X584 l584 y584 z584 st584 hQ584
  subst l584 y584 z584
  obtain ⟨d584, k584', rfl, N584q, K584, str584, ge584⟩ := hQ584
  have N584 := Fr.app N582 N584q
  have e584 : T584.heap = T584.heap := rfl
  refine own_kW T584 79 [.ref b583] (fun t_ k_ => st584.trans k_) ?_
  have E_b583 := E_b583.keep K584
  have A_tt := A_tt.keep K584 (ninS ne_tt_b583 nin0)
  have hk := Nat.le_trans hk K584.1
  have O := O.keep K584 (allS g_b583 all0)
  have Zn := Nat.le_trans Zn K584.1
  let Lv585 : Array Slot := #[.val (.int u0), .val (.int u1), .val (.int u2), .val (.int mo), .val (.int kk), .val (.int xc), .val (.ref b583), .val (.ref tt)]
  refine own_stW (A := T584.setTop (mkF mM 81 Lv585 [])) (fun t_ k_ => XS.astore X584.here hx rfl (hb hby at_79) rfl rfl (l' := Lv585) rfl k_) ?_
  refine o_gotoW 150 X584 hx (hb hby at_81) (by decide) ?_
  exact J150t hw (X584.more (by decide) (by decide)) hx hZ hby hml hown hlk hret hS hk e584 N584 u0 u1 u2 mo kk xc b583 [((((99 : Int32)).toInt8.toInt32)).toInt8.toInt32, ((((111 : Int32)).toInt8.toInt32)).toInt8.toInt32, ((((110 : Int32)).toInt8.toInt32)).toInt8.toInt32, ((((99 : Int32)).toInt8.toInt32)).toInt8.toInt32, ((((117 : Int32)).toInt8.toInt32)).toInt8.toInt32, ((((114 : Int32)).toInt8.toInt32)).toInt8.toInt32, ((((114 : Int32)).toInt8.toInt32)).toInt8.toInt32, (((xc).toInt8.toInt32)).toInt8.toInt32, ((((110 : Int32)).toInt8.toInt32)).toInt8.toInt32, ((((116 : Int32)).toInt8.toInt32)).toInt8.toInt32] tt cs a1 a2 a3 t cl y1 y2 y3 (⟨_, _, _, str584, rfl⟩ : StrX _ _ _ [((((99 : Int32)).toInt8.toInt32)).toInt8.toInt32, ((((111 : Int32)).toInt8.toInt32)).toInt8.toInt32, ((((110 : Int32)).toInt8.toInt32)).toInt8.toInt32, ((((99 : Int32)).toInt8.toInt32)).toInt8.toInt32, ((((117 : Int32)).toInt8.toInt32)).toInt8.toInt32, ((((114 : Int32)).toInt8.toInt32)).toInt8.toInt32, ((((114 : Int32)).toInt8.toInt32)).toInt8.toInt32, (((xc).toInt8.toInt32)).toInt8.toInt32, ((((110 : Int32)).toInt8.toInt32)).toInt8.toInt32, ((((116 : Int32)).toInt8.toInt32)).toInt8.toInt32]) O S_cs hcs hcw hh39 hh49 hh54 hh7 S_BEFORE S_MEETS S_CONCURRENT S_V Ar Ex FC sz el0 el1 el2 Fk1 Fk2 Fk3 SX1 SX2 SX3 (own_IBw hI (fun _ q => by cases q))
theorem J69_2_8 {vmV : Vm} (hw : own_tb a0 Z) (X0 : Stand pP lL eE room_1 (sS.setVm vmV) mM args below meth cC T0 locs 1 10) (hx : pP.tables.exec = Jvm.exec) (hZ : Z.Warmed39 (sS.setVm vmV).vm) (hby : cC.code = code) (hml : cC.maxLocals = 8) (hown : (sS.setVm vmV).vm.findClass "com/example/slotwright/slotwright/model/LinkTypeOfKeyPinLaw" = some mM.cls) (hlk : meth.locks = false) (hret : meth.sig.returnType = ret) {kV : Nat} (hS : sS.Since vmV kV) (hk : kV ≤ h0.size) (e0 : T0.heap = h0) (N0 : Fr n0 locs) (u0 : Int32) (u1 : Int32) (u2 : Int32) (mo : Int32) (kk : Int32) (xc : Int32) (tt : Addr) (kt : ClassId) (cs : Int32) (a1 : Addr) (a2 : Addr) (a3 : Addr) (t : Addr) (cl : Cell) (y1 : Addr) (y2 : Addr) (y3 : Addr) (A_tt : Arv Z h0 tt kt .char 10 [.int 99, .int 111, .int 110, .int 99, .int 117, .int 114, .int 114, .int 101, .int 110, .int 116] (.int 0)) (g_tt : n0 ≤ tt) (Zn : n0 ≤ h0.size) (O : Old Z n0 h0) (S_cs : Sta Z Z.heap "java/lang/String" "COMPACT_STRINGS" "Z" (.int cs)) (hcs : ¬ cs = (0 : Int32)) (hcw : Jvm.Lit.compactW.before a0 Z = true) (hh39 : Jvm.Lit.constHeld Z "com/example/slotwright/slotwright/model/LinkTypeOfKeyPinLaw" 39) (hh49 : Jvm.Lit.constHeld Z "com/example/slotwright/slotwright/model/LinkTypeOfKeyPinLaw" 49) (hh54 : Jvm.Lit.constHeld Z "com/example/slotwright/slotwright/model/LinkTypeOfKeyPinLaw" 54) (hh7 : Jvm.Lit.constHeld Z "java/lang/String" 7) (S_BEFORE : Sta Z Z.heap "com/example/slotwright/slotwright/model/LinkType" "BEFORE" "Lcom/example/slotwright/slotwright/model/LinkType;" (.ref a1)) (S_MEETS : Sta Z Z.heap "com/example/slotwright/slotwright/model/LinkType" "MEETS" "Lcom/example/slotwright/slotwright/model/LinkType;" (.ref a2)) (S_CONCURRENT : Sta Z Z.heap "com/example/slotwright/slotwright/model/LinkType" "CONCURRENT" "Lcom/example/slotwright/slotwright/model/LinkType;" (.ref a3)) (S_V : Sta Z Z.heap "com/example/slotwright/slotwright/model/LinkType" "$VALUES" "[Lcom/example/slotwright/slotwright/model/LinkType;" (.ref t)) (Ar : Arr Z Z.heap t cl (.object "com/example/slotwright/slotwright/model/LinkType")) (Ex : Exa Z Z.heap t "[Lcom/example/slotwright/slotwright/model/LinkType;") (FC : FitC Z cl) (sz : cl.slots.size = (3 : Int32).toNatClampNeg) (el0 : cl.slots[(0 : Int32).toNatClampNeg]? = some (.ref a1)) (el1 : cl.slots[(1 : Int32).toNatClampNeg]? = some (.ref a2)) (el2 : cl.slots[(2 : Int32).toNatClampNeg]? = some (.ref a3)) (Fk1 : Fld Z Z.heap a1 "com/example/slotwright/slotwright/model/LinkType" "key" "Ljava/lang/String;" (.ref y1)) (Fk2 : Fld Z Z.heap a2 "com/example/slotwright/slotwright/model/LinkType" "key" "Ljava/lang/String;" (.ref y2)) (Fk3 : Fld Z Z.heap a3 "com/example/slotwright/slotwright/model/LinkType" "key" "Ljava/lang/String;" (.ref y3)) (SX1 : StrX Z Z.heap y1 bB) (SX2 : StrX Z Z.heap y2 bM) (SX3 : StrX Z Z.heap y3 bC) (cxc : Ck xc) (hI : IB Z vmV []) :
    own_GoW pP eE below sS (QLaw n0) 24 4288 (T0.setTop (mkF mM 69 #[.val (.int u0), .val (.int u1), .val (.int u2), .val (.int mo), .val (.int kk), .val (.int xc), .unset, .val (.ref tt)] [.int xc, .int 8, .ref tt])) := by
  obtain ⟨cl586, Ar586, q586, S586, Nn586, H586, G586⟩ := id A_tt
  obtain ⟨T587, h587, X587, e587, W587, st587⟩ := stC X0 hx hZ e0 Ar586 (j := (8 : Int32)) (inb_of S586 ⟨by decide, by decide⟩) (g := (mkF mM 69 #[.val (.int u0), .val (.int u1), .val (.int u2), .val (.int mo), .val (.int kk), .val (.int xc), .unset, .val (.ref tt)] [.int xc, .int 8, .ref tt])) rfl rfl (hb hby at_69)
  have N587 := Fr.snoc X587 N0 g_tt
  have hk := Nat.le_trans hk (Keep.of_wr W587).1
  have O := O.wr W587 g_tt
  have Zn := Nat.le_trans Zn (Keep.of_wr W587).1
  have A_tt : Arv Z h587 tt kt .char 10 [.int 99, .int 111, .int 110, .int 99, .int 117, .int 114, .int 114, .int 101, (.int (nar .char xc)), .int 116] (.int 0) := Arv.set Ar586 q586 S586 Nn586 H586 G586 (fits_nar_char _) W587 8 rfl (Nat.le_of_ble_eq_true rfl)
  refine own_kW T587 70 [] st587 ?_
  rw [show nar .char xc = xc from cxc.1] at A_tt
  obtain ⟨T588, h588, X588, e588, E588, A588, D588, -, st588⟩ := newO X587 hx hZ hown (ow hw 1 rfl) (ow hw 2 rfl) (ow hw 3 rfl) e587 (g := (mkF mM 70 #[.val (.int u0), .val (.int u1), .val (.int u2), .val (.int mo), .val (.int kk), .val (.int xc), .unset, .val (.ref tt)] [])) rfl (hb hby at_70) (by decide) (by decide)
  obtain ⟨b588, g588⟩ : ∃ z, z = h587.size := ⟨_, rfl⟩
  rw [← g588] at A588 D588 st588
  have ne_tt_b588 : tt ≠ b588 := Nat.ne_of_lt (Nat.lt_of_lt_of_le A_tt.lt (Nat.le_of_eq g588.symm))
  have g_b588 : n0 ≤ b588 := Nat.le_trans Zn (Nat.le_of_eq g588.symm)
  have O := O.ext E588
  have A_tt := A_tt.ext E588
  have hk := Nat.le_trans hk E588.1
  have Zn := Nat.le_trans Zn E588.1
  have E_b588 := A588
  have F_b588_coder : Fld Z h588 b588 "java/lang/String" "coder" "B" (.int 0) := D588 (Or.inr (ow hw 32 rfl)) (ty := .byte) (by decide)
  have F_b588_value : Fld Z h588 b588 "java/lang/String" "value" "[B" .null := D588 (Or.inr (ow hw 34 rfl)) (ty := (.array .byte)) (by decide)
  refine own_kW T588 73 [.ref b588] st588 ?_
  refine o_dupW 74 X588 hx (hb hby at_73) rfl rfl ?_
  refine o_aloadW 76 X588 hx (hb hby at_74) rfl rfl rfl ?_
  obtain ⟨_, _, ⟨T589, L589, k589, n589⟩, -, X589, ⟨Lc589, hQ589, l589, y589, z589⟩, st589⟩ := X588.specialBack hx (y := yn9) rfl hown (mvT hZ (ow hw 9 rfl)) (mvT hZ (ow hw 10 rfl)) (mvT hZ (ow hw 11 rfl)) (by decide) (backOf (W := 1) (rmS1_10 lL Z a0 hw [] b588 tt kt cs ((99 : Int32)) ((111 : Int32)) ((110 : Int32)) ((99 : Int32)) ((117 : Int32)) ((114 : Int32)) ((114 : Int32)) ((101 : Int32)) (xc) ((116 : Int32)) h588 n0 g_b588 E_b588 F_b588_value F_b588_coder A_tt ne_tt_b588 O Zn S_cs hcs (⟨by decide, by decide, by decide⟩ : Ck _) (⟨by decide, by decide, by decide⟩ : Ck _) (⟨by decide, by decide, by decide⟩ : Ck _) (⟨by decide, by decide, by decide⟩ : Ck _) (⟨by decide, by decide, by decide⟩ : Ck _) (⟨by decide, by decide, by decide⟩ : Ck _) (⟨by decide, by decide, by decide⟩ : Ck _) (⟨by decide, by decide, by decide⟩ : Ck _) cxc (⟨by decide, by decide, by decide⟩ : Ck _)) hZ (ow hw 11 rfl) (ow hw 3 rfl) (by decide) (by decide)) (g := (mkF mM 76 #[.val (.int u0), .val (.int u1), .val (.int u2), .val (.int mo), .val (.int kk), .val (.int xc), .unset, .val (.ref tt)] [.ref tt, .ref b588, .ref b588])) rfl (by rw [hml]; rfl) (Steps.refl _) (a := b588) (argsL := [.ref tt]) (rest := [.ref b588]) (lenOf pd__28_5bC_29V rfl) rfl (by show 2 * 0 + _ ≤ _; exact Nat.le_of_eq rfl) (hb hby at_76) (fun _ _ => ⟨rfl, e588, (by decide : 2 + 1 ≤ _), (by decide : 14 + 10 ≤ _)⟩)
  dsimp only [Pt.U, Pt.locs, Pt.cells, Pt.slots] at X589 l589 y589 z589 st589 hQ589
  subst l589 y589 z589
  obtain ⟨d589, k589', rfl, N589q, K589, str589, ge589⟩ := hQ589
  have N589 := Fr.app N587 N589q
  have e589 : T589.heap = T589.heap := rfl
  refine own_kW T589 79 [.ref b588] (fun t_ k_ => st589.trans k_) ?_
  have E_b588 := E_b588.keep K589
  have A_tt := A_tt.keep K589 (ninS ne_tt_b588 nin0)
  have hk := Nat.le_trans hk K589.1
  have O := O.keep K589 (allS g_b588 all0)
  have Zn := Nat.le_trans Zn K589.1
  let Lv590 : Array Slot := #[.val (.int u0), .val (.int u1), .val (.int u2), .val (.int mo), .val (.int kk), .val (.int xc), .val (.ref b588), .val (.ref tt)]
  refine own_stW (A := T589.setTop (mkF mM 81 Lv590 [])) (fun t_ k_ => XS.astore X589.here hx rfl (hb hby at_79) rfl rfl (l' := Lv590) rfl k_) ?_
  refine o_gotoW 150 X589 hx (hb hby at_81) (by decide) ?_
  exact J150t hw (X589.more (by decide) (by decide)) hx hZ hby hml hown hlk hret hS hk e589 N589 u0 u1 u2 mo kk xc b588 [((((99 : Int32)).toInt8.toInt32)).toInt8.toInt32, ((((111 : Int32)).toInt8.toInt32)).toInt8.toInt32, ((((110 : Int32)).toInt8.toInt32)).toInt8.toInt32, ((((99 : Int32)).toInt8.toInt32)).toInt8.toInt32, ((((117 : Int32)).toInt8.toInt32)).toInt8.toInt32, ((((114 : Int32)).toInt8.toInt32)).toInt8.toInt32, ((((114 : Int32)).toInt8.toInt32)).toInt8.toInt32, ((((101 : Int32)).toInt8.toInt32)).toInt8.toInt32, (((xc).toInt8.toInt32)).toInt8.toInt32, ((((116 : Int32)).toInt8.toInt32)).toInt8.toInt32] tt cs a1 a2 a3 t cl y1 y2 y3 (⟨_, _, _, str589, rfl⟩ : StrX _ _ _ [((((99 : Int32)).toInt8.toInt32)).toInt8.toInt32, ((((111 : Int32)).toInt8.toInt32)).toInt8.toInt32, ((((110 : Int32)).toInt8.toInt32)).toInt8.toInt32, ((((99 : Int32)).toInt8.toInt32)).toInt8.toInt32, ((((117 : Int32)).toInt8.toInt32)).toInt8.toInt32, ((((114 : Int32)).toInt8.toInt32)).toInt8.toInt32, ((((114 : Int32)).toInt8.toInt32)).toInt8.toInt32, ((((101 : Int32)).toInt8.toInt32)).toInt8.toInt32, (((xc).toInt8.toInt32)).toInt8.toInt32, ((((116 : Int32)).toInt8.toInt32)).toInt8.toInt32]) O S_cs hcs hcw hh39 hh49 hh54 hh7 S_BEFORE S_MEETS S_CONCURRENT S_V Ar Ex FC sz el0 el1 el2 Fk1 Fk2 Fk3 SX1 SX2 SX3 (own_IBw hI (fun _ q => by cases q))
theorem J69_2_9 {vmV : Vm} (hw : own_tb a0 Z) (X0 : Stand pP lL eE room_1 (sS.setVm vmV) mM args below meth cC T0 locs 1 10) (hx : pP.tables.exec = Jvm.exec) (hZ : Z.Warmed39 (sS.setVm vmV).vm) (hby : cC.code = code) (hml : cC.maxLocals = 8) (hown : (sS.setVm vmV).vm.findClass "com/example/slotwright/slotwright/model/LinkTypeOfKeyPinLaw" = some mM.cls) (hlk : meth.locks = false) (hret : meth.sig.returnType = ret) {kV : Nat} (hS : sS.Since vmV kV) (hk : kV ≤ h0.size) (e0 : T0.heap = h0) (N0 : Fr n0 locs) (u0 : Int32) (u1 : Int32) (u2 : Int32) (mo : Int32) (kk : Int32) (xc : Int32) (tt : Addr) (kt : ClassId) (cs : Int32) (a1 : Addr) (a2 : Addr) (a3 : Addr) (t : Addr) (cl : Cell) (y1 : Addr) (y2 : Addr) (y3 : Addr) (A_tt : Arv Z h0 tt kt .char 10 [.int 99, .int 111, .int 110, .int 99, .int 117, .int 114, .int 114, .int 101, .int 110, .int 116] (.int 0)) (g_tt : n0 ≤ tt) (Zn : n0 ≤ h0.size) (O : Old Z n0 h0) (S_cs : Sta Z Z.heap "java/lang/String" "COMPACT_STRINGS" "Z" (.int cs)) (hcs : ¬ cs = (0 : Int32)) (hcw : Jvm.Lit.compactW.before a0 Z = true) (hh39 : Jvm.Lit.constHeld Z "com/example/slotwright/slotwright/model/LinkTypeOfKeyPinLaw" 39) (hh49 : Jvm.Lit.constHeld Z "com/example/slotwright/slotwright/model/LinkTypeOfKeyPinLaw" 49) (hh54 : Jvm.Lit.constHeld Z "com/example/slotwright/slotwright/model/LinkTypeOfKeyPinLaw" 54) (hh7 : Jvm.Lit.constHeld Z "java/lang/String" 7) (S_BEFORE : Sta Z Z.heap "com/example/slotwright/slotwright/model/LinkType" "BEFORE" "Lcom/example/slotwright/slotwright/model/LinkType;" (.ref a1)) (S_MEETS : Sta Z Z.heap "com/example/slotwright/slotwright/model/LinkType" "MEETS" "Lcom/example/slotwright/slotwright/model/LinkType;" (.ref a2)) (S_CONCURRENT : Sta Z Z.heap "com/example/slotwright/slotwright/model/LinkType" "CONCURRENT" "Lcom/example/slotwright/slotwright/model/LinkType;" (.ref a3)) (S_V : Sta Z Z.heap "com/example/slotwright/slotwright/model/LinkType" "$VALUES" "[Lcom/example/slotwright/slotwright/model/LinkType;" (.ref t)) (Ar : Arr Z Z.heap t cl (.object "com/example/slotwright/slotwright/model/LinkType")) (Ex : Exa Z Z.heap t "[Lcom/example/slotwright/slotwright/model/LinkType;") (FC : FitC Z cl) (sz : cl.slots.size = (3 : Int32).toNatClampNeg) (el0 : cl.slots[(0 : Int32).toNatClampNeg]? = some (.ref a1)) (el1 : cl.slots[(1 : Int32).toNatClampNeg]? = some (.ref a2)) (el2 : cl.slots[(2 : Int32).toNatClampNeg]? = some (.ref a3)) (Fk1 : Fld Z Z.heap a1 "com/example/slotwright/slotwright/model/LinkType" "key" "Ljava/lang/String;" (.ref y1)) (Fk2 : Fld Z Z.heap a2 "com/example/slotwright/slotwright/model/LinkType" "key" "Ljava/lang/String;" (.ref y2)) (Fk3 : Fld Z Z.heap a3 "com/example/slotwright/slotwright/model/LinkType" "key" "Ljava/lang/String;" (.ref y3)) (SX1 : StrX Z Z.heap y1 bB) (SX2 : StrX Z Z.heap y2 bM) (SX3 : StrX Z Z.heap y3 bC) (cxc : Ck xc) (hI : IB Z vmV []) :
    own_GoW pP eE below sS (QLaw n0) 24 4288 (T0.setTop (mkF mM 69 #[.val (.int u0), .val (.int u1), .val (.int u2), .val (.int mo), .val (.int kk), .val (.int xc), .unset, .val (.ref tt)] [.int xc, .int 9, .ref tt])) := by
  obtain ⟨cl591, Ar591, q591, S591, Nn591, H591, G591⟩ := id A_tt
  obtain ⟨T592, h592, X592, e592, W592, st592⟩ := stC X0 hx hZ e0 Ar591 (j := (9 : Int32)) (inb_of S591 ⟨by decide, by decide⟩) (g := (mkF mM 69 #[.val (.int u0), .val (.int u1), .val (.int u2), .val (.int mo), .val (.int kk), .val (.int xc), .unset, .val (.ref tt)] [.int xc, .int 9, .ref tt])) rfl rfl (hb hby at_69)
  have N592 := Fr.snoc X592 N0 g_tt
  have hk := Nat.le_trans hk (Keep.of_wr W592).1
  have O := O.wr W592 g_tt
  have Zn := Nat.le_trans Zn (Keep.of_wr W592).1
  have A_tt : Arv Z h592 tt kt .char 10 [.int 99, .int 111, .int 110, .int 99, .int 117, .int 114, .int 114, .int 101, .int 110, (.int (nar .char xc))] (.int 0) := Arv.set Ar591 q591 S591 Nn591 H591 G591 (fits_nar_char _) W592 9 rfl (Nat.le_of_ble_eq_true rfl)
  refine own_kW T592 70 [] st592 ?_
  rw [show nar .char xc = xc from cxc.1] at A_tt
  obtain ⟨T593, h593, X593, e593, E593, A593, D593, -, st593⟩ := newO X592 hx hZ hown (ow hw 1 rfl) (ow hw 2 rfl) (ow hw 3 rfl) e592 (g := (mkF mM 70 #[.val (.int u0), .val (.int u1), .val (.int u2), .val (.int mo), .val (.int kk), .val (.int xc), .unset, .val (.ref tt)] [])) rfl (hb hby at_70) (by decide) (by decide)
  obtain ⟨b593, g593⟩ : ∃ z, z = h592.size := ⟨_, rfl⟩
  rw [← g593] at A593 D593 st593
  have ne_tt_b593 : tt ≠ b593 := Nat.ne_of_lt (Nat.lt_of_lt_of_le A_tt.lt (Nat.le_of_eq g593.symm))
  have g_b593 : n0 ≤ b593 := Nat.le_trans Zn (Nat.le_of_eq g593.symm)
  have O := O.ext E593
  have A_tt := A_tt.ext E593
  have hk := Nat.le_trans hk E593.1
  have Zn := Nat.le_trans Zn E593.1
  have E_b593 := A593
  have F_b593_coder : Fld Z h593 b593 "java/lang/String" "coder" "B" (.int 0) := D593 (Or.inr (ow hw 32 rfl)) (ty := .byte) (by decide)
  have F_b593_value : Fld Z h593 b593 "java/lang/String" "value" "[B" .null := D593 (Or.inr (ow hw 34 rfl)) (ty := (.array .byte)) (by decide)
  refine own_kW T593 73 [.ref b593] st593 ?_
  refine o_dupW 74 X593 hx (hb hby at_73) rfl rfl ?_
  refine o_aloadW 76 X593 hx (hb hby at_74) rfl rfl rfl ?_
  obtain ⟨_, _, ⟨T594, L594, k594, n594⟩, -, X594, ⟨Lc594, hQ594, l594, y594, z594⟩, st594⟩ := X593.specialBack hx (y := yn9) rfl hown (mvT hZ (ow hw 9 rfl)) (mvT hZ (ow hw 10 rfl)) (mvT hZ (ow hw 11 rfl)) (by decide) (backOf (W := 1) (rmS1_10 lL Z a0 hw [] b593 tt kt cs ((99 : Int32)) ((111 : Int32)) ((110 : Int32)) ((99 : Int32)) ((117 : Int32)) ((114 : Int32)) ((114 : Int32)) ((101 : Int32)) ((110 : Int32)) (xc) h593 n0 g_b593 E_b593 F_b593_value F_b593_coder A_tt ne_tt_b593 O Zn S_cs hcs (⟨by decide, by decide, by decide⟩ : Ck _) (⟨by decide, by decide, by decide⟩ : Ck _) (⟨by decide, by decide, by decide⟩ : Ck _) (⟨by decide, by decide, by decide⟩ : Ck _) (⟨by decide, by decide, by decide⟩ : Ck _) (⟨by decide, by decide, by decide⟩ : Ck _) (⟨by decide, by decide, by decide⟩ : Ck _) (⟨by decide, by decide, by decide⟩ : Ck _) (⟨by decide, by decide, by decide⟩ : Ck _) cxc) hZ (ow hw 11 rfl) (ow hw 3 rfl) (by decide) (by decide)) (g := (mkF mM 76 #[.val (.int u0), .val (.int u1), .val (.int u2), .val (.int mo), .val (.int kk), .val (.int xc), .unset, .val (.ref tt)] [.ref tt, .ref b593, .ref b593])) rfl (by rw [hml]; rfl) (Steps.refl _) (a := b593) (argsL := [.ref tt]) (rest := [.ref b593]) (lenOf pd__28_5bC_29V rfl) rfl (by show 2 * 0 + _ ≤ _; exact Nat.le_of_eq rfl) (hb hby at_76) (fun _ _ => ⟨rfl, e593, (by decide : 2 + 1 ≤ _), (by decide : 14 + 10 ≤ _)⟩)
  dsimp only [Pt.U, Pt.locs, Pt.cells, Pt.slots] at X594 l594 y594 z594 st594 hQ594
  subst l594 y594 z594
  obtain ⟨d594, k594', rfl, N594q, K594, str594, ge594⟩ := hQ594
  have N594 := Fr.app N592 N594q
  have e594 : T594.heap = T594.heap := rfl
  refine own_kW T594 79 [.ref b593] (fun t_ k_ => st594.trans k_) ?_
  have E_b593 := E_b593.keep K594
  have A_tt := A_tt.keep K594 (ninS ne_tt_b593 nin0)
  have hk := Nat.le_trans hk K594.1
  have O := O.keep K594 (allS g_b593 all0)
  have Zn := Nat.le_trans Zn K594.1
  let Lv595 : Array Slot := #[.val (.int u0), .val (.int u1), .val (.int u2), .val (.int mo), .val (.int kk), .val (.int xc), .val (.ref b593), .val (.ref tt)]
  refine own_stW (A := T594.setTop (mkF mM 81 Lv595 [])) (fun t_ k_ => XS.astore X594.here hx rfl (hb hby at_79) rfl rfl (l' := Lv595) rfl k_) ?_
  refine o_gotoW 150 X594 hx (hb hby at_81) (by decide) ?_
  exact J150t hw (X594.more (by decide) (by decide)) hx hZ hby hml hown hlk hret hS hk e594 N594 u0 u1 u2 mo kk xc b593 [((((99 : Int32)).toInt8.toInt32)).toInt8.toInt32, ((((111 : Int32)).toInt8.toInt32)).toInt8.toInt32, ((((110 : Int32)).toInt8.toInt32)).toInt8.toInt32, ((((99 : Int32)).toInt8.toInt32)).toInt8.toInt32, ((((117 : Int32)).toInt8.toInt32)).toInt8.toInt32, ((((114 : Int32)).toInt8.toInt32)).toInt8.toInt32, ((((114 : Int32)).toInt8.toInt32)).toInt8.toInt32, ((((101 : Int32)).toInt8.toInt32)).toInt8.toInt32, ((((110 : Int32)).toInt8.toInt32)).toInt8.toInt32, (((xc).toInt8.toInt32)).toInt8.toInt32] tt cs a1 a2 a3 t cl y1 y2 y3 (⟨_, _, _, str594, rfl⟩ : StrX _ _ _ [((((99 : Int32)).toInt8.toInt32)).toInt8.toInt32, ((((111 : Int32)).toInt8.toInt32)).toInt8.toInt32, ((((110 : Int32)).toInt8.toInt32)).toInt8.toInt32, ((((99 : Int32)).toInt8.toInt32)).toInt8.toInt32, ((((117 : Int32)).toInt8.toInt32)).toInt8.toInt32, ((((114 : Int32)).toInt8.toInt32)).toInt8.toInt32, ((((114 : Int32)).toInt8.toInt32)).toInt8.toInt32, ((((101 : Int32)).toInt8.toInt32)).toInt8.toInt32, ((((110 : Int32)).toInt8.toInt32)).toInt8.toInt32, (((xc).toInt8.toInt32)).toInt8.toInt32]) O S_cs hcs hcw hh39 hh49 hh54 hh7 S_BEFORE S_MEETS S_CONCURRENT S_V Ar Ex FC sz el0 el1 el2 Fk1 Fk2 Fk3 SX1 SX2 SX3 (own_IBw hI (fun _ q => by cases q))
theorem d1_73 : decode method_4_code 73 = .ok (.bipush 10, 2) := by decide +kernel
theorem d1_75 : decode method_4_code 75 = .ok (.newarray .char, 2) := by decide +kernel
theorem d1_77 : decode method_4_code 77 = .ok (.dup, 1) := by decide +kernel
theorem d1_78 : decode method_4_code 78 = .ok (.iconst 0, 1) := by decide +kernel
theorem d1_79 : decode method_4_code 79 = .ok (.bipush 99, 2) := by decide +kernel
theorem d1_81 : decode method_4_code 81 = .ok (.castore, 1) := by decide +kernel
theorem d1_82 : decode method_4_code 82 = .ok (.dup, 1) := by decide +kernel
theorem d1_83 : decode method_4_code 83 = .ok (.iconst 1, 1) := by decide +kernel
theorem d1_84 : decode method_4_code 84 = .ok (.bipush 111, 2) := by decide +kernel
theorem d1_86 : decode method_4_code 86 = .ok (.castore, 1) := by decide +kernel
theorem d1_87 : decode method_4_code 87 = .ok (.dup, 1) := by decide +kernel
theorem d1_88 : decode method_4_code 88 = .ok (.iconst 2, 1) := by decide +kernel
theorem d1_89 : decode method_4_code 89 = .ok (.bipush 110, 2) := by decide +kernel
theorem d1_91 : decode method_4_code 91 = .ok (.castore, 1) := by decide +kernel
theorem d1_92 : decode method_4_code 92 = .ok (.dup, 1) := by decide +kernel
theorem d1_93 : decode method_4_code 93 = .ok (.iconst 3, 1) := by decide +kernel
theorem d1_94 : decode method_4_code 94 = .ok (.bipush 99, 2) := by decide +kernel
theorem d1_96 : decode method_4_code 96 = .ok (.castore, 1) := by decide +kernel
theorem d1_97 : decode method_4_code 97 = .ok (.dup, 1) := by decide +kernel
theorem d1_98 : decode method_4_code 98 = .ok (.iconst 4, 1) := by decide +kernel
theorem d1_99 : decode method_4_code 99 = .ok (.bipush 117, 2) := by decide +kernel
theorem d1_101 : decode method_4_code 101 = .ok (.castore, 1) := by decide +kernel
theorem d1_102 : decode method_4_code 102 = .ok (.dup, 1) := by decide +kernel
theorem d1_103 : decode method_4_code 103 = .ok (.iconst 5, 1) := by decide +kernel
theorem d1_104 : decode method_4_code 104 = .ok (.bipush 114, 2) := by decide +kernel
theorem d1_106 : decode method_4_code 106 = .ok (.castore, 1) := by decide +kernel
theorem d1_107 : decode method_4_code 107 = .ok (.dup, 1) := by decide +kernel
theorem d1_108 : decode method_4_code 108 = .ok (.bipush 6, 2) := by decide +kernel
theorem d1_110 : decode method_4_code 110 = .ok (.bipush 114, 2) := by decide +kernel
theorem d1_112 : decode method_4_code 112 = .ok (.castore, 1) := by decide +kernel
theorem d1_113 : decode method_4_code 113 = .ok (.dup, 1) := by decide +kernel
theorem d1_114 : decode method_4_code 114 = .ok (.bipush 7, 2) := by decide +kernel
theorem d1_116 : decode method_4_code 116 = .ok (.bipush 101, 2) := by decide +kernel
theorem d1_118 : decode method_4_code 118 = .ok (.castore, 1) := by decide +kernel
theorem d1_119 : decode method_4_code 119 = .ok (.dup, 1) := by decide +kernel
theorem d1_120 : decode method_4_code 120 = .ok (.bipush 8, 2) := by decide +kernel
theorem d1_122 : decode method_4_code 122 = .ok (.bipush 110, 2) := by decide +kernel
theorem d1_124 : decode method_4_code 124 = .ok (.castore, 1) := by decide +kernel
theorem d1_125 : decode method_4_code 125 = .ok (.dup, 1) := by decide +kernel
theorem d1_126 : decode method_4_code 126 = .ok (.bipush 9, 2) := by decide +kernel
theorem d1_128 : decode method_4_code 128 = .ok (.bipush 116, 2) := by decide +kernel
theorem d1_130 : decode method_4_code 130 = .ok (.castore, 1) := by decide +kernel
theorem d1_131 : decode method_4_code 131 = .ok (.areturn, 1) := by decide +kernel
theorem ef_rm_keyChars2 (mM : MethodId)  : entryFrame mM #[.int 2] 1 = mkF mM 0 #[.val (.int 2)] [] := by first | (simp [entryFrame, mkF, argsToLocals, Value.category]; done) | rfl
theorem rm_keyChars2 (lL : Launch) (Z : State) (a0 : Array Value) (hw : own_tb a0 Z) (ws : List Jvm.Cond)  (h0 : Heap) (n0 : Nat) (Zn : n0 ≤ h0.size) :
    own_Ct lL Z yn15 method_4_code 1 (some (.array .char)) ws (⟨0, 1, 10, 0⟩ : Room) #[.int 2] h0 (QCh Z 10 [.int 99, .int 111, .int 110, .int 99, .int 117, .int 114, .int 114, .int 101, .int 110, .int 116] h0 n0) := by
  refine own_body (plainFor_of_name pn_com_2fexample_2fslotwright_2fslotwright_2fmodel_2fLinkTypeOfKeyPinLaw) 1 10 rfl rfl (fun mM => ef_rm_keyChars2 mM) fun pP eE sS mM below meth cC s₁ hZ hx hby hml hown hnm hret hlk X0 e0 => ?_
  have N0 := Fr.nil n0
  have Kp := Keep.refl h0 []
  refine o_iloadN 1 X0 hx (hb hby d1_0) rfl rfl ?_
  refine o_ifYes 39 X0 hx (hb hby d1_1) ((if0 _ _).trans (feq (by decide : ¬ ((2 : Int32) = (0 : Int32)))).2) (by decide) ?_
  refine o_iloadN 40 X0 hx (hb hby d1_39) rfl rfl ?_
  refine o_iconst 41 1 X0 hx (hb hby d1_40) rfl rfl ?_
  refine o_icmpYes 73 X0 hx (hb hby d1_41) (feq (by decide : ¬ ((2 : Int32) = (1 : Int32)))).2 (by decide) ?_
  refine o_bipush 75 10 X0 hx (hb hby d1_73) rfl rfl ?_
  obtain ⟨T596, h596, k596, X596, e596, E596, A596, st596⟩ := newP X0 hx hZ (ow hw 8 rfl) e0 (g := (mkF mM 75 #[.val (.int 2)] [.int 10])) rfl (hb hby d1_75) rfl (by decide) (cap := 10) (by decide) (by decide) (by decide) (by decide)
  obtain ⟨b596, g596⟩ : ∃ z, z = h0.size := ⟨_, rfl⟩
  rw [← g596] at A596 st596
  have g_b596 : n0 ≤ b596 := Nat.le_trans Zn (Nat.le_of_eq g596.symm)
  have b_b596 : h0.size ≤ b596 := Nat.le_trans Kp.1 (Nat.le_of_eq g596.symm)
  have Zn := Nat.le_trans Zn E596.1
  have Kp := Kp.ext E596
  have A_b596 : Arv Z h596 b596 k596 .char 10 [.int 0, .int 0, .int 0, .int 0, .int 0, .int 0, .int 0, .int 0, .int 0, .int 0] (.int 0) := (Arv.new A596 (by decide)).pad (pad_rep [] (.int 0) 10)
  refine own_k T596 77 [.ref b596] st596 ?_
  refine o_dup 78 X596 hx (hb hby d1_77) rfl rfl ?_
  refine o_iconst 79 0 X596 hx (hb hby d1_78) rfl rfl ?_
  refine o_bipush 81 99 X596 hx (hb hby d1_79) rfl rfl ?_
  obtain ⟨cl597, Ar597, q597, S597, Nn597, H597, G597⟩ := id A_b596
  obtain ⟨T598, h598, X598, e598, W598, st598⟩ := stC X596 hx hZ e596 Ar597 (j := (0 : Int32)) (inb_of S597 ⟨by decide, by decide⟩) (g := (mkF mM 81 #[.val (.int 2)] [.int 99, .int 0, .ref b596, .ref b596])) rfl rfl (hb hby d1_81)
  have N598 := Fr.snoc X598 N0 g_b596
  have Zn := Nat.le_trans Zn (Keep.of_wr W598).1
  have Kp := Kp.wr W598 (Or.inr b_b596)
  have A_b596 : Arv Z h598 b596 k596 .char 10 [(.int (nar .char (99 : Int32))), .int 0, .int 0, .int 0, .int 0, .int 0, .int 0, .int 0, .int 0, .int 0] (.int 0) := Arv.set Ar597 q597 S597 Nn597 H597 G597 (fits_nar_char _) W598 0 rfl (Nat.le_of_ble_eq_true rfl)
  refine own_k T598 82 [.ref b596] st598 ?_
  rw [show nar .char (99 : Int32) = (99 : Int32) from (by decide)] at A_b596
  refine o_dup 83 X598 hx (hb hby d1_82) rfl rfl ?_
  refine o_iconst 84 1 X598 hx (hb hby d1_83) rfl rfl ?_
  refine o_bipush 86 111 X598 hx (hb hby d1_84) rfl rfl ?_
  obtain ⟨cl599, Ar599, q599, S599, Nn599, H599, G599⟩ := id A_b596
  obtain ⟨T600, h600, X600, e600, W600, st600⟩ := stC X598 hx hZ e598 Ar599 (j := (1 : Int32)) (inb_of S599 ⟨by decide, by decide⟩) (g := (mkF mM 86 #[.val (.int 2)] [.int 111, .int 1, .ref b596, .ref b596])) rfl rfl (hb hby d1_86)
  have N600 := Fr.snoc X600 N598 g_b596
  have Zn := Nat.le_trans Zn (Keep.of_wr W600).1
  have Kp := Kp.wr W600 (Or.inr b_b596)
  have A_b596 : Arv Z h600 b596 k596 .char 10 [.int 99, (.int (nar .char (111 : Int32))), .int 0, .int 0, .int 0, .int 0, .int 0, .int 0, .int 0, .int 0] (.int 0) := Arv.set Ar599 q599 S599 Nn599 H599 G599 (fits_nar_char _) W600 1 rfl (Nat.le_of_ble_eq_true rfl)
  refine own_k T600 87 [.ref b596] st600 ?_
  rw [show nar .char (111 : Int32) = (111 : Int32) from (by decide)] at A_b596
  refine o_dup 88 X600 hx (hb hby d1_87) rfl rfl ?_
  refine o_iconst 89 2 X600 hx (hb hby d1_88) rfl rfl ?_
  refine o_bipush 91 110 X600 hx (hb hby d1_89) rfl rfl ?_
  obtain ⟨cl601, Ar601, q601, S601, Nn601, H601, G601⟩ := id A_b596
  obtain ⟨T602, h602, X602, e602, W602, st602⟩ := stC X600 hx hZ e600 Ar601 (j := (2 : Int32)) (inb_of S601 ⟨by decide, by decide⟩) (g := (mkF mM 91 #[.val (.int 2)] [.int 110, .int 2, .ref b596, .ref b596])) rfl rfl (hb hby d1_91)
  have N602 := Fr.snoc X602 N600 g_b596
  have Zn := Nat.le_trans Zn (Keep.of_wr W602).1
  have Kp := Kp.wr W602 (Or.inr b_b596)
  have A_b596 : Arv Z h602 b596 k596 .char 10 [.int 99, .int 111, (.int (nar .char (110 : Int32))), .int 0, .int 0, .int 0, .int 0, .int 0, .int 0, .int 0] (.int 0) := Arv.set Ar601 q601 S601 Nn601 H601 G601 (fits_nar_char _) W602 2 rfl (Nat.le_of_ble_eq_true rfl)
  refine own_k T602 92 [.ref b596] st602 ?_
  rw [show nar .char (110 : Int32) = (110 : Int32) from (by decide)] at A_b596
  refine o_dup 93 X602 hx (hb hby d1_92) rfl rfl ?_
  refine o_iconst 94 3 X602 hx (hb hby d1_93) rfl rfl ?_
  refine o_bipush 96 99 X602 hx (hb hby d1_94) rfl rfl ?_
  obtain ⟨cl603, Ar603, q603, S603, Nn603, H603, G603⟩ := id A_b596
  obtain ⟨T604, h604, X604, e604, W604, st604⟩ := stC X602 hx hZ e602 Ar603 (j := (3 : Int32)) (inb_of S603 ⟨by decide, by decide⟩) (g := (mkF mM 96 #[.val (.int 2)] [.int 99, .int 3, .ref b596, .ref b596])) rfl rfl (hb hby d1_96)
  have N604 := Fr.snoc X604 N602 g_b596
  have Zn := Nat.le_trans Zn (Keep.of_wr W604).1
  have Kp := Kp.wr W604 (Or.inr b_b596)
  have A_b596 : Arv Z h604 b596 k596 .char 10 [.int 99, .int 111, .int 110, (.int (nar .char (99 : Int32))), .int 0, .int 0, .int 0, .int 0, .int 0, .int 0] (.int 0) := Arv.set Ar603 q603 S603 Nn603 H603 G603 (fits_nar_char _) W604 3 rfl (Nat.le_of_ble_eq_true rfl)
  refine own_k T604 97 [.ref b596] st604 ?_
  rw [show nar .char (99 : Int32) = (99 : Int32) from (by decide)] at A_b596
  refine o_dup 98 X604 hx (hb hby d1_97) rfl rfl ?_
  refine o_iconst 99 4 X604 hx (hb hby d1_98) rfl rfl ?_
  refine o_bipush 101 117 X604 hx (hb hby d1_99) rfl rfl ?_
  obtain ⟨cl605, Ar605, q605, S605, Nn605, H605, G605⟩ := id A_b596
  obtain ⟨T606, h606, X606, e606, W606, st606⟩ := stC X604 hx hZ e604 Ar605 (j := (4 : Int32)) (inb_of S605 ⟨by decide, by decide⟩) (g := (mkF mM 101 #[.val (.int 2)] [.int 117, .int 4, .ref b596, .ref b596])) rfl rfl (hb hby d1_101)
  have N606 := Fr.snoc X606 N604 g_b596
  have Zn := Nat.le_trans Zn (Keep.of_wr W606).1
  have Kp := Kp.wr W606 (Or.inr b_b596)
  have A_b596 : Arv Z h606 b596 k596 .char 10 [.int 99, .int 111, .int 110, .int 99, (.int (nar .char (117 : Int32))), .int 0, .int 0, .int 0, .int 0, .int 0] (.int 0) := Arv.set Ar605 q605 S605 Nn605 H605 G605 (fits_nar_char _) W606 4 rfl (Nat.le_of_ble_eq_true rfl)
  refine own_k T606 102 [.ref b596] st606 ?_
  rw [show nar .char (117 : Int32) = (117 : Int32) from (by decide)] at A_b596
  refine o_dup 103 X606 hx (hb hby d1_102) rfl rfl ?_
  refine o_iconst 104 5 X606 hx (hb hby d1_103) rfl rfl ?_
  refine o_bipush 106 114 X606 hx (hb hby d1_104) rfl rfl ?_
  obtain ⟨cl607, Ar607, q607, S607, Nn607, H607, G607⟩ := id A_b596
  obtain ⟨T608, h608, X608, e608, W608, st608⟩ := stC X606 hx hZ e606 Ar607 (j := (5 : Int32)) (inb_of S607 ⟨by decide, by decide⟩) (g := (mkF mM 106 #[.val (.int 2)] [.int 114, .int 5, .ref b596, .ref b596])) rfl rfl (hb hby d1_106)
  have N608 := Fr.snoc X608 N606 g_b596
  have Zn := Nat.le_trans Zn (Keep.of_wr W608).1
  have Kp := Kp.wr W608 (Or.inr b_b596)
  have A_b596 : Arv Z h608 b596 k596 .char 10 [.int 99, .int 111, .int 110, .int 99, .int 117, (.int (nar .char (114 : Int32))), .int 0, .int 0, .int 0, .int 0] (.int 0) := Arv.set Ar607 q607 S607 Nn607 H607 G607 (fits_nar_char _) W608 5 rfl (Nat.le_of_ble_eq_true rfl)
  refine own_k T608 107 [.ref b596] st608 ?_
  rw [show nar .char (114 : Int32) = (114 : Int32) from (by decide)] at A_b596
  refine o_dup 108 X608 hx (hb hby d1_107) rfl rfl ?_
  refine o_bipush 110 6 X608 hx (hb hby d1_108) rfl rfl ?_
  refine o_bipush 112 114 X608 hx (hb hby d1_110) rfl rfl ?_
  obtain ⟨cl609, Ar609, q609, S609, Nn609, H609, G609⟩ := id A_b596
  obtain ⟨T610, h610, X610, e610, W610, st610⟩ := stC X608 hx hZ e608 Ar609 (j := (6 : Int32)) (inb_of S609 ⟨by decide, by decide⟩) (g := (mkF mM 112 #[.val (.int 2)] [.int 114, .int 6, .ref b596, .ref b596])) rfl rfl (hb hby d1_112)
  have N610 := Fr.snoc X610 N608 g_b596
  have Zn := Nat.le_trans Zn (Keep.of_wr W610).1
  have Kp := Kp.wr W610 (Or.inr b_b596)
  have A_b596 : Arv Z h610 b596 k596 .char 10 [.int 99, .int 111, .int 110, .int 99, .int 117, .int 114, (.int (nar .char (114 : Int32))), .int 0, .int 0, .int 0] (.int 0) := Arv.set Ar609 q609 S609 Nn609 H609 G609 (fits_nar_char _) W610 6 rfl (Nat.le_of_ble_eq_true rfl)
  refine own_k T610 113 [.ref b596] st610 ?_
  rw [show nar .char (114 : Int32) = (114 : Int32) from (by decide)] at A_b596
  refine o_dup 114 X610 hx (hb hby d1_113) rfl rfl ?_
  refine o_bipush 116 7 X610 hx (hb hby d1_114) rfl rfl ?_
  refine o_bipush 118 101 X610 hx (hb hby d1_116) rfl rfl ?_
  obtain ⟨cl611, Ar611, q611, S611, Nn611, H611, G611⟩ := id A_b596
  obtain ⟨T612, h612, X612, e612, W612, st612⟩ := stC X610 hx hZ e610 Ar611 (j := (7 : Int32)) (inb_of S611 ⟨by decide, by decide⟩) (g := (mkF mM 118 #[.val (.int 2)] [.int 101, .int 7, .ref b596, .ref b596])) rfl rfl (hb hby d1_118)
  have N612 := Fr.snoc X612 N610 g_b596
  have Zn := Nat.le_trans Zn (Keep.of_wr W612).1
  have Kp := Kp.wr W612 (Or.inr b_b596)
  have A_b596 : Arv Z h612 b596 k596 .char 10 [.int 99, .int 111, .int 110, .int 99, .int 117, .int 114, .int 114, (.int (nar .char (101 : Int32))), .int 0, .int 0] (.int 0) := Arv.set Ar611 q611 S611 Nn611 H611 G611 (fits_nar_char _) W612 7 rfl (Nat.le_of_ble_eq_true rfl)
  refine own_k T612 119 [.ref b596] st612 ?_
  rw [show nar .char (101 : Int32) = (101 : Int32) from (by decide)] at A_b596
  refine o_dup 120 X612 hx (hb hby d1_119) rfl rfl ?_
  refine o_bipush 122 8 X612 hx (hb hby d1_120) rfl rfl ?_
  refine o_bipush 124 110 X612 hx (hb hby d1_122) rfl rfl ?_
  obtain ⟨cl613, Ar613, q613, S613, Nn613, H613, G613⟩ := id A_b596
  obtain ⟨T614, h614, X614, e614, W614, st614⟩ := stC X612 hx hZ e612 Ar613 (j := (8 : Int32)) (inb_of S613 ⟨by decide, by decide⟩) (g := (mkF mM 124 #[.val (.int 2)] [.int 110, .int 8, .ref b596, .ref b596])) rfl rfl (hb hby d1_124)
  have N614 := Fr.snoc X614 N612 g_b596
  have Zn := Nat.le_trans Zn (Keep.of_wr W614).1
  have Kp := Kp.wr W614 (Or.inr b_b596)
  have A_b596 : Arv Z h614 b596 k596 .char 10 [.int 99, .int 111, .int 110, .int 99, .int 117, .int 114, .int 114, .int 101, (.int (nar .char (110 : Int32))), .int 0] (.int 0) := Arv.set Ar613 q613 S613 Nn613 H613 G613 (fits_nar_char _) W614 8 rfl (Nat.le_of_ble_eq_true rfl)
  refine own_k T614 125 [.ref b596] st614 ?_
  rw [show nar .char (110 : Int32) = (110 : Int32) from (by decide)] at A_b596
  refine o_dup 126 X614 hx (hb hby d1_125) rfl rfl ?_
  refine o_bipush 128 9 X614 hx (hb hby d1_126) rfl rfl ?_
  refine o_bipush 130 116 X614 hx (hb hby d1_128) rfl rfl ?_
  obtain ⟨cl615, Ar615, q615, S615, Nn615, H615, G615⟩ := id A_b596
  obtain ⟨T616, h616, X616, e616, W616, st616⟩ := stC X614 hx hZ e614 Ar615 (j := (9 : Int32)) (inb_of S615 ⟨by decide, by decide⟩) (g := (mkF mM 130 #[.val (.int 2)] [.int 116, .int 9, .ref b596, .ref b596])) rfl rfl (hb hby d1_130)
  have N616 := Fr.snoc X616 N614 g_b596
  have Zn := Nat.le_trans Zn (Keep.of_wr W616).1
  have Kp := Kp.wr W616 (Or.inr b_b596)
  have A_b596 : Arv Z h616 b596 k596 .char 10 [.int 99, .int 111, .int 110, .int 99, .int 117, .int 114, .int 114, .int 101, .int 110, (.int (nar .char (116 : Int32)))] (.int 0) := Arv.set Ar615 q615 S615 Nn615 H615 G615 (fits_nar_char _) W616 9 rfl (Nat.le_of_ble_eq_true rfl)
  refine own_k T616 131 [.ref b596] st616 ?_
  rw [show nar .char (116 : Int32) = (116 : Int32) from (by decide)] at A_b596
  exact own_retA X616 hx hlk hret rfl rfl (hb hby d1_131) (by rw [e616]; exact ⟨_, _, rfl, N616, own_ext_of_keep Kp, A_b596, b_b596⟩) (by decide) (by decide)
theorem d13_83 : decode method_5_code 83 = .ok (.bipush 11, 2) := by decide +kernel
theorem d13_85 : decode method_5_code 85 = .ok (.newarray .char, 2) := by decide +kernel
theorem d13_87 : decode method_5_code 87 = .ok (.dup, 1) := by decide +kernel
theorem d13_88 : decode method_5_code 88 = .ok (.iconst 0, 1) := by decide +kernel
theorem d13_89 : decode method_5_code 89 = .ok (.bipush 99, 2) := by decide +kernel
theorem d13_91 : decode method_5_code 91 = .ok (.castore, 1) := by decide +kernel
theorem d13_92 : decode method_5_code 92 = .ok (.dup, 1) := by decide +kernel
theorem d13_93 : decode method_5_code 93 = .ok (.iconst 1, 1) := by decide +kernel
theorem d13_94 : decode method_5_code 94 = .ok (.bipush 111, 2) := by decide +kernel
theorem d13_96 : decode method_5_code 96 = .ok (.castore, 1) := by decide +kernel
theorem d13_97 : decode method_5_code 97 = .ok (.dup, 1) := by decide +kernel
theorem d13_98 : decode method_5_code 98 = .ok (.iconst 2, 1) := by decide +kernel
theorem d13_99 : decode method_5_code 99 = .ok (.bipush 110, 2) := by decide +kernel
theorem d13_101 : decode method_5_code 101 = .ok (.castore, 1) := by decide +kernel
theorem d13_102 : decode method_5_code 102 = .ok (.dup, 1) := by decide +kernel
theorem d13_103 : decode method_5_code 103 = .ok (.iconst 3, 1) := by decide +kernel
theorem d13_104 : decode method_5_code 104 = .ok (.bipush 99, 2) := by decide +kernel
theorem d13_106 : decode method_5_code 106 = .ok (.castore, 1) := by decide +kernel
theorem d13_107 : decode method_5_code 107 = .ok (.dup, 1) := by decide +kernel
theorem d13_108 : decode method_5_code 108 = .ok (.iconst 4, 1) := by decide +kernel
theorem d13_109 : decode method_5_code 109 = .ok (.bipush 117, 2) := by decide +kernel
theorem d13_111 : decode method_5_code 111 = .ok (.castore, 1) := by decide +kernel
theorem d13_112 : decode method_5_code 112 = .ok (.dup, 1) := by decide +kernel
theorem d13_113 : decode method_5_code 113 = .ok (.iconst 5, 1) := by decide +kernel
theorem d13_114 : decode method_5_code 114 = .ok (.bipush 114, 2) := by decide +kernel
theorem d13_116 : decode method_5_code 116 = .ok (.castore, 1) := by decide +kernel
theorem d13_117 : decode method_5_code 117 = .ok (.dup, 1) := by decide +kernel
theorem d13_118 : decode method_5_code 118 = .ok (.bipush 6, 2) := by decide +kernel
theorem d13_120 : decode method_5_code 120 = .ok (.bipush 114, 2) := by decide +kernel
theorem d13_122 : decode method_5_code 122 = .ok (.castore, 1) := by decide +kernel
theorem d13_123 : decode method_5_code 123 = .ok (.dup, 1) := by decide +kernel
theorem d13_124 : decode method_5_code 124 = .ok (.bipush 7, 2) := by decide +kernel
theorem d13_126 : decode method_5_code 126 = .ok (.bipush 101, 2) := by decide +kernel
theorem d13_128 : decode method_5_code 128 = .ok (.castore, 1) := by decide +kernel
theorem d13_129 : decode method_5_code 129 = .ok (.dup, 1) := by decide +kernel
theorem d13_130 : decode method_5_code 130 = .ok (.bipush 8, 2) := by decide +kernel
theorem d13_132 : decode method_5_code 132 = .ok (.bipush 110, 2) := by decide +kernel
theorem d13_134 : decode method_5_code 134 = .ok (.castore, 1) := by decide +kernel
theorem d13_135 : decode method_5_code 135 = .ok (.dup, 1) := by decide +kernel
theorem d13_136 : decode method_5_code 136 = .ok (.bipush 9, 2) := by decide +kernel
theorem d13_138 : decode method_5_code 138 = .ok (.bipush 116, 2) := by decide +kernel
theorem d13_140 : decode method_5_code 140 = .ok (.castore, 1) := by decide +kernel
theorem d13_141 : decode method_5_code 141 = .ok (.dup, 1) := by decide +kernel
theorem d13_142 : decode method_5_code 142 = .ok (.bipush 10, 2) := by decide +kernel
theorem d13_144 : decode method_5_code 144 = .ok (.iload_n 1, 1) := by decide +kernel
theorem d13_145 : decode method_5_code 145 = .ok (.castore, 1) := by decide +kernel
theorem d13_146 : decode method_5_code 146 = .ok (.areturn, 1) := by decide +kernel
theorem ef_rm_extended2 (mM : MethodId) (xc : Int32) : entryFrame mM #[.int 2, .int xc] 2 = mkF mM 0 #[.val (.int 2), .val (.int xc)] [] := by first | (simp [entryFrame, mkF, argsToLocals, Value.category]; done) | rfl
theorem rm_extended2 (lL : Launch) (Z : State) (a0 : Array Value) (hw : own_tb a0 Z) (ws : List Jvm.Cond) (xc : Int32) (h0 : Heap) (n0 : Nat) (Zn : n0 ≤ h0.size) (cxc : Ck xc) :
    own_Ct lL Z yn16 method_5_code 2 (some (.array .char)) ws (⟨0, 1, 11, 0⟩ : Room) #[.int 2, .int xc] h0 (QCh Z 11 [.int 99, .int 111, .int 110, .int 99, .int 117, .int 114, .int 114, .int 101, .int 110, .int 116, .int xc] h0 n0) := by
  refine own_body (plainFor_of_name pn_com_2fexample_2fslotwright_2fslotwright_2fmodel_2fLinkTypeOfKeyPinLaw) 1 11 rfl rfl (fun mM => ef_rm_extended2 mM xc) fun pP eE sS mM below meth cC s₁ hZ hx hby hml hown hnm hret hlk X0 e0 => ?_
  have N0 := Fr.nil n0
  have Kp := Keep.refl h0 []
  refine o_iloadN 1 X0 hx (hb hby d13_0) rfl rfl ?_
  refine o_ifYes 44 X0 hx (hb hby d13_1) ((if0 _ _).trans (feq (by decide : ¬ ((2 : Int32) = (0 : Int32)))).2) (by decide) ?_
  refine o_iloadN 45 X0 hx (hb hby d13_44) rfl rfl ?_
  refine o_iconst 46 1 X0 hx (hb hby d13_45) rfl rfl ?_
  refine o_icmpYes 83 X0 hx (hb hby d13_46) (feq (by decide : ¬ ((2 : Int32) = (1 : Int32)))).2 (by decide) ?_
  refine o_bipush 85 11 X0 hx (hb hby d13_83) rfl rfl ?_
  obtain ⟨T617, h617, k617, X617, e617, E617, A617, st617⟩ := newP X0 hx hZ (ow hw 8 rfl) e0 (g := (mkF mM 85 #[.val (.int 2), .val (.int xc)] [.int 11])) rfl (hb hby d13_85) rfl (by decide) (cap := 11) (by decide) (by decide) (by decide) (by decide)
  obtain ⟨b617, g617⟩ : ∃ z, z = h0.size := ⟨_, rfl⟩
  rw [← g617] at A617 st617
  have g_b617 : n0 ≤ b617 := Nat.le_trans Zn (Nat.le_of_eq g617.symm)
  have b_b617 : h0.size ≤ b617 := Nat.le_trans Kp.1 (Nat.le_of_eq g617.symm)
  have Zn := Nat.le_trans Zn E617.1
  have Kp := Kp.ext E617
  have A_b617 : Arv Z h617 b617 k617 .char 11 [.int 0, .int 0, .int 0, .int 0, .int 0, .int 0, .int 0, .int 0, .int 0, .int 0, .int 0] (.int 0) := (Arv.new A617 (by decide)).pad (pad_rep [] (.int 0) 11)
  refine own_k T617 87 [.ref b617] st617 ?_
  refine o_dup 88 X617 hx (hb hby d13_87) rfl rfl ?_
  refine o_iconst 89 0 X617 hx (hb hby d13_88) rfl rfl ?_
  refine o_bipush 91 99 X617 hx (hb hby d13_89) rfl rfl ?_
  obtain ⟨cl618, Ar618, q618, S618, Nn618, H618, G618⟩ := id A_b617
  obtain ⟨T619, h619, X619, e619, W619, st619⟩ := stC X617 hx hZ e617 Ar618 (j := (0 : Int32)) (inb_of S618 ⟨by decide, by decide⟩) (g := (mkF mM 91 #[.val (.int 2), .val (.int xc)] [.int 99, .int 0, .ref b617, .ref b617])) rfl rfl (hb hby d13_91)
  have N619 := Fr.snoc X619 N0 g_b617
  have Zn := Nat.le_trans Zn (Keep.of_wr W619).1
  have Kp := Kp.wr W619 (Or.inr b_b617)
  have A_b617 : Arv Z h619 b617 k617 .char 11 [(.int (nar .char (99 : Int32))), .int 0, .int 0, .int 0, .int 0, .int 0, .int 0, .int 0, .int 0, .int 0, .int 0] (.int 0) := Arv.set Ar618 q618 S618 Nn618 H618 G618 (fits_nar_char _) W619 0 rfl (Nat.le_of_ble_eq_true rfl)
  refine own_k T619 92 [.ref b617] st619 ?_
  rw [show nar .char (99 : Int32) = (99 : Int32) from (by decide)] at A_b617
  refine o_dup 93 X619 hx (hb hby d13_92) rfl rfl ?_
  refine o_iconst 94 1 X619 hx (hb hby d13_93) rfl rfl ?_
  refine o_bipush 96 111 X619 hx (hb hby d13_94) rfl rfl ?_
  obtain ⟨cl620, Ar620, q620, S620, Nn620, H620, G620⟩ := id A_b617
  obtain ⟨T621, h621, X621, e621, W621, st621⟩ := stC X619 hx hZ e619 Ar620 (j := (1 : Int32)) (inb_of S620 ⟨by decide, by decide⟩) (g := (mkF mM 96 #[.val (.int 2), .val (.int xc)] [.int 111, .int 1, .ref b617, .ref b617])) rfl rfl (hb hby d13_96)
  have N621 := Fr.snoc X621 N619 g_b617
  have Zn := Nat.le_trans Zn (Keep.of_wr W621).1
  have Kp := Kp.wr W621 (Or.inr b_b617)
  have A_b617 : Arv Z h621 b617 k617 .char 11 [.int 99, (.int (nar .char (111 : Int32))), .int 0, .int 0, .int 0, .int 0, .int 0, .int 0, .int 0, .int 0, .int 0] (.int 0) := Arv.set Ar620 q620 S620 Nn620 H620 G620 (fits_nar_char _) W621 1 rfl (Nat.le_of_ble_eq_true rfl)
  refine own_k T621 97 [.ref b617] st621 ?_
  rw [show nar .char (111 : Int32) = (111 : Int32) from (by decide)] at A_b617
  refine o_dup 98 X621 hx (hb hby d13_97) rfl rfl ?_
  refine o_iconst 99 2 X621 hx (hb hby d13_98) rfl rfl ?_
  refine o_bipush 101 110 X621 hx (hb hby d13_99) rfl rfl ?_
  obtain ⟨cl622, Ar622, q622, S622, Nn622, H622, G622⟩ := id A_b617
  obtain ⟨T623, h623, X623, e623, W623, st623⟩ := stC X621 hx hZ e621 Ar622 (j := (2 : Int32)) (inb_of S622 ⟨by decide, by decide⟩) (g := (mkF mM 101 #[.val (.int 2), .val (.int xc)] [.int 110, .int 2, .ref b617, .ref b617])) rfl rfl (hb hby d13_101)
  have N623 := Fr.snoc X623 N621 g_b617
  have Zn := Nat.le_trans Zn (Keep.of_wr W623).1
  have Kp := Kp.wr W623 (Or.inr b_b617)
  have A_b617 : Arv Z h623 b617 k617 .char 11 [.int 99, .int 111, (.int (nar .char (110 : Int32))), .int 0, .int 0, .int 0, .int 0, .int 0, .int 0, .int 0, .int 0] (.int 0) := Arv.set Ar622 q622 S622 Nn622 H622 G622 (fits_nar_char _) W623 2 rfl (Nat.le_of_ble_eq_true rfl)
  refine own_k T623 102 [.ref b617] st623 ?_
  rw [show nar .char (110 : Int32) = (110 : Int32) from (by decide)] at A_b617
  refine o_dup 103 X623 hx (hb hby d13_102) rfl rfl ?_
  refine o_iconst 104 3 X623 hx (hb hby d13_103) rfl rfl ?_
  refine o_bipush 106 99 X623 hx (hb hby d13_104) rfl rfl ?_
  obtain ⟨cl624, Ar624, q624, S624, Nn624, H624, G624⟩ := id A_b617
  obtain ⟨T625, h625, X625, e625, W625, st625⟩ := stC X623 hx hZ e623 Ar624 (j := (3 : Int32)) (inb_of S624 ⟨by decide, by decide⟩) (g := (mkF mM 106 #[.val (.int 2), .val (.int xc)] [.int 99, .int 3, .ref b617, .ref b617])) rfl rfl (hb hby d13_106)
  have N625 := Fr.snoc X625 N623 g_b617
  have Zn := Nat.le_trans Zn (Keep.of_wr W625).1
  have Kp := Kp.wr W625 (Or.inr b_b617)
  have A_b617 : Arv Z h625 b617 k617 .char 11 [.int 99, .int 111, .int 110, (.int (nar .char (99 : Int32))), .int 0, .int 0, .int 0, .int 0, .int 0, .int 0, .int 0] (.int 0) := Arv.set Ar624 q624 S624 Nn624 H624 G624 (fits_nar_char _) W625 3 rfl (Nat.le_of_ble_eq_true rfl)
  refine own_k T625 107 [.ref b617] st625 ?_
  rw [show nar .char (99 : Int32) = (99 : Int32) from (by decide)] at A_b617
  refine o_dup 108 X625 hx (hb hby d13_107) rfl rfl ?_
  refine o_iconst 109 4 X625 hx (hb hby d13_108) rfl rfl ?_
  refine o_bipush 111 117 X625 hx (hb hby d13_109) rfl rfl ?_
  obtain ⟨cl626, Ar626, q626, S626, Nn626, H626, G626⟩ := id A_b617
  obtain ⟨T627, h627, X627, e627, W627, st627⟩ := stC X625 hx hZ e625 Ar626 (j := (4 : Int32)) (inb_of S626 ⟨by decide, by decide⟩) (g := (mkF mM 111 #[.val (.int 2), .val (.int xc)] [.int 117, .int 4, .ref b617, .ref b617])) rfl rfl (hb hby d13_111)
  have N627 := Fr.snoc X627 N625 g_b617
  have Zn := Nat.le_trans Zn (Keep.of_wr W627).1
  have Kp := Kp.wr W627 (Or.inr b_b617)
  have A_b617 : Arv Z h627 b617 k617 .char 11 [.int 99, .int 111, .int 110, .int 99, (.int (nar .char (117 : Int32))), .int 0, .int 0, .int 0, .int 0, .int 0, .int 0] (.int 0) := Arv.set Ar626 q626 S626 Nn626 H626 G626 (fits_nar_char _) W627 4 rfl (Nat.le_of_ble_eq_true rfl)
  refine own_k T627 112 [.ref b617] st627 ?_
  rw [show nar .char (117 : Int32) = (117 : Int32) from (by decide)] at A_b617
  refine o_dup 113 X627 hx (hb hby d13_112) rfl rfl ?_
  refine o_iconst 114 5 X627 hx (hb hby d13_113) rfl rfl ?_
  refine o_bipush 116 114 X627 hx (hb hby d13_114) rfl rfl ?_
  obtain ⟨cl628, Ar628, q628, S628, Nn628, H628, G628⟩ := id A_b617
  obtain ⟨T629, h629, X629, e629, W629, st629⟩ := stC X627 hx hZ e627 Ar628 (j := (5 : Int32)) (inb_of S628 ⟨by decide, by decide⟩) (g := (mkF mM 116 #[.val (.int 2), .val (.int xc)] [.int 114, .int 5, .ref b617, .ref b617])) rfl rfl (hb hby d13_116)
  have N629 := Fr.snoc X629 N627 g_b617
  have Zn := Nat.le_trans Zn (Keep.of_wr W629).1
  have Kp := Kp.wr W629 (Or.inr b_b617)
  have A_b617 : Arv Z h629 b617 k617 .char 11 [.int 99, .int 111, .int 110, .int 99, .int 117, (.int (nar .char (114 : Int32))), .int 0, .int 0, .int 0, .int 0, .int 0] (.int 0) := Arv.set Ar628 q628 S628 Nn628 H628 G628 (fits_nar_char _) W629 5 rfl (Nat.le_of_ble_eq_true rfl)
  refine own_k T629 117 [.ref b617] st629 ?_
  rw [show nar .char (114 : Int32) = (114 : Int32) from (by decide)] at A_b617
  refine o_dup 118 X629 hx (hb hby d13_117) rfl rfl ?_
  refine o_bipush 120 6 X629 hx (hb hby d13_118) rfl rfl ?_
  refine o_bipush 122 114 X629 hx (hb hby d13_120) rfl rfl ?_
  obtain ⟨cl630, Ar630, q630, S630, Nn630, H630, G630⟩ := id A_b617
  obtain ⟨T631, h631, X631, e631, W631, st631⟩ := stC X629 hx hZ e629 Ar630 (j := (6 : Int32)) (inb_of S630 ⟨by decide, by decide⟩) (g := (mkF mM 122 #[.val (.int 2), .val (.int xc)] [.int 114, .int 6, .ref b617, .ref b617])) rfl rfl (hb hby d13_122)
  have N631 := Fr.snoc X631 N629 g_b617
  have Zn := Nat.le_trans Zn (Keep.of_wr W631).1
  have Kp := Kp.wr W631 (Or.inr b_b617)
  have A_b617 : Arv Z h631 b617 k617 .char 11 [.int 99, .int 111, .int 110, .int 99, .int 117, .int 114, (.int (nar .char (114 : Int32))), .int 0, .int 0, .int 0, .int 0] (.int 0) := Arv.set Ar630 q630 S630 Nn630 H630 G630 (fits_nar_char _) W631 6 rfl (Nat.le_of_ble_eq_true rfl)
  refine own_k T631 123 [.ref b617] st631 ?_
  rw [show nar .char (114 : Int32) = (114 : Int32) from (by decide)] at A_b617
  refine o_dup 124 X631 hx (hb hby d13_123) rfl rfl ?_
  refine o_bipush 126 7 X631 hx (hb hby d13_124) rfl rfl ?_
  refine o_bipush 128 101 X631 hx (hb hby d13_126) rfl rfl ?_
  obtain ⟨cl632, Ar632, q632, S632, Nn632, H632, G632⟩ := id A_b617
  obtain ⟨T633, h633, X633, e633, W633, st633⟩ := stC X631 hx hZ e631 Ar632 (j := (7 : Int32)) (inb_of S632 ⟨by decide, by decide⟩) (g := (mkF mM 128 #[.val (.int 2), .val (.int xc)] [.int 101, .int 7, .ref b617, .ref b617])) rfl rfl (hb hby d13_128)
  have N633 := Fr.snoc X633 N631 g_b617
  have Zn := Nat.le_trans Zn (Keep.of_wr W633).1
  have Kp := Kp.wr W633 (Or.inr b_b617)
  have A_b617 : Arv Z h633 b617 k617 .char 11 [.int 99, .int 111, .int 110, .int 99, .int 117, .int 114, .int 114, (.int (nar .char (101 : Int32))), .int 0, .int 0, .int 0] (.int 0) := Arv.set Ar632 q632 S632 Nn632 H632 G632 (fits_nar_char _) W633 7 rfl (Nat.le_of_ble_eq_true rfl)
  refine own_k T633 129 [.ref b617] st633 ?_
  rw [show nar .char (101 : Int32) = (101 : Int32) from (by decide)] at A_b617
  refine o_dup 130 X633 hx (hb hby d13_129) rfl rfl ?_
  refine o_bipush 132 8 X633 hx (hb hby d13_130) rfl rfl ?_
  refine o_bipush 134 110 X633 hx (hb hby d13_132) rfl rfl ?_
  obtain ⟨cl634, Ar634, q634, S634, Nn634, H634, G634⟩ := id A_b617
  obtain ⟨T635, h635, X635, e635, W635, st635⟩ := stC X633 hx hZ e633 Ar634 (j := (8 : Int32)) (inb_of S634 ⟨by decide, by decide⟩) (g := (mkF mM 134 #[.val (.int 2), .val (.int xc)] [.int 110, .int 8, .ref b617, .ref b617])) rfl rfl (hb hby d13_134)
  have N635 := Fr.snoc X635 N633 g_b617
  have Zn := Nat.le_trans Zn (Keep.of_wr W635).1
  have Kp := Kp.wr W635 (Or.inr b_b617)
  have A_b617 : Arv Z h635 b617 k617 .char 11 [.int 99, .int 111, .int 110, .int 99, .int 117, .int 114, .int 114, .int 101, (.int (nar .char (110 : Int32))), .int 0, .int 0] (.int 0) := Arv.set Ar634 q634 S634 Nn634 H634 G634 (fits_nar_char _) W635 8 rfl (Nat.le_of_ble_eq_true rfl)
  refine own_k T635 135 [.ref b617] st635 ?_
  rw [show nar .char (110 : Int32) = (110 : Int32) from (by decide)] at A_b617
  refine o_dup 136 X635 hx (hb hby d13_135) rfl rfl ?_
  refine o_bipush 138 9 X635 hx (hb hby d13_136) rfl rfl ?_
  refine o_bipush 140 116 X635 hx (hb hby d13_138) rfl rfl ?_
  obtain ⟨cl636, Ar636, q636, S636, Nn636, H636, G636⟩ := id A_b617
  obtain ⟨T637, h637, X637, e637, W637, st637⟩ := stC X635 hx hZ e635 Ar636 (j := (9 : Int32)) (inb_of S636 ⟨by decide, by decide⟩) (g := (mkF mM 140 #[.val (.int 2), .val (.int xc)] [.int 116, .int 9, .ref b617, .ref b617])) rfl rfl (hb hby d13_140)
  have N637 := Fr.snoc X637 N635 g_b617
  have Zn := Nat.le_trans Zn (Keep.of_wr W637).1
  have Kp := Kp.wr W637 (Or.inr b_b617)
  have A_b617 : Arv Z h637 b617 k617 .char 11 [.int 99, .int 111, .int 110, .int 99, .int 117, .int 114, .int 114, .int 101, .int 110, (.int (nar .char (116 : Int32))), .int 0] (.int 0) := Arv.set Ar636 q636 S636 Nn636 H636 G636 (fits_nar_char _) W637 9 rfl (Nat.le_of_ble_eq_true rfl)
  refine own_k T637 141 [.ref b617] st637 ?_
  rw [show nar .char (116 : Int32) = (116 : Int32) from (by decide)] at A_b617
  refine o_dup 142 X637 hx (hb hby d13_141) rfl rfl ?_
  refine o_bipush 144 10 X637 hx (hb hby d13_142) rfl rfl ?_
  refine o_iloadN 145 X637 hx (hb hby d13_144) rfl rfl ?_
  obtain ⟨cl638, Ar638, q638, S638, Nn638, H638, G638⟩ := id A_b617
  obtain ⟨T639, h639, X639, e639, W639, st639⟩ := stC X637 hx hZ e637 Ar638 (j := (10 : Int32)) (inb_of S638 ⟨by decide, by decide⟩) (g := (mkF mM 145 #[.val (.int 2), .val (.int xc)] [.int xc, .int 10, .ref b617, .ref b617])) rfl rfl (hb hby d13_145)
  have N639 := Fr.snoc X639 N637 g_b617
  have Zn := Nat.le_trans Zn (Keep.of_wr W639).1
  have Kp := Kp.wr W639 (Or.inr b_b617)
  have A_b617 : Arv Z h639 b617 k617 .char 11 [.int 99, .int 111, .int 110, .int 99, .int 117, .int 114, .int 114, .int 101, .int 110, .int 116, (.int (nar .char xc))] (.int 0) := Arv.set Ar638 q638 S638 Nn638 H638 G638 (fits_nar_char _) W639 10 rfl (Nat.le_of_ble_eq_true rfl)
  refine own_k T639 146 [.ref b617] st639 ?_
  rw [show nar .char xc = xc from cxc.1] at A_b617
  exact own_retA X639 hx hlk hret rfl rfl (hb hby d13_146) (by rw [e639]; exact ⟨_, _, rfl, N639, own_ext_of_keep Kp, A_b617, b_b617⟩) (by decide) (by decide)
theorem d14_62 : decode method_6_code 62 = .ok (.bipush 9, 2) := by decide +kernel
theorem d14_64 : decode method_6_code 64 = .ok (.newarray .char, 2) := by decide +kernel
theorem d14_66 : decode method_6_code 66 = .ok (.dup, 1) := by decide +kernel
theorem d14_67 : decode method_6_code 67 = .ok (.iconst 0, 1) := by decide +kernel
theorem d14_68 : decode method_6_code 68 = .ok (.bipush 99, 2) := by decide +kernel
theorem d14_70 : decode method_6_code 70 = .ok (.castore, 1) := by decide +kernel
theorem d14_71 : decode method_6_code 71 = .ok (.dup, 1) := by decide +kernel
theorem d14_72 : decode method_6_code 72 = .ok (.iconst 1, 1) := by decide +kernel
theorem d14_73 : decode method_6_code 73 = .ok (.bipush 111, 2) := by decide +kernel
theorem d14_75 : decode method_6_code 75 = .ok (.castore, 1) := by decide +kernel
theorem d14_76 : decode method_6_code 76 = .ok (.dup, 1) := by decide +kernel
theorem d14_77 : decode method_6_code 77 = .ok (.iconst 2, 1) := by decide +kernel
theorem d14_78 : decode method_6_code 78 = .ok (.bipush 110, 2) := by decide +kernel
theorem d14_80 : decode method_6_code 80 = .ok (.castore, 1) := by decide +kernel
theorem d14_81 : decode method_6_code 81 = .ok (.dup, 1) := by decide +kernel
theorem d14_82 : decode method_6_code 82 = .ok (.iconst 3, 1) := by decide +kernel
theorem d14_83 : decode method_6_code 83 = .ok (.bipush 99, 2) := by decide +kernel
theorem d14_85 : decode method_6_code 85 = .ok (.castore, 1) := by decide +kernel
theorem d14_86 : decode method_6_code 86 = .ok (.dup, 1) := by decide +kernel
theorem d14_87 : decode method_6_code 87 = .ok (.iconst 4, 1) := by decide +kernel
theorem d14_88 : decode method_6_code 88 = .ok (.bipush 117, 2) := by decide +kernel
theorem d14_90 : decode method_6_code 90 = .ok (.castore, 1) := by decide +kernel
theorem d14_91 : decode method_6_code 91 = .ok (.dup, 1) := by decide +kernel
theorem d14_92 : decode method_6_code 92 = .ok (.iconst 5, 1) := by decide +kernel
theorem d14_93 : decode method_6_code 93 = .ok (.bipush 114, 2) := by decide +kernel
theorem d14_95 : decode method_6_code 95 = .ok (.castore, 1) := by decide +kernel
theorem d14_96 : decode method_6_code 96 = .ok (.dup, 1) := by decide +kernel
theorem d14_97 : decode method_6_code 97 = .ok (.bipush 6, 2) := by decide +kernel
theorem d14_99 : decode method_6_code 99 = .ok (.bipush 114, 2) := by decide +kernel
theorem d14_101 : decode method_6_code 101 = .ok (.castore, 1) := by decide +kernel
theorem d14_102 : decode method_6_code 102 = .ok (.dup, 1) := by decide +kernel
theorem d14_103 : decode method_6_code 103 = .ok (.bipush 7, 2) := by decide +kernel
theorem d14_105 : decode method_6_code 105 = .ok (.bipush 101, 2) := by decide +kernel
theorem d14_107 : decode method_6_code 107 = .ok (.castore, 1) := by decide +kernel
theorem d14_108 : decode method_6_code 108 = .ok (.dup, 1) := by decide +kernel
theorem d14_109 : decode method_6_code 109 = .ok (.bipush 8, 2) := by decide +kernel
theorem d14_111 : decode method_6_code 111 = .ok (.bipush 110, 2) := by decide +kernel
theorem d14_113 : decode method_6_code 113 = .ok (.castore, 1) := by decide +kernel
theorem d14_114 : decode method_6_code 114 = .ok (.areturn, 1) := by decide +kernel
theorem ef_rm_truncated2 (mM : MethodId)  : entryFrame mM #[.int 2] 1 = mkF mM 0 #[.val (.int 2)] [] := by first | (simp [entryFrame, mkF, argsToLocals, Value.category]; done) | rfl
theorem rm_truncated2 (lL : Launch) (Z : State) (a0 : Array Value) (hw : own_tb a0 Z) (ws : List Jvm.Cond)  (h0 : Heap) (n0 : Nat) (Zn : n0 ≤ h0.size) :
    own_Ct lL Z yn17 method_6_code 1 (some (.array .char)) ws (⟨0, 1, 9, 0⟩ : Room) #[.int 2] h0 (QCh Z 9 [.int 99, .int 111, .int 110, .int 99, .int 117, .int 114, .int 114, .int 101, .int 110] h0 n0) := by
  refine own_body (plainFor_of_name pn_com_2fexample_2fslotwright_2fslotwright_2fmodel_2fLinkTypeOfKeyPinLaw) 1 9 rfl rfl (fun mM => ef_rm_truncated2 mM) fun pP eE sS mM below meth cC s₁ hZ hx hby hml hown hnm hret hlk X0 e0 => ?_
  have N0 := Fr.nil n0
  have Kp := Keep.refl h0 []
  refine o_iloadN 1 X0 hx (hb hby d14_0) rfl rfl ?_
  refine o_ifYes 33 X0 hx (hb hby d14_1) ((if0 _ _).trans (feq (by decide : ¬ ((2 : Int32) = (0 : Int32)))).2) (by decide) ?_
  refine o_iloadN 34 X0 hx (hb hby d14_33) rfl rfl ?_
  refine o_iconst 35 1 X0 hx (hb hby d14_34) rfl rfl ?_
  refine o_icmpYes 62 X0 hx (hb hby d14_35) (feq (by decide : ¬ ((2 : Int32) = (1 : Int32)))).2 (by decide) ?_
  refine o_bipush 64 9 X0 hx (hb hby d14_62) rfl rfl ?_
  obtain ⟨T640, h640, k640, X640, e640, E640, A640, st640⟩ := newP X0 hx hZ (ow hw 8 rfl) e0 (g := (mkF mM 64 #[.val (.int 2)] [.int 9])) rfl (hb hby d14_64) rfl (by decide) (cap := 9) (by decide) (by decide) (by decide) (by decide)
  obtain ⟨b640, g640⟩ : ∃ z, z = h0.size := ⟨_, rfl⟩
  rw [← g640] at A640 st640
  have g_b640 : n0 ≤ b640 := Nat.le_trans Zn (Nat.le_of_eq g640.symm)
  have b_b640 : h0.size ≤ b640 := Nat.le_trans Kp.1 (Nat.le_of_eq g640.symm)
  have Zn := Nat.le_trans Zn E640.1
  have Kp := Kp.ext E640
  have A_b640 : Arv Z h640 b640 k640 .char 9 [.int 0, .int 0, .int 0, .int 0, .int 0, .int 0, .int 0, .int 0, .int 0] (.int 0) := (Arv.new A640 (by decide)).pad (pad_rep [] (.int 0) 9)
  refine own_k T640 66 [.ref b640] st640 ?_
  refine o_dup 67 X640 hx (hb hby d14_66) rfl rfl ?_
  refine o_iconst 68 0 X640 hx (hb hby d14_67) rfl rfl ?_
  refine o_bipush 70 99 X640 hx (hb hby d14_68) rfl rfl ?_
  obtain ⟨cl641, Ar641, q641, S641, Nn641, H641, G641⟩ := id A_b640
  obtain ⟨T642, h642, X642, e642, W642, st642⟩ := stC X640 hx hZ e640 Ar641 (j := (0 : Int32)) (inb_of S641 ⟨by decide, by decide⟩) (g := (mkF mM 70 #[.val (.int 2)] [.int 99, .int 0, .ref b640, .ref b640])) rfl rfl (hb hby d14_70)
  have N642 := Fr.snoc X642 N0 g_b640
  have Zn := Nat.le_trans Zn (Keep.of_wr W642).1
  have Kp := Kp.wr W642 (Or.inr b_b640)
  have A_b640 : Arv Z h642 b640 k640 .char 9 [(.int (nar .char (99 : Int32))), .int 0, .int 0, .int 0, .int 0, .int 0, .int 0, .int 0, .int 0] (.int 0) := Arv.set Ar641 q641 S641 Nn641 H641 G641 (fits_nar_char _) W642 0 rfl (Nat.le_of_ble_eq_true rfl)
  refine own_k T642 71 [.ref b640] st642 ?_
  rw [show nar .char (99 : Int32) = (99 : Int32) from (by decide)] at A_b640
  refine o_dup 72 X642 hx (hb hby d14_71) rfl rfl ?_
  refine o_iconst 73 1 X642 hx (hb hby d14_72) rfl rfl ?_
  refine o_bipush 75 111 X642 hx (hb hby d14_73) rfl rfl ?_
  obtain ⟨cl643, Ar643, q643, S643, Nn643, H643, G643⟩ := id A_b640
  obtain ⟨T644, h644, X644, e644, W644, st644⟩ := stC X642 hx hZ e642 Ar643 (j := (1 : Int32)) (inb_of S643 ⟨by decide, by decide⟩) (g := (mkF mM 75 #[.val (.int 2)] [.int 111, .int 1, .ref b640, .ref b640])) rfl rfl (hb hby d14_75)
  have N644 := Fr.snoc X644 N642 g_b640
  have Zn := Nat.le_trans Zn (Keep.of_wr W644).1
  have Kp := Kp.wr W644 (Or.inr b_b640)
  have A_b640 : Arv Z h644 b640 k640 .char 9 [.int 99, (.int (nar .char (111 : Int32))), .int 0, .int 0, .int 0, .int 0, .int 0, .int 0, .int 0] (.int 0) := Arv.set Ar643 q643 S643 Nn643 H643 G643 (fits_nar_char _) W644 1 rfl (Nat.le_of_ble_eq_true rfl)
  refine own_k T644 76 [.ref b640] st644 ?_
  rw [show nar .char (111 : Int32) = (111 : Int32) from (by decide)] at A_b640
  refine o_dup 77 X644 hx (hb hby d14_76) rfl rfl ?_
  refine o_iconst 78 2 X644 hx (hb hby d14_77) rfl rfl ?_
  refine o_bipush 80 110 X644 hx (hb hby d14_78) rfl rfl ?_
  obtain ⟨cl645, Ar645, q645, S645, Nn645, H645, G645⟩ := id A_b640
  obtain ⟨T646, h646, X646, e646, W646, st646⟩ := stC X644 hx hZ e644 Ar645 (j := (2 : Int32)) (inb_of S645 ⟨by decide, by decide⟩) (g := (mkF mM 80 #[.val (.int 2)] [.int 110, .int 2, .ref b640, .ref b640])) rfl rfl (hb hby d14_80)
  have N646 := Fr.snoc X646 N644 g_b640
  have Zn := Nat.le_trans Zn (Keep.of_wr W646).1
  have Kp := Kp.wr W646 (Or.inr b_b640)
  have A_b640 : Arv Z h646 b640 k640 .char 9 [.int 99, .int 111, (.int (nar .char (110 : Int32))), .int 0, .int 0, .int 0, .int 0, .int 0, .int 0] (.int 0) := Arv.set Ar645 q645 S645 Nn645 H645 G645 (fits_nar_char _) W646 2 rfl (Nat.le_of_ble_eq_true rfl)
  refine own_k T646 81 [.ref b640] st646 ?_
  rw [show nar .char (110 : Int32) = (110 : Int32) from (by decide)] at A_b640
  refine o_dup 82 X646 hx (hb hby d14_81) rfl rfl ?_
  refine o_iconst 83 3 X646 hx (hb hby d14_82) rfl rfl ?_
  refine o_bipush 85 99 X646 hx (hb hby d14_83) rfl rfl ?_
  obtain ⟨cl647, Ar647, q647, S647, Nn647, H647, G647⟩ := id A_b640
  obtain ⟨T648, h648, X648, e648, W648, st648⟩ := stC X646 hx hZ e646 Ar647 (j := (3 : Int32)) (inb_of S647 ⟨by decide, by decide⟩) (g := (mkF mM 85 #[.val (.int 2)] [.int 99, .int 3, .ref b640, .ref b640])) rfl rfl (hb hby d14_85)
  have N648 := Fr.snoc X648 N646 g_b640
  have Zn := Nat.le_trans Zn (Keep.of_wr W648).1
  have Kp := Kp.wr W648 (Or.inr b_b640)
  have A_b640 : Arv Z h648 b640 k640 .char 9 [.int 99, .int 111, .int 110, (.int (nar .char (99 : Int32))), .int 0, .int 0, .int 0, .int 0, .int 0] (.int 0) := Arv.set Ar647 q647 S647 Nn647 H647 G647 (fits_nar_char _) W648 3 rfl (Nat.le_of_ble_eq_true rfl)
  refine own_k T648 86 [.ref b640] st648 ?_
  rw [show nar .char (99 : Int32) = (99 : Int32) from (by decide)] at A_b640
  refine o_dup 87 X648 hx (hb hby d14_86) rfl rfl ?_
  refine o_iconst 88 4 X648 hx (hb hby d14_87) rfl rfl ?_
  refine o_bipush 90 117 X648 hx (hb hby d14_88) rfl rfl ?_
  obtain ⟨cl649, Ar649, q649, S649, Nn649, H649, G649⟩ := id A_b640
  obtain ⟨T650, h650, X650, e650, W650, st650⟩ := stC X648 hx hZ e648 Ar649 (j := (4 : Int32)) (inb_of S649 ⟨by decide, by decide⟩) (g := (mkF mM 90 #[.val (.int 2)] [.int 117, .int 4, .ref b640, .ref b640])) rfl rfl (hb hby d14_90)
  have N650 := Fr.snoc X650 N648 g_b640
  have Zn := Nat.le_trans Zn (Keep.of_wr W650).1
  have Kp := Kp.wr W650 (Or.inr b_b640)
  have A_b640 : Arv Z h650 b640 k640 .char 9 [.int 99, .int 111, .int 110, .int 99, (.int (nar .char (117 : Int32))), .int 0, .int 0, .int 0, .int 0] (.int 0) := Arv.set Ar649 q649 S649 Nn649 H649 G649 (fits_nar_char _) W650 4 rfl (Nat.le_of_ble_eq_true rfl)
  refine own_k T650 91 [.ref b640] st650 ?_
  rw [show nar .char (117 : Int32) = (117 : Int32) from (by decide)] at A_b640
  refine o_dup 92 X650 hx (hb hby d14_91) rfl rfl ?_
  refine o_iconst 93 5 X650 hx (hb hby d14_92) rfl rfl ?_
  refine o_bipush 95 114 X650 hx (hb hby d14_93) rfl rfl ?_
  obtain ⟨cl651, Ar651, q651, S651, Nn651, H651, G651⟩ := id A_b640
  obtain ⟨T652, h652, X652, e652, W652, st652⟩ := stC X650 hx hZ e650 Ar651 (j := (5 : Int32)) (inb_of S651 ⟨by decide, by decide⟩) (g := (mkF mM 95 #[.val (.int 2)] [.int 114, .int 5, .ref b640, .ref b640])) rfl rfl (hb hby d14_95)
  have N652 := Fr.snoc X652 N650 g_b640
  have Zn := Nat.le_trans Zn (Keep.of_wr W652).1
  have Kp := Kp.wr W652 (Or.inr b_b640)
  have A_b640 : Arv Z h652 b640 k640 .char 9 [.int 99, .int 111, .int 110, .int 99, .int 117, (.int (nar .char (114 : Int32))), .int 0, .int 0, .int 0] (.int 0) := Arv.set Ar651 q651 S651 Nn651 H651 G651 (fits_nar_char _) W652 5 rfl (Nat.le_of_ble_eq_true rfl)
  refine own_k T652 96 [.ref b640] st652 ?_
  rw [show nar .char (114 : Int32) = (114 : Int32) from (by decide)] at A_b640
  refine o_dup 97 X652 hx (hb hby d14_96) rfl rfl ?_
  refine o_bipush 99 6 X652 hx (hb hby d14_97) rfl rfl ?_
  refine o_bipush 101 114 X652 hx (hb hby d14_99) rfl rfl ?_
  obtain ⟨cl653, Ar653, q653, S653, Nn653, H653, G653⟩ := id A_b640
  obtain ⟨T654, h654, X654, e654, W654, st654⟩ := stC X652 hx hZ e652 Ar653 (j := (6 : Int32)) (inb_of S653 ⟨by decide, by decide⟩) (g := (mkF mM 101 #[.val (.int 2)] [.int 114, .int 6, .ref b640, .ref b640])) rfl rfl (hb hby d14_101)
  have N654 := Fr.snoc X654 N652 g_b640
  have Zn := Nat.le_trans Zn (Keep.of_wr W654).1
  have Kp := Kp.wr W654 (Or.inr b_b640)
  have A_b640 : Arv Z h654 b640 k640 .char 9 [.int 99, .int 111, .int 110, .int 99, .int 117, .int 114, (.int (nar .char (114 : Int32))), .int 0, .int 0] (.int 0) := Arv.set Ar653 q653 S653 Nn653 H653 G653 (fits_nar_char _) W654 6 rfl (Nat.le_of_ble_eq_true rfl)
  refine own_k T654 102 [.ref b640] st654 ?_
  rw [show nar .char (114 : Int32) = (114 : Int32) from (by decide)] at A_b640
  refine o_dup 103 X654 hx (hb hby d14_102) rfl rfl ?_
  refine o_bipush 105 7 X654 hx (hb hby d14_103) rfl rfl ?_
  refine o_bipush 107 101 X654 hx (hb hby d14_105) rfl rfl ?_
  obtain ⟨cl655, Ar655, q655, S655, Nn655, H655, G655⟩ := id A_b640
  obtain ⟨T656, h656, X656, e656, W656, st656⟩ := stC X654 hx hZ e654 Ar655 (j := (7 : Int32)) (inb_of S655 ⟨by decide, by decide⟩) (g := (mkF mM 107 #[.val (.int 2)] [.int 101, .int 7, .ref b640, .ref b640])) rfl rfl (hb hby d14_107)
  have N656 := Fr.snoc X656 N654 g_b640
  have Zn := Nat.le_trans Zn (Keep.of_wr W656).1
  have Kp := Kp.wr W656 (Or.inr b_b640)
  have A_b640 : Arv Z h656 b640 k640 .char 9 [.int 99, .int 111, .int 110, .int 99, .int 117, .int 114, .int 114, (.int (nar .char (101 : Int32))), .int 0] (.int 0) := Arv.set Ar655 q655 S655 Nn655 H655 G655 (fits_nar_char _) W656 7 rfl (Nat.le_of_ble_eq_true rfl)
  refine own_k T656 108 [.ref b640] st656 ?_
  rw [show nar .char (101 : Int32) = (101 : Int32) from (by decide)] at A_b640
  refine o_dup 109 X656 hx (hb hby d14_108) rfl rfl ?_
  refine o_bipush 111 8 X656 hx (hb hby d14_109) rfl rfl ?_
  refine o_bipush 113 110 X656 hx (hb hby d14_111) rfl rfl ?_
  obtain ⟨cl657, Ar657, q657, S657, Nn657, H657, G657⟩ := id A_b640
  obtain ⟨T658, h658, X658, e658, W658, st658⟩ := stC X656 hx hZ e656 Ar657 (j := (8 : Int32)) (inb_of S657 ⟨by decide, by decide⟩) (g := (mkF mM 113 #[.val (.int 2)] [.int 110, .int 8, .ref b640, .ref b640])) rfl rfl (hb hby d14_113)
  have N658 := Fr.snoc X658 N656 g_b640
  have Zn := Nat.le_trans Zn (Keep.of_wr W658).1
  have Kp := Kp.wr W658 (Or.inr b_b640)
  have A_b640 : Arv Z h658 b640 k640 .char 9 [.int 99, .int 111, .int 110, .int 99, .int 117, .int 114, .int 114, .int 101, (.int (nar .char (110 : Int32)))] (.int 0) := Arv.set Ar657 q657 S657 Nn657 H657 G657 (fits_nar_char _) W658 8 rfl (Nat.le_of_ble_eq_true rfl)
  refine own_k T658 114 [.ref b640] st658 ?_
  rw [show nar .char (110 : Int32) = (110 : Int32) from (by decide)] at A_b640
  exact own_retA X658 hx hlk hret rfl rfl (hb hby d14_114) (by rw [e658]; exact ⟨_, _, rfl, N658, own_ext_of_keep Kp, A_b640, b_b640⟩) (by decide) (by decide)
theorem J24_2 {vmV : Vm} (hw : own_tb a0 Z) (X0 : Stand pP lL eE room_1 (sS.setVm vmV) mM args below meth cC T0 locs 0 0) (hx : pP.tables.exec = Jvm.exec) (hZ : Z.Warmed39 (sS.setVm vmV).vm) (hby : cC.code = code) (hml : cC.maxLocals = 8) (hown : (sS.setVm vmV).vm.findClass "com/example/slotwright/slotwright/model/LinkTypeOfKeyPinLaw" = some mM.cls) (hlk : meth.locks = false) (hret : meth.sig.returnType = ret) {kV : Nat} (hS : sS.Since vmV kV) (hk : kV ≤ h0.size) (e0 : T0.heap = h0) (N0 : Fr n0 locs) (u0 : Int32) (u1 : Int32) (u2 : Int32) (mo : Int32) (xc : Int32) (cs : Int32) (a1 : Addr) (a2 : Addr) (a3 : Addr) (t : Addr) (cl : Cell) (y1 : Addr) (y2 : Addr) (y3 : Addr) (Zn : n0 ≤ h0.size) (O : Old Z n0 h0) (S_cs : Sta Z Z.heap "java/lang/String" "COMPACT_STRINGS" "Z" (.int cs)) (hcs : ¬ cs = (0 : Int32)) (hcw : Jvm.Lit.compactW.before a0 Z = true) (hh39 : Jvm.Lit.constHeld Z "com/example/slotwright/slotwright/model/LinkTypeOfKeyPinLaw" 39) (hh49 : Jvm.Lit.constHeld Z "com/example/slotwright/slotwright/model/LinkTypeOfKeyPinLaw" 49) (hh54 : Jvm.Lit.constHeld Z "com/example/slotwright/slotwright/model/LinkTypeOfKeyPinLaw" 54) (hh7 : Jvm.Lit.constHeld Z "java/lang/String" 7) (S_BEFORE : Sta Z Z.heap "com/example/slotwright/slotwright/model/LinkType" "BEFORE" "Lcom/example/slotwright/slotwright/model/LinkType;" (.ref a1)) (S_MEETS : Sta Z Z.heap "com/example/slotwright/slotwright/model/LinkType" "MEETS" "Lcom/example/slotwright/slotwright/model/LinkType;" (.ref a2)) (S_CONCURRENT : Sta Z Z.heap "com/example/slotwright/slotwright/model/LinkType" "CONCURRENT" "Lcom/example/slotwright/slotwright/model/LinkType;" (.ref a3)) (S_V : Sta Z Z.heap "com/example/slotwright/slotwright/model/LinkType" "$VALUES" "[Lcom/example/slotwright/slotwright/model/LinkType;" (.ref t)) (Ar : Arr Z Z.heap t cl (.object "com/example/slotwright/slotwright/model/LinkType")) (Ex : Exa Z Z.heap t "[Lcom/example/slotwright/slotwright/model/LinkType;") (FC : FitC Z cl) (sz : cl.slots.size = (3 : Int32).toNatClampNeg) (el0 : cl.slots[(0 : Int32).toNatClampNeg]? = some (.ref a1)) (el1 : cl.slots[(1 : Int32).toNatClampNeg]? = some (.ref a2)) (el2 : cl.slots[(2 : Int32).toNatClampNeg]? = some (.ref a3)) (Fk1 : Fld Z Z.heap a1 "com/example/slotwright/slotwright/model/LinkType" "key" "Ljava/lang/String;" (.ref y1)) (Fk2 : Fld Z Z.heap a2 "com/example/slotwright/slotwright/model/LinkType" "key" "Ljava/lang/String;" (.ref y2)) (Fk3 : Fld Z Z.heap a3 "com/example/slotwright/slotwright/model/LinkType" "key" "Ljava/lang/String;" (.ref y3)) (SX1 : StrX Z Z.heap y1 bB) (SX2 : StrX Z Z.heap y2 bM) (SX3 : StrX Z Z.heap y3 bC) (cxc : Ck xc) (hI : IB Z vmV []) :
    own_GoW pP eE below sS (QLaw n0) 24 4288 (T0.setTop (mkF mM 24 #[.val (.int u0), .val (.int u1), .val (.int u2), .val (.int mo), .val (.int 2), .val (.int xc), .unset, .unset] [])) := by
  refine o_iloadNW 25 X0 hx (hb hby at_24) rfl rfl ?_
  by_cases hc25_659 : mo = (0 : Int32)
  · skip
    refine o_ifNoW 28 X0 hx (hb hby at_25) ((if0 _ _).trans (teq hc25_659).2) rfl ?_
    obtain ⟨T660, h660, X660, e660, E660, A660, D660, -, st660⟩ := newO X0 hx hZ hown (ow hw 1 rfl) (ow hw 2 rfl) (ow hw 3 rfl) e0 (g := (mkF mM 28 #[.val (.int u0), .val (.int u1), .val (.int u2), .val (.int mo), .val (.int 2), .val (.int xc), .unset, .unset] [])) rfl (hb hby at_28) (by decide) (by decide)
    obtain ⟨b660, g660⟩ : ∃ z, z = h0.size := ⟨_, rfl⟩
    rw [← g660] at A660 D660 st660
    have g_b660 : n0 ≤ b660 := Nat.le_trans Zn (Nat.le_of_eq g660.symm)
    have O := O.ext E660
    have hk := Nat.le_trans hk E660.1
    have Zn := Nat.le_trans Zn E660.1
    have E_b660 := A660
    have F_b660_coder : Fld Z h660 b660 "java/lang/String" "coder" "B" (.int 0) := D660 (Or.inr (ow hw 32 rfl)) (ty := .byte) (by decide)
    have F_b660_value : Fld Z h660 b660 "java/lang/String" "value" "[B" .null := D660 (Or.inr (ow hw 34 rfl)) (ty := (.array .byte)) (by decide)
    refine own_kW T660 31 [.ref b660] st660 ?_
    refine o_dupW 32 X660 hx (hb hby at_31) rfl rfl ?_
    refine o_iloadW 34 X660 hx (hb hby at_32) rfl rfl ?_
    obtain ⟨_, _, ⟨T661, L661, k661, n661⟩, -, X661, ⟨Lc661, hQ661, l661, y661, z661⟩, st661⟩ := Jvm.LawKit.callS X660 hx (y := yn15) hown (mvT hZ (ow hw 4 rfl)) (mvT hZ (ow hw 5 rfl)) (mvT hZ (ow hw 6 rfl)) (mvT hZ (ow hw 7 rfl)) (by decide) (backOf (W := 2) (rm_keyChars2 lL Z a0 hw []  h660 n0 Zn) hZ (ow hw 7 rfl) (ow hw 6 rfl) (by decide) (by decide)) (g := (mkF mM 34 #[.val (.int u0), .val (.int u1), .val (.int u2), .val (.int mo), .val (.int 2), .val (.int xc), .unset, .unset] [.int 2, .ref b660, .ref b660])) rfl (by rw [hml]; rfl) (argsL := [.int 2]) (rest := [.ref b660, .ref b660]) (lenOf pd__28I_29_5bC rfl) rfl (by show 2 * 0 + _ ≤ _; exact Nat.le_of_eq rfl) (hb hby at_34) (fun _ _ => ⟨rfl, e660, (by decide : 1 + 1 ≤ _), (by decide : 4 + 10 ≤ _)⟩)
    dsimp only [Pt.U, Pt.locs, Pt.cells, Pt.slots] at X661 l661 y661 z661 st661 hQ661
    subst l661 y661 z661
    obtain ⟨b661, k661', rfl, N661q, E661, V661, ge661⟩ := hQ661
    have N661 := Fr.app N0 N661q
    have e661 : T661.heap = T661.heap := rfl
    refine own_kW T661 37 [.ref b661, .ref b660, .ref b660] st661 ?_
    have ne_b660_b661 : b660 ≠ b661 := Nat.ne_of_lt (Nat.lt_of_lt_of_le E_b660.lt ge661)
    have g_b661 : n0 ≤ b661 := Nat.le_trans Zn ge661
    have F_b660_coder := F_b660_coder.ext E661
    have F_b660_value := F_b660_value.ext E661
    have E_b660 := E_b660.ext E661
    have O := O.ext E661
    have hk := Nat.le_trans hk E661.1
    have Zn := Nat.le_trans Zn E661.1
    have A_b661 := V661
    obtain ⟨_, _, ⟨T662, L662, k662, n662⟩, -, X662, ⟨Lc662, hQ662, l662, y662, z662⟩, st662⟩ := X661.specialBack hx (y := yn9) rfl hown (mvT hZ (ow hw 9 rfl)) (mvT hZ (ow hw 10 rfl)) (mvT hZ (ow hw 11 rfl)) (by decide) (backOf (W := 1) (rmS1_10 lL Z a0 hw [] b660 b661 k661' cs ((99 : Int32)) ((111 : Int32)) ((110 : Int32)) ((99 : Int32)) ((117 : Int32)) ((114 : Int32)) ((114 : Int32)) ((101 : Int32)) ((110 : Int32)) ((116 : Int32)) T661.heap n0 g_b660 E_b660 F_b660_value F_b660_coder A_b661 (Ne.symm ne_b660_b661) O Zn S_cs hcs (⟨by decide, by decide, by decide⟩ : Ck _) (⟨by decide, by decide, by decide⟩ : Ck _) (⟨by decide, by decide, by decide⟩ : Ck _) (⟨by decide, by decide, by decide⟩ : Ck _) (⟨by decide, by decide, by decide⟩ : Ck _) (⟨by decide, by decide, by decide⟩ : Ck _) (⟨by decide, by decide, by decide⟩ : Ck _) (⟨by decide, by decide, by decide⟩ : Ck _) (⟨by decide, by decide, by decide⟩ : Ck _) (⟨by decide, by decide, by decide⟩ : Ck _)) hZ (ow hw 11 rfl) (ow hw 3 rfl) (by decide) (by decide)) (g := (mkF mM 37 #[.val (.int u0), .val (.int u1), .val (.int u2), .val (.int mo), .val (.int 2), .val (.int xc), .unset, .unset] [.ref b661, .ref b660, .ref b660])) rfl (by rw [hml]; rfl) (Steps.refl _) (a := b660) (argsL := [.ref b661]) (rest := [.ref b660]) (lenOf pd__28_5bC_29V rfl) rfl (by show 2 * 0 + _ ≤ _; exact Nat.le_of_eq rfl) (hb hby at_37) (fun _ _ => ⟨rfl, e661, (by decide : 2 + 1 ≤ _), (by decide : 14 + 10 ≤ _)⟩)
    dsimp only [Pt.U, Pt.locs, Pt.cells, Pt.slots] at X662 l662 y662 z662 st662 hQ662
    subst l662 y662 z662
    obtain ⟨d662, k662', rfl, N662q, K662, str662, ge662⟩ := hQ662
    have N662 := Fr.app N661 N662q
    have e662 : T662.heap = T662.heap := rfl
    refine own_kW T662 40 [.ref b660] (fun t_ k_ => st662.trans k_) ?_
    have E_b660 := E_b660.keep K662
    have A_b661 := A_b661.keep K662 (ninS (Ne.symm ne_b660_b661) nin0)
    have hk := Nat.le_trans hk K662.1
    have O := O.keep K662 (allS g_b660 all0)
    have Zn := Nat.le_trans Zn K662.1
    let Lv663 : Array Slot := #[.val (.int u0), .val (.int u1), .val (.int u2), .val (.int mo), .val (.int 2), .val (.int xc), .val (.ref b660), .unset]
    refine own_stW (A := T662.setTop (mkF mM 42 Lv663 [])) (fun t_ k_ => XS.astore X662.here hx rfl (hb hby at_40) rfl rfl (l' := Lv663) rfl k_) ?_
    refine o_gotoW 150 X662 hx (hb hby at_42) (by decide) ?_
    exact J150u hw (X662.more (by decide) (by decide)) hx hZ hby hml hown hlk hret hS hk e662 N662 u0 u1 u2 mo (2 : Int32) xc b660 [((((99 : Int32)).toInt8.toInt32)).toInt8.toInt32, ((((111 : Int32)).toInt8.toInt32)).toInt8.toInt32, ((((110 : Int32)).toInt8.toInt32)).toInt8.toInt32, ((((99 : Int32)).toInt8.toInt32)).toInt8.toInt32, ((((117 : Int32)).toInt8.toInt32)).toInt8.toInt32, ((((114 : Int32)).toInt8.toInt32)).toInt8.toInt32, ((((114 : Int32)).toInt8.toInt32)).toInt8.toInt32, ((((101 : Int32)).toInt8.toInt32)).toInt8.toInt32, ((((110 : Int32)).toInt8.toInt32)).toInt8.toInt32, ((((116 : Int32)).toInt8.toInt32)).toInt8.toInt32] cs a1 a2 a3 t cl y1 y2 y3 (⟨_, _, _, str662, rfl⟩ : StrX _ _ _ [((((99 : Int32)).toInt8.toInt32)).toInt8.toInt32, ((((111 : Int32)).toInt8.toInt32)).toInt8.toInt32, ((((110 : Int32)).toInt8.toInt32)).toInt8.toInt32, ((((99 : Int32)).toInt8.toInt32)).toInt8.toInt32, ((((117 : Int32)).toInt8.toInt32)).toInt8.toInt32, ((((114 : Int32)).toInt8.toInt32)).toInt8.toInt32, ((((114 : Int32)).toInt8.toInt32)).toInt8.toInt32, ((((101 : Int32)).toInt8.toInt32)).toInt8.toInt32, ((((110 : Int32)).toInt8.toInt32)).toInt8.toInt32, ((((116 : Int32)).toInt8.toInt32)).toInt8.toInt32]) O S_cs hcs hcw hh39 hh49 hh54 hh7 S_BEFORE S_MEETS S_CONCURRENT S_V Ar Ex FC sz el0 el1 el2 Fk1 Fk2 Fk3 SX1 SX2 SX3 (own_IBw hI (fun _ q => by cases q))
  · skip
    refine o_ifYesW 45 X0 hx (hb hby at_25) ((if0 _ _).trans (feq hc25_659).2) (by decide) ?_
    refine o_iloadNW 46 X0 hx (hb hby at_45) rfl rfl ?_
    refine o_iconstW 47 1 X0 hx (hb hby at_46) rfl rfl ?_
    by_cases hc47_664 : mo = (1 : Int32)
    · skip
      refine o_icmpNoW 50 X0 hx (hb hby at_47) (teq hc47_664).2 rfl ?_
      refine o_iloadW 52 X0 hx (hb hby at_50) rfl rfl ?_
      obtain ⟨_, _, ⟨T665, L665, k665, n665⟩, -, X665, ⟨Lc665, hQ665, l665, y665, z665⟩, st665⟩ := Jvm.LawKit.callS X0 hx (y := yn15) hown (mvT hZ (ow hw 4 rfl)) (mvT hZ (ow hw 5 rfl)) (mvT hZ (ow hw 6 rfl)) (mvT hZ (ow hw 7 rfl)) (by decide) (backOf (W := 0) (rm_keyChars2 lL Z a0 hw []  h0 n0 Zn) hZ (ow hw 7 rfl) (ow hw 6 rfl) (by decide) (by decide)) (g := (mkF mM 52 #[.val (.int u0), .val (.int u1), .val (.int u2), .val (.int mo), .val (.int 2), .val (.int xc), .unset, .unset] [.int 2])) rfl (by rw [hml]; rfl) (argsL := [.int 2]) (rest := []) (lenOf pd__28I_29_5bC rfl) rfl (by show 2 * 0 + _ ≤ _; exact Nat.le_of_eq rfl) (hb hby at_52) (fun _ _ => ⟨rfl, e0, (by decide : 0 + 1 ≤ _), (by decide : 0 + 10 ≤ _)⟩)
      dsimp only [Pt.U, Pt.locs, Pt.cells, Pt.slots] at X665 l665 y665 z665 st665 hQ665
      subst l665 y665 z665
      obtain ⟨b665, k665', rfl, N665q, E665, V665, ge665⟩ := hQ665
      have N665 := Fr.app N0 N665q
      have e665 : T665.heap = T665.heap := rfl
      refine own_kW T665 55 [.ref b665] st665 ?_
      have g_b665 : n0 ≤ b665 := Nat.le_trans Zn ge665
      have O := O.ext E665
      have hk := Nat.le_trans hk E665.1
      have Zn := Nat.le_trans Zn E665.1
      have A_b665 := V665
      let Lv666 : Array Slot := #[.val (.int u0), .val (.int u1), .val (.int u2), .val (.int mo), .val (.int 2), .val (.int xc), .unset, .val (.ref b665)]
      refine own_stW (A := T665.setTop (mkF mM 57 Lv666 [])) (fun t_ k_ => XS.astore X665.here hx rfl (hb hby at_55) rfl rfl (l' := Lv666) rfl k_) ?_
      refine o_aloadW 59 X665 hx (hb hby at_57) rfl rfl rfl ?_
      refine o_iloadNW 60 X665 hx (hb hby at_59) rfl rfl ?_
      refine own_jW 62 [.int 2147483647, .int u1, .ref b665] (fun t_ k_ => X665.ldcInt hx hown (mvT hZ (ow hw 0 rfl)) (g := (mkF mM 60 Lv666 [.int u1, .ref b665])) rfl (hb hby at_60) t_ k_) ?_
      refine own_jW 63 [(.int (u1 &&& (2147483647 : Int32))), .ref b665] (fun t_ k_ => XS.iand X665.here hx rfl (hb hby at_62) rfl k_) ?_
      refine o_aloadW 65 X665 hx (hb hby at_63) rfl rfl rfl ?_
      obtain ⟨cl667, Ar667, q667, S667, Nn667, H667, G667⟩ := id A_b665
      refine own_jW 66 [.int 10, (.int (u1 &&& (2147483647 : Int32))), .ref b665] (fun t_ k_ => X665.arraylength hx (by rw [e665]; exact Ar667.1) (State.isArrayOf_alike hZ.alike Ar667.2.1) (g := (mkF mM 65 Lv666 [.ref b665, (.int (u1 &&& (2147483647 : Int32))), .ref b665])) rfl rfl (hb hby at_65) t_ (by rw [len_of S667 Nn667]; exact k_)) ?_
      refine own_jW 67 [(.int ((u1 &&& (2147483647 : Int32)) % (10 : Int32))), .ref b665] (fun t_ k_ => iremM X665 hx rfl (hb hby at_66) rfl (by decide) k_) ?_
      refine o_iloadW 69 X665 hx (hb hby at_67) rfl rfl ?_
      rcases own_mod10 u1 with q668 | q668 | q668 | q668 | q668 | q668 | q668 | q668 | q668 | q668
      · rw [q668]
        exact J69_2_0 hw X665 hx hZ hby hml hown hlk hret hS hk e665 N665 u0 u1 u2 mo 2 xc b665 k665' cs a1 a2 a3 t cl y1 y2 y3 A_b665 g_b665 Zn O S_cs hcs hcw hh39 hh49 hh54 hh7 S_BEFORE S_MEETS S_CONCURRENT S_V Ar Ex FC sz el0 el1 el2 Fk1 Fk2 Fk3 SX1 SX2 SX3 cxc hI
      · rw [q668]
        exact J69_2_1 hw X665 hx hZ hby hml hown hlk hret hS hk e665 N665 u0 u1 u2 mo 2 xc b665 k665' cs a1 a2 a3 t cl y1 y2 y3 A_b665 g_b665 Zn O S_cs hcs hcw hh39 hh49 hh54 hh7 S_BEFORE S_MEETS S_CONCURRENT S_V Ar Ex FC sz el0 el1 el2 Fk1 Fk2 Fk3 SX1 SX2 SX3 cxc hI
      · rw [q668]
        exact J69_2_2 hw X665 hx hZ hby hml hown hlk hret hS hk e665 N665 u0 u1 u2 mo 2 xc b665 k665' cs a1 a2 a3 t cl y1 y2 y3 A_b665 g_b665 Zn O S_cs hcs hcw hh39 hh49 hh54 hh7 S_BEFORE S_MEETS S_CONCURRENT S_V Ar Ex FC sz el0 el1 el2 Fk1 Fk2 Fk3 SX1 SX2 SX3 cxc hI
      · rw [q668]
        exact J69_2_3 hw X665 hx hZ hby hml hown hlk hret hS hk e665 N665 u0 u1 u2 mo 2 xc b665 k665' cs a1 a2 a3 t cl y1 y2 y3 A_b665 g_b665 Zn O S_cs hcs hcw hh39 hh49 hh54 hh7 S_BEFORE S_MEETS S_CONCURRENT S_V Ar Ex FC sz el0 el1 el2 Fk1 Fk2 Fk3 SX1 SX2 SX3 cxc hI
      · rw [q668]
        exact J69_2_4 hw X665 hx hZ hby hml hown hlk hret hS hk e665 N665 u0 u1 u2 mo 2 xc b665 k665' cs a1 a2 a3 t cl y1 y2 y3 A_b665 g_b665 Zn O S_cs hcs hcw hh39 hh49 hh54 hh7 S_BEFORE S_MEETS S_CONCURRENT S_V Ar Ex FC sz el0 el1 el2 Fk1 Fk2 Fk3 SX1 SX2 SX3 cxc hI
      · rw [q668]
        exact J69_2_5 hw X665 hx hZ hby hml hown hlk hret hS hk e665 N665 u0 u1 u2 mo 2 xc b665 k665' cs a1 a2 a3 t cl y1 y2 y3 A_b665 g_b665 Zn O S_cs hcs hcw hh39 hh49 hh54 hh7 S_BEFORE S_MEETS S_CONCURRENT S_V Ar Ex FC sz el0 el1 el2 Fk1 Fk2 Fk3 SX1 SX2 SX3 cxc hI
      · rw [q668]
        exact J69_2_6 hw X665 hx hZ hby hml hown hlk hret hS hk e665 N665 u0 u1 u2 mo 2 xc b665 k665' cs a1 a2 a3 t cl y1 y2 y3 A_b665 g_b665 Zn O S_cs hcs hcw hh39 hh49 hh54 hh7 S_BEFORE S_MEETS S_CONCURRENT S_V Ar Ex FC sz el0 el1 el2 Fk1 Fk2 Fk3 SX1 SX2 SX3 cxc hI
      · rw [q668]
        exact J69_2_7 hw X665 hx hZ hby hml hown hlk hret hS hk e665 N665 u0 u1 u2 mo 2 xc b665 k665' cs a1 a2 a3 t cl y1 y2 y3 A_b665 g_b665 Zn O S_cs hcs hcw hh39 hh49 hh54 hh7 S_BEFORE S_MEETS S_CONCURRENT S_V Ar Ex FC sz el0 el1 el2 Fk1 Fk2 Fk3 SX1 SX2 SX3 cxc hI
      · rw [q668]
        exact J69_2_8 hw X665 hx hZ hby hml hown hlk hret hS hk e665 N665 u0 u1 u2 mo 2 xc b665 k665' cs a1 a2 a3 t cl y1 y2 y3 A_b665 g_b665 Zn O S_cs hcs hcw hh39 hh49 hh54 hh7 S_BEFORE S_MEETS S_CONCURRENT S_V Ar Ex FC sz el0 el1 el2 Fk1 Fk2 Fk3 SX1 SX2 SX3 cxc hI
      · rw [q668]
        exact J69_2_9 hw X665 hx hZ hby hml hown hlk hret hS hk e665 N665 u0 u1 u2 mo 2 xc b665 k665' cs a1 a2 a3 t cl y1 y2 y3 A_b665 g_b665 Zn O S_cs hcs hcw hh39 hh49 hh54 hh7 S_BEFORE S_MEETS S_CONCURRENT S_V Ar Ex FC sz el0 el1 el2 Fk1 Fk2 Fk3 SX1 SX2 SX3 cxc hI
    · skip
      refine o_icmpYesW 84 X0 hx (hb hby at_47) (feq hc47_664).2 (by decide) ?_
      refine o_iloadNW 85 X0 hx (hb hby at_84) rfl rfl ?_
      refine o_iconstW 86 2 X0 hx (hb hby at_85) rfl rfl ?_
      by_cases hc86_669 : mo = (2 : Int32)
      · skip
        refine o_icmpNoW 89 X0 hx (hb hby at_86) (teq hc86_669).2 rfl ?_
        obtain ⟨T670, h670, X670, e670, E670, A670, D670, -, st670⟩ := newO X0 hx hZ hown (ow hw 1 rfl) (ow hw 2 rfl) (ow hw 3 rfl) e0 (g := (mkF mM 89 #[.val (.int u0), .val (.int u1), .val (.int u2), .val (.int mo), .val (.int 2), .val (.int xc), .unset, .unset] [])) rfl (hb hby at_89) (by decide) (by decide)
        obtain ⟨b670, g670⟩ : ∃ z, z = h0.size := ⟨_, rfl⟩
        rw [← g670] at A670 D670 st670
        have g_b670 : n0 ≤ b670 := Nat.le_trans Zn (Nat.le_of_eq g670.symm)
        have O := O.ext E670
        have hk := Nat.le_trans hk E670.1
        have Zn := Nat.le_trans Zn E670.1
        have E_b670 := A670
        have F_b670_coder : Fld Z h670 b670 "java/lang/String" "coder" "B" (.int 0) := D670 (Or.inr (ow hw 32 rfl)) (ty := .byte) (by decide)
        have F_b670_value : Fld Z h670 b670 "java/lang/String" "value" "[B" .null := D670 (Or.inr (ow hw 34 rfl)) (ty := (.array .byte)) (by decide)
        refine own_kW T670 92 [.ref b670] st670 ?_
        refine o_dupW 93 X670 hx (hb hby at_92) rfl rfl ?_
        refine o_iloadW 95 X670 hx (hb hby at_93) rfl rfl ?_
        refine o_iloadW 97 X670 hx (hb hby at_95) rfl rfl ?_
        obtain ⟨_, _, ⟨T671, L671, k671, n671⟩, -, X671, ⟨Lc671, hQ671, l671, y671, z671⟩, st671⟩ := Jvm.LawKit.callS X670 hx (y := yn16) hown (mvT hZ (ow hw 79 rfl)) (mvT hZ (ow hw 80 rfl)) (mvT hZ (ow hw 6 rfl)) (mvT hZ (ow hw 81 rfl)) (by decide) (backOf (W := 2) (rm_extended2 lL Z a0 hw [] xc h670 n0 Zn cxc) hZ (ow hw 81 rfl) (ow hw 6 rfl) (by decide) (by decide)) (g := (mkF mM 97 #[.val (.int u0), .val (.int u1), .val (.int u2), .val (.int mo), .val (.int 2), .val (.int xc), .unset, .unset] [.int xc, .int 2, .ref b670, .ref b670])) rfl (by rw [hml]; rfl) (argsL := [.int 2, .int xc]) (rest := [.ref b670, .ref b670]) (lenOf pd__28IC_29_5bC rfl) rfl (by show 2 * 0 + _ ≤ _; exact Nat.le_of_eq rfl) (hb hby at_97) (fun _ _ => ⟨rfl, e670, (by decide : 1 + 1 ≤ _), (by decide : 4 + 11 ≤ _)⟩)
        dsimp only [Pt.U, Pt.locs, Pt.cells, Pt.slots] at X671 l671 y671 z671 st671 hQ671
        subst l671 y671 z671
        obtain ⟨b671, k671', rfl, N671q, E671, V671, ge671⟩ := hQ671
        have N671 := Fr.app N0 N671q
        have e671 : T671.heap = T671.heap := rfl
        refine own_kW T671 100 [.ref b671, .ref b670, .ref b670] st671 ?_
        have ne_b670_b671 : b670 ≠ b671 := Nat.ne_of_lt (Nat.lt_of_lt_of_le E_b670.lt ge671)
        have g_b671 : n0 ≤ b671 := Nat.le_trans Zn ge671
        have F_b670_coder := F_b670_coder.ext E671
        have F_b670_value := F_b670_value.ext E671
        have E_b670 := E_b670.ext E671
        have O := O.ext E671
        have hk := Nat.le_trans hk E671.1
        have Zn := Nat.le_trans Zn E671.1
        have A_b671 := V671
        obtain ⟨_, _, ⟨T672, L672, k672, n672⟩, -, X672, ⟨Lc672, hQ672, l672, y672, z672⟩, st672⟩ := X671.specialBack hx (y := yn9) rfl hown (mvT hZ (ow hw 9 rfl)) (mvT hZ (ow hw 10 rfl)) (mvT hZ (ow hw 11 rfl)) (by decide) (backOf (W := 1) (rmS1_11 lL Z a0 hw [] b670 b671 k671' cs ((99 : Int32)) ((111 : Int32)) ((110 : Int32)) ((99 : Int32)) ((117 : Int32)) ((114 : Int32)) ((114 : Int32)) ((101 : Int32)) ((110 : Int32)) ((116 : Int32)) (xc) T671.heap n0 g_b670 E_b670 F_b670_value F_b670_coder A_b671 (Ne.symm ne_b670_b671) O Zn S_cs hcs (⟨by decide, by decide, by decide⟩ : Ck _) (⟨by decide, by decide, by decide⟩ : Ck _) (⟨by decide, by decide, by decide⟩ : Ck _) (⟨by decide, by decide, by decide⟩ : Ck _) (⟨by decide, by decide, by decide⟩ : Ck _) (⟨by decide, by decide, by decide⟩ : Ck _) (⟨by decide, by decide, by decide⟩ : Ck _) (⟨by decide, by decide, by decide⟩ : Ck _) (⟨by decide, by decide, by decide⟩ : Ck _) (⟨by decide, by decide, by decide⟩ : Ck _) cxc) hZ (ow hw 11 rfl) (ow hw 3 rfl) (by decide) (by decide)) (g := (mkF mM 100 #[.val (.int u0), .val (.int u1), .val (.int u2), .val (.int mo), .val (.int 2), .val (.int xc), .unset, .unset] [.ref b671, .ref b670, .ref b670])) rfl (by rw [hml]; rfl) (Steps.refl _) (a := b670) (argsL := [.ref b671]) (rest := [.ref b670]) (lenOf pd__28_5bC_29V rfl) rfl (by show 2 * 0 + _ ≤ _; exact Nat.le_of_eq rfl) (hb hby at_100) (fun _ _ => ⟨rfl, e671, (by decide : 2 + 1 ≤ _), (by decide : 15 + 11 ≤ _)⟩)
        dsimp only [Pt.U, Pt.locs, Pt.cells, Pt.slots] at X672 l672 y672 z672 st672 hQ672
        subst l672 y672 z672
        obtain ⟨d672, k672', rfl, N672q, K672, str672, ge672⟩ := hQ672
        have N672 := Fr.app N671 N672q
        have e672 : T672.heap = T672.heap := rfl
        refine own_kW T672 103 [.ref b670] (fun t_ k_ => st672.trans k_) ?_
        have E_b670 := E_b670.keep K672
        have A_b671 := A_b671.keep K672 (ninS (Ne.symm ne_b670_b671) nin0)
        have hk := Nat.le_trans hk K672.1
        have O := O.keep K672 (allS g_b670 all0)
        have Zn := Nat.le_trans Zn K672.1
        let Lv673 : Array Slot := #[.val (.int u0), .val (.int u1), .val (.int u2), .val (.int mo), .val (.int 2), .val (.int xc), .val (.ref b670), .unset]
        refine own_stW (A := T672.setTop (mkF mM 105 Lv673 [])) (fun t_ k_ => XS.astore X672.here hx rfl (hb hby at_103) rfl rfl (l' := Lv673) rfl k_) ?_
        refine o_gotoW 150 X672 hx (hb hby at_105) (by decide) ?_
        exact J150u hw (X672.more (by decide) (by decide)) hx hZ hby hml hown hlk hret hS hk e672 N672 u0 u1 u2 mo (2 : Int32) xc b670 [((((99 : Int32)).toInt8.toInt32)).toInt8.toInt32, ((((111 : Int32)).toInt8.toInt32)).toInt8.toInt32, ((((110 : Int32)).toInt8.toInt32)).toInt8.toInt32, ((((99 : Int32)).toInt8.toInt32)).toInt8.toInt32, ((((117 : Int32)).toInt8.toInt32)).toInt8.toInt32, ((((114 : Int32)).toInt8.toInt32)).toInt8.toInt32, ((((114 : Int32)).toInt8.toInt32)).toInt8.toInt32, ((((101 : Int32)).toInt8.toInt32)).toInt8.toInt32, ((((110 : Int32)).toInt8.toInt32)).toInt8.toInt32, ((((116 : Int32)).toInt8.toInt32)).toInt8.toInt32, (((xc).toInt8.toInt32)).toInt8.toInt32] cs a1 a2 a3 t cl y1 y2 y3 (⟨_, _, _, str672, rfl⟩ : StrX _ _ _ [((((99 : Int32)).toInt8.toInt32)).toInt8.toInt32, ((((111 : Int32)).toInt8.toInt32)).toInt8.toInt32, ((((110 : Int32)).toInt8.toInt32)).toInt8.toInt32, ((((99 : Int32)).toInt8.toInt32)).toInt8.toInt32, ((((117 : Int32)).toInt8.toInt32)).toInt8.toInt32, ((((114 : Int32)).toInt8.toInt32)).toInt8.toInt32, ((((114 : Int32)).toInt8.toInt32)).toInt8.toInt32, ((((101 : Int32)).toInt8.toInt32)).toInt8.toInt32, ((((110 : Int32)).toInt8.toInt32)).toInt8.toInt32, ((((116 : Int32)).toInt8.toInt32)).toInt8.toInt32, (((xc).toInt8.toInt32)).toInt8.toInt32]) O S_cs hcs hcw hh39 hh49 hh54 hh7 S_BEFORE S_MEETS S_CONCURRENT S_V Ar Ex FC sz el0 el1 el2 Fk1 Fk2 Fk3 SX1 SX2 SX3 (own_IBw hI (fun _ q => by cases q))
      · skip
        refine o_icmpYesW 108 X0 hx (hb hby at_86) (feq hc86_669).2 (by decide) ?_
        refine o_iloadNW 109 X0 hx (hb hby at_108) rfl rfl ?_
        refine o_iconstW 110 3 X0 hx (hb hby at_109) rfl rfl ?_
        by_cases hc110_674 : mo = (3 : Int32)
        · skip
          refine o_icmpNoW 113 X0 hx (hb hby at_110) (teq hc110_674).2 rfl ?_
          obtain ⟨T675, h675, X675, e675, E675, A675, D675, -, st675⟩ := newO X0 hx hZ hown (ow hw 1 rfl) (ow hw 2 rfl) (ow hw 3 rfl) e0 (g := (mkF mM 113 #[.val (.int u0), .val (.int u1), .val (.int u2), .val (.int mo), .val (.int 2), .val (.int xc), .unset, .unset] [])) rfl (hb hby at_113) (by decide) (by decide)
          obtain ⟨b675, g675⟩ : ∃ z, z = h0.size := ⟨_, rfl⟩
          rw [← g675] at A675 D675 st675
          have g_b675 : n0 ≤ b675 := Nat.le_trans Zn (Nat.le_of_eq g675.symm)
          have O := O.ext E675
          have hk := Nat.le_trans hk E675.1
          have Zn := Nat.le_trans Zn E675.1
          have E_b675 := A675
          have F_b675_coder : Fld Z h675 b675 "java/lang/String" "coder" "B" (.int 0) := D675 (Or.inr (ow hw 32 rfl)) (ty := .byte) (by decide)
          have F_b675_value : Fld Z h675 b675 "java/lang/String" "value" "[B" .null := D675 (Or.inr (ow hw 34 rfl)) (ty := (.array .byte)) (by decide)
          refine own_kW T675 116 [.ref b675] st675 ?_
          refine o_dupW 117 X675 hx (hb hby at_116) rfl rfl ?_
          refine o_iloadW 119 X675 hx (hb hby at_117) rfl rfl ?_
          obtain ⟨_, _, ⟨T676, L676, k676, n676⟩, -, X676, ⟨Lc676, hQ676, l676, y676, z676⟩, st676⟩ := Jvm.LawKit.callS X675 hx (y := yn17) hown (mvT hZ (ow hw 82 rfl)) (mvT hZ (ow hw 83 rfl)) (mvT hZ (ow hw 6 rfl)) (mvT hZ (ow hw 84 rfl)) (by decide) (backOf (W := 2) (rm_truncated2 lL Z a0 hw []  h675 n0 Zn) hZ (ow hw 84 rfl) (ow hw 6 rfl) (by decide) (by decide)) (g := (mkF mM 119 #[.val (.int u0), .val (.int u1), .val (.int u2), .val (.int mo), .val (.int 2), .val (.int xc), .unset, .unset] [.int 2, .ref b675, .ref b675])) rfl (by rw [hml]; rfl) (argsL := [.int 2]) (rest := [.ref b675, .ref b675]) (lenOf pd__28I_29_5bC rfl) rfl (by show 2 * 0 + _ ≤ _; exact Nat.le_of_eq rfl) (hb hby at_119) (fun _ _ => ⟨rfl, e675, (by decide : 1 + 1 ≤ _), (by decide : 4 + 9 ≤ _)⟩)
          dsimp only [Pt.U, Pt.locs, Pt.cells, Pt.slots] at X676 l676 y676 z676 st676 hQ676
          subst l676 y676 z676
          obtain ⟨b676, k676', rfl, N676q, E676, V676, ge676⟩ := hQ676
          have N676 := Fr.app N0 N676q
          have e676 : T676.heap = T676.heap := rfl
          refine own_kW T676 122 [.ref b676, .ref b675, .ref b675] st676 ?_
          have ne_b675_b676 : b675 ≠ b676 := Nat.ne_of_lt (Nat.lt_of_lt_of_le E_b675.lt ge676)
          have g_b676 : n0 ≤ b676 := Nat.le_trans Zn ge676
          have F_b675_coder := F_b675_coder.ext E676
          have F_b675_value := F_b675_value.ext E676
          have E_b675 := E_b675.ext E676
          have O := O.ext E676
          have hk := Nat.le_trans hk E676.1
          have Zn := Nat.le_trans Zn E676.1
          have A_b676 := V676
          obtain ⟨_, _, ⟨T677, L677, k677, n677⟩, -, X677, ⟨Lc677, hQ677, l677, y677, z677⟩, st677⟩ := X676.specialBack hx (y := yn9) rfl hown (mvT hZ (ow hw 9 rfl)) (mvT hZ (ow hw 10 rfl)) (mvT hZ (ow hw 11 rfl)) (by decide) (backOf (W := 1) (rmS1_9 lL Z a0 hw [] b675 b676 k676' cs ((99 : Int32)) ((111 : Int32)) ((110 : Int32)) ((99 : Int32)) ((117 : Int32)) ((114 : Int32)) ((114 : Int32)) ((101 : Int32)) ((110 : Int32)) T676.heap n0 g_b675 E_b675 F_b675_value F_b675_coder A_b676 (Ne.symm ne_b675_b676) O Zn S_cs hcs (⟨by decide, by decide, by decide⟩ : Ck _) (⟨by decide, by decide, by decide⟩ : Ck _) (⟨by decide, by decide, by decide⟩ : Ck _) (⟨by decide, by decide, by decide⟩ : Ck _) (⟨by decide, by decide, by decide⟩ : Ck _) (⟨by decide, by decide, by decide⟩ : Ck _) (⟨by decide, by decide, by decide⟩ : Ck _) (⟨by decide, by decide, by decide⟩ : Ck _) (⟨by decide, by decide, by decide⟩ : Ck _)) hZ (ow hw 11 rfl) (ow hw 3 rfl) (by decide) (by decide)) (g := (mkF mM 122 #[.val (.int u0), .val (.int u1), .val (.int u2), .val (.int mo), .val (.int 2), .val (.int xc), .unset, .unset] [.ref b676, .ref b675, .ref b675])) rfl (by rw [hml]; rfl) (Steps.refl _) (a := b675) (argsL := [.ref b676]) (rest := [.ref b675]) (lenOf pd__28_5bC_29V rfl) rfl (by show 2 * 0 + _ ≤ _; exact Nat.le_of_eq rfl) (hb hby at_122) (fun _ _ => ⟨rfl, e676, (by decide : 2 + 1 ≤ _), (by decide : 13 + 9 ≤ _)⟩)
          dsimp only [Pt.U, Pt.locs, Pt.cells, Pt.slots] at X677 l677 y677 z677 st677 hQ677
          subst l677 y677 z677
          obtain ⟨d677, k677', rfl, N677q, K677, str677, ge677⟩ := hQ677
          have N677 := Fr.app N676 N677q
          have e677 : T677.heap = T677.heap := rfl
          refine own_kW T677 125 [.ref b675] (fun t_ k_ => st677.trans k_) ?_
          have E_b675 := E_b675.keep K677
          have A_b676 := A_b676.keep K677 (ninS (Ne.symm ne_b675_b676) nin0)
          have hk := Nat.le_trans hk K677.1
          have O := O.keep K677 (allS g_b675 all0)
          have Zn := Nat.le_trans Zn K677.1
          let Lv678 : Array Slot := #[.val (.int u0), .val (.int u1), .val (.int u2), .val (.int mo), .val (.int 2), .val (.int xc), .val (.ref b675), .unset]
          refine own_stW (A := T677.setTop (mkF mM 127 Lv678 [])) (fun t_ k_ => XS.astore X677.here hx rfl (hb hby at_125) rfl rfl (l' := Lv678) rfl k_) ?_
          refine o_gotoW 150 X677 hx (hb hby at_127) (by decide) ?_
          exact J150u hw (X677.more (by decide) (by decide)) hx hZ hby hml hown hlk hret hS hk e677 N677 u0 u1 u2 mo (2 : Int32) xc b675 [((((99 : Int32)).toInt8.toInt32)).toInt8.toInt32, ((((111 : Int32)).toInt8.toInt32)).toInt8.toInt32, ((((110 : Int32)).toInt8.toInt32)).toInt8.toInt32, ((((99 : Int32)).toInt8.toInt32)).toInt8.toInt32, ((((117 : Int32)).toInt8.toInt32)).toInt8.toInt32, ((((114 : Int32)).toInt8.toInt32)).toInt8.toInt32, ((((114 : Int32)).toInt8.toInt32)).toInt8.toInt32, ((((101 : Int32)).toInt8.toInt32)).toInt8.toInt32, ((((110 : Int32)).toInt8.toInt32)).toInt8.toInt32] cs a1 a2 a3 t cl y1 y2 y3 (⟨_, _, _, str677, rfl⟩ : StrX _ _ _ [((((99 : Int32)).toInt8.toInt32)).toInt8.toInt32, ((((111 : Int32)).toInt8.toInt32)).toInt8.toInt32, ((((110 : Int32)).toInt8.toInt32)).toInt8.toInt32, ((((99 : Int32)).toInt8.toInt32)).toInt8.toInt32, ((((117 : Int32)).toInt8.toInt32)).toInt8.toInt32, ((((114 : Int32)).toInt8.toInt32)).toInt8.toInt32, ((((114 : Int32)).toInt8.toInt32)).toInt8.toInt32, ((((101 : Int32)).toInt8.toInt32)).toInt8.toInt32, ((((110 : Int32)).toInt8.toInt32)).toInt8.toInt32]) O S_cs hcs hcw hh39 hh49 hh54 hh7 S_BEFORE S_MEETS S_CONCURRENT S_V Ar Ex FC sz el0 el1 el2 Fk1 Fk2 Fk3 SX1 SX2 SX3 (own_IBw hI (fun _ q => by cases q))
        · skip
          refine o_icmpYesW 130 X0 hx (hb hby at_110) (feq hc110_674).2 (by decide) ?_
          refine o_iloadNW 131 X0 hx (hb hby at_130) rfl rfl ?_
          refine o_iconstW 132 4 X0 hx (hb hby at_131) rfl rfl ?_
          by_cases hc132_679 : mo = (4 : Int32)
          · skip
            refine o_icmpNoW 135 X0 hx (hb hby at_132) (teq hc132_679).2 rfl ?_
            refine o_iloadNW 136 X0 hx (hb hby at_135) rfl rfl ?_
            refine o_iconstW 137 3 X0 hx (hb hby at_136) rfl rfl ?_
            refine own_jW 138 [(.int (u1 &&& (3 : Int32)))] (fun t_ k_ => XS.iand X0.here hx rfl (hb hby at_137) rfl k_) ?_
            refine o_iloadNW 139 X0 hx (hb hby at_138) rfl rfl ?_
            rcases own_and3 u1 with q680 | q680 | q680 | q680
            · rw [q680]
              exact J139_0 hw X0 hx hZ hby hml hown hlk hret hS hk e0 N0 u0 u1 u2 mo (2 : Int32) xc cs a1 a2 a3 t cl y1 y2 y3 Zn O S_cs hcs hcw hh39 hh49 hh54 hh7 S_BEFORE S_MEETS S_CONCURRENT S_V Ar Ex FC sz el0 el1 el2 Fk1 Fk2 Fk3 SX1 SX2 SX3 cxc hI
            · rw [q680]
              exact J139_1 hw X0 hx hZ hby hml hown hlk hret hS hk e0 N0 u0 u1 u2 mo (2 : Int32) xc cs a1 a2 a3 t cl y1 y2 y3 Zn O S_cs hcs hcw hh39 hh49 hh54 hh7 S_BEFORE S_MEETS S_CONCURRENT S_V Ar Ex FC sz el0 el1 el2 Fk1 Fk2 Fk3 SX1 SX2 SX3 cxc hI
            · rw [q680]
              exact J139_2 hw X0 hx hZ hby hml hown hlk hret hS hk e0 N0 u0 u1 u2 mo (2 : Int32) xc cs a1 a2 a3 t cl y1 y2 y3 Zn O S_cs hcs hcw hh39 hh49 hh54 hh7 S_BEFORE S_MEETS S_CONCURRENT S_V Ar Ex FC sz el0 el1 el2 Fk1 Fk2 Fk3 SX1 SX2 SX3 cxc hI
            · rw [q680]
              exact J139_3 hw X0 hx hZ hby hml hown hlk hret hS hk e0 N0 u0 u1 u2 mo (2 : Int32) xc cs a1 a2 a3 t cl y1 y2 y3 Zn O S_cs hcs hcw hh39 hh49 hh54 hh7 S_BEFORE S_MEETS S_CONCURRENT S_V Ar Ex FC sz el0 el1 el2 Fk1 Fk2 Fk3 SX1 SX2 SX3 cxc hI
          · skip
            refine o_icmpYesW 147 X0 hx (hb hby at_132) (feq hc132_679).2 (by decide) ?_
            refine own_jW 148 [.null] (fun t_ k_ => XS.aconstNull X0.here hx rfl (hb hby at_147) k_) ?_
            let Lv681 : Array Slot := #[.val (.int u0), .val (.int u1), .val (.int u2), .val (.int mo), .val (.int 2), .val (.int xc), .val .null, .unset]
            refine own_stW (A := T0.setTop (mkF mM 150 Lv681 [])) (fun t_ k_ => XS.astore X0.here hx rfl (hb hby at_148) rfl rfl (l' := Lv681) rfl k_) ?_
            exact J150n hw (X0.more (by decide) (by decide)) hx hZ hby hml hown hlk hret hS hk e0 N0 u0 u1 u2 mo (2 : Int32) xc cs a1 a2 a3 t cl y1 y2 y3 O S_cs hcs hcw hh39 hh49 hh54 hh7 S_BEFORE S_MEETS S_CONCURRENT S_V Ar Ex FC sz el0 el1 el2 Fk1 Fk2 Fk3 SX1 SX2 SX3
theorem J14_0 {vmV : Vm} (hw : own_tb a0 Z) (X0 : Stand pP lL eE room_1 (sS.setVm vmV) mM args below meth cC T0 locs 0 0) (hx : pP.tables.exec = Jvm.exec) (hZ : Z.Warmed39 (sS.setVm vmV).vm) (hby : cC.code = code) (hml : cC.maxLocals = 8) (hown : (sS.setVm vmV).vm.findClass "com/example/slotwright/slotwright/model/LinkTypeOfKeyPinLaw" = some mM.cls) (hlk : meth.locks = false) (hret : meth.sig.returnType = ret) {kV : Nat} (hS : sS.Since vmV kV) (hk : kV ≤ h0.size) (e0 : T0.heap = h0) (N0 : Fr n0 locs) (u0 : Int32) (u1 : Int32) (u2 : Int32) (mo : Int32) (cs : Int32) (a1 : Addr) (a2 : Addr) (a3 : Addr) (t : Addr) (cl : Cell) (y1 : Addr) (y2 : Addr) (y3 : Addr) (Zn : n0 ≤ h0.size) (O : Old Z n0 h0) (S_cs : Sta Z Z.heap "java/lang/String" "COMPACT_STRINGS" "Z" (.int cs)) (hcs : ¬ cs = (0 : Int32)) (hcw : Jvm.Lit.compactW.before a0 Z = true) (hh39 : Jvm.Lit.constHeld Z "com/example/slotwright/slotwright/model/LinkTypeOfKeyPinLaw" 39) (hh49 : Jvm.Lit.constHeld Z "com/example/slotwright/slotwright/model/LinkTypeOfKeyPinLaw" 49) (hh54 : Jvm.Lit.constHeld Z "com/example/slotwright/slotwright/model/LinkTypeOfKeyPinLaw" 54) (hh7 : Jvm.Lit.constHeld Z "java/lang/String" 7) (S_BEFORE : Sta Z Z.heap "com/example/slotwright/slotwright/model/LinkType" "BEFORE" "Lcom/example/slotwright/slotwright/model/LinkType;" (.ref a1)) (S_MEETS : Sta Z Z.heap "com/example/slotwright/slotwright/model/LinkType" "MEETS" "Lcom/example/slotwright/slotwright/model/LinkType;" (.ref a2)) (S_CONCURRENT : Sta Z Z.heap "com/example/slotwright/slotwright/model/LinkType" "CONCURRENT" "Lcom/example/slotwright/slotwright/model/LinkType;" (.ref a3)) (S_V : Sta Z Z.heap "com/example/slotwright/slotwright/model/LinkType" "$VALUES" "[Lcom/example/slotwright/slotwright/model/LinkType;" (.ref t)) (Ar : Arr Z Z.heap t cl (.object "com/example/slotwright/slotwright/model/LinkType")) (Ex : Exa Z Z.heap t "[Lcom/example/slotwright/slotwright/model/LinkType;") (FC : FitC Z cl) (sz : cl.slots.size = (3 : Int32).toNatClampNeg) (el0 : cl.slots[(0 : Int32).toNatClampNeg]? = some (.ref a1)) (el1 : cl.slots[(1 : Int32).toNatClampNeg]? = some (.ref a2)) (el2 : cl.slots[(2 : Int32).toNatClampNeg]? = some (.ref a3)) (Fk1 : Fld Z Z.heap a1 "com/example/slotwright/slotwright/model/LinkType" "key" "Ljava/lang/String;" (.ref y1)) (Fk2 : Fld Z Z.heap a2 "com/example/slotwright/slotwright/model/LinkType" "key" "Ljava/lang/String;" (.ref y2)) (Fk3 : Fld Z Z.heap a3 "com/example/slotwright/slotwright/model/LinkType" "key" "Ljava/lang/String;" (.ref y3)) (SX1 : StrX Z Z.heap y1 bB) (SX2 : StrX Z Z.heap y2 bM) (SX3 : StrX Z Z.heap y3 bC) (hI : IB Z vmV []) :
    own_GoW pP eE below sS (QLaw n0) 24 4288 (T0.setTop (mkF mM 14 #[.val (.int u0), .val (.int u1), .val (.int u2), .val (.int mo), .unset, .unset, .unset, .unset] [.int 0])) := by
  let Lv682 : Array Slot := #[.val (.int u0), .val (.int u1), .val (.int u2), .val (.int mo), .val (.int 0), .unset, .unset, .unset]
  refine own_stW (A := T0.setTop (mkF mM 16 Lv682 [])) (fun t_ k_ => XS.istore X0.here hx rfl (hb hby at_14) rfl (l' := Lv682) rfl k_) ?_
  refine o_iloadNW 17 X0 hx (hb hby at_16) rfl rfl ?_
  refine o_sipushW 20 255 X0 hx (hb hby at_17) rfl rfl ?_
  refine own_jW 21 [(.int (u2 &&& (255 : Int32)))] (fun t_ k_ => XS.iand X0.here hx rfl (hb hby at_20) rfl k_) ?_
  refine own_jW 22 [(.int (((u2 &&& (255 : Int32))).toUInt32.toUInt16.toUInt32.toInt32))] (fun t_ k_ => XS.i2c X0.here hx rfl (hb hby at_21) rfl k_) ?_
  let Lv683 : Array Slot := #[.val (.int u0), .val (.int u1), .val (.int u2), .val (.int mo), .val (.int 0), .val (.int (((u2 &&& (255 : Int32))).toUInt32.toUInt16.toUInt32.toInt32)), .unset, .unset]
  refine own_stW (A := T0.setTop (mkF mM 24 Lv683 [])) (fun t_ k_ => XS.istore X0.here hx rfl (hb hby at_22) rfl (l' := Lv683) rfl k_) ?_
  exact J24_0 hw X0 hx hZ hby hml hown hlk hret hS hk e0 N0 u0 u1 u2 mo _ cs a1 a2 a3 t cl y1 y2 y3 Zn O S_cs hcs hcw hh39 hh49 hh54 hh7 S_BEFORE S_MEETS S_CONCURRENT S_V Ar Ex FC sz el0 el1 el2 Fk1 Fk2 Fk3 SX1 SX2 SX3 (own_Ck _) hI
theorem J14_1 {vmV : Vm} (hw : own_tb a0 Z) (X0 : Stand pP lL eE room_1 (sS.setVm vmV) mM args below meth cC T0 locs 0 0) (hx : pP.tables.exec = Jvm.exec) (hZ : Z.Warmed39 (sS.setVm vmV).vm) (hby : cC.code = code) (hml : cC.maxLocals = 8) (hown : (sS.setVm vmV).vm.findClass "com/example/slotwright/slotwright/model/LinkTypeOfKeyPinLaw" = some mM.cls) (hlk : meth.locks = false) (hret : meth.sig.returnType = ret) {kV : Nat} (hS : sS.Since vmV kV) (hk : kV ≤ h0.size) (e0 : T0.heap = h0) (N0 : Fr n0 locs) (u0 : Int32) (u1 : Int32) (u2 : Int32) (mo : Int32) (cs : Int32) (a1 : Addr) (a2 : Addr) (a3 : Addr) (t : Addr) (cl : Cell) (y1 : Addr) (y2 : Addr) (y3 : Addr) (Zn : n0 ≤ h0.size) (O : Old Z n0 h0) (S_cs : Sta Z Z.heap "java/lang/String" "COMPACT_STRINGS" "Z" (.int cs)) (hcs : ¬ cs = (0 : Int32)) (hcw : Jvm.Lit.compactW.before a0 Z = true) (hh39 : Jvm.Lit.constHeld Z "com/example/slotwright/slotwright/model/LinkTypeOfKeyPinLaw" 39) (hh49 : Jvm.Lit.constHeld Z "com/example/slotwright/slotwright/model/LinkTypeOfKeyPinLaw" 49) (hh54 : Jvm.Lit.constHeld Z "com/example/slotwright/slotwright/model/LinkTypeOfKeyPinLaw" 54) (hh7 : Jvm.Lit.constHeld Z "java/lang/String" 7) (S_BEFORE : Sta Z Z.heap "com/example/slotwright/slotwright/model/LinkType" "BEFORE" "Lcom/example/slotwright/slotwright/model/LinkType;" (.ref a1)) (S_MEETS : Sta Z Z.heap "com/example/slotwright/slotwright/model/LinkType" "MEETS" "Lcom/example/slotwright/slotwright/model/LinkType;" (.ref a2)) (S_CONCURRENT : Sta Z Z.heap "com/example/slotwright/slotwright/model/LinkType" "CONCURRENT" "Lcom/example/slotwright/slotwright/model/LinkType;" (.ref a3)) (S_V : Sta Z Z.heap "com/example/slotwright/slotwright/model/LinkType" "$VALUES" "[Lcom/example/slotwright/slotwright/model/LinkType;" (.ref t)) (Ar : Arr Z Z.heap t cl (.object "com/example/slotwright/slotwright/model/LinkType")) (Ex : Exa Z Z.heap t "[Lcom/example/slotwright/slotwright/model/LinkType;") (FC : FitC Z cl) (sz : cl.slots.size = (3 : Int32).toNatClampNeg) (el0 : cl.slots[(0 : Int32).toNatClampNeg]? = some (.ref a1)) (el1 : cl.slots[(1 : Int32).toNatClampNeg]? = some (.ref a2)) (el2 : cl.slots[(2 : Int32).toNatClampNeg]? = some (.ref a3)) (Fk1 : Fld Z Z.heap a1 "com/example/slotwright/slotwright/model/LinkType" "key" "Ljava/lang/String;" (.ref y1)) (Fk2 : Fld Z Z.heap a2 "com/example/slotwright/slotwright/model/LinkType" "key" "Ljava/lang/String;" (.ref y2)) (Fk3 : Fld Z Z.heap a3 "com/example/slotwright/slotwright/model/LinkType" "key" "Ljava/lang/String;" (.ref y3)) (SX1 : StrX Z Z.heap y1 bB) (SX2 : StrX Z Z.heap y2 bM) (SX3 : StrX Z Z.heap y3 bC) (hI : IB Z vmV []) :
    own_GoW pP eE below sS (QLaw n0) 24 4288 (T0.setTop (mkF mM 14 #[.val (.int u0), .val (.int u1), .val (.int u2), .val (.int mo), .unset, .unset, .unset, .unset] [.int 1])) := by
  let Lv684 : Array Slot := #[.val (.int u0), .val (.int u1), .val (.int u2), .val (.int mo), .val (.int 1), .unset, .unset, .unset]
  refine own_stW (A := T0.setTop (mkF mM 16 Lv684 [])) (fun t_ k_ => XS.istore X0.here hx rfl (hb hby at_14) rfl (l' := Lv684) rfl k_) ?_
  refine o_iloadNW 17 X0 hx (hb hby at_16) rfl rfl ?_
  refine o_sipushW 20 255 X0 hx (hb hby at_17) rfl rfl ?_
  refine own_jW 21 [(.int (u2 &&& (255 : Int32)))] (fun t_ k_ => XS.iand X0.here hx rfl (hb hby at_20) rfl k_) ?_
  refine own_jW 22 [(.int (((u2 &&& (255 : Int32))).toUInt32.toUInt16.toUInt32.toInt32))] (fun t_ k_ => XS.i2c X0.here hx rfl (hb hby at_21) rfl k_) ?_
  let Lv685 : Array Slot := #[.val (.int u0), .val (.int u1), .val (.int u2), .val (.int mo), .val (.int 1), .val (.int (((u2 &&& (255 : Int32))).toUInt32.toUInt16.toUInt32.toInt32)), .unset, .unset]
  refine own_stW (A := T0.setTop (mkF mM 24 Lv685 [])) (fun t_ k_ => XS.istore X0.here hx rfl (hb hby at_22) rfl (l' := Lv685) rfl k_) ?_
  exact J24_1 hw X0 hx hZ hby hml hown hlk hret hS hk e0 N0 u0 u1 u2 mo _ cs a1 a2 a3 t cl y1 y2 y3 Zn O S_cs hcs hcw hh39 hh49 hh54 hh7 S_BEFORE S_MEETS S_CONCURRENT S_V Ar Ex FC sz el0 el1 el2 Fk1 Fk2 Fk3 SX1 SX2 SX3 (own_Ck _) hI
theorem J14_2 {vmV : Vm} (hw : own_tb a0 Z) (X0 : Stand pP lL eE room_1 (sS.setVm vmV) mM args below meth cC T0 locs 0 0) (hx : pP.tables.exec = Jvm.exec) (hZ : Z.Warmed39 (sS.setVm vmV).vm) (hby : cC.code = code) (hml : cC.maxLocals = 8) (hown : (sS.setVm vmV).vm.findClass "com/example/slotwright/slotwright/model/LinkTypeOfKeyPinLaw" = some mM.cls) (hlk : meth.locks = false) (hret : meth.sig.returnType = ret) {kV : Nat} (hS : sS.Since vmV kV) (hk : kV ≤ h0.size) (e0 : T0.heap = h0) (N0 : Fr n0 locs) (u0 : Int32) (u1 : Int32) (u2 : Int32) (mo : Int32) (cs : Int32) (a1 : Addr) (a2 : Addr) (a3 : Addr) (t : Addr) (cl : Cell) (y1 : Addr) (y2 : Addr) (y3 : Addr) (Zn : n0 ≤ h0.size) (O : Old Z n0 h0) (S_cs : Sta Z Z.heap "java/lang/String" "COMPACT_STRINGS" "Z" (.int cs)) (hcs : ¬ cs = (0 : Int32)) (hcw : Jvm.Lit.compactW.before a0 Z = true) (hh39 : Jvm.Lit.constHeld Z "com/example/slotwright/slotwright/model/LinkTypeOfKeyPinLaw" 39) (hh49 : Jvm.Lit.constHeld Z "com/example/slotwright/slotwright/model/LinkTypeOfKeyPinLaw" 49) (hh54 : Jvm.Lit.constHeld Z "com/example/slotwright/slotwright/model/LinkTypeOfKeyPinLaw" 54) (hh7 : Jvm.Lit.constHeld Z "java/lang/String" 7) (S_BEFORE : Sta Z Z.heap "com/example/slotwright/slotwright/model/LinkType" "BEFORE" "Lcom/example/slotwright/slotwright/model/LinkType;" (.ref a1)) (S_MEETS : Sta Z Z.heap "com/example/slotwright/slotwright/model/LinkType" "MEETS" "Lcom/example/slotwright/slotwright/model/LinkType;" (.ref a2)) (S_CONCURRENT : Sta Z Z.heap "com/example/slotwright/slotwright/model/LinkType" "CONCURRENT" "Lcom/example/slotwright/slotwright/model/LinkType;" (.ref a3)) (S_V : Sta Z Z.heap "com/example/slotwright/slotwright/model/LinkType" "$VALUES" "[Lcom/example/slotwright/slotwright/model/LinkType;" (.ref t)) (Ar : Arr Z Z.heap t cl (.object "com/example/slotwright/slotwright/model/LinkType")) (Ex : Exa Z Z.heap t "[Lcom/example/slotwright/slotwright/model/LinkType;") (FC : FitC Z cl) (sz : cl.slots.size = (3 : Int32).toNatClampNeg) (el0 : cl.slots[(0 : Int32).toNatClampNeg]? = some (.ref a1)) (el1 : cl.slots[(1 : Int32).toNatClampNeg]? = some (.ref a2)) (el2 : cl.slots[(2 : Int32).toNatClampNeg]? = some (.ref a3)) (Fk1 : Fld Z Z.heap a1 "com/example/slotwright/slotwright/model/LinkType" "key" "Ljava/lang/String;" (.ref y1)) (Fk2 : Fld Z Z.heap a2 "com/example/slotwright/slotwright/model/LinkType" "key" "Ljava/lang/String;" (.ref y2)) (Fk3 : Fld Z Z.heap a3 "com/example/slotwright/slotwright/model/LinkType" "key" "Ljava/lang/String;" (.ref y3)) (SX1 : StrX Z Z.heap y1 bB) (SX2 : StrX Z Z.heap y2 bM) (SX3 : StrX Z Z.heap y3 bC) (hI : IB Z vmV []) :
    own_GoW pP eE below sS (QLaw n0) 24 4288 (T0.setTop (mkF mM 14 #[.val (.int u0), .val (.int u1), .val (.int u2), .val (.int mo), .unset, .unset, .unset, .unset] [.int 2])) := by
  let Lv686 : Array Slot := #[.val (.int u0), .val (.int u1), .val (.int u2), .val (.int mo), .val (.int 2), .unset, .unset, .unset]
  refine own_stW (A := T0.setTop (mkF mM 16 Lv686 [])) (fun t_ k_ => XS.istore X0.here hx rfl (hb hby at_14) rfl (l' := Lv686) rfl k_) ?_
  refine o_iloadNW 17 X0 hx (hb hby at_16) rfl rfl ?_
  refine o_sipushW 20 255 X0 hx (hb hby at_17) rfl rfl ?_
  refine own_jW 21 [(.int (u2 &&& (255 : Int32)))] (fun t_ k_ => XS.iand X0.here hx rfl (hb hby at_20) rfl k_) ?_
  refine own_jW 22 [(.int (((u2 &&& (255 : Int32))).toUInt32.toUInt16.toUInt32.toInt32))] (fun t_ k_ => XS.i2c X0.here hx rfl (hb hby at_21) rfl k_) ?_
  let Lv687 : Array Slot := #[.val (.int u0), .val (.int u1), .val (.int u2), .val (.int mo), .val (.int 2), .val (.int (((u2 &&& (255 : Int32))).toUInt32.toUInt16.toUInt32.toInt32)), .unset, .unset]
  refine own_stW (A := T0.setTop (mkF mM 24 Lv687 [])) (fun t_ k_ => XS.istore X0.here hx rfl (hb hby at_22) rfl (l' := Lv687) rfl k_) ?_
  exact J24_2 hw X0 hx hZ hby hml hown hlk hret hS hk e0 N0 u0 u1 u2 mo _ cs a1 a2 a3 t cl y1 y2 y3 Zn O S_cs hcs hcw hh39 hh49 hh54 hh7 S_BEFORE S_MEETS S_CONCURRENT S_V Ar Ex FC sz el0 el1 el2 Fk1 Fk2 Fk3 SX1 SX2 SX3 (own_Ck _) hI
theorem ef_rm0 (mM : MethodId) (u0 : Int32) (u1 : Int32) (u2 : Int32) (cs : Int32) (a1 : Addr) (a2 : Addr) (a3 : Addr) (t : Addr) (cl : Cell) (y1 : Addr) (y2 : Addr) (y3 : Addr) : entryFrame mM #[.int u0, .int u1, .int u2] maxLocals = mkF mM 0 #[.val (.int u0), .val (.int u1), .val (.int u2), .unset, .unset, .unset, .unset, .unset] [] := by first | (simp [entryFrame, mkF, argsToLocals, Value.category, maxLocals]; done) | rfl
theorem rm0 (lL : Launch) (Z : State) (a0 : Array Value) (hw : own_tb a0 Z) (ws : List Jvm.Cond) (u0 : Int32) (u1 : Int32) (u2 : Int32) (cs : Int32) (a1 : Addr) (a2 : Addr) (a3 : Addr) (t : Addr) (cl : Cell) (y1 : Addr) (y2 : Addr) (y3 : Addr) (h0 : Heap) (n0 : Nat) (Zn : n0 ≤ h0.size) (O : Old Z n0 h0) (S_cs : Sta Z Z.heap "java/lang/String" "COMPACT_STRINGS" "Z" (.int cs)) (hcs : ¬ cs = (0 : Int32)) (hcw : Jvm.Lit.compactW.before a0 Z = true) (hh39 : Jvm.Lit.constHeld Z "com/example/slotwright/slotwright/model/LinkTypeOfKeyPinLaw" 39) (hh49 : Jvm.Lit.constHeld Z "com/example/slotwright/slotwright/model/LinkTypeOfKeyPinLaw" 49) (hh54 : Jvm.Lit.constHeld Z "com/example/slotwright/slotwright/model/LinkTypeOfKeyPinLaw" 54) (hh7 : Jvm.Lit.constHeld Z "java/lang/String" 7) (S_BEFORE : Sta Z Z.heap "com/example/slotwright/slotwright/model/LinkType" "BEFORE" "Lcom/example/slotwright/slotwright/model/LinkType;" (.ref a1)) (S_MEETS : Sta Z Z.heap "com/example/slotwright/slotwright/model/LinkType" "MEETS" "Lcom/example/slotwright/slotwright/model/LinkType;" (.ref a2)) (S_CONCURRENT : Sta Z Z.heap "com/example/slotwright/slotwright/model/LinkType" "CONCURRENT" "Lcom/example/slotwright/slotwright/model/LinkType;" (.ref a3)) (S_V : Sta Z Z.heap "com/example/slotwright/slotwright/model/LinkType" "$VALUES" "[Lcom/example/slotwright/slotwright/model/LinkType;" (.ref t)) (Ar : Arr Z Z.heap t cl (.object "com/example/slotwright/slotwright/model/LinkType")) (Ex : Exa Z Z.heap t "[Lcom/example/slotwright/slotwright/model/LinkType;") (FC : FitC Z cl) (sz : cl.slots.size = (3 : Int32).toNatClampNeg) (el0 : cl.slots[(0 : Int32).toNatClampNeg]? = some (.ref a1)) (el1 : cl.slots[(1 : Int32).toNatClampNeg]? = some (.ref a2)) (el2 : cl.slots[(2 : Int32).toNatClampNeg]? = some (.ref a3)) (Fk1 : Fld Z Z.heap a1 "com/example/slotwright/slotwright/model/LinkType" "key" "Ljava/lang/String;" (.ref y1)) (Fk2 : Fld Z Z.heap a2 "com/example/slotwright/slotwright/model/LinkType" "key" "Ljava/lang/String;" (.ref y2)) (Fk3 : Fld Z Z.heap a3 "com/example/slotwright/slotwright/model/LinkType" "key" "Ljava/lang/String;" (.ref y3)) (SX1 : StrX Z Z.heap y1 bB) (SX2 : StrX Z Z.heap y2 bM) (SX3 : StrX Z Z.heap y3 bC) :
    MetFree lL x (head1 (Jvm.Cond.code x code maxLocals ret :: ws) room_1) (fun as_ uU_ => as_ = #[.int u0, .int u1, .int u2] ∧ Z.Warmed39 uU_.vm ∧ uU_.heap = h0 ∧ IB Z uU_.vm []) (fun _ _ _ _ _ => True) (fun _ uU_ oO_ uE_ => ∃ vV_ lL_, oO_ = .returned vV_ ∧ (fun _ => QLaw) h0 n0 vV_ uE_.heap lL_ uE_.vm ∧ ReturnedEndW uU_ oO_ uE_ lL_ 24 4288) := by
  refine MetFree.of_bodySF (plainFor_of_name pn_com_2fexample_2fslotwright_2fslotwright_2fmodel_2fLinkTypeOfKeyPinLaw) hisR ?_
  intro pP eE sS mM args below meth cC s₁ Bd hml0 hP hK
  obtain ⟨rfl, hZ, hh, hI⟩ := hP
  have hx := Bd.exec
  have hby := Bd.bytes
  have hml : cC.maxLocals = 8 := hml0
  have hown : sS.vm.findClass "com/example/slotwright/slotwright/model/LinkTypeOfKeyPinLaw" = some mM.cls := findClass_of_methodNamed Bd.named
  have hnm := (name_of_methodNamed Bd.named Bd.method).1
  have hret := Bd.returns
  have hlk := BodyLoose.notSynchronized Bd
  have X0 : Stand pP lL eE room_1 sS mM #[.int u0, .int u1, .int u2] below meth cC s₁ [] 0 0 := Stand.of_body Bd
  have e0 : s₁.heap = h0 := by rw [← hh, Bd.state]; rfl
  have N0 := Fr.nil n0
  have X0 : Stand pP lL eE room_1 (sS.setVm sS.vm) mM #[.int u0, .int u1, .int u2] below meth cC s₁ [] 0 0 := X0
  have hZ : Z.Warmed39 (sS.setVm sS.vm).vm := hZ
  have hown : (sS.setVm sS.vm).vm.findClass "com/example/slotwright/slotwright/model/LinkTypeOfKeyPinLaw" = some mM.cls := hown
  have hS : sS.Since sS.vm 0 := (State.WarmedH.refl sS).since 0
  have hk : 0 ≤ h0.size := Nat.zero_le _
  show own_GoW pP eE below sS ((fun _ => QLaw) h0 n0) 24 4288 (s₁.setTop (entryFrame mM #[.int u0, .int u1, .int u2] maxLocals))
  refine own_stW (A := s₁.setTop (mkF mM 0 #[.val (.int u0), .val (.int u1), .val (.int u2), .unset, .unset, .unset, .unset, .unset] [])) (fun t_ k_ => castTop (ef_rm0 mM u0 u1 u2 cs a1 a2 a3 t cl y1 y2 y3) k_) ?_
  refine o_iloadNW 1 X0 hx (hb hby at_0) rfl rfl ?_
  refine own_jW 3 [.int 2147483647, .int u0] (fun t_ k_ => X0.ldcInt hx hown (mvT hZ (ow hw 0 rfl)) (g := (mkF mM 1 #[.val (.int u0), .val (.int u1), .val (.int u2), .unset, .unset, .unset, .unset, .unset] [.int u0])) rfl (hb hby at_1) t_ k_) ?_
  refine own_jW 4 [(.int (u0 &&& (2147483647 : Int32)))] (fun t_ k_ => XS.iand X0.here hx rfl (hb hby at_3) rfl k_) ?_
  refine o_bipushW 6 6 X0 hx (hb hby at_4) rfl rfl ?_
  refine own_jW 7 [(.int ((u0 &&& (2147483647 : Int32)) % (6 : Int32)))] (fun t_ k_ => iremM X0 hx rfl (hb hby at_6) rfl (by decide) k_) ?_
  let Lv688 : Array Slot := #[.val (.int u0), .val (.int u1), .val (.int u2), .val (.int ((u0 &&& (2147483647 : Int32)) % (6 : Int32))), .unset, .unset, .unset, .unset]
  refine own_stW (A := s₁.setTop (mkF mM 8 Lv688 [])) (fun t_ k_ => XS.istoreN X0.here hx rfl (hb hby at_7) rfl (l' := Lv688) rfl k_) ?_
  refine o_iloadNW 9 X0 hx (hb hby at_8) rfl rfl ?_
  refine o_bipushW 11 8 X0 hx (hb hby at_9) rfl rfl ?_
  refine own_jW 12 [(.int ((u0.toUInt32 >>> ((8 : Int32) &&& 31).toUInt32).toInt32))] (fun t_ k_ => XS.iushr X0.here hx rfl (hb hby at_11) rfl k_) ?_
  refine o_iconstW 13 3 X0 hx (hb hby at_12) rfl rfl ?_
  refine own_jW 14 [(.int (((u0.toUInt32 >>> ((8 : Int32) &&& 31).toUInt32).toInt32) % (3 : Int32)))] (fun t_ k_ => iremM X0 hx rfl (hb hby at_13) rfl (by decide) k_) ?_
  rcases own_mod3 u0 with q689 | q689 | q689
  · rw [q689]
    exact J14_0 hw X0 hx hZ hby hml hown hlk hret hS hk e0 N0 u0 u1 u2 ((u0 &&& (2147483647 : Int32)) % (6 : Int32)) cs a1 a2 a3 t cl y1 y2 y3 Zn O S_cs hcs hcw hh39 hh49 hh54 hh7 S_BEFORE S_MEETS S_CONCURRENT S_V Ar Ex FC sz el0 el1 el2 Fk1 Fk2 Fk3 SX1 SX2 SX3 hI
  · rw [q689]
    exact J14_1 hw X0 hx hZ hby hml hown hlk hret hS hk e0 N0 u0 u1 u2 ((u0 &&& (2147483647 : Int32)) % (6 : Int32)) cs a1 a2 a3 t cl y1 y2 y3 Zn O S_cs hcs hcw hh39 hh49 hh54 hh7 S_BEFORE S_MEETS S_CONCURRENT S_V Ar Ex FC sz el0 el1 el2 Fk1 Fk2 Fk3 SX1 SX2 SX3 hI
  · rw [q689]
    exact J14_2 hw X0 hx hZ hby hml hown hlk hret hS hk e0 N0 u0 u1 u2 ((u0 &&& (2147483647 : Int32)) % (6 : Int32)) cs a1 a2 a3 t cl y1 y2 y3 Zn O S_cs hcs hcw hh39 hh49 hh54 hh7 S_BEFORE S_MEETS S_CONCURRENT S_V Ar Ex FC sz el0 el1 el2 Fk1 Fk2 Fk3 SX1 SX2 SX3 hI
theorem comes_1 {Post : Tables → Env → Array Value → State → Outcome → State → Prop} (hpost : ∀ tb e args s v u, (limb_1_1.after args s (.returned v) u = true ∧ limb_1_2.after args s (.returned v) u = true ∧ True) → ReturnedEndW s (.returned v) u (Jvm.fieldLocs frame_1_writes args s ++ Jvm.arrayLocs frame_1_arrays args s ++ Jvm.staticLocs frame_1_statics s) 24 4288 → Post tb e args s (.returned v) u) :
    ArmFor flags0 classFile x code maxLocals ret World_1 tables_1 room_1 Calls_1 rest_1 Pre_1 Post := by
  intro l hfl _ _ p e ha hc hk s m args below hf hA hF happ hP
  obtain ⟨hcalls, hrest, hpre⟩ := hP
  obtain ⟨-, -, -, hnamed, -, -, -, hat⟩ := (Spec.applies_iff hf).mp happ
  obtain ⟨hg, hn⟩ := and_e (Cond.before_iff.mp (show (Jvm.Cond.and given_1 narrow_1).before args s = true from hpre))
  obtain ⟨h1, hg1⟩ := and_e hg
  obtain ⟨w0, w1, w2, rfl⟩ : ∃ w0 w1 w2 : Value, args = #[w0, w1, w2] := by
    have hs : args.size = 3 := by simpa [Cond.value, given_1] using h1
    obtain ⟨L⟩ := args
    match L, hs with
    | [w0, w1, w2], _ => exact ⟨w0, w1, w2, rfl⟩
  have hw := fun d (hd : d ∈ tables_1) => atoms_spec (ws := Jvm.Cond.code x code maxLocals ret :: tables_1) hat d (List.mem_cons_of_mem _ hd)
  have hfit : Fit s := fun {y c} hc i hi => by
    obtain ⟨ha, rfl⟩ := Array.getElem?_eq_some_iff.mp hc
    have q := List.all_eq_true.mp ((Array.all_eq_true_iff_forall_mem.mp hF) _ (Array.getElem_mem ha)) i (List.mem_range.mpr hi)
    simpa [Array.getElem?_eq_getElem hi] using q
  obtain ⟨g0, hg2⟩ := and_e hg1
  obtain ⟨i0, e0⟩ := is_v g0
  obtain rfl : w0 = (.int i0) := Option.some.inj e0
  obtain ⟨g1, hg3⟩ := and_e hg2
  obtain ⟨i1, e1⟩ := is_v g1
  obtain rfl : w1 = (.int i1) := Option.some.inj e1
  have g2 := hg3
  obtain ⟨i2, e2⟩ := is_v g2
  obtain rfl : w2 = (.int i2) := Option.some.inj e2
  have hn : narrow_1.value _ s none s [] = some true := hn
  obtain ⟨c0, hn⟩ := and_e hn
  obtain ⟨c1, hn⟩ := and_e hn
  obtain ⟨c2, hn⟩ := and_e hn
  obtain ⟨c3, hn⟩ := and_e hn
  obtain ⟨c4, hn⟩ := and_e hn
  obtain ⟨c5, hn⟩ := and_e hn
  obtain ⟨c6, hn⟩ := and_e hn
  obtain ⟨c7, hn⟩ := and_e hn
  obtain ⟨c8, hn⟩ := and_e hn
  obtain ⟨c9, hn⟩ := and_e hn
  obtain ⟨c10, hn⟩ := and_e hn
  obtain ⟨c11, hn⟩ := and_e hn
  obtain ⟨c12, hn⟩ := and_e hn
  obtain ⟨c13, hn⟩ := and_e hn
  obtain ⟨c14, hn⟩ := and_e hn
  obtain ⟨c15, hn⟩ := and_e hn
  obtain ⟨c16, hn⟩ := and_e hn
  obtain ⟨c17, hn⟩ := and_e hn
  obtain ⟨c18, hn⟩ := and_e hn
  obtain ⟨c19, hn⟩ := and_e hn
  obtain ⟨c20, hn⟩ := and_e hn
  obtain ⟨c21, hn⟩ := and_e hn
  obtain ⟨c22, hn⟩ := and_e hn
  obtain ⟨c23, hn⟩ := and_e hn
  obtain ⟨c24, hn⟩ := and_e hn
  obtain ⟨c25, hn⟩ := and_e hn
  obtain ⟨c26, hn⟩ := and_e hn
  obtain ⟨c27, hn⟩ := and_e hn
  obtain ⟨c28, hn⟩ := and_e hn
  obtain ⟨c29, hn⟩ := and_e hn
  obtain ⟨c30, hn⟩ := and_e hn
  obtain ⟨c31, hn⟩ := and_e hn
  obtain ⟨c32, hn⟩ := and_e hn
  obtain ⟨c33, hn⟩ := and_e hn
  obtain ⟨c34, hn⟩ := and_e hn
  obtain ⟨c35, hn⟩ := and_e hn
  obtain ⟨c36, hn⟩ := and_e hn
  obtain ⟨c37, hn⟩ := and_e hn
  obtain ⟨c38, hn⟩ := and_e hn
  obtain ⟨c39, hn⟩ := and_e hn
  obtain ⟨c40, hn⟩ := and_e hn
  have c41 := hn
  obtain ⟨a_BEFORE, ev_BEFORE⟩ := exa_v c0
  have st_BEFORE := Sta.start ev_BEFORE (Or.inr ⟨(ow hw 52 rfl), (ow hw 53 rfl)⟩)
  have ex_BEFORE := Exa.start ev_BEFORE c0
  obtain ⟨a__VALUES, ev__VALUES⟩ := exa_v c2
  have st__VALUES := Sta.start ev__VALUES (Or.inl (ow hw 71 rfl))
  have ex__VALUES := Exa.start ev__VALUES c2
  obtain ⟨a_MEETS, ev_MEETS⟩ := exa_v c5
  have st_MEETS := Sta.start ev_MEETS (Or.inr ⟨(ow hw 52 rfl), (ow hw 69 rfl)⟩)
  have ex_MEETS := Exa.start ev_MEETS c5
  obtain ⟨a_CONCURRENT, ev_CONCURRENT⟩ := exa_v c7
  have st_CONCURRENT := Sta.start ev_CONCURRENT (Or.inr ⟨(ow hw 52 rfl), (ow hw 70 rfl)⟩)
  have ex_CONCURRENT := Exa.start ev_CONCURRENT c7
  obtain ⟨cl__VALUES, ar__VALUES⟩ := Arr.start ev__VALUES c1
  have ln__VALUES := own_len ev__VALUES ar__VALUES c3
  have el__VALUES_0 := own_elemR ev__VALUES ar__VALUES ev_BEFORE c4
  have el__VALUES_1 := own_elemR ev__VALUES ar__VALUES ev_MEETS c6
  have el__VALUES_2 := own_elemR ev__VALUES ar__VALUES ev_CONCURRENT c8
  -- c9: ["exactly", ["field", ["static", "@cf:com/example/slotwright/slotwright/model/LinkType.BEFORE"], "@cf:com/example/slotwright/slotwright/model/LinkType.key"], "@c:java/lang/String"]
  -- c10: ["eq", ["field", ["field", ["static", "@cf:com/example/slotwright/slotwright/model/LinkType.BEFORE"], "@cf:com/example/slotwright/slotwright/model/LinkType.key"], "@cf:java/lang/String.coder"], ["int", 0]]
  -- c12: ["eq", ["length", ["field", ["field", ["static", "@cf:com/example/slotwright/slotwright/model/LinkType.BEFORE"], "@cf:com/example/slotwright/slotwright/model/LinkType.key"], "@cf:java/lang/String.value"]], ["int", 6]]
  -- c13: ["exactly", ["field", ["static", "@cf:com/example/slotwright/slotwright/model/LinkType.MEETS"], "@cf:com/example/slotwright/slotwright/model/LinkType.key"], "@c:java/lang/String"]
  -- c14: ["eq", ["field", ["field", ["static", "@cf:com/example/slotwright/slotwright/model/LinkType.MEETS"], "@cf:com/example/slotwright/slotwright/model/LinkType.key"], "@cf:java/lang/String.coder"], ["int", 0]]
  -- c16: ["eq", ["length", ["field", ["field", ["static", "@cf:com/example/slotwright/slotwright/model/LinkType.MEETS"], "@cf:com/example/slotwright/slotwright/model/LinkType.key"], "@cf:java/lang/String.value"]], ["int", 5]]
  -- c17: ["exactly", ["field", ["static", "@cf:com/example/slotwright/slotwright/model/LinkType.CONCURRENT"], "@cf:com/example/slotwright/slotwright/model/LinkType.key"], "@c:java/lang/String"]
  -- c18: ["eq", ["field", ["field", ["static", "@cf:com/example/slotwright/slotwright/model/LinkType.CONCURRENT"], "@cf:com/example/slotwright/slotwright/model/LinkType.key"], "@cf:java/lang/String.coder"], ["int", 0]]
  -- c20: ["eq", ["length", ["field", ["field", ["static", "@cf:com/example/slotwright/slotwright/model/LinkType.CONCURRENT"], "@cf:com/example/slotwright/slotwright/model/LinkType.key"], "@cf:java/lang/String.value"]], ["int", 10]]
  -- c21: ["eq", ["elem", ["field", ["field", ["static", "@cf:com/example/slotwright/slotwright/model/LinkType.BEFORE"], "@cf:com/example/slotwright/slotwright/model/LinkType.key"], "@cf:java/lang/String.value"], ["int", 0]], ["int", 98]]
  -- c22: ["eq", ["elem", ["field", ["field", ["static", "@cf:com/example/slotwright/slotwright/model/LinkType.BEFORE"], "@cf:com/example/slotwright/slotwright/model/LinkType.key"], "@cf:java/lang/String.value"], ["int", 1]], ["int", 101]]
  -- c23: ["eq", ["elem", ["field", ["field", ["static", "@cf:com/example/slotwright/slotwright/model/LinkType.BEFORE"], "@cf:com/example/slotwright/slotwright/model/LinkType.key"], "@cf:java/lang/String.value"], ["int", 2]], ["int", 102]]
  -- c24: ["eq", ["elem", ["field", ["field", ["static", "@cf:com/example/slotwright/slotwright/model/LinkType.BEFORE"], "@cf:com/example/slotwright/slotwright/model/LinkType.key"], "@cf:java/lang/String.value"], ["int", 3]], ["int", 111]]
  -- c25: ["eq", ["elem", ["field", ["field", ["static", "@cf:com/example/slotwright/slotwright/model/LinkType.BEFORE"], "@cf:com/example/slotwright/slotwright/model/LinkType.key"], "@cf:java/lang/String.value"], ["int", 4]], ["int", 114]]
  -- c26: ["eq", ["elem", ["field", ["field", ["static", "@cf:com/example/slotwright/slotwright/model/LinkType.BEFORE"], "@cf:com/example/slotwright/slotwright/model/LinkType.key"], "@cf:java/lang/String.value"], ["int", 5]], ["int", 101]]
  -- c27: ["eq", ["elem", ["field", ["field", ["static", "@cf:com/example/slotwright/slotwright/model/LinkType.MEETS"], "@cf:com/example/slotwright/slotwright/model/LinkType.key"], "@cf:java/lang/String.value"], ["int", 0]], ["int", 109]]
  -- c28: ["eq", ["elem", ["field", ["field", ["static", "@cf:com/example/slotwright/slotwright/model/LinkType.MEETS"], "@cf:com/example/slotwright/slotwright/model/LinkType.key"], "@cf:java/lang/String.value"], ["int", 1]], ["int", 101]]
  -- c29: ["eq", ["elem", ["field", ["field", ["static", "@cf:com/example/slotwright/slotwright/model/LinkType.MEETS"], "@cf:com/example/slotwright/slotwright/model/LinkType.key"], "@cf:java/lang/String.value"], ["int", 2]], ["int", 101]]
  -- c30: ["eq", ["elem", ["field", ["field", ["static", "@cf:com/example/slotwright/slotwright/model/LinkType.MEETS"], "@cf:com/example/slotwright/slotwright/model/LinkType.key"], "@cf:java/lang/String.value"], ["int", 3]], ["int", 116]]
  -- c31: ["eq", ["elem", ["field", ["field", ["static", "@cf:com/example/slotwright/slotwright/model/LinkType.MEETS"], "@cf:com/example/slotwright/slotwright/model/LinkType.key"], "@cf:java/lang/String.value"], ["int", 4]], ["int", 115]]
  -- c32: ["eq", ["elem", ["field", ["field", ["static", "@cf:com/example/slotwright/slotwright/model/LinkType.CONCURRENT"], "@cf:com/example/slotwright/slotwright/model/LinkType.key"], "@cf:java/lang/String.value"], ["int", 0]], ["int", 99]]
  -- c33: ["eq", ["elem", ["field", ["field", ["static", "@cf:com/example/slotwright/slotwright/model/LinkType.CONCURRENT"], "@cf:com/example/slotwright/slotwright/model/LinkType.key"], "@cf:java/lang/String.value"], ["int", 1]], ["int", 111]]
  -- c34: ["eq", ["elem", ["field", ["field", ["static", "@cf:com/example/slotwright/slotwright/model/LinkType.CONCURRENT"], "@cf:com/example/slotwright/slotwright/model/LinkType.key"], "@cf:java/lang/String.value"], ["int", 2]], ["int", 110]]
  -- c35: ["eq", ["elem", ["field", ["field", ["static", "@cf:com/example/slotwright/slotwright/model/LinkType.CONCURRENT"], "@cf:com/example/slotwright/slotwright/model/LinkType.key"], "@cf:java/lang/String.value"], ["int", 3]], ["int", 99]]
  -- c36: ["eq", ["elem", ["field", ["field", ["static", "@cf:com/example/slotwright/slotwright/model/LinkType.CONCURRENT"], "@cf:com/example/slotwright/slotwright/model/LinkType.key"], "@cf:java/lang/String.value"], ["int", 4]], ["int", 117]]
  -- c37: ["eq", ["elem", ["field", ["field", ["static", "@cf:com/example/slotwright/slotwright/model/LinkType.CONCURRENT"], "@cf:com/example/slotwright/slotwright/model/LinkType.key"], "@cf:java/lang/String.value"], ["int", 5]], ["int", 114]]
  -- c38: ["eq", ["elem", ["field", ["field", ["static", "@cf:com/example/slotwright/slotwright/model/LinkType.CONCURRENT"], "@cf:com/example/slotwright/slotwright/model/LinkType.key"], "@cf:java/lang/String.value"], ["int", 6]], ["int", 114]]
  -- c39: ["eq", ["elem", ["field", ["field", ["static", "@cf:com/example/slotwright/slotwright/model/LinkType.CONCURRENT"], "@cf:com/example/slotwright/slotwright/model/LinkType.key"], "@cf:java/lang/String.value"], ["int", 7]], ["int", 101]]
  -- c40: ["eq", ["elem", ["field", ["field", ["static", "@cf:com/example/slotwright/slotwright/model/LinkType.CONCURRENT"], "@cf:com/example/slotwright/slotwright/model/LinkType.key"], "@cf:java/lang/String.value"], ["int", 8]], ["int", 110]]
  -- c41: ["eq", ["elem", ["field", ["field", ["static", "@cf:com/example/slotwright/slotwright/model/LinkType.CONCURRENT"], "@cf:com/example/slotwright/slotwright/model/LinkType.key"], "@cf:java/lang/String.value"], ["int", 9]], ["int", 116]]
  have sz : cl__VALUES.slots.size = (3 : Int32).toNatClampNeg := by
    rw [← ln__VALUES.2]; simp only [Int32.toNatClampNeg, len_toInt ln__VALUES.1]; rfl
  obtain ⟨k_BEFORE, fk_BEFORE, sx_BEFORE⟩ := own_kbB ev_BEFORE c9 c10 c11 c12 c21 c22 c23 c24 c25 c26
  obtain ⟨k_MEETS, fk_MEETS, sx_MEETS⟩ := own_kbM ev_MEETS c13 c14 c15 c16 c27 c28 c29 c30 c31
  obtain ⟨k_CONCURRENT, fk_CONCURRENT, sx_CONCURRENT⟩ := own_kbC ev_CONCURRENT c17 c18 c19 c20 c32 c33 c34 c35 c36 c37 c38 c39 c40 c41
  obtain ⟨hsets, -⟩ := atoms_of jdkStatics_1 (show (jdkStatics_1.foldr Jvm.Cond.and restOwn_1).before _ s = true from (by have q := hrest; rw [← rest_1_c_eq]; exact q))
  obtain ⟨cs, ev_cs⟩ := is_v (Cond.before_iff.mp (hsets _ (List.mem_of_getElem? (i := 1) rfl)))
  have S_cs := Sta.start ev_cs (Or.inl (hsets _ (List.mem_of_getElem? (i := 0) rfl)))
  have hcs : ¬ cs = (0 : Int32) := gotF (Cond.eq_ints ev_cs (Term.int_eval 0)) (not_v (Cond.before_iff.mp (hsets _ (List.mem_of_getElem? (i := 2) rfl))))
  have hh39 : Jvm.Lit.constHeld s "com/example/slotwright/slotwright/model/LinkTypeOfKeyPinLaw" 39 := hcalls.1 ("com/example/slotwright/slotwright/model/LinkTypeOfKeyPinLaw", 39) (List.mem_of_getElem? (i := 0) rfl)
  have hh49 : Jvm.Lit.constHeld s "com/example/slotwright/slotwright/model/LinkTypeOfKeyPinLaw" 49 := hcalls.1 ("com/example/slotwright/slotwright/model/LinkTypeOfKeyPinLaw", 49) (List.mem_of_getElem? (i := 1) rfl)
  have hh54 : Jvm.Lit.constHeld s "com/example/slotwright/slotwright/model/LinkTypeOfKeyPinLaw" 54 := hcalls.1 ("com/example/slotwright/slotwright/model/LinkTypeOfKeyPinLaw", 54) (List.mem_of_getElem? (i := 2) rfl)
  have hh7 : Jvm.Lit.constHeld s "java/lang/String" 7 := hcalls.1 ("java/lang/String", 7) (List.mem_of_getElem? (i := 3) rfl)
  obtain ⟨n, o, h1, h2, h3, _, L, rfl, ⟨rfl, N⟩, hq⟩ := rm0 l s _ hw tables_1 i0 i1 i2 cs a_BEFORE a_MEETS a_CONCURRENT a__VALUES cl__VALUES k_BEFORE k_MEETS k_CONCURRENT s.heap s.heap.size (Nat.le_refl _) (Old.start s) S_cs hcs (hsets _ (List.mem_of_getElem? (i := 2) rfl)) hh39 hh49 hh54 hh7 st_BEFORE st_MEETS st_CONCURRENT st__VALUES ar__VALUES ex__VALUES (FitC.start hfit ar__VALUES) sz el__VALUES_0 el__VALUES_1 el__VALUES_2 fk_BEFORE fk_MEETS fk_CONCURRENT sx_BEFORE sx_MEETS sx_CONCURRENT p e ha hc hk s m _ below hf ((Spec.applies_iff_loose hf).mp happ).1 ⟨rfl, State.Warmed39.refl s, rfl, IB.start⟩ trivial
  refine ⟨n, _, h1, h2, h3, hpost _ _ _ _ _ _ ⟨Cond.after_iff.mpr rfl, Cond.after_iff.mpr (eq_i res_at (Term.int_eval (1)) rfl), trivial⟩ ⟨hq.1, hq.2.1, hq.2.2.1, (hq.2.2.2.sift fun y hy => Or.inr (N y hy)).mono (by decide) (by decide)⟩⟩
theorem main_1_1 : Claimed_1_1 := comes_1 fun _ _ _ _ _ _ h hF => ⟨h.1, hF⟩
theorem main_1_2 : Claimed_1_2 := comes_1 fun _ _ _ _ _ _ h hF => ⟨h.2.1, hF⟩
end Jvm.Pilot.@@N@@
namespace Jvm.Pilot.@@N@@
open Jvm Jvm.ClassFile Sem Op Lib Jvm.Free Jvm.Stand Jvm.Pilot.@@N@@.Jvm.D
/-! MADE BY PROGRAM (witnessworld.py) out of the Statement's table words and the real class files: 22 classes; the members and pool entries that the words name. The judged class is class 1, her method 1. -/
namespace start1
open Jvm.ClassFile
def u (s : String) : CpInfo := .utf8 (stringToUtf16 s)
/-- a pool by its gaps: so many unusable entries, then the entry; so many at the end -/
def gap : Nat → List CpInfo → List CpInfo
  | 0, r => r
  | n + 1, r => .unusable :: gap n r
def poolList (es : List (Nat × CpInfo)) (last : Nat) : List CpInfo := es.foldr (fun e r => gap e.1 (e.2 :: r)) (gap last [])
def pool (es : List (Nat × CpInfo)) (last : Nat) : Array CpInfo := ⟨poolList es last⟩
def fileOf (pool : Array CpInfo) (this : Nat) (attrs : Array Attribute := #[]) (ms : Array MethodInfo := #[]) (fl : Nat := 33) (sup : Nat := 0) (ifs : Array Nat := #[]) (fds : Array FieldInfo := #[]) : ClassFile where
  minorVersion := 0
  majorVersion := 65
  constantPool := pool
  accessFlags := fl
  thisClass := this
  superClass := sup
  interfaces := ifs
  fields := fds
  methods := ms
  attributes := attrs
def plain (name : String) (sup : Option ClassId) : Class where
  name := name
  kind := .ordinary
  loader := none
  accessFlags := 33
  super := sup
  interfaces := #[]
  cf := none
  fields := #[]
  methods := #[]
  instanceTypes := #[]
  staticTypes := #[]
  resolved := #[]
  callSites := []
  init := .initialized
  statics := none
  mirror := none

def pool0 : Array CpInfo := pool [(5, u "<init>"), (0, u "()V"), (1, .class_ 10), (1, u "java/lang/Object"), (85, u "clone"), (0, u "()Ljava/lang/Object;")] 26

def k0c0 : Code := { maxStack := 0, maxLocals := 1, code := object_method_1_code, exceptionTable := #[], attributes := #[] }
def k0m0 : Method := { name := "<init>", desc := "()V", sig := { parameters := [], returnType := none }, accessFlags := 1, code := some k0c0 }
def k0m1 : Method := { name := "clone", desc := "()Ljava/lang/Object;", sig := { parameters := [], returnType := some (.object "java/lang/Object") }, accessFlags := 260, code := none }
/-- java/lang/Object -/
def k0 : Class := { plain "java/lang/Object" none with
  accessFlags := 33
  interfaces := #[]
  cf := some (fileOf pool0 8 #[] #[{ accessFlags := 1, nameIndex := 5, descriptorIndex := 6, attributes := #[] }, { accessFlags := 260, nameIndex := 96, descriptorIndex := 97, attributes := #[] }] 33 0 #[] #[])
  fields := #[]
  methods := #[k0m0, k0m1]
  instanceTypes := #[]
  staticTypes := #[]
  resolved := Array.replicate 124 none
  statics := none }

def pool1 : Array CpInfo := pool [(2, .class_ 4), (1, u "java/lang/Object"), (0, u "<init>"), (0, u "()V"), (0, .integer 2147483647), (0, .class_ 9), (0, u "java/lang/String"), (0, .methodref 11 12), (0, .class_ 13), (0, .nameAndType 14 15), (0, u "com/example/slotwright/slotwright/model/LinkTypeOfKeyPinLaw"), (0, u "keyChars"), (0, u "(I)[C"), (0, .methodref 8 17), (0, .nameAndType 5 18), (0, u "([C)V"), (0, .methodref 11 20), (0, .nameAndType 21 22), (0, u "extended"), (0, u "(IC)[C"), (0, .methodref 11 24), (0, .nameAndType 25 15), (0, u "truncated"), (0, .methodref 11 27), (0, .nameAndType 28 29), (0, u "drawn"), (0, u "(II)Ljava/lang/String;"), (0, .methodref 11 31), (0, .nameAndType 32 33), (0, u "reference"), (0, u "(Ljava/lang/String;)Lcom/example/slotwright/slotwright/model/LinkType;"), (0, .methodref 35 36), (0, .class_ 37), (0, .nameAndType 38 33), (0, u "com/example/slotwright/slotwright/model/LinkType"), (0, u "ofKey"), (0, .string 40), (0, u "before"), (0, .methodref 8 42), (0, .nameAndType 43 44), (0, u "equals"), (0, u "(Ljava/lang/Object;)Z"), (0, .fieldref 35 46), (0, .nameAndType 47 48), (0, u "BEFORE"), (0, u "Lcom/example/slotwright/slotwright/model/LinkType;"), (0, .string 50), (0, u "meets"), (0, .fieldref 35 52), (0, .nameAndType 53 48), (0, u "MEETS"), (0, .string 55), (0, u "concurrent"), (0, .fieldref 35 57), (0, .nameAndType 58 48), (0, u "CONCURRENT"), (0, .methodref 8 60), (0, .nameAndType 61 62), (0, u "valueOf"), (0, u "(C)Ljava/lang/String;"), (2, u "law"), (0, u "(III)Z")] 3

def k1m0 : Method := { name := "<init>", desc := "()V", sig := { parameters := [], returnType := none }, accessFlags := 1, code := none }
def k1c1 : Code := { maxStack := 4, maxLocals := 8, code := code, exceptionTable := #[], attributes := #[] }
def k1m1 : Method := { name := "law", desc := "(III)Z", sig := { parameters := [.int, .int, .int], returnType := some .boolean }, accessFlags := 9, code := some k1c1 }
def k1c2 : Code := { maxStack := 2, maxLocals := 1, code := method_3_code, exceptionTable := #[], attributes := #[] }
def k1m2 : Method := { name := "reference", desc := "(Ljava/lang/String;)Lcom/example/slotwright/slotwright/model/LinkType;", sig := { parameters := [(.object "java/lang/String")], returnType := some (.object "com/example/slotwright/slotwright/model/LinkType") }, accessFlags := 10, code := some k1c2 }
def k1c3 : Code := { maxStack := 4, maxLocals := 1, code := method_4_code, exceptionTable := #[], attributes := #[] }
def k1m3 : Method := { name := "keyChars", desc := "(I)[C", sig := { parameters := [.int], returnType := some (.array .char) }, accessFlags := 10, code := some k1c3 }
def k1c4 : Code := { maxStack := 4, maxLocals := 2, code := method_5_code, exceptionTable := #[], attributes := #[] }
def k1m4 : Method := { name := "extended", desc := "(IC)[C", sig := { parameters := [.int, .char], returnType := some (.array .char) }, accessFlags := 10, code := some k1c4 }
def k1c5 : Code := { maxStack := 4, maxLocals := 1, code := method_6_code, exceptionTable := #[], attributes := #[] }
def k1m5 : Method := { name := "truncated", desc := "(I)[C", sig := { parameters := [.int], returnType := some (.array .char) }, accessFlags := 10, code := some k1c5 }
def k1c6 : Code := { maxStack := 6, maxLocals := 5, code := method_7_code, exceptionTable := #[], attributes := #[] }
def k1m6 : Method := { name := "drawn", desc := "(II)Ljava/lang/String;", sig := { parameters := [.int, .int], returnType := some (.object "java/lang/String") }, accessFlags := 10, code := some k1c6 }
/-- com/example/slotwright/slotwright/model/LinkTypeOfKeyPinLaw -/
def k1 : Class := { plain "com/example/slotwright/slotwright/model/LinkTypeOfKeyPinLaw" (some 0) with
  accessFlags := 49
  interfaces := #[]
  cf := some (fileOf pool1 11 #[] #[{ accessFlags := 1, nameIndex := 5, descriptorIndex := 6, attributes := #[] }, { accessFlags := 9, nameIndex := 65, descriptorIndex := 66, attributes := #[] }, { accessFlags := 10, nameIndex := 32, descriptorIndex := 33, attributes := #[] }, { accessFlags := 10, nameIndex := 14, descriptorIndex := 15, attributes := #[] }, { accessFlags := 10, nameIndex := 21, descriptorIndex := 22, attributes := #[] }, { accessFlags := 10, nameIndex := 25, descriptorIndex := 15, attributes := #[] }, { accessFlags := 10, nameIndex := 28, descriptorIndex := 29, attributes := #[] }] 49 2 #[] #[])
  fields := #[]
  methods := #[k1m0, k1m1, k1m2, k1m3, k1m4, k1m5, k1m6]
  instanceTypes := #[]
  staticTypes := #[]
  resolved := Array.replicate 70 none
  statics := none }

def pool2 : Array CpInfo := pool [(1, .class_ 2), (0, u "java/io/Serializable"), (0, .class_ 4), (0, u "java/lang/Object")] 2

/-- java/io/Serializable -/
def k2 : Class := { plain "java/io/Serializable" (some 0) with
  accessFlags := 1537
  interfaces := #[]
  cf := some (fileOf pool2 1 #[] #[] 1537 3 #[] #[])
  fields := #[]
  methods := #[]
  instanceTypes := #[]
  staticTypes := #[]
  resolved := Array.replicate 7 none
  statics := none }

def pool3 : Array CpInfo := pool [(1, .class_ 2), (0, u "java/lang/Comparable"), (0, .class_ 4), (0, u "java/lang/Object")] 7

/-- java/lang/Comparable -/
def k3 : Class := { plain "java/lang/Comparable" (some 0) with
  accessFlags := 1537
  interfaces := #[]
  cf := some (fileOf pool3 1 #[] #[] 1537 3 #[] #[])
  fields := #[]
  methods := #[]
  instanceTypes := #[]
  staticTypes := #[]
  resolved := Array.replicate 12 none
  statics := none }

def pool4 : Array CpInfo := pool [(2, .class_ 4), (1, u "java/lang/CharSequence"), (42, .class_ 48), (0, u "java/lang/CharSequence$1CodePointIterator"), (10, .class_ 60), (0, u "java/lang/CharSequence$1CharIterator"), (5, .class_ 67), (0, u "java/lang/Object")] 63

/-- java/lang/CharSequence -/
def k4 : Class := { plain "java/lang/CharSequence" (some 0) with
  accessFlags := 1537
  interfaces := #[]
  cf := some (fileOf pool4 2 #[.nestMembers #[47, 59]] #[] 1537 66 #[] #[])
  fields := #[]
  methods := #[]
  instanceTypes := #[]
  staticTypes := #[]
  resolved := Array.replicate 131 none
  statics := none }

def pool5 : Array CpInfo := pool [(1, .class_ 2), (0, u "java/lang/constant/Constable"), (0, .class_ 4), (0, u "java/lang/Object")] 6

/-- java/lang/constant/Constable -/
def k5 : Class := { plain "java/lang/constant/Constable" (some 0) with
  accessFlags := 1537
  interfaces := #[]
  cf := some (fileOf pool5 1 #[] #[] 1537 3 #[] #[])
  fields := #[]
  methods := #[]
  instanceTypes := #[]
  staticTypes := #[]
  resolved := Array.replicate 11 none
  statics := none }

def pool6 : Array CpInfo := pool [(1, .class_ 2), (0, u "java/lang/constant/ConstantDesc"), (0, .class_ 4), (0, u "java/lang/Object")] 32

/-- java/lang/constant/ConstantDesc -/
def k6 : Class := { plain "java/lang/constant/ConstantDesc" (some 0) with
  accessFlags := 1537
  interfaces := #[]
  cf := some (fileOf pool6 1 #[] #[] 1537 3 #[] #[])
  fields := #[]
  methods := #[]
  instanceTypes := #[]
  staticTypes := #[]
  resolved := Array.replicate 37 none
  statics := none }

def pool7 : Array CpInfo := pool [(1, .methodref 2 3), (0, .class_ 4), (0, .nameAndType 5 6), (0, u "java/lang/Object"), (0, u "<init>"), (0, u "()V"), (0, .string 8), (0, u ""), (0, .fieldref 10 11), (0, .class_ 12), (0, .nameAndType 13 14), (0, u "java/lang/String"), (0, u "value"), (0, u "[B"), (0, .fieldref 10 16), (0, .nameAndType 17 18), (0, u "coder"), (0, u "B"), (2, u "hash"), (0, u "I"), (2, u "hashIsZero"), (0, u "Z"), (0, .methodref 10 28), (0, .nameAndType 5 29), (0, u "([CIILjava/lang/Void;)V"), (8, .fieldref 10 39), (0, .nameAndType 40 26), (0, u "COMPACT_STRINGS"), (1, .class_ 44), (1, u "java/lang/StringUTF16"), (0, u "compress"), (1, .methodref 42 48), (0, .nameAndType 49 50), (0, u "coderFromArrayLen"), (0, u "([BI)B"), (2, u "toBytes"), (53, .class_ 109), (1, u "java/lang/StringLatin1"), (67, .methodref 42 178), (0, .nameAndType 45 179), (0, u "([CII)[B"), (29, .methodref 10 210), (0, .nameAndType 5 211), (0, u "([BB)V"), (157, u "(C)Z"), (171, .methodref 107 542), (0, .nameAndType 543 544), (0, u "equals"), (0, u "([B[B)Z"), (28, u "(Ljava/lang/Object;)Z"), (1, .class_ 576), (0, u "java/lang/CharSequence"), (22, u "CASE_INSENSITIVE_ORDER"), (0, u "Ljava/util/Comparator;"), (181, u "valueOf"), (0, u "(C)Ljava/lang/String;"), (226, u "([C)V"), (4, .methodref 107 1016), (0, .nameAndType 1017 369), (0, u "canEncode"), (0, .methodref 107 1019), (0, .nameAndType 53 1020), (0, u "(C)[B"), (80, u "serialPersistentFields"), (0, u "[Ljava/io/ObjectStreamField;"), (0, .class_ 1104), (0, u "java/lang/String$CaseInsensitiveComparator"), (1, .class_ 1107), (0, u "java/io/Serializable"), (0, .class_ 1109), (0, u "java/lang/Comparable"), (0, .class_ 1111), (0, u "java/lang/constant/Constable"), (0, .class_ 1113), (0, u "java/lang/constant/ConstantDesc"), (2, u "serialVersionUID"), (0, u "J"), (3, u "REPL"), (0, u "C"), (2, u "LATIN1"), (1, u "UTF16")] 323

def k7m0 : Method := { name := "<init>", desc := "()V", sig := { parameters := [], returnType := none }, accessFlags := 1, code := none }
def k7c1 : Code := { maxStack := 5, maxLocals := 2, code := jdk_42_method_3_code, exceptionTable := #[], attributes := #[] }
def k7m1 : Method := { name := "<init>", desc := "([C)V", sig := { parameters := [(.array .char)], returnType := none }, accessFlags := 1, code := some k7c1 }
def k7c2 : Code := { maxStack := 2, maxLocals := 3, code := jdk_42_method_66_code, exceptionTable := #[], attributes := #[] }
def k7m2 : Method := { name := "equals", desc := "(Ljava/lang/Object;)Z", sig := { parameters := [(.object "java/lang/Object")], returnType := some .boolean }, accessFlags := 1, code := some k7c2 }
def k7c3 : Code := { maxStack := 4, maxLocals := 1, code := jdk_42_method_139_code, exceptionTable := #[], attributes := #[] }
def k7m3 : Method := { name := "valueOf", desc := "(C)Ljava/lang/String;", sig := { parameters := [.char], returnType := some (.object "java/lang/String") }, accessFlags := 9, code := some k7c3 }
def k7c4 : Code := { maxStack := 4, maxLocals := 6, code := jdk_42_method_149_code, exceptionTable := #[], attributes := #[] }
def k7m4 : Method := { name := "<init>", desc := "([CIILjava/lang/Void;)V", sig := { parameters := [(.array .char), .int, .int, (.object "java/lang/Void")], returnType := none }, accessFlags := 2, code := some k7c4 }
def k7c5 : Code := { maxStack := 2, maxLocals := 3, code := jdk_42_method_151_code, exceptionTable := #[], attributes := #[] }
def k7m5 : Method := { name := "<init>", desc := "([BB)V", sig := { parameters := [(.array .byte), .byte], returnType := none }, accessFlags := 0, code := some k7c5 }
/-- java/lang/String -/
def k7 : Class := { plain "java/lang/String" (some 0) with
  accessFlags := 49
  interfaces := #[2, 3, 4, 5, 6]
  cf := some (fileOf pool7 10 #[.nestMembers #[1103]] #[{ accessFlags := 1, nameIndex := 5, descriptorIndex := 6, attributes := #[] }, { accessFlags := 1, nameIndex := 5, descriptorIndex := 1010, attributes := #[] }, { accessFlags := 1, nameIndex := 543, descriptorIndex := 573, attributes := #[] }, { accessFlags := 9, nameIndex := 782, descriptorIndex := 783, attributes := #[] }, { accessFlags := 2, nameIndex := 5, descriptorIndex := 29, attributes := #[] }, { accessFlags := 0, nameIndex := 5, descriptorIndex := 211, attributes := #[] }] 49 2 #[1106, 1108, 575, 1110, 1112] #[{ accessFlags := 18, nameIndex := 13, descriptorIndex := 14, attributes := #[] }, { accessFlags := 18, nameIndex := 17, descriptorIndex := 18, attributes := #[] }, { accessFlags := 2, nameIndex := 21, descriptorIndex := 22, attributes := #[] }, { accessFlags := 2, nameIndex := 25, descriptorIndex := 26, attributes := #[] }, { accessFlags := 26, nameIndex := 1116, descriptorIndex := 1117, attributes := #[] }, { accessFlags := 24, nameIndex := 40, descriptorIndex := 26, attributes := #[] }, { accessFlags := 26, nameIndex := 1101, descriptorIndex := 1102, attributes := #[] }, { accessFlags := 26, nameIndex := 1121, descriptorIndex := 1122, attributes := #[] }, { accessFlags := 25, nameIndex := 599, descriptorIndex := 600, attributes := #[] }, { accessFlags := 24, nameIndex := 1125, descriptorIndex := 18, attributes := #[] }, { accessFlags := 24, nameIndex := 1127, descriptorIndex := 18, attributes := #[] }])
  fields := #[{ name := "value", type := (.array .byte), accessFlags := 18, slot := 0, constantValue := 0 }, { name := "coder", type := .byte, accessFlags := 18, slot := 1, constantValue := 0 }, { name := "hash", type := .int, accessFlags := 2, slot := 2, constantValue := 0 }, { name := "hashIsZero", type := .boolean, accessFlags := 2, slot := 3, constantValue := 0 }, { name := "serialVersionUID", type := .long, accessFlags := 26, slot := 0, constantValue := 0 }, { name := "COMPACT_STRINGS", type := .boolean, accessFlags := 24, slot := 1, constantValue := 0 }, { name := "serialPersistentFields", type := (.array (.object "java/io/ObjectStreamField")), accessFlags := 26, slot := 2, constantValue := 0 }, { name := "REPL", type := .char, accessFlags := 26, slot := 3, constantValue := 0 }, { name := "CASE_INSENSITIVE_ORDER", type := (.object "java/util/Comparator"), accessFlags := 25, slot := 4, constantValue := 0 }, { name := "LATIN1", type := .byte, accessFlags := 24, slot := 5, constantValue := 0 }, { name := "UTF16", type := .byte, accessFlags := 24, slot := 6, constantValue := 0 }]
  methods := #[k7m0, k7m1, k7m2, k7m3, k7m4, k7m5]
  instanceTypes := #[(.array .byte), .byte, .int, .boolean]
  staticTypes := #[.long, .boolean, (.array (.object "java/io/ObjectStreamField")), .char, (.object "java/util/Comparator"), .byte, .byte]
  resolved := Array.replicate 1451 none
  statics := some 0 }

def pool8 : Array CpInfo := pool [(6, .class_ 8), (1, u "java/lang/Object"), (0, u "<init>"), (0, u "()V"), (1, .class_ 14), (1, u "java/lang/StringUTF16"), (31, u "$assertionsDisabled"), (0, u "Z"), (13, u "HI_BYTE_SHIFT"), (0, u "I"), (2, u "LO_BYTE_SHIFT"), (49, .methodref 12 116), (0, .nameAndType 117 118), (0, u "compress"), (0, u "([CI[BII)I"), (3, u "([CII)[B"), (138, u "coderFromArrayLen"), (0, u "([BI)B"), (106, .class_ 371), (1, u "java/lang/StringUTF16$LinesSpliterator"), (58, u "MAX_LENGTH"), (196, .class_ 628), (0, u "java/lang/StringUTF16$CodePointsSpliterator"), (0, .class_ 630), (0, u "java/lang/StringUTF16$CharsSpliterator")] 4

def k8m0 : Method := { name := "<init>", desc := "()V", sig := { parameters := [], returnType := none }, accessFlags := 0, code := none }
def k8c1 : Code := { maxStack := 2, maxLocals := 2, code := jdk_52_method_15_code, exceptionTable := #[], attributes := #[] }
def k8m1 : Method := { name := "coderFromArrayLen", desc := "([BI)B", sig := { parameters := [(.array .byte), .int], returnType := some .byte }, accessFlags := 8, code := some k8c1 }
def k8c2 : Code := { maxStack := 5, maxLocals := 6, code := jdk_52_method_16_code, exceptionTable := #[], attributes := #[] }
def k8m2 : Method := { name := "compress", desc := "([CII)[B", sig := { parameters := [(.array .char), .int, .int], returnType := some (.array .byte) }, accessFlags := 9, code := some k8c2 }
def k8c3 : Code := { maxStack := 3, maxLocals := 7, code := jdk_52_method_21_code, exceptionTable := #[], attributes := #[] }
def k8m3 : Method := { name := "compress", desc := "([CI[BII)I", sig := { parameters := [(.array .char), .int, (.array .byte), .int, .int], returnType := some .int }, accessFlags := 9, code := some k8c3 }
/-- java/lang/StringUTF16 -/
def k8 : Class := { plain "java/lang/StringUTF16" (some 0) with
  accessFlags := 48
  interfaces := #[]
  cf := some (fileOf pool8 12 #[.nestMembers #[627, 629, 369]] #[{ accessFlags := 0, nameIndex := 9, descriptorIndex := 10, attributes := #[] }, { accessFlags := 8, nameIndex := 261, descriptorIndex := 262, attributes := #[] }, { accessFlags := 9, nameIndex := 117, descriptorIndex := 122, attributes := #[] }, { accessFlags := 9, nameIndex := 117, descriptorIndex := 118, attributes := #[] }] 48 6 #[] #[{ accessFlags := 26, nameIndex := 61, descriptorIndex := 62, attributes := #[] }, { accessFlags := 26, nameIndex := 65, descriptorIndex := 62, attributes := #[] }, { accessFlags := 24, nameIndex := 430, descriptorIndex := 62, attributes := #[] }, { accessFlags := 4120, nameIndex := 46, descriptorIndex := 47, attributes := #[] }])
  fields := #[{ name := "HI_BYTE_SHIFT", type := .int, accessFlags := 26, slot := 0, constantValue := 0 }, { name := "LO_BYTE_SHIFT", type := .int, accessFlags := 26, slot := 1, constantValue := 0 }, { name := "MAX_LENGTH", type := .int, accessFlags := 24, slot := 2, constantValue := 0 }, { name := "$assertionsDisabled", type := .boolean, accessFlags := 4120, slot := 3, constantValue := 0 }]
  methods := #[k8m0, k8m1, k8m2, k8m3]
  instanceTypes := #[]
  staticTypes := #[.int, .int, .int, .boolean]
  resolved := Array.replicate 635 none
  statics := none }

def pool9 : Array CpInfo := pool [(4, .class_ 6), (1, u "java/lang/Object"), (0, u "<init>"), (0, u "()V"), (5, .class_ 16), (1, u "java/lang/StringLatin1"), (73, u "canEncode"), (14, u "(C)Z"), (15, u "$assertionsDisabled"), (0, u "Z"), (98, .class_ 223), (1, u "java/lang/StringLatin1$LinesSpliterator"), (57, u "equals"), (0, u "([B[B)Z"), (97, u "toBytes"), (1, u "(C)[B"), (7, .class_ 391), (0, u "java/lang/StringLatin1$CharsSpliterator")] 3

def k9m0 : Method := { name := "<init>", desc := "()V", sig := { parameters := [], returnType := none }, accessFlags := 0, code := none }
def k9c1 : Code := { maxStack := 2, maxLocals := 1, code := jdk_43_method_3_code, exceptionTable := #[], attributes := #[] }
def k9m1 : Method := { name := "canEncode", desc := "(C)Z", sig := { parameters := [.char], returnType := some .boolean }, accessFlags := 9, code := some k9c1 }
def k9c2 : Code := { maxStack := 3, maxLocals := 3, code := jdk_43_method_13_code, exceptionTable := #[], attributes := #[] }
def k9m2 : Method := { name := "equals", desc := "([B[B)Z", sig := { parameters := [(.array .byte), (.array .byte)], returnType := some .boolean }, accessFlags := 9, code := some k9c2 }
def k9c3 : Code := { maxStack := 4, maxLocals := 1, code := jdk_43_method_46_code, exceptionTable := #[], attributes := #[] }
def k9m3 : Method := { name := "toBytes", desc := "(C)[B", sig := { parameters := [.char], returnType := some (.array .byte) }, accessFlags := 9, code := some k9c3 }
/-- java/lang/StringLatin1 -/
def k9 : Class := { plain "java/lang/StringLatin1" (some 0) with
  accessFlags := 48
  interfaces := #[]
  cf := some (fileOf pool9 14 #[.nestMembers #[390, 221]] #[{ accessFlags := 0, nameIndex := 7, descriptorIndex := 8, attributes := #[] }, { accessFlags := 9, nameIndex := 90, descriptorIndex := 105, attributes := #[] }, { accessFlags := 9, nameIndex := 281, descriptorIndex := 282, attributes := #[] }, { accessFlags := 9, nameIndex := 380, descriptorIndex := 382, attributes := #[] }] 48 4 #[] #[{ accessFlags := 4120, nameIndex := 121, descriptorIndex := 122, attributes := #[] }])
  fields := #[{ name := "$assertionsDisabled", type := .boolean, accessFlags := 4120, slot := 0, constantValue := 0 }]
  methods := #[k9m0, k9m1, k9m2, k9m3]
  instanceTypes := #[]
  staticTypes := #[.boolean]
  resolved := Array.replicate 395 none
  statics := none }

def pool10 : Array CpInfo := pool [(2, .class_ 4), (1, u "java/lang/Enum"), (0, u "name"), (0, u "Ljava/lang/String;"), (2, u "ordinal"), (0, u "I"), (1, .class_ 14), (1, u "java/lang/Object"), (4, u "hash"), (86, .class_ 108), (1, u "java/lang/Enum$EnumDesc"), (2, .class_ 112), (0, u "java/lang/constant/Constable"), (0, .class_ 114), (0, u "java/lang/Comparable"), (0, .class_ 116), (0, u "java/io/Serializable")] 87

/-- java/lang/Enum -/
def k10 : Class := { plain "java/lang/Enum" (some 0) with
  accessFlags := 1057
  interfaces := #[5, 3, 2]
  cf := some (fileOf pool10 2 #[.nestMembers #[106]] #[] 1057 12 #[111, 113, 115] #[{ accessFlags := 18, nameIndex := 5, descriptorIndex := 6, attributes := #[] }, { accessFlags := 18, nameIndex := 9, descriptorIndex := 10, attributes := #[] }, { accessFlags := 2, nameIndex := 19, descriptorIndex := 10, attributes := #[] }])
  fields := #[{ name := "name", type := (.object "java/lang/String"), accessFlags := 18, slot := 0, constantValue := 0 }, { name := "ordinal", type := .int, accessFlags := 18, slot := 1, constantValue := 0 }, { name := "hash", type := .int, accessFlags := 2, slot := 2, constantValue := 0 }]
  methods := #[]
  instanceTypes := #[(.object "java/lang/String"), .int, .int]
  staticTypes := #[]
  resolved := Array.replicate 204 none
  statics := none }

def pool11 : Array CpInfo := pool [(1, .class_ 2), (0, u "com/example/slotwright/slotwright/model/LinkType"), (2, u "BEFORE"), (0, u "Lcom/example/slotwright/slotwright/model/LinkType;"), (2, u "MEETS"), (2, u "CONCURRENT"), (0, .fieldref 1 14), (0, .nameAndType 15 16), (0, u "$VALUES"), (0, u "[Lcom/example/slotwright/slotwright/model/LinkType;"), (0, .methodref 18 19), (0, .class_ 16), (0, .nameAndType 20 21), (0, u "clone"), (0, u "()Ljava/lang/Object;"), (1, .class_ 25), (1, u "java/lang/Enum"), (6, .fieldref 1 33), (0, .nameAndType 34 35), (0, u "key"), (0, u "Ljava/lang/String;"), (0, .methodref 1 37), (0, .nameAndType 38 39), (0, u "values"), (0, u "()[Lcom/example/slotwright/slotwright/model/LinkType;"), (0, .methodref 41 42), (0, .class_ 43), (0, .nameAndType 44 45), (0, u "java/lang/String"), (0, u "equals"), (0, u "(Ljava/lang/Object;)Z"), (26, u "(Ljava/lang/String;)Lcom/example/slotwright/slotwright/model/LinkType;"), (4, u "ofKey")] 8

def k11c0 : Code := { maxStack := 1, maxLocals := 0, code := prog_16_method_1_code, exceptionTable := #[], attributes := #[] }
def k11m0 : Method := { name := "values", desc := "()[Lcom/example/slotwright/slotwright/model/LinkType;", sig := { parameters := [], returnType := some (.array (.object "com/example/slotwright/slotwright/model/LinkType")) }, accessFlags := 9, code := some k11c0 }
def k11c1 : Code := { maxStack := 2, maxLocals := 6, code := prog_16_method_5_code, exceptionTable := #[], attributes := #[] }
def k11m1 : Method := { name := "ofKey", desc := "(Ljava/lang/String;)Lcom/example/slotwright/slotwright/model/LinkType;", sig := { parameters := [(.object "java/lang/String")], returnType := some (.object "com/example/slotwright/slotwright/model/LinkType") }, accessFlags := 9, code := some k11c1 }
/-- com/example/slotwright/slotwright/model/LinkType -/
def k11 : Class := { plain "com/example/slotwright/slotwright/model/LinkType" (some 10) with
  accessFlags := 16433
  interfaces := #[]
  cf := some (fileOf pool11 1 #[] #[{ accessFlags := 9, nameIndex := 38, descriptorIndex := 39, attributes := #[] }, { accessFlags := 9, nameIndex := 77, descriptorIndex := 72, attributes := #[] }] 16433 23 #[] #[{ accessFlags := 16409, nameIndex := 5, descriptorIndex := 6, attributes := #[] }, { accessFlags := 16409, nameIndex := 9, descriptorIndex := 6, attributes := #[] }, { accessFlags := 16409, nameIndex := 12, descriptorIndex := 6, attributes := #[] }, { accessFlags := 18, nameIndex := 34, descriptorIndex := 35, attributes := #[] }, { accessFlags := 4122, nameIndex := 15, descriptorIndex := 16, attributes := #[] }])
  fields := #[{ name := "BEFORE", type := (.object "com/example/slotwright/slotwright/model/LinkType"), accessFlags := 16409, slot := 0, constantValue := 0 }, { name := "MEETS", type := (.object "com/example/slotwright/slotwright/model/LinkType"), accessFlags := 16409, slot := 1, constantValue := 0 }, { name := "CONCURRENT", type := (.object "com/example/slotwright/slotwright/model/LinkType"), accessFlags := 16409, slot := 2, constantValue := 0 }, { name := "key", type := (.object "java/lang/String"), accessFlags := 18, slot := 3, constantValue := 0 }, { name := "$VALUES", type := (.array (.object "com/example/slotwright/slotwright/model/LinkType")), accessFlags := 4122, slot := 3, constantValue := 0 }]
  methods := #[k11m0, k11m1]
  instanceTypes := #[(.object "java/lang/String"), .int, .int, (.object "java/lang/String")]
  staticTypes := #[(.object "com/example/slotwright/slotwright/model/LinkType"), (.object "com/example/slotwright/slotwright/model/LinkType"), (.object "com/example/slotwright/slotwright/model/LinkType"), (.array (.object "com/example/slotwright/slotwright/model/LinkType"))]
  resolved := Array.replicate 86 none
  statics := some 1 }

def pool12 : Array CpInfo := pool [(1, .class_ 2), (0, u "java/lang/Cloneable"), (0, .class_ 4), (0, u "java/lang/Object")] 2

/-- java/lang/Cloneable -/
def k12 : Class := { plain "java/lang/Cloneable" (some 0) with
  accessFlags := 1537
  interfaces := #[]
  cf := some (fileOf pool12 1 #[] #[] 1537 3 #[] #[])
  fields := #[]
  methods := #[]
  instanceTypes := #[]
  staticTypes := #[]
  resolved := Array.replicate 7 none
  statics := none }

def pool13 : Array CpInfo := pool [(2, .class_ 4), (1, u "java/lang/Object"), (0, u "<init>"), (0, u "()V"), (17, .class_ 26), (1, u "jdk/internal/util/Preconditions"), (28, .class_ 56), (0, u "jdk/internal/util/Preconditions$4"), (57, .class_ 115), (0, u "jdk/internal/util/Preconditions$1"), (7, u "SIOOBE_FORMATTER"), (0, u "Ljava/util/function/BiFunction;"), (0, .class_ 126), (0, u "jdk/internal/util/Preconditions$2"), (3, u "AIOOBE_FORMATTER"), (0, .class_ 132), (0, u "jdk/internal/util/Preconditions$3"), (3, u "IOOBE_FORMATTER")] 57

def k13m0 : Method := { name := "<init>", desc := "()V", sig := { parameters := [], returnType := none }, accessFlags := 1, code := none }
/-- jdk/internal/util/Preconditions -/
def k13 : Class := { plain "jdk/internal/util/Preconditions" (some 0) with
  accessFlags := 33
  interfaces := #[]
  cf := some (fileOf pool13 24 #[.nestMembers #[55, 131, 125, 114]] #[{ accessFlags := 1, nameIndex := 5, descriptorIndex := 6, attributes := #[] }] 33 2 #[] #[{ accessFlags := 25, nameIndex := 123, descriptorIndex := 124, attributes := #[] }, { accessFlags := 25, nameIndex := 130, descriptorIndex := 124, attributes := #[] }, { accessFlags := 25, nameIndex := 136, descriptorIndex := 124, attributes := #[] }])
  fields := #[{ name := "SIOOBE_FORMATTER", type := (.object "java/util/function/BiFunction"), accessFlags := 25, slot := 0, constantValue := 0 }, { name := "AIOOBE_FORMATTER", type := (.object "java/util/function/BiFunction"), accessFlags := 25, slot := 1, constantValue := 0 }, { name := "IOOBE_FORMATTER", type := (.object "java/util/function/BiFunction"), accessFlags := 25, slot := 2, constantValue := 0 }]
  methods := #[k13m0]
  instanceTypes := #[]
  staticTypes := #[(.object "java/util/function/BiFunction"), (.object "java/util/function/BiFunction"), (.object "java/util/function/BiFunction")]
  resolved := Array.replicate 194 none
  statics := some 2 }

def pool14 : Array CpInfo := pool [(9, u "<init>"), (6, .class_ 18), (1, u "java/lang/Object"), (0, u "()V"), (1, .class_ 23), (1, u "jdk/internal/util/ArraysSupport"), (0, u "LOG2_ARRAY_LONG_INDEX_SCALE"), (0, u "I"), (2, u "U"), (0, u "Ljdk/internal/misc/Unsafe;"), (8, u "BIG_ENDIAN"), (0, u "Z"), (8, u "LOG2_BYTE_BIT_SIZE"), (4, u "LOG2_ARRAY_INT_INDEX_SCALE"), (54, u "JLA"), (0, u "Ljdk/internal/access/JavaLangAccess;"), (11, u "LOG2_ARRAY_BOOLEAN_INDEX_SCALE"), (9, u "LOG2_ARRAY_BYTE_INDEX_SCALE"), (5, u "LOG2_ARRAY_CHAR_INDEX_SCALE"), (5, u "LOG2_ARRAY_SHORT_INDEX_SCALE"), (18, u "LOG2_ARRAY_FLOAT_INDEX_SCALE"), (24, u "LOG2_ARRAY_DOUBLE_INDEX_SCALE"), (89, u "T_BOOLEAN"), (2, u "T_CHAR"), (1, u "T_FLOAT"), (1, u "T_DOUBLE"), (1, u "T_BYTE"), (1, u "T_SHORT"), (1, u "T_INT"), (1, u "T_LONG"), (1, u "SOFT_MAX_ARRAY_LENGTH")] 83

def k14m0 : Method := { name := "<init>", desc := "()V", sig := { parameters := [], returnType := none }, accessFlags := 2, code := none }
/-- jdk/internal/util/ArraysSupport -/
def k14 : Class := { plain "jdk/internal/util/ArraysSupport" (some 0) with
  accessFlags := 33
  interfaces := #[]
  cf := some (fileOf pool14 21 #[] #[{ accessFlags := 2, nameIndex := 9, descriptorIndex := 19, attributes := #[] }] 33 16 #[] #[{ accessFlags := 24, nameIndex := 28, descriptorIndex := 29, attributes := #[] }, { accessFlags := 26, nameIndex := 38, descriptorIndex := 39, attributes := #[] }, { accessFlags := 25, nameIndex := 121, descriptorIndex := 25, attributes := #[] }, { accessFlags := 25, nameIndex := 131, descriptorIndex := 25, attributes := #[] }, { accessFlags := 25, nameIndex := 137, descriptorIndex := 25, attributes := #[] }, { accessFlags := 25, nameIndex := 143, descriptorIndex := 25, attributes := #[] }, { accessFlags := 25, nameIndex := 53, descriptorIndex := 25, attributes := #[] }, { accessFlags := 25, nameIndex := 24, descriptorIndex := 25, attributes := #[] }, { accessFlags := 25, nameIndex := 162, descriptorIndex := 25, attributes := #[] }, { accessFlags := 25, nameIndex := 187, descriptorIndex := 25, attributes := #[] }, { accessFlags := 26, nameIndex := 48, descriptorIndex := 25, attributes := #[] }, { accessFlags := 25, nameIndex := 277, descriptorIndex := 25, attributes := #[] }, { accessFlags := 25, nameIndex := 280, descriptorIndex := 25, attributes := #[] }, { accessFlags := 25, nameIndex := 282, descriptorIndex := 25, attributes := #[] }, { accessFlags := 25, nameIndex := 284, descriptorIndex := 25, attributes := #[] }, { accessFlags := 25, nameIndex := 286, descriptorIndex := 25, attributes := #[] }, { accessFlags := 25, nameIndex := 288, descriptorIndex := 25, attributes := #[] }, { accessFlags := 25, nameIndex := 290, descriptorIndex := 25, attributes := #[] }, { accessFlags := 25, nameIndex := 292, descriptorIndex := 25, attributes := #[] }, { accessFlags := 26, nameIndex := 108, descriptorIndex := 109, attributes := #[] }, { accessFlags := 25, nameIndex := 294, descriptorIndex := 25, attributes := #[] }])
  fields := #[{ name := "U", type := (.object "jdk/internal/misc/Unsafe"), accessFlags := 24, slot := 0, constantValue := 0 }, { name := "BIG_ENDIAN", type := .boolean, accessFlags := 26, slot := 1, constantValue := 0 }, { name := "LOG2_ARRAY_BOOLEAN_INDEX_SCALE", type := .int, accessFlags := 25, slot := 2, constantValue := 0 }, { name := "LOG2_ARRAY_BYTE_INDEX_SCALE", type := .int, accessFlags := 25, slot := 3, constantValue := 0 }, { name := "LOG2_ARRAY_CHAR_INDEX_SCALE", type := .int, accessFlags := 25, slot := 4, constantValue := 0 }, { name := "LOG2_ARRAY_SHORT_INDEX_SCALE", type := .int, accessFlags := 25, slot := 5, constantValue := 0 }, { name := "LOG2_ARRAY_INT_INDEX_SCALE", type := .int, accessFlags := 25, slot := 6, constantValue := 0 }, { name := "LOG2_ARRAY_LONG_INDEX_SCALE", type := .int, accessFlags := 25, slot := 7, constantValue := 0 }, { name := "LOG2_ARRAY_FLOAT_INDEX_SCALE", type := .int, accessFlags := 25, slot := 8, constantValue := 0 }, { name := "LOG2_ARRAY_DOUBLE_INDEX_SCALE", type := .int, accessFlags := 25, slot := 9, constantValue := 0 }, { name := "LOG2_BYTE_BIT_SIZE", type := .int, accessFlags := 26, slot := 10, constantValue := 0 }, { name := "T_BOOLEAN", type := .int, accessFlags := 25, slot := 11, constantValue := 0 }, { name := "T_CHAR", type := .int, accessFlags := 25, slot := 12, constantValue := 0 }, { name := "T_FLOAT", type := .int, accessFlags := 25, slot := 13, constantValue := 0 }, { name := "T_DOUBLE", type := .int, accessFlags := 25, slot := 14, constantValue := 0 }, { name := "T_BYTE", type := .int, accessFlags := 25, slot := 15, constantValue := 0 }, { name := "T_SHORT", type := .int, accessFlags := 25, slot := 16, constantValue := 0 }, { name := "T_INT", type := .int, accessFlags := 25, slot := 17, constantValue := 0 }, { name := "T_LONG", type := .int, accessFlags := 25, slot := 18, constantValue := 0 }, { name := "JLA", type := (.object "jdk/internal/access/JavaLangAccess"), accessFlags := 26, slot := 19, constantValue := 0 }, { name := "SOFT_MAX_ARRAY_LENGTH", type := .int, accessFlags := 25, slot := 20, constantValue := 0 }]
  methods := #[k14m0]
  instanceTypes := #[]
  staticTypes := #[(.object "jdk/internal/misc/Unsafe"), .boolean, .int, .int, .int, .int, .int, .int, .int, .int, .int, .int, .int, .int, .int, .int, .int, .int, .int, (.object "jdk/internal/access/JavaLangAccess"), .int]
  resolved := Array.replicate 378 none
  statics := none }

/-- the primitive byte -/
def k15 : Class := { plain "byte" none with kind := .primitive 'B', accessFlags := 0x411 }
/-- [B -/
def k16 : Class := { plain "[B" (some 0) with kind := .array 15 .byte, interfaces := #[12, 2], accessFlags := 1041 }

/-- the primitive char -/
def k17 : Class := { plain "char" none with kind := .primitive 'C', accessFlags := 0x411 }
/-- [C -/
def k18 : Class := { plain "[C" (some 0) with kind := .array 17 .char, interfaces := #[12, 2], accessFlags := 1041 }

/-- the primitive int -/
def k19 : Class := { plain "int" none with kind := .primitive 'I', accessFlags := 0x411 }
/-- [I -/
def k20 : Class := { plain "[I" (some 0) with kind := .array 19 .int, interfaces := #[12, 2], accessFlags := 1041 }

/-- [Lcom/example/slotwright/slotwright/model/LinkType; -/
def k21 : Class := { plain "[Lcom/example/slotwright/slotwright/model/LinkType;" (some 0) with kind := .array 11 (.object "com/example/slotwright/slotwright/model/LinkType"), interfaces := #[12, 2], accessFlags := 1041 }

def heap : Heap := #[{ cls := 7, slots := #[.long 0, .int 1, .null, .int 0, .null, .int 0, .int 0], vm := .statics 7 },
  { cls := 11, slots := #[.ref 4, .ref 5, .ref 6, .ref 3], vm := .statics 11 },
  { cls := 13, slots := #[.null, .null, .null], vm := .statics 13 },
  { cls := 21, slots := #[.ref 4, .ref 5, .ref 6], vm := .none },
  { cls := 11, slots := #[.null, .int 0, .int 0, .ref 7], vm := .none },
  { cls := 11, slots := #[.null, .int 1, .int 0, .ref 8], vm := .none },
  { cls := 11, slots := #[.null, .int 2, .int 0, .ref 9], vm := .none },
  { cls := 7, slots := #[.ref 10, .int 0, .int 0, .int 0], vm := .none },
  { cls := 7, slots := #[.ref 11, .int 0, .int 0, .int 0], vm := .none },
  { cls := 7, slots := #[.ref 12, .int 0, .int 0, .int 0], vm := .none },
  { cls := 16, slots := #[.int 98, .int 101, .int 102, .int 111, .int 114, .int 101], vm := .none },
  { cls := 16, slots := #[.int 109, .int 101, .int 101, .int 116, .int 115], vm := .none },
  { cls := 16, slots := #[.int 99, .int 111, .int 110, .int 99, .int 117, .int 114, .int 114, .int 101, .int 110, .int 116], vm := .none }]
def classes : Array Class := #[k0, k1, k2, k3, k4, k5, k6, k7, k8, k9, k10, k11, k12, k13, k14, k15, k16, k17, k18, k19, k20, k21]
def interned : List (Array UInt16 × Addr) := []
def slotsUsed : Nat := 62
def theMethod : MethodId := ⟨1, 1⟩
def args0 : Array Value := #[.int 5, .int 6, .int 7]
def aboutOver (below : List Frame) : State where
  vm := { classes := classes, interned := interned.toArray }
  heap := heap
  slotsUsed := slotsUsed
  threads := #[{ frames := .invoking theMethod args0 :: below }]
def below0 : List Frame := [.native { method := ⟨0, 0⟩, args := #[] }]
def about1 : State := aboutOver below0
def p0 : Program := .bare "" "" ""
def e0 : Env := launch0.env 0 0 0
theorem w_frames : about1.frames = Frame.invoking theMethod args0 :: below0 := rfl
set_option maxRecDepth 65536 in
theorem w_args : argsFit about1.vm theMethod args0 = true := by decide +kernel
set_option maxRecDepth 65536 in
theorem w_heap : heapFits about1 = true := by decide +kernel
set_option maxRecDepth 65536 in
theorem w_runnable : about1.curStatus? = some .runnable := by decide +kernel
set_option maxRecDepth 65536 in
theorem w_alone : about1.alone = true := by decide +kernel
set_option maxRecDepth 65536 in
theorem w_named : about1.methodNamed? x = some theMethod := by decide +kernel
set_option maxRecDepth 65536 in
theorem w_hears : about1.hears theMethod below0 = true := by decide +kernel
set_option maxRecDepth 65536 in
theorem w_ripe : about1.ripe theMethod args0 below0 = true := by decide +kernel
theorem w_running : about1.status = .running := rfl
set_option maxRecDepth 65536 in
theorem w_room : about1.hasRoom e0.platform room_1 = true :=
  launch0.hasRoom_least _ room_1 (by decide +kernel) (by decide +kernel) (by decide +kernel) (by decide +kernel) (by decide +kernel) (by decide +kernel)
theorem allAtoms_all (ts : List Jvm.Cond) (a : Array Jvm.Value) (st : Jvm.State) : (allAtoms ts).before a st = ts.all (fun c => c.before a st) := by
  induction ts with
  | nil => rfl
  | cons c t ih =>
    show (Jvm.Cond.and c (allAtoms t)).before a st = _
    rw [Jvm.Cond.before_and, ih, List.all_cons]
def words1 : List Jvm.Cond := Jvm.Cond.code x code maxLocals ret :: tables_1
/-- a 'code' word, met by the world's own term for the bytes: nothing is compared byte by byte -/
theorem code_word {y : MethodName} {bytes : ByteArray} {mx : Nat} {rt : Option FieldType} {a : Array Value} {s : State} {m : MethodId} {meth : Method} {c : Code} (h1 : s.methodNamed? y = some m) (h2 : s.vm.method? m = some meth) (h3 : meth.code = some c) (h4 : c.code = bytes)
    (h5 : (c.maxLocals == mx && c.exceptionTable.isEmpty && decide (c.maxStack ≤ mostOperands) && decide (meth.sig.returnType = rt) && !meth.locks && decide (parseMethodDescriptor y.desc = some meth.sig)) = true) : (Jvm.Cond.code y bytes mx rt).before a s = true := by
  simp only [Bool.and_eq_true, beq_iff_eq, Bool.not_eq_true', decide_eq_true_eq] at h5
  obtain ⟨⟨⟨⟨⟨g1, g2⟩, g3⟩, g4⟩, g5⟩, g6⟩ := h5
  simp [Cond.before, Cond.holds, Cond.value, h1, h2, h3, h4, g1, g2, g3, g4, g5, g6]
def isCode : Jvm.Cond → Bool
  | .code _ _ _ _ => true
  | _ => false
theorem all_split {L : List Jvm.Cond} {P : Jvm.Cond → Bool} (h1 : L.all (fun c => isCode c || P c) = true) (h2 : ∀ c ∈ L.filter isCode, P c = true) : L.all P = true := by
  refine List.all_eq_true.mpr fun c hc => ?_
  have h := List.all_eq_true.mp h1 c hc
  rcases Bool.eq_false_or_eq_true (isCode c) with hi | hi
  · exact h2 c (List.mem_filter.mpr ⟨hc, hi⟩)
  · simpa [hi] using h
set_option maxRecDepth 65536 in
theorem w_c0 : (Jvm.Cond.code x code maxLocals ret).before args0 about1 = true := code_word (m := ⟨1, 1⟩) (meth := k1m1) (c := k1c1) (by decide +kernel) rfl rfl rfl (by decide +kernel)
set_option maxRecDepth 65536 in
theorem w_c1 : (Jvm.Cond.code ({ cls := "com/example/slotwright/slotwright/model/LinkTypeOfKeyPinLaw", name := "keyChars", desc := "(I)[C" } : Jvm.MethodName) method_4_code (1 : Nat) (Option.some (Jvm.ClassFile.FieldType.array Jvm.ClassFile.FieldType.char))).before args0 about1 = true := code_word (m := ⟨1, 3⟩) (meth := k1m3) (c := k1c3) (by decide +kernel) rfl rfl rfl (by decide +kernel)
set_option maxRecDepth 65536 in
theorem w_c2 : (Jvm.Cond.code ({ cls := "java/lang/String", name := "<init>", desc := "([C)V" } : Jvm.MethodName) jdk_42_method_3_code (2 : Nat) (Option.none : Option Jvm.ClassFile.FieldType)).before args0 about1 = true := code_word (m := ⟨7, 1⟩) (meth := k7m1) (c := k7c1) (by decide +kernel) rfl rfl rfl (by decide +kernel)
set_option maxRecDepth 65536 in
theorem w_c3 : (Jvm.Cond.code ({ cls := "java/lang/String", name := "<init>", desc := "([CIILjava/lang/Void;)V" } : Jvm.MethodName) jdk_42_method_149_code (6 : Nat) (Option.none : Option Jvm.ClassFile.FieldType)).before args0 about1 = true := code_word (m := ⟨7, 4⟩) (meth := k7m4) (c := k7c4) (by decide +kernel) rfl rfl rfl (by decide +kernel)
set_option maxRecDepth 65536 in
theorem w_c4 : (Jvm.Cond.code ({ cls := "java/lang/Object", name := "<init>", desc := "()V" } : Jvm.MethodName) object_method_1_code (1 : Nat) (Option.none : Option Jvm.ClassFile.FieldType)).before args0 about1 = true := code_word (m := ⟨0, 0⟩) (meth := k0m0) (c := k0c0) (by decide +kernel) rfl rfl rfl (by decide +kernel)
set_option maxRecDepth 65536 in
theorem w_c5 : (Jvm.Cond.code ({ cls := "java/lang/StringUTF16", name := "compress", desc := "([CII)[B" } : Jvm.MethodName) jdk_52_method_16_code (6 : Nat) (Option.some (Jvm.ClassFile.FieldType.array Jvm.ClassFile.FieldType.byte))).before args0 about1 = true := code_word (m := ⟨8, 2⟩) (meth := k8m2) (c := k8c2) (by decide +kernel) rfl rfl rfl (by decide +kernel)
set_option maxRecDepth 65536 in
theorem w_c6 : (Jvm.Cond.code ({ cls := "java/lang/StringUTF16", name := "compress", desc := "([CI[BII)I" } : Jvm.MethodName) jdk_52_method_21_code (7 : Nat) (Option.some Jvm.ClassFile.FieldType.int)).before args0 about1 = true := code_word (m := ⟨8, 3⟩) (meth := k8m3) (c := k8c3) (by decide +kernel) rfl rfl rfl (by decide +kernel)
set_option maxRecDepth 65536 in
theorem w_c7 : (Jvm.Cond.code ({ cls := "java/lang/StringUTF16", name := "coderFromArrayLen", desc := "([BI)B" } : Jvm.MethodName) jdk_52_method_15_code (2 : Nat) (Option.some Jvm.ClassFile.FieldType.byte)).before args0 about1 = true := code_word (m := ⟨8, 1⟩) (meth := k8m1) (c := k8c1) (by decide +kernel) rfl rfl rfl (by decide +kernel)
set_option maxRecDepth 65536 in
theorem w_c8 : (Jvm.Cond.code ({ cls := "com/example/slotwright/slotwright/model/LinkTypeOfKeyPinLaw", name := "reference", desc := "(Ljava/lang/String;)Lcom/example/slotwright/slotwright/model/LinkType;" } : Jvm.MethodName) method_3_code (1 : Nat) (Option.some (Jvm.ClassFile.FieldType.object "com/example/slotwright/slotwright/model/LinkType"))).before args0 about1 = true := code_word (m := ⟨1, 2⟩) (meth := k1m2) (c := k1c2) (by decide +kernel) rfl rfl rfl (by decide +kernel)
set_option maxRecDepth 65536 in
theorem w_c9 : (Jvm.Cond.code ({ cls := "java/lang/String", name := "equals", desc := "(Ljava/lang/Object;)Z" } : Jvm.MethodName) jdk_42_method_66_code (3 : Nat) (Option.some Jvm.ClassFile.FieldType.boolean)).before args0 about1 = true := code_word (m := ⟨7, 2⟩) (meth := k7m2) (c := k7c2) (by decide +kernel) rfl rfl rfl (by decide +kernel)
set_option maxRecDepth 65536 in
theorem w_c10 : (Jvm.Cond.code ({ cls := "java/lang/StringLatin1", name := "equals", desc := "([B[B)Z" } : Jvm.MethodName) jdk_43_method_13_code (3 : Nat) (Option.some Jvm.ClassFile.FieldType.boolean)).before args0 about1 = true := code_word (m := ⟨9, 2⟩) (meth := k9m2) (c := k9c2) (by decide +kernel) rfl rfl rfl (by decide +kernel)
set_option maxRecDepth 65536 in
theorem w_c11 : (Jvm.Cond.code ({ cls := "com/example/slotwright/slotwright/model/LinkType", name := "ofKey", desc := "(Ljava/lang/String;)Lcom/example/slotwright/slotwright/model/LinkType;" } : Jvm.MethodName) prog_16_method_5_code (6 : Nat) (Option.some (Jvm.ClassFile.FieldType.object "com/example/slotwright/slotwright/model/LinkType"))).before args0 about1 = true := code_word (m := ⟨11, 1⟩) (meth := k11m1) (c := k11c1) (by decide +kernel) rfl rfl rfl (by decide +kernel)
set_option maxRecDepth 65536 in
theorem w_c12 : (Jvm.Cond.code ({ cls := "com/example/slotwright/slotwright/model/LinkType", name := "values", desc := "()[Lcom/example/slotwright/slotwright/model/LinkType;" } : Jvm.MethodName) prog_16_method_1_code (0 : Nat) (Option.some (Jvm.ClassFile.FieldType.array (Jvm.ClassFile.FieldType.object "com/example/slotwright/slotwright/model/LinkType")))).before args0 about1 = true := code_word (m := ⟨11, 0⟩) (meth := k11m0) (c := k11c0) (by decide +kernel) rfl rfl rfl (by decide +kernel)
set_option maxRecDepth 65536 in
theorem w_c13 : (Jvm.Cond.code ({ cls := "com/example/slotwright/slotwright/model/LinkTypeOfKeyPinLaw", name := "extended", desc := "(IC)[C" } : Jvm.MethodName) method_5_code (2 : Nat) (Option.some (Jvm.ClassFile.FieldType.array Jvm.ClassFile.FieldType.char))).before args0 about1 = true := code_word (m := ⟨1, 4⟩) (meth := k1m4) (c := k1c4) (by decide +kernel) rfl rfl rfl (by decide +kernel)
set_option maxRecDepth 65536 in
theorem w_c14 : (Jvm.Cond.code ({ cls := "com/example/slotwright/slotwright/model/LinkTypeOfKeyPinLaw", name := "truncated", desc := "(I)[C" } : Jvm.MethodName) method_6_code (1 : Nat) (Option.some (Jvm.ClassFile.FieldType.array Jvm.ClassFile.FieldType.char))).before args0 about1 = true := code_word (m := ⟨1, 5⟩) (meth := k1m5) (c := k1c5) (by decide +kernel) rfl rfl rfl (by decide +kernel)
set_option maxRecDepth 65536 in
theorem w_c15 : (Jvm.Cond.code ({ cls := "com/example/slotwright/slotwright/model/LinkTypeOfKeyPinLaw", name := "drawn", desc := "(II)Ljava/lang/String;" } : Jvm.MethodName) method_7_code (5 : Nat) (Option.some (Jvm.ClassFile.FieldType.object "java/lang/String"))).before args0 about1 = true := code_word (m := ⟨1, 6⟩) (meth := k1m6) (c := k1c6) (by decide +kernel) rfl rfl rfl (by decide +kernel)
set_option maxRecDepth 65536 in
theorem w_c16 : (Jvm.Cond.code ({ cls := "java/lang/String", name := "valueOf", desc := "(C)Ljava/lang/String;" } : Jvm.MethodName) jdk_42_method_139_code (1 : Nat) (Option.some (Jvm.ClassFile.FieldType.object "java/lang/String"))).before args0 about1 = true := code_word (m := ⟨7, 3⟩) (meth := k7m3) (c := k7c3) (by decide +kernel) rfl rfl rfl (by decide +kernel)
set_option maxRecDepth 65536 in
theorem w_c17 : (Jvm.Cond.code ({ cls := "java/lang/StringLatin1", name := "canEncode", desc := "(C)Z" } : Jvm.MethodName) jdk_43_method_3_code (1 : Nat) (Option.some Jvm.ClassFile.FieldType.boolean)).before args0 about1 = true := code_word (m := ⟨9, 1⟩) (meth := k9m1) (c := k9c1) (by decide +kernel) rfl rfl rfl (by decide +kernel)
set_option maxRecDepth 65536 in
theorem w_c18 : (Jvm.Cond.code ({ cls := "java/lang/StringLatin1", name := "toBytes", desc := "(C)[B" } : Jvm.MethodName) jdk_43_method_46_code (1 : Nat) (Option.some (Jvm.ClassFile.FieldType.array Jvm.ClassFile.FieldType.byte))).before args0 about1 = true := code_word (m := ⟨9, 3⟩) (meth := k9m3) (c := k9c3) (by decide +kernel) rfl rfl rfl (by decide +kernel)
set_option maxRecDepth 65536 in
theorem w_c19 : (Jvm.Cond.code ({ cls := "java/lang/String", name := "<init>", desc := "([BB)V" } : Jvm.MethodName) jdk_42_method_151_code (3 : Nat) (Option.none : Option Jvm.ClassFile.FieldType)).before args0 about1 = true := code_word (m := ⟨7, 5⟩) (meth := k7m5) (c := k7c5) (by decide +kernel) rfl rfl rfl (by decide +kernel)
def codes1 : List Jvm.Cond := [Jvm.Cond.code x code maxLocals ret, Jvm.Cond.code ({ cls := "com/example/slotwright/slotwright/model/LinkTypeOfKeyPinLaw", name := "keyChars", desc := "(I)[C" } : Jvm.MethodName) method_4_code (1 : Nat) (Option.some (Jvm.ClassFile.FieldType.array Jvm.ClassFile.FieldType.char)), Jvm.Cond.code ({ cls := "java/lang/String", name := "<init>", desc := "([C)V" } : Jvm.MethodName) jdk_42_method_3_code (2 : Nat) (Option.none : Option Jvm.ClassFile.FieldType), Jvm.Cond.code ({ cls := "java/lang/String", name := "<init>", desc := "([CIILjava/lang/Void;)V" } : Jvm.MethodName) jdk_42_method_149_code (6 : Nat) (Option.none : Option Jvm.ClassFile.FieldType), Jvm.Cond.code ({ cls := "java/lang/Object", name := "<init>", desc := "()V" } : Jvm.MethodName) object_method_1_code (1 : Nat) (Option.none : Option Jvm.ClassFile.FieldType), Jvm.Cond.code ({ cls := "java/lang/StringUTF16", name := "compress", desc := "([CII)[B" } : Jvm.MethodName) jdk_52_method_16_code (6 : Nat) (Option.some (Jvm.ClassFile.FieldType.array Jvm.ClassFile.FieldType.byte)), Jvm.Cond.code ({ cls := "java/lang/StringUTF16", name := "compress", desc := "([CI[BII)I" } : Jvm.MethodName) jdk_52_method_21_code (7 : Nat) (Option.some Jvm.ClassFile.FieldType.int), Jvm.Cond.code ({ cls := "java/lang/StringUTF16", name := "coderFromArrayLen", desc := "([BI)B" } : Jvm.MethodName) jdk_52_method_15_code (2 : Nat) (Option.some Jvm.ClassFile.FieldType.byte), Jvm.Cond.code ({ cls := "com/example/slotwright/slotwright/model/LinkTypeOfKeyPinLaw", name := "reference", desc := "(Ljava/lang/String;)Lcom/example/slotwright/slotwright/model/LinkType;" } : Jvm.MethodName) method_3_code (1 : Nat) (Option.some (Jvm.ClassFile.FieldType.object "com/example/slotwright/slotwright/model/LinkType")), Jvm.Cond.code ({ cls := "java/lang/String", name := "equals", desc := "(Ljava/lang/Object;)Z" } : Jvm.MethodName) jdk_42_method_66_code (3 : Nat) (Option.some Jvm.ClassFile.FieldType.boolean), Jvm.Cond.code ({ cls := "java/lang/StringLatin1", name := "equals", desc := "([B[B)Z" } : Jvm.MethodName) jdk_43_method_13_code (3 : Nat) (Option.some Jvm.ClassFile.FieldType.boolean), Jvm.Cond.code ({ cls := "com/example/slotwright/slotwright/model/LinkType", name := "ofKey", desc := "(Ljava/lang/String;)Lcom/example/slotwright/slotwright/model/LinkType;" } : Jvm.MethodName) prog_16_method_5_code (6 : Nat) (Option.some (Jvm.ClassFile.FieldType.object "com/example/slotwright/slotwright/model/LinkType")), Jvm.Cond.code ({ cls := "com/example/slotwright/slotwright/model/LinkType", name := "values", desc := "()[Lcom/example/slotwright/slotwright/model/LinkType;" } : Jvm.MethodName) prog_16_method_1_code (0 : Nat) (Option.some (Jvm.ClassFile.FieldType.array (Jvm.ClassFile.FieldType.object "com/example/slotwright/slotwright/model/LinkType"))), Jvm.Cond.code ({ cls := "com/example/slotwright/slotwright/model/LinkTypeOfKeyPinLaw", name := "extended", desc := "(IC)[C" } : Jvm.MethodName) method_5_code (2 : Nat) (Option.some (Jvm.ClassFile.FieldType.array Jvm.ClassFile.FieldType.char)), Jvm.Cond.code ({ cls := "com/example/slotwright/slotwright/model/LinkTypeOfKeyPinLaw", name := "truncated", desc := "(I)[C" } : Jvm.MethodName) method_6_code (1 : Nat) (Option.some (Jvm.ClassFile.FieldType.array Jvm.ClassFile.FieldType.char)), Jvm.Cond.code ({ cls := "com/example/slotwright/slotwright/model/LinkTypeOfKeyPinLaw", name := "drawn", desc := "(II)Ljava/lang/String;" } : Jvm.MethodName) method_7_code (5 : Nat) (Option.some (Jvm.ClassFile.FieldType.object "java/lang/String")), Jvm.Cond.code ({ cls := "java/lang/String", name := "valueOf", desc := "(C)Ljava/lang/String;" } : Jvm.MethodName) jdk_42_method_139_code (1 : Nat) (Option.some (Jvm.ClassFile.FieldType.object "java/lang/String")), Jvm.Cond.code ({ cls := "java/lang/StringLatin1", name := "canEncode", desc := "(C)Z" } : Jvm.MethodName) jdk_43_method_3_code (1 : Nat) (Option.some Jvm.ClassFile.FieldType.boolean), Jvm.Cond.code ({ cls := "java/lang/StringLatin1", name := "toBytes", desc := "(C)[B" } : Jvm.MethodName) jdk_43_method_46_code (1 : Nat) (Option.some (Jvm.ClassFile.FieldType.array Jvm.ClassFile.FieldType.byte)), Jvm.Cond.code ({ cls := "java/lang/String", name := "<init>", desc := "([BB)V" } : Jvm.MethodName) jdk_42_method_151_code (3 : Nat) (Option.none : Option Jvm.ClassFile.FieldType)]
set_option maxRecDepth 65536 in
theorem codes_eq : words1.filter isCode = codes1 := rfl
theorem w_codes : ∀ c ∈ words1.filter isCode, c.before args0 about1 = true := by
  rw [codes_eq]
  intro c hc
  simp only [codes1, List.mem_cons, List.not_mem_nil, or_false] at hc
  rcases hc with rfl | rfl | rfl | rfl | rfl | rfl | rfl | rfl | rfl | rfl | rfl | rfl | rfl | rfl | rfl | rfl | rfl | rfl | rfl | rfl
  · exact w_c0
  · exact w_c1
  · exact w_c2
  · exact w_c3
  · exact w_c4
  · exact w_c5
  · exact w_c6
  · exact w_c7
  · exact w_c8
  · exact w_c9
  · exact w_c10
  · exact w_c11
  · exact w_c12
  · exact w_c13
  · exact w_c14
  · exact w_c15
  · exact w_c16
  · exact w_c17
  · exact w_c18
  · exact w_c19
set_option maxRecDepth 65536 in
theorem w_t1 : (words1.take 24).all (fun c => isCode c || c.before args0 about1) = true := by decide +kernel
set_option maxRecDepth 65536 in
theorem w_t2 : ((words1.drop 24).take 24).all (fun c => isCode c || c.before args0 about1) = true := by decide +kernel
set_option maxRecDepth 65536 in
theorem w_t3 : (((words1.drop 24).drop 24).take 24).all (fun c => isCode c || c.before args0 about1) = true := by decide +kernel
set_option maxRecDepth 65536 in
theorem w_t4 : ((((words1.drop 24).drop 24).drop 24).take 24).all (fun c => isCode c || c.before args0 about1) = true := by decide +kernel
set_option maxRecDepth 65536 in
theorem w_t5 : ((((words1.drop 24).drop 24).drop 24).drop 24).all (fun c => isCode c || c.before args0 about1) = true := by decide +kernel
theorem w_tables : (allAtoms (Jvm.Cond.code x code maxLocals ret :: tables_1)).before args0 about1 = true := by
  rw [allAtoms_all]
  show words1.all (fun c => c.before args0 about1) = true
  refine all_split ?_ w_codes
  rw [← List.take_append_drop 24 words1, List.all_append, w_t1, ← List.take_append_drop 24 (words1.drop 24), List.all_append, w_t2, ← List.take_append_drop 24 ((words1.drop 24).drop 24), List.all_append, w_t3, ← List.take_append_drop 24 (((words1.drop 24).drop 24).drop 24), List.all_append, w_t4, w_t5]
  rfl
set_option maxRecDepth 65536 in
theorem w_rest : rest_1_c.before args0 about1 = true := by decide +kernel
set_option maxRecDepth 65536 in
theorem w_case : (Jvm.Cond.and given_1 narrow_1).before args0 about1 = true := by decide +kernel
set_option maxRecDepth 65536 in
theorem w_consts : constsHeld consts_1 about1 := Jvm.Lit.constsHeldB_iff.mp (by decide +kernel)
theorem w_applies : (headSpec (Jvm.Cond.code x code maxLocals ret :: tables_1) room_1).applies x e0.platform about1 = true :=
  (Spec.applies_iff w_frames).mpr ⟨w_running, w_runnable, w_alone, w_named, w_hears, w_ripe, w_room, w_tables⟩
theorem atStart : AtStart classFile x code maxLocals ret World_1 tables_1 room_1 Calls_1 rest_1 Pre_1 launch0 p0 e0 about1 theMethod args0 below0 :=
  ⟨lists_1, trivial, launch0.admits_env _ _ _, launch0.least_env, fairChoices_fair.cas, fairChoices_fair.clock, w_frames, w_args, w_heap, w_applies, ⟨w_consts, trivial⟩, w_rest, w_case⟩
end start1
theorem witness_1 : WitnessClaimed_1 := ⟨start1.p0, start1.e0, start1.about1, start1.theMethod, start1.args0, start1.below0, start1.atStart⟩
end Jvm.Pilot.@@N@@
