import JvmDerived
import JvmDerived.Pilot.@@N@@Statement
import JvmDerived.Pilot.@@N@@Code
set_option linter.unusedVariables false
set_option linter.unusedSimpArgs false
namespace Jvm.Pilot.@@N@@
open Jvm Jvm.ClassFile Sem Op Lib Jvm.Free Jvm.Stand Jvm.LawKit Jvm.RoadKit Bundle Jvm.Pilot.@@N@@.Jvm.D
set_option maxRecDepth 65536
set_option maxHeartbeats 40000000
section OwnGo
variable {p : Program} {l : Launch} {e : Env} {R : Room} {s : State} {m : MethodId} {args : Array Value} {below : List Frame} {meth : Method} {c : Code} {T : State} {locs : List Loc} {cells slots : Nat} {Q : Option Value → Heap → List Loc → Prop} {kc ks : Nat}
/-- from this state the body runs to its return, and Q holds of what it leaves -/
def own_Go (p : Program) (e : Env) (below : List Frame) (s : State) (Q : Option Value → Heap → List Loc → Prop) (kc ks : Nat) (S : State) : Prop :=
  ∃ s₂ o, Steps p.tables e below S s₂ ∧ s₂.status = .running ∧ Ended s₂ below o ∧ ∃ v L, o = .returned v ∧ Q v s₂.heap L ∧ FrameEnd s o s₂ L kc ks
theorem own_st {A B : State} (f : ∀ t, Steps p.tables e below A t → Steps p.tables e below B t) (h : own_Go p e below s Q kc ks A) : own_Go p e below s Q kc ks B := by
  obtain ⟨s₂, o, h1, h2⟩ := h
  exact ⟨s₂, o, f _ h1, h2⟩
theorem own_mono {S : State} {Q' : Option Value → Heap → List Loc → Prop} (h : own_Go p e below s Q kc ks S) (f : ∀ v h L, Q v h L → Q' v h L) : own_Go p e below s Q' kc ks S := by
  obtain ⟨s₂, o, h1, h2, h3, v, L, h4, h5, h6⟩ := h
  exact ⟨s₂, o, h1, h2, h3, v, L, h4, f _ _ _ h5, h6⟩
theorem own_retN (X : Stand p l e R s m args below meth c T locs cells slots) (hx : p.tables.exec = Jvm.exec) (hlk : meth.locks = false) {pc : Nat} {Ls : Array Slot} {z : Int32} {t : FieldType} {rest : List Value} (hret : meth.sig.returnType = some t) (ht : t = .boolean ∨ t = .byte ∨ t = .char ∨ t = .short)
    (hd : decode c.code pc = .ok (.ireturn, 1)) (hq : Q (some (.int (nar t z))) T.heap locs) (hc : cells ≤ kc) (hs : slots ≤ ks) : own_Go p e below s Q kc ks (T.setTop (mkF m pc Ls (.int z :: rest))) := by
  obtain ⟨fs, hr, hrun, hended, hW, hsame⟩ := X.leave (v := some (.int (nar t z))) (fun h => by rw [hret] at h; cases h) hlk
  exact ⟨_, _, retN X hx hret ht hd hr, hrun, hended, _, _, rfl, hq, ⟨_, rfl⟩, hW, hsame.mono hc hs⟩
theorem own_retI (X : Stand p l e R s m args below meth c T locs cells slots) (hx : p.tables.exec = Jvm.exec) (hlk : meth.locks = false) {pc : Nat} {Ls : Array Slot} {z : Int32} {rest : List Value} (hret : meth.sig.returnType = some .int)
    (hd : decode c.code pc = .ok (.ireturn, 1)) (hq : Q (some (.int z)) T.heap locs) (hc : cells ≤ kc) (hs : slots ≤ ks) : own_Go p e below s Q kc ks (T.setTop (mkF m pc Ls (.int z :: rest))) := by
  obtain ⟨fs, hr, hrun, hended, hW, hsame⟩ := X.leave (v := some (.int z)) (fun h => by rw [hret] at h; cases h) hlk
  exact ⟨_, _, retOut X hx hret rfl (Or.inl ⟨rfl, Or.inl rfl, z, rfl⟩) hd hr, hrun, hended, _, _, rfl, hq, ⟨_, rfl⟩, hW, hsame.mono hc hs⟩
theorem own_retJ (X : Stand p l e R s m args below meth c T locs cells slots) (hx : p.tables.exec = Jvm.exec) (hlk : meth.locks = false) {pc : Nat} {Ls : Array Slot} {z : Int64} {rest : List Value} (hret : meth.sig.returnType = some .long)
    (hd : decode c.code pc = .ok (.lreturn, 1)) (hq : Q (some (.long z)) T.heap locs) (hc : cells ≤ kc) (hs : slots ≤ ks) : own_Go p e below s Q kc ks (T.setTop (mkF m pc Ls (.long z :: rest))) := by
  obtain ⟨fs, hr, hrun, hended, hW, hsame⟩ := X.leave (v := some (.long z)) (fun h => by rw [hret] at h; cases h) hlk
  exact ⟨_, _, retOut X hx hret rfl (Or.inr (Or.inl ⟨rfl, rfl, z, rfl⟩)) hd hr, hrun, hended, _, _, rfl, hq, ⟨_, rfl⟩, hW, hsame.mono hc hs⟩
theorem own_retD (X : Stand p l e R s m args below meth c T locs cells slots) (hx : p.tables.exec = Jvm.exec) (hlk : meth.locks = false) {pc : Nat} {Ls : Array Slot} {z : UInt64} {rest : List Value} (hret : meth.sig.returnType = some .double)
    (hd : decode c.code pc = .ok (.dreturn, 1)) (hq : Q (some (.double z)) T.heap locs) (hc : cells ≤ kc) (hs : slots ≤ ks) : own_Go p e below s Q kc ks (T.setTop (mkF m pc Ls (.double z :: rest))) := by
  obtain ⟨fs, hr, hrun, hended, hW, hsame⟩ := X.leave (v := some (.double z)) (fun h => by rw [hret] at h; cases h) hlk
  exact ⟨_, _, retOut X hx hret rfl (Or.inr (Or.inr (Or.inl ⟨rfl, rfl, z, rfl⟩))) hd hr, hrun, hended, _, _, rfl, hq, ⟨_, rfl⟩, hW, hsame.mono hc hs⟩
theorem own_retA (X : Stand p l e R s m args below meth c T locs cells slots) (hx : p.tables.exec = Jvm.exec) (hlk : meth.locks = false) {pc : Nat} {Ls : Array Slot} {w : Value} {t : FieldType} {rest : List Value} (hret : meth.sig.returnType = some t) (ht : t.isReference = true) (hw : w.isRef = true)
    (hd : decode c.code pc = .ok (.areturn, 1)) (hq : Q (some w) T.heap locs) (hc : cells ≤ kc) (hs : slots ≤ ks) : own_Go p e below s Q kc ks (T.setTop (mkF m pc Ls (w :: rest))) := by
  obtain ⟨fs, hr, hrun, hended, hW, hsame⟩ := X.leave (v := some w) (fun h => by rw [hret] at h; cases h) hlk
  exact ⟨_, _, retOut X hx hret (by rcases ref_cases hw with rfl | ⟨a, rfl⟩ <;> cases t <;> first | rfl | cases ht) (Or.inr (Or.inr (Or.inr (Or.inr ⟨rfl, ht, hw⟩)))) hd hr, hrun, hended, _, _, rfl, hq, ⟨_, rfl⟩, hW, hsame.mono hc hs⟩
theorem own_retV (X : Stand p l e R s m args below meth c T locs cells slots) (hx : p.tables.exec = Jvm.exec) (hlk : meth.locks = false) {pc : Nat} {Ls : Array Slot} (hret : meth.sig.returnType = none)
    (hd : decode c.code pc = .ok (.return_, 1)) (hq : Q none T.heap locs) (hc : cells ≤ kc) (hs : slots ≤ ks) : own_Go p e below s Q kc ks (T.setTop (mkF m pc Ls [])) := by
  obtain ⟨fs, hr, hrun, hended, hW, hsame⟩ := X.leave (v := none) (fun _ => rfl) hlk
  exact ⟨_, _, X.returnOut hx hret hd hr, hrun, hended, _, _, rfl, hq, ⟨_, rfl⟩, hW, hsame.mono hc hs⟩
end OwnGo
section OwnWords
variable {args : Array Value} {s : State} {t i : Term} {a b : Addr} {C n d : String} {k : Int32} {cl : Cell} {ty : FieldType}
theorem own_fldI (ev : t.eval args s none [] s = some (.ref a)) (h : (Jvm.Cond.eq (Term.field t C n d) (Term.int k)).value args s none s [] = some true) : Fld s s.heap a C n d (.int k) := by
  have e1 := fld_at (C := C) (n := n) (dd := d) ev
  have e2 := Term.int_eval (args := args) (first := s) (o := none) (idx := []) (s := s) k
  refine Fld.start ?_
  cases hv : s.fieldOf? a C n d with
  | none => rw [hv] at e1; simp [Jvm.Cond.value, e1] at h
  | some v => rw [hv] at e1; cases v <;> simp [Jvm.Cond.value, e1, e2] at h; rw [h]
theorem own_len (ev : t.eval args s none [] s = some (.ref a)) (A : Arr s s.heap a cl ty) (h : (Jvm.Cond.eq (Term.length t) (Term.int k)).value args s none s [] = some true) : cl.slots.size < 2 ^ 31 ∧ cl.slots.size.toInt32 = k := by
  have e2 := Term.int_eval (args := args) (first := s) (o := none) (idx := []) (s := s) k
  have e0 := A.fin (Vm.Alike.refl _)
  by_cases hl : cl.slots.size < 2 ^ 31
  · have e1 := len_f ev e0 hl
    simp [Jvm.Cond.value, e1, e2] at h
    exact ⟨hl, h⟩
  · have e1 : (Term.length t).eval args s none [] s = none := by simp [Term.eval, ev, e0]; omega
    simp [Jvm.Cond.value, e1] at h
theorem own_elem {v : Value} (ev : t.eval args s none [] s = some (.ref a)) (A : Arr s s.heap a cl ty) {u : Term} (eu : u.eval args s none [] s = some v) (hv : v.isRef = true) (h : (Jvm.Cond.eq (Term.elem t (Term.int k)) u).value args s none s [] = some true) : cl.slots[k.toNatClampNeg]? = some v := by
  have e2 := Term.int_eval (args := args) (first := s) (o := none) (idx := []) (s := s) k
  obtain ⟨x, y, hx, hy, -, -⟩ := cmp_v (Or.inl h)
  cases eu.symm.trans hy
  obtain ⟨-, q⟩ := elem_in hx ev e2 A.1
  have hk : x.isRef = true := by
    cases x <;> rcases ref_cases hv with rfl | ⟨z, rfl⟩ <;> simp [Jvm.Cond.value, hx, hy] at h ⊢ <;> rfl
  rw [q, gotT (eq_R hx hy hk hv) h]
theorem own_elemR (ev : t.eval args s none [] s = some (.ref a)) (A : Arr s s.heap a cl ty) {u : Term} (eu : u.eval args s none [] s = some (.ref b)) (h : (Jvm.Cond.eq (Term.elem t (Term.int k)) u).value args s none s [] = some true) : cl.slots[k.toNatClampNeg]? = some (.ref b) := own_elem ev A eu rfl h
theorem own_elemN (ev : t.eval args s none [] s = some (.ref a)) (A : Arr s s.heap a cl ty) (h : (Jvm.Cond.eq (Term.elem t (Term.int k)) .null).value args s none s [] = some true) : cl.slots[k.toNatClampNeg]? = some .null := own_elem ev A null_at rfl h
end OwnWords
section OwnMore
theorem own_privSel {s : State} {args : Array Value} {y z z' : MethodName} {C : String} (hs : (Jvm.Cond.selects C z' z).before args s = true) (e : z.cls = y.cls) (hpriv : s.PrivateAt y) (hinst : (Jvm.Cond.instanceMethod y).before args s = true) (hy : y.cls ≠ "java/lang/invoke/MethodHandle" ∧ y.cls ≠ "java/lang/invoke/VarHandle") : (Jvm.Cond.selects y.cls y y).before args s = true := by
  obtain ⟨c, r, m, -, -, h3, -, mk, h5, h6⟩ := Cond.selects_spec hs
  exact selects_self_of_private (e ▸ findClass_of_methodNamed h3) h5 h6 hpriv hinst hy
theorem own_nar_boolean {x : Int32} (h : nar .boolean x = x) : narrow .boolean (.int x) = .int x := congrArg Value.int h
theorem own_fits_boolean {x : Int32} (h : nar .boolean x = x) : fits .boolean (.int x) = true := h ▸ fits_nar_bool x
theorem own_nar_char {x : Int32} (h : nar .char x = x) : narrow .char (.int x) = .int x := congrArg Value.int h
theorem own_fits_char {x : Int32} (h : nar .char x = x) : fits .char (.int x) = true := h ▸ fits_nar_char x
theorem own_nar_ref {v : Value} {C : String} (h : v.isRef = true) : narrow (.object C) v = v := by rcases ref_cases h with rfl | ⟨a, rfl⟩ <;> rfl
theorem own_fits_ref {v : Value} {C : String} (h : v.isRef = true) : fits (.object C) v = true := by rcases ref_cases h with rfl | ⟨a, rfl⟩ <;> rfl
theorem own_c1 {v : Value} (h : v.isRef = true) : v.category = 1 := by rcases ref_cases h with rfl | ⟨a, rfl⟩ <;> rfl
theorem own_ext_of_keep {h h' : Heap} (K : Keep h h' []) : Ext h h' := ⟨K.1, fun a c q => K.2.1 a c q nin0⟩
theorem own_ext_refl (h : Heap) : Ext h h := ⟨Nat.le_refl _, fun _ _ q => q⟩
theorem own_ext_trans {h h' h'' : Heap} (E : Ext h h') (E' : Ext h' h'') : Ext h h'' := ⟨Nat.le_trans E.1 E'.1, fun a c q => E'.2 a c (E.2 a c q)⟩
end OwnMore
theorem own_j {p : Program} {e : Env} {below : List Frame} {s : State} {Q : Option Value → Heap → List Loc → Prop} {kc ks : Nat} {T : State} {m : MethodId} {c0 : Nat} {L : Array Slot} {S0 : List Value} (c : Nat) (S : List Value) (f : ∀ t, Steps p.tables e below (T.setTop (mkF m c L S)) t → Steps p.tables e below (T.setTop (mkF m c0 L S0)) t) (h : own_Go p e below s Q kc ks (T.setTop (mkF m c L S))) : own_Go p e below s Q kc ks (T.setTop (mkF m c0 L S0)) := own_st f h
theorem own_k {p : Program} {e : Env} {below : List Frame} {s : State} {Q : Option Value → Heap → List Loc → Prop} {kc ks : Nat} {T : State} {m : MethodId} {c0 : Nat} {L : Array Slot} {S0 : List Value} (T' : State) (c : Nat) (S : List Value) (f : ∀ t, Steps p.tables e below (T'.setTop (mkF m c L S)) t → Steps p.tables e below (T.setTop (mkF m c0 L S0)) t) (h : own_Go p e below s Q kc ks (T'.setTop (mkF m c L S))) : own_Go p e below s Q kc ks (T.setTop (mkF m c0 L S0)) := own_st f h
abbrev own_tb (a0 : Array Value) (Z : State) : Prop := ∀ d ∈ tables_1, d.before a0 Z = true
abbrev own_Ct (lL : Launch) (Z : State) (y : MethodName) (bytes : ByteArray) (mx : Nat) (rt : Option FieldType) (ws : List Jvm.Cond) (rm : Room) (A : Array Value) (h0 : Heap) (Q : Option Value → Heap → List Loc → Prop) : Prop := MetFree lL y (head1 (Jvm.Cond.code y bytes mx rt :: ws) rm) (fun as_ uU_ => as_ = A ∧ Z.Warmed39 uU_.vm ∧ uU_.heap = h0) (fun _ _ _ _ _ => True) (fun _ uU_ oO_ uE_ => ∃ vV_ lL_, oO_ = .returned vV_ ∧ Q vV_ uE_.heap lL_ ∧ FrameEnd uU_ oO_ uE_ lL_ rm.cells rm.slots)
theorem own_body {lL : Launch} {Z : State} {y : MethodName} {bytes : ByteArray} {mx : Nat} {rt : Option FieldType} {ws : List Jvm.Cond} {rm : Room} {A : Array Value} {L : Array Slot} {h0 : Heap} {Q : Option Value → Heap → List Loc → Prop} (pn : plainFor y = true) (kc ks : Nat) (hc : rm.cells = kc) (hs : rm.slots = ks) (hE : ∀ mM, entryFrame mM A mx = mkF mM 0 L [])
    (k : ∀ (pP : Program) (eE : Env) (sS : State) (mM : MethodId) (below : List Frame) (meth : Method) (cC : Code) (s₁ : State), Z.Warmed39 sS.vm → pP.tables.exec = Jvm.exec → cC.code = bytes → cC.maxLocals = mx → sS.vm.findClass y.cls = some mM.cls → meth.name = y.name → meth.sig.returnType = rt → meth.locks = false → Stand pP lL eE rm sS mM A below meth cC s₁ [] 0 0 → s₁.heap = h0 → own_Go pP eE below sS Q kc ks (s₁.setTop (mkF mM 0 L []))) : own_Ct lL Z y bytes mx rt ws rm A h0 Q := by
  subst hc hs
  refine MetFree.of_bodySF pn hisR ?_
  intro pP eE sS mM args below meth cC s₁ Bd hml hP hK
  obtain ⟨rfl, hZ, hh⟩ := hP
  have := k pP eE sS mM below meth cC s₁ hZ Bd.exec Bd.bytes hml (findClass_of_methodNamed Bd.named) (name_of_methodNamed Bd.named Bd.method).1 Bd.returns (BodyLoose.notSynchronized Bd) (Stand.of_body Bd) (by rw [← hh, Bd.state]; rfl)
  rw [← hE] at this; exact this
theorem ow {a0 : Array Value} {Z : State} (hw : own_tb a0 Z) (i : Nat) {d : Jvm.Cond} (h : tables_1[i]? = some d) : d.before a0 Z = true := hw _ (List.mem_of_getElem? h)
theorem o_iload {p : Program} {e : Env} {below : List Frame} {s : State} {Q : Option Value → Heap → List Loc → Prop} {kc ks : Nat} {T : State} {m : MethodId} {s' : State} {l : Launch} {R : Room} {args : Array Value} {meth : Method} {c : Code} {locs : List Loc} {cells slots : Nat} {pc : Nat} {L : Array Slot} {S : List Value} (n : Nat) (X : Stand p l e R s' m args below meth c T locs cells slots) (hx : p.tables.exec = Jvm.exec) {k : Nat} {v : Int32} (hd : decode c.code pc = .ok (.iload k, 2)) (hl : L[k]? = some (.val (.int v))) (hn : pc + 2 = n) (h : own_Go p e below s Q kc ks (T.setTop (mkF m n L (.int v :: S)))) : own_Go p e below s Q kc ks (T.setTop (mkF m pc L S)) := by
  subst hn; exact own_st (fun t k => XS.iload X.here hx rfl hd hl k) h
theorem o_iloadN {p : Program} {e : Env} {below : List Frame} {s : State} {Q : Option Value → Heap → List Loc → Prop} {kc ks : Nat} {T : State} {m : MethodId} {s' : State} {l : Launch} {R : Room} {args : Array Value} {meth : Method} {c : Code} {locs : List Loc} {cells slots : Nat} {pc : Nat} {L : Array Slot} {S : List Value} (n : Nat) (X : Stand p l e R s' m args below meth c T locs cells slots) (hx : p.tables.exec = Jvm.exec) {k : Fin 4} {v : Int32} (hd : decode c.code pc = .ok (.iload_n k, 1)) (hl : L[k.val]? = some (.val (.int v))) (hn : pc + 1 = n) (h : own_Go p e below s Q kc ks (T.setTop (mkF m n L (.int v :: S)))) : own_Go p e below s Q kc ks (T.setTop (mkF m pc L S)) := by
  subst hn; exact own_st (fun t k => XS.iloadN X.here hx rfl hd hl k) h
theorem o_lload {p : Program} {e : Env} {below : List Frame} {s : State} {Q : Option Value → Heap → List Loc → Prop} {kc ks : Nat} {T : State} {m : MethodId} {s' : State} {l : Launch} {R : Room} {args : Array Value} {meth : Method} {c : Code} {locs : List Loc} {cells slots : Nat} {pc : Nat} {L : Array Slot} {S : List Value} (n : Nat) (X : Stand p l e R s' m args below meth c T locs cells slots) (hx : p.tables.exec = Jvm.exec) {k : Nat} {v : Int64} (hd : decode c.code pc = .ok (.lload k, 2)) (hl : L[k]? = some (.val (.long v))) (hn : pc + 2 = n) (h : own_Go p e below s Q kc ks (T.setTop (mkF m n L (.long v :: S)))) : own_Go p e below s Q kc ks (T.setTop (mkF m pc L S)) := by
  subst hn; exact own_st (fun t k => XS.lload X.here hx rfl hd hl k) h
theorem o_lloadN {p : Program} {e : Env} {below : List Frame} {s : State} {Q : Option Value → Heap → List Loc → Prop} {kc ks : Nat} {T : State} {m : MethodId} {s' : State} {l : Launch} {R : Room} {args : Array Value} {meth : Method} {c : Code} {locs : List Loc} {cells slots : Nat} {pc : Nat} {L : Array Slot} {S : List Value} (n : Nat) (X : Stand p l e R s' m args below meth c T locs cells slots) (hx : p.tables.exec = Jvm.exec) {k : Fin 4} {v : Int64} (hd : decode c.code pc = .ok (.lload_n k, 1)) (hl : L[k.val]? = some (.val (.long v))) (hn : pc + 1 = n) (h : own_Go p e below s Q kc ks (T.setTop (mkF m n L (.long v :: S)))) : own_Go p e below s Q kc ks (T.setTop (mkF m pc L S)) := by
  subst hn; exact own_st (fun t k => XS.lloadN X.here hx rfl hd hl k) h
theorem o_aload {p : Program} {e : Env} {below : List Frame} {s : State} {Q : Option Value → Heap → List Loc → Prop} {kc ks : Nat} {T : State} {m : MethodId} {s' : State} {l : Launch} {R : Room} {args : Array Value} {meth : Method} {c : Code} {locs : List Loc} {cells slots : Nat} {pc : Nat} {L : Array Slot} {S : List Value} (n : Nat) (X : Stand p l e R s' m args below meth c T locs cells slots) (hx : p.tables.exec = Jvm.exec) {k : Nat} {v : Value} (hd : decode c.code pc = .ok (.aload k, 2)) (hl : L[k]? = some (.val v)) (hv : v.isRef = true) (hn : pc + 2 = n) (h : own_Go p e below s Q kc ks (T.setTop (mkF m n L (v :: S)))) : own_Go p e below s Q kc ks (T.setTop (mkF m pc L S)) := by
  subst hn; exact own_st (fun t k => XS.aload X.here hx rfl hd hl hv k) h
theorem o_aloadN {p : Program} {e : Env} {below : List Frame} {s : State} {Q : Option Value → Heap → List Loc → Prop} {kc ks : Nat} {T : State} {m : MethodId} {s' : State} {l : Launch} {R : Room} {args : Array Value} {meth : Method} {c : Code} {locs : List Loc} {cells slots : Nat} {pc : Nat} {L : Array Slot} {S : List Value} (n : Nat) (X : Stand p l e R s' m args below meth c T locs cells slots) (hx : p.tables.exec = Jvm.exec) {k : Fin 4} {v : Value} (hd : decode c.code pc = .ok (.aload_n k, 1)) (hl : L[k.val]? = some (.val v)) (hv : v.isRef = true) (hn : pc + 1 = n) (h : own_Go p e below s Q kc ks (T.setTop (mkF m n L (v :: S)))) : own_Go p e below s Q kc ks (T.setTop (mkF m pc L S)) := by
  subst hn; exact own_st (fun t k => XS.aloadN X.here hx rfl hd hl hv k) h
theorem o_iconst {p : Program} {e : Env} {below : List Frame} {s : State} {Q : Option Value → Heap → List Loc → Prop} {kc ks : Nat} {T : State} {m : MethodId} {s' : State} {l : Launch} {R : Room} {args : Array Value} {meth : Method} {c : Code} {locs : List Loc} {cells slots : Nat} {pc : Nat} {L : Array Slot} {S : List Value} (n : Nat) (z : Int32) (X : Stand p l e R s' m args below meth c T locs cells slots) (hx : p.tables.exec = Jvm.exec) {i : Int} (hd : decode c.code pc = .ok (.iconst i, 1)) (hz : Int32.ofInt i = z) (hn : pc + 1 = n) (h : own_Go p e below s Q kc ks (T.setTop (mkF m n L (.int z :: S)))) : own_Go p e below s Q kc ks (T.setTop (mkF m pc L S)) := by
  subst hn hz; exact own_st (fun t k => XS.iconst X.here hx rfl hd k) h
theorem o_bipush {p : Program} {e : Env} {below : List Frame} {s : State} {Q : Option Value → Heap → List Loc → Prop} {kc ks : Nat} {T : State} {m : MethodId} {s' : State} {l : Launch} {R : Room} {args : Array Value} {meth : Method} {c : Code} {locs : List Loc} {cells slots : Nat} {pc : Nat} {L : Array Slot} {S : List Value} (n : Nat) (z : Int32) (X : Stand p l e R s' m args below meth c T locs cells slots) (hx : p.tables.exec = Jvm.exec) {i : Int} (hd : decode c.code pc = .ok (.bipush i, 2)) (hz : (Int8.ofInt i).toInt32 = z) (hn : pc + 2 = n) (h : own_Go p e below s Q kc ks (T.setTop (mkF m n L (.int z :: S)))) : own_Go p e below s Q kc ks (T.setTop (mkF m pc L S)) := by
  subst hn hz; exact own_st (fun t k => XS.bipush X.here hx rfl hd k) h
theorem o_sipush {p : Program} {e : Env} {below : List Frame} {s : State} {Q : Option Value → Heap → List Loc → Prop} {kc ks : Nat} {T : State} {m : MethodId} {s' : State} {l : Launch} {R : Room} {args : Array Value} {meth : Method} {c : Code} {locs : List Loc} {cells slots : Nat} {pc : Nat} {L : Array Slot} {S : List Value} (n : Nat) (z : Int32) (X : Stand p l e R s' m args below meth c T locs cells slots) (hx : p.tables.exec = Jvm.exec) {i : Int} (hd : decode c.code pc = .ok (.sipush i, 3)) (hz : (Int16.ofInt i).toInt32 = z) (hn : pc + 3 = n) (h : own_Go p e below s Q kc ks (T.setTop (mkF m n L (.int z :: S)))) : own_Go p e below s Q kc ks (T.setTop (mkF m pc L S)) := by
  subst hn hz; exact own_st (fun t k => XS.sipush X.here hx rfl hd k) h
theorem o_dup {p : Program} {e : Env} {below : List Frame} {s : State} {Q : Option Value → Heap → List Loc → Prop} {kc ks : Nat} {T : State} {m : MethodId} {s' : State} {l : Launch} {R : Room} {args : Array Value} {meth : Method} {c : Code} {locs : List Loc} {cells slots : Nat} {pc : Nat} {L : Array Slot} {S : List Value} (n : Nat) (X : Stand p l e R s' m args below meth c T locs cells slots) (hx : p.tables.exec = Jvm.exec) {x : Value} (hd : decode c.code pc = .ok (.dup, 1)) (hc : x.category = 1) (hn : pc + 1 = n) (h : own_Go p e below s Q kc ks (T.setTop (mkF m n L (x :: x :: S)))) : own_Go p e below s Q kc ks (T.setTop (mkF m pc L (x :: S))) := by
  subst hn; exact own_st (fun t k => XS.dup X.here hx rfl hd rfl hc k) h
theorem o_icmpNo {p : Program} {e : Env} {below : List Frame} {s : State} {Q : Option Value → Heap → List Loc → Prop} {kc ks : Nat} {T : State} {m : MethodId} {s' : State} {l : Launch} {R : Room} {args : Array Value} {meth : Method} {c : Code} {locs : List Loc} {cells slots : Nat} {pc : Nat} {L : Array Slot} {S : List Value} (n : Nat) (X : Stand p l e R s' m args below meth c T locs cells slots) (hx : p.tables.exec = Jvm.exec) {cd : ClassFile.Cond} {x y : Int32} {o : Int} (hd : decode c.code pc = .ok (.if_icmp cd o, 3)) (hc : if_icmp.holds cd x y = false) (hn : pc + 3 = n) (h : own_Go p e below s Q kc ks (T.setTop (mkF m n L S))) : own_Go p e below s Q kc ks (T.setTop (mkF m pc L (.int y :: .int x :: S))) := by
  subst hn; exact own_st (fun t k => XS.icmpNo X.here hx rfl hd rfl hc k) h
theorem o_icmpYes {p : Program} {e : Env} {below : List Frame} {s : State} {Q : Option Value → Heap → List Loc → Prop} {kc ks : Nat} {T : State} {m : MethodId} {s' : State} {l : Launch} {R : Room} {args : Array Value} {meth : Method} {c : Code} {locs : List Loc} {cells slots : Nat} {pc : Nat} {L : Array Slot} {S : List Value} (n : Nat) (X : Stand p l e R s' m args below meth c T locs cells slots) (hx : p.tables.exec = Jvm.exec) {cd : ClassFile.Cond} {x y : Int32} {o : Int} (hd : decode c.code pc = .ok (.if_icmp cd o, 3)) (hc : if_icmp.holds cd x y = true) (hp : 0 ≤ (pc : Int) + o ∧ ((pc : Int) + o).toNat = n) (h : own_Go p e below s Q kc ks (T.setTop (mkF m n L S))) : own_Go p e below s Q kc ks (T.setTop (mkF m pc L (.int y :: .int x :: S))) := by
  exact own_st (fun t k => XS.icmpYes X.here hx rfl (pc0 := pc) (pc' := n) rfl hd rfl hc hp.1 hp.2 k) h
theorem o_ifNo {p : Program} {e : Env} {below : List Frame} {s : State} {Q : Option Value → Heap → List Loc → Prop} {kc ks : Nat} {T : State} {m : MethodId} {s' : State} {l : Launch} {R : Room} {args : Array Value} {meth : Method} {c : Code} {locs : List Loc} {cells slots : Nat} {pc : Nat} {L : Array Slot} {S : List Value} (n : Nat) (X : Stand p l e R s' m args below meth c T locs cells slots) (hx : p.tables.exec = Jvm.exec) {cd : ClassFile.Cond} {x : Int32} {o : Int} (hd : decode c.code pc = .ok (.ifCond cd o, 3)) (hc : ifCond.holds cd x = false) (hn : pc + 3 = n) (h : own_Go p e below s Q kc ks (T.setTop (mkF m n L S))) : own_Go p e below s Q kc ks (T.setTop (mkF m pc L (.int x :: S))) := by
  subst hn; exact own_st (fun t k => XS.ifNo X.here hx rfl hd rfl hc k) h
theorem o_ifYes {p : Program} {e : Env} {below : List Frame} {s : State} {Q : Option Value → Heap → List Loc → Prop} {kc ks : Nat} {T : State} {m : MethodId} {s' : State} {l : Launch} {R : Room} {args : Array Value} {meth : Method} {c : Code} {locs : List Loc} {cells slots : Nat} {pc : Nat} {L : Array Slot} {S : List Value} (n : Nat) (X : Stand p l e R s' m args below meth c T locs cells slots) (hx : p.tables.exec = Jvm.exec) {cd : ClassFile.Cond} {x : Int32} {o : Int} (hd : decode c.code pc = .ok (.ifCond cd o, 3)) (hc : ifCond.holds cd x = true) (hp : 0 ≤ (pc : Int) + o ∧ ((pc : Int) + o).toNat = n) (h : own_Go p e below s Q kc ks (T.setTop (mkF m n L S))) : own_Go p e below s Q kc ks (T.setTop (mkF m pc L (.int x :: S))) := by
  exact own_st (fun t k => XS.ifYes X.here hx rfl (pc0 := pc) (pc' := n) rfl hd rfl hc hp.1 hp.2 k) h
theorem o_goto {p : Program} {e : Env} {below : List Frame} {s : State} {Q : Option Value → Heap → List Loc → Prop} {kc ks : Nat} {T : State} {m : MethodId} {s' : State} {l : Launch} {R : Room} {args : Array Value} {meth : Method} {c : Code} {locs : List Loc} {cells slots : Nat} {pc : Nat} {L : Array Slot} {S : List Value} (n : Nat) (X : Stand p l e R s' m args below meth c T locs cells slots) (hx : p.tables.exec = Jvm.exec) {o : Int} (hd : decode c.code pc = .ok (.goto o, 3)) (hp : 0 ≤ (pc : Int) + o ∧ ((pc : Int) + o).toNat = n) (h : own_Go p e below s Q kc ks (T.setTop (mkF m n L S))) : own_Go p e below s Q kc ks (T.setTop (mkF m pc L S)) := by
  exact own_st (fun t k => XS.goto X.here hx rfl (pc0 := pc) (pc' := n) rfl hd hp.1 hp.2 k) h
abbrev yn0 : MethodName := ⟨"java/lang/StringUTF16", "newBytesLength", "(I)I"⟩
abbrev yn1 : MethodName := ⟨"java/lang/StringUTF16", "newBytesFor", "(I)[B"⟩
abbrev yn2 : MethodName := ⟨"java/lang/StringUTF16", "putChar", "([BII)V"⟩
abbrev yn3 : MethodName := ⟨"java/lang/StringUTF16", "toBytes", "([CII)[B"⟩
abbrev yn4 : MethodName := ⟨"java/lang/StringUTF16", "getChar", "([BI)C"⟩
abbrev yn5 : MethodName := ⟨"java/lang/StringUTF16", "coderFromArrayLen", "([BI)B"⟩
abbrev yn6 : MethodName := ⟨"java/lang/StringUTF16", "compress", "([CI[BII)I"⟩
abbrev yn7 : MethodName := ⟨"java/lang/StringUTF16", "compress", "([CII)[B"⟩
abbrev yn8 : MethodName := ⟨"java/lang/String", "<init>", "([CIILjava/lang/Void;)V"⟩
abbrev yn9 : MethodName := ⟨"java/lang/String", "<init>", "([C)V"⟩
abbrev yn10 : MethodName := ⟨"java/lang/String", "isLatin1", "()Z"⟩
abbrev yn11 : MethodName := ⟨"java/lang/StringUTF16", "length", "([B)I"⟩
abbrev yn12 : MethodName := ⟨"jdk/internal/util/Preconditions", "checkIndex", "(IILjava/util/function/BiFunction;)I"⟩
abbrev yn13 : MethodName := ⟨"java/lang/String", "checkIndex", "(II)V"⟩
abbrev yn14 : MethodName := ⟨"java/lang/StringLatin1", "charAt", "([BI)C"⟩
abbrev yn15 : MethodName := ⟨"java/lang/StringUTF16", "checkIndex", "(I[B)V"⟩
abbrev yn16 : MethodName := ⟨"java/lang/StringUTF16", "charAt", "([BI)C"⟩
abbrev yn17 : MethodName := ⟨"java/lang/String", "charAt", "(I)C"⟩
abbrev yn18 : MethodName := ⟨"com/example/vyasa/vyasa/SqlLexer", "lineNumber", "(Ljava/lang/String;I)I"⟩
abbrev yn19 : MethodName := ⟨"com/example/vyasa/vyasa/SqlLexerLineNumberPinLaw", "nl", "(CII)I"⟩
abbrev yn20 : MethodName := ⟨"com/example/vyasa/vyasa/SqlLexerLineNumberPinLaw", "draw", "(I)C"⟩
variable {pP : Program} {lL : Launch} {eE : Env} {sS : State} {mM : MethodId} {args : Array Value} {below : List Frame} {meth : Method} {cC : Code} {T0 : State} {locs : List Loc} {Z : State} {a0 : Array Value} {h0 : Heap} {n0 : Nat}
def QLaw (n0 : Nat) (v : Option Value) (h : Heap) (L : List Loc) : Prop := v = some (.int 1) ∧ Fr n0 L
def Ck (x : Int32) : Prop := nar .char x = x ∧ ¬ (255 : Int32) < x ∧ ¬ x < 0
def Str (Z : State) (h : Heap) (a b : Addr) (k : ClassId) (n : Int32) (vs : List Value) : Prop := Exa Z h a "java/lang/String" ∧ Fld Z h a "java/lang/String" "value" "[B" (.ref b) ∧ Fld Z h a "java/lang/String" "coder" "B" (.int 0) ∧ Arv Z h b k .byte n vs (.int 0)
theorem own_Str_ext {Z : State} {h h' : Heap} {a b : Addr} {k : ClassId} {n : Int32} {vs : List Value} (o : Str Z h a b k n vs) (E : Ext h h') : Str Z h' a b k n vs := ⟨o.1.ext E, o.2.1.ext E, o.2.2.1.ext E, o.2.2.2.ext E⟩
theorem own_Str_keep {Z : State} {h h' : Heap} {a b : Addr} {k : ClassId} {n : Int32} {vs : List Value} {ws : List Addr} (o : Str Z h a b k n vs) (K : Keep h h' ws) (n1 : a ∉ ws) (n2 : b ∉ ws) : Str Z h' a b k n vs := ⟨o.1.keep K, o.2.1.keep K n1, o.2.2.1.keep K n1, o.2.2.2.keep K n2⟩
def Q0 (h0 : Heap) (n0 : Nat) (v : Option Value) (h : Heap) (L : List Loc) : Prop := v = none ∧ Fr n0 L ∧ h = h0
def Qw (w : Value) (h0 : Heap) (n0 : Nat) (v : Option Value) (h : Heap) (L : List Loc) : Prop := v = some w ∧ Fr n0 L ∧ h = h0
def QC5 (Z : State) (d : Addr) (k : ClassId) (n : Int32) (vs : List Value) (h0 : Heap) (n0 : Nat) (v : Option Value) (h : Heap) (L : List Loc) : Prop := v = some (.int n) ∧ Fr n0 L ∧ Keep h0 h [d] ∧ Arv Z h d k .byte n vs (.int 0)
def QC3 (Z : State) (n : Int32) (vs : List Value) (h0 : Heap) (n0 : Nat) (v : Option Value) (h : Heap) (L : List Loc) : Prop := ∃ d k, v = some (.ref d) ∧ Fr n0 L ∧ Ext h0 h ∧ Arv Z h d k .byte n vs (.int 0) ∧ h0.size ≤ d
def QS (Z : State) (a : Addr) (n : Int32) (vs : List Value) (h0 : Heap) (n0 : Nat) (v : Option Value) (h : Heap) (L : List Loc) : Prop := ∃ d k, v = none ∧ Fr n0 L ∧ Keep h0 h [a] ∧ Str Z h a d k n vs ∧ h0.size ≤ d
def QN (Z : State) (n : Int32) (vs : List Value) (h0 : Heap) (n0 : Nat) (v : Option Value) (h : Heap) (L : List Loc) : Prop := ∃ a d k, v = some (.ref a) ∧ Fr n0 L ∧ Ext h0 h ∧ Str Z h a d k n vs ∧ h0.size ≤ a ∧ h0.size ≤ d
theorem own_b (x : Int32) : (((x).toInt8.toInt32)).toInt8.toInt32 = x.toInt8.toInt32 := by
  have a := c_i2b x
  have b := c_i2b x.toInt8.toInt32
  rw [← Int32.toInt_inj]
  omega
theorem own_b_inj {x y : Int32} (hx : Ck x) (hy : Ck y) (h : (((x).toInt8.toInt32)).toInt8.toInt32 = (((y).toInt8.toInt32)).toInt8.toInt32) : x = y := by
  rw [own_b, own_b] at h
  have a := c_i2b x
  have b := c_i2b y
  have r1 := rng32 x
  have r2 := rng32 y
  obtain ⟨-, x1, x2⟩ := hx
  obtain ⟨-, y1, y2⟩ := hy
  rw [Int32.lt_iff_toInt_lt] at x1 x2 y1 y2
  have e0 : (0 : Int32).toInt = 0 := by decide
  have e1 : (255 : Int32).toInt = 255 := by decide
  rw [← Int32.toInt_inj] at h ⊢
  omega
theorem own_Ck (a : Int32) : Ck ((a &&& (255 : Int32)).toUInt32.toUInt16.toUInt32.toInt32) := by
  rw [i2c_mask]
  have m := c_mask a 255 8 (by decide) (by decide)
  have r := rng32 a
  refine ⟨i2c_mask a, ?_, ?_⟩
  · rw [Int32.lt_iff_toInt_lt]; have e1 : (255 : Int32).toInt = 255 := by decide
    omega
  · rw [Int32.lt_iff_toInt_lt]; have e1 : (0 : Int32).toInt = 0 := by decide
    omega
def lo8 (x : Int32) : Int32 := (((x >>> ((0 : Int32) &&& 31))).toInt8.toInt32).toInt8.toInt32
def hi8 (x : Int32) : Int32 := (((x >>> ((8 : Int32) &&& 31))).toInt8.toInt32).toInt8.toInt32
theorem own_c16 {x : Int32} (h : nar .char x = x) : 0 ≤ x.toInt ∧ x.toInt < 65536 := by
  have a := c_i2c x
  have e : x.toUInt32.toUInt16.toUInt32.toInt32 = x := h
  rw [e] at a
  exact a.2
theorem own_narnar (z : Int32) : nar .char (nar .char z) = nar .char z := by
  have a := c_i2c z
  have b := c_i2c (nar .char z)
  have e : z.toUInt32.toUInt16.toUInt32.toInt32 = nar .char z := rfl
  have f : (nar .char z).toUInt32.toUInt16.toUInt32.toInt32 = nar .char (nar .char z) := rfl
  rw [e] at a
  rw [f] at b
  rw [← Int32.toInt_inj]
  omega
theorem own_rtU {x : Int32} (h : nar .char x = x) : nar .char (((((lo8 x) &&& (255 : Int32)) <<< ((0 : Int32) &&& 31)) ||| (((hi8 x) &&& (255 : Int32)) <<< ((8 : Int32) &&& 31))).toUInt32.toUInt16.toUInt32.toInt32) = x := by
  have r := own_c16 h
  have a1 := c_ishr x 0 0 (by decide)
  have a2 := c_i2b (x >>> ((0 : Int32) &&& 31))
  have a3 := c_i2b ((x >>> ((0 : Int32) &&& 31)).toInt8.toInt32)
  have b1 := c_ishr x 8 8 (by decide)
  have b2 := c_i2b (x >>> ((8 : Int32) &&& 31))
  have b3 := c_i2b ((x >>> ((8 : Int32) &&& 31)).toInt8.toInt32)
  have a4 := c_mask (lo8 x) 255 8 (by decide) (by decide)
  have b4 := c_mask (hi8 x) 255 8 (by decide) (by decide)
  have a5 := c_ishl (lo8 x &&& 255) 0 0 (by decide)
  have b5 := c_ishl (hi8 x &&& 255) 8 8 (by decide)
  rw [show ((x >>> ((0 : Int32) &&& 31)).toInt8.toInt32).toInt8.toInt32 = lo8 x from rfl] at a3
  rw [show ((x >>> ((8 : Int32) &&& 31)).toInt8.toInt32).toInt8.toInt32 = hi8 x from rfl] at b3
  have ra := rng32 ((lo8 x &&& (255 : Int32)) <<< ((0 : Int32) &&& 31))
  have rb := rng32 ((hi8 x &&& (255 : Int32)) <<< ((8 : Int32) &&& 31))
  have o := c_or' ((lo8 x &&& (255 : Int32)) <<< ((0 : Int32) &&& 31)) ((hi8 x &&& (255 : Int32)) <<< ((8 : Int32) &&& 31)) 8 (by decide) 256 (by decide) (by omega) (by omega) (by omega)
  have k := c_i2c ((((lo8 x) &&& (255 : Int32)) <<< ((0 : Int32) &&& 31)) ||| (((hi8 x) &&& (255 : Int32)) <<< ((8 : Int32) &&& 31)))
  have k2 := own_narnar ((((lo8 x) &&& (255 : Int32)) <<< ((0 : Int32) &&& 31)) ||| (((hi8 x) &&& (255 : Int32)) <<< ((8 : Int32) &&& 31)))
  refine k2.trans ?_
  show ((((lo8 x) &&& (255 : Int32)) <<< ((0 : Int32) &&& 31)) ||| (((hi8 x) &&& (255 : Int32)) <<< ((8 : Int32) &&& 31))).toUInt32.toUInt16.toUInt32.toInt32 = x
  rw [← Int32.toInt_inj]
  omega
theorem own_rtL {x : Int32} (h : Ck x) : nar .char ((((((x).toInt8.toInt32)).toInt8.toInt32 &&& (255 : Int32))).toUInt32.toUInt16.toUInt32.toInt32) = x := by
  have r := own_c16 h.1
  have q := h.2.1
  rw [Int32.lt_iff_toInt_lt] at q
  have e1 : (255 : Int32).toInt = 255 := by decide
  rw [e1] at q
  have a2 := c_i2b x
  have a3 := c_i2b (x.toInt8.toInt32)
  have a4 := c_mask (x.toInt8.toInt32.toInt8.toInt32) 255 8 (by decide) (by decide)
  have k := c_i2c (x.toInt8.toInt32.toInt8.toInt32 &&& 255)
  refine (own_narnar _).trans ?_
  show (x.toInt8.toInt32.toInt8.toInt32 &&& (255 : Int32)).toUInt32.toUInt16.toUInt32.toInt32 = x
  rw [← Int32.toInt_inj]
  omega
theorem own_mod5 (a : Int32) : ((a &&& (2147483647 : Int32)) % (5 : Int32)) = 0 ∨ ((a &&& (2147483647 : Int32)) % (5 : Int32)) = 1 ∨ ((a &&& (2147483647 : Int32)) % (5 : Int32)) = 2 ∨ ((a &&& (2147483647 : Int32)) % (5 : Int32)) = 3 ∨ ((a &&& (2147483647 : Int32)) % (5 : Int32)) = 4 := by
  have m := c_mask a 2147483647 31 (by decide) (by decide)
  have q := (c_irem (a &&& (2147483647 : Int32)) 5 5 (by decide)).1 (by omega)
  have e0 : (0 : Int32).toInt = 0 := by decide
  have e1 : (1 : Int32).toInt = 1 := by decide
  have e2 : (2 : Int32).toInt = 2 := by decide
  have e3 : (3 : Int32).toInt = 3 := by decide
  have e4 : (4 : Int32).toInt = 4 := by decide
  simp only [← Int32.toInt_inj]
  omega

def nlv (x : Int32) : Int32 := if x = (10 : Int32) then 1 else 0
theorem own_nlv1 {x : Int32} (h : x = (10 : Int32)) : nlv x = 1 := if_pos h
theorem own_nlv0 {x : Int32} (h : ¬ x = (10 : Int32)) : nlv x = 0 := if_neg h
theorem own_CkOf {x : Int32} (h : nar .char x = x) (q : ¬ (255 : Int32) < x) : Ck x := by
  refine ⟨h, q, ?_⟩
  have r := own_c16 h
  rw [Int32.lt_iff_toInt_lt]; have e1 : (0 : Int32).toInt = 0 := by decide
  omega
def StrU (Z : State) (h : Heap) (a : Addr) (x0 x1 x2 x3 : Int32) : Prop := ∃ d k, Exa Z h a "java/lang/String" ∧ Fld Z h a "java/lang/String" "value" "[B" (.ref d) ∧ Fld Z h a "java/lang/String" "coder" "B" (.int 1) ∧ Arv Z h d k .byte 8 [(.int (lo8 x0)), (.int (hi8 x0)), (.int (lo8 x1)), (.int (hi8 x1)), (.int (lo8 x2)), (.int (hi8 x2)), (.int (lo8 x3)), (.int (hi8 x3))] (.int 0)
def StrL (Z : State) (h : Heap) (a : Addr) (x0 x1 x2 x3 : Int32) : Prop := (∃ d k, Str Z h a d k 4 [(.int (((x0).toInt8.toInt32)).toInt8.toInt32), (.int (((x1).toInt8.toInt32)).toInt8.toInt32), (.int (((x2).toInt8.toInt32)).toInt8.toInt32), (.int (((x3).toInt8.toInt32)).toInt8.toInt32)]) ∧ Ck x0 ∧ Ck x1 ∧ Ck x2 ∧ Ck x3
def StrC (Z : State) (h : Heap) (a : Addr) (x0 x1 x2 x3 : Int32) : Prop := StrL Z h a x0 x1 x2 x3 ∨ StrU Z h a x0 x1 x2 x3
theorem own_StrC_exa {Z : State} {h : Heap} {a : Addr} {x0 x1 x2 x3 : Int32} (o : StrC Z h a x0 x1 x2 x3) : Exa Z h a "java/lang/String" := by
  rcases o with ⟨⟨d, k, q⟩, -⟩ | ⟨d, k, q⟩ <;> exact q.1
def QP (Z : State) (d : Addr) (k : ClassId) (vs : List Value) (h0 : Heap) (n0 : Nat) (v : Option Value) (h : Heap) (L : List Loc) : Prop := v = none ∧ Fr n0 L ∧ Keep h0 h [d] ∧ Arv Z h d k .byte 8 vs (.int 0)
def QCJ (d : Addr) (j : Int32) (h0 : Heap) (n0 : Nat) (v : Option Value) (h : Heap) (L : List Loc) : Prop := v = some (.int j) ∧ Fr n0 L ∧ Keep h0 h [d]
def QSU (Z : State) (a : Addr) (x0 x1 x2 x3 : Int32) (h0 : Heap) (n0 : Nat) (v : Option Value) (h : Heap) (L : List Loc) : Prop := v = none ∧ Fr n0 L ∧ Keep h0 h [a] ∧ StrU Z h a x0 x1 x2 x3
def QSC (Z : State) (a : Addr) (x0 x1 x2 x3 : Int32) (h0 : Heap) (n0 : Nat) (v : Option Value) (h : Heap) (L : List Loc) : Prop := v = none ∧ Fr n0 L ∧ Keep h0 h [a] ∧ StrC Z h a x0 x1 x2 x3
def QD (h0 : Heap) (n0 : Nat) (v : Option Value) (h : Heap) (L : List Loc) : Prop := ∃ x, v = some (.int x) ∧ Fr n0 L ∧ h = h0 ∧ nar .char x = x
theorem d17_0 : decode jdk_52_method_3_code 0 = .ok (.iload_n 0, 1) := by decide +kernel
theorem d17_1 : decode jdk_52_method_3_code 1 = .ok (.ifCond .ge 11, 3) := by decide +kernel
theorem d17_12 : decode jdk_52_method_3_code 12 = .ok (.iload_n 0, 1) := by decide +kernel
theorem d17_13 : decode jdk_52_method_3_code 13 = .ok (.ldc 20, 2) := by decide +kernel
theorem d17_15 : decode jdk_52_method_3_code 15 = .ok (.if_icmp .lt 40, 3) := by decide +kernel
theorem d17_55 : decode jdk_52_method_3_code 55 = .ok (.iload_n 0, 1) := by decide +kernel
theorem d17_56 : decode jdk_52_method_3_code 56 = .ok (.iconst 1, 1) := by decide +kernel
theorem d17_57 : decode jdk_52_method_3_code 57 = .ok (.ishl, 1) := by decide +kernel
theorem d17_58 : decode jdk_52_method_3_code 58 = .ok (.ireturn, 1) := by decide +kernel
theorem pn_java_2flang_2fStringUTF16 : plainName "java/lang/StringUTF16" = true := by first | (simp [plainName, overriddenIn]; done) | decide +kernel
theorem ef_rmNL (mM : MethodId)  : entryFrame mM #[.int 4] 1 = mkF mM 0 #[.val (.int 4)] [] := by first | (simp [entryFrame, mkF, argsToLocals, Value.category]; done) | rfl
theorem rmNL (lL : Launch) (Z : State) (a0 : Array Value) (hw : own_tb a0 Z) (ws : List Jvm.Cond)  (h0 : Heap) (n0 : Nat)  :
    own_Ct lL Z yn0 jdk_52_method_3_code 1 (some .int) ws (⟨0, 0, 0, 0⟩ : Room) #[.int 4] h0 (Qw (.int 8) h0 n0) := by
  refine own_body (plainFor_of_name pn_java_2flang_2fStringUTF16) 0 0 rfl rfl (fun mM => ef_rmNL mM) fun pP eE sS mM below meth cC s₁ hZ hx hby hml hown hnm hret hlk X0 e0 => ?_
  have N0 := Fr.nil n0
  refine o_iloadN 1 X0 hx (hb hby d17_0) rfl rfl ?_
  refine o_ifYes 12 X0 hx (hb hby d17_1) ((if0 _ _).trans (flt (by decide : ¬ ((4 : Int32) < (0 : Int32)))).2.1) (by decide) ?_
  refine o_iloadN 13 X0 hx (hb hby d17_12) rfl rfl ?_
  refine own_j 15 [.int 1073741823, .int 4] (fun t_ k_ => X0.ldcInt hx hown (mvT hZ (ow hw 74 rfl)) (g := (mkF mM 13 #[.val (.int 4)] [.int 4])) rfl (hb hby d17_13) t_ k_) ?_
  refine o_icmpYes 55 X0 hx (hb hby d17_15) (tlt (by decide : ((4 : Int32) < (1073741823 : Int32)))).1 (by decide) ?_
  refine o_iloadN 56 X0 hx (hb hby d17_55) rfl rfl ?_
  refine o_iconst 57 1 X0 hx (hb hby d17_56) rfl rfl ?_
  refine own_j 58 [.int 8] (fun t_ k_ => XS.ishl X0.here hx rfl (hb hby d17_57) rfl k_) ?_
  exact own_retI X0 hx hlk hret (hb hby d17_58) ⟨rfl, N0, e0⟩ (by decide) (by decide)
theorem d16_0 : decode jdk_52_method_2_code 0 = .ok (.iload_n 0, 1) := by decide +kernel
theorem d16_1 : decode jdk_52_method_2_code 1 = .ok (.invokestatic 11, 3) := by decide +kernel
theorem pd__28I_29I : parseMethodDescriptor "(I)I" = some ⟨[.int], some .int⟩ := by decide +kernel
theorem d16_4 : decode jdk_52_method_2_code 4 = .ok (.newarray .byte, 2) := by decide +kernel
theorem d16_6 : decode jdk_52_method_2_code 6 = .ok (.areturn, 1) := by decide +kernel
theorem ef_rmNF (mM : MethodId)  : entryFrame mM #[.int 4] 1 = mkF mM 0 #[.val (.int 4)] [] := by first | (simp [entryFrame, mkF, argsToLocals, Value.category]; done) | rfl
theorem rmNF (lL : Launch) (Z : State) (a0 : Array Value) (hw : own_tb a0 Z) (ws : List Jvm.Cond)  (h0 : Heap) (n0 : Nat) (Zn : n0 ≤ h0.size) :
    own_Ct lL Z yn1 jdk_52_method_2_code 1 (some (.array .byte)) ws (⟨1, 1, 8, 12⟩ : Room) #[.int 4] h0 (QC3 Z 8 [.int 0, .int 0, .int 0, .int 0, .int 0, .int 0, .int 0, .int 0] h0 n0) := by
  refine own_body (plainFor_of_name pn_java_2flang_2fStringUTF16) 1 8 rfl rfl (fun mM => ef_rmNF mM) fun pP eE sS mM below meth cC s₁ hZ hx hby hml hown hnm hret hlk X0 e0 => ?_
  have N0 := Fr.nil n0
  have Kp := Keep.refl h0 []
  refine o_iloadN 1 X0 hx (hb hby d16_0) rfl rfl ?_
  obtain ⟨_, _, ⟨T1, L1, k1, n1⟩, -, X1, ⟨Lc1, hQ1, l1, y1, z1⟩, st1⟩ := Jvm.LawKit.callS X0 hx (y := yn0) hown (mvT hZ (ow hw 71 rfl)) (mvT hZ (ow hw 72 rfl)) (mvT hZ (ow hw 22 rfl)) (mvT hZ (ow hw 73 rfl)) (by decide) (backOf (W := 0) (rmNL lL Z a0 hw []  h0 n0 ) hZ (ow hw 73 rfl) (ow hw 22 rfl) (by decide) (by decide)) (g := (mkF mM 1 #[.val (.int 4)] [.int 4])) rfl (by rw [hml]; rfl) (argsL := [.int 4]) (rest := []) (lenOf pd__28I_29I rfl) rfl (by show 2 * 0 + _ ≤ _; exact Nat.le_of_eq rfl) (hb hby d16_1) (fun _ _ => ⟨rfl, e0, (by decide : 0 + 0 ≤ _), (by decide : 0 + 0 ≤ _)⟩)
  dsimp only [Pt.U, Pt.locs, Pt.cells, Pt.slots] at X1 l1 y1 z1 st1 hQ1
  subst l1 y1 z1
  obtain ⟨rfl, N1q, e1⟩ := hQ1
  have N1 := Fr.app N0 N1q
  refine own_k T1 4 [.int 8] st1 ?_
  obtain ⟨T2, h2, k2, X2, e2, E2, A2, st2⟩ := newP X1 hx hZ (ow hw 24 rfl) e1 (g := (mkF mM 4 #[.val (.int 4)] [.int 8])) rfl (hb hby d16_4) rfl (by decide) (cap := 8) (by decide) (by decide) (by decide) (by decide)
  obtain ⟨b2, g2⟩ : ∃ z, z = h0.size := ⟨_, rfl⟩
  rw [← g2] at A2 st2
  have g_b2 : n0 ≤ b2 := Nat.le_trans Zn (Nat.le_of_eq g2.symm)
  have b_b2 : h0.size ≤ b2 := Nat.le_trans Kp.1 (Nat.le_of_eq g2.symm)
  have Zn := Nat.le_trans Zn E2.1
  have Kp := Kp.ext E2
  have A_b2 : Arv Z h2 b2 k2 .byte 8 [.int 0, .int 0, .int 0, .int 0, .int 0, .int 0, .int 0, .int 0] (.int 0) := (Arv.new A2 (by decide)).pad (pad_rep [] (.int 0) 8)
  refine own_k T2 6 [.ref b2] st2 ?_
  exact own_retA X2 hx hlk hret rfl rfl (hb hby d16_6) (by rw [e2]; exact ⟨_, _, rfl, N1, own_ext_of_keep Kp, A_b2, b_b2⟩) (by decide) (by decide)
theorem d18_0 : decode jdk_52_method_4_code 0 = .ok (.getstatic 44, 3) := by decide +kernel
theorem d18_3 : decode jdk_52_method_4_code 3 = .ok (.ifCond .ne 25, 3) := by decide +kernel
theorem d18_28 : decode jdk_52_method_4_code 28 = .ok (.iload_n 1, 1) := by decide +kernel
theorem d18_29 : decode jdk_52_method_4_code 29 = .ok (.iconst 1, 1) := by decide +kernel
theorem d18_30 : decode jdk_52_method_4_code 30 = .ok (.ishl, 1) := by decide +kernel
theorem d18_31 : decode jdk_52_method_4_code 31 = .ok (.istore_n 1, 1) := by decide +kernel
theorem d18_32 : decode jdk_52_method_4_code 32 = .ok (.aload_n 0, 1) := by decide +kernel
theorem d18_33 : decode jdk_52_method_4_code 33 = .ok (.iload_n 1, 1) := by decide +kernel
theorem d18_34 : decode jdk_52_method_4_code 34 = .ok (.iinc 1 1, 3) := by decide +kernel
theorem d18_37 : decode jdk_52_method_4_code 37 = .ok (.iload_n 2, 1) := by decide +kernel
theorem d18_38 : decode jdk_52_method_4_code 38 = .ok (.getstatic 59, 3) := by decide +kernel
theorem d18_41 : decode jdk_52_method_4_code 41 = .ok (.ishr, 1) := by decide +kernel
theorem d18_42 : decode jdk_52_method_4_code 42 = .ok (.i2b, 1) := by decide +kernel
theorem d18_43 : decode jdk_52_method_4_code 43 = .ok (.bastore, 1) := by decide +kernel
theorem d18_44 : decode jdk_52_method_4_code 44 = .ok (.aload_n 0, 1) := by decide +kernel
theorem d18_45 : decode jdk_52_method_4_code 45 = .ok (.iload_n 1, 1) := by decide +kernel
theorem d18_46 : decode jdk_52_method_4_code 46 = .ok (.iload_n 2, 1) := by decide +kernel
theorem d18_47 : decode jdk_52_method_4_code 47 = .ok (.getstatic 63, 3) := by decide +kernel
theorem d18_50 : decode jdk_52_method_4_code 50 = .ok (.ishr, 1) := by decide +kernel
theorem d18_51 : decode jdk_52_method_4_code 51 = .ok (.i2b, 1) := by decide +kernel
theorem d18_52 : decode jdk_52_method_4_code 52 = .ok (.bastore, 1) := by decide +kernel
theorem d18_53 : decode jdk_52_method_4_code 53 = .ok (.return_, 1) := by decide +kernel
theorem ef_rmPC0 (mM : MethodId) (d : Addr) (kd : ClassId) (y : Int32) (v0 : Value) (v1 : Value) (v2 : Value) (v3 : Value) (v4 : Value) (v5 : Value) (v6 : Value) (v7 : Value) : entryFrame mM #[.ref d, .int 0, .int y] 3 = mkF mM 0 #[.val (.ref d), .val (.int 0), .val (.int y)] [] := by first | (simp [entryFrame, mkF, argsToLocals, Value.category]; done) | rfl
theorem rmPC0 (lL : Launch) (Z : State) (a0 : Array Value) (hw : own_tb a0 Z) (ws : List Jvm.Cond) (d : Addr) (kd : ClassId) (y : Int32) (v0 : Value) (v1 : Value) (v2 : Value) (v3 : Value) (v4 : Value) (v5 : Value) (v6 : Value) (v7 : Value) (h0 : Heap) (n0 : Nat) (g_d : n0 ≤ d) (A_d : Arv Z h0 d kd .byte 8 [v0, v1, v2, v3, v4, v5, v6, v7] (.int 0)) (O : Old Z n0 h0) (S_ad : Sta Z Z.heap "java/lang/StringUTF16" "$assertionsDisabled" "Z" (.int 1)) (S_hi : Sta Z Z.heap "java/lang/StringUTF16" "HI_BYTE_SHIFT" "I" (.int 0)) (S_lo : Sta Z Z.heap "java/lang/StringUTF16" "LO_BYTE_SHIFT" "I" (.int 8)) :
    own_Ct lL Z yn2 jdk_52_method_4_code 3 none ws (⟨0, 0, 0, 0⟩ : Room) #[.ref d, .int 0, .int y] h0 (QP Z d kd [(.int (lo8 y)), (.int (hi8 y)), v2, v3, v4, v5, v6, v7] h0 n0) := by
  refine own_body (plainFor_of_name pn_java_2flang_2fStringUTF16) 0 0 rfl rfl (fun mM => ef_rmPC0 mM d kd y v0 v1 v2 v3 v4 v5 v6 v7) fun pP eE sS mM below meth cC s₁ hZ hx hby hml hown hnm hret hlk X0 e0 => ?_
  have N0 := Fr.nil n0
  have Kp := Keep.refl h0 [d]
  obtain ⟨T3, X3, e3, st3⟩ := getS2 X0 hx hZ hown (host := "") (Or.inl (ow hw 78 rfl)) Via.refl e0 (S_ad.ext O.2) (g := (mkF mM 0 #[.val (.ref d), .val (.int 0), .val (.int y)] [])) rfl (hb hby d18_0)
  refine own_k T3 3 [.int 1] st3 ?_
  refine o_ifYes 28 X3 hx (hb hby d18_3) ((if0 _ _).trans (feq (by decide : ¬ ((1 : Int32) = (0 : Int32)))).2) (by decide) ?_
  refine o_iloadN 29 X3 hx (hb hby d18_28) rfl rfl ?_
  refine o_iconst 30 1 X3 hx (hb hby d18_29) rfl rfl ?_
  refine own_j 31 [.int 0] (fun t_ k_ => XS.ishl X3.here hx rfl (hb hby d18_30) rfl k_) ?_
  refine own_j 32 [] (fun t_ k_ => XS.istoreN X3.here hx rfl (hb hby d18_31) rfl (l' := #[.val (.ref d), .val (.int 0), .val (.int y)]) rfl k_) ?_
  refine o_aloadN 33 X3 hx (hb hby d18_32) rfl rfl rfl ?_
  refine o_iloadN 34 X3 hx (hb hby d18_33) rfl rfl ?_
  refine own_st (A := T3.setTop (mkF mM 37 #[.val (.ref d), .val (.int 1), .val (.int y)] [.int 0, .ref d])) (fun t_ k_ => XS.iinc X3.here hx rfl (hb hby d18_34) rfl (l' := #[.val (.ref d), .val (.int 1), .val (.int y)]) rfl k_) ?_
  refine o_iloadN 38 X3 hx (hb hby d18_37) rfl rfl ?_
  obtain ⟨T4, X4, e4, st4⟩ := getS2 X3 hx hZ hown (host := "") (Or.inl (ow hw 79 rfl)) Via.refl e3 (S_hi.ext O.2) (g := (mkF mM 38 #[.val (.ref d), .val (.int 1), .val (.int y)] [.int y, .int 0, .ref d])) rfl (hb hby d18_38)
  refine own_k T4 41 [.int 0, .int y, .int 0, .ref d] st4 ?_
  refine own_j 42 [(.int (y >>> ((0 : Int32) &&& 31))), .int 0, .ref d] (fun t_ k_ => XS.ishr X4.here hx rfl (hb hby d18_41) rfl k_) ?_
  refine own_j 43 [(.int (((y >>> ((0 : Int32) &&& 31))).toInt8.toInt32)), .int 0, .ref d] (fun t_ k_ => XS.i2b X4.here hx rfl (hb hby d18_42) rfl k_) ?_
  obtain ⟨cl5, Ar5, q5, S5, Nn5, H5, G5⟩ := id A_d
  obtain ⟨T6, h6, X6, e6, W6, st6⟩ := stB X4 hx hZ e4 Ar5 (j := (0 : Int32)) (inb_of S5 ⟨by decide, by decide⟩) (g := (mkF mM 43 #[.val (.ref d), .val (.int 1), .val (.int y)] [(.int (((y >>> ((0 : Int32) &&& 31))).toInt8.toInt32)), .int 0, .ref d])) rfl rfl (hb hby d18_43)
  have N6 := Fr.snoc X6 N0 g_d
  have O := O.wr W6 g_d
  have Kp := Kp.wr W6 (Or.inl (List.mem_of_getElem? (i := 0) rfl))
  have A_d : Arv Z h6 d kd .byte 8 [(.int ((((y >>> ((0 : Int32) &&& 31))).toInt8.toInt32)).toInt8.toInt32), v1, v2, v3, v4, v5, v6, v7] (.int 0) := Arv.set Ar5 q5 S5 Nn5 H5 G5 (fits_nar_byte _) W6 0 rfl (Nat.le_of_ble_eq_true rfl)
  refine own_k T6 44 [] st6 ?_
  refine o_aloadN 45 X6 hx (hb hby d18_44) rfl rfl rfl ?_
  refine o_iloadN 46 X6 hx (hb hby d18_45) rfl rfl ?_
  refine o_iloadN 47 X6 hx (hb hby d18_46) rfl rfl ?_
  obtain ⟨T7, X7, e7, st7⟩ := getS2 X6 hx hZ hown (host := "") (Or.inl (ow hw 80 rfl)) Via.refl e6 (S_lo.ext O.2) (g := (mkF mM 47 #[.val (.ref d), .val (.int 1), .val (.int y)] [.int y, .int 1, .ref d])) rfl (hb hby d18_47)
  refine own_k T7 50 [.int 8, .int y, .int 1, .ref d] st7 ?_
  refine own_j 51 [(.int (y >>> ((8 : Int32) &&& 31))), .int 1, .ref d] (fun t_ k_ => XS.ishr X7.here hx rfl (hb hby d18_50) rfl k_) ?_
  refine own_j 52 [(.int (((y >>> ((8 : Int32) &&& 31))).toInt8.toInt32)), .int 1, .ref d] (fun t_ k_ => XS.i2b X7.here hx rfl (hb hby d18_51) rfl k_) ?_
  obtain ⟨cl8, Ar8, q8, S8, Nn8, H8, G8⟩ := id A_d
  obtain ⟨T9, h9, X9, e9, W9, st9⟩ := stB X7 hx hZ e7 Ar8 (j := (1 : Int32)) (inb_of S8 ⟨by decide, by decide⟩) (g := (mkF mM 52 #[.val (.ref d), .val (.int 1), .val (.int y)] [(.int (((y >>> ((8 : Int32) &&& 31))).toInt8.toInt32)), .int 1, .ref d])) rfl rfl (hb hby d18_52)
  have N9 := Fr.snoc X9 N6 g_d
  have O := O.wr W9 g_d
  have Kp := Kp.wr W9 (Or.inl (List.mem_of_getElem? (i := 0) rfl))
  have A_d : Arv Z h9 d kd .byte 8 [(.int ((((y >>> ((0 : Int32) &&& 31))).toInt8.toInt32)).toInt8.toInt32), (.int ((((y >>> ((8 : Int32) &&& 31))).toInt8.toInt32)).toInt8.toInt32), v2, v3, v4, v5, v6, v7] (.int 0) := Arv.set Ar8 q8 S8 Nn8 H8 G8 (fits_nar_byte _) W9 1 rfl (Nat.le_of_ble_eq_true rfl)
  refine own_k T9 53 [] st9 ?_
  exact own_retV X9 hx hlk hret (hb hby d18_53) (by rw [e9]; exact ⟨rfl, N9, Kp, A_d⟩) (by decide) (by decide)
theorem ef_rmPC1 (mM : MethodId) (d : Addr) (kd : ClassId) (y : Int32) (v0 : Value) (v1 : Value) (v2 : Value) (v3 : Value) (v4 : Value) (v5 : Value) (v6 : Value) (v7 : Value) : entryFrame mM #[.ref d, .int 1, .int y] 3 = mkF mM 0 #[.val (.ref d), .val (.int 1), .val (.int y)] [] := by first | (simp [entryFrame, mkF, argsToLocals, Value.category]; done) | rfl
theorem rmPC1 (lL : Launch) (Z : State) (a0 : Array Value) (hw : own_tb a0 Z) (ws : List Jvm.Cond) (d : Addr) (kd : ClassId) (y : Int32) (v0 : Value) (v1 : Value) (v2 : Value) (v3 : Value) (v4 : Value) (v5 : Value) (v6 : Value) (v7 : Value) (h0 : Heap) (n0 : Nat) (g_d : n0 ≤ d) (A_d : Arv Z h0 d kd .byte 8 [v0, v1, v2, v3, v4, v5, v6, v7] (.int 0)) (O : Old Z n0 h0) (S_ad : Sta Z Z.heap "java/lang/StringUTF16" "$assertionsDisabled" "Z" (.int 1)) (S_hi : Sta Z Z.heap "java/lang/StringUTF16" "HI_BYTE_SHIFT" "I" (.int 0)) (S_lo : Sta Z Z.heap "java/lang/StringUTF16" "LO_BYTE_SHIFT" "I" (.int 8)) :
    own_Ct lL Z yn2 jdk_52_method_4_code 3 none ws (⟨0, 0, 0, 0⟩ : Room) #[.ref d, .int 1, .int y] h0 (QP Z d kd [v0, v1, (.int (lo8 y)), (.int (hi8 y)), v4, v5, v6, v7] h0 n0) := by
  refine own_body (plainFor_of_name pn_java_2flang_2fStringUTF16) 0 0 rfl rfl (fun mM => ef_rmPC1 mM d kd y v0 v1 v2 v3 v4 v5 v6 v7) fun pP eE sS mM below meth cC s₁ hZ hx hby hml hown hnm hret hlk X0 e0 => ?_
  have N0 := Fr.nil n0
  have Kp := Keep.refl h0 [d]
  obtain ⟨T10, X10, e10, st10⟩ := getS2 X0 hx hZ hown (host := "") (Or.inl (ow hw 78 rfl)) Via.refl e0 (S_ad.ext O.2) (g := (mkF mM 0 #[.val (.ref d), .val (.int 1), .val (.int y)] [])) rfl (hb hby d18_0)
  refine own_k T10 3 [.int 1] st10 ?_
  refine o_ifYes 28 X10 hx (hb hby d18_3) ((if0 _ _).trans (feq (by decide : ¬ ((1 : Int32) = (0 : Int32)))).2) (by decide) ?_
  refine o_iloadN 29 X10 hx (hb hby d18_28) rfl rfl ?_
  refine o_iconst 30 1 X10 hx (hb hby d18_29) rfl rfl ?_
  refine own_j 31 [.int 2] (fun t_ k_ => XS.ishl X10.here hx rfl (hb hby d18_30) rfl k_) ?_
  refine own_st (A := T10.setTop (mkF mM 32 #[.val (.ref d), .val (.int 2), .val (.int y)] [])) (fun t_ k_ => XS.istoreN X10.here hx rfl (hb hby d18_31) rfl (l' := #[.val (.ref d), .val (.int 2), .val (.int y)]) rfl k_) ?_
  refine o_aloadN 33 X10 hx (hb hby d18_32) rfl rfl rfl ?_
  refine o_iloadN 34 X10 hx (hb hby d18_33) rfl rfl ?_
  refine own_st (A := T10.setTop (mkF mM 37 #[.val (.ref d), .val (.int 3), .val (.int y)] [.int 2, .ref d])) (fun t_ k_ => XS.iinc X10.here hx rfl (hb hby d18_34) rfl (l' := #[.val (.ref d), .val (.int 3), .val (.int y)]) rfl k_) ?_
  refine o_iloadN 38 X10 hx (hb hby d18_37) rfl rfl ?_
  obtain ⟨T11, X11, e11, st11⟩ := getS2 X10 hx hZ hown (host := "") (Or.inl (ow hw 79 rfl)) Via.refl e10 (S_hi.ext O.2) (g := (mkF mM 38 #[.val (.ref d), .val (.int 3), .val (.int y)] [.int y, .int 2, .ref d])) rfl (hb hby d18_38)
  refine own_k T11 41 [.int 0, .int y, .int 2, .ref d] st11 ?_
  refine own_j 42 [(.int (y >>> ((0 : Int32) &&& 31))), .int 2, .ref d] (fun t_ k_ => XS.ishr X11.here hx rfl (hb hby d18_41) rfl k_) ?_
  refine own_j 43 [(.int (((y >>> ((0 : Int32) &&& 31))).toInt8.toInt32)), .int 2, .ref d] (fun t_ k_ => XS.i2b X11.here hx rfl (hb hby d18_42) rfl k_) ?_
  obtain ⟨cl12, Ar12, q12, S12, Nn12, H12, G12⟩ := id A_d
  obtain ⟨T13, h13, X13, e13, W13, st13⟩ := stB X11 hx hZ e11 Ar12 (j := (2 : Int32)) (inb_of S12 ⟨by decide, by decide⟩) (g := (mkF mM 43 #[.val (.ref d), .val (.int 3), .val (.int y)] [(.int (((y >>> ((0 : Int32) &&& 31))).toInt8.toInt32)), .int 2, .ref d])) rfl rfl (hb hby d18_43)
  have N13 := Fr.snoc X13 N0 g_d
  have O := O.wr W13 g_d
  have Kp := Kp.wr W13 (Or.inl (List.mem_of_getElem? (i := 0) rfl))
  have A_d : Arv Z h13 d kd .byte 8 [v0, v1, (.int ((((y >>> ((0 : Int32) &&& 31))).toInt8.toInt32)).toInt8.toInt32), v3, v4, v5, v6, v7] (.int 0) := Arv.set Ar12 q12 S12 Nn12 H12 G12 (fits_nar_byte _) W13 2 rfl (Nat.le_of_ble_eq_true rfl)
  refine own_k T13 44 [] st13 ?_
  refine o_aloadN 45 X13 hx (hb hby d18_44) rfl rfl rfl ?_
  refine o_iloadN 46 X13 hx (hb hby d18_45) rfl rfl ?_
  refine o_iloadN 47 X13 hx (hb hby d18_46) rfl rfl ?_
  obtain ⟨T14, X14, e14, st14⟩ := getS2 X13 hx hZ hown (host := "") (Or.inl (ow hw 80 rfl)) Via.refl e13 (S_lo.ext O.2) (g := (mkF mM 47 #[.val (.ref d), .val (.int 3), .val (.int y)] [.int y, .int 3, .ref d])) rfl (hb hby d18_47)
  refine own_k T14 50 [.int 8, .int y, .int 3, .ref d] st14 ?_
  refine own_j 51 [(.int (y >>> ((8 : Int32) &&& 31))), .int 3, .ref d] (fun t_ k_ => XS.ishr X14.here hx rfl (hb hby d18_50) rfl k_) ?_
  refine own_j 52 [(.int (((y >>> ((8 : Int32) &&& 31))).toInt8.toInt32)), .int 3, .ref d] (fun t_ k_ => XS.i2b X14.here hx rfl (hb hby d18_51) rfl k_) ?_
  obtain ⟨cl15, Ar15, q15, S15, Nn15, H15, G15⟩ := id A_d
  obtain ⟨T16, h16, X16, e16, W16, st16⟩ := stB X14 hx hZ e14 Ar15 (j := (3 : Int32)) (inb_of S15 ⟨by decide, by decide⟩) (g := (mkF mM 52 #[.val (.ref d), .val (.int 3), .val (.int y)] [(.int (((y >>> ((8 : Int32) &&& 31))).toInt8.toInt32)), .int 3, .ref d])) rfl rfl (hb hby d18_52)
  have N16 := Fr.snoc X16 N13 g_d
  have O := O.wr W16 g_d
  have Kp := Kp.wr W16 (Or.inl (List.mem_of_getElem? (i := 0) rfl))
  have A_d : Arv Z h16 d kd .byte 8 [v0, v1, (.int ((((y >>> ((0 : Int32) &&& 31))).toInt8.toInt32)).toInt8.toInt32), (.int ((((y >>> ((8 : Int32) &&& 31))).toInt8.toInt32)).toInt8.toInt32), v4, v5, v6, v7] (.int 0) := Arv.set Ar15 q15 S15 Nn15 H15 G15 (fits_nar_byte _) W16 3 rfl (Nat.le_of_ble_eq_true rfl)
  refine own_k T16 53 [] st16 ?_
  exact own_retV X16 hx hlk hret (hb hby d18_53) (by rw [e16]; exact ⟨rfl, N16, Kp, A_d⟩) (by decide) (by decide)
theorem ef_rmPC2 (mM : MethodId) (d : Addr) (kd : ClassId) (y : Int32) (v0 : Value) (v1 : Value) (v2 : Value) (v3 : Value) (v4 : Value) (v5 : Value) (v6 : Value) (v7 : Value) : entryFrame mM #[.ref d, .int 2, .int y] 3 = mkF mM 0 #[.val (.ref d), .val (.int 2), .val (.int y)] [] := by first | (simp [entryFrame, mkF, argsToLocals, Value.category]; done) | rfl
theorem rmPC2 (lL : Launch) (Z : State) (a0 : Array Value) (hw : own_tb a0 Z) (ws : List Jvm.Cond) (d : Addr) (kd : ClassId) (y : Int32) (v0 : Value) (v1 : Value) (v2 : Value) (v3 : Value) (v4 : Value) (v5 : Value) (v6 : Value) (v7 : Value) (h0 : Heap) (n0 : Nat) (g_d : n0 ≤ d) (A_d : Arv Z h0 d kd .byte 8 [v0, v1, v2, v3, v4, v5, v6, v7] (.int 0)) (O : Old Z n0 h0) (S_ad : Sta Z Z.heap "java/lang/StringUTF16" "$assertionsDisabled" "Z" (.int 1)) (S_hi : Sta Z Z.heap "java/lang/StringUTF16" "HI_BYTE_SHIFT" "I" (.int 0)) (S_lo : Sta Z Z.heap "java/lang/StringUTF16" "LO_BYTE_SHIFT" "I" (.int 8)) :
    own_Ct lL Z yn2 jdk_52_method_4_code 3 none ws (⟨0, 0, 0, 0⟩ : Room) #[.ref d, .int 2, .int y] h0 (QP Z d kd [v0, v1, v2, v3, (.int (lo8 y)), (.int (hi8 y)), v6, v7] h0 n0) := by
  refine own_body (plainFor_of_name pn_java_2flang_2fStringUTF16) 0 0 rfl rfl (fun mM => ef_rmPC2 mM d kd y v0 v1 v2 v3 v4 v5 v6 v7) fun pP eE sS mM below meth cC s₁ hZ hx hby hml hown hnm hret hlk X0 e0 => ?_
  have N0 := Fr.nil n0
  have Kp := Keep.refl h0 [d]
  obtain ⟨T17, X17, e17, st17⟩ := getS2 X0 hx hZ hown (host := "") (Or.inl (ow hw 78 rfl)) Via.refl e0 (S_ad.ext O.2) (g := (mkF mM 0 #[.val (.ref d), .val (.int 2), .val (.int y)] [])) rfl (hb hby d18_0)
  refine own_k T17 3 [.int 1] st17 ?_
  refine o_ifYes 28 X17 hx (hb hby d18_3) ((if0 _ _).trans (feq (by decide : ¬ ((1 : Int32) = (0 : Int32)))).2) (by decide) ?_
  refine o_iloadN 29 X17 hx (hb hby d18_28) rfl rfl ?_
  refine o_iconst 30 1 X17 hx (hb hby d18_29) rfl rfl ?_
  refine own_j 31 [.int 4] (fun t_ k_ => XS.ishl X17.here hx rfl (hb hby d18_30) rfl k_) ?_
  refine own_st (A := T17.setTop (mkF mM 32 #[.val (.ref d), .val (.int 4), .val (.int y)] [])) (fun t_ k_ => XS.istoreN X17.here hx rfl (hb hby d18_31) rfl (l' := #[.val (.ref d), .val (.int 4), .val (.int y)]) rfl k_) ?_
  refine o_aloadN 33 X17 hx (hb hby d18_32) rfl rfl rfl ?_
  refine o_iloadN 34 X17 hx (hb hby d18_33) rfl rfl ?_
  refine own_st (A := T17.setTop (mkF mM 37 #[.val (.ref d), .val (.int 5), .val (.int y)] [.int 4, .ref d])) (fun t_ k_ => XS.iinc X17.here hx rfl (hb hby d18_34) rfl (l' := #[.val (.ref d), .val (.int 5), .val (.int y)]) rfl k_) ?_
  refine o_iloadN 38 X17 hx (hb hby d18_37) rfl rfl ?_
  obtain ⟨T18, X18, e18, st18⟩ := getS2 X17 hx hZ hown (host := "") (Or.inl (ow hw 79 rfl)) Via.refl e17 (S_hi.ext O.2) (g := (mkF mM 38 #[.val (.ref d), .val (.int 5), .val (.int y)] [.int y, .int 4, .ref d])) rfl (hb hby d18_38)
  refine own_k T18 41 [.int 0, .int y, .int 4, .ref d] st18 ?_
  refine own_j 42 [(.int (y >>> ((0 : Int32) &&& 31))), .int 4, .ref d] (fun t_ k_ => XS.ishr X18.here hx rfl (hb hby d18_41) rfl k_) ?_
  refine own_j 43 [(.int (((y >>> ((0 : Int32) &&& 31))).toInt8.toInt32)), .int 4, .ref d] (fun t_ k_ => XS.i2b X18.here hx rfl (hb hby d18_42) rfl k_) ?_
  obtain ⟨cl19, Ar19, q19, S19, Nn19, H19, G19⟩ := id A_d
  obtain ⟨T20, h20, X20, e20, W20, st20⟩ := stB X18 hx hZ e18 Ar19 (j := (4 : Int32)) (inb_of S19 ⟨by decide, by decide⟩) (g := (mkF mM 43 #[.val (.ref d), .val (.int 5), .val (.int y)] [(.int (((y >>> ((0 : Int32) &&& 31))).toInt8.toInt32)), .int 4, .ref d])) rfl rfl (hb hby d18_43)
  have N20 := Fr.snoc X20 N0 g_d
  have O := O.wr W20 g_d
  have Kp := Kp.wr W20 (Or.inl (List.mem_of_getElem? (i := 0) rfl))
  have A_d : Arv Z h20 d kd .byte 8 [v0, v1, v2, v3, (.int ((((y >>> ((0 : Int32) &&& 31))).toInt8.toInt32)).toInt8.toInt32), v5, v6, v7] (.int 0) := Arv.set Ar19 q19 S19 Nn19 H19 G19 (fits_nar_byte _) W20 4 rfl (Nat.le_of_ble_eq_true rfl)
  refine own_k T20 44 [] st20 ?_
  refine o_aloadN 45 X20 hx (hb hby d18_44) rfl rfl rfl ?_
  refine o_iloadN 46 X20 hx (hb hby d18_45) rfl rfl ?_
  refine o_iloadN 47 X20 hx (hb hby d18_46) rfl rfl ?_
  obtain ⟨T21, X21, e21, st21⟩ := getS2 X20 hx hZ hown (host := "") (Or.inl (ow hw 80 rfl)) Via.refl e20 (S_lo.ext O.2) (g := (mkF mM 47 #[.val (.ref d), .val (.int 5), .val (.int y)] [.int y, .int 5, .ref d])) rfl (hb hby d18_47)
  refine own_k T21 50 [.int 8, .int y, .int 5, .ref d] st21 ?_
  refine own_j 51 [(.int (y >>> ((8 : Int32) &&& 31))), .int 5, .ref d] (fun t_ k_ => XS.ishr X21.here hx rfl (hb hby d18_50) rfl k_) ?_
  refine own_j 52 [(.int (((y >>> ((8 : Int32) &&& 31))).toInt8.toInt32)), .int 5, .ref d] (fun t_ k_ => XS.i2b X21.here hx rfl (hb hby d18_51) rfl k_) ?_
  obtain ⟨cl22, Ar22, q22, S22, Nn22, H22, G22⟩ := id A_d
  obtain ⟨T23, h23, X23, e23, W23, st23⟩ := stB X21 hx hZ e21 Ar22 (j := (5 : Int32)) (inb_of S22 ⟨by decide, by decide⟩) (g := (mkF mM 52 #[.val (.ref d), .val (.int 5), .val (.int y)] [(.int (((y >>> ((8 : Int32) &&& 31))).toInt8.toInt32)), .int 5, .ref d])) rfl rfl (hb hby d18_52)
  have N23 := Fr.snoc X23 N20 g_d
  have O := O.wr W23 g_d
  have Kp := Kp.wr W23 (Or.inl (List.mem_of_getElem? (i := 0) rfl))
  have A_d : Arv Z h23 d kd .byte 8 [v0, v1, v2, v3, (.int ((((y >>> ((0 : Int32) &&& 31))).toInt8.toInt32)).toInt8.toInt32), (.int ((((y >>> ((8 : Int32) &&& 31))).toInt8.toInt32)).toInt8.toInt32), v6, v7] (.int 0) := Arv.set Ar22 q22 S22 Nn22 H22 G22 (fits_nar_byte _) W23 5 rfl (Nat.le_of_ble_eq_true rfl)
  refine own_k T23 53 [] st23 ?_
  exact own_retV X23 hx hlk hret (hb hby d18_53) (by rw [e23]; exact ⟨rfl, N23, Kp, A_d⟩) (by decide) (by decide)
theorem ef_rmPC3 (mM : MethodId) (d : Addr) (kd : ClassId) (y : Int32) (v0 : Value) (v1 : Value) (v2 : Value) (v3 : Value) (v4 : Value) (v5 : Value) (v6 : Value) (v7 : Value) : entryFrame mM #[.ref d, .int 3, .int y] 3 = mkF mM 0 #[.val (.ref d), .val (.int 3), .val (.int y)] [] := by first | (simp [entryFrame, mkF, argsToLocals, Value.category]; done) | rfl
theorem rmPC3 (lL : Launch) (Z : State) (a0 : Array Value) (hw : own_tb a0 Z) (ws : List Jvm.Cond) (d : Addr) (kd : ClassId) (y : Int32) (v0 : Value) (v1 : Value) (v2 : Value) (v3 : Value) (v4 : Value) (v5 : Value) (v6 : Value) (v7 : Value) (h0 : Heap) (n0 : Nat) (g_d : n0 ≤ d) (A_d : Arv Z h0 d kd .byte 8 [v0, v1, v2, v3, v4, v5, v6, v7] (.int 0)) (O : Old Z n0 h0) (S_ad : Sta Z Z.heap "java/lang/StringUTF16" "$assertionsDisabled" "Z" (.int 1)) (S_hi : Sta Z Z.heap "java/lang/StringUTF16" "HI_BYTE_SHIFT" "I" (.int 0)) (S_lo : Sta Z Z.heap "java/lang/StringUTF16" "LO_BYTE_SHIFT" "I" (.int 8)) :
    own_Ct lL Z yn2 jdk_52_method_4_code 3 none ws (⟨0, 0, 0, 0⟩ : Room) #[.ref d, .int 3, .int y] h0 (QP Z d kd [v0, v1, v2, v3, v4, v5, (.int (lo8 y)), (.int (hi8 y))] h0 n0) := by
  refine own_body (plainFor_of_name pn_java_2flang_2fStringUTF16) 0 0 rfl rfl (fun mM => ef_rmPC3 mM d kd y v0 v1 v2 v3 v4 v5 v6 v7) fun pP eE sS mM below meth cC s₁ hZ hx hby hml hown hnm hret hlk X0 e0 => ?_
  have N0 := Fr.nil n0
  have Kp := Keep.refl h0 [d]
  obtain ⟨T24, X24, e24, st24⟩ := getS2 X0 hx hZ hown (host := "") (Or.inl (ow hw 78 rfl)) Via.refl e0 (S_ad.ext O.2) (g := (mkF mM 0 #[.val (.ref d), .val (.int 3), .val (.int y)] [])) rfl (hb hby d18_0)
  refine own_k T24 3 [.int 1] st24 ?_
  refine o_ifYes 28 X24 hx (hb hby d18_3) ((if0 _ _).trans (feq (by decide : ¬ ((1 : Int32) = (0 : Int32)))).2) (by decide) ?_
  refine o_iloadN 29 X24 hx (hb hby d18_28) rfl rfl ?_
  refine o_iconst 30 1 X24 hx (hb hby d18_29) rfl rfl ?_
  refine own_j 31 [.int 6] (fun t_ k_ => XS.ishl X24.here hx rfl (hb hby d18_30) rfl k_) ?_
  refine own_st (A := T24.setTop (mkF mM 32 #[.val (.ref d), .val (.int 6), .val (.int y)] [])) (fun t_ k_ => XS.istoreN X24.here hx rfl (hb hby d18_31) rfl (l' := #[.val (.ref d), .val (.int 6), .val (.int y)]) rfl k_) ?_
  refine o_aloadN 33 X24 hx (hb hby d18_32) rfl rfl rfl ?_
  refine o_iloadN 34 X24 hx (hb hby d18_33) rfl rfl ?_
  refine own_st (A := T24.setTop (mkF mM 37 #[.val (.ref d), .val (.int 7), .val (.int y)] [.int 6, .ref d])) (fun t_ k_ => XS.iinc X24.here hx rfl (hb hby d18_34) rfl (l' := #[.val (.ref d), .val (.int 7), .val (.int y)]) rfl k_) ?_
  refine o_iloadN 38 X24 hx (hb hby d18_37) rfl rfl ?_
  obtain ⟨T25, X25, e25, st25⟩ := getS2 X24 hx hZ hown (host := "") (Or.inl (ow hw 79 rfl)) Via.refl e24 (S_hi.ext O.2) (g := (mkF mM 38 #[.val (.ref d), .val (.int 7), .val (.int y)] [.int y, .int 6, .ref d])) rfl (hb hby d18_38)
  refine own_k T25 41 [.int 0, .int y, .int 6, .ref d] st25 ?_
  refine own_j 42 [(.int (y >>> ((0 : Int32) &&& 31))), .int 6, .ref d] (fun t_ k_ => XS.ishr X25.here hx rfl (hb hby d18_41) rfl k_) ?_
  refine own_j 43 [(.int (((y >>> ((0 : Int32) &&& 31))).toInt8.toInt32)), .int 6, .ref d] (fun t_ k_ => XS.i2b X25.here hx rfl (hb hby d18_42) rfl k_) ?_
  obtain ⟨cl26, Ar26, q26, S26, Nn26, H26, G26⟩ := id A_d
  obtain ⟨T27, h27, X27, e27, W27, st27⟩ := stB X25 hx hZ e25 Ar26 (j := (6 : Int32)) (inb_of S26 ⟨by decide, by decide⟩) (g := (mkF mM 43 #[.val (.ref d), .val (.int 7), .val (.int y)] [(.int (((y >>> ((0 : Int32) &&& 31))).toInt8.toInt32)), .int 6, .ref d])) rfl rfl (hb hby d18_43)
  have N27 := Fr.snoc X27 N0 g_d
  have O := O.wr W27 g_d
  have Kp := Kp.wr W27 (Or.inl (List.mem_of_getElem? (i := 0) rfl))
  have A_d : Arv Z h27 d kd .byte 8 [v0, v1, v2, v3, v4, v5, (.int ((((y >>> ((0 : Int32) &&& 31))).toInt8.toInt32)).toInt8.toInt32), v7] (.int 0) := Arv.set Ar26 q26 S26 Nn26 H26 G26 (fits_nar_byte _) W27 6 rfl (Nat.le_of_ble_eq_true rfl)
  refine own_k T27 44 [] st27 ?_
  refine o_aloadN 45 X27 hx (hb hby d18_44) rfl rfl rfl ?_
  refine o_iloadN 46 X27 hx (hb hby d18_45) rfl rfl ?_
  refine o_iloadN 47 X27 hx (hb hby d18_46) rfl rfl ?_
  obtain ⟨T28, X28, e28, st28⟩ := getS2 X27 hx hZ hown (host := "") (Or.inl (ow hw 80 rfl)) Via.refl e27 (S_lo.ext O.2) (g := (mkF mM 47 #[.val (.ref d), .val (.int 7), .val (.int y)] [.int y, .int 7, .ref d])) rfl (hb hby d18_47)
  refine own_k T28 50 [.int 8, .int y, .int 7, .ref d] st28 ?_
  refine own_j 51 [(.int (y >>> ((8 : Int32) &&& 31))), .int 7, .ref d] (fun t_ k_ => XS.ishr X28.here hx rfl (hb hby d18_50) rfl k_) ?_
  refine own_j 52 [(.int (((y >>> ((8 : Int32) &&& 31))).toInt8.toInt32)), .int 7, .ref d] (fun t_ k_ => XS.i2b X28.here hx rfl (hb hby d18_51) rfl k_) ?_
  obtain ⟨cl29, Ar29, q29, S29, Nn29, H29, G29⟩ := id A_d
  obtain ⟨T30, h30, X30, e30, W30, st30⟩ := stB X28 hx hZ e28 Ar29 (j := (7 : Int32)) (inb_of S29 ⟨by decide, by decide⟩) (g := (mkF mM 52 #[.val (.ref d), .val (.int 7), .val (.int y)] [(.int (((y >>> ((8 : Int32) &&& 31))).toInt8.toInt32)), .int 7, .ref d])) rfl rfl (hb hby d18_52)
  have N30 := Fr.snoc X30 N27 g_d
  have O := O.wr W30 g_d
  have Kp := Kp.wr W30 (Or.inl (List.mem_of_getElem? (i := 0) rfl))
  have A_d : Arv Z h30 d kd .byte 8 [v0, v1, v2, v3, v4, v5, (.int ((((y >>> ((0 : Int32) &&& 31))).toInt8.toInt32)).toInt8.toInt32), (.int ((((y >>> ((8 : Int32) &&& 31))).toInt8.toInt32)).toInt8.toInt32)] (.int 0) := Arv.set Ar29 q29 S29 Nn29 H29 G29 (fits_nar_byte _) W30 7 rfl (Nat.le_of_ble_eq_true rfl)
  refine own_k T30 53 [] st30 ?_
  exact own_retV X30 hx hlk hret (hb hby d18_53) (by rw [e30]; exact ⟨rfl, N30, Kp, A_d⟩) (by decide) (by decide)
theorem d15_0 : decode jdk_52_method_14_code 0 = .ok (.iload_n 2, 1) := by decide +kernel
theorem d15_1 : decode jdk_52_method_14_code 1 = .ok (.invokestatic 107, 3) := by decide +kernel
theorem pd__28I_29_5bB : parseMethodDescriptor "(I)[B" = some ⟨[.int], some (.array .byte)⟩ := by decide +kernel
theorem d15_4 : decode jdk_52_method_14_code 4 = .ok (.astore_n 3, 1) := by decide +kernel
theorem d15_5 : decode jdk_52_method_14_code 5 = .ok (.iconst 0, 1) := by decide +kernel
theorem d15_6 : decode jdk_52_method_14_code 6 = .ok (.istore 4, 2) := by decide +kernel
theorem d15_8 : decode jdk_52_method_14_code 8 = .ok (.iload 4, 2) := by decide +kernel
theorem d15_10 : decode jdk_52_method_14_code 10 = .ok (.iload_n 2, 1) := by decide +kernel
theorem d15_11 : decode jdk_52_method_14_code 11 = .ok (.if_icmp .ge 21, 3) := by decide +kernel
theorem d15_14 : decode jdk_52_method_14_code 14 = .ok (.aload_n 3, 1) := by decide +kernel
theorem d15_15 : decode jdk_52_method_14_code 15 = .ok (.iload 4, 2) := by decide +kernel
theorem d15_17 : decode jdk_52_method_14_code 17 = .ok (.aload_n 0, 1) := by decide +kernel
theorem d15_18 : decode jdk_52_method_14_code 18 = .ok (.iload_n 1, 1) := by decide +kernel
theorem d15_19 : decode jdk_52_method_14_code 19 = .ok (.caload, 1) := by decide +kernel
theorem d15_20 : decode jdk_52_method_14_code 20 = .ok (.invokestatic 111, 3) := by decide +kernel
theorem pd__28_5bBII_29V : parseMethodDescriptor "([BII)V" = some ⟨[(.array .byte), .int, .int], none⟩ := by decide +kernel
theorem d15_23 : decode jdk_52_method_14_code 23 = .ok (.iinc 1 1, 3) := by decide +kernel
theorem d15_26 : decode jdk_52_method_14_code 26 = .ok (.iinc 4 1, 3) := by decide +kernel
theorem d15_29 : decode jdk_52_method_14_code 29 = .ok (.goto (-21), 3) := by decide +kernel
theorem d15_32 : decode jdk_52_method_14_code 32 = .ok (.aload_n 3, 1) := by decide +kernel
theorem d15_33 : decode jdk_52_method_14_code 33 = .ok (.areturn, 1) := by decide +kernel
theorem ef_rmTB (mM : MethodId) (s' : Addr) (ks : ClassId) (x0 : Int32) (x1 : Int32) (x2 : Int32) (x3 : Int32) : entryFrame mM #[.ref s', .int 0, .int 4] 5 = mkF mM 0 #[.val (.ref s'), .val (.int 0), .val (.int 4), .unset, .unset] [] := by first | (simp [entryFrame, mkF, argsToLocals, Value.category]; done) | rfl
theorem rmTB (lL : Launch) (Z : State) (a0 : Array Value) (hw : own_tb a0 Z) (ws : List Jvm.Cond) (s' : Addr) (ks : ClassId) (x0 : Int32) (x1 : Int32) (x2 : Int32) (x3 : Int32) (h0 : Heap) (n0 : Nat) (A_s' : Arv Z h0 s' ks .char 4 [.int x0, .int x1, .int x2, .int x3] (.int 0)) (O : Old Z n0 h0) (Zn : n0 ≤ h0.size) (S_ad : Sta Z Z.heap "java/lang/StringUTF16" "$assertionsDisabled" "Z" (.int 1)) (S_hi : Sta Z Z.heap "java/lang/StringUTF16" "HI_BYTE_SHIFT" "I" (.int 0)) (S_lo : Sta Z Z.heap "java/lang/StringUTF16" "LO_BYTE_SHIFT" "I" (.int 8)) :
    own_Ct lL Z yn3 jdk_52_method_14_code 5 (some (.array .byte)) ws (⟨2, 1, 8, 24⟩ : Room) #[.ref s', .int 0, .int 4] h0 (QC3 Z 8 [(.int (lo8 x0)), (.int (hi8 x0)), (.int (lo8 x1)), (.int (hi8 x1)), (.int (lo8 x2)), (.int (hi8 x2)), (.int (lo8 x3)), (.int (hi8 x3))] h0 n0) := by
  refine own_body (plainFor_of_name pn_java_2flang_2fStringUTF16) 1 8 rfl rfl (fun mM => ef_rmTB mM s' ks x0 x1 x2 x3) fun pP eE sS mM below meth cC s₁ hZ hx hby hml hown hnm hret hlk X0 e0 => ?_
  have N0 := Fr.nil n0
  have Kp := Keep.refl h0 []
  refine o_iloadN 1 X0 hx (hb hby d15_0) rfl rfl ?_
  obtain ⟨_, _, ⟨T31, L31, k31, n31⟩, -, X31, ⟨Lc31, hQ31, l31, y31, z31⟩, st31⟩ := Jvm.LawKit.callS X0 hx (y := yn1) hown (mvT hZ (ow hw 68 rfl)) (mvT hZ (ow hw 69 rfl)) (mvT hZ (ow hw 22 rfl)) (mvT hZ (ow hw 70 rfl)) (by decide) (backOf (W := 0) (rmNF lL Z a0 hw []  h0 n0 Zn) hZ (ow hw 70 rfl) (ow hw 22 rfl) (by decide) (by decide)) (g := (mkF mM 1 #[.val (.ref s'), .val (.int 0), .val (.int 4), .unset, .unset] [.int 4])) rfl (by rw [hml]; rfl) (argsL := [.int 4]) (rest := []) (lenOf pd__28I_29_5bB rfl) rfl (by show 2 * 0 + _ ≤ _; exact Nat.le_of_eq rfl) (hb hby d15_1) (fun _ _ => ⟨rfl, e0, (by decide : 0 + 1 ≤ _), (by decide : 0 + 8 ≤ _)⟩)
  dsimp only [Pt.U, Pt.locs, Pt.cells, Pt.slots] at X31 l31 y31 z31 st31 hQ31
  subst l31 y31 z31
  obtain ⟨b31, k31', rfl, N31q, E31, V31, ge31⟩ := hQ31
  have N31 := Fr.app N0 N31q
  have e31 : T31.heap = T31.heap := rfl
  refine own_k T31 4 [.ref b31] st31 ?_
  have ne_s_b31 : s' ≠ b31 := Nat.ne_of_lt (Nat.lt_of_lt_of_le A_s'.lt ge31)
  have b_b31 : h0.size ≤ b31 := Nat.le_trans Kp.1 ge31
  have g_b31 : n0 ≤ b31 := Nat.le_trans Zn ge31
  have O := O.ext E31
  have A_s' := A_s'.ext E31
  have Zn := Nat.le_trans Zn E31.1
  have Kp := Kp.ext E31
  have A_b31 := V31
  let Lv32 : Array Slot := #[.val (.ref s'), .val (.int 0), .val (.int 4), .val (.ref b31), .unset]
  refine own_st (A := T31.setTop (mkF mM 5 Lv32 [])) (fun t_ k_ => XS.astoreN X31.here hx rfl (hb hby d15_4) rfl rfl (l' := Lv32) rfl k_) ?_
  refine o_iconst 6 0 X31 hx (hb hby d15_5) rfl rfl ?_
  let Lv33 : Array Slot := #[.val (.ref s'), .val (.int 0), .val (.int 4), .val (.ref b31), .val (.int 0)]
  refine own_st (A := T31.setTop (mkF mM 8 Lv33 [])) (fun t_ k_ => XS.istore X31.here hx rfl (hb hby d15_6) rfl (l' := Lv33) rfl k_) ?_
  refine o_iload 10 X31 hx (hb hby d15_8) rfl rfl ?_
  refine o_iloadN 11 X31 hx (hb hby d15_10) rfl rfl ?_
  refine o_icmpNo 14 X31 hx (hb hby d15_11) (tlt (by decide : ((0 : Int32) < (4 : Int32)))).2.1 rfl ?_
  refine o_aloadN 15 X31 hx (hb hby d15_14) rfl rfl rfl ?_
  refine o_iload 17 X31 hx (hb hby d15_15) rfl rfl ?_
  refine o_aloadN 18 X31 hx (hb hby d15_17) rfl rfl rfl ?_
  refine o_iloadN 19 X31 hx (hb hby d15_18) rfl rfl ?_
  obtain ⟨cl34, Ar34, q34, S34, Nn34, H34, G34⟩ := id A_s'
  have hin34 : ¬ ((0 : Int32) < 0 ∨ cl34.slots.size ≤ ((0 : Int32)).toNatClampNeg) := inb_of S34 ⟨by decide, by decide⟩
  refine own_j 20 [.int x0, .int 0, .ref b31] (fun t_ k_ => X31.caload hx (j := (0 : Int32)) (v := (.int x0)) (by rw [e31]; exact Ar34.1) (State.isArrayOf_alike hZ.alike Ar34.2.1) Ar34.2.2 hin34 (H34.at hin34 rfl) (g := (mkF mM 19 Lv33 [.int 0, .ref s', .int 0, .ref b31])) rfl rfl (hb hby d15_19) t_ k_) ?_
  obtain ⟨_, _, ⟨T35, L35, k35, n35⟩, -, X35, ⟨Lc35, hQ35, l35, y35, z35⟩, st35⟩ := Jvm.LawKit.callS X31 hx (y := yn2) hown (mvT hZ (ow hw 75 rfl)) (mvT hZ (ow hw 76 rfl)) (mvT hZ (ow hw 22 rfl)) (mvT hZ (ow hw 77 rfl)) (by decide) (backOf (W := 0) (rmPC0 lL Z a0 hw [] b31 k31' x0 (.int 0) (.int 0) (.int 0) (.int 0) (.int 0) (.int 0) (.int 0) (.int 0) T31.heap n0 g_b31 A_b31 O S_ad S_hi S_lo) hZ (ow hw 77 rfl) (ow hw 22 rfl) (by decide) (by decide)) (g := (mkF mM 20 Lv33 [.int x0, .int 0, .ref b31])) rfl (by rw [hml]; rfl) (argsL := [.ref b31, .int 0, .int x0]) (rest := []) (lenOf pd__28_5bBII_29V rfl) rfl (by show 2 * 0 + _ ≤ _; exact Nat.le_of_eq rfl) (hb hby d15_20) (fun _ _ => ⟨rfl, e31, (by decide : 1 + 0 ≤ _), (by decide : 8 + 0 ≤ _)⟩)
  dsimp only [Pt.U, Pt.locs, Pt.cells, Pt.slots] at X35 l35 y35 z35 st35 hQ35
  subst l35 y35 z35
  obtain ⟨rfl, N35q, K35, V35⟩ := hQ35
  have N35 := Fr.app N31 N35q
  have e35 : T35.heap = T35.heap := rfl
  refine own_k T35 23 [] st35 ?_
  have A_s' := A_s'.keep K35 (ninS ne_s_b31 nin0)
  have O := O.keep K35 (allS g_b31 all0)
  have Zn := Nat.le_trans Zn K35.1
  have Kp := Kp.trans K35 (allS (Or.inr b_b31) all0)
  have A_b31 := V35
  let Lv36 : Array Slot := #[.val (.ref s'), .val (.int 1), .val (.int 4), .val (.ref b31), .val (.int 0)]
  refine own_st (A := T35.setTop (mkF mM 26 Lv36 [])) (fun t_ k_ => XS.iinc X35.here hx rfl (hb hby d15_23) rfl (l' := Lv36) rfl k_) ?_
  let Lv37 : Array Slot := #[.val (.ref s'), .val (.int 1), .val (.int 4), .val (.ref b31), .val (.int 1)]
  refine own_st (A := T35.setTop (mkF mM 29 Lv37 [])) (fun t_ k_ => XS.iinc X35.here hx rfl (hb hby d15_26) rfl (l' := Lv37) rfl k_) ?_
  refine o_goto 8 X35 hx (hb hby d15_29) (by decide) ?_
  refine o_iload 10 X35 hx (hb hby d15_8) rfl rfl ?_
  refine o_iloadN 11 X35 hx (hb hby d15_10) rfl rfl ?_
  refine o_icmpNo 14 X35 hx (hb hby d15_11) (tlt (by decide : ((1 : Int32) < (4 : Int32)))).2.1 rfl ?_
  refine o_aloadN 15 X35 hx (hb hby d15_14) rfl rfl rfl ?_
  refine o_iload 17 X35 hx (hb hby d15_15) rfl rfl ?_
  refine o_aloadN 18 X35 hx (hb hby d15_17) rfl rfl rfl ?_
  refine o_iloadN 19 X35 hx (hb hby d15_18) rfl rfl ?_
  obtain ⟨cl38, Ar38, q38, S38, Nn38, H38, G38⟩ := id A_s'
  have hin38 : ¬ ((1 : Int32) < 0 ∨ cl38.slots.size ≤ ((1 : Int32)).toNatClampNeg) := inb_of S38 ⟨by decide, by decide⟩
  refine own_j 20 [.int x1, .int 1, .ref b31] (fun t_ k_ => X35.caload hx (j := (1 : Int32)) (v := (.int x1)) (by rw [e35]; exact Ar38.1) (State.isArrayOf_alike hZ.alike Ar38.2.1) Ar38.2.2 hin38 (H38.at hin38 rfl) (g := (mkF mM 19 Lv37 [.int 1, .ref s', .int 1, .ref b31])) rfl rfl (hb hby d15_19) t_ k_) ?_
  obtain ⟨_, _, ⟨T39, L39, k39, n39⟩, -, X39, ⟨Lc39, hQ39, l39, y39, z39⟩, st39⟩ := Jvm.LawKit.callS X35 hx (y := yn2) hown (mvT hZ (ow hw 75 rfl)) (mvT hZ (ow hw 76 rfl)) (mvT hZ (ow hw 22 rfl)) (mvT hZ (ow hw 77 rfl)) (by decide) (backOf (W := 0) (rmPC1 lL Z a0 hw [] b31 k31' x1 (.int (lo8 x0)) (.int (hi8 x0)) (.int 0) (.int 0) (.int 0) (.int 0) (.int 0) (.int 0) T35.heap n0 g_b31 A_b31 O S_ad S_hi S_lo) hZ (ow hw 77 rfl) (ow hw 22 rfl) (by decide) (by decide)) (g := (mkF mM 20 Lv37 [.int x1, .int 1, .ref b31])) rfl (by rw [hml]; rfl) (argsL := [.ref b31, .int 1, .int x1]) (rest := []) (lenOf pd__28_5bBII_29V rfl) rfl (by show 2 * 0 + _ ≤ _; exact Nat.le_of_eq rfl) (hb hby d15_20) (fun _ _ => ⟨rfl, e35, (by decide : 1 + 0 ≤ _), (by decide : 8 + 0 ≤ _)⟩)
  dsimp only [Pt.U, Pt.locs, Pt.cells, Pt.slots] at X39 l39 y39 z39 st39 hQ39
  subst l39 y39 z39
  obtain ⟨rfl, N39q, K39, V39⟩ := hQ39
  have N39 := Fr.app N35 N39q
  have e39 : T39.heap = T39.heap := rfl
  refine own_k T39 23 [] st39 ?_
  have A_s' := A_s'.keep K39 (ninS ne_s_b31 nin0)
  have O := O.keep K39 (allS g_b31 all0)
  have Zn := Nat.le_trans Zn K39.1
  have Kp := Kp.trans K39 (allS (Or.inr b_b31) all0)
  have A_b31 := V39
  let Lv40 : Array Slot := #[.val (.ref s'), .val (.int 2), .val (.int 4), .val (.ref b31), .val (.int 1)]
  refine own_st (A := T39.setTop (mkF mM 26 Lv40 [])) (fun t_ k_ => XS.iinc X39.here hx rfl (hb hby d15_23) rfl (l' := Lv40) rfl k_) ?_
  let Lv41 : Array Slot := #[.val (.ref s'), .val (.int 2), .val (.int 4), .val (.ref b31), .val (.int 2)]
  refine own_st (A := T39.setTop (mkF mM 29 Lv41 [])) (fun t_ k_ => XS.iinc X39.here hx rfl (hb hby d15_26) rfl (l' := Lv41) rfl k_) ?_
  refine o_goto 8 X39 hx (hb hby d15_29) (by decide) ?_
  refine o_iload 10 X39 hx (hb hby d15_8) rfl rfl ?_
  refine o_iloadN 11 X39 hx (hb hby d15_10) rfl rfl ?_
  refine o_icmpNo 14 X39 hx (hb hby d15_11) (tlt (by decide : ((2 : Int32) < (4 : Int32)))).2.1 rfl ?_
  refine o_aloadN 15 X39 hx (hb hby d15_14) rfl rfl rfl ?_
  refine o_iload 17 X39 hx (hb hby d15_15) rfl rfl ?_
  refine o_aloadN 18 X39 hx (hb hby d15_17) rfl rfl rfl ?_
  refine o_iloadN 19 X39 hx (hb hby d15_18) rfl rfl ?_
  obtain ⟨cl42, Ar42, q42, S42, Nn42, H42, G42⟩ := id A_s'
  have hin42 : ¬ ((2 : Int32) < 0 ∨ cl42.slots.size ≤ ((2 : Int32)).toNatClampNeg) := inb_of S42 ⟨by decide, by decide⟩
  refine own_j 20 [.int x2, .int 2, .ref b31] (fun t_ k_ => X39.caload hx (j := (2 : Int32)) (v := (.int x2)) (by rw [e39]; exact Ar42.1) (State.isArrayOf_alike hZ.alike Ar42.2.1) Ar42.2.2 hin42 (H42.at hin42 rfl) (g := (mkF mM 19 Lv41 [.int 2, .ref s', .int 2, .ref b31])) rfl rfl (hb hby d15_19) t_ k_) ?_
  obtain ⟨_, _, ⟨T43, L43, k43, n43⟩, -, X43, ⟨Lc43, hQ43, l43, y43, z43⟩, st43⟩ := Jvm.LawKit.callS X39 hx (y := yn2) hown (mvT hZ (ow hw 75 rfl)) (mvT hZ (ow hw 76 rfl)) (mvT hZ (ow hw 22 rfl)) (mvT hZ (ow hw 77 rfl)) (by decide) (backOf (W := 0) (rmPC2 lL Z a0 hw [] b31 k31' x2 (.int (lo8 x0)) (.int (hi8 x0)) (.int (lo8 x1)) (.int (hi8 x1)) (.int 0) (.int 0) (.int 0) (.int 0) T39.heap n0 g_b31 A_b31 O S_ad S_hi S_lo) hZ (ow hw 77 rfl) (ow hw 22 rfl) (by decide) (by decide)) (g := (mkF mM 20 Lv41 [.int x2, .int 2, .ref b31])) rfl (by rw [hml]; rfl) (argsL := [.ref b31, .int 2, .int x2]) (rest := []) (lenOf pd__28_5bBII_29V rfl) rfl (by show 2 * 0 + _ ≤ _; exact Nat.le_of_eq rfl) (hb hby d15_20) (fun _ _ => ⟨rfl, e39, (by decide : 1 + 0 ≤ _), (by decide : 8 + 0 ≤ _)⟩)
  dsimp only [Pt.U, Pt.locs, Pt.cells, Pt.slots] at X43 l43 y43 z43 st43 hQ43
  subst l43 y43 z43
  obtain ⟨rfl, N43q, K43, V43⟩ := hQ43
  have N43 := Fr.app N39 N43q
  have e43 : T43.heap = T43.heap := rfl
  refine own_k T43 23 [] st43 ?_
  have A_s' := A_s'.keep K43 (ninS ne_s_b31 nin0)
  have O := O.keep K43 (allS g_b31 all0)
  have Zn := Nat.le_trans Zn K43.1
  have Kp := Kp.trans K43 (allS (Or.inr b_b31) all0)
  have A_b31 := V43
  let Lv44 : Array Slot := #[.val (.ref s'), .val (.int 3), .val (.int 4), .val (.ref b31), .val (.int 2)]
  refine own_st (A := T43.setTop (mkF mM 26 Lv44 [])) (fun t_ k_ => XS.iinc X43.here hx rfl (hb hby d15_23) rfl (l' := Lv44) rfl k_) ?_
  let Lv45 : Array Slot := #[.val (.ref s'), .val (.int 3), .val (.int 4), .val (.ref b31), .val (.int 3)]
  refine own_st (A := T43.setTop (mkF mM 29 Lv45 [])) (fun t_ k_ => XS.iinc X43.here hx rfl (hb hby d15_26) rfl (l' := Lv45) rfl k_) ?_
  refine o_goto 8 X43 hx (hb hby d15_29) (by decide) ?_
  refine o_iload 10 X43 hx (hb hby d15_8) rfl rfl ?_
  refine o_iloadN 11 X43 hx (hb hby d15_10) rfl rfl ?_
  refine o_icmpNo 14 X43 hx (hb hby d15_11) (tlt (by decide : ((3 : Int32) < (4 : Int32)))).2.1 rfl ?_
  refine o_aloadN 15 X43 hx (hb hby d15_14) rfl rfl rfl ?_
  refine o_iload 17 X43 hx (hb hby d15_15) rfl rfl ?_
  refine o_aloadN 18 X43 hx (hb hby d15_17) rfl rfl rfl ?_
  refine o_iloadN 19 X43 hx (hb hby d15_18) rfl rfl ?_
  obtain ⟨cl46, Ar46, q46, S46, Nn46, H46, G46⟩ := id A_s'
  have hin46 : ¬ ((3 : Int32) < 0 ∨ cl46.slots.size ≤ ((3 : Int32)).toNatClampNeg) := inb_of S46 ⟨by decide, by decide⟩
  refine own_j 20 [.int x3, .int 3, .ref b31] (fun t_ k_ => X43.caload hx (j := (3 : Int32)) (v := (.int x3)) (by rw [e43]; exact Ar46.1) (State.isArrayOf_alike hZ.alike Ar46.2.1) Ar46.2.2 hin46 (H46.at hin46 rfl) (g := (mkF mM 19 Lv45 [.int 3, .ref s', .int 3, .ref b31])) rfl rfl (hb hby d15_19) t_ k_) ?_
  obtain ⟨_, _, ⟨T47, L47, k47, n47⟩, -, X47, ⟨Lc47, hQ47, l47, y47, z47⟩, st47⟩ := Jvm.LawKit.callS X43 hx (y := yn2) hown (mvT hZ (ow hw 75 rfl)) (mvT hZ (ow hw 76 rfl)) (mvT hZ (ow hw 22 rfl)) (mvT hZ (ow hw 77 rfl)) (by decide) (backOf (W := 0) (rmPC3 lL Z a0 hw [] b31 k31' x3 (.int (lo8 x0)) (.int (hi8 x0)) (.int (lo8 x1)) (.int (hi8 x1)) (.int (lo8 x2)) (.int (hi8 x2)) (.int 0) (.int 0) T43.heap n0 g_b31 A_b31 O S_ad S_hi S_lo) hZ (ow hw 77 rfl) (ow hw 22 rfl) (by decide) (by decide)) (g := (mkF mM 20 Lv45 [.int x3, .int 3, .ref b31])) rfl (by rw [hml]; rfl) (argsL := [.ref b31, .int 3, .int x3]) (rest := []) (lenOf pd__28_5bBII_29V rfl) rfl (by show 2 * 0 + _ ≤ _; exact Nat.le_of_eq rfl) (hb hby d15_20) (fun _ _ => ⟨rfl, e43, (by decide : 1 + 0 ≤ _), (by decide : 8 + 0 ≤ _)⟩)
  dsimp only [Pt.U, Pt.locs, Pt.cells, Pt.slots] at X47 l47 y47 z47 st47 hQ47
  subst l47 y47 z47
  obtain ⟨rfl, N47q, K47, V47⟩ := hQ47
  have N47 := Fr.app N43 N47q
  have e47 : T47.heap = T47.heap := rfl
  refine own_k T47 23 [] st47 ?_
  have A_s' := A_s'.keep K47 (ninS ne_s_b31 nin0)
  have O := O.keep K47 (allS g_b31 all0)
  have Zn := Nat.le_trans Zn K47.1
  have Kp := Kp.trans K47 (allS (Or.inr b_b31) all0)
  have A_b31 := V47
  let Lv48 : Array Slot := #[.val (.ref s'), .val (.int 4), .val (.int 4), .val (.ref b31), .val (.int 3)]
  refine own_st (A := T47.setTop (mkF mM 26 Lv48 [])) (fun t_ k_ => XS.iinc X47.here hx rfl (hb hby d15_23) rfl (l' := Lv48) rfl k_) ?_
  let Lv49 : Array Slot := #[.val (.ref s'), .val (.int 4), .val (.int 4), .val (.ref b31), .val (.int 4)]
  refine own_st (A := T47.setTop (mkF mM 29 Lv49 [])) (fun t_ k_ => XS.iinc X47.here hx rfl (hb hby d15_26) rfl (l' := Lv49) rfl k_) ?_
  refine o_goto 8 X47 hx (hb hby d15_29) (by decide) ?_
  refine o_iload 10 X47 hx (hb hby d15_8) rfl rfl ?_
  refine o_iloadN 11 X47 hx (hb hby d15_10) rfl rfl ?_
  refine o_icmpYes 32 X47 hx (hb hby d15_11) (flt (by decide : ¬ ((4 : Int32) < (4 : Int32)))).2.1 (by decide) ?_
  refine o_aloadN 33 X47 hx (hb hby d15_32) rfl rfl rfl ?_
  exact own_retA X47 hx hlk hret rfl rfl (hb hby d15_33) (by rw [e47]; exact ⟨_, _, rfl, N47, own_ext_of_keep Kp, A_b31, b_b31⟩) (by decide) (by decide)
theorem d19_0 : decode jdk_52_method_5_code 0 = .ok (.getstatic 44, 3) := by decide +kernel
theorem d19_3 : decode jdk_52_method_5_code 3 = .ok (.ifCond .ne 25, 3) := by decide +kernel
theorem d19_28 : decode jdk_52_method_5_code 28 = .ok (.iload_n 1, 1) := by decide +kernel
theorem d19_29 : decode jdk_52_method_5_code 29 = .ok (.iconst 1, 1) := by decide +kernel
theorem d19_30 : decode jdk_52_method_5_code 30 = .ok (.ishl, 1) := by decide +kernel
theorem d19_31 : decode jdk_52_method_5_code 31 = .ok (.istore_n 1, 1) := by decide +kernel
theorem d19_32 : decode jdk_52_method_5_code 32 = .ok (.aload_n 0, 1) := by decide +kernel
theorem d19_33 : decode jdk_52_method_5_code 33 = .ok (.iload_n 1, 1) := by decide +kernel
theorem d19_34 : decode jdk_52_method_5_code 34 = .ok (.iinc 1 1, 3) := by decide +kernel
theorem d19_37 : decode jdk_52_method_5_code 37 = .ok (.baload, 1) := by decide +kernel
theorem d19_38 : decode jdk_52_method_5_code 38 = .ok (.sipush 255, 3) := by decide +kernel
theorem d19_41 : decode jdk_52_method_5_code 41 = .ok (.iand, 1) := by decide +kernel
theorem d19_42 : decode jdk_52_method_5_code 42 = .ok (.getstatic 59, 3) := by decide +kernel
theorem d19_45 : decode jdk_52_method_5_code 45 = .ok (.ishl, 1) := by decide +kernel
theorem d19_46 : decode jdk_52_method_5_code 46 = .ok (.aload_n 0, 1) := by decide +kernel
theorem d19_47 : decode jdk_52_method_5_code 47 = .ok (.iload_n 1, 1) := by decide +kernel
theorem d19_48 : decode jdk_52_method_5_code 48 = .ok (.baload, 1) := by decide +kernel
theorem d19_49 : decode jdk_52_method_5_code 49 = .ok (.sipush 255, 3) := by decide +kernel
theorem d19_52 : decode jdk_52_method_5_code 52 = .ok (.iand, 1) := by decide +kernel
theorem d19_53 : decode jdk_52_method_5_code 53 = .ok (.getstatic 63, 3) := by decide +kernel
theorem d19_56 : decode jdk_52_method_5_code 56 = .ok (.ishl, 1) := by decide +kernel
theorem d19_57 : decode jdk_52_method_5_code 57 = .ok (.ior, 1) := by decide +kernel
theorem d19_58 : decode jdk_52_method_5_code 58 = .ok (.i2c, 1) := by decide +kernel
theorem d19_59 : decode jdk_52_method_5_code 59 = .ok (.ireturn, 1) := by decide +kernel
theorem ef_rmGC0 (mM : MethodId) (d : Addr) (kd : ClassId) (x0 : Int32) (x1 : Int32) (x2 : Int32) (x3 : Int32) : entryFrame mM #[.ref d, .int 0] 2 = mkF mM 0 #[.val (.ref d), .val (.int 0)] [] := by first | (simp [entryFrame, mkF, argsToLocals, Value.category]; done) | rfl
theorem rmGC0 (lL : Launch) (Z : State) (a0 : Array Value) (hw : own_tb a0 Z) (ws : List Jvm.Cond) (d : Addr) (kd : ClassId) (x0 : Int32) (x1 : Int32) (x2 : Int32) (x3 : Int32) (h0 : Heap) (n0 : Nat) (A_d : Arv Z h0 d kd .byte 8 [(.int (lo8 x0)), (.int (hi8 x0)), (.int (lo8 x1)), (.int (hi8 x1)), (.int (lo8 x2)), (.int (hi8 x2)), (.int (lo8 x3)), (.int (hi8 x3))] (.int 0)) (O : Old Z n0 h0) (S_ad : Sta Z Z.heap "java/lang/StringUTF16" "$assertionsDisabled" "Z" (.int 1)) (S_hi : Sta Z Z.heap "java/lang/StringUTF16" "HI_BYTE_SHIFT" "I" (.int 0)) (S_lo : Sta Z Z.heap "java/lang/StringUTF16" "LO_BYTE_SHIFT" "I" (.int 8)) (cx0 : nar .char x0 = x0) :
    own_Ct lL Z yn4 jdk_52_method_5_code 2 (some .char) ws (⟨0, 0, 0, 0⟩ : Room) #[.ref d, .int 0] h0 (Qw (.int x0) h0 n0) := by
  refine own_body (plainFor_of_name pn_java_2flang_2fStringUTF16) 0 0 rfl rfl (fun mM => ef_rmGC0 mM d kd x0 x1 x2 x3) fun pP eE sS mM below meth cC s₁ hZ hx hby hml hown hnm hret hlk X0 e0 => ?_
  have N0 := Fr.nil n0
  obtain ⟨T50, X50, e50, st50⟩ := getS2 X0 hx hZ hown (host := "") (Or.inl (ow hw 78 rfl)) Via.refl e0 (S_ad.ext O.2) (g := (mkF mM 0 #[.val (.ref d), .val (.int 0)] [])) rfl (hb hby d19_0)
  refine own_k T50 3 [.int 1] st50 ?_
  refine o_ifYes 28 X50 hx (hb hby d19_3) ((if0 _ _).trans (feq (by decide : ¬ ((1 : Int32) = (0 : Int32)))).2) (by decide) ?_
  refine o_iloadN 29 X50 hx (hb hby d19_28) rfl rfl ?_
  refine o_iconst 30 1 X50 hx (hb hby d19_29) rfl rfl ?_
  refine own_j 31 [.int 0] (fun t_ k_ => XS.ishl X50.here hx rfl (hb hby d19_30) rfl k_) ?_
  refine own_j 32 [] (fun t_ k_ => XS.istoreN X50.here hx rfl (hb hby d19_31) rfl (l' := #[.val (.ref d), .val (.int 0)]) rfl k_) ?_
  refine o_aloadN 33 X50 hx (hb hby d19_32) rfl rfl rfl ?_
  refine o_iloadN 34 X50 hx (hb hby d19_33) rfl rfl ?_
  refine own_st (A := T50.setTop (mkF mM 37 #[.val (.ref d), .val (.int 1)] [.int 0, .ref d])) (fun t_ k_ => XS.iinc X50.here hx rfl (hb hby d19_34) rfl (l' := #[.val (.ref d), .val (.int 1)]) rfl k_) ?_
  obtain ⟨cl51, Ar51, q51, S51, Nn51, H51, G51⟩ := id A_d
  have hin51 : ¬ ((0 : Int32) < 0 ∨ cl51.slots.size ≤ ((0 : Int32)).toNatClampNeg) := inb_of S51 ⟨by decide, by decide⟩
  refine own_j 38 [(.int (lo8 x0))] (fun t_ k_ => X50.baloadBytes hx (j := (0 : Int32)) (v := (.int (lo8 x0))) (by rw [e50]; exact Ar51.1) (State.isArrayOf_alike hZ.alike Ar51.2.1) Ar51.2.2 hin51 (H51.at hin51 rfl) (g := (mkF mM 37 #[.val (.ref d), .val (.int 1)] [.int 0, .ref d])) rfl rfl (hb hby d19_37) t_ k_) ?_
  refine o_sipush 41 255 X50 hx (hb hby d19_38) rfl rfl ?_
  refine own_j 42 [(.int ((lo8 x0) &&& (255 : Int32)))] (fun t_ k_ => XS.iand X50.here hx rfl (hb hby d19_41) rfl k_) ?_
  obtain ⟨T52, X52, e52, st52⟩ := getS2 X50 hx hZ hown (host := "") (Or.inl (ow hw 79 rfl)) Via.refl e50 (S_hi.ext O.2) (g := (mkF mM 42 #[.val (.ref d), .val (.int 1)] [(.int ((lo8 x0) &&& (255 : Int32)))])) rfl (hb hby d19_42)
  refine own_k T52 45 [.int 0, (.int ((lo8 x0) &&& (255 : Int32)))] st52 ?_
  refine own_j 46 [(.int (((lo8 x0) &&& (255 : Int32)) <<< ((0 : Int32) &&& 31)))] (fun t_ k_ => XS.ishl X52.here hx rfl (hb hby d19_45) rfl k_) ?_
  refine o_aloadN 47 X52 hx (hb hby d19_46) rfl rfl rfl ?_
  refine o_iloadN 48 X52 hx (hb hby d19_47) rfl rfl ?_
  obtain ⟨cl53, Ar53, q53, S53, Nn53, H53, G53⟩ := id A_d
  have hin53 : ¬ ((1 : Int32) < 0 ∨ cl53.slots.size ≤ ((1 : Int32)).toNatClampNeg) := inb_of S53 ⟨by decide, by decide⟩
  refine own_j 49 [(.int (hi8 x0)), (.int (((lo8 x0) &&& (255 : Int32)) <<< ((0 : Int32) &&& 31)))] (fun t_ k_ => X52.baloadBytes hx (j := (1 : Int32)) (v := (.int (hi8 x0))) (by rw [e52]; exact Ar53.1) (State.isArrayOf_alike hZ.alike Ar53.2.1) Ar53.2.2 hin53 (H53.at hin53 rfl) (g := (mkF mM 48 #[.val (.ref d), .val (.int 1)] [.int 1, .ref d, (.int (((lo8 x0) &&& (255 : Int32)) <<< ((0 : Int32) &&& 31)))])) rfl rfl (hb hby d19_48) t_ k_) ?_
  refine o_sipush 52 255 X52 hx (hb hby d19_49) rfl rfl ?_
  refine own_j 53 [(.int ((hi8 x0) &&& (255 : Int32))), (.int (((lo8 x0) &&& (255 : Int32)) <<< ((0 : Int32) &&& 31)))] (fun t_ k_ => XS.iand X52.here hx rfl (hb hby d19_52) rfl k_) ?_
  obtain ⟨T54, X54, e54, st54⟩ := getS2 X52 hx hZ hown (host := "") (Or.inl (ow hw 80 rfl)) Via.refl e52 (S_lo.ext O.2) (g := (mkF mM 53 #[.val (.ref d), .val (.int 1)] [(.int ((hi8 x0) &&& (255 : Int32))), (.int (((lo8 x0) &&& (255 : Int32)) <<< ((0 : Int32) &&& 31)))])) rfl (hb hby d19_53)
  refine own_k T54 56 [.int 8, (.int ((hi8 x0) &&& (255 : Int32))), (.int (((lo8 x0) &&& (255 : Int32)) <<< ((0 : Int32) &&& 31)))] st54 ?_
  refine own_j 57 [(.int (((hi8 x0) &&& (255 : Int32)) <<< ((8 : Int32) &&& 31))), (.int (((lo8 x0) &&& (255 : Int32)) <<< ((0 : Int32) &&& 31)))] (fun t_ k_ => XS.ishl X54.here hx rfl (hb hby d19_56) rfl k_) ?_
  refine own_j 58 [(.int ((((lo8 x0) &&& (255 : Int32)) <<< ((0 : Int32) &&& 31)) ||| (((hi8 x0) &&& (255 : Int32)) <<< ((8 : Int32) &&& 31))))] (fun t_ k_ => XS.ior X54.here hx rfl (hb hby d19_57) rfl k_) ?_
  refine own_j 59 [(.int ((((((lo8 x0) &&& (255 : Int32)) <<< ((0 : Int32) &&& 31)) ||| (((hi8 x0) &&& (255 : Int32)) <<< ((8 : Int32) &&& 31)))).toUInt32.toUInt16.toUInt32.toInt32))] (fun t_ k_ => XS.i2c X54.here hx rfl (hb hby d19_58) rfl k_) ?_
  exact own_retN X54 hx hlk (t := .char) hret (by simp) (hb hby d19_59) ⟨congrArg (fun t => some (Value.int t)) (own_rtU cx0), N0, e54⟩ (by decide) (by decide)
theorem ef_rmGC1 (mM : MethodId) (d : Addr) (kd : ClassId) (x0 : Int32) (x1 : Int32) (x2 : Int32) (x3 : Int32) : entryFrame mM #[.ref d, .int 1] 2 = mkF mM 0 #[.val (.ref d), .val (.int 1)] [] := by first | (simp [entryFrame, mkF, argsToLocals, Value.category]; done) | rfl
theorem rmGC1 (lL : Launch) (Z : State) (a0 : Array Value) (hw : own_tb a0 Z) (ws : List Jvm.Cond) (d : Addr) (kd : ClassId) (x0 : Int32) (x1 : Int32) (x2 : Int32) (x3 : Int32) (h0 : Heap) (n0 : Nat) (A_d : Arv Z h0 d kd .byte 8 [(.int (lo8 x0)), (.int (hi8 x0)), (.int (lo8 x1)), (.int (hi8 x1)), (.int (lo8 x2)), (.int (hi8 x2)), (.int (lo8 x3)), (.int (hi8 x3))] (.int 0)) (O : Old Z n0 h0) (S_ad : Sta Z Z.heap "java/lang/StringUTF16" "$assertionsDisabled" "Z" (.int 1)) (S_hi : Sta Z Z.heap "java/lang/StringUTF16" "HI_BYTE_SHIFT" "I" (.int 0)) (S_lo : Sta Z Z.heap "java/lang/StringUTF16" "LO_BYTE_SHIFT" "I" (.int 8)) (cx1 : nar .char x1 = x1) :
    own_Ct lL Z yn4 jdk_52_method_5_code 2 (some .char) ws (⟨0, 0, 0, 0⟩ : Room) #[.ref d, .int 1] h0 (Qw (.int x1) h0 n0) := by
  refine own_body (plainFor_of_name pn_java_2flang_2fStringUTF16) 0 0 rfl rfl (fun mM => ef_rmGC1 mM d kd x0 x1 x2 x3) fun pP eE sS mM below meth cC s₁ hZ hx hby hml hown hnm hret hlk X0 e0 => ?_
  have N0 := Fr.nil n0
  obtain ⟨T55, X55, e55, st55⟩ := getS2 X0 hx hZ hown (host := "") (Or.inl (ow hw 78 rfl)) Via.refl e0 (S_ad.ext O.2) (g := (mkF mM 0 #[.val (.ref d), .val (.int 1)] [])) rfl (hb hby d19_0)
  refine own_k T55 3 [.int 1] st55 ?_
  refine o_ifYes 28 X55 hx (hb hby d19_3) ((if0 _ _).trans (feq (by decide : ¬ ((1 : Int32) = (0 : Int32)))).2) (by decide) ?_
  refine o_iloadN 29 X55 hx (hb hby d19_28) rfl rfl ?_
  refine o_iconst 30 1 X55 hx (hb hby d19_29) rfl rfl ?_
  refine own_j 31 [.int 2] (fun t_ k_ => XS.ishl X55.here hx rfl (hb hby d19_30) rfl k_) ?_
  refine own_st (A := T55.setTop (mkF mM 32 #[.val (.ref d), .val (.int 2)] [])) (fun t_ k_ => XS.istoreN X55.here hx rfl (hb hby d19_31) rfl (l' := #[.val (.ref d), .val (.int 2)]) rfl k_) ?_
  refine o_aloadN 33 X55 hx (hb hby d19_32) rfl rfl rfl ?_
  refine o_iloadN 34 X55 hx (hb hby d19_33) rfl rfl ?_
  refine own_st (A := T55.setTop (mkF mM 37 #[.val (.ref d), .val (.int 3)] [.int 2, .ref d])) (fun t_ k_ => XS.iinc X55.here hx rfl (hb hby d19_34) rfl (l' := #[.val (.ref d), .val (.int 3)]) rfl k_) ?_
  obtain ⟨cl56, Ar56, q56, S56, Nn56, H56, G56⟩ := id A_d
  have hin56 : ¬ ((2 : Int32) < 0 ∨ cl56.slots.size ≤ ((2 : Int32)).toNatClampNeg) := inb_of S56 ⟨by decide, by decide⟩
  refine own_j 38 [(.int (lo8 x1))] (fun t_ k_ => X55.baloadBytes hx (j := (2 : Int32)) (v := (.int (lo8 x1))) (by rw [e55]; exact Ar56.1) (State.isArrayOf_alike hZ.alike Ar56.2.1) Ar56.2.2 hin56 (H56.at hin56 rfl) (g := (mkF mM 37 #[.val (.ref d), .val (.int 3)] [.int 2, .ref d])) rfl rfl (hb hby d19_37) t_ k_) ?_
  refine o_sipush 41 255 X55 hx (hb hby d19_38) rfl rfl ?_
  refine own_j 42 [(.int ((lo8 x1) &&& (255 : Int32)))] (fun t_ k_ => XS.iand X55.here hx rfl (hb hby d19_41) rfl k_) ?_
  obtain ⟨T57, X57, e57, st57⟩ := getS2 X55 hx hZ hown (host := "") (Or.inl (ow hw 79 rfl)) Via.refl e55 (S_hi.ext O.2) (g := (mkF mM 42 #[.val (.ref d), .val (.int 3)] [(.int ((lo8 x1) &&& (255 : Int32)))])) rfl (hb hby d19_42)
  refine own_k T57 45 [.int 0, (.int ((lo8 x1) &&& (255 : Int32)))] st57 ?_
  refine own_j 46 [(.int (((lo8 x1) &&& (255 : Int32)) <<< ((0 : Int32) &&& 31)))] (fun t_ k_ => XS.ishl X57.here hx rfl (hb hby d19_45) rfl k_) ?_
  refine o_aloadN 47 X57 hx (hb hby d19_46) rfl rfl rfl ?_
  refine o_iloadN 48 X57 hx (hb hby d19_47) rfl rfl ?_
  obtain ⟨cl58, Ar58, q58, S58, Nn58, H58, G58⟩ := id A_d
  have hin58 : ¬ ((3 : Int32) < 0 ∨ cl58.slots.size ≤ ((3 : Int32)).toNatClampNeg) := inb_of S58 ⟨by decide, by decide⟩
  refine own_j 49 [(.int (hi8 x1)), (.int (((lo8 x1) &&& (255 : Int32)) <<< ((0 : Int32) &&& 31)))] (fun t_ k_ => X57.baloadBytes hx (j := (3 : Int32)) (v := (.int (hi8 x1))) (by rw [e57]; exact Ar58.1) (State.isArrayOf_alike hZ.alike Ar58.2.1) Ar58.2.2 hin58 (H58.at hin58 rfl) (g := (mkF mM 48 #[.val (.ref d), .val (.int 3)] [.int 3, .ref d, (.int (((lo8 x1) &&& (255 : Int32)) <<< ((0 : Int32) &&& 31)))])) rfl rfl (hb hby d19_48) t_ k_) ?_
  refine o_sipush 52 255 X57 hx (hb hby d19_49) rfl rfl ?_
  refine own_j 53 [(.int ((hi8 x1) &&& (255 : Int32))), (.int (((lo8 x1) &&& (255 : Int32)) <<< ((0 : Int32) &&& 31)))] (fun t_ k_ => XS.iand X57.here hx rfl (hb hby d19_52) rfl k_) ?_
  obtain ⟨T59, X59, e59, st59⟩ := getS2 X57 hx hZ hown (host := "") (Or.inl (ow hw 80 rfl)) Via.refl e57 (S_lo.ext O.2) (g := (mkF mM 53 #[.val (.ref d), .val (.int 3)] [(.int ((hi8 x1) &&& (255 : Int32))), (.int (((lo8 x1) &&& (255 : Int32)) <<< ((0 : Int32) &&& 31)))])) rfl (hb hby d19_53)
  refine own_k T59 56 [.int 8, (.int ((hi8 x1) &&& (255 : Int32))), (.int (((lo8 x1) &&& (255 : Int32)) <<< ((0 : Int32) &&& 31)))] st59 ?_
  refine own_j 57 [(.int (((hi8 x1) &&& (255 : Int32)) <<< ((8 : Int32) &&& 31))), (.int (((lo8 x1) &&& (255 : Int32)) <<< ((0 : Int32) &&& 31)))] (fun t_ k_ => XS.ishl X59.here hx rfl (hb hby d19_56) rfl k_) ?_
  refine own_j 58 [(.int ((((lo8 x1) &&& (255 : Int32)) <<< ((0 : Int32) &&& 31)) ||| (((hi8 x1) &&& (255 : Int32)) <<< ((8 : Int32) &&& 31))))] (fun t_ k_ => XS.ior X59.here hx rfl (hb hby d19_57) rfl k_) ?_
  refine own_j 59 [(.int ((((((lo8 x1) &&& (255 : Int32)) <<< ((0 : Int32) &&& 31)) ||| (((hi8 x1) &&& (255 : Int32)) <<< ((8 : Int32) &&& 31)))).toUInt32.toUInt16.toUInt32.toInt32))] (fun t_ k_ => XS.i2c X59.here hx rfl (hb hby d19_58) rfl k_) ?_
  exact own_retN X59 hx hlk (t := .char) hret (by simp) (hb hby d19_59) ⟨congrArg (fun t => some (Value.int t)) (own_rtU cx1), N0, e59⟩ (by decide) (by decide)
theorem ef_rmGC2 (mM : MethodId) (d : Addr) (kd : ClassId) (x0 : Int32) (x1 : Int32) (x2 : Int32) (x3 : Int32) : entryFrame mM #[.ref d, .int 2] 2 = mkF mM 0 #[.val (.ref d), .val (.int 2)] [] := by first | (simp [entryFrame, mkF, argsToLocals, Value.category]; done) | rfl
theorem rmGC2 (lL : Launch) (Z : State) (a0 : Array Value) (hw : own_tb a0 Z) (ws : List Jvm.Cond) (d : Addr) (kd : ClassId) (x0 : Int32) (x1 : Int32) (x2 : Int32) (x3 : Int32) (h0 : Heap) (n0 : Nat) (A_d : Arv Z h0 d kd .byte 8 [(.int (lo8 x0)), (.int (hi8 x0)), (.int (lo8 x1)), (.int (hi8 x1)), (.int (lo8 x2)), (.int (hi8 x2)), (.int (lo8 x3)), (.int (hi8 x3))] (.int 0)) (O : Old Z n0 h0) (S_ad : Sta Z Z.heap "java/lang/StringUTF16" "$assertionsDisabled" "Z" (.int 1)) (S_hi : Sta Z Z.heap "java/lang/StringUTF16" "HI_BYTE_SHIFT" "I" (.int 0)) (S_lo : Sta Z Z.heap "java/lang/StringUTF16" "LO_BYTE_SHIFT" "I" (.int 8)) (cx2 : nar .char x2 = x2) :
    own_Ct lL Z yn4 jdk_52_method_5_code 2 (some .char) ws (⟨0, 0, 0, 0⟩ : Room) #[.ref d, .int 2] h0 (Qw (.int x2) h0 n0) := by
  refine own_body (plainFor_of_name pn_java_2flang_2fStringUTF16) 0 0 rfl rfl (fun mM => ef_rmGC2 mM d kd x0 x1 x2 x3) fun pP eE sS mM below meth cC s₁ hZ hx hby hml hown hnm hret hlk X0 e0 => ?_
  have N0 := Fr.nil n0
  obtain ⟨T60, X60, e60, st60⟩ := getS2 X0 hx hZ hown (host := "") (Or.inl (ow hw 78 rfl)) Via.refl e0 (S_ad.ext O.2) (g := (mkF mM 0 #[.val (.ref d), .val (.int 2)] [])) rfl (hb hby d19_0)
  refine own_k T60 3 [.int 1] st60 ?_
  refine o_ifYes 28 X60 hx (hb hby d19_3) ((if0 _ _).trans (feq (by decide : ¬ ((1 : Int32) = (0 : Int32)))).2) (by decide) ?_
  refine o_iloadN 29 X60 hx (hb hby d19_28) rfl rfl ?_
  refine o_iconst 30 1 X60 hx (hb hby d19_29) rfl rfl ?_
  refine own_j 31 [.int 4] (fun t_ k_ => XS.ishl X60.here hx rfl (hb hby d19_30) rfl k_) ?_
  refine own_st (A := T60.setTop (mkF mM 32 #[.val (.ref d), .val (.int 4)] [])) (fun t_ k_ => XS.istoreN X60.here hx rfl (hb hby d19_31) rfl (l' := #[.val (.ref d), .val (.int 4)]) rfl k_) ?_
  refine o_aloadN 33 X60 hx (hb hby d19_32) rfl rfl rfl ?_
  refine o_iloadN 34 X60 hx (hb hby d19_33) rfl rfl ?_
  refine own_st (A := T60.setTop (mkF mM 37 #[.val (.ref d), .val (.int 5)] [.int 4, .ref d])) (fun t_ k_ => XS.iinc X60.here hx rfl (hb hby d19_34) rfl (l' := #[.val (.ref d), .val (.int 5)]) rfl k_) ?_
  obtain ⟨cl61, Ar61, q61, S61, Nn61, H61, G61⟩ := id A_d
  have hin61 : ¬ ((4 : Int32) < 0 ∨ cl61.slots.size ≤ ((4 : Int32)).toNatClampNeg) := inb_of S61 ⟨by decide, by decide⟩
  refine own_j 38 [(.int (lo8 x2))] (fun t_ k_ => X60.baloadBytes hx (j := (4 : Int32)) (v := (.int (lo8 x2))) (by rw [e60]; exact Ar61.1) (State.isArrayOf_alike hZ.alike Ar61.2.1) Ar61.2.2 hin61 (H61.at hin61 rfl) (g := (mkF mM 37 #[.val (.ref d), .val (.int 5)] [.int 4, .ref d])) rfl rfl (hb hby d19_37) t_ k_) ?_
  refine o_sipush 41 255 X60 hx (hb hby d19_38) rfl rfl ?_
  refine own_j 42 [(.int ((lo8 x2) &&& (255 : Int32)))] (fun t_ k_ => XS.iand X60.here hx rfl (hb hby d19_41) rfl k_) ?_
  obtain ⟨T62, X62, e62, st62⟩ := getS2 X60 hx hZ hown (host := "") (Or.inl (ow hw 79 rfl)) Via.refl e60 (S_hi.ext O.2) (g := (mkF mM 42 #[.val (.ref d), .val (.int 5)] [(.int ((lo8 x2) &&& (255 : Int32)))])) rfl (hb hby d19_42)
  refine own_k T62 45 [.int 0, (.int ((lo8 x2) &&& (255 : Int32)))] st62 ?_
  refine own_j 46 [(.int (((lo8 x2) &&& (255 : Int32)) <<< ((0 : Int32) &&& 31)))] (fun t_ k_ => XS.ishl X62.here hx rfl (hb hby d19_45) rfl k_) ?_
  refine o_aloadN 47 X62 hx (hb hby d19_46) rfl rfl rfl ?_
  refine o_iloadN 48 X62 hx (hb hby d19_47) rfl rfl ?_
  obtain ⟨cl63, Ar63, q63, S63, Nn63, H63, G63⟩ := id A_d
  have hin63 : ¬ ((5 : Int32) < 0 ∨ cl63.slots.size ≤ ((5 : Int32)).toNatClampNeg) := inb_of S63 ⟨by decide, by decide⟩
  refine own_j 49 [(.int (hi8 x2)), (.int (((lo8 x2) &&& (255 : Int32)) <<< ((0 : Int32) &&& 31)))] (fun t_ k_ => X62.baloadBytes hx (j := (5 : Int32)) (v := (.int (hi8 x2))) (by rw [e62]; exact Ar63.1) (State.isArrayOf_alike hZ.alike Ar63.2.1) Ar63.2.2 hin63 (H63.at hin63 rfl) (g := (mkF mM 48 #[.val (.ref d), .val (.int 5)] [.int 5, .ref d, (.int (((lo8 x2) &&& (255 : Int32)) <<< ((0 : Int32) &&& 31)))])) rfl rfl (hb hby d19_48) t_ k_) ?_
  refine o_sipush 52 255 X62 hx (hb hby d19_49) rfl rfl ?_
  refine own_j 53 [(.int ((hi8 x2) &&& (255 : Int32))), (.int (((lo8 x2) &&& (255 : Int32)) <<< ((0 : Int32) &&& 31)))] (fun t_ k_ => XS.iand X62.here hx rfl (hb hby d19_52) rfl k_) ?_
  obtain ⟨T64, X64, e64, st64⟩ := getS2 X62 hx hZ hown (host := "") (Or.inl (ow hw 80 rfl)) Via.refl e62 (S_lo.ext O.2) (g := (mkF mM 53 #[.val (.ref d), .val (.int 5)] [(.int ((hi8 x2) &&& (255 : Int32))), (.int (((lo8 x2) &&& (255 : Int32)) <<< ((0 : Int32) &&& 31)))])) rfl (hb hby d19_53)
  refine own_k T64 56 [.int 8, (.int ((hi8 x2) &&& (255 : Int32))), (.int (((lo8 x2) &&& (255 : Int32)) <<< ((0 : Int32) &&& 31)))] st64 ?_
  refine own_j 57 [(.int (((hi8 x2) &&& (255 : Int32)) <<< ((8 : Int32) &&& 31))), (.int (((lo8 x2) &&& (255 : Int32)) <<< ((0 : Int32) &&& 31)))] (fun t_ k_ => XS.ishl X64.here hx rfl (hb hby d19_56) rfl k_) ?_
  refine own_j 58 [(.int ((((lo8 x2) &&& (255 : Int32)) <<< ((0 : Int32) &&& 31)) ||| (((hi8 x2) &&& (255 : Int32)) <<< ((8 : Int32) &&& 31))))] (fun t_ k_ => XS.ior X64.here hx rfl (hb hby d19_57) rfl k_) ?_
  refine own_j 59 [(.int ((((((lo8 x2) &&& (255 : Int32)) <<< ((0 : Int32) &&& 31)) ||| (((hi8 x2) &&& (255 : Int32)) <<< ((8 : Int32) &&& 31)))).toUInt32.toUInt16.toUInt32.toInt32))] (fun t_ k_ => XS.i2c X64.here hx rfl (hb hby d19_58) rfl k_) ?_
  exact own_retN X64 hx hlk (t := .char) hret (by simp) (hb hby d19_59) ⟨congrArg (fun t => some (Value.int t)) (own_rtU cx2), N0, e64⟩ (by decide) (by decide)
theorem ef_rmGC3 (mM : MethodId) (d : Addr) (kd : ClassId) (x0 : Int32) (x1 : Int32) (x2 : Int32) (x3 : Int32) : entryFrame mM #[.ref d, .int 3] 2 = mkF mM 0 #[.val (.ref d), .val (.int 3)] [] := by first | (simp [entryFrame, mkF, argsToLocals, Value.category]; done) | rfl
theorem rmGC3 (lL : Launch) (Z : State) (a0 : Array Value) (hw : own_tb a0 Z) (ws : List Jvm.Cond) (d : Addr) (kd : ClassId) (x0 : Int32) (x1 : Int32) (x2 : Int32) (x3 : Int32) (h0 : Heap) (n0 : Nat) (A_d : Arv Z h0 d kd .byte 8 [(.int (lo8 x0)), (.int (hi8 x0)), (.int (lo8 x1)), (.int (hi8 x1)), (.int (lo8 x2)), (.int (hi8 x2)), (.int (lo8 x3)), (.int (hi8 x3))] (.int 0)) (O : Old Z n0 h0) (S_ad : Sta Z Z.heap "java/lang/StringUTF16" "$assertionsDisabled" "Z" (.int 1)) (S_hi : Sta Z Z.heap "java/lang/StringUTF16" "HI_BYTE_SHIFT" "I" (.int 0)) (S_lo : Sta Z Z.heap "java/lang/StringUTF16" "LO_BYTE_SHIFT" "I" (.int 8)) (cx3 : nar .char x3 = x3) :
    own_Ct lL Z yn4 jdk_52_method_5_code 2 (some .char) ws (⟨0, 0, 0, 0⟩ : Room) #[.ref d, .int 3] h0 (Qw (.int x3) h0 n0) := by
  refine own_body (plainFor_of_name pn_java_2flang_2fStringUTF16) 0 0 rfl rfl (fun mM => ef_rmGC3 mM d kd x0 x1 x2 x3) fun pP eE sS mM below meth cC s₁ hZ hx hby hml hown hnm hret hlk X0 e0 => ?_
  have N0 := Fr.nil n0
  obtain ⟨T65, X65, e65, st65⟩ := getS2 X0 hx hZ hown (host := "") (Or.inl (ow hw 78 rfl)) Via.refl e0 (S_ad.ext O.2) (g := (mkF mM 0 #[.val (.ref d), .val (.int 3)] [])) rfl (hb hby d19_0)
  refine own_k T65 3 [.int 1] st65 ?_
  refine o_ifYes 28 X65 hx (hb hby d19_3) ((if0 _ _).trans (feq (by decide : ¬ ((1 : Int32) = (0 : Int32)))).2) (by decide) ?_
  refine o_iloadN 29 X65 hx (hb hby d19_28) rfl rfl ?_
  refine o_iconst 30 1 X65 hx (hb hby d19_29) rfl rfl ?_
  refine own_j 31 [.int 6] (fun t_ k_ => XS.ishl X65.here hx rfl (hb hby d19_30) rfl k_) ?_
  refine own_st (A := T65.setTop (mkF mM 32 #[.val (.ref d), .val (.int 6)] [])) (fun t_ k_ => XS.istoreN X65.here hx rfl (hb hby d19_31) rfl (l' := #[.val (.ref d), .val (.int 6)]) rfl k_) ?_
  refine o_aloadN 33 X65 hx (hb hby d19_32) rfl rfl rfl ?_
  refine o_iloadN 34 X65 hx (hb hby d19_33) rfl rfl ?_
  refine own_st (A := T65.setTop (mkF mM 37 #[.val (.ref d), .val (.int 7)] [.int 6, .ref d])) (fun t_ k_ => XS.iinc X65.here hx rfl (hb hby d19_34) rfl (l' := #[.val (.ref d), .val (.int 7)]) rfl k_) ?_
  obtain ⟨cl66, Ar66, q66, S66, Nn66, H66, G66⟩ := id A_d
  have hin66 : ¬ ((6 : Int32) < 0 ∨ cl66.slots.size ≤ ((6 : Int32)).toNatClampNeg) := inb_of S66 ⟨by decide, by decide⟩
  refine own_j 38 [(.int (lo8 x3))] (fun t_ k_ => X65.baloadBytes hx (j := (6 : Int32)) (v := (.int (lo8 x3))) (by rw [e65]; exact Ar66.1) (State.isArrayOf_alike hZ.alike Ar66.2.1) Ar66.2.2 hin66 (H66.at hin66 rfl) (g := (mkF mM 37 #[.val (.ref d), .val (.int 7)] [.int 6, .ref d])) rfl rfl (hb hby d19_37) t_ k_) ?_
  refine o_sipush 41 255 X65 hx (hb hby d19_38) rfl rfl ?_
  refine own_j 42 [(.int ((lo8 x3) &&& (255 : Int32)))] (fun t_ k_ => XS.iand X65.here hx rfl (hb hby d19_41) rfl k_) ?_
  obtain ⟨T67, X67, e67, st67⟩ := getS2 X65 hx hZ hown (host := "") (Or.inl (ow hw 79 rfl)) Via.refl e65 (S_hi.ext O.2) (g := (mkF mM 42 #[.val (.ref d), .val (.int 7)] [(.int ((lo8 x3) &&& (255 : Int32)))])) rfl (hb hby d19_42)
  refine own_k T67 45 [.int 0, (.int ((lo8 x3) &&& (255 : Int32)))] st67 ?_
  refine own_j 46 [(.int (((lo8 x3) &&& (255 : Int32)) <<< ((0 : Int32) &&& 31)))] (fun t_ k_ => XS.ishl X67.here hx rfl (hb hby d19_45) rfl k_) ?_
  refine o_aloadN 47 X67 hx (hb hby d19_46) rfl rfl rfl ?_
  refine o_iloadN 48 X67 hx (hb hby d19_47) rfl rfl ?_
  obtain ⟨cl68, Ar68, q68, S68, Nn68, H68, G68⟩ := id A_d
  have hin68 : ¬ ((7 : Int32) < 0 ∨ cl68.slots.size ≤ ((7 : Int32)).toNatClampNeg) := inb_of S68 ⟨by decide, by decide⟩
  refine own_j 49 [(.int (hi8 x3)), (.int (((lo8 x3) &&& (255 : Int32)) <<< ((0 : Int32) &&& 31)))] (fun t_ k_ => X67.baloadBytes hx (j := (7 : Int32)) (v := (.int (hi8 x3))) (by rw [e67]; exact Ar68.1) (State.isArrayOf_alike hZ.alike Ar68.2.1) Ar68.2.2 hin68 (H68.at hin68 rfl) (g := (mkF mM 48 #[.val (.ref d), .val (.int 7)] [.int 7, .ref d, (.int (((lo8 x3) &&& (255 : Int32)) <<< ((0 : Int32) &&& 31)))])) rfl rfl (hb hby d19_48) t_ k_) ?_
  refine o_sipush 52 255 X67 hx (hb hby d19_49) rfl rfl ?_
  refine own_j 53 [(.int ((hi8 x3) &&& (255 : Int32))), (.int (((lo8 x3) &&& (255 : Int32)) <<< ((0 : Int32) &&& 31)))] (fun t_ k_ => XS.iand X67.here hx rfl (hb hby d19_52) rfl k_) ?_
  obtain ⟨T69, X69, e69, st69⟩ := getS2 X67 hx hZ hown (host := "") (Or.inl (ow hw 80 rfl)) Via.refl e67 (S_lo.ext O.2) (g := (mkF mM 53 #[.val (.ref d), .val (.int 7)] [(.int ((hi8 x3) &&& (255 : Int32))), (.int (((lo8 x3) &&& (255 : Int32)) <<< ((0 : Int32) &&& 31)))])) rfl (hb hby d19_53)
  refine own_k T69 56 [.int 8, (.int ((hi8 x3) &&& (255 : Int32))), (.int (((lo8 x3) &&& (255 : Int32)) <<< ((0 : Int32) &&& 31)))] st69 ?_
  refine own_j 57 [(.int (((hi8 x3) &&& (255 : Int32)) <<< ((8 : Int32) &&& 31))), (.int (((lo8 x3) &&& (255 : Int32)) <<< ((0 : Int32) &&& 31)))] (fun t_ k_ => XS.ishl X69.here hx rfl (hb hby d19_56) rfl k_) ?_
  refine own_j 58 [(.int ((((lo8 x3) &&& (255 : Int32)) <<< ((0 : Int32) &&& 31)) ||| (((hi8 x3) &&& (255 : Int32)) <<< ((8 : Int32) &&& 31))))] (fun t_ k_ => XS.ior X69.here hx rfl (hb hby d19_57) rfl k_) ?_
  refine own_j 59 [(.int ((((((lo8 x3) &&& (255 : Int32)) <<< ((0 : Int32) &&& 31)) ||| (((hi8 x3) &&& (255 : Int32)) <<< ((8 : Int32) &&& 31)))).toUInt32.toUInt16.toUInt32.toInt32))] (fun t_ k_ => XS.i2c X69.here hx rfl (hb hby d19_58) rfl k_) ?_
  exact own_retN X69 hx hlk (t := .char) hret (by simp) (hb hby d19_59) ⟨congrArg (fun t => some (Value.int t)) (own_rtU cx3), N0, e69⟩ (by decide) (by decide)
theorem d7_0 : decode jdk_52_method_15_code 0 = .ok (.iload_n 1, 1) := by decide +kernel
theorem d7_1 : decode jdk_52_method_15_code 1 = .ok (.aload_n 0, 1) := by decide +kernel
theorem d7_2 : decode jdk_52_method_15_code 2 = .ok (.arraylength, 1) := by decide +kernel
theorem d7_3 : decode jdk_52_method_15_code 3 = .ok (.isub, 1) := by decide +kernel
theorem d7_4 : decode jdk_52_method_15_code 4 = .ok (.bipush 31, 2) := by decide +kernel
theorem d7_6 : decode jdk_52_method_15_code 6 = .ok (.iushr, 1) := by decide +kernel
theorem d7_7 : decode jdk_52_method_15_code 7 = .ok (.i2b, 1) := by decide +kernel
theorem d7_8 : decode jdk_52_method_15_code 8 = .ok (.ireturn, 1) := by decide +kernel
theorem ef_rmCoU (mM : MethodId) (d : Addr) (kd : ClassId) (x0 : Int32) (x1 : Int32) (x2 : Int32) (x3 : Int32) : entryFrame mM #[.ref d, .int 4] 2 = mkF mM 0 #[.val (.ref d), .val (.int 4)] [] := by first | (simp [entryFrame, mkF, argsToLocals, Value.category]; done) | rfl
theorem rmCoU (lL : Launch) (Z : State) (a0 : Array Value) (hw : own_tb a0 Z) (ws : List Jvm.Cond) (d : Addr) (kd : ClassId) (x0 : Int32) (x1 : Int32) (x2 : Int32) (x3 : Int32) (h0 : Heap) (n0 : Nat) (A_d : Arv Z h0 d kd .byte 8 [(.int (lo8 x0)), (.int (hi8 x0)), (.int (lo8 x1)), (.int (hi8 x1)), (.int (lo8 x2)), (.int (hi8 x2)), (.int (lo8 x3)), (.int (hi8 x3))] (.int 0)) :
    own_Ct lL Z yn5 jdk_52_method_15_code 2 (some .byte) ws (⟨0, 0, 0, 0⟩ : Room) #[.ref d, .int 4] h0 (Qw (.int 1) h0 n0) := by
  refine own_body (plainFor_of_name pn_java_2flang_2fStringUTF16) 0 0 rfl rfl (fun mM => ef_rmCoU mM d kd x0 x1 x2 x3) fun pP eE sS mM below meth cC s₁ hZ hx hby hml hown hnm hret hlk X0 e0 => ?_
  have N0 := Fr.nil n0
  refine o_iloadN 1 X0 hx (hb hby d7_0) rfl rfl ?_
  refine o_aloadN 2 X0 hx (hb hby d7_1) rfl rfl rfl ?_
  obtain ⟨cl70, Ar70, q70, S70, Nn70, H70, G70⟩ := id A_d
  refine own_j 3 [.int 8, .int 4] (fun t_ k_ => X0.arraylength hx (by rw [e0]; exact Ar70.1) (State.isArrayOf_alike hZ.alike Ar70.2.1) (g := (mkF mM 2 #[.val (.ref d), .val (.int 4)] [.ref d, .int 4])) rfl rfl (hb hby d7_2) t_ (by rw [len_of S70 Nn70]; exact k_)) ?_
  refine own_j 4 [(.int (-4))] (fun t_ k_ => XS.isub X0.here hx rfl (hb hby d7_3) rfl k_) ?_
  refine o_bipush 6 31 X0 hx (hb hby d7_4) rfl rfl ?_
  refine own_j 7 [(.int (((-4 : Int32).toUInt32 >>> ((31 : Int32) &&& 31).toUInt32).toInt32))] (fun t_ k_ => XS.iushr X0.here hx rfl (hb hby d7_6) rfl k_) ?_
  refine own_j 8 [(.int (((((-4 : Int32).toUInt32 >>> ((31 : Int32) &&& 31).toUInt32).toInt32)).toInt8.toInt32))] (fun t_ k_ => XS.i2b X0.here hx rfl (hb hby d7_7) rfl k_) ?_
  exact own_retN X0 hx hlk (t := .byte) hret (by simp) (hb hby d7_8) (show Qw _ _ _ (some (.int 1)) _ _ from ⟨rfl, N0, e0⟩) (by decide) (by decide)
theorem d6_3 : decode jdk_52_method_21_code 3 = .ok (.iload 5, 2) := by decide +kernel
theorem d6_5 : decode jdk_52_method_21_code 5 = .ok (.iload 4, 2) := by decide +kernel
theorem d6_7 : decode jdk_52_method_21_code 7 = .ok (.if_icmp .ge 37, 3) := by decide +kernel
theorem d6_10 : decode jdk_52_method_21_code 10 = .ok (.aload_n 0, 1) := by decide +kernel
theorem d6_11 : decode jdk_52_method_21_code 11 = .ok (.iload_n 1, 1) := by decide +kernel
theorem d6_12 : decode jdk_52_method_21_code 12 = .ok (.caload, 1) := by decide +kernel
theorem d6_13 : decode jdk_52_method_21_code 13 = .ok (.istore 6, 2) := by decide +kernel
theorem d6_15 : decode jdk_52_method_21_code 15 = .ok (.iload 6, 2) := by decide +kernel
theorem d6_17 : decode jdk_52_method_21_code 17 = .ok (.sipush 255, 3) := by decide +kernel
theorem d6_20 : decode jdk_52_method_21_code 20 = .ok (.if_icmp .le 6, 3) := by decide +kernel
theorem d6_26 : decode jdk_52_method_21_code 26 = .ok (.aload_n 2, 1) := by decide +kernel
theorem d6_27 : decode jdk_52_method_21_code 27 = .ok (.iload_n 3, 1) := by decide +kernel
theorem d6_28 : decode jdk_52_method_21_code 28 = .ok (.iload 6, 2) := by decide +kernel
theorem d6_30 : decode jdk_52_method_21_code 30 = .ok (.i2b, 1) := by decide +kernel
theorem d6_31 : decode jdk_52_method_21_code 31 = .ok (.bastore, 1) := by decide +kernel
theorem d6_32 : decode jdk_52_method_21_code 32 = .ok (.iinc 1 1, 3) := by decide +kernel
theorem d6_35 : decode jdk_52_method_21_code 35 = .ok (.iinc 3 1, 3) := by decide +kernel
theorem d6_38 : decode jdk_52_method_21_code 38 = .ok (.iinc 5 1, 3) := by decide +kernel
theorem d6_41 : decode jdk_52_method_21_code 41 = .ok (.goto (-38), 3) := by decide +kernel
theorem T5a (hw : own_tb a0 Z) (X0 : Stand pP lL eE (⟨0, 0, 0, 0⟩ : Room) sS mM args below meth cC T0 locs 0 0) (hx : pP.tables.exec = Jvm.exec) (hZ : Z.Warmed39 sS.vm) (hby : cC.code = jdk_52_method_21_code) (hml : cC.maxLocals = 7) (hown : sS.vm.findClass "java/lang/StringUTF16" = some mM.cls) (hlk : meth.locks = false) (hret : meth.sig.returnType = (some .int)) (e0 : T0.heap = h0) (N0 : Fr n0 locs) (s' : Addr) (ks : ClassId) (d : Addr) (kd : ClassId) (zz : Int32) (ii : Int32) (ii' : Int32) (jn : Nat) (xx : Int32) (vs : List Value) (ds : List Value) (Qv : Option Value → Heap → List Loc → Prop) (A_s' : Arv Z h0 s' ks .char zz vs (.int 0)) (A_d : Arv Z h0 d kd .byte zz ds (.int 0)) (g_d : n0 ≤ d) (nsd : s' ≠ d) (hi0 : ¬ ii < 0) (hlt : ii < zz) (hj : ii.toNatClampNeg = jn) (hv : vs.getD ii.toNatClampNeg (.int 0) = .int xx) (hdl : jn < ds.length) (cx : Ck xx) (hi : ii + (1 : Int32) = ii') (kont : ∀ (T' : State) (L' : List Loc) (h' : Heap), Stand pP lL eE (⟨0, 0, 0, 0⟩ : Room) sS mM args below meth cC T' L' 0 0 → T'.heap = h' → Fr n0 L' → Keep h0 h' [d] → Arv Z h' s' ks .char zz vs (.int 0) → Arv Z h' d kd .byte zz (ds.set jn (.int (((xx).toInt8.toInt32)).toInt8.toInt32)) (.int 0) → own_Go pP eE below sS (Qv) 0 0 (T'.setTop (mkF mM 3 #[.val (.ref s'), .val (.int ii'), .val (.ref d), .val (.int ii'), .val (.int zz), .val (.int ii'), .val (.int xx)] []))) :
    own_Go pP eE below sS (Qv) 0 0 (T0.setTop (mkF mM 3 #[.val (.ref s'), .val (.int ii), .val (.ref d), .val (.int ii), .val (.int zz), .val (.int ii), .unset] [])) := by
  subst hi
  have Kp := Keep.refl h0 [d]
  refine o_iload 5 X0 hx (hb hby d6_3) rfl rfl ?_
  refine o_iload 7 X0 hx (hb hby d6_5) rfl rfl ?_
  refine o_icmpNo 10 X0 hx (hb hby d6_7) (tlt hlt).2.1 rfl ?_
  refine o_aloadN 11 X0 hx (hb hby d6_10) rfl rfl rfl ?_
  refine o_iloadN 12 X0 hx (hb hby d6_11) rfl rfl ?_
  obtain ⟨cl71, Ar71, q71, S71, Nn71, H71, G71⟩ := id A_s'
  refine own_j 13 [.int xx] (fun t_ k_ => X0.caload hx (j := ii) (v := (.int xx)) (by rw [e0]; exact Ar71.1) (State.isArrayOf_alike hZ.alike Ar71.2.1) Ar71.2.2 (inb_of S71 ⟨hi0, hlt⟩) (H71.at (inb_of S71 ⟨hi0, hlt⟩) hv) (g := (mkF mM 12 #[.val (.ref s'), .val (.int ii), .val (.ref d), .val (.int ii), .val (.int zz), .val (.int ii), .unset] [.int ii, .ref s'])) rfl rfl (hb hby d6_12) t_ k_) ?_
  let Lv72 : Array Slot := #[.val (.ref s'), .val (.int ii), .val (.ref d), .val (.int ii), .val (.int zz), .val (.int ii), .val (.int xx)]
  refine own_st (A := T0.setTop (mkF mM 15 Lv72 [])) (fun t_ k_ => XS.istore X0.here hx rfl (hb hby d6_13) rfl (l' := Lv72) rfl k_) ?_
  refine o_iload 17 X0 hx (hb hby d6_15) rfl rfl ?_
  refine o_sipush 20 255 X0 hx (hb hby d6_17) rfl rfl ?_
  refine o_icmpYes 26 X0 hx (hb hby d6_20) (flt cx.2.1).2.2.2 (by decide) ?_
  refine o_aloadN 27 X0 hx (hb hby d6_26) rfl rfl rfl ?_
  refine o_iloadN 28 X0 hx (hb hby d6_27) rfl rfl ?_
  refine o_iload 30 X0 hx (hb hby d6_28) rfl rfl ?_
  refine own_j 31 [(.int ((xx).toInt8.toInt32)), .int ii, .ref d] (fun t_ k_ => XS.i2b X0.here hx rfl (hb hby d6_30) rfl k_) ?_
  obtain ⟨cl73, Ar73, q73, S73, Nn73, H73, G73⟩ := id A_d
  obtain ⟨T74, h74, X74, e74, W74, st74⟩ := stB X0 hx hZ e0 Ar73 (j := ii) (inb_of S73 ⟨hi0, hlt⟩) (g := (mkF mM 31 Lv72 [(.int ((xx).toInt8.toInt32)), .int ii, .ref d])) rfl rfl (hb hby d6_31)
  have N74 := Fr.snoc X74 N0 g_d
  have A_s' := A_s'.other W74 nsd
  have Kp := Kp.wr W74 (Or.inl (List.mem_of_getElem? (i := 0) rfl))
  have A_d : Arv Z h74 d kd .byte zz (ds.set jn (.int (((xx).toInt8.toInt32)).toInt8.toInt32)) (.int 0) := Arv.set Ar73 q73 S73 Nn73 H73 G73 (fits_nar_byte _) W74 jn hj hdl
  refine own_k T74 32 [] st74 ?_
  let Lv75 : Array Slot := #[.val (.ref s'), .val (.int (ii + (1 : Int32))), .val (.ref d), .val (.int ii), .val (.int zz), .val (.int ii), .val (.int xx)]
  refine own_st (A := T74.setTop (mkF mM 35 Lv75 [])) (fun t_ k_ => XS.iinc X74.here hx rfl (hb hby d6_32) rfl (l' := Lv75) rfl k_) ?_
  let Lv76 : Array Slot := #[.val (.ref s'), .val (.int (ii + (1 : Int32))), .val (.ref d), .val (.int (ii + (1 : Int32))), .val (.int zz), .val (.int ii), .val (.int xx)]
  refine own_st (A := T74.setTop (mkF mM 38 Lv76 [])) (fun t_ k_ => XS.iinc X74.here hx rfl (hb hby d6_35) rfl (l' := Lv76) rfl k_) ?_
  let Lv77 : Array Slot := #[.val (.ref s'), .val (.int (ii + (1 : Int32))), .val (.ref d), .val (.int (ii + (1 : Int32))), .val (.int zz), .val (.int (ii + (1 : Int32))), .val (.int xx)]
  refine own_st (A := T74.setTop (mkF mM 41 Lv77 [])) (fun t_ k_ => XS.iinc X74.here hx rfl (hb hby d6_38) rfl (l' := Lv77) rfl k_) ?_
  refine o_goto 3 X74 hx (hb hby d6_41) (by decide) ?_
  exact kont T74 _ h74 X74 e74 N74 Kp A_s' A_d
theorem T5b (hw : own_tb a0 Z) (X0 : Stand pP lL eE (⟨0, 0, 0, 0⟩ : Room) sS mM args below meth cC T0 locs 0 0) (hx : pP.tables.exec = Jvm.exec) (hZ : Z.Warmed39 sS.vm) (hby : cC.code = jdk_52_method_21_code) (hml : cC.maxLocals = 7) (hown : sS.vm.findClass "java/lang/StringUTF16" = some mM.cls) (hlk : meth.locks = false) (hret : meth.sig.returnType = (some .int)) (e0 : T0.heap = h0) (N0 : Fr n0 locs) (s' : Addr) (ks : ClassId) (d : Addr) (kd : ClassId) (zz : Int32) (ii : Int32) (ii' : Int32) (jn : Nat) (xx : Int32) (xp : Int32) (vs : List Value) (ds : List Value) (Qv : Option Value → Heap → List Loc → Prop) (A_s' : Arv Z h0 s' ks .char zz vs (.int 0)) (A_d : Arv Z h0 d kd .byte zz ds (.int 0)) (g_d : n0 ≤ d) (nsd : s' ≠ d) (hi0 : ¬ ii < 0) (hlt : ii < zz) (hj : ii.toNatClampNeg = jn) (hv : vs.getD ii.toNatClampNeg (.int 0) = .int xx) (hdl : jn < ds.length) (cx : Ck xx) (hi : ii + (1 : Int32) = ii') (kont : ∀ (T' : State) (L' : List Loc) (h' : Heap), Stand pP lL eE (⟨0, 0, 0, 0⟩ : Room) sS mM args below meth cC T' L' 0 0 → T'.heap = h' → Fr n0 L' → Keep h0 h' [d] → Arv Z h' s' ks .char zz vs (.int 0) → Arv Z h' d kd .byte zz (ds.set jn (.int (((xx).toInt8.toInt32)).toInt8.toInt32)) (.int 0) → own_Go pP eE below sS (Qv) 0 0 (T'.setTop (mkF mM 3 #[.val (.ref s'), .val (.int ii'), .val (.ref d), .val (.int ii'), .val (.int zz), .val (.int ii'), .val (.int xx)] []))) :
    own_Go pP eE below sS (Qv) 0 0 (T0.setTop (mkF mM 3 #[.val (.ref s'), .val (.int ii), .val (.ref d), .val (.int ii), .val (.int zz), .val (.int ii), .val (.int xp)] [])) := by
  subst hi
  have Kp := Keep.refl h0 [d]
  refine o_iload 5 X0 hx (hb hby d6_3) rfl rfl ?_
  refine o_iload 7 X0 hx (hb hby d6_5) rfl rfl ?_
  refine o_icmpNo 10 X0 hx (hb hby d6_7) (tlt hlt).2.1 rfl ?_
  refine o_aloadN 11 X0 hx (hb hby d6_10) rfl rfl rfl ?_
  refine o_iloadN 12 X0 hx (hb hby d6_11) rfl rfl ?_
  obtain ⟨cl78, Ar78, q78, S78, Nn78, H78, G78⟩ := id A_s'
  refine own_j 13 [.int xx] (fun t_ k_ => X0.caload hx (j := ii) (v := (.int xx)) (by rw [e0]; exact Ar78.1) (State.isArrayOf_alike hZ.alike Ar78.2.1) Ar78.2.2 (inb_of S78 ⟨hi0, hlt⟩) (H78.at (inb_of S78 ⟨hi0, hlt⟩) hv) (g := (mkF mM 12 #[.val (.ref s'), .val (.int ii), .val (.ref d), .val (.int ii), .val (.int zz), .val (.int ii), .val (.int xp)] [.int ii, .ref s'])) rfl rfl (hb hby d6_12) t_ k_) ?_
  let Lv79 : Array Slot := #[.val (.ref s'), .val (.int ii), .val (.ref d), .val (.int ii), .val (.int zz), .val (.int ii), .val (.int xx)]
  refine own_st (A := T0.setTop (mkF mM 15 Lv79 [])) (fun t_ k_ => XS.istore X0.here hx rfl (hb hby d6_13) rfl (l' := Lv79) rfl k_) ?_
  refine o_iload 17 X0 hx (hb hby d6_15) rfl rfl ?_
  refine o_sipush 20 255 X0 hx (hb hby d6_17) rfl rfl ?_
  refine o_icmpYes 26 X0 hx (hb hby d6_20) (flt cx.2.1).2.2.2 (by decide) ?_
  refine o_aloadN 27 X0 hx (hb hby d6_26) rfl rfl rfl ?_
  refine o_iloadN 28 X0 hx (hb hby d6_27) rfl rfl ?_
  refine o_iload 30 X0 hx (hb hby d6_28) rfl rfl ?_
  refine own_j 31 [(.int ((xx).toInt8.toInt32)), .int ii, .ref d] (fun t_ k_ => XS.i2b X0.here hx rfl (hb hby d6_30) rfl k_) ?_
  obtain ⟨cl80, Ar80, q80, S80, Nn80, H80, G80⟩ := id A_d
  obtain ⟨T81, h81, X81, e81, W81, st81⟩ := stB X0 hx hZ e0 Ar80 (j := ii) (inb_of S80 ⟨hi0, hlt⟩) (g := (mkF mM 31 Lv79 [(.int ((xx).toInt8.toInt32)), .int ii, .ref d])) rfl rfl (hb hby d6_31)
  have N81 := Fr.snoc X81 N0 g_d
  have A_s' := A_s'.other W81 nsd
  have Kp := Kp.wr W81 (Or.inl (List.mem_of_getElem? (i := 0) rfl))
  have A_d : Arv Z h81 d kd .byte zz (ds.set jn (.int (((xx).toInt8.toInt32)).toInt8.toInt32)) (.int 0) := Arv.set Ar80 q80 S80 Nn80 H80 G80 (fits_nar_byte _) W81 jn hj hdl
  refine own_k T81 32 [] st81 ?_
  let Lv82 : Array Slot := #[.val (.ref s'), .val (.int (ii + (1 : Int32))), .val (.ref d), .val (.int ii), .val (.int zz), .val (.int ii), .val (.int xx)]
  refine own_st (A := T81.setTop (mkF mM 35 Lv82 [])) (fun t_ k_ => XS.iinc X81.here hx rfl (hb hby d6_32) rfl (l' := Lv82) rfl k_) ?_
  let Lv83 : Array Slot := #[.val (.ref s'), .val (.int (ii + (1 : Int32))), .val (.ref d), .val (.int (ii + (1 : Int32))), .val (.int zz), .val (.int ii), .val (.int xx)]
  refine own_st (A := T81.setTop (mkF mM 38 Lv83 [])) (fun t_ k_ => XS.iinc X81.here hx rfl (hb hby d6_35) rfl (l' := Lv83) rfl k_) ?_
  let Lv84 : Array Slot := #[.val (.ref s'), .val (.int (ii + (1 : Int32))), .val (.ref d), .val (.int (ii + (1 : Int32))), .val (.int zz), .val (.int (ii + (1 : Int32))), .val (.int xx)]
  refine own_st (A := T81.setTop (mkF mM 41 Lv84 [])) (fun t_ k_ => XS.iinc X81.here hx rfl (hb hby d6_38) rfl (l' := Lv84) rfl k_) ?_
  refine o_goto 3 X81 hx (hb hby d6_41) (by decide) ?_
  exact kont T81 _ h81 X81 e81 N81 Kp A_s' A_d
theorem d6_0 : decode jdk_52_method_21_code 0 = .ok (.iconst 0, 1) := by decide +kernel
theorem d6_1 : decode jdk_52_method_21_code 1 = .ok (.istore 5, 2) := by decide +kernel
theorem d6_44 : decode jdk_52_method_21_code 44 = .ok (.iload 4, 2) := by decide +kernel
theorem d6_46 : decode jdk_52_method_21_code 46 = .ok (.ireturn, 1) := by decide +kernel
theorem ef_rmC5_4 (mM : MethodId) (s' : Addr) (ks : ClassId) (d : Addr) (kd : ClassId) (x0 : Int32) (x1 : Int32) (x2 : Int32) (x3 : Int32) : entryFrame mM #[.ref s', .int 0, .ref d, .int 0, .int 4] 7 = mkF mM 0 #[.val (.ref s'), .val (.int 0), .val (.ref d), .val (.int 0), .val (.int 4), .unset, .unset] [] := by first | (simp [entryFrame, mkF, argsToLocals, Value.category]; done) | rfl
theorem rmC5_4 (lL : Launch) (Z : State) (a0 : Array Value) (hw : own_tb a0 Z) (ws : List Jvm.Cond) (s' : Addr) (ks : ClassId) (d : Addr) (kd : ClassId) (x0 : Int32) (x1 : Int32) (x2 : Int32) (x3 : Int32) (h0 : Heap) (n0 : Nat) (A_s' : Arv Z h0 s' ks .char 4 [.int x0, .int x1, .int x2, .int x3] (.int 0)) (A_d : Arv Z h0 d kd .byte 4 [.int 0, .int 0, .int 0, .int 0] (.int 0)) (g_d : n0 ≤ d) (nsd : s' ≠ d) (cx0 : Ck x0) (cx1 : Ck x1) (cx2 : Ck x2) (cx3 : Ck x3) :
    own_Ct lL Z yn6 jdk_52_method_21_code 7 (some .int) ws (⟨0, 0, 0, 0⟩ : Room) #[.ref s', .int 0, .ref d, .int 0, .int 4] h0 (QC5 Z d kd 4 [(.int (((x0).toInt8.toInt32)).toInt8.toInt32), (.int (((x1).toInt8.toInt32)).toInt8.toInt32), (.int (((x2).toInt8.toInt32)).toInt8.toInt32), (.int (((x3).toInt8.toInt32)).toInt8.toInt32)] h0 n0) := by
  refine own_body (plainFor_of_name pn_java_2flang_2fStringUTF16) 0 0 rfl rfl (fun mM => ef_rmC5_4 mM s' ks d kd x0 x1 x2 x3) fun pP eE sS mM below meth cC s₁ hZ hx hby hml hown hnm hret hlk X0 e0 => ?_
  have N0 := Fr.nil n0
  have Kp := Keep.refl h0 [d]
  refine o_iconst 1 0 X0 hx (hb hby d6_0) rfl rfl ?_
  let Lv85 : Array Slot := #[.val (.ref s'), .val (.int 0), .val (.ref d), .val (.int 0), .val (.int 4), .val (.int 0), .unset]
  refine own_st (A := s₁.setTop (mkF mM 3 Lv85 [])) (fun t_ k_ => XS.istore X0.here hx rfl (hb hby d6_1) rfl (l' := Lv85) rfl k_) ?_
  refine T5a hw X0 hx hZ hby hml hown hlk hret e0 N0 s' ks d kd 4 0 1 0 x0 _ _ _ A_s' A_d g_d nsd (by decide) (by decide) rfl rfl (Nat.le_of_ble_eq_true rfl) cx0 rfl (fun T86 L86 h86 X86 e86 N86 K86 A_s' A_d => ?_)
  have Kp := Kp.trans K86 (allS (Or.inl (List.mem_of_getElem? (i := 0) rfl)) all0)
  refine T5b hw X86 hx hZ hby hml hown hlk hret e86 N86 s' ks d kd 4 1 2 1 x1 x0 _ _ _ A_s' A_d g_d nsd (by decide) (by decide) rfl rfl (Nat.le_of_ble_eq_true rfl) cx1 rfl (fun T87 L87 h87 X87 e87 N87 K87 A_s' A_d => ?_)
  have Kp := Kp.trans K87 (allS (Or.inl (List.mem_of_getElem? (i := 0) rfl)) all0)
  refine T5b hw X87 hx hZ hby hml hown hlk hret e87 N87 s' ks d kd 4 2 3 2 x2 x1 _ _ _ A_s' A_d g_d nsd (by decide) (by decide) rfl rfl (Nat.le_of_ble_eq_true rfl) cx2 rfl (fun T88 L88 h88 X88 e88 N88 K88 A_s' A_d => ?_)
  have Kp := Kp.trans K88 (allS (Or.inl (List.mem_of_getElem? (i := 0) rfl)) all0)
  refine T5b hw X88 hx hZ hby hml hown hlk hret e88 N88 s' ks d kd 4 3 4 3 x3 x2 _ _ _ A_s' A_d g_d nsd (by decide) (by decide) rfl rfl (Nat.le_of_ble_eq_true rfl) cx3 rfl (fun T89 L89 h89 X89 e89 N89 K89 A_s' A_d => ?_)
  have Kp := Kp.trans K89 (allS (Or.inl (List.mem_of_getElem? (i := 0) rfl)) all0)
  refine o_iload 5 X89 hx (hb hby d6_3) rfl rfl ?_
  refine o_iload 7 X89 hx (hb hby d6_5) rfl rfl ?_
  refine o_icmpYes 44 X89 hx (hb hby d6_7) (flt (by decide : ¬ ((4 : Int32) < (4 : Int32)))).2.1 (by decide) ?_
  refine o_iload 46 X89 hx (hb hby d6_44) rfl rfl ?_
  exact own_retI X89 hx hlk hret (hb hby d6_46) (by rw [e89]; exact ⟨rfl, N89, Kp, A_d⟩) (by decide) (by decide)
theorem d5_0 : decode jdk_52_method_16_code 0 = .ok (.iload_n 2, 1) := by decide +kernel
theorem d5_1 : decode jdk_52_method_16_code 1 = .ok (.newarray .byte, 2) := by decide +kernel
theorem d5_3 : decode jdk_52_method_16_code 3 = .ok (.astore_n 3, 1) := by decide +kernel
theorem d5_4 : decode jdk_52_method_16_code 4 = .ok (.aload_n 0, 1) := by decide +kernel
theorem d5_5 : decode jdk_52_method_16_code 5 = .ok (.iload_n 1, 1) := by decide +kernel
theorem d5_6 : decode jdk_52_method_16_code 6 = .ok (.aload_n 3, 1) := by decide +kernel
theorem d5_7 : decode jdk_52_method_16_code 7 = .ok (.iconst 0, 1) := by decide +kernel
theorem d5_8 : decode jdk_52_method_16_code 8 = .ok (.iload_n 2, 1) := by decide +kernel
theorem d5_9 : decode jdk_52_method_16_code 9 = .ok (.invokestatic 115, 3) := by decide +kernel
theorem pd__28_5bCI_5bBII_29I : parseMethodDescriptor "([CI[BII)I" = some ⟨[(.array .char), .int, (.array .byte), .int, .int], some .int⟩ := by decide +kernel
theorem d5_12 : decode jdk_52_method_16_code 12 = .ok (.istore 4, 2) := by decide +kernel
theorem d5_14 : decode jdk_52_method_16_code 14 = .ok (.iload 4, 2) := by decide +kernel
theorem d5_16 : decode jdk_52_method_16_code 16 = .ok (.iload_n 2, 1) := by decide +kernel
theorem d5_17 : decode jdk_52_method_16_code 17 = .ok (.if_icmp .eq 40, 3) := by decide +kernel
theorem d5_57 : decode jdk_52_method_16_code 57 = .ok (.aload_n 3, 1) := by decide +kernel
theorem d5_58 : decode jdk_52_method_16_code 58 = .ok (.areturn, 1) := by decide +kernel
theorem ef_rmC3_4 (mM : MethodId) (s' : Addr) (ks : ClassId) (x0 : Int32) (x1 : Int32) (x2 : Int32) (x3 : Int32) : entryFrame mM #[.ref s', .int 0, .int 4] 6 = mkF mM 0 #[.val (.ref s'), .val (.int 0), .val (.int 4), .unset, .unset, .unset] [] := by first | (simp [entryFrame, mkF, argsToLocals, Value.category]; done) | rfl
theorem rmC3_4 (lL : Launch) (Z : State) (a0 : Array Value) (hw : own_tb a0 Z) (ws : List Jvm.Cond) (s' : Addr) (ks : ClassId) (x0 : Int32) (x1 : Int32) (x2 : Int32) (x3 : Int32) (h0 : Heap) (n0 : Nat) (Zn : n0 ≤ h0.size) (A_s' : Arv Z h0 s' ks .char 4 [.int x0, .int x1, .int x2, .int x3] (.int 0)) (cx0 : Ck x0) (cx1 : Ck x1) (cx2 : Ck x2) (cx3 : Ck x3) :
    own_Ct lL Z yn7 jdk_52_method_16_code 6 (some (.array .byte)) ws (⟨1, 1, 4, 18⟩ : Room) #[.ref s', .int 0, .int 4] h0 (QC3 Z 4 [(.int (((x0).toInt8.toInt32)).toInt8.toInt32), (.int (((x1).toInt8.toInt32)).toInt8.toInt32), (.int (((x2).toInt8.toInt32)).toInt8.toInt32), (.int (((x3).toInt8.toInt32)).toInt8.toInt32)] h0 n0) := by
  refine own_body (plainFor_of_name pn_java_2flang_2fStringUTF16) 1 4 rfl rfl (fun mM => ef_rmC3_4 mM s' ks x0 x1 x2 x3) fun pP eE sS mM below meth cC s₁ hZ hx hby hml hown hnm hret hlk X0 e0 => ?_
  have N0 := Fr.nil n0
  have Kp := Keep.refl h0 []
  refine o_iloadN 1 X0 hx (hb hby d5_0) rfl rfl ?_
  obtain ⟨T90, h90, k90, X90, e90, E90, A90, st90⟩ := newP X0 hx hZ (ow hw 24 rfl) e0 (g := (mkF mM 1 #[.val (.ref s'), .val (.int 0), .val (.int 4), .unset, .unset, .unset] [.int 4])) rfl (hb hby d5_1) rfl (by decide) (cap := 4) (by decide) (by decide) (by decide) (by decide)
  obtain ⟨b90, g90⟩ : ∃ z, z = h0.size := ⟨_, rfl⟩
  rw [← g90] at A90 st90
  have ne_s'_b90 : s' ≠ b90 := Nat.ne_of_lt (Nat.lt_of_lt_of_le A_s'.lt (Nat.le_of_eq g90.symm))
  have g_b90 : n0 ≤ b90 := Nat.le_trans Zn (Nat.le_of_eq g90.symm)
  have b_b90 : h0.size ≤ b90 := Nat.le_trans Kp.1 (Nat.le_of_eq g90.symm)
  have A_s' := A_s'.ext E90
  have Zn := Nat.le_trans Zn E90.1
  have Kp := Kp.ext E90
  have A_b90 : Arv Z h90 b90 k90 .byte 4 [.int 0, .int 0, .int 0, .int 0] (.int 0) := (Arv.new A90 (by decide)).pad (pad_rep [] (.int 0) 4)
  refine own_k T90 3 [.ref b90] st90 ?_
  let Lv91 : Array Slot := #[.val (.ref s'), .val (.int 0), .val (.int 4), .val (.ref b90), .unset, .unset]
  refine own_st (A := T90.setTop (mkF mM 4 Lv91 [])) (fun t_ k_ => XS.astoreN X90.here hx rfl (hb hby d5_3) rfl rfl (l' := Lv91) rfl k_) ?_
  refine o_aloadN 5 X90 hx (hb hby d5_4) rfl rfl rfl ?_
  refine o_iloadN 6 X90 hx (hb hby d5_5) rfl rfl ?_
  refine o_aloadN 7 X90 hx (hb hby d5_6) rfl rfl rfl ?_
  refine o_iconst 8 0 X90 hx (hb hby d5_7) rfl rfl ?_
  refine o_iloadN 9 X90 hx (hb hby d5_8) rfl rfl ?_
  obtain ⟨_, _, ⟨T92, L92, k92, n92⟩, -, X92, ⟨Lc92, hQ92, l92, y92, z92⟩, st92⟩ := Jvm.LawKit.callS X90 hx (y := yn6) hown (mvT hZ (ow hw 25 rfl)) (mvT hZ (ow hw 26 rfl)) (mvT hZ (ow hw 22 rfl)) (mvT hZ (ow hw 27 rfl)) (by decide) (backOf (W := 0) (rmC5_4 lL Z a0 hw [] s' ks b90 k90 x0 x1 x2 x3 h90 n0 A_s' A_b90 g_b90 ne_s'_b90 cx0 cx1 cx2 cx3) hZ (ow hw 27 rfl) (ow hw 22 rfl) (by decide) (by decide)) (g := (mkF mM 9 Lv91 [.int 4, .int 0, .ref b90, .int 0, .ref s'])) rfl (by rw [hml]; rfl) (argsL := [.ref s', .int 0, .ref b90, .int 0, .int 4]) (rest := []) (lenOf pd__28_5bCI_5bBII_29I rfl) rfl (by show 2 * 0 + _ ≤ _; exact Nat.le_of_eq rfl) (hb hby d5_9) (fun _ _ => ⟨rfl, e90, (by decide : 1 + 0 ≤ _), (by decide : 4 + 0 ≤ _)⟩)
  dsimp only [Pt.U, Pt.locs, Pt.cells, Pt.slots] at X92 l92 y92 z92 st92 hQ92
  subst l92 y92 z92
  obtain ⟨rfl, N92q, K92, V92⟩ := hQ92
  have N92 := Fr.app N0 N92q
  have e92 : T92.heap = T92.heap := rfl
  refine own_k T92 12 [.int 4] st92 ?_
  have A_s' := A_s'.keep K92 (ninS ne_s'_b90 nin0)
  have Zn := Nat.le_trans Zn K92.1
  have Kp := Kp.trans K92 (allS (Or.inr b_b90) all0)
  have A_b90 := V92
  let Lv93 : Array Slot := #[.val (.ref s'), .val (.int 0), .val (.int 4), .val (.ref b90), .val (.int 4), .unset]
  refine own_st (A := T92.setTop (mkF mM 14 Lv93 [])) (fun t_ k_ => XS.istore X92.here hx rfl (hb hby d5_12) rfl (l' := Lv93) rfl k_) ?_
  refine o_iload 16 X92 hx (hb hby d5_14) rfl rfl ?_
  refine o_iloadN 17 X92 hx (hb hby d5_16) rfl rfl ?_
  refine o_icmpYes 57 X92 hx (hb hby d5_17) (teq (by decide : ((4 : Int32) = (4 : Int32)))).1 (by decide) ?_
  refine o_aloadN 58 X92 hx (hb hby d5_57) rfl rfl rfl ?_
  exact own_retA X92 hx hlk hret rfl rfl (hb hby d5_58) (by rw [e92]; exact ⟨_, _, rfl, N92, own_ext_of_keep Kp, A_b90, b_b90⟩) (by decide) (by decide)
theorem ef_rmCo_4 (mM : MethodId) (d : Addr) (kd : ClassId) (x0 : Int32) (x1 : Int32) (x2 : Int32) (x3 : Int32) : entryFrame mM #[.ref d, .int 4] 2 = mkF mM 0 #[.val (.ref d), .val (.int 4)] [] := by first | (simp [entryFrame, mkF, argsToLocals, Value.category]; done) | rfl
theorem rmCo_4 (lL : Launch) (Z : State) (a0 : Array Value) (hw : own_tb a0 Z) (ws : List Jvm.Cond) (d : Addr) (kd : ClassId) (x0 : Int32) (x1 : Int32) (x2 : Int32) (x3 : Int32) (h0 : Heap) (n0 : Nat) (A_d : Arv Z h0 d kd .byte 4 [(.int (((x0).toInt8.toInt32)).toInt8.toInt32), (.int (((x1).toInt8.toInt32)).toInt8.toInt32), (.int (((x2).toInt8.toInt32)).toInt8.toInt32), (.int (((x3).toInt8.toInt32)).toInt8.toInt32)] (.int 0)) :
    own_Ct lL Z yn5 jdk_52_method_15_code 2 (some .byte) ws (⟨0, 0, 0, 0⟩ : Room) #[.ref d, .int 4] h0 (Qw (.int 0) h0 n0) := by
  refine own_body (plainFor_of_name pn_java_2flang_2fStringUTF16) 0 0 rfl rfl (fun mM => ef_rmCo_4 mM d kd x0 x1 x2 x3) fun pP eE sS mM below meth cC s₁ hZ hx hby hml hown hnm hret hlk X0 e0 => ?_
  have N0 := Fr.nil n0
  refine o_iloadN 1 X0 hx (hb hby d7_0) rfl rfl ?_
  refine o_aloadN 2 X0 hx (hb hby d7_1) rfl rfl rfl ?_
  obtain ⟨cl94, Ar94, q94, S94, Nn94, H94, G94⟩ := id A_d
  refine own_j 3 [.int 4, .int 4] (fun t_ k_ => X0.arraylength hx (by rw [e0]; exact Ar94.1) (State.isArrayOf_alike hZ.alike Ar94.2.1) (g := (mkF mM 2 #[.val (.ref d), .val (.int 4)] [.ref d, .int 4])) rfl rfl (hb hby d7_2) t_ (by rw [len_of S94 Nn94]; exact k_)) ?_
  refine own_j 4 [.int 0] (fun t_ k_ => XS.isub X0.here hx rfl (hb hby d7_3) rfl k_) ?_
  refine o_bipush 6 31 X0 hx (hb hby d7_4) rfl rfl ?_
  refine own_j 7 [(.int (((0 : Int32).toUInt32 >>> ((31 : Int32) &&& 31).toUInt32).toInt32))] (fun t_ k_ => XS.iushr X0.here hx rfl (hb hby d7_6) rfl k_) ?_
  refine own_j 8 [(.int (((((0 : Int32).toUInt32 >>> ((31 : Int32) &&& 31).toUInt32).toInt32)).toInt8.toInt32))] (fun t_ k_ => XS.i2b X0.here hx rfl (hb hby d7_7) rfl k_) ?_
  exact own_retN X0 hx hlk (t := .byte) hret (by simp) (hb hby d7_8) (show Qw _ _ _ (some (.int 0)) _ _ from ⟨rfl, N0, e0⟩) (by decide) (by decide)
theorem d3_0 : decode jdk_42_method_149_code 0 = .ok (.aload_n 0, 1) := by decide +kernel
theorem d3_1 : decode jdk_42_method_149_code 1 = .ok (.invokespecial 1, 3) := by decide +kernel
theorem d3_4 : decode jdk_42_method_149_code 4 = .ok (.iload_n 3, 1) := by decide +kernel
theorem d3_5 : decode jdk_42_method_149_code 5 = .ok (.ifCond .ne 22, 3) := by decide +kernel
theorem d3_27 : decode jdk_42_method_149_code 27 = .ok (.getstatic 38, 3) := by decide +kernel
theorem d3_30 : decode jdk_42_method_149_code 30 = .ok (.ifCond .eq 28, 3) := by decide +kernel
theorem d3_33 : decode jdk_42_method_149_code 33 = .ok (.aload_n 1, 1) := by decide +kernel
theorem d3_34 : decode jdk_42_method_149_code 34 = .ok (.iload_n 2, 1) := by decide +kernel
theorem d3_35 : decode jdk_42_method_149_code 35 = .ok (.iload_n 3, 1) := by decide +kernel
theorem d3_36 : decode jdk_42_method_149_code 36 = .ok (.invokestatic 177, 3) := by decide +kernel
theorem pd__28_5bCII_29_5bB : parseMethodDescriptor "([CII)[B" = some ⟨[(.array .char), .int, .int], some (.array .byte)⟩ := by decide +kernel
theorem d3_39 : decode jdk_42_method_149_code 39 = .ok (.astore 5, 2) := by decide +kernel
theorem d3_41 : decode jdk_42_method_149_code 41 = .ok (.aload_n 0, 1) := by decide +kernel
theorem d3_42 : decode jdk_42_method_149_code 42 = .ok (.aload 5, 2) := by decide +kernel
theorem d3_44 : decode jdk_42_method_149_code 44 = .ok (.iload_n 3, 1) := by decide +kernel
theorem d3_45 : decode jdk_42_method_149_code 45 = .ok (.invokestatic 47, 3) := by decide +kernel
theorem pd__28_5bBI_29B : parseMethodDescriptor "([BI)B" = some ⟨[(.array .byte), .int], some .byte⟩ := by decide +kernel
theorem d3_48 : decode jdk_42_method_149_code 48 = .ok (.putfield 15, 3) := by decide +kernel
theorem d3_51 : decode jdk_42_method_149_code 51 = .ok (.aload_n 0, 1) := by decide +kernel
theorem d3_52 : decode jdk_42_method_149_code 52 = .ok (.aload 5, 2) := by decide +kernel
theorem d3_54 : decode jdk_42_method_149_code 54 = .ok (.putfield 9, 3) := by decide +kernel
theorem d3_57 : decode jdk_42_method_149_code 57 = .ok (.return_, 1) := by decide +kernel
theorem pn_java_2flang_2fString : plainName "java/lang/String" = true := by first | (simp [plainName, overriddenIn]; done) | decide +kernel
theorem ef_rmS4_4 (mM : MethodId) (a : Addr) (s' : Addr) (ks : ClassId) (cs : Int32) (x0 : Int32) (x1 : Int32) (x2 : Int32) (x3 : Int32) : entryFrame mM #[.ref a, .ref s', .int 0, .int 4, .null] 6 = mkF mM 0 #[.val (.ref a), .val (.ref s'), .val (.int 0), .val (.int 4), .val .null, .unset] [] := by first | (simp [entryFrame, mkF, argsToLocals, Value.category]; done) | rfl
theorem rmS4_4 (lL : Launch) (Z : State) (a0 : Array Value) (hw : own_tb a0 Z) (ws : List Jvm.Cond) (a : Addr) (s' : Addr) (ks : ClassId) (cs : Int32) (x0 : Int32) (x1 : Int32) (x2 : Int32) (x3 : Int32) (h0 : Heap) (n0 : Nat) (g_a : n0 ≤ a) (E_a : Exa Z h0 a "java/lang/String") (F_a_value : Fld Z h0 a "java/lang/String" "value" "[B" .null) (F_a_coder : Fld Z h0 a "java/lang/String" "coder" "B" (.int 0)) (A_s' : Arv Z h0 s' ks .char 4 [.int x0, .int x1, .int x2, .int x3] (.int 0)) (nsa : s' ≠ a) (O : Old Z n0 h0) (Zn : n0 ≤ h0.size) (S_cs : Sta Z Z.heap "java/lang/String" "COMPACT_STRINGS" "Z" (.int cs)) (hcs : ¬ cs = (0 : Int32)) (cx0 : Ck x0) (cx1 : Ck x1) (cx2 : Ck x2) (cx3 : Ck x3) :
    own_Ct lL Z yn8 jdk_42_method_149_code 6 none ws (⟨2, 1, 4, 35⟩ : Room) #[.ref a, .ref s', .int 0, .int 4, .null] h0 (QS Z a 4 [(.int (((x0).toInt8.toInt32)).toInt8.toInt32), (.int (((x1).toInt8.toInt32)).toInt8.toInt32), (.int (((x2).toInt8.toInt32)).toInt8.toInt32), (.int (((x3).toInt8.toInt32)).toInt8.toInt32)] h0 n0) := by
  refine own_body (plainFor_of_name pn_java_2flang_2fString) 1 4 rfl rfl (fun mM => ef_rmS4_4 mM a s' ks cs x0 x1 x2 x3) fun pP eE sS mM below meth cC s₁ hZ hx hby hml hown hnm hret hlk X0 e0 => ?_
  have N0 := Fr.nil n0
  have Kp := Keep.refl h0 [a]
  refine o_aloadN 1 X0 hx (hb hby d3_0) rfl rfl rfl ?_
  obtain ⟨T95, X95, e95, st95⟩ := initO X0 hx hZ hown (ow hw 16 rfl) (ow hw 17 rfl) (ow hw 18 rfl) e0 (g := (mkF mM 1 #[.val (.ref a), .val (.ref s'), .val (.int 0), .val (.int 4), .val .null, .unset] [.ref a])) rfl (by rw [hml]; rfl) rfl (hb hby d3_1) (by decide) (W := 0) (by show 2 * 0 + _ ≤ _; exact Nat.le_of_eq rfl) (by decide)
  refine own_k T95 4 [] st95 ?_
  refine o_iloadN 5 X95 hx (hb hby d3_4) rfl rfl ?_
  refine o_ifYes 27 X95 hx (hb hby d3_5) ((if0 _ _).trans (feq (by decide : ¬ ((4 : Int32) = (0 : Int32)))).2) (by decide) ?_
  obtain ⟨T96, X96, e96, st96⟩ := getS2 X95 hx hZ hown (host := "") (Or.inl (ow hw 19 rfl)) Via.refl e95 (S_cs.ext O.2) (g := (mkF mM 27 #[.val (.ref a), .val (.ref s'), .val (.int 0), .val (.int 4), .val .null, .unset] [])) rfl (hb hby d3_27)
  refine own_k T96 30 [.int cs] st96 ?_
  refine o_ifNo 33 X96 hx (hb hby d3_30) ((if0 _ _).trans (feq hcs).1) rfl ?_
  refine o_aloadN 34 X96 hx (hb hby d3_33) rfl rfl rfl ?_
  refine o_iloadN 35 X96 hx (hb hby d3_34) rfl rfl ?_
  refine o_iloadN 36 X96 hx (hb hby d3_35) rfl rfl ?_
  obtain ⟨_, _, ⟨T97, L97, k97, n97⟩, -, X97, ⟨Lc97, hQ97, l97, y97, z97⟩, st97⟩ := Jvm.LawKit.callS X96 hx (y := yn7) hown (mvT hZ (ow hw 20 rfl)) (mvT hZ (ow hw 21 rfl)) (mvT hZ (ow hw 22 rfl)) (mvT hZ (ow hw 23 rfl)) (by decide) (backOf (W := 0) (rmC3_4 lL Z a0 hw [] s' ks x0 x1 x2 x3 h0 n0 Zn A_s' cx0 cx1 cx2 cx3) hZ (ow hw 23 rfl) (ow hw 22 rfl) (by decide) (by decide)) (g := (mkF mM 36 #[.val (.ref a), .val (.ref s'), .val (.int 0), .val (.int 4), .val .null, .unset] [.int 4, .int 0, .ref s'])) rfl (by rw [hml]; rfl) (argsL := [.ref s', .int 0, .int 4]) (rest := []) (lenOf pd__28_5bCII_29_5bB rfl) rfl (by show 2 * 0 + _ ≤ _; exact Nat.le_of_eq rfl) (hb hby d3_36) (fun _ _ => ⟨rfl, e96, (by decide : 0 + 1 ≤ _), (by decide : 0 + 4 ≤ _)⟩)
  dsimp only [Pt.U, Pt.locs, Pt.cells, Pt.slots] at X97 l97 y97 z97 st97 hQ97
  subst l97 y97 z97
  obtain ⟨b97, k97', rfl, N97q, E97, V97, ge97⟩ := hQ97
  have N97 := Fr.app N0 N97q
  have e97 : T97.heap = T97.heap := rfl
  refine own_k T97 39 [.ref b97] st97 ?_
  have ne_a_b97 : a ≠ b97 := Nat.ne_of_lt (Nat.lt_of_lt_of_le E_a.lt ge97)
  have b_b97 : h0.size ≤ b97 := Nat.le_trans Kp.1 ge97
  have F_a_value := F_a_value.ext E97
  have F_a_coder := F_a_coder.ext E97
  have E_a := E_a.ext E97
  have O := O.ext E97
  have A_s' := A_s'.ext E97
  have Zn := Nat.le_trans Zn E97.1
  have Kp := Kp.ext E97
  have A_b97 := V97
  let Lv98 : Array Slot := #[.val (.ref a), .val (.ref s'), .val (.int 0), .val (.int 4), .val .null, .val (.ref b97)]
  refine own_st (A := T97.setTop (mkF mM 41 Lv98 [])) (fun t_ k_ => XS.astore X97.here hx rfl (hb hby d3_39) rfl rfl (l' := Lv98) rfl k_) ?_
  refine o_aloadN 42 X97 hx (hb hby d3_41) rfl rfl rfl ?_
  refine o_aload 44 X97 hx (hb hby d3_42) rfl rfl rfl ?_
  refine o_iloadN 45 X97 hx (hb hby d3_44) rfl rfl ?_
  obtain ⟨_, _, ⟨T99, L99, k99, n99⟩, -, X99, ⟨Lc99, hQ99, l99, y99, z99⟩, st99⟩ := Jvm.LawKit.callS X97 hx (y := yn5) hown (mvT hZ (ow hw 28 rfl)) (mvT hZ (ow hw 29 rfl)) (mvT hZ (ow hw 22 rfl)) (mvT hZ (ow hw 30 rfl)) (by decide) (backOf (W := 1) (rmCo_4 lL Z a0 hw [] b97 k97' x0 x1 x2 x3 T97.heap n0 A_b97) hZ (ow hw 30 rfl) (ow hw 22 rfl) (by decide) (by decide)) (g := (mkF mM 45 Lv98 [.int 4, .ref b97, .ref a])) rfl (by rw [hml]; rfl) (argsL := [.ref b97, .int 4]) (rest := [.ref a]) (lenOf pd__28_5bBI_29B rfl) rfl (by show 2 * 0 + _ ≤ _; exact Nat.le_of_eq rfl) (hb hby d3_45) (fun _ _ => ⟨rfl, e97, (by decide : 1 + 0 ≤ _), (by decide : 4 + 0 ≤ _)⟩)
  dsimp only [Pt.U, Pt.locs, Pt.cells, Pt.slots] at X99 l99 y99 z99 st99 hQ99
  subst l99 y99 z99
  obtain ⟨rfl, N99q, e99⟩ := hQ99
  have N99 := Fr.app N97 N99q
  refine own_k T99 48 [.int 0, .ref a] st99 ?_
  obtain ⟨T100, h100, X100, e100, W100, st100⟩ := putFN X99 hx hZ hown (ow hw 31 rfl) Via.refl e99 F_a_coder E_a (Or.inr ⟨(ow hw 32 rfl), rfl, hnm⟩) (ow hw 7 rfl) (ty := .byte) (v' := (.int 0)) (by decide) rfl (by decide) (g := (mkF mM 48 Lv98 [.int 0, .ref a])) rfl rfl (hb hby d3_48)
  have N100 := Fr.snoc X100 N99 g_a
  have F_a_value := F_a_value.other W100 (Or.inr (slot_ne (Or.inr (ow hw 34 rfl)) (Or.inr (ow hw 32 rfl)) (by decide) (t := (.array .byte)) (t' := .byte) (by decide) (by decide)))
  have F_a_coder := F_a_coder.same W100
  have E_a := E_a.wr W100
  have A_s' := A_s'.other W100 nsa
  have A_b97 := A_b97.other W100 (Ne.symm ne_a_b97)
  have O := O.wr W100 g_a
  have Zn := Nat.le_trans Zn (Keep.of_wr W100).1
  have Kp := Kp.wr W100 (Or.inl (List.mem_of_getElem? (i := 0) rfl))
  refine own_k T100 51 [] st100 ?_
  refine o_aloadN 52 X100 hx (hb hby d3_51) rfl rfl rfl ?_
  refine o_aload 54 X100 hx (hb hby d3_52) rfl rfl rfl ?_
  obtain ⟨T101, h101, X101, e101, W101, st101⟩ := putF X100 hx hZ hown (host := "") (Or.inl (ow hw 33 rfl)) Via.refl e100 F_a_value E_a (Or.inr ⟨(ow hw 34 rfl), rfl, hnm⟩) (ow hw 7 rfl) (ty := (.array .byte)) (by decide) rfl rfl (g := (mkF mM 54 Lv98 [.ref b97, .ref a])) rfl rfl (hb hby d3_54)
  have N101 := Fr.snoc X101 N100 g_a
  have F_a_value := F_a_value.same W101
  have F_a_coder := F_a_coder.other W101 (Or.inr (slot_ne (Or.inr (ow hw 32 rfl)) (Or.inr (ow hw 34 rfl)) (by decide) (t := .byte) (t' := (.array .byte)) (by decide) (by decide)))
  have E_a := E_a.wr W101
  have A_s' := A_s'.other W101 nsa
  have A_b97 := A_b97.other W101 (Ne.symm ne_a_b97)
  have O := O.wr W101 g_a
  have Zn := Nat.le_trans Zn (Keep.of_wr W101).1
  have Kp := Kp.wr W101 (Or.inl (List.mem_of_getElem? (i := 0) rfl))
  refine own_k T101 57 [] st101 ?_
  exact own_retV X101 hx hlk hret (hb hby d3_57) (by rw [e101]; exact ⟨_, _, rfl, N101, Kp, ⟨E_a, F_a_value, F_a_coder, A_b97⟩, b_b97⟩) (by decide) (by decide)
theorem d2_0 : decode jdk_42_method_3_code 0 = .ok (.aload_n 0, 1) := by decide +kernel
theorem d2_1 : decode jdk_42_method_3_code 1 = .ok (.aload_n 1, 1) := by decide +kernel
theorem d2_2 : decode jdk_42_method_3_code 2 = .ok (.iconst 0, 1) := by decide +kernel
theorem d2_3 : decode jdk_42_method_3_code 3 = .ok (.aload_n 1, 1) := by decide +kernel
theorem d2_4 : decode jdk_42_method_3_code 4 = .ok (.arraylength, 1) := by decide +kernel
theorem d2_5 : decode jdk_42_method_3_code 5 = .ok (.aconst_null, 1) := by decide +kernel
theorem d2_6 : decode jdk_42_method_3_code 6 = .ok (.invokespecial 27, 3) := by decide +kernel
theorem pd__28_5bCIILjava_2flang_2fVoid_3b_29V : parseMethodDescriptor "([CIILjava/lang/Void;)V" = some ⟨[(.array .char), .int, .int, (.object "java/lang/Void")], none⟩ := by decide +kernel
theorem d2_9 : decode jdk_42_method_3_code 9 = .ok (.return_, 1) := by decide +kernel
theorem ef_rmS1_4 (mM : MethodId) (a : Addr) (s' : Addr) (ks : ClassId) (cs : Int32) (x0 : Int32) (x1 : Int32) (x2 : Int32) (x3 : Int32) : entryFrame mM #[.ref a, .ref s'] 2 = mkF mM 0 #[.val (.ref a), .val (.ref s')] [] := by first | (simp [entryFrame, mkF, argsToLocals, Value.category]; done) | rfl
theorem rmS1_4 (lL : Launch) (Z : State) (a0 : Array Value) (hw : own_tb a0 Z) (ws : List Jvm.Cond) (a : Addr) (s' : Addr) (ks : ClassId) (cs : Int32) (x0 : Int32) (x1 : Int32) (x2 : Int32) (x3 : Int32) (h0 : Heap) (n0 : Nat) (g_a : n0 ≤ a) (E_a : Exa Z h0 a "java/lang/String") (F_a_value : Fld Z h0 a "java/lang/String" "value" "[B" .null) (F_a_coder : Fld Z h0 a "java/lang/String" "coder" "B" (.int 0)) (A_s' : Arv Z h0 s' ks .char 4 [.int x0, .int x1, .int x2, .int x3] (.int 0)) (nsa : s' ≠ a) (O : Old Z n0 h0) (Zn : n0 ≤ h0.size) (S_cs : Sta Z Z.heap "java/lang/String" "COMPACT_STRINGS" "Z" (.int cs)) (hcs : ¬ cs = (0 : Int32)) (cx0 : Ck x0) (cx1 : Ck x1) (cx2 : Ck x2) (cx3 : Ck x3) :
    own_Ct lL Z yn9 jdk_42_method_3_code 2 none ws (⟨3, 1, 4, 52⟩ : Room) #[.ref a, .ref s'] h0 (QS Z a 4 [(.int (((x0).toInt8.toInt32)).toInt8.toInt32), (.int (((x1).toInt8.toInt32)).toInt8.toInt32), (.int (((x2).toInt8.toInt32)).toInt8.toInt32), (.int (((x3).toInt8.toInt32)).toInt8.toInt32)] h0 n0) := by
  refine own_body (plainFor_of_name pn_java_2flang_2fString) 1 4 rfl rfl (fun mM => ef_rmS1_4 mM a s' ks cs x0 x1 x2 x3) fun pP eE sS mM below meth cC s₁ hZ hx hby hml hown hnm hret hlk X0 e0 => ?_
  have N0 := Fr.nil n0
  refine o_aloadN 1 X0 hx (hb hby d2_0) rfl rfl rfl ?_
  refine o_aloadN 2 X0 hx (hb hby d2_1) rfl rfl rfl ?_
  refine o_iconst 3 0 X0 hx (hb hby d2_2) rfl rfl ?_
  refine o_aloadN 4 X0 hx (hb hby d2_3) rfl rfl rfl ?_
  obtain ⟨cl102, Ar102, q102, S102, Nn102, H102, G102⟩ := id A_s'
  refine own_j 5 [.int 4, .int 0, .ref s', .ref a] (fun t_ k_ => X0.arraylength hx (by rw [e0]; exact Ar102.1) (State.isArrayOf_alike hZ.alike Ar102.2.1) (g := (mkF mM 4 #[.val (.ref a), .val (.ref s')] [.ref s', .int 0, .ref s', .ref a])) rfl rfl (hb hby d2_4) t_ (by rw [len_of S102 Nn102]; exact k_)) ?_
  refine own_j 6 [.null, .int 4, .int 0, .ref s', .ref a] (fun t_ k_ => XS.aconstNull X0.here hx rfl (hb hby d2_5) k_) ?_
  obtain ⟨_, _, ⟨T103, L103, k103, n103⟩, -, X103, ⟨Lc103, hQ103, l103, y103, z103⟩, st103⟩ := X0.specialBack hx (y := yn8) rfl hown (mvT hZ (ow hw 12 rfl)) (mvT hZ (ow hw 13 rfl)) (mvT hZ (ow hw 15 rfl)) (by decide) (backOf (W := 0) (rmS4_4 lL Z a0 hw [] a s' ks cs x0 x1 x2 x3 h0 n0 g_a E_a F_a_value F_a_coder A_s' nsa O Zn S_cs hcs cx0 cx1 cx2 cx3) hZ (ow hw 15 rfl) (ow hw 8 rfl) (by decide) (by decide)) (g := (mkF mM 6 #[.val (.ref a), .val (.ref s')] [.null, .int 4, .int 0, .ref s', .ref a])) rfl (by rw [hml]; rfl) (Steps.refl _) (a := a) (argsL := [.ref s', .int 0, .int 4, .null]) (rest := []) (lenOf pd__28_5bCIILjava_2flang_2fVoid_3b_29V rfl) rfl (by show 2 * 0 + _ ≤ _; exact Nat.le_of_eq rfl) (hb hby d2_6) (fun _ _ => ⟨rfl, e0, (by decide : 0 + 1 ≤ _), (by decide : 0 + 4 ≤ _)⟩)
  dsimp only [Pt.U, Pt.locs, Pt.cells, Pt.slots] at X103 l103 y103 z103 st103 hQ103
  subst l103 y103 z103
  obtain ⟨d103, k103', rfl, N103q, R103⟩ := hQ103
  have N103 := Fr.app N0 N103q
  have e103 : T103.heap = T103.heap := rfl
  refine own_k T103 9 [] (fun t_ k_ => st103.trans k_) ?_
  exact own_retV X103 hx hlk hret (hb hby d2_9) ⟨_, _, rfl, N103, R103⟩ (by decide) (by decide)
theorem d6_23 : decode jdk_52_method_21_code 23 = .ok (.iload 5, 2) := by decide +kernel
theorem d6_25 : decode jdk_52_method_21_code 25 = .ok (.ireturn, 1) := by decide +kernel
theorem ef_rmC5j0 (mM : MethodId) (s' : Addr) (ks : ClassId) (d : Addr) (kd : ClassId) (x0 : Int32) (x1 : Int32) (x2 : Int32) (x3 : Int32) : entryFrame mM #[.ref s', .int 0, .ref d, .int 0, .int 4] 7 = mkF mM 0 #[.val (.ref s'), .val (.int 0), .val (.ref d), .val (.int 0), .val (.int 4), .unset, .unset] [] := by first | (simp [entryFrame, mkF, argsToLocals, Value.category]; done) | rfl
theorem rmC5j0 (lL : Launch) (Z : State) (a0 : Array Value) (hw : own_tb a0 Z) (ws : List Jvm.Cond) (s' : Addr) (ks : ClassId) (d : Addr) (kd : ClassId) (x0 : Int32) (x1 : Int32) (x2 : Int32) (x3 : Int32) (h0 : Heap) (n0 : Nat) (A_s' : Arv Z h0 s' ks .char 4 [.int x0, .int x1, .int x2, .int x3] (.int 0)) (A_d : Arv Z h0 d kd .byte 4 [.int 0, .int 0, .int 0, .int 0] (.int 0)) (g_d : n0 ≤ d) (nsd : s' ≠ d) (big : (255 : Int32) < x0) :
    own_Ct lL Z yn6 jdk_52_method_21_code 7 (some .int) ws (⟨0, 0, 0, 0⟩ : Room) #[.ref s', .int 0, .ref d, .int 0, .int 4] h0 (QCJ d 0 h0 n0) := by
  refine own_body (plainFor_of_name pn_java_2flang_2fStringUTF16) 0 0 rfl rfl (fun mM => ef_rmC5j0 mM s' ks d kd x0 x1 x2 x3) fun pP eE sS mM below meth cC s₁ hZ hx hby hml hown hnm hret hlk X0 e0 => ?_
  have N0 := Fr.nil n0
  have Kp := Keep.refl h0 [d]
  refine o_iconst 1 0 X0 hx (hb hby d6_0) rfl rfl ?_
  let Lv104 : Array Slot := #[.val (.ref s'), .val (.int 0), .val (.ref d), .val (.int 0), .val (.int 4), .val (.int 0), .unset]
  refine own_st (A := s₁.setTop (mkF mM 3 Lv104 [])) (fun t_ k_ => XS.istore X0.here hx rfl (hb hby d6_1) rfl (l' := Lv104) rfl k_) ?_
  refine o_iload 5 X0 hx (hb hby d6_3) rfl rfl ?_
  refine o_iload 7 X0 hx (hb hby d6_5) rfl rfl ?_
  refine o_icmpNo 10 X0 hx (hb hby d6_7) (tlt (by decide : ((0 : Int32) < (4 : Int32)))).2.1 rfl ?_
  refine o_aloadN 11 X0 hx (hb hby d6_10) rfl rfl rfl ?_
  refine o_iloadN 12 X0 hx (hb hby d6_11) rfl rfl ?_
  obtain ⟨cl105, Ar105, q105, S105, Nn105, H105, G105⟩ := id A_s'
  have hin105 : ¬ ((0 : Int32) < 0 ∨ cl105.slots.size ≤ ((0 : Int32)).toNatClampNeg) := inb_of S105 ⟨by decide, by decide⟩
  refine own_j 13 [.int x0] (fun t_ k_ => X0.caload hx (j := (0 : Int32)) (v := (.int x0)) (by rw [e0]; exact Ar105.1) (State.isArrayOf_alike hZ.alike Ar105.2.1) Ar105.2.2 hin105 (H105.at hin105 rfl) (g := (mkF mM 12 Lv104 [.int 0, .ref s'])) rfl rfl (hb hby d6_12) t_ k_) ?_
  let Lv106 : Array Slot := #[.val (.ref s'), .val (.int 0), .val (.ref d), .val (.int 0), .val (.int 4), .val (.int 0), .val (.int x0)]
  refine own_st (A := s₁.setTop (mkF mM 15 Lv106 [])) (fun t_ k_ => XS.istore X0.here hx rfl (hb hby d6_13) rfl (l' := Lv106) rfl k_) ?_
  refine o_iload 17 X0 hx (hb hby d6_15) rfl rfl ?_
  refine o_sipush 20 255 X0 hx (hb hby d6_17) rfl rfl ?_
  refine o_icmpNo 23 X0 hx (hb hby d6_20) (tlt big).2.2.2 rfl ?_
  refine o_iload 25 X0 hx (hb hby d6_23) rfl rfl ?_
  exact own_retI X0 hx hlk hret (hb hby d6_25) (by rw [e0]; exact ⟨rfl, N0, Kp⟩) (by decide) (by decide)
theorem d5_20 : decode jdk_52_method_16_code 20 = .ok (.aload_n 0, 1) := by decide +kernel
theorem d5_21 : decode jdk_52_method_16_code 21 = .ok (.iload_n 1, 1) := by decide +kernel
theorem d5_22 : decode jdk_52_method_16_code 22 = .ok (.iload_n 2, 1) := by decide +kernel
theorem d5_23 : decode jdk_52_method_16_code 23 = .ok (.invokestatic 119, 3) := by decide +kernel
theorem d5_26 : decode jdk_52_method_16_code 26 = .ok (.astore 5, 2) := by decide +kernel
theorem d5_28 : decode jdk_52_method_16_code 28 = .ok (.aload 5, 2) := by decide +kernel
theorem d5_30 : decode jdk_52_method_16_code 30 = .ok (.iload 4, 2) := by decide +kernel
theorem d5_32 : decode jdk_52_method_16_code 32 = .ok (.invokestatic 71, 3) := by decide +kernel
theorem pd__28_5bBI_29C : parseMethodDescriptor "([BI)C" = some ⟨[(.array .byte), .int], some .char⟩ := by decide +kernel
theorem d5_35 : decode jdk_52_method_16_code 35 = .ok (.sipush 255, 3) := by decide +kernel
theorem d5_38 : decode jdk_52_method_16_code 38 = .ok (.if_icmp .gt 16, 3) := by decide +kernel
theorem d5_54 : decode jdk_52_method_16_code 54 = .ok (.aload 5, 2) := by decide +kernel
theorem d5_56 : decode jdk_52_method_16_code 56 = .ok (.areturn, 1) := by decide +kernel
theorem ef_rmC3j0 (mM : MethodId) (s' : Addr) (ks : ClassId) (x0 : Int32) (x1 : Int32) (x2 : Int32) (x3 : Int32) : entryFrame mM #[.ref s', .int 0, .int 4] 6 = mkF mM 0 #[.val (.ref s'), .val (.int 0), .val (.int 4), .unset, .unset, .unset] [] := by first | (simp [entryFrame, mkF, argsToLocals, Value.category]; done) | rfl
theorem rmC3j0 (lL : Launch) (Z : State) (a0 : Array Value) (hw : own_tb a0 Z) (ws : List Jvm.Cond) (s' : Addr) (ks : ClassId) (x0 : Int32) (x1 : Int32) (x2 : Int32) (x3 : Int32) (h0 : Heap) (n0 : Nat) (A_s' : Arv Z h0 s' ks .char 4 [.int x0, .int x1, .int x2, .int x3] (.int 0)) (O : Old Z n0 h0) (Zn : n0 ≤ h0.size) (S_ad : Sta Z Z.heap "java/lang/StringUTF16" "$assertionsDisabled" "Z" (.int 1)) (S_hi : Sta Z Z.heap "java/lang/StringUTF16" "HI_BYTE_SHIFT" "I" (.int 0)) (S_lo : Sta Z Z.heap "java/lang/StringUTF16" "LO_BYTE_SHIFT" "I" (.int 8)) (cx0 : nar .char x0 = x0) (cx1 : nar .char x1 = x1) (cx2 : nar .char x2 = x2) (cx3 : nar .char x3 = x3) (big : (255 : Int32) < x0) :
    own_Ct lL Z yn7 jdk_52_method_16_code 6 (some (.array .byte)) ws (⟨3, 2, 12, 40⟩ : Room) #[.ref s', .int 0, .int 4] h0 (QC3 Z 8 [(.int (lo8 x0)), (.int (hi8 x0)), (.int (lo8 x1)), (.int (hi8 x1)), (.int (lo8 x2)), (.int (hi8 x2)), (.int (lo8 x3)), (.int (hi8 x3))] h0 n0) := by
  refine own_body (plainFor_of_name pn_java_2flang_2fStringUTF16) 2 12 rfl rfl (fun mM => ef_rmC3j0 mM s' ks x0 x1 x2 x3) fun pP eE sS mM below meth cC s₁ hZ hx hby hml hown hnm hret hlk X0 e0 => ?_
  have N0 := Fr.nil n0
  have Kp := Keep.refl h0 []
  refine o_iloadN 1 X0 hx (hb hby d5_0) rfl rfl ?_
  obtain ⟨T107, h107, k107, X107, e107, E107, A107, st107⟩ := newP X0 hx hZ (ow hw 24 rfl) e0 (g := (mkF mM 1 #[.val (.ref s'), .val (.int 0), .val (.int 4), .unset, .unset, .unset] [.int 4])) rfl (hb hby d5_1) rfl (by decide) (cap := 4) (by decide) (by decide) (by decide) (by decide)
  obtain ⟨b107, g107⟩ : ∃ z, z = h0.size := ⟨_, rfl⟩
  rw [← g107] at A107 st107
  have ne_s'_b107 : s' ≠ b107 := Nat.ne_of_lt (Nat.lt_of_lt_of_le A_s'.lt (Nat.le_of_eq g107.symm))
  have g_b107 : n0 ≤ b107 := Nat.le_trans Zn (Nat.le_of_eq g107.symm)
  have b_b107 : h0.size ≤ b107 := Nat.le_trans Kp.1 (Nat.le_of_eq g107.symm)
  have O := O.ext E107
  have A_s' := A_s'.ext E107
  have Zn := Nat.le_trans Zn E107.1
  have Kp := Kp.ext E107
  have A_b107 : Arv Z h107 b107 k107 .byte 4 [.int 0, .int 0, .int 0, .int 0] (.int 0) := (Arv.new A107 (by decide)).pad (pad_rep [] (.int 0) 4)
  refine own_k T107 3 [.ref b107] st107 ?_
  let Lv108 : Array Slot := #[.val (.ref s'), .val (.int 0), .val (.int 4), .val (.ref b107), .unset, .unset]
  refine own_st (A := T107.setTop (mkF mM 4 Lv108 [])) (fun t_ k_ => XS.astoreN X107.here hx rfl (hb hby d5_3) rfl rfl (l' := Lv108) rfl k_) ?_
  refine o_aloadN 5 X107 hx (hb hby d5_4) rfl rfl rfl ?_
  refine o_iloadN 6 X107 hx (hb hby d5_5) rfl rfl ?_
  refine o_aloadN 7 X107 hx (hb hby d5_6) rfl rfl rfl ?_
  refine o_iconst 8 0 X107 hx (hb hby d5_7) rfl rfl ?_
  refine o_iloadN 9 X107 hx (hb hby d5_8) rfl rfl ?_
  obtain ⟨_, _, ⟨T109, L109, k109, n109⟩, -, X109, ⟨Lc109, hQ109, l109, y109, z109⟩, st109⟩ := Jvm.LawKit.callS X107 hx (y := yn6) hown (mvT hZ (ow hw 25 rfl)) (mvT hZ (ow hw 26 rfl)) (mvT hZ (ow hw 22 rfl)) (mvT hZ (ow hw 27 rfl)) (by decide) (backOf (W := 0) (rmC5j0 lL Z a0 hw [] s' ks b107 k107 x0 x1 x2 x3 h107 n0 A_s' A_b107 g_b107 ne_s'_b107 big) hZ (ow hw 27 rfl) (ow hw 22 rfl) (by decide) (by decide)) (g := (mkF mM 9 Lv108 [.int 4, .int 0, .ref b107, .int 0, .ref s'])) rfl (by rw [hml]; rfl) (argsL := [.ref s', .int 0, .ref b107, .int 0, .int 4]) (rest := []) (lenOf pd__28_5bCI_5bBII_29I rfl) rfl (by show 2 * 0 + _ ≤ _; exact Nat.le_of_eq rfl) (hb hby d5_9) (fun _ _ => ⟨rfl, e107, (by decide : 1 + 0 ≤ _), (by decide : 4 + 0 ≤ _)⟩)
  dsimp only [Pt.U, Pt.locs, Pt.cells, Pt.slots] at X109 l109 y109 z109 st109 hQ109
  subst l109 y109 z109
  obtain ⟨rfl, N109q, K109⟩ := hQ109
  have N109 := Fr.app N0 N109q
  have e109 : T109.heap = T109.heap := rfl
  refine own_k T109 12 [.int 0] st109 ?_
  have A_s' := A_s'.keep K109 (ninS ne_s'_b107 nin0)
  have O := O.keep K109 (allS g_b107 all0)
  have Zn := Nat.le_trans Zn K109.1
  have Kp := Kp.trans K109 (allS (Or.inr b_b107) all0)
  let Lv110 : Array Slot := #[.val (.ref s'), .val (.int 0), .val (.int 4), .val (.ref b107), .val (.int 0), .unset]
  refine own_st (A := T109.setTop (mkF mM 14 Lv110 [])) (fun t_ k_ => XS.istore X109.here hx rfl (hb hby d5_12) rfl (l' := Lv110) rfl k_) ?_
  refine o_iload 16 X109 hx (hb hby d5_14) rfl rfl ?_
  refine o_iloadN 17 X109 hx (hb hby d5_16) rfl rfl ?_
  refine o_icmpNo 20 X109 hx (hb hby d5_17) (feq (by decide : ¬ ((0 : Int32) = (4 : Int32)))).1 rfl ?_
  refine o_aloadN 21 X109 hx (hb hby d5_20) rfl rfl rfl ?_
  refine o_iloadN 22 X109 hx (hb hby d5_21) rfl rfl ?_
  refine o_iloadN 23 X109 hx (hb hby d5_22) rfl rfl ?_
  obtain ⟨_, _, ⟨T111, L111, k111, n111⟩, -, X111, ⟨Lc111, hQ111, l111, y111, z111⟩, st111⟩ := Jvm.LawKit.callS X109 hx (y := yn3) hown (mvT hZ (ow hw 65 rfl)) (mvT hZ (ow hw 66 rfl)) (mvT hZ (ow hw 22 rfl)) (mvT hZ (ow hw 67 rfl)) (by decide) (backOf (W := 0) (rmTB lL Z a0 hw [] s' ks x0 x1 x2 x3 T109.heap n0 A_s' O Zn S_ad S_hi S_lo) hZ (ow hw 67 rfl) (ow hw 22 rfl) (by decide) (by decide)) (g := (mkF mM 23 Lv110 [.int 4, .int 0, .ref s'])) rfl (by rw [hml]; rfl) (argsL := [.ref s', .int 0, .int 4]) (rest := []) (lenOf pd__28_5bCII_29_5bB rfl) rfl (by show 2 * 0 + _ ≤ _; exact Nat.le_of_eq rfl) (hb hby d5_23) (fun _ _ => ⟨rfl, e109, (by decide : 1 + 1 ≤ _), (by decide : 4 + 8 ≤ _)⟩)
  dsimp only [Pt.U, Pt.locs, Pt.cells, Pt.slots] at X111 l111 y111 z111 st111 hQ111
  subst l111 y111 z111
  obtain ⟨b111, k111', rfl, N111q, E111, V111, ge111⟩ := hQ111
  have N111 := Fr.app N109 N111q
  have e111 : T111.heap = T111.heap := rfl
  refine own_k T111 26 [.ref b111] st111 ?_
  have b_b111 : h0.size ≤ b111 := Nat.le_trans Kp.1 ge111
  have O := O.ext E111
  have A_s' := A_s'.ext E111
  have Zn := Nat.le_trans Zn E111.1
  have Kp := Kp.ext E111
  have A_b111 := V111
  let Lv112 : Array Slot := #[.val (.ref s'), .val (.int 0), .val (.int 4), .val (.ref b107), .val (.int 0), .val (.ref b111)]
  refine own_st (A := T111.setTop (mkF mM 28 Lv112 [])) (fun t_ k_ => XS.astore X111.here hx rfl (hb hby d5_26) rfl rfl (l' := Lv112) rfl k_) ?_
  refine o_aload 30 X111 hx (hb hby d5_28) rfl rfl rfl ?_
  refine o_iload 32 X111 hx (hb hby d5_30) rfl rfl ?_
  obtain ⟨_, _, ⟨T113, L113, k113, n113⟩, -, X113, ⟨Lc113, hQ113, l113, y113, z113⟩, st113⟩ := Jvm.LawKit.callS X111 hx (y := yn4) hown (mvT hZ (ow hw 81 rfl)) (mvT hZ (ow hw 82 rfl)) (mvT hZ (ow hw 22 rfl)) (mvT hZ (ow hw 83 rfl)) (by decide) (backOf (W := 0) (rmGC0 lL Z a0 hw [] b111 k111' x0 x1 x2 x3 T111.heap n0 A_b111 O S_ad S_hi S_lo cx0) hZ (ow hw 83 rfl) (ow hw 22 rfl) (by decide) (by decide)) (g := (mkF mM 32 Lv112 [.int 0, .ref b111])) rfl (by rw [hml]; rfl) (argsL := [.ref b111, .int 0]) (rest := []) (lenOf pd__28_5bBI_29C rfl) rfl (by show 2 * 0 + _ ≤ _; exact Nat.le_of_eq rfl) (hb hby d5_32) (fun _ _ => ⟨rfl, e111, (by decide : 2 + 0 ≤ _), (by decide : 12 + 0 ≤ _)⟩)
  dsimp only [Pt.U, Pt.locs, Pt.cells, Pt.slots] at X113 l113 y113 z113 st113 hQ113
  subst l113 y113 z113
  obtain ⟨rfl, N113q, e113⟩ := hQ113
  have N113 := Fr.app N111 N113q
  refine own_k T113 35 [.int x0] st113 ?_
  refine o_sipush 38 255 X113 hx (hb hby d5_35) rfl rfl ?_
  refine o_icmpYes 54 X113 hx (hb hby d5_38) (tlt big).2.2.1 (by decide) ?_
  refine o_aload 56 X113 hx (hb hby d5_54) rfl rfl rfl ?_
  exact own_retA X113 hx hlk hret rfl rfl (hb hby d5_56) (by rw [e113]; exact ⟨_, _, rfl, N113, own_ext_of_keep Kp, A_b111, b_b111⟩) (by decide) (by decide)
theorem ef_rmS4j0 (mM : MethodId) (a : Addr) (s' : Addr) (ks : ClassId) (cs : Int32) (x0 : Int32) (x1 : Int32) (x2 : Int32) (x3 : Int32) : entryFrame mM #[.ref a, .ref s', .int 0, .int 4, .null] 6 = mkF mM 0 #[.val (.ref a), .val (.ref s'), .val (.int 0), .val (.int 4), .val .null, .unset] [] := by first | (simp [entryFrame, mkF, argsToLocals, Value.category]; done) | rfl
theorem rmS4j0 (lL : Launch) (Z : State) (a0 : Array Value) (hw : own_tb a0 Z) (ws : List Jvm.Cond) (a : Addr) (s' : Addr) (ks : ClassId) (cs : Int32) (x0 : Int32) (x1 : Int32) (x2 : Int32) (x3 : Int32) (h0 : Heap) (n0 : Nat) (g_a : n0 ≤ a) (E_a : Exa Z h0 a "java/lang/String") (F_a_value : Fld Z h0 a "java/lang/String" "value" "[B" .null) (F_a_coder : Fld Z h0 a "java/lang/String" "coder" "B" (.int 0)) (A_s' : Arv Z h0 s' ks .char 4 [.int x0, .int x1, .int x2, .int x3] (.int 0)) (nsa : s' ≠ a) (O : Old Z n0 h0) (Zn : n0 ≤ h0.size) (S_cs : Sta Z Z.heap "java/lang/String" "COMPACT_STRINGS" "Z" (.int cs)) (hcs : ¬ cs = (0 : Int32)) (S_ad : Sta Z Z.heap "java/lang/StringUTF16" "$assertionsDisabled" "Z" (.int 1)) (S_hi : Sta Z Z.heap "java/lang/StringUTF16" "HI_BYTE_SHIFT" "I" (.int 0)) (S_lo : Sta Z Z.heap "java/lang/StringUTF16" "LO_BYTE_SHIFT" "I" (.int 8)) (cx0 : nar .char x0 = x0) (cx1 : nar .char x1 = x1) (cx2 : nar .char x2 = x2) (cx3 : nar .char x3 = x3) (big : (255 : Int32) < x0) :
    own_Ct lL Z yn8 jdk_42_method_149_code 6 none ws (⟨4, 2, 12, 57⟩ : Room) #[.ref a, .ref s', .int 0, .int 4, .null] h0 (QSU Z a x0 x1 x2 x3 h0 n0) := by
  refine own_body (plainFor_of_name pn_java_2flang_2fString) 2 12 rfl rfl (fun mM => ef_rmS4j0 mM a s' ks cs x0 x1 x2 x3) fun pP eE sS mM below meth cC s₁ hZ hx hby hml hown hnm hret hlk X0 e0 => ?_
  have N0 := Fr.nil n0
  have Kp := Keep.refl h0 [a]
  refine o_aloadN 1 X0 hx (hb hby d3_0) rfl rfl rfl ?_
  obtain ⟨T114, X114, e114, st114⟩ := initO X0 hx hZ hown (ow hw 16 rfl) (ow hw 17 rfl) (ow hw 18 rfl) e0 (g := (mkF mM 1 #[.val (.ref a), .val (.ref s'), .val (.int 0), .val (.int 4), .val .null, .unset] [.ref a])) rfl (by rw [hml]; rfl) rfl (hb hby d3_1) (by decide) (W := 0) (by show 2 * 0 + _ ≤ _; exact Nat.le_of_eq rfl) (by decide)
  refine own_k T114 4 [] st114 ?_
  refine o_iloadN 5 X114 hx (hb hby d3_4) rfl rfl ?_
  refine o_ifYes 27 X114 hx (hb hby d3_5) ((if0 _ _).trans (feq (by decide : ¬ ((4 : Int32) = (0 : Int32)))).2) (by decide) ?_
  obtain ⟨T115, X115, e115, st115⟩ := getS2 X114 hx hZ hown (host := "") (Or.inl (ow hw 19 rfl)) Via.refl e114 (S_cs.ext O.2) (g := (mkF mM 27 #[.val (.ref a), .val (.ref s'), .val (.int 0), .val (.int 4), .val .null, .unset] [])) rfl (hb hby d3_27)
  refine own_k T115 30 [.int cs] st115 ?_
  refine o_ifNo 33 X115 hx (hb hby d3_30) ((if0 _ _).trans (feq hcs).1) rfl ?_
  refine o_aloadN 34 X115 hx (hb hby d3_33) rfl rfl rfl ?_
  refine o_iloadN 35 X115 hx (hb hby d3_34) rfl rfl ?_
  refine o_iloadN 36 X115 hx (hb hby d3_35) rfl rfl ?_
  obtain ⟨_, _, ⟨T116, L116, k116, n116⟩, -, X116, ⟨Lc116, hQ116, l116, y116, z116⟩, st116⟩ := Jvm.LawKit.callS X115 hx (y := yn7) hown (mvT hZ (ow hw 20 rfl)) (mvT hZ (ow hw 21 rfl)) (mvT hZ (ow hw 22 rfl)) (mvT hZ (ow hw 23 rfl)) (by decide) (backOf (W := 0) (rmC3j0 lL Z a0 hw [] s' ks x0 x1 x2 x3 h0 n0 A_s' O Zn S_ad S_hi S_lo cx0 cx1 cx2 cx3 big) hZ (ow hw 23 rfl) (ow hw 22 rfl) (by decide) (by decide)) (g := (mkF mM 36 #[.val (.ref a), .val (.ref s'), .val (.int 0), .val (.int 4), .val .null, .unset] [.int 4, .int 0, .ref s'])) rfl (by rw [hml]; rfl) (argsL := [.ref s', .int 0, .int 4]) (rest := []) (lenOf pd__28_5bCII_29_5bB rfl) rfl (by show 2 * 0 + _ ≤ _; exact Nat.le_of_eq rfl) (hb hby d3_36) (fun _ _ => ⟨rfl, e115, (by decide : 0 + 2 ≤ _), (by decide : 0 + 12 ≤ _)⟩)
  dsimp only [Pt.U, Pt.locs, Pt.cells, Pt.slots] at X116 l116 y116 z116 st116 hQ116
  subst l116 y116 z116
  obtain ⟨b116, k116', rfl, N116q, E116, V116, ge116⟩ := hQ116
  have N116 := Fr.app N0 N116q
  have e116 : T116.heap = T116.heap := rfl
  refine own_k T116 39 [.ref b116] st116 ?_
  have ne_a_b116 : a ≠ b116 := Nat.ne_of_lt (Nat.lt_of_lt_of_le E_a.lt ge116)
  have F_a_value := F_a_value.ext E116
  have F_a_coder := F_a_coder.ext E116
  have E_a := E_a.ext E116
  have O := O.ext E116
  have A_s' := A_s'.ext E116
  have Zn := Nat.le_trans Zn E116.1
  have Kp := Kp.ext E116
  have A_b116 := V116
  let Lv117 : Array Slot := #[.val (.ref a), .val (.ref s'), .val (.int 0), .val (.int 4), .val .null, .val (.ref b116)]
  refine own_st (A := T116.setTop (mkF mM 41 Lv117 [])) (fun t_ k_ => XS.astore X116.here hx rfl (hb hby d3_39) rfl rfl (l' := Lv117) rfl k_) ?_
  refine o_aloadN 42 X116 hx (hb hby d3_41) rfl rfl rfl ?_
  refine o_aload 44 X116 hx (hb hby d3_42) rfl rfl rfl ?_
  refine o_iloadN 45 X116 hx (hb hby d3_44) rfl rfl ?_
  obtain ⟨_, _, ⟨T118, L118, k118, n118⟩, -, X118, ⟨Lc118, hQ118, l118, y118, z118⟩, st118⟩ := Jvm.LawKit.callS X116 hx (y := yn5) hown (mvT hZ (ow hw 28 rfl)) (mvT hZ (ow hw 29 rfl)) (mvT hZ (ow hw 22 rfl)) (mvT hZ (ow hw 30 rfl)) (by decide) (backOf (W := 1) (rmCoU lL Z a0 hw [] b116 k116' x0 x1 x2 x3 T116.heap n0 A_b116) hZ (ow hw 30 rfl) (ow hw 22 rfl) (by decide) (by decide)) (g := (mkF mM 45 Lv117 [.int 4, .ref b116, .ref a])) rfl (by rw [hml]; rfl) (argsL := [.ref b116, .int 4]) (rest := [.ref a]) (lenOf pd__28_5bBI_29B rfl) rfl (by show 2 * 0 + _ ≤ _; exact Nat.le_of_eq rfl) (hb hby d3_45) (fun _ _ => ⟨rfl, e116, (by decide : 2 + 0 ≤ _), (by decide : 12 + 0 ≤ _)⟩)
  dsimp only [Pt.U, Pt.locs, Pt.cells, Pt.slots] at X118 l118 y118 z118 st118 hQ118
  subst l118 y118 z118
  obtain ⟨rfl, N118q, e118⟩ := hQ118
  have N118 := Fr.app N116 N118q
  refine own_k T118 48 [.int 1, .ref a] st118 ?_
  obtain ⟨T119, h119, X119, e119, W119, st119⟩ := putFN X118 hx hZ hown (ow hw 31 rfl) Via.refl e118 F_a_coder E_a (Or.inr ⟨(ow hw 32 rfl), rfl, hnm⟩) (ow hw 7 rfl) (ty := .byte) (v' := (.int 1)) (by decide) rfl (by decide) (g := (mkF mM 48 Lv117 [.int 1, .ref a])) rfl rfl (hb hby d3_48)
  have N119 := Fr.snoc X119 N118 g_a
  have F_a_value := F_a_value.other W119 (Or.inr (slot_ne (Or.inr (ow hw 34 rfl)) (Or.inr (ow hw 32 rfl)) (by decide) (t := (.array .byte)) (t' := .byte) (by decide) (by decide)))
  have F_a_coder := F_a_coder.same W119
  have E_a := E_a.wr W119
  have A_s' := A_s'.other W119 nsa
  have A_b116 := A_b116.other W119 (Ne.symm ne_a_b116)
  have O := O.wr W119 g_a
  have Zn := Nat.le_trans Zn (Keep.of_wr W119).1
  have Kp := Kp.wr W119 (Or.inl (List.mem_of_getElem? (i := 0) rfl))
  refine own_k T119 51 [] st119 ?_
  refine o_aloadN 52 X119 hx (hb hby d3_51) rfl rfl rfl ?_
  refine o_aload 54 X119 hx (hb hby d3_52) rfl rfl rfl ?_
  obtain ⟨T120, h120, X120, e120, W120, st120⟩ := putF X119 hx hZ hown (host := "") (Or.inl (ow hw 33 rfl)) Via.refl e119 F_a_value E_a (Or.inr ⟨(ow hw 34 rfl), rfl, hnm⟩) (ow hw 7 rfl) (ty := (.array .byte)) (by decide) rfl rfl (g := (mkF mM 54 Lv117 [.ref b116, .ref a])) rfl rfl (hb hby d3_54)
  have N120 := Fr.snoc X120 N119 g_a
  have F_a_value := F_a_value.same W120
  have F_a_coder := F_a_coder.other W120 (Or.inr (slot_ne (Or.inr (ow hw 32 rfl)) (Or.inr (ow hw 34 rfl)) (by decide) (t := .byte) (t' := (.array .byte)) (by decide) (by decide)))
  have E_a := E_a.wr W120
  have A_s' := A_s'.other W120 nsa
  have A_b116 := A_b116.other W120 (Ne.symm ne_a_b116)
  have O := O.wr W120 g_a
  have Zn := Nat.le_trans Zn (Keep.of_wr W120).1
  have Kp := Kp.wr W120 (Or.inl (List.mem_of_getElem? (i := 0) rfl))
  refine own_k T120 57 [] st120 ?_
  exact own_retV X120 hx hlk hret (hb hby d3_57) (by rw [e120]; exact ⟨rfl, N120, Kp, _, _, E_a, F_a_value, F_a_coder, A_b116⟩) (by decide) (by decide)
theorem ef_rmS1j0 (mM : MethodId) (a : Addr) (s' : Addr) (ks : ClassId) (cs : Int32) (x0 : Int32) (x1 : Int32) (x2 : Int32) (x3 : Int32) : entryFrame mM #[.ref a, .ref s'] 2 = mkF mM 0 #[.val (.ref a), .val (.ref s')] [] := by first | (simp [entryFrame, mkF, argsToLocals, Value.category]; done) | rfl
theorem rmS1j0 (lL : Launch) (Z : State) (a0 : Array Value) (hw : own_tb a0 Z) (ws : List Jvm.Cond) (a : Addr) (s' : Addr) (ks : ClassId) (cs : Int32) (x0 : Int32) (x1 : Int32) (x2 : Int32) (x3 : Int32) (h0 : Heap) (n0 : Nat) (g_a : n0 ≤ a) (E_a : Exa Z h0 a "java/lang/String") (F_a_value : Fld Z h0 a "java/lang/String" "value" "[B" .null) (F_a_coder : Fld Z h0 a "java/lang/String" "coder" "B" (.int 0)) (A_s' : Arv Z h0 s' ks .char 4 [.int x0, .int x1, .int x2, .int x3] (.int 0)) (nsa : s' ≠ a) (O : Old Z n0 h0) (Zn : n0 ≤ h0.size) (S_cs : Sta Z Z.heap "java/lang/String" "COMPACT_STRINGS" "Z" (.int cs)) (hcs : ¬ cs = (0 : Int32)) (S_ad : Sta Z Z.heap "java/lang/StringUTF16" "$assertionsDisabled" "Z" (.int 1)) (S_hi : Sta Z Z.heap "java/lang/StringUTF16" "HI_BYTE_SHIFT" "I" (.int 0)) (S_lo : Sta Z Z.heap "java/lang/StringUTF16" "LO_BYTE_SHIFT" "I" (.int 8)) (cx0 : nar .char x0 = x0) (cx1 : nar .char x1 = x1) (cx2 : nar .char x2 = x2) (cx3 : nar .char x3 = x3) (big : (255 : Int32) < x0) :
    own_Ct lL Z yn9 jdk_42_method_3_code 2 none ws (⟨5, 2, 12, 74⟩ : Room) #[.ref a, .ref s'] h0 (QSC Z a x0 x1 x2 x3 h0 n0) := by
  refine own_body (plainFor_of_name pn_java_2flang_2fString) 2 12 rfl rfl (fun mM => ef_rmS1j0 mM a s' ks cs x0 x1 x2 x3) fun pP eE sS mM below meth cC s₁ hZ hx hby hml hown hnm hret hlk X0 e0 => ?_
  have N0 := Fr.nil n0
  refine o_aloadN 1 X0 hx (hb hby d2_0) rfl rfl rfl ?_
  refine o_aloadN 2 X0 hx (hb hby d2_1) rfl rfl rfl ?_
  refine o_iconst 3 0 X0 hx (hb hby d2_2) rfl rfl ?_
  refine o_aloadN 4 X0 hx (hb hby d2_3) rfl rfl rfl ?_
  obtain ⟨cl121, Ar121, q121, S121, Nn121, H121, G121⟩ := id A_s'
  refine own_j 5 [.int 4, .int 0, .ref s', .ref a] (fun t_ k_ => X0.arraylength hx (by rw [e0]; exact Ar121.1) (State.isArrayOf_alike hZ.alike Ar121.2.1) (g := (mkF mM 4 #[.val (.ref a), .val (.ref s')] [.ref s', .int 0, .ref s', .ref a])) rfl rfl (hb hby d2_4) t_ (by rw [len_of S121 Nn121]; exact k_)) ?_
  refine own_j 6 [.null, .int 4, .int 0, .ref s', .ref a] (fun t_ k_ => XS.aconstNull X0.here hx rfl (hb hby d2_5) k_) ?_
  obtain ⟨_, _, ⟨T122, L122, k122, n122⟩, -, X122, ⟨Lc122, hQ122, l122, y122, z122⟩, st122⟩ := X0.specialBack hx (y := yn8) rfl hown (mvT hZ (ow hw 12 rfl)) (mvT hZ (ow hw 13 rfl)) (mvT hZ (ow hw 15 rfl)) (by decide) (backOf (W := 0) (rmS4j0 lL Z a0 hw [] a s' ks cs x0 x1 x2 x3 h0 n0 g_a E_a F_a_value F_a_coder A_s' nsa O Zn S_cs hcs S_ad S_hi S_lo cx0 cx1 cx2 cx3 big) hZ (ow hw 15 rfl) (ow hw 8 rfl) (by decide) (by decide)) (g := (mkF mM 6 #[.val (.ref a), .val (.ref s')] [.null, .int 4, .int 0, .ref s', .ref a])) rfl (by rw [hml]; rfl) (Steps.refl _) (a := a) (argsL := [.ref s', .int 0, .int 4, .null]) (rest := []) (lenOf pd__28_5bCIILjava_2flang_2fVoid_3b_29V rfl) rfl (by show 2 * 0 + _ ≤ _; exact Nat.le_of_eq rfl) (hb hby d2_6) (fun _ _ => ⟨rfl, e0, (by decide : 0 + 2 ≤ _), (by decide : 0 + 12 ≤ _)⟩)
  dsimp only [Pt.U, Pt.locs, Pt.cells, Pt.slots] at X122 l122 y122 z122 st122 hQ122
  subst l122 y122 z122
  obtain ⟨rfl, N122q, K122, R122⟩ := hQ122
  have N122 := Fr.app N0 N122q
  have e122 : T122.heap = T122.heap := rfl
  refine own_k T122 9 [] (fun t_ k_ => st122.trans k_) ?_
  exact own_retV X122 hx hlk hret (hb hby d2_9) ⟨rfl, N122, K122, Or.inr R122⟩ (by decide) (by decide)
theorem ef_rmC5j1 (mM : MethodId) (s' : Addr) (ks : ClassId) (d : Addr) (kd : ClassId) (x0 : Int32) (x1 : Int32) (x2 : Int32) (x3 : Int32) : entryFrame mM #[.ref s', .int 0, .ref d, .int 0, .int 4] 7 = mkF mM 0 #[.val (.ref s'), .val (.int 0), .val (.ref d), .val (.int 0), .val (.int 4), .unset, .unset] [] := by first | (simp [entryFrame, mkF, argsToLocals, Value.category]; done) | rfl
theorem rmC5j1 (lL : Launch) (Z : State) (a0 : Array Value) (hw : own_tb a0 Z) (ws : List Jvm.Cond) (s' : Addr) (ks : ClassId) (d : Addr) (kd : ClassId) (x0 : Int32) (x1 : Int32) (x2 : Int32) (x3 : Int32) (h0 : Heap) (n0 : Nat) (A_s' : Arv Z h0 s' ks .char 4 [.int x0, .int x1, .int x2, .int x3] (.int 0)) (A_d : Arv Z h0 d kd .byte 4 [.int 0, .int 0, .int 0, .int 0] (.int 0)) (g_d : n0 ≤ d) (nsd : s' ≠ d) (l0 : ¬ (255 : Int32) < x0) (big : (255 : Int32) < x1) :
    own_Ct lL Z yn6 jdk_52_method_21_code 7 (some .int) ws (⟨0, 0, 0, 0⟩ : Room) #[.ref s', .int 0, .ref d, .int 0, .int 4] h0 (QCJ d 1 h0 n0) := by
  refine own_body (plainFor_of_name pn_java_2flang_2fStringUTF16) 0 0 rfl rfl (fun mM => ef_rmC5j1 mM s' ks d kd x0 x1 x2 x3) fun pP eE sS mM below meth cC s₁ hZ hx hby hml hown hnm hret hlk X0 e0 => ?_
  have N0 := Fr.nil n0
  have Kp := Keep.refl h0 [d]
  refine o_iconst 1 0 X0 hx (hb hby d6_0) rfl rfl ?_
  let Lv123 : Array Slot := #[.val (.ref s'), .val (.int 0), .val (.ref d), .val (.int 0), .val (.int 4), .val (.int 0), .unset]
  refine own_st (A := s₁.setTop (mkF mM 3 Lv123 [])) (fun t_ k_ => XS.istore X0.here hx rfl (hb hby d6_1) rfl (l' := Lv123) rfl k_) ?_
  refine o_iload 5 X0 hx (hb hby d6_3) rfl rfl ?_
  refine o_iload 7 X0 hx (hb hby d6_5) rfl rfl ?_
  refine o_icmpNo 10 X0 hx (hb hby d6_7) (tlt (by decide : ((0 : Int32) < (4 : Int32)))).2.1 rfl ?_
  refine o_aloadN 11 X0 hx (hb hby d6_10) rfl rfl rfl ?_
  refine o_iloadN 12 X0 hx (hb hby d6_11) rfl rfl ?_
  obtain ⟨cl124, Ar124, q124, S124, Nn124, H124, G124⟩ := id A_s'
  have hin124 : ¬ ((0 : Int32) < 0 ∨ cl124.slots.size ≤ ((0 : Int32)).toNatClampNeg) := inb_of S124 ⟨by decide, by decide⟩
  refine own_j 13 [.int x0] (fun t_ k_ => X0.caload hx (j := (0 : Int32)) (v := (.int x0)) (by rw [e0]; exact Ar124.1) (State.isArrayOf_alike hZ.alike Ar124.2.1) Ar124.2.2 hin124 (H124.at hin124 rfl) (g := (mkF mM 12 Lv123 [.int 0, .ref s'])) rfl rfl (hb hby d6_12) t_ k_) ?_
  let Lv125 : Array Slot := #[.val (.ref s'), .val (.int 0), .val (.ref d), .val (.int 0), .val (.int 4), .val (.int 0), .val (.int x0)]
  refine own_st (A := s₁.setTop (mkF mM 15 Lv125 [])) (fun t_ k_ => XS.istore X0.here hx rfl (hb hby d6_13) rfl (l' := Lv125) rfl k_) ?_
  refine o_iload 17 X0 hx (hb hby d6_15) rfl rfl ?_
  refine o_sipush 20 255 X0 hx (hb hby d6_17) rfl rfl ?_
  refine o_icmpYes 26 X0 hx (hb hby d6_20) (flt l0).2.2.2 (by decide) ?_
  refine o_aloadN 27 X0 hx (hb hby d6_26) rfl rfl rfl ?_
  refine o_iloadN 28 X0 hx (hb hby d6_27) rfl rfl ?_
  refine o_iload 30 X0 hx (hb hby d6_28) rfl rfl ?_
  refine own_j 31 [(.int ((x0).toInt8.toInt32)), .int 0, .ref d] (fun t_ k_ => XS.i2b X0.here hx rfl (hb hby d6_30) rfl k_) ?_
  obtain ⟨cl126, Ar126, q126, S126, Nn126, H126, G126⟩ := id A_d
  obtain ⟨T127, h127, X127, e127, W127, st127⟩ := stB X0 hx hZ e0 Ar126 (j := (0 : Int32)) (inb_of S126 ⟨by decide, by decide⟩) (g := (mkF mM 31 Lv125 [(.int ((x0).toInt8.toInt32)), .int 0, .ref d])) rfl rfl (hb hby d6_31)
  have N127 := Fr.snoc X127 N0 g_d
  have A_s' := A_s'.other W127 nsd
  have Kp := Kp.wr W127 (Or.inl (List.mem_of_getElem? (i := 0) rfl))
  have A_d : Arv Z h127 d kd .byte 4 [(.int (((x0).toInt8.toInt32)).toInt8.toInt32), .int 0, .int 0, .int 0] (.int 0) := Arv.set Ar126 q126 S126 Nn126 H126 G126 (fits_nar_byte _) W127 0 rfl (Nat.le_of_ble_eq_true rfl)
  refine own_k T127 32 [] st127 ?_
  let Lv128 : Array Slot := #[.val (.ref s'), .val (.int 1), .val (.ref d), .val (.int 0), .val (.int 4), .val (.int 0), .val (.int x0)]
  refine own_st (A := T127.setTop (mkF mM 35 Lv128 [])) (fun t_ k_ => XS.iinc X127.here hx rfl (hb hby d6_32) rfl (l' := Lv128) rfl k_) ?_
  let Lv129 : Array Slot := #[.val (.ref s'), .val (.int 1), .val (.ref d), .val (.int 1), .val (.int 4), .val (.int 0), .val (.int x0)]
  refine own_st (A := T127.setTop (mkF mM 38 Lv129 [])) (fun t_ k_ => XS.iinc X127.here hx rfl (hb hby d6_35) rfl (l' := Lv129) rfl k_) ?_
  let Lv130 : Array Slot := #[.val (.ref s'), .val (.int 1), .val (.ref d), .val (.int 1), .val (.int 4), .val (.int 1), .val (.int x0)]
  refine own_st (A := T127.setTop (mkF mM 41 Lv130 [])) (fun t_ k_ => XS.iinc X127.here hx rfl (hb hby d6_38) rfl (l' := Lv130) rfl k_) ?_
  refine o_goto 3 X127 hx (hb hby d6_41) (by decide) ?_
  refine o_iload 5 X127 hx (hb hby d6_3) rfl rfl ?_
  refine o_iload 7 X127 hx (hb hby d6_5) rfl rfl ?_
  refine o_icmpNo 10 X127 hx (hb hby d6_7) (tlt (by decide : ((1 : Int32) < (4 : Int32)))).2.1 rfl ?_
  refine o_aloadN 11 X127 hx (hb hby d6_10) rfl rfl rfl ?_
  refine o_iloadN 12 X127 hx (hb hby d6_11) rfl rfl ?_
  obtain ⟨cl131, Ar131, q131, S131, Nn131, H131, G131⟩ := id A_s'
  have hin131 : ¬ ((1 : Int32) < 0 ∨ cl131.slots.size ≤ ((1 : Int32)).toNatClampNeg) := inb_of S131 ⟨by decide, by decide⟩
  refine own_j 13 [.int x1] (fun t_ k_ => X127.caload hx (j := (1 : Int32)) (v := (.int x1)) (by rw [e127]; exact Ar131.1) (State.isArrayOf_alike hZ.alike Ar131.2.1) Ar131.2.2 hin131 (H131.at hin131 rfl) (g := (mkF mM 12 Lv130 [.int 1, .ref s'])) rfl rfl (hb hby d6_12) t_ k_) ?_
  let Lv132 : Array Slot := #[.val (.ref s'), .val (.int 1), .val (.ref d), .val (.int 1), .val (.int 4), .val (.int 1), .val (.int x1)]
  refine own_st (A := T127.setTop (mkF mM 15 Lv132 [])) (fun t_ k_ => XS.istore X127.here hx rfl (hb hby d6_13) rfl (l' := Lv132) rfl k_) ?_
  refine o_iload 17 X127 hx (hb hby d6_15) rfl rfl ?_
  refine o_sipush 20 255 X127 hx (hb hby d6_17) rfl rfl ?_
  refine o_icmpNo 23 X127 hx (hb hby d6_20) (tlt big).2.2.2 rfl ?_
  refine o_iload 25 X127 hx (hb hby d6_23) rfl rfl ?_
  exact own_retI X127 hx hlk hret (hb hby d6_25) (by rw [e127]; exact ⟨rfl, N127, Kp⟩) (by decide) (by decide)
theorem ef_rmC3j1 (mM : MethodId) (s' : Addr) (ks : ClassId) (x0 : Int32) (x1 : Int32) (x2 : Int32) (x3 : Int32) : entryFrame mM #[.ref s', .int 0, .int 4] 6 = mkF mM 0 #[.val (.ref s'), .val (.int 0), .val (.int 4), .unset, .unset, .unset] [] := by first | (simp [entryFrame, mkF, argsToLocals, Value.category]; done) | rfl
theorem rmC3j1 (lL : Launch) (Z : State) (a0 : Array Value) (hw : own_tb a0 Z) (ws : List Jvm.Cond) (s' : Addr) (ks : ClassId) (x0 : Int32) (x1 : Int32) (x2 : Int32) (x3 : Int32) (h0 : Heap) (n0 : Nat) (A_s' : Arv Z h0 s' ks .char 4 [.int x0, .int x1, .int x2, .int x3] (.int 0)) (O : Old Z n0 h0) (Zn : n0 ≤ h0.size) (S_ad : Sta Z Z.heap "java/lang/StringUTF16" "$assertionsDisabled" "Z" (.int 1)) (S_hi : Sta Z Z.heap "java/lang/StringUTF16" "HI_BYTE_SHIFT" "I" (.int 0)) (S_lo : Sta Z Z.heap "java/lang/StringUTF16" "LO_BYTE_SHIFT" "I" (.int 8)) (cx0 : nar .char x0 = x0) (cx1 : nar .char x1 = x1) (cx2 : nar .char x2 = x2) (cx3 : nar .char x3 = x3) (l0 : ¬ (255 : Int32) < x0) (big : (255 : Int32) < x1) :
    own_Ct lL Z yn7 jdk_52_method_16_code 6 (some (.array .byte)) ws (⟨3, 2, 12, 40⟩ : Room) #[.ref s', .int 0, .int 4] h0 (QC3 Z 8 [(.int (lo8 x0)), (.int (hi8 x0)), (.int (lo8 x1)), (.int (hi8 x1)), (.int (lo8 x2)), (.int (hi8 x2)), (.int (lo8 x3)), (.int (hi8 x3))] h0 n0) := by
  refine own_body (plainFor_of_name pn_java_2flang_2fStringUTF16) 2 12 rfl rfl (fun mM => ef_rmC3j1 mM s' ks x0 x1 x2 x3) fun pP eE sS mM below meth cC s₁ hZ hx hby hml hown hnm hret hlk X0 e0 => ?_
  have N0 := Fr.nil n0
  have Kp := Keep.refl h0 []
  refine o_iloadN 1 X0 hx (hb hby d5_0) rfl rfl ?_
  obtain ⟨T133, h133, k133, X133, e133, E133, A133, st133⟩ := newP X0 hx hZ (ow hw 24 rfl) e0 (g := (mkF mM 1 #[.val (.ref s'), .val (.int 0), .val (.int 4), .unset, .unset, .unset] [.int 4])) rfl (hb hby d5_1) rfl (by decide) (cap := 4) (by decide) (by decide) (by decide) (by decide)
  obtain ⟨b133, g133⟩ : ∃ z, z = h0.size := ⟨_, rfl⟩
  rw [← g133] at A133 st133
  have ne_s'_b133 : s' ≠ b133 := Nat.ne_of_lt (Nat.lt_of_lt_of_le A_s'.lt (Nat.le_of_eq g133.symm))
  have g_b133 : n0 ≤ b133 := Nat.le_trans Zn (Nat.le_of_eq g133.symm)
  have b_b133 : h0.size ≤ b133 := Nat.le_trans Kp.1 (Nat.le_of_eq g133.symm)
  have O := O.ext E133
  have A_s' := A_s'.ext E133
  have Zn := Nat.le_trans Zn E133.1
  have Kp := Kp.ext E133
  have A_b133 : Arv Z h133 b133 k133 .byte 4 [.int 0, .int 0, .int 0, .int 0] (.int 0) := (Arv.new A133 (by decide)).pad (pad_rep [] (.int 0) 4)
  refine own_k T133 3 [.ref b133] st133 ?_
  let Lv134 : Array Slot := #[.val (.ref s'), .val (.int 0), .val (.int 4), .val (.ref b133), .unset, .unset]
  refine own_st (A := T133.setTop (mkF mM 4 Lv134 [])) (fun t_ k_ => XS.astoreN X133.here hx rfl (hb hby d5_3) rfl rfl (l' := Lv134) rfl k_) ?_
  refine o_aloadN 5 X133 hx (hb hby d5_4) rfl rfl rfl ?_
  refine o_iloadN 6 X133 hx (hb hby d5_5) rfl rfl ?_
  refine o_aloadN 7 X133 hx (hb hby d5_6) rfl rfl rfl ?_
  refine o_iconst 8 0 X133 hx (hb hby d5_7) rfl rfl ?_
  refine o_iloadN 9 X133 hx (hb hby d5_8) rfl rfl ?_
  obtain ⟨_, _, ⟨T135, L135, k135, n135⟩, -, X135, ⟨Lc135, hQ135, l135, y135, z135⟩, st135⟩ := Jvm.LawKit.callS X133 hx (y := yn6) hown (mvT hZ (ow hw 25 rfl)) (mvT hZ (ow hw 26 rfl)) (mvT hZ (ow hw 22 rfl)) (mvT hZ (ow hw 27 rfl)) (by decide) (backOf (W := 0) (rmC5j1 lL Z a0 hw [] s' ks b133 k133 x0 x1 x2 x3 h133 n0 A_s' A_b133 g_b133 ne_s'_b133 l0 big) hZ (ow hw 27 rfl) (ow hw 22 rfl) (by decide) (by decide)) (g := (mkF mM 9 Lv134 [.int 4, .int 0, .ref b133, .int 0, .ref s'])) rfl (by rw [hml]; rfl) (argsL := [.ref s', .int 0, .ref b133, .int 0, .int 4]) (rest := []) (lenOf pd__28_5bCI_5bBII_29I rfl) rfl (by show 2 * 0 + _ ≤ _; exact Nat.le_of_eq rfl) (hb hby d5_9) (fun _ _ => ⟨rfl, e133, (by decide : 1 + 0 ≤ _), (by decide : 4 + 0 ≤ _)⟩)
  dsimp only [Pt.U, Pt.locs, Pt.cells, Pt.slots] at X135 l135 y135 z135 st135 hQ135
  subst l135 y135 z135
  obtain ⟨rfl, N135q, K135⟩ := hQ135
  have N135 := Fr.app N0 N135q
  have e135 : T135.heap = T135.heap := rfl
  refine own_k T135 12 [.int 1] st135 ?_
  have A_s' := A_s'.keep K135 (ninS ne_s'_b133 nin0)
  have O := O.keep K135 (allS g_b133 all0)
  have Zn := Nat.le_trans Zn K135.1
  have Kp := Kp.trans K135 (allS (Or.inr b_b133) all0)
  let Lv136 : Array Slot := #[.val (.ref s'), .val (.int 0), .val (.int 4), .val (.ref b133), .val (.int 1), .unset]
  refine own_st (A := T135.setTop (mkF mM 14 Lv136 [])) (fun t_ k_ => XS.istore X135.here hx rfl (hb hby d5_12) rfl (l' := Lv136) rfl k_) ?_
  refine o_iload 16 X135 hx (hb hby d5_14) rfl rfl ?_
  refine o_iloadN 17 X135 hx (hb hby d5_16) rfl rfl ?_
  refine o_icmpNo 20 X135 hx (hb hby d5_17) (feq (by decide : ¬ ((1 : Int32) = (4 : Int32)))).1 rfl ?_
  refine o_aloadN 21 X135 hx (hb hby d5_20) rfl rfl rfl ?_
  refine o_iloadN 22 X135 hx (hb hby d5_21) rfl rfl ?_
  refine o_iloadN 23 X135 hx (hb hby d5_22) rfl rfl ?_
  obtain ⟨_, _, ⟨T137, L137, k137, n137⟩, -, X137, ⟨Lc137, hQ137, l137, y137, z137⟩, st137⟩ := Jvm.LawKit.callS X135 hx (y := yn3) hown (mvT hZ (ow hw 65 rfl)) (mvT hZ (ow hw 66 rfl)) (mvT hZ (ow hw 22 rfl)) (mvT hZ (ow hw 67 rfl)) (by decide) (backOf (W := 0) (rmTB lL Z a0 hw [] s' ks x0 x1 x2 x3 T135.heap n0 A_s' O Zn S_ad S_hi S_lo) hZ (ow hw 67 rfl) (ow hw 22 rfl) (by decide) (by decide)) (g := (mkF mM 23 Lv136 [.int 4, .int 0, .ref s'])) rfl (by rw [hml]; rfl) (argsL := [.ref s', .int 0, .int 4]) (rest := []) (lenOf pd__28_5bCII_29_5bB rfl) rfl (by show 2 * 0 + _ ≤ _; exact Nat.le_of_eq rfl) (hb hby d5_23) (fun _ _ => ⟨rfl, e135, (by decide : 1 + 1 ≤ _), (by decide : 4 + 8 ≤ _)⟩)
  dsimp only [Pt.U, Pt.locs, Pt.cells, Pt.slots] at X137 l137 y137 z137 st137 hQ137
  subst l137 y137 z137
  obtain ⟨b137, k137', rfl, N137q, E137, V137, ge137⟩ := hQ137
  have N137 := Fr.app N135 N137q
  have e137 : T137.heap = T137.heap := rfl
  refine own_k T137 26 [.ref b137] st137 ?_
  have b_b137 : h0.size ≤ b137 := Nat.le_trans Kp.1 ge137
  have O := O.ext E137
  have A_s' := A_s'.ext E137
  have Zn := Nat.le_trans Zn E137.1
  have Kp := Kp.ext E137
  have A_b137 := V137
  let Lv138 : Array Slot := #[.val (.ref s'), .val (.int 0), .val (.int 4), .val (.ref b133), .val (.int 1), .val (.ref b137)]
  refine own_st (A := T137.setTop (mkF mM 28 Lv138 [])) (fun t_ k_ => XS.astore X137.here hx rfl (hb hby d5_26) rfl rfl (l' := Lv138) rfl k_) ?_
  refine o_aload 30 X137 hx (hb hby d5_28) rfl rfl rfl ?_
  refine o_iload 32 X137 hx (hb hby d5_30) rfl rfl ?_
  obtain ⟨_, _, ⟨T139, L139, k139, n139⟩, -, X139, ⟨Lc139, hQ139, l139, y139, z139⟩, st139⟩ := Jvm.LawKit.callS X137 hx (y := yn4) hown (mvT hZ (ow hw 81 rfl)) (mvT hZ (ow hw 82 rfl)) (mvT hZ (ow hw 22 rfl)) (mvT hZ (ow hw 83 rfl)) (by decide) (backOf (W := 0) (rmGC1 lL Z a0 hw [] b137 k137' x0 x1 x2 x3 T137.heap n0 A_b137 O S_ad S_hi S_lo cx1) hZ (ow hw 83 rfl) (ow hw 22 rfl) (by decide) (by decide)) (g := (mkF mM 32 Lv138 [.int 1, .ref b137])) rfl (by rw [hml]; rfl) (argsL := [.ref b137, .int 1]) (rest := []) (lenOf pd__28_5bBI_29C rfl) rfl (by show 2 * 0 + _ ≤ _; exact Nat.le_of_eq rfl) (hb hby d5_32) (fun _ _ => ⟨rfl, e137, (by decide : 2 + 0 ≤ _), (by decide : 12 + 0 ≤ _)⟩)
  dsimp only [Pt.U, Pt.locs, Pt.cells, Pt.slots] at X139 l139 y139 z139 st139 hQ139
  subst l139 y139 z139
  obtain ⟨rfl, N139q, e139⟩ := hQ139
  have N139 := Fr.app N137 N139q
  refine own_k T139 35 [.int x1] st139 ?_
  refine o_sipush 38 255 X139 hx (hb hby d5_35) rfl rfl ?_
  refine o_icmpYes 54 X139 hx (hb hby d5_38) (tlt big).2.2.1 (by decide) ?_
  refine o_aload 56 X139 hx (hb hby d5_54) rfl rfl rfl ?_
  exact own_retA X139 hx hlk hret rfl rfl (hb hby d5_56) (by rw [e139]; exact ⟨_, _, rfl, N139, own_ext_of_keep Kp, A_b137, b_b137⟩) (by decide) (by decide)
theorem ef_rmS4j1 (mM : MethodId) (a : Addr) (s' : Addr) (ks : ClassId) (cs : Int32) (x0 : Int32) (x1 : Int32) (x2 : Int32) (x3 : Int32) : entryFrame mM #[.ref a, .ref s', .int 0, .int 4, .null] 6 = mkF mM 0 #[.val (.ref a), .val (.ref s'), .val (.int 0), .val (.int 4), .val .null, .unset] [] := by first | (simp [entryFrame, mkF, argsToLocals, Value.category]; done) | rfl
theorem rmS4j1 (lL : Launch) (Z : State) (a0 : Array Value) (hw : own_tb a0 Z) (ws : List Jvm.Cond) (a : Addr) (s' : Addr) (ks : ClassId) (cs : Int32) (x0 : Int32) (x1 : Int32) (x2 : Int32) (x3 : Int32) (h0 : Heap) (n0 : Nat) (g_a : n0 ≤ a) (E_a : Exa Z h0 a "java/lang/String") (F_a_value : Fld Z h0 a "java/lang/String" "value" "[B" .null) (F_a_coder : Fld Z h0 a "java/lang/String" "coder" "B" (.int 0)) (A_s' : Arv Z h0 s' ks .char 4 [.int x0, .int x1, .int x2, .int x3] (.int 0)) (nsa : s' ≠ a) (O : Old Z n0 h0) (Zn : n0 ≤ h0.size) (S_cs : Sta Z Z.heap "java/lang/String" "COMPACT_STRINGS" "Z" (.int cs)) (hcs : ¬ cs = (0 : Int32)) (S_ad : Sta Z Z.heap "java/lang/StringUTF16" "$assertionsDisabled" "Z" (.int 1)) (S_hi : Sta Z Z.heap "java/lang/StringUTF16" "HI_BYTE_SHIFT" "I" (.int 0)) (S_lo : Sta Z Z.heap "java/lang/StringUTF16" "LO_BYTE_SHIFT" "I" (.int 8)) (cx0 : nar .char x0 = x0) (cx1 : nar .char x1 = x1) (cx2 : nar .char x2 = x2) (cx3 : nar .char x3 = x3) (l0 : ¬ (255 : Int32) < x0) (big : (255 : Int32) < x1) :
    own_Ct lL Z yn8 jdk_42_method_149_code 6 none ws (⟨4, 2, 12, 57⟩ : Room) #[.ref a, .ref s', .int 0, .int 4, .null] h0 (QSU Z a x0 x1 x2 x3 h0 n0) := by
  refine own_body (plainFor_of_name pn_java_2flang_2fString) 2 12 rfl rfl (fun mM => ef_rmS4j1 mM a s' ks cs x0 x1 x2 x3) fun pP eE sS mM below meth cC s₁ hZ hx hby hml hown hnm hret hlk X0 e0 => ?_
  have N0 := Fr.nil n0
  have Kp := Keep.refl h0 [a]
  refine o_aloadN 1 X0 hx (hb hby d3_0) rfl rfl rfl ?_
  obtain ⟨T140, X140, e140, st140⟩ := initO X0 hx hZ hown (ow hw 16 rfl) (ow hw 17 rfl) (ow hw 18 rfl) e0 (g := (mkF mM 1 #[.val (.ref a), .val (.ref s'), .val (.int 0), .val (.int 4), .val .null, .unset] [.ref a])) rfl (by rw [hml]; rfl) rfl (hb hby d3_1) (by decide) (W := 0) (by show 2 * 0 + _ ≤ _; exact Nat.le_of_eq rfl) (by decide)
  refine own_k T140 4 [] st140 ?_
  refine o_iloadN 5 X140 hx (hb hby d3_4) rfl rfl ?_
  refine o_ifYes 27 X140 hx (hb hby d3_5) ((if0 _ _).trans (feq (by decide : ¬ ((4 : Int32) = (0 : Int32)))).2) (by decide) ?_
  obtain ⟨T141, X141, e141, st141⟩ := getS2 X140 hx hZ hown (host := "") (Or.inl (ow hw 19 rfl)) Via.refl e140 (S_cs.ext O.2) (g := (mkF mM 27 #[.val (.ref a), .val (.ref s'), .val (.int 0), .val (.int 4), .val .null, .unset] [])) rfl (hb hby d3_27)
  refine own_k T141 30 [.int cs] st141 ?_
  refine o_ifNo 33 X141 hx (hb hby d3_30) ((if0 _ _).trans (feq hcs).1) rfl ?_
  refine o_aloadN 34 X141 hx (hb hby d3_33) rfl rfl rfl ?_
  refine o_iloadN 35 X141 hx (hb hby d3_34) rfl rfl ?_
  refine o_iloadN 36 X141 hx (hb hby d3_35) rfl rfl ?_
  obtain ⟨_, _, ⟨T142, L142, k142, n142⟩, -, X142, ⟨Lc142, hQ142, l142, y142, z142⟩, st142⟩ := Jvm.LawKit.callS X141 hx (y := yn7) hown (mvT hZ (ow hw 20 rfl)) (mvT hZ (ow hw 21 rfl)) (mvT hZ (ow hw 22 rfl)) (mvT hZ (ow hw 23 rfl)) (by decide) (backOf (W := 0) (rmC3j1 lL Z a0 hw [] s' ks x0 x1 x2 x3 h0 n0 A_s' O Zn S_ad S_hi S_lo cx0 cx1 cx2 cx3 l0 big) hZ (ow hw 23 rfl) (ow hw 22 rfl) (by decide) (by decide)) (g := (mkF mM 36 #[.val (.ref a), .val (.ref s'), .val (.int 0), .val (.int 4), .val .null, .unset] [.int 4, .int 0, .ref s'])) rfl (by rw [hml]; rfl) (argsL := [.ref s', .int 0, .int 4]) (rest := []) (lenOf pd__28_5bCII_29_5bB rfl) rfl (by show 2 * 0 + _ ≤ _; exact Nat.le_of_eq rfl) (hb hby d3_36) (fun _ _ => ⟨rfl, e141, (by decide : 0 + 2 ≤ _), (by decide : 0 + 12 ≤ _)⟩)
  dsimp only [Pt.U, Pt.locs, Pt.cells, Pt.slots] at X142 l142 y142 z142 st142 hQ142
  subst l142 y142 z142
  obtain ⟨b142, k142', rfl, N142q, E142, V142, ge142⟩ := hQ142
  have N142 := Fr.app N0 N142q
  have e142 : T142.heap = T142.heap := rfl
  refine own_k T142 39 [.ref b142] st142 ?_
  have ne_a_b142 : a ≠ b142 := Nat.ne_of_lt (Nat.lt_of_lt_of_le E_a.lt ge142)
  have F_a_value := F_a_value.ext E142
  have F_a_coder := F_a_coder.ext E142
  have E_a := E_a.ext E142
  have O := O.ext E142
  have A_s' := A_s'.ext E142
  have Zn := Nat.le_trans Zn E142.1
  have Kp := Kp.ext E142
  have A_b142 := V142
  let Lv143 : Array Slot := #[.val (.ref a), .val (.ref s'), .val (.int 0), .val (.int 4), .val .null, .val (.ref b142)]
  refine own_st (A := T142.setTop (mkF mM 41 Lv143 [])) (fun t_ k_ => XS.astore X142.here hx rfl (hb hby d3_39) rfl rfl (l' := Lv143) rfl k_) ?_
  refine o_aloadN 42 X142 hx (hb hby d3_41) rfl rfl rfl ?_
  refine o_aload 44 X142 hx (hb hby d3_42) rfl rfl rfl ?_
  refine o_iloadN 45 X142 hx (hb hby d3_44) rfl rfl ?_
  obtain ⟨_, _, ⟨T144, L144, k144, n144⟩, -, X144, ⟨Lc144, hQ144, l144, y144, z144⟩, st144⟩ := Jvm.LawKit.callS X142 hx (y := yn5) hown (mvT hZ (ow hw 28 rfl)) (mvT hZ (ow hw 29 rfl)) (mvT hZ (ow hw 22 rfl)) (mvT hZ (ow hw 30 rfl)) (by decide) (backOf (W := 1) (rmCoU lL Z a0 hw [] b142 k142' x0 x1 x2 x3 T142.heap n0 A_b142) hZ (ow hw 30 rfl) (ow hw 22 rfl) (by decide) (by decide)) (g := (mkF mM 45 Lv143 [.int 4, .ref b142, .ref a])) rfl (by rw [hml]; rfl) (argsL := [.ref b142, .int 4]) (rest := [.ref a]) (lenOf pd__28_5bBI_29B rfl) rfl (by show 2 * 0 + _ ≤ _; exact Nat.le_of_eq rfl) (hb hby d3_45) (fun _ _ => ⟨rfl, e142, (by decide : 2 + 0 ≤ _), (by decide : 12 + 0 ≤ _)⟩)
  dsimp only [Pt.U, Pt.locs, Pt.cells, Pt.slots] at X144 l144 y144 z144 st144 hQ144
  subst l144 y144 z144
  obtain ⟨rfl, N144q, e144⟩ := hQ144
  have N144 := Fr.app N142 N144q
  refine own_k T144 48 [.int 1, .ref a] st144 ?_
  obtain ⟨T145, h145, X145, e145, W145, st145⟩ := putFN X144 hx hZ hown (ow hw 31 rfl) Via.refl e144 F_a_coder E_a (Or.inr ⟨(ow hw 32 rfl), rfl, hnm⟩) (ow hw 7 rfl) (ty := .byte) (v' := (.int 1)) (by decide) rfl (by decide) (g := (mkF mM 48 Lv143 [.int 1, .ref a])) rfl rfl (hb hby d3_48)
  have N145 := Fr.snoc X145 N144 g_a
  have F_a_value := F_a_value.other W145 (Or.inr (slot_ne (Or.inr (ow hw 34 rfl)) (Or.inr (ow hw 32 rfl)) (by decide) (t := (.array .byte)) (t' := .byte) (by decide) (by decide)))
  have F_a_coder := F_a_coder.same W145
  have E_a := E_a.wr W145
  have A_s' := A_s'.other W145 nsa
  have A_b142 := A_b142.other W145 (Ne.symm ne_a_b142)
  have O := O.wr W145 g_a
  have Zn := Nat.le_trans Zn (Keep.of_wr W145).1
  have Kp := Kp.wr W145 (Or.inl (List.mem_of_getElem? (i := 0) rfl))
  refine own_k T145 51 [] st145 ?_
  refine o_aloadN 52 X145 hx (hb hby d3_51) rfl rfl rfl ?_
  refine o_aload 54 X145 hx (hb hby d3_52) rfl rfl rfl ?_
  obtain ⟨T146, h146, X146, e146, W146, st146⟩ := putF X145 hx hZ hown (host := "") (Or.inl (ow hw 33 rfl)) Via.refl e145 F_a_value E_a (Or.inr ⟨(ow hw 34 rfl), rfl, hnm⟩) (ow hw 7 rfl) (ty := (.array .byte)) (by decide) rfl rfl (g := (mkF mM 54 Lv143 [.ref b142, .ref a])) rfl rfl (hb hby d3_54)
  have N146 := Fr.snoc X146 N145 g_a
  have F_a_value := F_a_value.same W146
  have F_a_coder := F_a_coder.other W146 (Or.inr (slot_ne (Or.inr (ow hw 32 rfl)) (Or.inr (ow hw 34 rfl)) (by decide) (t := .byte) (t' := (.array .byte)) (by decide) (by decide)))
  have E_a := E_a.wr W146
  have A_s' := A_s'.other W146 nsa
  have A_b142 := A_b142.other W146 (Ne.symm ne_a_b142)
  have O := O.wr W146 g_a
  have Zn := Nat.le_trans Zn (Keep.of_wr W146).1
  have Kp := Kp.wr W146 (Or.inl (List.mem_of_getElem? (i := 0) rfl))
  refine own_k T146 57 [] st146 ?_
  exact own_retV X146 hx hlk hret (hb hby d3_57) (by rw [e146]; exact ⟨rfl, N146, Kp, _, _, E_a, F_a_value, F_a_coder, A_b142⟩) (by decide) (by decide)
theorem ef_rmS1j1 (mM : MethodId) (a : Addr) (s' : Addr) (ks : ClassId) (cs : Int32) (x0 : Int32) (x1 : Int32) (x2 : Int32) (x3 : Int32) : entryFrame mM #[.ref a, .ref s'] 2 = mkF mM 0 #[.val (.ref a), .val (.ref s')] [] := by first | (simp [entryFrame, mkF, argsToLocals, Value.category]; done) | rfl
theorem rmS1j1 (lL : Launch) (Z : State) (a0 : Array Value) (hw : own_tb a0 Z) (ws : List Jvm.Cond) (a : Addr) (s' : Addr) (ks : ClassId) (cs : Int32) (x0 : Int32) (x1 : Int32) (x2 : Int32) (x3 : Int32) (h0 : Heap) (n0 : Nat) (g_a : n0 ≤ a) (E_a : Exa Z h0 a "java/lang/String") (F_a_value : Fld Z h0 a "java/lang/String" "value" "[B" .null) (F_a_coder : Fld Z h0 a "java/lang/String" "coder" "B" (.int 0)) (A_s' : Arv Z h0 s' ks .char 4 [.int x0, .int x1, .int x2, .int x3] (.int 0)) (nsa : s' ≠ a) (O : Old Z n0 h0) (Zn : n0 ≤ h0.size) (S_cs : Sta Z Z.heap "java/lang/String" "COMPACT_STRINGS" "Z" (.int cs)) (hcs : ¬ cs = (0 : Int32)) (S_ad : Sta Z Z.heap "java/lang/StringUTF16" "$assertionsDisabled" "Z" (.int 1)) (S_hi : Sta Z Z.heap "java/lang/StringUTF16" "HI_BYTE_SHIFT" "I" (.int 0)) (S_lo : Sta Z Z.heap "java/lang/StringUTF16" "LO_BYTE_SHIFT" "I" (.int 8)) (cx0 : nar .char x0 = x0) (cx1 : nar .char x1 = x1) (cx2 : nar .char x2 = x2) (cx3 : nar .char x3 = x3) (l0 : ¬ (255 : Int32) < x0) (big : (255 : Int32) < x1) :
    own_Ct lL Z yn9 jdk_42_method_3_code 2 none ws (⟨5, 2, 12, 74⟩ : Room) #[.ref a, .ref s'] h0 (QSC Z a x0 x1 x2 x3 h0 n0) := by
  refine own_body (plainFor_of_name pn_java_2flang_2fString) 2 12 rfl rfl (fun mM => ef_rmS1j1 mM a s' ks cs x0 x1 x2 x3) fun pP eE sS mM below meth cC s₁ hZ hx hby hml hown hnm hret hlk X0 e0 => ?_
  have N0 := Fr.nil n0
  refine o_aloadN 1 X0 hx (hb hby d2_0) rfl rfl rfl ?_
  refine o_aloadN 2 X0 hx (hb hby d2_1) rfl rfl rfl ?_
  refine o_iconst 3 0 X0 hx (hb hby d2_2) rfl rfl ?_
  refine o_aloadN 4 X0 hx (hb hby d2_3) rfl rfl rfl ?_
  obtain ⟨cl147, Ar147, q147, S147, Nn147, H147, G147⟩ := id A_s'
  refine own_j 5 [.int 4, .int 0, .ref s', .ref a] (fun t_ k_ => X0.arraylength hx (by rw [e0]; exact Ar147.1) (State.isArrayOf_alike hZ.alike Ar147.2.1) (g := (mkF mM 4 #[.val (.ref a), .val (.ref s')] [.ref s', .int 0, .ref s', .ref a])) rfl rfl (hb hby d2_4) t_ (by rw [len_of S147 Nn147]; exact k_)) ?_
  refine own_j 6 [.null, .int 4, .int 0, .ref s', .ref a] (fun t_ k_ => XS.aconstNull X0.here hx rfl (hb hby d2_5) k_) ?_
  obtain ⟨_, _, ⟨T148, L148, k148, n148⟩, -, X148, ⟨Lc148, hQ148, l148, y148, z148⟩, st148⟩ := X0.specialBack hx (y := yn8) rfl hown (mvT hZ (ow hw 12 rfl)) (mvT hZ (ow hw 13 rfl)) (mvT hZ (ow hw 15 rfl)) (by decide) (backOf (W := 0) (rmS4j1 lL Z a0 hw [] a s' ks cs x0 x1 x2 x3 h0 n0 g_a E_a F_a_value F_a_coder A_s' nsa O Zn S_cs hcs S_ad S_hi S_lo cx0 cx1 cx2 cx3 l0 big) hZ (ow hw 15 rfl) (ow hw 8 rfl) (by decide) (by decide)) (g := (mkF mM 6 #[.val (.ref a), .val (.ref s')] [.null, .int 4, .int 0, .ref s', .ref a])) rfl (by rw [hml]; rfl) (Steps.refl _) (a := a) (argsL := [.ref s', .int 0, .int 4, .null]) (rest := []) (lenOf pd__28_5bCIILjava_2flang_2fVoid_3b_29V rfl) rfl (by show 2 * 0 + _ ≤ _; exact Nat.le_of_eq rfl) (hb hby d2_6) (fun _ _ => ⟨rfl, e0, (by decide : 0 + 2 ≤ _), (by decide : 0 + 12 ≤ _)⟩)
  dsimp only [Pt.U, Pt.locs, Pt.cells, Pt.slots] at X148 l148 y148 z148 st148 hQ148
  subst l148 y148 z148
  obtain ⟨rfl, N148q, K148, R148⟩ := hQ148
  have N148 := Fr.app N0 N148q
  have e148 : T148.heap = T148.heap := rfl
  refine own_k T148 9 [] (fun t_ k_ => st148.trans k_) ?_
  exact own_retV X148 hx hlk hret (hb hby d2_9) ⟨rfl, N148, K148, Or.inr R148⟩ (by decide) (by decide)
theorem ef_rmC5j2 (mM : MethodId) (s' : Addr) (ks : ClassId) (d : Addr) (kd : ClassId) (x0 : Int32) (x1 : Int32) (x2 : Int32) (x3 : Int32) : entryFrame mM #[.ref s', .int 0, .ref d, .int 0, .int 4] 7 = mkF mM 0 #[.val (.ref s'), .val (.int 0), .val (.ref d), .val (.int 0), .val (.int 4), .unset, .unset] [] := by first | (simp [entryFrame, mkF, argsToLocals, Value.category]; done) | rfl
theorem rmC5j2 (lL : Launch) (Z : State) (a0 : Array Value) (hw : own_tb a0 Z) (ws : List Jvm.Cond) (s' : Addr) (ks : ClassId) (d : Addr) (kd : ClassId) (x0 : Int32) (x1 : Int32) (x2 : Int32) (x3 : Int32) (h0 : Heap) (n0 : Nat) (A_s' : Arv Z h0 s' ks .char 4 [.int x0, .int x1, .int x2, .int x3] (.int 0)) (A_d : Arv Z h0 d kd .byte 4 [.int 0, .int 0, .int 0, .int 0] (.int 0)) (g_d : n0 ≤ d) (nsd : s' ≠ d) (l0 : ¬ (255 : Int32) < x0) (l1 : ¬ (255 : Int32) < x1) (big : (255 : Int32) < x2) :
    own_Ct lL Z yn6 jdk_52_method_21_code 7 (some .int) ws (⟨0, 0, 0, 0⟩ : Room) #[.ref s', .int 0, .ref d, .int 0, .int 4] h0 (QCJ d 2 h0 n0) := by
  refine own_body (plainFor_of_name pn_java_2flang_2fStringUTF16) 0 0 rfl rfl (fun mM => ef_rmC5j2 mM s' ks d kd x0 x1 x2 x3) fun pP eE sS mM below meth cC s₁ hZ hx hby hml hown hnm hret hlk X0 e0 => ?_
  have N0 := Fr.nil n0
  have Kp := Keep.refl h0 [d]
  refine o_iconst 1 0 X0 hx (hb hby d6_0) rfl rfl ?_
  let Lv149 : Array Slot := #[.val (.ref s'), .val (.int 0), .val (.ref d), .val (.int 0), .val (.int 4), .val (.int 0), .unset]
  refine own_st (A := s₁.setTop (mkF mM 3 Lv149 [])) (fun t_ k_ => XS.istore X0.here hx rfl (hb hby d6_1) rfl (l' := Lv149) rfl k_) ?_
  refine o_iload 5 X0 hx (hb hby d6_3) rfl rfl ?_
  refine o_iload 7 X0 hx (hb hby d6_5) rfl rfl ?_
  refine o_icmpNo 10 X0 hx (hb hby d6_7) (tlt (by decide : ((0 : Int32) < (4 : Int32)))).2.1 rfl ?_
  refine o_aloadN 11 X0 hx (hb hby d6_10) rfl rfl rfl ?_
  refine o_iloadN 12 X0 hx (hb hby d6_11) rfl rfl ?_
  obtain ⟨cl150, Ar150, q150, S150, Nn150, H150, G150⟩ := id A_s'
  have hin150 : ¬ ((0 : Int32) < 0 ∨ cl150.slots.size ≤ ((0 : Int32)).toNatClampNeg) := inb_of S150 ⟨by decide, by decide⟩
  refine own_j 13 [.int x0] (fun t_ k_ => X0.caload hx (j := (0 : Int32)) (v := (.int x0)) (by rw [e0]; exact Ar150.1) (State.isArrayOf_alike hZ.alike Ar150.2.1) Ar150.2.2 hin150 (H150.at hin150 rfl) (g := (mkF mM 12 Lv149 [.int 0, .ref s'])) rfl rfl (hb hby d6_12) t_ k_) ?_
  let Lv151 : Array Slot := #[.val (.ref s'), .val (.int 0), .val (.ref d), .val (.int 0), .val (.int 4), .val (.int 0), .val (.int x0)]
  refine own_st (A := s₁.setTop (mkF mM 15 Lv151 [])) (fun t_ k_ => XS.istore X0.here hx rfl (hb hby d6_13) rfl (l' := Lv151) rfl k_) ?_
  refine o_iload 17 X0 hx (hb hby d6_15) rfl rfl ?_
  refine o_sipush 20 255 X0 hx (hb hby d6_17) rfl rfl ?_
  refine o_icmpYes 26 X0 hx (hb hby d6_20) (flt l0).2.2.2 (by decide) ?_
  refine o_aloadN 27 X0 hx (hb hby d6_26) rfl rfl rfl ?_
  refine o_iloadN 28 X0 hx (hb hby d6_27) rfl rfl ?_
  refine o_iload 30 X0 hx (hb hby d6_28) rfl rfl ?_
  refine own_j 31 [(.int ((x0).toInt8.toInt32)), .int 0, .ref d] (fun t_ k_ => XS.i2b X0.here hx rfl (hb hby d6_30) rfl k_) ?_
  obtain ⟨cl152, Ar152, q152, S152, Nn152, H152, G152⟩ := id A_d
  obtain ⟨T153, h153, X153, e153, W153, st153⟩ := stB X0 hx hZ e0 Ar152 (j := (0 : Int32)) (inb_of S152 ⟨by decide, by decide⟩) (g := (mkF mM 31 Lv151 [(.int ((x0).toInt8.toInt32)), .int 0, .ref d])) rfl rfl (hb hby d6_31)
  have N153 := Fr.snoc X153 N0 g_d
  have A_s' := A_s'.other W153 nsd
  have Kp := Kp.wr W153 (Or.inl (List.mem_of_getElem? (i := 0) rfl))
  have A_d : Arv Z h153 d kd .byte 4 [(.int (((x0).toInt8.toInt32)).toInt8.toInt32), .int 0, .int 0, .int 0] (.int 0) := Arv.set Ar152 q152 S152 Nn152 H152 G152 (fits_nar_byte _) W153 0 rfl (Nat.le_of_ble_eq_true rfl)
  refine own_k T153 32 [] st153 ?_
  let Lv154 : Array Slot := #[.val (.ref s'), .val (.int 1), .val (.ref d), .val (.int 0), .val (.int 4), .val (.int 0), .val (.int x0)]
  refine own_st (A := T153.setTop (mkF mM 35 Lv154 [])) (fun t_ k_ => XS.iinc X153.here hx rfl (hb hby d6_32) rfl (l' := Lv154) rfl k_) ?_
  let Lv155 : Array Slot := #[.val (.ref s'), .val (.int 1), .val (.ref d), .val (.int 1), .val (.int 4), .val (.int 0), .val (.int x0)]
  refine own_st (A := T153.setTop (mkF mM 38 Lv155 [])) (fun t_ k_ => XS.iinc X153.here hx rfl (hb hby d6_35) rfl (l' := Lv155) rfl k_) ?_
  let Lv156 : Array Slot := #[.val (.ref s'), .val (.int 1), .val (.ref d), .val (.int 1), .val (.int 4), .val (.int 1), .val (.int x0)]
  refine own_st (A := T153.setTop (mkF mM 41 Lv156 [])) (fun t_ k_ => XS.iinc X153.here hx rfl (hb hby d6_38) rfl (l' := Lv156) rfl k_) ?_
  refine o_goto 3 X153 hx (hb hby d6_41) (by decide) ?_
  refine o_iload 5 X153 hx (hb hby d6_3) rfl rfl ?_
  refine o_iload 7 X153 hx (hb hby d6_5) rfl rfl ?_
  refine o_icmpNo 10 X153 hx (hb hby d6_7) (tlt (by decide : ((1 : Int32) < (4 : Int32)))).2.1 rfl ?_
  refine o_aloadN 11 X153 hx (hb hby d6_10) rfl rfl rfl ?_
  refine o_iloadN 12 X153 hx (hb hby d6_11) rfl rfl ?_
  obtain ⟨cl157, Ar157, q157, S157, Nn157, H157, G157⟩ := id A_s'
  have hin157 : ¬ ((1 : Int32) < 0 ∨ cl157.slots.size ≤ ((1 : Int32)).toNatClampNeg) := inb_of S157 ⟨by decide, by decide⟩
  refine own_j 13 [.int x1] (fun t_ k_ => X153.caload hx (j := (1 : Int32)) (v := (.int x1)) (by rw [e153]; exact Ar157.1) (State.isArrayOf_alike hZ.alike Ar157.2.1) Ar157.2.2 hin157 (H157.at hin157 rfl) (g := (mkF mM 12 Lv156 [.int 1, .ref s'])) rfl rfl (hb hby d6_12) t_ k_) ?_
  let Lv158 : Array Slot := #[.val (.ref s'), .val (.int 1), .val (.ref d), .val (.int 1), .val (.int 4), .val (.int 1), .val (.int x1)]
  refine own_st (A := T153.setTop (mkF mM 15 Lv158 [])) (fun t_ k_ => XS.istore X153.here hx rfl (hb hby d6_13) rfl (l' := Lv158) rfl k_) ?_
  refine o_iload 17 X153 hx (hb hby d6_15) rfl rfl ?_
  refine o_sipush 20 255 X153 hx (hb hby d6_17) rfl rfl ?_
  refine o_icmpYes 26 X153 hx (hb hby d6_20) (flt l1).2.2.2 (by decide) ?_
  refine o_aloadN 27 X153 hx (hb hby d6_26) rfl rfl rfl ?_
  refine o_iloadN 28 X153 hx (hb hby d6_27) rfl rfl ?_
  refine o_iload 30 X153 hx (hb hby d6_28) rfl rfl ?_
  refine own_j 31 [(.int ((x1).toInt8.toInt32)), .int 1, .ref d] (fun t_ k_ => XS.i2b X153.here hx rfl (hb hby d6_30) rfl k_) ?_
  obtain ⟨cl159, Ar159, q159, S159, Nn159, H159, G159⟩ := id A_d
  obtain ⟨T160, h160, X160, e160, W160, st160⟩ := stB X153 hx hZ e153 Ar159 (j := (1 : Int32)) (inb_of S159 ⟨by decide, by decide⟩) (g := (mkF mM 31 Lv158 [(.int ((x1).toInt8.toInt32)), .int 1, .ref d])) rfl rfl (hb hby d6_31)
  have N160 := Fr.snoc X160 N153 g_d
  have A_s' := A_s'.other W160 nsd
  have Kp := Kp.wr W160 (Or.inl (List.mem_of_getElem? (i := 0) rfl))
  have A_d : Arv Z h160 d kd .byte 4 [(.int (((x0).toInt8.toInt32)).toInt8.toInt32), (.int (((x1).toInt8.toInt32)).toInt8.toInt32), .int 0, .int 0] (.int 0) := Arv.set Ar159 q159 S159 Nn159 H159 G159 (fits_nar_byte _) W160 1 rfl (Nat.le_of_ble_eq_true rfl)
  refine own_k T160 32 [] st160 ?_
  let Lv161 : Array Slot := #[.val (.ref s'), .val (.int 2), .val (.ref d), .val (.int 1), .val (.int 4), .val (.int 1), .val (.int x1)]
  refine own_st (A := T160.setTop (mkF mM 35 Lv161 [])) (fun t_ k_ => XS.iinc X160.here hx rfl (hb hby d6_32) rfl (l' := Lv161) rfl k_) ?_
  let Lv162 : Array Slot := #[.val (.ref s'), .val (.int 2), .val (.ref d), .val (.int 2), .val (.int 4), .val (.int 1), .val (.int x1)]
  refine own_st (A := T160.setTop (mkF mM 38 Lv162 [])) (fun t_ k_ => XS.iinc X160.here hx rfl (hb hby d6_35) rfl (l' := Lv162) rfl k_) ?_
  let Lv163 : Array Slot := #[.val (.ref s'), .val (.int 2), .val (.ref d), .val (.int 2), .val (.int 4), .val (.int 2), .val (.int x1)]
  refine own_st (A := T160.setTop (mkF mM 41 Lv163 [])) (fun t_ k_ => XS.iinc X160.here hx rfl (hb hby d6_38) rfl (l' := Lv163) rfl k_) ?_
  refine o_goto 3 X160 hx (hb hby d6_41) (by decide) ?_
  refine o_iload 5 X160 hx (hb hby d6_3) rfl rfl ?_
  refine o_iload 7 X160 hx (hb hby d6_5) rfl rfl ?_
  refine o_icmpNo 10 X160 hx (hb hby d6_7) (tlt (by decide : ((2 : Int32) < (4 : Int32)))).2.1 rfl ?_
  refine o_aloadN 11 X160 hx (hb hby d6_10) rfl rfl rfl ?_
  refine o_iloadN 12 X160 hx (hb hby d6_11) rfl rfl ?_
  obtain ⟨cl164, Ar164, q164, S164, Nn164, H164, G164⟩ := id A_s'
  have hin164 : ¬ ((2 : Int32) < 0 ∨ cl164.slots.size ≤ ((2 : Int32)).toNatClampNeg) := inb_of S164 ⟨by decide, by decide⟩
  refine own_j 13 [.int x2] (fun t_ k_ => X160.caload hx (j := (2 : Int32)) (v := (.int x2)) (by rw [e160]; exact Ar164.1) (State.isArrayOf_alike hZ.alike Ar164.2.1) Ar164.2.2 hin164 (H164.at hin164 rfl) (g := (mkF mM 12 Lv163 [.int 2, .ref s'])) rfl rfl (hb hby d6_12) t_ k_) ?_
  let Lv165 : Array Slot := #[.val (.ref s'), .val (.int 2), .val (.ref d), .val (.int 2), .val (.int 4), .val (.int 2), .val (.int x2)]
  refine own_st (A := T160.setTop (mkF mM 15 Lv165 [])) (fun t_ k_ => XS.istore X160.here hx rfl (hb hby d6_13) rfl (l' := Lv165) rfl k_) ?_
  refine o_iload 17 X160 hx (hb hby d6_15) rfl rfl ?_
  refine o_sipush 20 255 X160 hx (hb hby d6_17) rfl rfl ?_
  refine o_icmpNo 23 X160 hx (hb hby d6_20) (tlt big).2.2.2 rfl ?_
  refine o_iload 25 X160 hx (hb hby d6_23) rfl rfl ?_
  exact own_retI X160 hx hlk hret (hb hby d6_25) (by rw [e160]; exact ⟨rfl, N160, Kp⟩) (by decide) (by decide)
theorem ef_rmC3j2 (mM : MethodId) (s' : Addr) (ks : ClassId) (x0 : Int32) (x1 : Int32) (x2 : Int32) (x3 : Int32) : entryFrame mM #[.ref s', .int 0, .int 4] 6 = mkF mM 0 #[.val (.ref s'), .val (.int 0), .val (.int 4), .unset, .unset, .unset] [] := by first | (simp [entryFrame, mkF, argsToLocals, Value.category]; done) | rfl
theorem rmC3j2 (lL : Launch) (Z : State) (a0 : Array Value) (hw : own_tb a0 Z) (ws : List Jvm.Cond) (s' : Addr) (ks : ClassId) (x0 : Int32) (x1 : Int32) (x2 : Int32) (x3 : Int32) (h0 : Heap) (n0 : Nat) (A_s' : Arv Z h0 s' ks .char 4 [.int x0, .int x1, .int x2, .int x3] (.int 0)) (O : Old Z n0 h0) (Zn : n0 ≤ h0.size) (S_ad : Sta Z Z.heap "java/lang/StringUTF16" "$assertionsDisabled" "Z" (.int 1)) (S_hi : Sta Z Z.heap "java/lang/StringUTF16" "HI_BYTE_SHIFT" "I" (.int 0)) (S_lo : Sta Z Z.heap "java/lang/StringUTF16" "LO_BYTE_SHIFT" "I" (.int 8)) (cx0 : nar .char x0 = x0) (cx1 : nar .char x1 = x1) (cx2 : nar .char x2 = x2) (cx3 : nar .char x3 = x3) (l0 : ¬ (255 : Int32) < x0) (l1 : ¬ (255 : Int32) < x1) (big : (255 : Int32) < x2) :
    own_Ct lL Z yn7 jdk_52_method_16_code 6 (some (.array .byte)) ws (⟨3, 2, 12, 40⟩ : Room) #[.ref s', .int 0, .int 4] h0 (QC3 Z 8 [(.int (lo8 x0)), (.int (hi8 x0)), (.int (lo8 x1)), (.int (hi8 x1)), (.int (lo8 x2)), (.int (hi8 x2)), (.int (lo8 x3)), (.int (hi8 x3))] h0 n0) := by
  refine own_body (plainFor_of_name pn_java_2flang_2fStringUTF16) 2 12 rfl rfl (fun mM => ef_rmC3j2 mM s' ks x0 x1 x2 x3) fun pP eE sS mM below meth cC s₁ hZ hx hby hml hown hnm hret hlk X0 e0 => ?_
  have N0 := Fr.nil n0
  have Kp := Keep.refl h0 []
  refine o_iloadN 1 X0 hx (hb hby d5_0) rfl rfl ?_
  obtain ⟨T166, h166, k166, X166, e166, E166, A166, st166⟩ := newP X0 hx hZ (ow hw 24 rfl) e0 (g := (mkF mM 1 #[.val (.ref s'), .val (.int 0), .val (.int 4), .unset, .unset, .unset] [.int 4])) rfl (hb hby d5_1) rfl (by decide) (cap := 4) (by decide) (by decide) (by decide) (by decide)
  obtain ⟨b166, g166⟩ : ∃ z, z = h0.size := ⟨_, rfl⟩
  rw [← g166] at A166 st166
  have ne_s'_b166 : s' ≠ b166 := Nat.ne_of_lt (Nat.lt_of_lt_of_le A_s'.lt (Nat.le_of_eq g166.symm))
  have g_b166 : n0 ≤ b166 := Nat.le_trans Zn (Nat.le_of_eq g166.symm)
  have b_b166 : h0.size ≤ b166 := Nat.le_trans Kp.1 (Nat.le_of_eq g166.symm)
  have O := O.ext E166
  have A_s' := A_s'.ext E166
  have Zn := Nat.le_trans Zn E166.1
  have Kp := Kp.ext E166
  have A_b166 : Arv Z h166 b166 k166 .byte 4 [.int 0, .int 0, .int 0, .int 0] (.int 0) := (Arv.new A166 (by decide)).pad (pad_rep [] (.int 0) 4)
  refine own_k T166 3 [.ref b166] st166 ?_
  let Lv167 : Array Slot := #[.val (.ref s'), .val (.int 0), .val (.int 4), .val (.ref b166), .unset, .unset]
  refine own_st (A := T166.setTop (mkF mM 4 Lv167 [])) (fun t_ k_ => XS.astoreN X166.here hx rfl (hb hby d5_3) rfl rfl (l' := Lv167) rfl k_) ?_
  refine o_aloadN 5 X166 hx (hb hby d5_4) rfl rfl rfl ?_
  refine o_iloadN 6 X166 hx (hb hby d5_5) rfl rfl ?_
  refine o_aloadN 7 X166 hx (hb hby d5_6) rfl rfl rfl ?_
  refine o_iconst 8 0 X166 hx (hb hby d5_7) rfl rfl ?_
  refine o_iloadN 9 X166 hx (hb hby d5_8) rfl rfl ?_
  obtain ⟨_, _, ⟨T168, L168, k168, n168⟩, -, X168, ⟨Lc168, hQ168, l168, y168, z168⟩, st168⟩ := Jvm.LawKit.callS X166 hx (y := yn6) hown (mvT hZ (ow hw 25 rfl)) (mvT hZ (ow hw 26 rfl)) (mvT hZ (ow hw 22 rfl)) (mvT hZ (ow hw 27 rfl)) (by decide) (backOf (W := 0) (rmC5j2 lL Z a0 hw [] s' ks b166 k166 x0 x1 x2 x3 h166 n0 A_s' A_b166 g_b166 ne_s'_b166 l0 l1 big) hZ (ow hw 27 rfl) (ow hw 22 rfl) (by decide) (by decide)) (g := (mkF mM 9 Lv167 [.int 4, .int 0, .ref b166, .int 0, .ref s'])) rfl (by rw [hml]; rfl) (argsL := [.ref s', .int 0, .ref b166, .int 0, .int 4]) (rest := []) (lenOf pd__28_5bCI_5bBII_29I rfl) rfl (by show 2 * 0 + _ ≤ _; exact Nat.le_of_eq rfl) (hb hby d5_9) (fun _ _ => ⟨rfl, e166, (by decide : 1 + 0 ≤ _), (by decide : 4 + 0 ≤ _)⟩)
  dsimp only [Pt.U, Pt.locs, Pt.cells, Pt.slots] at X168 l168 y168 z168 st168 hQ168
  subst l168 y168 z168
  obtain ⟨rfl, N168q, K168⟩ := hQ168
  have N168 := Fr.app N0 N168q
  have e168 : T168.heap = T168.heap := rfl
  refine own_k T168 12 [.int 2] st168 ?_
  have A_s' := A_s'.keep K168 (ninS ne_s'_b166 nin0)
  have O := O.keep K168 (allS g_b166 all0)
  have Zn := Nat.le_trans Zn K168.1
  have Kp := Kp.trans K168 (allS (Or.inr b_b166) all0)
  let Lv169 : Array Slot := #[.val (.ref s'), .val (.int 0), .val (.int 4), .val (.ref b166), .val (.int 2), .unset]
  refine own_st (A := T168.setTop (mkF mM 14 Lv169 [])) (fun t_ k_ => XS.istore X168.here hx rfl (hb hby d5_12) rfl (l' := Lv169) rfl k_) ?_
  refine o_iload 16 X168 hx (hb hby d5_14) rfl rfl ?_
  refine o_iloadN 17 X168 hx (hb hby d5_16) rfl rfl ?_
  refine o_icmpNo 20 X168 hx (hb hby d5_17) (feq (by decide : ¬ ((2 : Int32) = (4 : Int32)))).1 rfl ?_
  refine o_aloadN 21 X168 hx (hb hby d5_20) rfl rfl rfl ?_
  refine o_iloadN 22 X168 hx (hb hby d5_21) rfl rfl ?_
  refine o_iloadN 23 X168 hx (hb hby d5_22) rfl rfl ?_
  obtain ⟨_, _, ⟨T170, L170, k170, n170⟩, -, X170, ⟨Lc170, hQ170, l170, y170, z170⟩, st170⟩ := Jvm.LawKit.callS X168 hx (y := yn3) hown (mvT hZ (ow hw 65 rfl)) (mvT hZ (ow hw 66 rfl)) (mvT hZ (ow hw 22 rfl)) (mvT hZ (ow hw 67 rfl)) (by decide) (backOf (W := 0) (rmTB lL Z a0 hw [] s' ks x0 x1 x2 x3 T168.heap n0 A_s' O Zn S_ad S_hi S_lo) hZ (ow hw 67 rfl) (ow hw 22 rfl) (by decide) (by decide)) (g := (mkF mM 23 Lv169 [.int 4, .int 0, .ref s'])) rfl (by rw [hml]; rfl) (argsL := [.ref s', .int 0, .int 4]) (rest := []) (lenOf pd__28_5bCII_29_5bB rfl) rfl (by show 2 * 0 + _ ≤ _; exact Nat.le_of_eq rfl) (hb hby d5_23) (fun _ _ => ⟨rfl, e168, (by decide : 1 + 1 ≤ _), (by decide : 4 + 8 ≤ _)⟩)
  dsimp only [Pt.U, Pt.locs, Pt.cells, Pt.slots] at X170 l170 y170 z170 st170 hQ170
  subst l170 y170 z170
  obtain ⟨b170, k170', rfl, N170q, E170, V170, ge170⟩ := hQ170
  have N170 := Fr.app N168 N170q
  have e170 : T170.heap = T170.heap := rfl
  refine own_k T170 26 [.ref b170] st170 ?_
  have b_b170 : h0.size ≤ b170 := Nat.le_trans Kp.1 ge170
  have O := O.ext E170
  have A_s' := A_s'.ext E170
  have Zn := Nat.le_trans Zn E170.1
  have Kp := Kp.ext E170
  have A_b170 := V170
  let Lv171 : Array Slot := #[.val (.ref s'), .val (.int 0), .val (.int 4), .val (.ref b166), .val (.int 2), .val (.ref b170)]
  refine own_st (A := T170.setTop (mkF mM 28 Lv171 [])) (fun t_ k_ => XS.astore X170.here hx rfl (hb hby d5_26) rfl rfl (l' := Lv171) rfl k_) ?_
  refine o_aload 30 X170 hx (hb hby d5_28) rfl rfl rfl ?_
  refine o_iload 32 X170 hx (hb hby d5_30) rfl rfl ?_
  obtain ⟨_, _, ⟨T172, L172, k172, n172⟩, -, X172, ⟨Lc172, hQ172, l172, y172, z172⟩, st172⟩ := Jvm.LawKit.callS X170 hx (y := yn4) hown (mvT hZ (ow hw 81 rfl)) (mvT hZ (ow hw 82 rfl)) (mvT hZ (ow hw 22 rfl)) (mvT hZ (ow hw 83 rfl)) (by decide) (backOf (W := 0) (rmGC2 lL Z a0 hw [] b170 k170' x0 x1 x2 x3 T170.heap n0 A_b170 O S_ad S_hi S_lo cx2) hZ (ow hw 83 rfl) (ow hw 22 rfl) (by decide) (by decide)) (g := (mkF mM 32 Lv171 [.int 2, .ref b170])) rfl (by rw [hml]; rfl) (argsL := [.ref b170, .int 2]) (rest := []) (lenOf pd__28_5bBI_29C rfl) rfl (by show 2 * 0 + _ ≤ _; exact Nat.le_of_eq rfl) (hb hby d5_32) (fun _ _ => ⟨rfl, e170, (by decide : 2 + 0 ≤ _), (by decide : 12 + 0 ≤ _)⟩)
  dsimp only [Pt.U, Pt.locs, Pt.cells, Pt.slots] at X172 l172 y172 z172 st172 hQ172
  subst l172 y172 z172
  obtain ⟨rfl, N172q, e172⟩ := hQ172
  have N172 := Fr.app N170 N172q
  refine own_k T172 35 [.int x2] st172 ?_
  refine o_sipush 38 255 X172 hx (hb hby d5_35) rfl rfl ?_
  refine o_icmpYes 54 X172 hx (hb hby d5_38) (tlt big).2.2.1 (by decide) ?_
  refine o_aload 56 X172 hx (hb hby d5_54) rfl rfl rfl ?_
  exact own_retA X172 hx hlk hret rfl rfl (hb hby d5_56) (by rw [e172]; exact ⟨_, _, rfl, N172, own_ext_of_keep Kp, A_b170, b_b170⟩) (by decide) (by decide)
theorem ef_rmS4j2 (mM : MethodId) (a : Addr) (s' : Addr) (ks : ClassId) (cs : Int32) (x0 : Int32) (x1 : Int32) (x2 : Int32) (x3 : Int32) : entryFrame mM #[.ref a, .ref s', .int 0, .int 4, .null] 6 = mkF mM 0 #[.val (.ref a), .val (.ref s'), .val (.int 0), .val (.int 4), .val .null, .unset] [] := by first | (simp [entryFrame, mkF, argsToLocals, Value.category]; done) | rfl
theorem rmS4j2 (lL : Launch) (Z : State) (a0 : Array Value) (hw : own_tb a0 Z) (ws : List Jvm.Cond) (a : Addr) (s' : Addr) (ks : ClassId) (cs : Int32) (x0 : Int32) (x1 : Int32) (x2 : Int32) (x3 : Int32) (h0 : Heap) (n0 : Nat) (g_a : n0 ≤ a) (E_a : Exa Z h0 a "java/lang/String") (F_a_value : Fld Z h0 a "java/lang/String" "value" "[B" .null) (F_a_coder : Fld Z h0 a "java/lang/String" "coder" "B" (.int 0)) (A_s' : Arv Z h0 s' ks .char 4 [.int x0, .int x1, .int x2, .int x3] (.int 0)) (nsa : s' ≠ a) (O : Old Z n0 h0) (Zn : n0 ≤ h0.size) (S_cs : Sta Z Z.heap "java/lang/String" "COMPACT_STRINGS" "Z" (.int cs)) (hcs : ¬ cs = (0 : Int32)) (S_ad : Sta Z Z.heap "java/lang/StringUTF16" "$assertionsDisabled" "Z" (.int 1)) (S_hi : Sta Z Z.heap "java/lang/StringUTF16" "HI_BYTE_SHIFT" "I" (.int 0)) (S_lo : Sta Z Z.heap "java/lang/StringUTF16" "LO_BYTE_SHIFT" "I" (.int 8)) (cx0 : nar .char x0 = x0) (cx1 : nar .char x1 = x1) (cx2 : nar .char x2 = x2) (cx3 : nar .char x3 = x3) (l0 : ¬ (255 : Int32) < x0) (l1 : ¬ (255 : Int32) < x1) (big : (255 : Int32) < x2) :
    own_Ct lL Z yn8 jdk_42_method_149_code 6 none ws (⟨4, 2, 12, 57⟩ : Room) #[.ref a, .ref s', .int 0, .int 4, .null] h0 (QSU Z a x0 x1 x2 x3 h0 n0) := by
  refine own_body (plainFor_of_name pn_java_2flang_2fString) 2 12 rfl rfl (fun mM => ef_rmS4j2 mM a s' ks cs x0 x1 x2 x3) fun pP eE sS mM below meth cC s₁ hZ hx hby hml hown hnm hret hlk X0 e0 => ?_
  have N0 := Fr.nil n0
  have Kp := Keep.refl h0 [a]
  refine o_aloadN 1 X0 hx (hb hby d3_0) rfl rfl rfl ?_
  obtain ⟨T173, X173, e173, st173⟩ := initO X0 hx hZ hown (ow hw 16 rfl) (ow hw 17 rfl) (ow hw 18 rfl) e0 (g := (mkF mM 1 #[.val (.ref a), .val (.ref s'), .val (.int 0), .val (.int 4), .val .null, .unset] [.ref a])) rfl (by rw [hml]; rfl) rfl (hb hby d3_1) (by decide) (W := 0) (by show 2 * 0 + _ ≤ _; exact Nat.le_of_eq rfl) (by decide)
  refine own_k T173 4 [] st173 ?_
  refine o_iloadN 5 X173 hx (hb hby d3_4) rfl rfl ?_
  refine o_ifYes 27 X173 hx (hb hby d3_5) ((if0 _ _).trans (feq (by decide : ¬ ((4 : Int32) = (0 : Int32)))).2) (by decide) ?_
  obtain ⟨T174, X174, e174, st174⟩ := getS2 X173 hx hZ hown (host := "") (Or.inl (ow hw 19 rfl)) Via.refl e173 (S_cs.ext O.2) (g := (mkF mM 27 #[.val (.ref a), .val (.ref s'), .val (.int 0), .val (.int 4), .val .null, .unset] [])) rfl (hb hby d3_27)
  refine own_k T174 30 [.int cs] st174 ?_
  refine o_ifNo 33 X174 hx (hb hby d3_30) ((if0 _ _).trans (feq hcs).1) rfl ?_
  refine o_aloadN 34 X174 hx (hb hby d3_33) rfl rfl rfl ?_
  refine o_iloadN 35 X174 hx (hb hby d3_34) rfl rfl ?_
  refine o_iloadN 36 X174 hx (hb hby d3_35) rfl rfl ?_
  obtain ⟨_, _, ⟨T175, L175, k175, n175⟩, -, X175, ⟨Lc175, hQ175, l175, y175, z175⟩, st175⟩ := Jvm.LawKit.callS X174 hx (y := yn7) hown (mvT hZ (ow hw 20 rfl)) (mvT hZ (ow hw 21 rfl)) (mvT hZ (ow hw 22 rfl)) (mvT hZ (ow hw 23 rfl)) (by decide) (backOf (W := 0) (rmC3j2 lL Z a0 hw [] s' ks x0 x1 x2 x3 h0 n0 A_s' O Zn S_ad S_hi S_lo cx0 cx1 cx2 cx3 l0 l1 big) hZ (ow hw 23 rfl) (ow hw 22 rfl) (by decide) (by decide)) (g := (mkF mM 36 #[.val (.ref a), .val (.ref s'), .val (.int 0), .val (.int 4), .val .null, .unset] [.int 4, .int 0, .ref s'])) rfl (by rw [hml]; rfl) (argsL := [.ref s', .int 0, .int 4]) (rest := []) (lenOf pd__28_5bCII_29_5bB rfl) rfl (by show 2 * 0 + _ ≤ _; exact Nat.le_of_eq rfl) (hb hby d3_36) (fun _ _ => ⟨rfl, e174, (by decide : 0 + 2 ≤ _), (by decide : 0 + 12 ≤ _)⟩)
  dsimp only [Pt.U, Pt.locs, Pt.cells, Pt.slots] at X175 l175 y175 z175 st175 hQ175
  subst l175 y175 z175
  obtain ⟨b175, k175', rfl, N175q, E175, V175, ge175⟩ := hQ175
  have N175 := Fr.app N0 N175q
  have e175 : T175.heap = T175.heap := rfl
  refine own_k T175 39 [.ref b175] st175 ?_
  have ne_a_b175 : a ≠ b175 := Nat.ne_of_lt (Nat.lt_of_lt_of_le E_a.lt ge175)
  have F_a_value := F_a_value.ext E175
  have F_a_coder := F_a_coder.ext E175
  have E_a := E_a.ext E175
  have O := O.ext E175
  have A_s' := A_s'.ext E175
  have Zn := Nat.le_trans Zn E175.1
  have Kp := Kp.ext E175
  have A_b175 := V175
  let Lv176 : Array Slot := #[.val (.ref a), .val (.ref s'), .val (.int 0), .val (.int 4), .val .null, .val (.ref b175)]
  refine own_st (A := T175.setTop (mkF mM 41 Lv176 [])) (fun t_ k_ => XS.astore X175.here hx rfl (hb hby d3_39) rfl rfl (l' := Lv176) rfl k_) ?_
  refine o_aloadN 42 X175 hx (hb hby d3_41) rfl rfl rfl ?_
  refine o_aload 44 X175 hx (hb hby d3_42) rfl rfl rfl ?_
  refine o_iloadN 45 X175 hx (hb hby d3_44) rfl rfl ?_
  obtain ⟨_, _, ⟨T177, L177, k177, n177⟩, -, X177, ⟨Lc177, hQ177, l177, y177, z177⟩, st177⟩ := Jvm.LawKit.callS X175 hx (y := yn5) hown (mvT hZ (ow hw 28 rfl)) (mvT hZ (ow hw 29 rfl)) (mvT hZ (ow hw 22 rfl)) (mvT hZ (ow hw 30 rfl)) (by decide) (backOf (W := 1) (rmCoU lL Z a0 hw [] b175 k175' x0 x1 x2 x3 T175.heap n0 A_b175) hZ (ow hw 30 rfl) (ow hw 22 rfl) (by decide) (by decide)) (g := (mkF mM 45 Lv176 [.int 4, .ref b175, .ref a])) rfl (by rw [hml]; rfl) (argsL := [.ref b175, .int 4]) (rest := [.ref a]) (lenOf pd__28_5bBI_29B rfl) rfl (by show 2 * 0 + _ ≤ _; exact Nat.le_of_eq rfl) (hb hby d3_45) (fun _ _ => ⟨rfl, e175, (by decide : 2 + 0 ≤ _), (by decide : 12 + 0 ≤ _)⟩)
  dsimp only [Pt.U, Pt.locs, Pt.cells, Pt.slots] at X177 l177 y177 z177 st177 hQ177
  subst l177 y177 z177
  obtain ⟨rfl, N177q, e177⟩ := hQ177
  have N177 := Fr.app N175 N177q
  refine own_k T177 48 [.int 1, .ref a] st177 ?_
  obtain ⟨T178, h178, X178, e178, W178, st178⟩ := putFN X177 hx hZ hown (ow hw 31 rfl) Via.refl e177 F_a_coder E_a (Or.inr ⟨(ow hw 32 rfl), rfl, hnm⟩) (ow hw 7 rfl) (ty := .byte) (v' := (.int 1)) (by decide) rfl (by decide) (g := (mkF mM 48 Lv176 [.int 1, .ref a])) rfl rfl (hb hby d3_48)
  have N178 := Fr.snoc X178 N177 g_a
  have F_a_value := F_a_value.other W178 (Or.inr (slot_ne (Or.inr (ow hw 34 rfl)) (Or.inr (ow hw 32 rfl)) (by decide) (t := (.array .byte)) (t' := .byte) (by decide) (by decide)))
  have F_a_coder := F_a_coder.same W178
  have E_a := E_a.wr W178
  have A_s' := A_s'.other W178 nsa
  have A_b175 := A_b175.other W178 (Ne.symm ne_a_b175)
  have O := O.wr W178 g_a
  have Zn := Nat.le_trans Zn (Keep.of_wr W178).1
  have Kp := Kp.wr W178 (Or.inl (List.mem_of_getElem? (i := 0) rfl))
  refine own_k T178 51 [] st178 ?_
  refine o_aloadN 52 X178 hx (hb hby d3_51) rfl rfl rfl ?_
  refine o_aload 54 X178 hx (hb hby d3_52) rfl rfl rfl ?_
  obtain ⟨T179, h179, X179, e179, W179, st179⟩ := putF X178 hx hZ hown (host := "") (Or.inl (ow hw 33 rfl)) Via.refl e178 F_a_value E_a (Or.inr ⟨(ow hw 34 rfl), rfl, hnm⟩) (ow hw 7 rfl) (ty := (.array .byte)) (by decide) rfl rfl (g := (mkF mM 54 Lv176 [.ref b175, .ref a])) rfl rfl (hb hby d3_54)
  have N179 := Fr.snoc X179 N178 g_a
  have F_a_value := F_a_value.same W179
  have F_a_coder := F_a_coder.other W179 (Or.inr (slot_ne (Or.inr (ow hw 32 rfl)) (Or.inr (ow hw 34 rfl)) (by decide) (t := .byte) (t' := (.array .byte)) (by decide) (by decide)))
  have E_a := E_a.wr W179
  have A_s' := A_s'.other W179 nsa
  have A_b175 := A_b175.other W179 (Ne.symm ne_a_b175)
  have O := O.wr W179 g_a
  have Zn := Nat.le_trans Zn (Keep.of_wr W179).1
  have Kp := Kp.wr W179 (Or.inl (List.mem_of_getElem? (i := 0) rfl))
  refine own_k T179 57 [] st179 ?_
  exact own_retV X179 hx hlk hret (hb hby d3_57) (by rw [e179]; exact ⟨rfl, N179, Kp, _, _, E_a, F_a_value, F_a_coder, A_b175⟩) (by decide) (by decide)
theorem ef_rmS1j2 (mM : MethodId) (a : Addr) (s' : Addr) (ks : ClassId) (cs : Int32) (x0 : Int32) (x1 : Int32) (x2 : Int32) (x3 : Int32) : entryFrame mM #[.ref a, .ref s'] 2 = mkF mM 0 #[.val (.ref a), .val (.ref s')] [] := by first | (simp [entryFrame, mkF, argsToLocals, Value.category]; done) | rfl
theorem rmS1j2 (lL : Launch) (Z : State) (a0 : Array Value) (hw : own_tb a0 Z) (ws : List Jvm.Cond) (a : Addr) (s' : Addr) (ks : ClassId) (cs : Int32) (x0 : Int32) (x1 : Int32) (x2 : Int32) (x3 : Int32) (h0 : Heap) (n0 : Nat) (g_a : n0 ≤ a) (E_a : Exa Z h0 a "java/lang/String") (F_a_value : Fld Z h0 a "java/lang/String" "value" "[B" .null) (F_a_coder : Fld Z h0 a "java/lang/String" "coder" "B" (.int 0)) (A_s' : Arv Z h0 s' ks .char 4 [.int x0, .int x1, .int x2, .int x3] (.int 0)) (nsa : s' ≠ a) (O : Old Z n0 h0) (Zn : n0 ≤ h0.size) (S_cs : Sta Z Z.heap "java/lang/String" "COMPACT_STRINGS" "Z" (.int cs)) (hcs : ¬ cs = (0 : Int32)) (S_ad : Sta Z Z.heap "java/lang/StringUTF16" "$assertionsDisabled" "Z" (.int 1)) (S_hi : Sta Z Z.heap "java/lang/StringUTF16" "HI_BYTE_SHIFT" "I" (.int 0)) (S_lo : Sta Z Z.heap "java/lang/StringUTF16" "LO_BYTE_SHIFT" "I" (.int 8)) (cx0 : nar .char x0 = x0) (cx1 : nar .char x1 = x1) (cx2 : nar .char x2 = x2) (cx3 : nar .char x3 = x3) (l0 : ¬ (255 : Int32) < x0) (l1 : ¬ (255 : Int32) < x1) (big : (255 : Int32) < x2) :
    own_Ct lL Z yn9 jdk_42_method_3_code 2 none ws (⟨5, 2, 12, 74⟩ : Room) #[.ref a, .ref s'] h0 (QSC Z a x0 x1 x2 x3 h0 n0) := by
  refine own_body (plainFor_of_name pn_java_2flang_2fString) 2 12 rfl rfl (fun mM => ef_rmS1j2 mM a s' ks cs x0 x1 x2 x3) fun pP eE sS mM below meth cC s₁ hZ hx hby hml hown hnm hret hlk X0 e0 => ?_
  have N0 := Fr.nil n0
  refine o_aloadN 1 X0 hx (hb hby d2_0) rfl rfl rfl ?_
  refine o_aloadN 2 X0 hx (hb hby d2_1) rfl rfl rfl ?_
  refine o_iconst 3 0 X0 hx (hb hby d2_2) rfl rfl ?_
  refine o_aloadN 4 X0 hx (hb hby d2_3) rfl rfl rfl ?_
  obtain ⟨cl180, Ar180, q180, S180, Nn180, H180, G180⟩ := id A_s'
  refine own_j 5 [.int 4, .int 0, .ref s', .ref a] (fun t_ k_ => X0.arraylength hx (by rw [e0]; exact Ar180.1) (State.isArrayOf_alike hZ.alike Ar180.2.1) (g := (mkF mM 4 #[.val (.ref a), .val (.ref s')] [.ref s', .int 0, .ref s', .ref a])) rfl rfl (hb hby d2_4) t_ (by rw [len_of S180 Nn180]; exact k_)) ?_
  refine own_j 6 [.null, .int 4, .int 0, .ref s', .ref a] (fun t_ k_ => XS.aconstNull X0.here hx rfl (hb hby d2_5) k_) ?_
  obtain ⟨_, _, ⟨T181, L181, k181, n181⟩, -, X181, ⟨Lc181, hQ181, l181, y181, z181⟩, st181⟩ := X0.specialBack hx (y := yn8) rfl hown (mvT hZ (ow hw 12 rfl)) (mvT hZ (ow hw 13 rfl)) (mvT hZ (ow hw 15 rfl)) (by decide) (backOf (W := 0) (rmS4j2 lL Z a0 hw [] a s' ks cs x0 x1 x2 x3 h0 n0 g_a E_a F_a_value F_a_coder A_s' nsa O Zn S_cs hcs S_ad S_hi S_lo cx0 cx1 cx2 cx3 l0 l1 big) hZ (ow hw 15 rfl) (ow hw 8 rfl) (by decide) (by decide)) (g := (mkF mM 6 #[.val (.ref a), .val (.ref s')] [.null, .int 4, .int 0, .ref s', .ref a])) rfl (by rw [hml]; rfl) (Steps.refl _) (a := a) (argsL := [.ref s', .int 0, .int 4, .null]) (rest := []) (lenOf pd__28_5bCIILjava_2flang_2fVoid_3b_29V rfl) rfl (by show 2 * 0 + _ ≤ _; exact Nat.le_of_eq rfl) (hb hby d2_6) (fun _ _ => ⟨rfl, e0, (by decide : 0 + 2 ≤ _), (by decide : 0 + 12 ≤ _)⟩)
  dsimp only [Pt.U, Pt.locs, Pt.cells, Pt.slots] at X181 l181 y181 z181 st181 hQ181
  subst l181 y181 z181
  obtain ⟨rfl, N181q, K181, R181⟩ := hQ181
  have N181 := Fr.app N0 N181q
  have e181 : T181.heap = T181.heap := rfl
  refine own_k T181 9 [] (fun t_ k_ => st181.trans k_) ?_
  exact own_retV X181 hx hlk hret (hb hby d2_9) ⟨rfl, N181, K181, Or.inr R181⟩ (by decide) (by decide)
theorem ef_rmC5j3 (mM : MethodId) (s' : Addr) (ks : ClassId) (d : Addr) (kd : ClassId) (x0 : Int32) (x1 : Int32) (x2 : Int32) (x3 : Int32) : entryFrame mM #[.ref s', .int 0, .ref d, .int 0, .int 4] 7 = mkF mM 0 #[.val (.ref s'), .val (.int 0), .val (.ref d), .val (.int 0), .val (.int 4), .unset, .unset] [] := by first | (simp [entryFrame, mkF, argsToLocals, Value.category]; done) | rfl
theorem rmC5j3 (lL : Launch) (Z : State) (a0 : Array Value) (hw : own_tb a0 Z) (ws : List Jvm.Cond) (s' : Addr) (ks : ClassId) (d : Addr) (kd : ClassId) (x0 : Int32) (x1 : Int32) (x2 : Int32) (x3 : Int32) (h0 : Heap) (n0 : Nat) (A_s' : Arv Z h0 s' ks .char 4 [.int x0, .int x1, .int x2, .int x3] (.int 0)) (A_d : Arv Z h0 d kd .byte 4 [.int 0, .int 0, .int 0, .int 0] (.int 0)) (g_d : n0 ≤ d) (nsd : s' ≠ d) (l0 : ¬ (255 : Int32) < x0) (l1 : ¬ (255 : Int32) < x1) (l2 : ¬ (255 : Int32) < x2) (big : (255 : Int32) < x3) :
    own_Ct lL Z yn6 jdk_52_method_21_code 7 (some .int) ws (⟨0, 0, 0, 0⟩ : Room) #[.ref s', .int 0, .ref d, .int 0, .int 4] h0 (QCJ d 3 h0 n0) := by
  refine own_body (plainFor_of_name pn_java_2flang_2fStringUTF16) 0 0 rfl rfl (fun mM => ef_rmC5j3 mM s' ks d kd x0 x1 x2 x3) fun pP eE sS mM below meth cC s₁ hZ hx hby hml hown hnm hret hlk X0 e0 => ?_
  have N0 := Fr.nil n0
  have Kp := Keep.refl h0 [d]
  refine o_iconst 1 0 X0 hx (hb hby d6_0) rfl rfl ?_
  let Lv182 : Array Slot := #[.val (.ref s'), .val (.int 0), .val (.ref d), .val (.int 0), .val (.int 4), .val (.int 0), .unset]
  refine own_st (A := s₁.setTop (mkF mM 3 Lv182 [])) (fun t_ k_ => XS.istore X0.here hx rfl (hb hby d6_1) rfl (l' := Lv182) rfl k_) ?_
  refine o_iload 5 X0 hx (hb hby d6_3) rfl rfl ?_
  refine o_iload 7 X0 hx (hb hby d6_5) rfl rfl ?_
  refine o_icmpNo 10 X0 hx (hb hby d6_7) (tlt (by decide : ((0 : Int32) < (4 : Int32)))).2.1 rfl ?_
  refine o_aloadN 11 X0 hx (hb hby d6_10) rfl rfl rfl ?_
  refine o_iloadN 12 X0 hx (hb hby d6_11) rfl rfl ?_
  obtain ⟨cl183, Ar183, q183, S183, Nn183, H183, G183⟩ := id A_s'
  have hin183 : ¬ ((0 : Int32) < 0 ∨ cl183.slots.size ≤ ((0 : Int32)).toNatClampNeg) := inb_of S183 ⟨by decide, by decide⟩
  refine own_j 13 [.int x0] (fun t_ k_ => X0.caload hx (j := (0 : Int32)) (v := (.int x0)) (by rw [e0]; exact Ar183.1) (State.isArrayOf_alike hZ.alike Ar183.2.1) Ar183.2.2 hin183 (H183.at hin183 rfl) (g := (mkF mM 12 Lv182 [.int 0, .ref s'])) rfl rfl (hb hby d6_12) t_ k_) ?_
  let Lv184 : Array Slot := #[.val (.ref s'), .val (.int 0), .val (.ref d), .val (.int 0), .val (.int 4), .val (.int 0), .val (.int x0)]
  refine own_st (A := s₁.setTop (mkF mM 15 Lv184 [])) (fun t_ k_ => XS.istore X0.here hx rfl (hb hby d6_13) rfl (l' := Lv184) rfl k_) ?_
  refine o_iload 17 X0 hx (hb hby d6_15) rfl rfl ?_
  refine o_sipush 20 255 X0 hx (hb hby d6_17) rfl rfl ?_
  refine o_icmpYes 26 X0 hx (hb hby d6_20) (flt l0).2.2.2 (by decide) ?_
  refine o_aloadN 27 X0 hx (hb hby d6_26) rfl rfl rfl ?_
  refine o_iloadN 28 X0 hx (hb hby d6_27) rfl rfl ?_
  refine o_iload 30 X0 hx (hb hby d6_28) rfl rfl ?_
  refine own_j 31 [(.int ((x0).toInt8.toInt32)), .int 0, .ref d] (fun t_ k_ => XS.i2b X0.here hx rfl (hb hby d6_30) rfl k_) ?_
  obtain ⟨cl185, Ar185, q185, S185, Nn185, H185, G185⟩ := id A_d
  obtain ⟨T186, h186, X186, e186, W186, st186⟩ := stB X0 hx hZ e0 Ar185 (j := (0 : Int32)) (inb_of S185 ⟨by decide, by decide⟩) (g := (mkF mM 31 Lv184 [(.int ((x0).toInt8.toInt32)), .int 0, .ref d])) rfl rfl (hb hby d6_31)
  have N186 := Fr.snoc X186 N0 g_d
  have A_s' := A_s'.other W186 nsd
  have Kp := Kp.wr W186 (Or.inl (List.mem_of_getElem? (i := 0) rfl))
  have A_d : Arv Z h186 d kd .byte 4 [(.int (((x0).toInt8.toInt32)).toInt8.toInt32), .int 0, .int 0, .int 0] (.int 0) := Arv.set Ar185 q185 S185 Nn185 H185 G185 (fits_nar_byte _) W186 0 rfl (Nat.le_of_ble_eq_true rfl)
  refine own_k T186 32 [] st186 ?_
  let Lv187 : Array Slot := #[.val (.ref s'), .val (.int 1), .val (.ref d), .val (.int 0), .val (.int 4), .val (.int 0), .val (.int x0)]
  refine own_st (A := T186.setTop (mkF mM 35 Lv187 [])) (fun t_ k_ => XS.iinc X186.here hx rfl (hb hby d6_32) rfl (l' := Lv187) rfl k_) ?_
  let Lv188 : Array Slot := #[.val (.ref s'), .val (.int 1), .val (.ref d), .val (.int 1), .val (.int 4), .val (.int 0), .val (.int x0)]
  refine own_st (A := T186.setTop (mkF mM 38 Lv188 [])) (fun t_ k_ => XS.iinc X186.here hx rfl (hb hby d6_35) rfl (l' := Lv188) rfl k_) ?_
  let Lv189 : Array Slot := #[.val (.ref s'), .val (.int 1), .val (.ref d), .val (.int 1), .val (.int 4), .val (.int 1), .val (.int x0)]
  refine own_st (A := T186.setTop (mkF mM 41 Lv189 [])) (fun t_ k_ => XS.iinc X186.here hx rfl (hb hby d6_38) rfl (l' := Lv189) rfl k_) ?_
  refine o_goto 3 X186 hx (hb hby d6_41) (by decide) ?_
  refine o_iload 5 X186 hx (hb hby d6_3) rfl rfl ?_
  refine o_iload 7 X186 hx (hb hby d6_5) rfl rfl ?_
  refine o_icmpNo 10 X186 hx (hb hby d6_7) (tlt (by decide : ((1 : Int32) < (4 : Int32)))).2.1 rfl ?_
  refine o_aloadN 11 X186 hx (hb hby d6_10) rfl rfl rfl ?_
  refine o_iloadN 12 X186 hx (hb hby d6_11) rfl rfl ?_
  obtain ⟨cl190, Ar190, q190, S190, Nn190, H190, G190⟩ := id A_s'
  have hin190 : ¬ ((1 : Int32) < 0 ∨ cl190.slots.size ≤ ((1 : Int32)).toNatClampNeg) := inb_of S190 ⟨by decide, by decide⟩
  refine own_j 13 [.int x1] (fun t_ k_ => X186.caload hx (j := (1 : Int32)) (v := (.int x1)) (by rw [e186]; exact Ar190.1) (State.isArrayOf_alike hZ.alike Ar190.2.1) Ar190.2.2 hin190 (H190.at hin190 rfl) (g := (mkF mM 12 Lv189 [.int 1, .ref s'])) rfl rfl (hb hby d6_12) t_ k_) ?_
  let Lv191 : Array Slot := #[.val (.ref s'), .val (.int 1), .val (.ref d), .val (.int 1), .val (.int 4), .val (.int 1), .val (.int x1)]
  refine own_st (A := T186.setTop (mkF mM 15 Lv191 [])) (fun t_ k_ => XS.istore X186.here hx rfl (hb hby d6_13) rfl (l' := Lv191) rfl k_) ?_
  refine o_iload 17 X186 hx (hb hby d6_15) rfl rfl ?_
  refine o_sipush 20 255 X186 hx (hb hby d6_17) rfl rfl ?_
  refine o_icmpYes 26 X186 hx (hb hby d6_20) (flt l1).2.2.2 (by decide) ?_
  refine o_aloadN 27 X186 hx (hb hby d6_26) rfl rfl rfl ?_
  refine o_iloadN 28 X186 hx (hb hby d6_27) rfl rfl ?_
  refine o_iload 30 X186 hx (hb hby d6_28) rfl rfl ?_
  refine own_j 31 [(.int ((x1).toInt8.toInt32)), .int 1, .ref d] (fun t_ k_ => XS.i2b X186.here hx rfl (hb hby d6_30) rfl k_) ?_
  obtain ⟨cl192, Ar192, q192, S192, Nn192, H192, G192⟩ := id A_d
  obtain ⟨T193, h193, X193, e193, W193, st193⟩ := stB X186 hx hZ e186 Ar192 (j := (1 : Int32)) (inb_of S192 ⟨by decide, by decide⟩) (g := (mkF mM 31 Lv191 [(.int ((x1).toInt8.toInt32)), .int 1, .ref d])) rfl rfl (hb hby d6_31)
  have N193 := Fr.snoc X193 N186 g_d
  have A_s' := A_s'.other W193 nsd
  have Kp := Kp.wr W193 (Or.inl (List.mem_of_getElem? (i := 0) rfl))
  have A_d : Arv Z h193 d kd .byte 4 [(.int (((x0).toInt8.toInt32)).toInt8.toInt32), (.int (((x1).toInt8.toInt32)).toInt8.toInt32), .int 0, .int 0] (.int 0) := Arv.set Ar192 q192 S192 Nn192 H192 G192 (fits_nar_byte _) W193 1 rfl (Nat.le_of_ble_eq_true rfl)
  refine own_k T193 32 [] st193 ?_
  let Lv194 : Array Slot := #[.val (.ref s'), .val (.int 2), .val (.ref d), .val (.int 1), .val (.int 4), .val (.int 1), .val (.int x1)]
  refine own_st (A := T193.setTop (mkF mM 35 Lv194 [])) (fun t_ k_ => XS.iinc X193.here hx rfl (hb hby d6_32) rfl (l' := Lv194) rfl k_) ?_
  let Lv195 : Array Slot := #[.val (.ref s'), .val (.int 2), .val (.ref d), .val (.int 2), .val (.int 4), .val (.int 1), .val (.int x1)]
  refine own_st (A := T193.setTop (mkF mM 38 Lv195 [])) (fun t_ k_ => XS.iinc X193.here hx rfl (hb hby d6_35) rfl (l' := Lv195) rfl k_) ?_
  let Lv196 : Array Slot := #[.val (.ref s'), .val (.int 2), .val (.ref d), .val (.int 2), .val (.int 4), .val (.int 2), .val (.int x1)]
  refine own_st (A := T193.setTop (mkF mM 41 Lv196 [])) (fun t_ k_ => XS.iinc X193.here hx rfl (hb hby d6_38) rfl (l' := Lv196) rfl k_) ?_
  refine o_goto 3 X193 hx (hb hby d6_41) (by decide) ?_
  refine o_iload 5 X193 hx (hb hby d6_3) rfl rfl ?_
  refine o_iload 7 X193 hx (hb hby d6_5) rfl rfl ?_
  refine o_icmpNo 10 X193 hx (hb hby d6_7) (tlt (by decide : ((2 : Int32) < (4 : Int32)))).2.1 rfl ?_
  refine o_aloadN 11 X193 hx (hb hby d6_10) rfl rfl rfl ?_
  refine o_iloadN 12 X193 hx (hb hby d6_11) rfl rfl ?_
  obtain ⟨cl197, Ar197, q197, S197, Nn197, H197, G197⟩ := id A_s'
  have hin197 : ¬ ((2 : Int32) < 0 ∨ cl197.slots.size ≤ ((2 : Int32)).toNatClampNeg) := inb_of S197 ⟨by decide, by decide⟩
  refine own_j 13 [.int x2] (fun t_ k_ => X193.caload hx (j := (2 : Int32)) (v := (.int x2)) (by rw [e193]; exact Ar197.1) (State.isArrayOf_alike hZ.alike Ar197.2.1) Ar197.2.2 hin197 (H197.at hin197 rfl) (g := (mkF mM 12 Lv196 [.int 2, .ref s'])) rfl rfl (hb hby d6_12) t_ k_) ?_
  let Lv198 : Array Slot := #[.val (.ref s'), .val (.int 2), .val (.ref d), .val (.int 2), .val (.int 4), .val (.int 2), .val (.int x2)]
  refine own_st (A := T193.setTop (mkF mM 15 Lv198 [])) (fun t_ k_ => XS.istore X193.here hx rfl (hb hby d6_13) rfl (l' := Lv198) rfl k_) ?_
  refine o_iload 17 X193 hx (hb hby d6_15) rfl rfl ?_
  refine o_sipush 20 255 X193 hx (hb hby d6_17) rfl rfl ?_
  refine o_icmpYes 26 X193 hx (hb hby d6_20) (flt l2).2.2.2 (by decide) ?_
  refine o_aloadN 27 X193 hx (hb hby d6_26) rfl rfl rfl ?_
  refine o_iloadN 28 X193 hx (hb hby d6_27) rfl rfl ?_
  refine o_iload 30 X193 hx (hb hby d6_28) rfl rfl ?_
  refine own_j 31 [(.int ((x2).toInt8.toInt32)), .int 2, .ref d] (fun t_ k_ => XS.i2b X193.here hx rfl (hb hby d6_30) rfl k_) ?_
  obtain ⟨cl199, Ar199, q199, S199, Nn199, H199, G199⟩ := id A_d
  obtain ⟨T200, h200, X200, e200, W200, st200⟩ := stB X193 hx hZ e193 Ar199 (j := (2 : Int32)) (inb_of S199 ⟨by decide, by decide⟩) (g := (mkF mM 31 Lv198 [(.int ((x2).toInt8.toInt32)), .int 2, .ref d])) rfl rfl (hb hby d6_31)
  have N200 := Fr.snoc X200 N193 g_d
  have A_s' := A_s'.other W200 nsd
  have Kp := Kp.wr W200 (Or.inl (List.mem_of_getElem? (i := 0) rfl))
  have A_d : Arv Z h200 d kd .byte 4 [(.int (((x0).toInt8.toInt32)).toInt8.toInt32), (.int (((x1).toInt8.toInt32)).toInt8.toInt32), (.int (((x2).toInt8.toInt32)).toInt8.toInt32), .int 0] (.int 0) := Arv.set Ar199 q199 S199 Nn199 H199 G199 (fits_nar_byte _) W200 2 rfl (Nat.le_of_ble_eq_true rfl)
  refine own_k T200 32 [] st200 ?_
  let Lv201 : Array Slot := #[.val (.ref s'), .val (.int 3), .val (.ref d), .val (.int 2), .val (.int 4), .val (.int 2), .val (.int x2)]
  refine own_st (A := T200.setTop (mkF mM 35 Lv201 [])) (fun t_ k_ => XS.iinc X200.here hx rfl (hb hby d6_32) rfl (l' := Lv201) rfl k_) ?_
  let Lv202 : Array Slot := #[.val (.ref s'), .val (.int 3), .val (.ref d), .val (.int 3), .val (.int 4), .val (.int 2), .val (.int x2)]
  refine own_st (A := T200.setTop (mkF mM 38 Lv202 [])) (fun t_ k_ => XS.iinc X200.here hx rfl (hb hby d6_35) rfl (l' := Lv202) rfl k_) ?_
  let Lv203 : Array Slot := #[.val (.ref s'), .val (.int 3), .val (.ref d), .val (.int 3), .val (.int 4), .val (.int 3), .val (.int x2)]
  refine own_st (A := T200.setTop (mkF mM 41 Lv203 [])) (fun t_ k_ => XS.iinc X200.here hx rfl (hb hby d6_38) rfl (l' := Lv203) rfl k_) ?_
  refine o_goto 3 X200 hx (hb hby d6_41) (by decide) ?_
  refine o_iload 5 X200 hx (hb hby d6_3) rfl rfl ?_
  refine o_iload 7 X200 hx (hb hby d6_5) rfl rfl ?_
  refine o_icmpNo 10 X200 hx (hb hby d6_7) (tlt (by decide : ((3 : Int32) < (4 : Int32)))).2.1 rfl ?_
  refine o_aloadN 11 X200 hx (hb hby d6_10) rfl rfl rfl ?_
  refine o_iloadN 12 X200 hx (hb hby d6_11) rfl rfl ?_
  obtain ⟨cl204, Ar204, q204, S204, Nn204, H204, G204⟩ := id A_s'
  have hin204 : ¬ ((3 : Int32) < 0 ∨ cl204.slots.size ≤ ((3 : Int32)).toNatClampNeg) := inb_of S204 ⟨by decide, by decide⟩
  refine own_j 13 [.int x3] (fun t_ k_ => X200.caload hx (j := (3 : Int32)) (v := (.int x3)) (by rw [e200]; exact Ar204.1) (State.isArrayOf_alike hZ.alike Ar204.2.1) Ar204.2.2 hin204 (H204.at hin204 rfl) (g := (mkF mM 12 Lv203 [.int 3, .ref s'])) rfl rfl (hb hby d6_12) t_ k_) ?_
  let Lv205 : Array Slot := #[.val (.ref s'), .val (.int 3), .val (.ref d), .val (.int 3), .val (.int 4), .val (.int 3), .val (.int x3)]
  refine own_st (A := T200.setTop (mkF mM 15 Lv205 [])) (fun t_ k_ => XS.istore X200.here hx rfl (hb hby d6_13) rfl (l' := Lv205) rfl k_) ?_
  refine o_iload 17 X200 hx (hb hby d6_15) rfl rfl ?_
  refine o_sipush 20 255 X200 hx (hb hby d6_17) rfl rfl ?_
  refine o_icmpNo 23 X200 hx (hb hby d6_20) (tlt big).2.2.2 rfl ?_
  refine o_iload 25 X200 hx (hb hby d6_23) rfl rfl ?_
  exact own_retI X200 hx hlk hret (hb hby d6_25) (by rw [e200]; exact ⟨rfl, N200, Kp⟩) (by decide) (by decide)
theorem ef_rmC3j3 (mM : MethodId) (s' : Addr) (ks : ClassId) (x0 : Int32) (x1 : Int32) (x2 : Int32) (x3 : Int32) : entryFrame mM #[.ref s', .int 0, .int 4] 6 = mkF mM 0 #[.val (.ref s'), .val (.int 0), .val (.int 4), .unset, .unset, .unset] [] := by first | (simp [entryFrame, mkF, argsToLocals, Value.category]; done) | rfl
theorem rmC3j3 (lL : Launch) (Z : State) (a0 : Array Value) (hw : own_tb a0 Z) (ws : List Jvm.Cond) (s' : Addr) (ks : ClassId) (x0 : Int32) (x1 : Int32) (x2 : Int32) (x3 : Int32) (h0 : Heap) (n0 : Nat) (A_s' : Arv Z h0 s' ks .char 4 [.int x0, .int x1, .int x2, .int x3] (.int 0)) (O : Old Z n0 h0) (Zn : n0 ≤ h0.size) (S_ad : Sta Z Z.heap "java/lang/StringUTF16" "$assertionsDisabled" "Z" (.int 1)) (S_hi : Sta Z Z.heap "java/lang/StringUTF16" "HI_BYTE_SHIFT" "I" (.int 0)) (S_lo : Sta Z Z.heap "java/lang/StringUTF16" "LO_BYTE_SHIFT" "I" (.int 8)) (cx0 : nar .char x0 = x0) (cx1 : nar .char x1 = x1) (cx2 : nar .char x2 = x2) (cx3 : nar .char x3 = x3) (l0 : ¬ (255 : Int32) < x0) (l1 : ¬ (255 : Int32) < x1) (l2 : ¬ (255 : Int32) < x2) (big : (255 : Int32) < x3) :
    own_Ct lL Z yn7 jdk_52_method_16_code 6 (some (.array .byte)) ws (⟨3, 2, 12, 40⟩ : Room) #[.ref s', .int 0, .int 4] h0 (QC3 Z 8 [(.int (lo8 x0)), (.int (hi8 x0)), (.int (lo8 x1)), (.int (hi8 x1)), (.int (lo8 x2)), (.int (hi8 x2)), (.int (lo8 x3)), (.int (hi8 x3))] h0 n0) := by
  refine own_body (plainFor_of_name pn_java_2flang_2fStringUTF16) 2 12 rfl rfl (fun mM => ef_rmC3j3 mM s' ks x0 x1 x2 x3) fun pP eE sS mM below meth cC s₁ hZ hx hby hml hown hnm hret hlk X0 e0 => ?_
  have N0 := Fr.nil n0
  have Kp := Keep.refl h0 []
  refine o_iloadN 1 X0 hx (hb hby d5_0) rfl rfl ?_
  obtain ⟨T206, h206, k206, X206, e206, E206, A206, st206⟩ := newP X0 hx hZ (ow hw 24 rfl) e0 (g := (mkF mM 1 #[.val (.ref s'), .val (.int 0), .val (.int 4), .unset, .unset, .unset] [.int 4])) rfl (hb hby d5_1) rfl (by decide) (cap := 4) (by decide) (by decide) (by decide) (by decide)
  obtain ⟨b206, g206⟩ : ∃ z, z = h0.size := ⟨_, rfl⟩
  rw [← g206] at A206 st206
  have ne_s'_b206 : s' ≠ b206 := Nat.ne_of_lt (Nat.lt_of_lt_of_le A_s'.lt (Nat.le_of_eq g206.symm))
  have g_b206 : n0 ≤ b206 := Nat.le_trans Zn (Nat.le_of_eq g206.symm)
  have b_b206 : h0.size ≤ b206 := Nat.le_trans Kp.1 (Nat.le_of_eq g206.symm)
  have O := O.ext E206
  have A_s' := A_s'.ext E206
  have Zn := Nat.le_trans Zn E206.1
  have Kp := Kp.ext E206
  have A_b206 : Arv Z h206 b206 k206 .byte 4 [.int 0, .int 0, .int 0, .int 0] (.int 0) := (Arv.new A206 (by decide)).pad (pad_rep [] (.int 0) 4)
  refine own_k T206 3 [.ref b206] st206 ?_
  let Lv207 : Array Slot := #[.val (.ref s'), .val (.int 0), .val (.int 4), .val (.ref b206), .unset, .unset]
  refine own_st (A := T206.setTop (mkF mM 4 Lv207 [])) (fun t_ k_ => XS.astoreN X206.here hx rfl (hb hby d5_3) rfl rfl (l' := Lv207) rfl k_) ?_
  refine o_aloadN 5 X206 hx (hb hby d5_4) rfl rfl rfl ?_
  refine o_iloadN 6 X206 hx (hb hby d5_5) rfl rfl ?_
  refine o_aloadN 7 X206 hx (hb hby d5_6) rfl rfl rfl ?_
  refine o_iconst 8 0 X206 hx (hb hby d5_7) rfl rfl ?_
  refine o_iloadN 9 X206 hx (hb hby d5_8) rfl rfl ?_
  obtain ⟨_, _, ⟨T208, L208, k208, n208⟩, -, X208, ⟨Lc208, hQ208, l208, y208, z208⟩, st208⟩ := Jvm.LawKit.callS X206 hx (y := yn6) hown (mvT hZ (ow hw 25 rfl)) (mvT hZ (ow hw 26 rfl)) (mvT hZ (ow hw 22 rfl)) (mvT hZ (ow hw 27 rfl)) (by decide) (backOf (W := 0) (rmC5j3 lL Z a0 hw [] s' ks b206 k206 x0 x1 x2 x3 h206 n0 A_s' A_b206 g_b206 ne_s'_b206 l0 l1 l2 big) hZ (ow hw 27 rfl) (ow hw 22 rfl) (by decide) (by decide)) (g := (mkF mM 9 Lv207 [.int 4, .int 0, .ref b206, .int 0, .ref s'])) rfl (by rw [hml]; rfl) (argsL := [.ref s', .int 0, .ref b206, .int 0, .int 4]) (rest := []) (lenOf pd__28_5bCI_5bBII_29I rfl) rfl (by show 2 * 0 + _ ≤ _; exact Nat.le_of_eq rfl) (hb hby d5_9) (fun _ _ => ⟨rfl, e206, (by decide : 1 + 0 ≤ _), (by decide : 4 + 0 ≤ _)⟩)
  dsimp only [Pt.U, Pt.locs, Pt.cells, Pt.slots] at X208 l208 y208 z208 st208 hQ208
  subst l208 y208 z208
  obtain ⟨rfl, N208q, K208⟩ := hQ208
  have N208 := Fr.app N0 N208q
  have e208 : T208.heap = T208.heap := rfl
  refine own_k T208 12 [.int 3] st208 ?_
  have A_s' := A_s'.keep K208 (ninS ne_s'_b206 nin0)
  have O := O.keep K208 (allS g_b206 all0)
  have Zn := Nat.le_trans Zn K208.1
  have Kp := Kp.trans K208 (allS (Or.inr b_b206) all0)
  let Lv209 : Array Slot := #[.val (.ref s'), .val (.int 0), .val (.int 4), .val (.ref b206), .val (.int 3), .unset]
  refine own_st (A := T208.setTop (mkF mM 14 Lv209 [])) (fun t_ k_ => XS.istore X208.here hx rfl (hb hby d5_12) rfl (l' := Lv209) rfl k_) ?_
  refine o_iload 16 X208 hx (hb hby d5_14) rfl rfl ?_
  refine o_iloadN 17 X208 hx (hb hby d5_16) rfl rfl ?_
  refine o_icmpNo 20 X208 hx (hb hby d5_17) (feq (by decide : ¬ ((3 : Int32) = (4 : Int32)))).1 rfl ?_
  refine o_aloadN 21 X208 hx (hb hby d5_20) rfl rfl rfl ?_
  refine o_iloadN 22 X208 hx (hb hby d5_21) rfl rfl ?_
  refine o_iloadN 23 X208 hx (hb hby d5_22) rfl rfl ?_
  obtain ⟨_, _, ⟨T210, L210, k210, n210⟩, -, X210, ⟨Lc210, hQ210, l210, y210, z210⟩, st210⟩ := Jvm.LawKit.callS X208 hx (y := yn3) hown (mvT hZ (ow hw 65 rfl)) (mvT hZ (ow hw 66 rfl)) (mvT hZ (ow hw 22 rfl)) (mvT hZ (ow hw 67 rfl)) (by decide) (backOf (W := 0) (rmTB lL Z a0 hw [] s' ks x0 x1 x2 x3 T208.heap n0 A_s' O Zn S_ad S_hi S_lo) hZ (ow hw 67 rfl) (ow hw 22 rfl) (by decide) (by decide)) (g := (mkF mM 23 Lv209 [.int 4, .int 0, .ref s'])) rfl (by rw [hml]; rfl) (argsL := [.ref s', .int 0, .int 4]) (rest := []) (lenOf pd__28_5bCII_29_5bB rfl) rfl (by show 2 * 0 + _ ≤ _; exact Nat.le_of_eq rfl) (hb hby d5_23) (fun _ _ => ⟨rfl, e208, (by decide : 1 + 1 ≤ _), (by decide : 4 + 8 ≤ _)⟩)
  dsimp only [Pt.U, Pt.locs, Pt.cells, Pt.slots] at X210 l210 y210 z210 st210 hQ210
  subst l210 y210 z210
  obtain ⟨b210, k210', rfl, N210q, E210, V210, ge210⟩ := hQ210
  have N210 := Fr.app N208 N210q
  have e210 : T210.heap = T210.heap := rfl
  refine own_k T210 26 [.ref b210] st210 ?_
  have b_b210 : h0.size ≤ b210 := Nat.le_trans Kp.1 ge210
  have O := O.ext E210
  have A_s' := A_s'.ext E210
  have Zn := Nat.le_trans Zn E210.1
  have Kp := Kp.ext E210
  have A_b210 := V210
  let Lv211 : Array Slot := #[.val (.ref s'), .val (.int 0), .val (.int 4), .val (.ref b206), .val (.int 3), .val (.ref b210)]
  refine own_st (A := T210.setTop (mkF mM 28 Lv211 [])) (fun t_ k_ => XS.astore X210.here hx rfl (hb hby d5_26) rfl rfl (l' := Lv211) rfl k_) ?_
  refine o_aload 30 X210 hx (hb hby d5_28) rfl rfl rfl ?_
  refine o_iload 32 X210 hx (hb hby d5_30) rfl rfl ?_
  obtain ⟨_, _, ⟨T212, L212, k212, n212⟩, -, X212, ⟨Lc212, hQ212, l212, y212, z212⟩, st212⟩ := Jvm.LawKit.callS X210 hx (y := yn4) hown (mvT hZ (ow hw 81 rfl)) (mvT hZ (ow hw 82 rfl)) (mvT hZ (ow hw 22 rfl)) (mvT hZ (ow hw 83 rfl)) (by decide) (backOf (W := 0) (rmGC3 lL Z a0 hw [] b210 k210' x0 x1 x2 x3 T210.heap n0 A_b210 O S_ad S_hi S_lo cx3) hZ (ow hw 83 rfl) (ow hw 22 rfl) (by decide) (by decide)) (g := (mkF mM 32 Lv211 [.int 3, .ref b210])) rfl (by rw [hml]; rfl) (argsL := [.ref b210, .int 3]) (rest := []) (lenOf pd__28_5bBI_29C rfl) rfl (by show 2 * 0 + _ ≤ _; exact Nat.le_of_eq rfl) (hb hby d5_32) (fun _ _ => ⟨rfl, e210, (by decide : 2 + 0 ≤ _), (by decide : 12 + 0 ≤ _)⟩)
  dsimp only [Pt.U, Pt.locs, Pt.cells, Pt.slots] at X212 l212 y212 z212 st212 hQ212
  subst l212 y212 z212
  obtain ⟨rfl, N212q, e212⟩ := hQ212
  have N212 := Fr.app N210 N212q
  refine own_k T212 35 [.int x3] st212 ?_
  refine o_sipush 38 255 X212 hx (hb hby d5_35) rfl rfl ?_
  refine o_icmpYes 54 X212 hx (hb hby d5_38) (tlt big).2.2.1 (by decide) ?_
  refine o_aload 56 X212 hx (hb hby d5_54) rfl rfl rfl ?_
  exact own_retA X212 hx hlk hret rfl rfl (hb hby d5_56) (by rw [e212]; exact ⟨_, _, rfl, N212, own_ext_of_keep Kp, A_b210, b_b210⟩) (by decide) (by decide)
theorem ef_rmS4j3 (mM : MethodId) (a : Addr) (s' : Addr) (ks : ClassId) (cs : Int32) (x0 : Int32) (x1 : Int32) (x2 : Int32) (x3 : Int32) : entryFrame mM #[.ref a, .ref s', .int 0, .int 4, .null] 6 = mkF mM 0 #[.val (.ref a), .val (.ref s'), .val (.int 0), .val (.int 4), .val .null, .unset] [] := by first | (simp [entryFrame, mkF, argsToLocals, Value.category]; done) | rfl
theorem rmS4j3 (lL : Launch) (Z : State) (a0 : Array Value) (hw : own_tb a0 Z) (ws : List Jvm.Cond) (a : Addr) (s' : Addr) (ks : ClassId) (cs : Int32) (x0 : Int32) (x1 : Int32) (x2 : Int32) (x3 : Int32) (h0 : Heap) (n0 : Nat) (g_a : n0 ≤ a) (E_a : Exa Z h0 a "java/lang/String") (F_a_value : Fld Z h0 a "java/lang/String" "value" "[B" .null) (F_a_coder : Fld Z h0 a "java/lang/String" "coder" "B" (.int 0)) (A_s' : Arv Z h0 s' ks .char 4 [.int x0, .int x1, .int x2, .int x3] (.int 0)) (nsa : s' ≠ a) (O : Old Z n0 h0) (Zn : n0 ≤ h0.size) (S_cs : Sta Z Z.heap "java/lang/String" "COMPACT_STRINGS" "Z" (.int cs)) (hcs : ¬ cs = (0 : Int32)) (S_ad : Sta Z Z.heap "java/lang/StringUTF16" "$assertionsDisabled" "Z" (.int 1)) (S_hi : Sta Z Z.heap "java/lang/StringUTF16" "HI_BYTE_SHIFT" "I" (.int 0)) (S_lo : Sta Z Z.heap "java/lang/StringUTF16" "LO_BYTE_SHIFT" "I" (.int 8)) (cx0 : nar .char x0 = x0) (cx1 : nar .char x1 = x1) (cx2 : nar .char x2 = x2) (cx3 : nar .char x3 = x3) (l0 : ¬ (255 : Int32) < x0) (l1 : ¬ (255 : Int32) < x1) (l2 : ¬ (255 : Int32) < x2) (big : (255 : Int32) < x3) :
    own_Ct lL Z yn8 jdk_42_method_149_code 6 none ws (⟨4, 2, 12, 57⟩ : Room) #[.ref a, .ref s', .int 0, .int 4, .null] h0 (QSU Z a x0 x1 x2 x3 h0 n0) := by
  refine own_body (plainFor_of_name pn_java_2flang_2fString) 2 12 rfl rfl (fun mM => ef_rmS4j3 mM a s' ks cs x0 x1 x2 x3) fun pP eE sS mM below meth cC s₁ hZ hx hby hml hown hnm hret hlk X0 e0 => ?_
  have N0 := Fr.nil n0
  have Kp := Keep.refl h0 [a]
  refine o_aloadN 1 X0 hx (hb hby d3_0) rfl rfl rfl ?_
  obtain ⟨T213, X213, e213, st213⟩ := initO X0 hx hZ hown (ow hw 16 rfl) (ow hw 17 rfl) (ow hw 18 rfl) e0 (g := (mkF mM 1 #[.val (.ref a), .val (.ref s'), .val (.int 0), .val (.int 4), .val .null, .unset] [.ref a])) rfl (by rw [hml]; rfl) rfl (hb hby d3_1) (by decide) (W := 0) (by show 2 * 0 + _ ≤ _; exact Nat.le_of_eq rfl) (by decide)
  refine own_k T213 4 [] st213 ?_
  refine o_iloadN 5 X213 hx (hb hby d3_4) rfl rfl ?_
  refine o_ifYes 27 X213 hx (hb hby d3_5) ((if0 _ _).trans (feq (by decide : ¬ ((4 : Int32) = (0 : Int32)))).2) (by decide) ?_
  obtain ⟨T214, X214, e214, st214⟩ := getS2 X213 hx hZ hown (host := "") (Or.inl (ow hw 19 rfl)) Via.refl e213 (S_cs.ext O.2) (g := (mkF mM 27 #[.val (.ref a), .val (.ref s'), .val (.int 0), .val (.int 4), .val .null, .unset] [])) rfl (hb hby d3_27)
  refine own_k T214 30 [.int cs] st214 ?_
  refine o_ifNo 33 X214 hx (hb hby d3_30) ((if0 _ _).trans (feq hcs).1) rfl ?_
  refine o_aloadN 34 X214 hx (hb hby d3_33) rfl rfl rfl ?_
  refine o_iloadN 35 X214 hx (hb hby d3_34) rfl rfl ?_
  refine o_iloadN 36 X214 hx (hb hby d3_35) rfl rfl ?_
  obtain ⟨_, _, ⟨T215, L215, k215, n215⟩, -, X215, ⟨Lc215, hQ215, l215, y215, z215⟩, st215⟩ := Jvm.LawKit.callS X214 hx (y := yn7) hown (mvT hZ (ow hw 20 rfl)) (mvT hZ (ow hw 21 rfl)) (mvT hZ (ow hw 22 rfl)) (mvT hZ (ow hw 23 rfl)) (by decide) (backOf (W := 0) (rmC3j3 lL Z a0 hw [] s' ks x0 x1 x2 x3 h0 n0 A_s' O Zn S_ad S_hi S_lo cx0 cx1 cx2 cx3 l0 l1 l2 big) hZ (ow hw 23 rfl) (ow hw 22 rfl) (by decide) (by decide)) (g := (mkF mM 36 #[.val (.ref a), .val (.ref s'), .val (.int 0), .val (.int 4), .val .null, .unset] [.int 4, .int 0, .ref s'])) rfl (by rw [hml]; rfl) (argsL := [.ref s', .int 0, .int 4]) (rest := []) (lenOf pd__28_5bCII_29_5bB rfl) rfl (by show 2 * 0 + _ ≤ _; exact Nat.le_of_eq rfl) (hb hby d3_36) (fun _ _ => ⟨rfl, e214, (by decide : 0 + 2 ≤ _), (by decide : 0 + 12 ≤ _)⟩)
  dsimp only [Pt.U, Pt.locs, Pt.cells, Pt.slots] at X215 l215 y215 z215 st215 hQ215
  subst l215 y215 z215
  obtain ⟨b215, k215', rfl, N215q, E215, V215, ge215⟩ := hQ215
  have N215 := Fr.app N0 N215q
  have e215 : T215.heap = T215.heap := rfl
  refine own_k T215 39 [.ref b215] st215 ?_
  have ne_a_b215 : a ≠ b215 := Nat.ne_of_lt (Nat.lt_of_lt_of_le E_a.lt ge215)
  have F_a_value := F_a_value.ext E215
  have F_a_coder := F_a_coder.ext E215
  have E_a := E_a.ext E215
  have O := O.ext E215
  have A_s' := A_s'.ext E215
  have Zn := Nat.le_trans Zn E215.1
  have Kp := Kp.ext E215
  have A_b215 := V215
  let Lv216 : Array Slot := #[.val (.ref a), .val (.ref s'), .val (.int 0), .val (.int 4), .val .null, .val (.ref b215)]
  refine own_st (A := T215.setTop (mkF mM 41 Lv216 [])) (fun t_ k_ => XS.astore X215.here hx rfl (hb hby d3_39) rfl rfl (l' := Lv216) rfl k_) ?_
  refine o_aloadN 42 X215 hx (hb hby d3_41) rfl rfl rfl ?_
  refine o_aload 44 X215 hx (hb hby d3_42) rfl rfl rfl ?_
  refine o_iloadN 45 X215 hx (hb hby d3_44) rfl rfl ?_
  obtain ⟨_, _, ⟨T217, L217, k217, n217⟩, -, X217, ⟨Lc217, hQ217, l217, y217, z217⟩, st217⟩ := Jvm.LawKit.callS X215 hx (y := yn5) hown (mvT hZ (ow hw 28 rfl)) (mvT hZ (ow hw 29 rfl)) (mvT hZ (ow hw 22 rfl)) (mvT hZ (ow hw 30 rfl)) (by decide) (backOf (W := 1) (rmCoU lL Z a0 hw [] b215 k215' x0 x1 x2 x3 T215.heap n0 A_b215) hZ (ow hw 30 rfl) (ow hw 22 rfl) (by decide) (by decide)) (g := (mkF mM 45 Lv216 [.int 4, .ref b215, .ref a])) rfl (by rw [hml]; rfl) (argsL := [.ref b215, .int 4]) (rest := [.ref a]) (lenOf pd__28_5bBI_29B rfl) rfl (by show 2 * 0 + _ ≤ _; exact Nat.le_of_eq rfl) (hb hby d3_45) (fun _ _ => ⟨rfl, e215, (by decide : 2 + 0 ≤ _), (by decide : 12 + 0 ≤ _)⟩)
  dsimp only [Pt.U, Pt.locs, Pt.cells, Pt.slots] at X217 l217 y217 z217 st217 hQ217
  subst l217 y217 z217
  obtain ⟨rfl, N217q, e217⟩ := hQ217
  have N217 := Fr.app N215 N217q
  refine own_k T217 48 [.int 1, .ref a] st217 ?_
  obtain ⟨T218, h218, X218, e218, W218, st218⟩ := putFN X217 hx hZ hown (ow hw 31 rfl) Via.refl e217 F_a_coder E_a (Or.inr ⟨(ow hw 32 rfl), rfl, hnm⟩) (ow hw 7 rfl) (ty := .byte) (v' := (.int 1)) (by decide) rfl (by decide) (g := (mkF mM 48 Lv216 [.int 1, .ref a])) rfl rfl (hb hby d3_48)
  have N218 := Fr.snoc X218 N217 g_a
  have F_a_value := F_a_value.other W218 (Or.inr (slot_ne (Or.inr (ow hw 34 rfl)) (Or.inr (ow hw 32 rfl)) (by decide) (t := (.array .byte)) (t' := .byte) (by decide) (by decide)))
  have F_a_coder := F_a_coder.same W218
  have E_a := E_a.wr W218
  have A_s' := A_s'.other W218 nsa
  have A_b215 := A_b215.other W218 (Ne.symm ne_a_b215)
  have O := O.wr W218 g_a
  have Zn := Nat.le_trans Zn (Keep.of_wr W218).1
  have Kp := Kp.wr W218 (Or.inl (List.mem_of_getElem? (i := 0) rfl))
  refine own_k T218 51 [] st218 ?_
  refine o_aloadN 52 X218 hx (hb hby d3_51) rfl rfl rfl ?_
  refine o_aload 54 X218 hx (hb hby d3_52) rfl rfl rfl ?_
  obtain ⟨T219, h219, X219, e219, W219, st219⟩ := putF X218 hx hZ hown (host := "") (Or.inl (ow hw 33 rfl)) Via.refl e218 F_a_value E_a (Or.inr ⟨(ow hw 34 rfl), rfl, hnm⟩) (ow hw 7 rfl) (ty := (.array .byte)) (by decide) rfl rfl (g := (mkF mM 54 Lv216 [.ref b215, .ref a])) rfl rfl (hb hby d3_54)
  have N219 := Fr.snoc X219 N218 g_a
  have F_a_value := F_a_value.same W219
  have F_a_coder := F_a_coder.other W219 (Or.inr (slot_ne (Or.inr (ow hw 32 rfl)) (Or.inr (ow hw 34 rfl)) (by decide) (t := .byte) (t' := (.array .byte)) (by decide) (by decide)))
  have E_a := E_a.wr W219
  have A_s' := A_s'.other W219 nsa
  have A_b215 := A_b215.other W219 (Ne.symm ne_a_b215)
  have O := O.wr W219 g_a
  have Zn := Nat.le_trans Zn (Keep.of_wr W219).1
  have Kp := Kp.wr W219 (Or.inl (List.mem_of_getElem? (i := 0) rfl))
  refine own_k T219 57 [] st219 ?_
  exact own_retV X219 hx hlk hret (hb hby d3_57) (by rw [e219]; exact ⟨rfl, N219, Kp, _, _, E_a, F_a_value, F_a_coder, A_b215⟩) (by decide) (by decide)
theorem ef_rmS1j3 (mM : MethodId) (a : Addr) (s' : Addr) (ks : ClassId) (cs : Int32) (x0 : Int32) (x1 : Int32) (x2 : Int32) (x3 : Int32) : entryFrame mM #[.ref a, .ref s'] 2 = mkF mM 0 #[.val (.ref a), .val (.ref s')] [] := by first | (simp [entryFrame, mkF, argsToLocals, Value.category]; done) | rfl
theorem rmS1j3 (lL : Launch) (Z : State) (a0 : Array Value) (hw : own_tb a0 Z) (ws : List Jvm.Cond) (a : Addr) (s' : Addr) (ks : ClassId) (cs : Int32) (x0 : Int32) (x1 : Int32) (x2 : Int32) (x3 : Int32) (h0 : Heap) (n0 : Nat) (g_a : n0 ≤ a) (E_a : Exa Z h0 a "java/lang/String") (F_a_value : Fld Z h0 a "java/lang/String" "value" "[B" .null) (F_a_coder : Fld Z h0 a "java/lang/String" "coder" "B" (.int 0)) (A_s' : Arv Z h0 s' ks .char 4 [.int x0, .int x1, .int x2, .int x3] (.int 0)) (nsa : s' ≠ a) (O : Old Z n0 h0) (Zn : n0 ≤ h0.size) (S_cs : Sta Z Z.heap "java/lang/String" "COMPACT_STRINGS" "Z" (.int cs)) (hcs : ¬ cs = (0 : Int32)) (S_ad : Sta Z Z.heap "java/lang/StringUTF16" "$assertionsDisabled" "Z" (.int 1)) (S_hi : Sta Z Z.heap "java/lang/StringUTF16" "HI_BYTE_SHIFT" "I" (.int 0)) (S_lo : Sta Z Z.heap "java/lang/StringUTF16" "LO_BYTE_SHIFT" "I" (.int 8)) (cx0 : nar .char x0 = x0) (cx1 : nar .char x1 = x1) (cx2 : nar .char x2 = x2) (cx3 : nar .char x3 = x3) (l0 : ¬ (255 : Int32) < x0) (l1 : ¬ (255 : Int32) < x1) (l2 : ¬ (255 : Int32) < x2) (big : (255 : Int32) < x3) :
    own_Ct lL Z yn9 jdk_42_method_3_code 2 none ws (⟨5, 2, 12, 74⟩ : Room) #[.ref a, .ref s'] h0 (QSC Z a x0 x1 x2 x3 h0 n0) := by
  refine own_body (plainFor_of_name pn_java_2flang_2fString) 2 12 rfl rfl (fun mM => ef_rmS1j3 mM a s' ks cs x0 x1 x2 x3) fun pP eE sS mM below meth cC s₁ hZ hx hby hml hown hnm hret hlk X0 e0 => ?_
  have N0 := Fr.nil n0
  refine o_aloadN 1 X0 hx (hb hby d2_0) rfl rfl rfl ?_
  refine o_aloadN 2 X0 hx (hb hby d2_1) rfl rfl rfl ?_
  refine o_iconst 3 0 X0 hx (hb hby d2_2) rfl rfl ?_
  refine o_aloadN 4 X0 hx (hb hby d2_3) rfl rfl rfl ?_
  obtain ⟨cl220, Ar220, q220, S220, Nn220, H220, G220⟩ := id A_s'
  refine own_j 5 [.int 4, .int 0, .ref s', .ref a] (fun t_ k_ => X0.arraylength hx (by rw [e0]; exact Ar220.1) (State.isArrayOf_alike hZ.alike Ar220.2.1) (g := (mkF mM 4 #[.val (.ref a), .val (.ref s')] [.ref s', .int 0, .ref s', .ref a])) rfl rfl (hb hby d2_4) t_ (by rw [len_of S220 Nn220]; exact k_)) ?_
  refine own_j 6 [.null, .int 4, .int 0, .ref s', .ref a] (fun t_ k_ => XS.aconstNull X0.here hx rfl (hb hby d2_5) k_) ?_
  obtain ⟨_, _, ⟨T221, L221, k221, n221⟩, -, X221, ⟨Lc221, hQ221, l221, y221, z221⟩, st221⟩ := X0.specialBack hx (y := yn8) rfl hown (mvT hZ (ow hw 12 rfl)) (mvT hZ (ow hw 13 rfl)) (mvT hZ (ow hw 15 rfl)) (by decide) (backOf (W := 0) (rmS4j3 lL Z a0 hw [] a s' ks cs x0 x1 x2 x3 h0 n0 g_a E_a F_a_value F_a_coder A_s' nsa O Zn S_cs hcs S_ad S_hi S_lo cx0 cx1 cx2 cx3 l0 l1 l2 big) hZ (ow hw 15 rfl) (ow hw 8 rfl) (by decide) (by decide)) (g := (mkF mM 6 #[.val (.ref a), .val (.ref s')] [.null, .int 4, .int 0, .ref s', .ref a])) rfl (by rw [hml]; rfl) (Steps.refl _) (a := a) (argsL := [.ref s', .int 0, .int 4, .null]) (rest := []) (lenOf pd__28_5bCIILjava_2flang_2fVoid_3b_29V rfl) rfl (by show 2 * 0 + _ ≤ _; exact Nat.le_of_eq rfl) (hb hby d2_6) (fun _ _ => ⟨rfl, e0, (by decide : 0 + 2 ≤ _), (by decide : 0 + 12 ≤ _)⟩)
  dsimp only [Pt.U, Pt.locs, Pt.cells, Pt.slots] at X221 l221 y221 z221 st221 hQ221
  subst l221 y221 z221
  obtain ⟨rfl, N221q, K221, R221⟩ := hQ221
  have N221 := Fr.app N0 N221q
  have e221 : T221.heap = T221.heap := rfl
  refine own_k T221 9 [] (fun t_ k_ => st221.trans k_) ?_
  exact own_retV X221 hx hlk hret (hb hby d2_9) ⟨rfl, N221, K221, Or.inr R221⟩ (by decide) (by decide)
theorem ef_rmS1j4 (mM : MethodId) (a : Addr) (s' : Addr) (ks : ClassId) (cs : Int32) (x0 : Int32) (x1 : Int32) (x2 : Int32) (x3 : Int32) : entryFrame mM #[.ref a, .ref s'] 2 = mkF mM 0 #[.val (.ref a), .val (.ref s')] [] := by first | (simp [entryFrame, mkF, argsToLocals, Value.category]; done) | rfl
theorem rmS1j4 (lL : Launch) (Z : State) (a0 : Array Value) (hw : own_tb a0 Z) (ws : List Jvm.Cond) (a : Addr) (s' : Addr) (ks : ClassId) (cs : Int32) (x0 : Int32) (x1 : Int32) (x2 : Int32) (x3 : Int32) (h0 : Heap) (n0 : Nat) (g_a : n0 ≤ a) (E_a : Exa Z h0 a "java/lang/String") (F_a_value : Fld Z h0 a "java/lang/String" "value" "[B" .null) (F_a_coder : Fld Z h0 a "java/lang/String" "coder" "B" (.int 0)) (A_s' : Arv Z h0 s' ks .char 4 [.int x0, .int x1, .int x2, .int x3] (.int 0)) (nsa : s' ≠ a) (O : Old Z n0 h0) (Zn : n0 ≤ h0.size) (S_cs : Sta Z Z.heap "java/lang/String" "COMPACT_STRINGS" "Z" (.int cs)) (hcs : ¬ cs = (0 : Int32)) (S_ad : Sta Z Z.heap "java/lang/StringUTF16" "$assertionsDisabled" "Z" (.int 1)) (S_hi : Sta Z Z.heap "java/lang/StringUTF16" "HI_BYTE_SHIFT" "I" (.int 0)) (S_lo : Sta Z Z.heap "java/lang/StringUTF16" "LO_BYTE_SHIFT" "I" (.int 8)) (cx0 : nar .char x0 = x0) (cx1 : nar .char x1 = x1) (cx2 : nar .char x2 = x2) (cx3 : nar .char x3 = x3) (l0 : ¬ (255 : Int32) < x0) (l1 : ¬ (255 : Int32) < x1) (l2 : ¬ (255 : Int32) < x2) (l3 : ¬ (255 : Int32) < x3) :
    own_Ct lL Z yn9 jdk_42_method_3_code 2 none ws (⟨5, 2, 12, 74⟩ : Room) #[.ref a, .ref s'] h0 (QSC Z a x0 x1 x2 x3 h0 n0) := by
  refine own_body (plainFor_of_name pn_java_2flang_2fString) 2 12 rfl rfl (fun mM => ef_rmS1j4 mM a s' ks cs x0 x1 x2 x3) fun pP eE sS mM below meth cC s₁ hZ hx hby hml hown hnm hret hlk X0 e0 => ?_
  have N0 := Fr.nil n0
  refine o_aloadN 1 X0 hx (hb hby d2_0) rfl rfl rfl ?_
  refine o_aloadN 2 X0 hx (hb hby d2_1) rfl rfl rfl ?_
  refine o_iconst 3 0 X0 hx (hb hby d2_2) rfl rfl ?_
  refine o_aloadN 4 X0 hx (hb hby d2_3) rfl rfl rfl ?_
  obtain ⟨cl222, Ar222, q222, S222, Nn222, H222, G222⟩ := id A_s'
  refine own_j 5 [.int 4, .int 0, .ref s', .ref a] (fun t_ k_ => X0.arraylength hx (by rw [e0]; exact Ar222.1) (State.isArrayOf_alike hZ.alike Ar222.2.1) (g := (mkF mM 4 #[.val (.ref a), .val (.ref s')] [.ref s', .int 0, .ref s', .ref a])) rfl rfl (hb hby d2_4) t_ (by rw [len_of S222 Nn222]; exact k_)) ?_
  refine own_j 6 [.null, .int 4, .int 0, .ref s', .ref a] (fun t_ k_ => XS.aconstNull X0.here hx rfl (hb hby d2_5) k_) ?_
  obtain ⟨_, _, ⟨T223, L223, k223, n223⟩, -, X223, ⟨Lc223, hQ223, l223, y223, z223⟩, st223⟩ := X0.specialBack hx (y := yn8) rfl hown (mvT hZ (ow hw 12 rfl)) (mvT hZ (ow hw 13 rfl)) (mvT hZ (ow hw 15 rfl)) (by decide) (backOf (W := 0) (rmS4_4 lL Z a0 hw [] a s' ks cs x0 x1 x2 x3 h0 n0 g_a E_a F_a_value F_a_coder A_s' nsa O Zn S_cs hcs (own_CkOf cx0 l0) (own_CkOf cx1 l1) (own_CkOf cx2 l2) (own_CkOf cx3 l3)) hZ (ow hw 15 rfl) (ow hw 8 rfl) (by decide) (by decide)) (g := (mkF mM 6 #[.val (.ref a), .val (.ref s')] [.null, .int 4, .int 0, .ref s', .ref a])) rfl (by rw [hml]; rfl) (Steps.refl _) (a := a) (argsL := [.ref s', .int 0, .int 4, .null]) (rest := []) (lenOf pd__28_5bCIILjava_2flang_2fVoid_3b_29V rfl) rfl (by show 2 * 0 + _ ≤ _; exact Nat.le_of_eq rfl) (hb hby d2_6) (fun _ _ => ⟨rfl, e0, (by decide : 0 + 1 ≤ _), (by decide : 0 + 4 ≤ _)⟩)
  dsimp only [Pt.U, Pt.locs, Pt.cells, Pt.slots] at X223 l223 y223 z223 st223 hQ223
  subst l223 y223 z223
  obtain ⟨d223, k223', rfl, N223q, K223, R223, -⟩ := hQ223
  have N223 := Fr.app N0 N223q
  have e223 : T223.heap = T223.heap := rfl
  refine own_k T223 9 [] (fun t_ k_ => st223.trans k_) ?_
  exact own_retV X223 hx hlk hret (hb hby d2_9) ⟨rfl, N223, K223, Or.inl ⟨⟨_, _, R223⟩, own_CkOf cx0 l0, own_CkOf cx1 l1, own_CkOf cx2 l2, own_CkOf cx3 l3⟩⟩ (by decide) (by decide)
theorem rmS1 (lL : Launch) (Z : State) (a0 : Array Value) (hw : own_tb a0 Z) (ws : List Jvm.Cond) (a : Addr) (s' : Addr) (ks : ClassId) (cs : Int32) (x0 : Int32) (x1 : Int32) (x2 : Int32) (x3 : Int32) (h0 : Heap) (n0 : Nat) (g_a : n0 ≤ a) (E_a : Exa Z h0 a "java/lang/String") (F_a_value : Fld Z h0 a "java/lang/String" "value" "[B" .null) (F_a_coder : Fld Z h0 a "java/lang/String" "coder" "B" (.int 0)) (A_s' : Arv Z h0 s' ks .char 4 [.int x0, .int x1, .int x2, .int x3] (.int 0)) (nsa : s' ≠ a) (O : Old Z n0 h0) (Zn : n0 ≤ h0.size) (S_cs : Sta Z Z.heap "java/lang/String" "COMPACT_STRINGS" "Z" (.int cs)) (hcs : ¬ cs = (0 : Int32)) (S_ad : Sta Z Z.heap "java/lang/StringUTF16" "$assertionsDisabled" "Z" (.int 1)) (S_hi : Sta Z Z.heap "java/lang/StringUTF16" "HI_BYTE_SHIFT" "I" (.int 0)) (S_lo : Sta Z Z.heap "java/lang/StringUTF16" "LO_BYTE_SHIFT" "I" (.int 8)) (cx0 : nar .char x0 = x0) (cx1 : nar .char x1 = x1) (cx2 : nar .char x2 = x2) (cx3 : nar .char x3 = x3) :
    own_Ct lL Z yn9 jdk_42_method_3_code 2 none ws (⟨5, 2, 12, 74⟩ : Room) #[.ref a, .ref s'] h0 (QSC Z a x0 x1 x2 x3 h0 n0) := by
  by_cases big : (255 : Int32) < x0
  · exact rmS1j0 lL Z a0 hw ws a s' ks cs x0 x1 x2 x3 h0 n0 g_a E_a F_a_value F_a_coder A_s' nsa O Zn S_cs hcs S_ad S_hi S_lo cx0 cx1 cx2 cx3 big
  · have l0 := big
    by_cases big : (255 : Int32) < x1
    · exact rmS1j1 lL Z a0 hw ws a s' ks cs x0 x1 x2 x3 h0 n0 g_a E_a F_a_value F_a_coder A_s' nsa O Zn S_cs hcs S_ad S_hi S_lo cx0 cx1 cx2 cx3 l0 big
    · have l1 := big
      by_cases big : (255 : Int32) < x2
      · exact rmS1j2 lL Z a0 hw ws a s' ks cs x0 x1 x2 x3 h0 n0 g_a E_a F_a_value F_a_coder A_s' nsa O Zn S_cs hcs S_ad S_hi S_lo cx0 cx1 cx2 cx3 l0 l1 big
      · have l2 := big
        by_cases big : (255 : Int32) < x3
        · exact rmS1j3 lL Z a0 hw ws a s' ks cs x0 x1 x2 x3 h0 n0 g_a E_a F_a_value F_a_coder A_s' nsa O Zn S_cs hcs S_ad S_hi S_lo cx0 cx1 cx2 cx3 l0 l1 l2 big
        · have l3 := big
          exact rmS1j4 lL Z a0 hw ws a s' ks cs x0 x1 x2 x3 h0 n0 g_a E_a F_a_value F_a_coder A_s' nsa O Zn S_cs hcs S_ad S_hi S_lo cx0 cx1 cx2 cx3 l0 l1 l2 l3
theorem d11_0 : decode jdk_42_method_154_code 0 = .ok (.getstatic 38, 3) := by decide +kernel
theorem d11_3 : decode jdk_42_method_154_code 3 = .ok (.ifCond .eq 14, 3) := by decide +kernel
theorem d11_6 : decode jdk_42_method_154_code 6 = .ok (.aload_n 0, 1) := by decide +kernel
theorem d11_7 : decode jdk_42_method_154_code 7 = .ok (.getfield 15, 3) := by decide +kernel
theorem d11_10 : decode jdk_42_method_154_code 10 = .ok (.ifCond .ne 7, 3) := by decide +kernel
theorem d11_13 : decode jdk_42_method_154_code 13 = .ok (.iconst 1, 1) := by decide +kernel
theorem d11_14 : decode jdk_42_method_154_code 14 = .ok (.goto 4, 3) := by decide +kernel
theorem d11_18 : decode jdk_42_method_154_code 18 = .ok (.ireturn, 1) := by decide +kernel
theorem ef_rmIL0 (mM : MethodId) (a : Addr) (cs : Int32) : entryFrame mM #[.ref a] 1 = mkF mM 0 #[.val (.ref a)] [] := by first | (simp [entryFrame, mkF, argsToLocals, Value.category]; done) | rfl
theorem rmIL0 (lL : Launch) (Z : State) (a0 : Array Value) (hw : own_tb a0 Z) (ws : List Jvm.Cond) (a : Addr) (cs : Int32) (h0 : Heap) (n0 : Nat) (fc : Fld Z h0 a "java/lang/String" "coder" "B" (.int 0)) (O : Old Z n0 h0) (S_cs : Sta Z Z.heap "java/lang/String" "COMPACT_STRINGS" "Z" (.int cs)) (hcs : ¬ cs = (0 : Int32)) :
    own_Ct lL Z yn10 jdk_42_method_154_code 1 (some .boolean) ws (⟨0, 0, 0, 0⟩ : Room) #[.ref a] h0 (Qw (.int 1) h0 n0) := by
  refine own_body (plainFor_of_name pn_java_2flang_2fString) 0 0 rfl rfl (fun mM => ef_rmIL0 mM a cs) fun pP eE sS mM below meth cC s₁ hZ hx hby hml hown hnm hret hlk X0 e0 => ?_
  have N0 := Fr.nil n0
  obtain ⟨T224, X224, e224, st224⟩ := getS2 X0 hx hZ hown (host := "") (Or.inl (ow hw 19 rfl)) Via.refl e0 (S_cs.ext O.2) (g := (mkF mM 0 #[.val (.ref a)] [])) rfl (hb hby d11_0)
  refine own_k T224 3 [.int cs] st224 ?_
  refine o_ifNo 6 X224 hx (hb hby d11_3) ((if0 _ _).trans (feq hcs).1) rfl ?_
  refine o_aloadN 7 X224 hx (hb hby d11_6) rfl rfl rfl ?_
  obtain ⟨T225, X225, e225, st225⟩ := getF X224 hx hZ hown (host := "") (Or.inl (ow hw 31 rfl)) Via.refl e224 fc (g := (mkF mM 7 #[.val (.ref a)] [.ref a])) rfl rfl (hb hby d11_7)
  refine own_k T225 10 [.int 0] st225 ?_
  refine o_ifNo 13 X225 hx (hb hby d11_10) ((if0 _ _).trans (teq (by decide : ((0 : Int32) = (0 : Int32)))).2) rfl ?_
  refine o_iconst 14 1 X225 hx (hb hby d11_13) rfl rfl ?_
  refine o_goto 18 X225 hx (hb hby d11_14) (by decide) ?_
  exact own_retN X225 hx hlk (t := .boolean) hret (by simp) (hb hby d11_18) (show Qw _ _ _ (some (.int 1)) _ _ from ⟨rfl, N0, e225⟩) (by decide) (by decide)
theorem d11_17 : decode jdk_42_method_154_code 17 = .ok (.iconst 0, 1) := by decide +kernel
theorem ef_rmIL1 (mM : MethodId) (a : Addr) (cs : Int32) : entryFrame mM #[.ref a] 1 = mkF mM 0 #[.val (.ref a)] [] := by first | (simp [entryFrame, mkF, argsToLocals, Value.category]; done) | rfl
theorem rmIL1 (lL : Launch) (Z : State) (a0 : Array Value) (hw : own_tb a0 Z) (ws : List Jvm.Cond) (a : Addr) (cs : Int32) (h0 : Heap) (n0 : Nat) (fc : Fld Z h0 a "java/lang/String" "coder" "B" (.int 1)) (O : Old Z n0 h0) (S_cs : Sta Z Z.heap "java/lang/String" "COMPACT_STRINGS" "Z" (.int cs)) (hcs : ¬ cs = (0 : Int32)) :
    own_Ct lL Z yn10 jdk_42_method_154_code 1 (some .boolean) ws (⟨0, 0, 0, 0⟩ : Room) #[.ref a] h0 (Qw (.int 0) h0 n0) := by
  refine own_body (plainFor_of_name pn_java_2flang_2fString) 0 0 rfl rfl (fun mM => ef_rmIL1 mM a cs) fun pP eE sS mM below meth cC s₁ hZ hx hby hml hown hnm hret hlk X0 e0 => ?_
  have N0 := Fr.nil n0
  obtain ⟨T226, X226, e226, st226⟩ := getS2 X0 hx hZ hown (host := "") (Or.inl (ow hw 19 rfl)) Via.refl e0 (S_cs.ext O.2) (g := (mkF mM 0 #[.val (.ref a)] [])) rfl (hb hby d11_0)
  refine own_k T226 3 [.int cs] st226 ?_
  refine o_ifNo 6 X226 hx (hb hby d11_3) ((if0 _ _).trans (feq hcs).1) rfl ?_
  refine o_aloadN 7 X226 hx (hb hby d11_6) rfl rfl rfl ?_
  obtain ⟨T227, X227, e227, st227⟩ := getF X226 hx hZ hown (host := "") (Or.inl (ow hw 31 rfl)) Via.refl e226 fc (g := (mkF mM 7 #[.val (.ref a)] [.ref a])) rfl rfl (hb hby d11_7)
  refine own_k T227 10 [.int 1] st227 ?_
  refine o_ifYes 17 X227 hx (hb hby d11_10) ((if0 _ _).trans (feq (by decide : ¬ ((1 : Int32) = (0 : Int32)))).2) (by decide) ?_
  refine o_iconst 18 0 X227 hx (hb hby d11_17) rfl rfl ?_
  exact own_retN X227 hx hlk (t := .boolean) hret (by simp) (hb hby d11_18) (show Qw _ _ _ (some (.int 0)) _ _ from ⟨rfl, N0, e227⟩) (by decide) (by decide)
theorem d22_0 : decode jdk_52_method_6_code 0 = .ok (.aload_n 0, 1) := by decide +kernel
theorem d22_1 : decode jdk_52_method_6_code 1 = .ok (.arraylength, 1) := by decide +kernel
theorem d22_2 : decode jdk_52_method_6_code 2 = .ok (.iconst 1, 1) := by decide +kernel
theorem d22_3 : decode jdk_52_method_6_code 3 = .ok (.ishr, 1) := by decide +kernel
theorem d22_4 : decode jdk_52_method_6_code 4 = .ok (.ireturn, 1) := by decide +kernel
theorem ef_rmUL (mM : MethodId) (d : Addr) (kd : ClassId) (x0 : Int32) (x1 : Int32) (x2 : Int32) (x3 : Int32) : entryFrame mM #[.ref d] 1 = mkF mM 0 #[.val (.ref d)] [] := by first | (simp [entryFrame, mkF, argsToLocals, Value.category]; done) | rfl
theorem rmUL (lL : Launch) (Z : State) (a0 : Array Value) (hw : own_tb a0 Z) (ws : List Jvm.Cond) (d : Addr) (kd : ClassId) (x0 : Int32) (x1 : Int32) (x2 : Int32) (x3 : Int32) (h0 : Heap) (n0 : Nat) (A_d : Arv Z h0 d kd .byte 8 [(.int (lo8 x0)), (.int (hi8 x0)), (.int (lo8 x1)), (.int (hi8 x1)), (.int (lo8 x2)), (.int (hi8 x2)), (.int (lo8 x3)), (.int (hi8 x3))] (.int 0)) :
    own_Ct lL Z yn11 jdk_52_method_6_code 1 (some .int) ws (⟨0, 0, 0, 0⟩ : Room) #[.ref d] h0 (Qw (.int 4) h0 n0) := by
  refine own_body (plainFor_of_name pn_java_2flang_2fStringUTF16) 0 0 rfl rfl (fun mM => ef_rmUL mM d kd x0 x1 x2 x3) fun pP eE sS mM below meth cC s₁ hZ hx hby hml hown hnm hret hlk X0 e0 => ?_
  have N0 := Fr.nil n0
  refine o_aloadN 1 X0 hx (hb hby d22_0) rfl rfl rfl ?_
  obtain ⟨cl228, Ar228, q228, S228, Nn228, H228, G228⟩ := id A_d
  refine own_j 2 [.int 8] (fun t_ k_ => X0.arraylength hx (by rw [e0]; exact Ar228.1) (State.isArrayOf_alike hZ.alike Ar228.2.1) (g := (mkF mM 1 #[.val (.ref d)] [.ref d])) rfl rfl (hb hby d22_1) t_ (by rw [len_of S228 Nn228]; exact k_)) ?_
  refine o_iconst 3 1 X0 hx (hb hby d22_2) rfl rfl ?_
  refine own_j 4 [.int 4] (fun t_ k_ => XS.ishr X0.here hx rfl (hb hby d22_3) rfl k_) ?_
  exact own_retI X0 hx hlk hret (hb hby d22_4) ⟨rfl, N0, e0⟩ (by decide) (by decide)
theorem d14_0 : decode jdk_41_method_11_code 0 = .ok (.iload_n 0, 1) := by decide +kernel
theorem d14_1 : decode jdk_41_method_11_code 1 = .ok (.ifCond .lt 8, 3) := by decide +kernel
theorem d14_4 : decode jdk_41_method_11_code 4 = .ok (.iload_n 0, 1) := by decide +kernel
theorem d14_5 : decode jdk_41_method_11_code 5 = .ok (.iload_n 1, 1) := by decide +kernel
theorem d14_6 : decode jdk_41_method_11_code 6 = .ok (.if_icmp .lt 10, 3) := by decide +kernel
theorem d14_16 : decode jdk_41_method_11_code 16 = .ok (.iload_n 0, 1) := by decide +kernel
theorem d14_17 : decode jdk_41_method_11_code 17 = .ok (.ireturn, 1) := by decide +kernel
theorem pn_jdk_2finternal_2futil_2fPreconditions : plainName "jdk/internal/util/Preconditions" = true := by first | (simp [plainName, overriddenIn]; done) | decide +kernel
theorem ef_rmPI0 (mM : MethodId) (fm : Value) (hfm : fm.isRef = true) : entryFrame mM #[.int 0, .int 4, fm] 3 = mkF mM 0 #[.val (.int 0), .val (.int 4), .val fm] [] := by rcases ref_cases hfm with rfl | ⟨aq, rfl⟩ <;> first | (simp [entryFrame, mkF, argsToLocals, Value.category]; done) | rfl
theorem rmPI0 (lL : Launch) (Z : State) (a0 : Array Value) (hw : own_tb a0 Z) (ws : List Jvm.Cond) (fm : Value) (h0 : Heap) (n0 : Nat) (hfm : fm.isRef = true) :
    own_Ct lL Z yn12 jdk_41_method_11_code 3 (some .int) ws (⟨0, 0, 0, 0⟩ : Room) #[.int 0, .int 4, fm] h0 (Qw (.int 0) h0 n0) := by
  refine own_body (plainFor_of_name pn_jdk_2finternal_2futil_2fPreconditions) 0 0 rfl rfl (fun mM => ef_rmPI0 mM fm hfm) fun pP eE sS mM below meth cC s₁ hZ hx hby hml hown hnm hret hlk X0 e0 => ?_
  have N0 := Fr.nil n0
  refine o_iloadN 1 X0 hx (hb hby d14_0) rfl rfl ?_
  refine o_ifNo 4 X0 hx (hb hby d14_1) ((if0 _ _).trans (flt (by decide : ¬ ((0 : Int32) < (0 : Int32)))).1) rfl ?_
  refine o_iloadN 5 X0 hx (hb hby d14_4) rfl rfl ?_
  refine o_iloadN 6 X0 hx (hb hby d14_5) rfl rfl ?_
  refine o_icmpYes 16 X0 hx (hb hby d14_6) (tlt (by decide : ((0 : Int32) < (4 : Int32)))).1 (by decide) ?_
  refine o_iloadN 17 X0 hx (hb hby d14_16) rfl rfl ?_
  exact own_retI X0 hx hlk hret (hb hby d14_17) ⟨rfl, N0, e0⟩ (by decide) (by decide)
theorem d13_0 : decode jdk_42_method_155_code 0 = .ok (.iload_n 0, 1) := by decide +kernel
theorem d13_1 : decode jdk_42_method_155_code 1 = .ok (.iload_n 1, 1) := by decide +kernel
theorem d13_2 : decode jdk_42_method_155_code 2 = .ok (.getstatic 1053, 3) := by decide +kernel
theorem d13_5 : decode jdk_42_method_155_code 5 = .ok (.invokestatic 1059, 3) := by decide +kernel
theorem pd__28IILjava_2futil_2ffunction_2fBiFunction_3b_29I : parseMethodDescriptor "(IILjava/util/function/BiFunction;)I" = some ⟨[.int, .int, (.object "java/util/function/BiFunction")], some .int⟩ := by decide +kernel
theorem d13_8 : decode jdk_42_method_155_code 8 = .ok (.pop, 1) := by decide +kernel
theorem d13_9 : decode jdk_42_method_155_code 9 = .ok (.return_, 1) := by decide +kernel
theorem ef_rmCI0 (mM : MethodId) (fm : Value) : entryFrame mM #[.int 0, .int 4] 2 = mkF mM 0 #[.val (.int 0), .val (.int 4)] [] := by first | (simp [entryFrame, mkF, argsToLocals, Value.category]; done) | rfl
theorem rmCI0 (lL : Launch) (Z : State) (a0 : Array Value) (hw : own_tb a0 Z) (ws : List Jvm.Cond) (fm : Value) (h0 : Heap) (n0 : Nat) (O : Old Z n0 h0) (S_fm : Sta Z Z.heap "jdk/internal/util/Preconditions" "SIOOBE_FORMATTER" "Ljava/util/function/BiFunction;" fm) (hfm : fm.isRef = true) :
    own_Ct lL Z yn13 jdk_42_method_155_code 2 none ws (⟨1, 0, 0, 14⟩ : Room) #[.int 0, .int 4] h0 (Q0 h0 n0) := by
  refine own_body (plainFor_of_name pn_java_2flang_2fString) 0 0 rfl rfl (fun mM => ef_rmCI0 mM fm) fun pP eE sS mM below meth cC s₁ hZ hx hby hml hown hnm hret hlk X0 e0 => ?_
  have N0 := Fr.nil n0
  refine o_iloadN 1 X0 hx (hb hby d13_0) rfl rfl ?_
  refine o_iloadN 2 X0 hx (hb hby d13_1) rfl rfl ?_
  obtain ⟨T229, X229, e229, st229⟩ := getS2 X0 hx hZ hown (host := "") (Or.inl (ow hw 60 rfl)) Via.refl e0 (S_fm.ext O.2) (g := (mkF mM 2 #[.val (.int 0), .val (.int 4)] [.int 4, .int 0])) rfl (hb hby d13_2)
  refine own_k T229 5 [fm, .int 4, .int 0] st229 ?_
  obtain ⟨_, _, ⟨T230, L230, k230, n230⟩, -, X230, ⟨Lc230, hQ230, l230, y230, z230⟩, st230⟩ := Jvm.LawKit.callS X229 hx (y := yn12) hown (mvT hZ (ow hw 62 rfl)) (mvT hZ (ow hw 63 rfl)) (mvT hZ (ow hw 61 rfl)) (mvT hZ (ow hw 64 rfl)) (by decide) (backOf (W := 0) (rmPI0 lL Z a0 hw [] fm h0 n0 hfm) hZ (ow hw 64 rfl) (ow hw 61 rfl) (by decide) (by decide)) (g := (mkF mM 5 #[.val (.int 0), .val (.int 4)] [fm, .int 4, .int 0])) rfl (by rw [hml]; rfl) (argsL := [.int 0, .int 4, fm]) (rest := []) (lenOf pd__28IILjava_2futil_2ffunction_2fBiFunction_3b_29I rfl) rfl (by show 2 * 0 + _ ≤ _; exact Nat.le_of_eq rfl) (hb hby d13_5) (fun _ _ => ⟨rfl, e229, (by decide : 0 + 0 ≤ _), (by decide : 0 + 0 ≤ _)⟩)
  dsimp only [Pt.U, Pt.locs, Pt.cells, Pt.slots] at X230 l230 y230 z230 st230 hQ230
  subst l230 y230 z230
  obtain ⟨rfl, N230q, e230⟩ := hQ230
  have N230 := Fr.app N0 N230q
  refine own_k T230 8 [.int 0] st230 ?_
  refine own_j 9 [] (fun t_ k_ => XS.pop X230.here hx rfl (hb hby d13_8) rfl rfl k_) ?_
  exact own_retV X230 hx hlk hret (hb hby d13_9) ⟨rfl, N230, e230⟩ (by decide) (by decide)
theorem d12_0 : decode jdk_43_method_2_code 0 = .ok (.iload_n 1, 1) := by decide +kernel
theorem d12_1 : decode jdk_43_method_2_code 1 = .ok (.aload_n 0, 1) := by decide +kernel
theorem d12_2 : decode jdk_43_method_2_code 2 = .ok (.arraylength, 1) := by decide +kernel
theorem d12_3 : decode jdk_43_method_2_code 3 = .ok (.invokestatic 9, 3) := by decide +kernel
theorem pd__28II_29V : parseMethodDescriptor "(II)V" = some ⟨[.int, .int], none⟩ := by decide +kernel
theorem d12_6 : decode jdk_43_method_2_code 6 = .ok (.aload_n 0, 1) := by decide +kernel
theorem d12_7 : decode jdk_43_method_2_code 7 = .ok (.iload_n 1, 1) := by decide +kernel
theorem d12_8 : decode jdk_43_method_2_code 8 = .ok (.baload, 1) := by decide +kernel
theorem d12_9 : decode jdk_43_method_2_code 9 = .ok (.sipush 255, 3) := by decide +kernel
theorem d12_12 : decode jdk_43_method_2_code 12 = .ok (.iand, 1) := by decide +kernel
theorem d12_13 : decode jdk_43_method_2_code 13 = .ok (.i2c, 1) := by decide +kernel
theorem d12_14 : decode jdk_43_method_2_code 14 = .ok (.ireturn, 1) := by decide +kernel
theorem pn_java_2flang_2fStringLatin1 : plainName "java/lang/StringLatin1" = true := by first | (simp [plainName, overriddenIn]; done) | decide +kernel
theorem ef_rmLA0 (mM : MethodId) (d : Addr) (kd : ClassId) (fm : Value) (x0 : Int32) (x1 : Int32) (x2 : Int32) (x3 : Int32) : entryFrame mM #[.ref d, .int 0] 2 = mkF mM 0 #[.val (.ref d), .val (.int 0)] [] := by first | (simp [entryFrame, mkF, argsToLocals, Value.category]; done) | rfl
theorem rmLA0 (lL : Launch) (Z : State) (a0 : Array Value) (hw : own_tb a0 Z) (ws : List Jvm.Cond) (d : Addr) (kd : ClassId) (fm : Value) (x0 : Int32) (x1 : Int32) (x2 : Int32) (x3 : Int32) (h0 : Heap) (n0 : Nat) (A_d : Arv Z h0 d kd .byte 4 [(.int (((x0).toInt8.toInt32)).toInt8.toInt32), (.int (((x1).toInt8.toInt32)).toInt8.toInt32), (.int (((x2).toInt8.toInt32)).toInt8.toInt32), (.int (((x3).toInt8.toInt32)).toInt8.toInt32)] (.int 0)) (O : Old Z n0 h0) (S_fm : Sta Z Z.heap "jdk/internal/util/Preconditions" "SIOOBE_FORMATTER" "Ljava/util/function/BiFunction;" fm) (hfm : fm.isRef = true) (ck : Ck x0) :
    own_Ct lL Z yn14 jdk_43_method_2_code 2 (some .char) ws (⟨2, 0, 0, 27⟩ : Room) #[.ref d, .int 0] h0 (Qw (.int x0) h0 n0) := by
  refine own_body (plainFor_of_name pn_java_2flang_2fStringLatin1) 0 0 rfl rfl (fun mM => ef_rmLA0 mM d kd fm x0 x1 x2 x3) fun pP eE sS mM below meth cC s₁ hZ hx hby hml hown hnm hret hlk X0 e0 => ?_
  have N0 := Fr.nil n0
  refine o_iloadN 1 X0 hx (hb hby d12_0) rfl rfl ?_
  refine o_aloadN 2 X0 hx (hb hby d12_1) rfl rfl rfl ?_
  obtain ⟨cl231, Ar231, q231, S231, Nn231, H231, G231⟩ := id A_d
  refine own_j 3 [.int 4, .int 0] (fun t_ k_ => X0.arraylength hx (by rw [e0]; exact Ar231.1) (State.isArrayOf_alike hZ.alike Ar231.2.1) (g := (mkF mM 2 #[.val (.ref d), .val (.int 0)] [.ref d, .int 0])) rfl rfl (hb hby d12_2) t_ (by rw [len_of S231 Nn231]; exact k_)) ?_
  obtain ⟨_, _, ⟨T232, L232, k232, n232⟩, -, X232, ⟨Lc232, hQ232, l232, y232, z232⟩, st232⟩ := Jvm.LawKit.callS X0 hx (y := yn13) hown (mvT hZ (ow hw 57 rfl)) (mvT hZ (ow hw 58 rfl)) (mvT hZ (ow hw 8 rfl)) (mvT hZ (ow hw 59 rfl)) (by decide) (backOf (W := 0) (rmCI0 lL Z a0 hw [] fm h0 n0 O S_fm hfm) hZ (ow hw 59 rfl) (ow hw 8 rfl) (by decide) (by decide)) (g := (mkF mM 3 #[.val (.ref d), .val (.int 0)] [.int 4, .int 0])) rfl (by rw [hml]; rfl) (argsL := [.int 0, .int 4]) (rest := []) (lenOf pd__28II_29V rfl) rfl (by show 2 * 0 + _ ≤ _; exact Nat.le_of_eq rfl) (hb hby d12_3) (fun _ _ => ⟨rfl, e0, (by decide : 0 + 0 ≤ _), (by decide : 0 + 0 ≤ _)⟩)
  dsimp only [Pt.U, Pt.locs, Pt.cells, Pt.slots] at X232 l232 y232 z232 st232 hQ232
  subst l232 y232 z232
  obtain ⟨rfl, N232q, e232⟩ := hQ232
  have N232 := Fr.app N0 N232q
  refine own_k T232 6 [] st232 ?_
  refine o_aloadN 7 X232 hx (hb hby d12_6) rfl rfl rfl ?_
  refine o_iloadN 8 X232 hx (hb hby d12_7) rfl rfl ?_
  obtain ⟨cl233, Ar233, q233, S233, Nn233, H233, G233⟩ := id A_d
  have hin233 : ¬ ((0 : Int32) < 0 ∨ cl233.slots.size ≤ ((0 : Int32)).toNatClampNeg) := inb_of S233 ⟨by decide, by decide⟩
  refine own_j 9 [(.int (((x0).toInt8.toInt32)).toInt8.toInt32)] (fun t_ k_ => X232.baloadBytes hx (j := (0 : Int32)) (v := (.int (((x0).toInt8.toInt32)).toInt8.toInt32)) (by rw [e232]; exact Ar233.1) (State.isArrayOf_alike hZ.alike Ar233.2.1) Ar233.2.2 hin233 (H233.at hin233 rfl) (g := (mkF mM 8 #[.val (.ref d), .val (.int 0)] [.int 0, .ref d])) rfl rfl (hb hby d12_8) t_ k_) ?_
  refine o_sipush 12 255 X232 hx (hb hby d12_9) rfl rfl ?_
  refine own_j 13 [(.int ((((x0).toInt8.toInt32)).toInt8.toInt32 &&& (255 : Int32)))] (fun t_ k_ => XS.iand X232.here hx rfl (hb hby d12_12) rfl k_) ?_
  refine own_j 14 [(.int ((((((x0).toInt8.toInt32)).toInt8.toInt32 &&& (255 : Int32))).toUInt32.toUInt16.toUInt32.toInt32))] (fun t_ k_ => XS.i2c X232.here hx rfl (hb hby d12_13) rfl k_) ?_
  exact own_retN X232 hx hlk (t := .char) hret (by simp) (hb hby d12_14) ⟨congrArg (fun t => some (Value.int t)) (own_rtL ck), N232, e232⟩ (by decide) (by decide)
theorem d21_0 : decode jdk_52_method_91_code 0 = .ok (.iload_n 0, 1) := by decide +kernel
theorem d21_1 : decode jdk_52_method_91_code 1 = .ok (.aload_n 1, 1) := by decide +kernel
theorem d21_2 : decode jdk_52_method_91_code 2 = .ok (.invokestatic 48, 3) := by decide +kernel
theorem pd__28_5bB_29I : parseMethodDescriptor "([B)I" = some ⟨[(.array .byte)], some .int⟩ := by decide +kernel
theorem d21_5 : decode jdk_52_method_91_code 5 = .ok (.invokestatic 414, 3) := by decide +kernel
theorem d21_8 : decode jdk_52_method_91_code 8 = .ok (.return_, 1) := by decide +kernel
theorem ef_rmUI0 (mM : MethodId) (d : Addr) (kd : ClassId) (fm : Value) (x0 : Int32) (x1 : Int32) (x2 : Int32) (x3 : Int32) : entryFrame mM #[.int 0, .ref d] 2 = mkF mM 0 #[.val (.int 0), .val (.ref d)] [] := by first | (simp [entryFrame, mkF, argsToLocals, Value.category]; done) | rfl
theorem rmUI0 (lL : Launch) (Z : State) (a0 : Array Value) (hw : own_tb a0 Z) (ws : List Jvm.Cond) (d : Addr) (kd : ClassId) (fm : Value) (x0 : Int32) (x1 : Int32) (x2 : Int32) (x3 : Int32) (h0 : Heap) (n0 : Nat) (A_d : Arv Z h0 d kd .byte 8 [(.int (lo8 x0)), (.int (hi8 x0)), (.int (lo8 x1)), (.int (hi8 x1)), (.int (lo8 x2)), (.int (hi8 x2)), (.int (lo8 x3)), (.int (hi8 x3))] (.int 0)) (O : Old Z n0 h0) (S_fm : Sta Z Z.heap "jdk/internal/util/Preconditions" "SIOOBE_FORMATTER" "Ljava/util/function/BiFunction;" fm) (hfm : fm.isRef = true) :
    own_Ct lL Z yn15 jdk_52_method_91_code 2 none ws (⟨2, 0, 0, 27⟩ : Room) #[.int 0, .ref d] h0 (Q0 h0 n0) := by
  refine own_body (plainFor_of_name pn_java_2flang_2fStringUTF16) 0 0 rfl rfl (fun mM => ef_rmUI0 mM d kd fm x0 x1 x2 x3) fun pP eE sS mM below meth cC s₁ hZ hx hby hml hown hnm hret hlk X0 e0 => ?_
  have N0 := Fr.nil n0
  refine o_iloadN 1 X0 hx (hb hby d21_0) rfl rfl ?_
  refine o_aloadN 2 X0 hx (hb hby d21_1) rfl rfl rfl ?_
  obtain ⟨_, _, ⟨T234, L234, k234, n234⟩, -, X234, ⟨Lc234, hQ234, l234, y234, z234⟩, st234⟩ := Jvm.LawKit.callS X0 hx (y := yn11) hown (mvT hZ (ow hw 90 rfl)) (mvT hZ (ow hw 91 rfl)) (mvT hZ (ow hw 22 rfl)) (mvT hZ (ow hw 92 rfl)) (by decide) (backOf (W := 1) (rmUL lL Z a0 hw [] d kd x0 x1 x2 x3 h0 n0 A_d) hZ (ow hw 92 rfl) (ow hw 22 rfl) (by decide) (by decide)) (g := (mkF mM 2 #[.val (.int 0), .val (.ref d)] [.ref d, .int 0])) rfl (by rw [hml]; rfl) (argsL := [.ref d]) (rest := [.int 0]) (lenOf pd__28_5bB_29I rfl) rfl (by show 2 * 0 + _ ≤ _; exact Nat.le_of_eq rfl) (hb hby d21_2) (fun _ _ => ⟨rfl, e0, (by decide : 0 + 0 ≤ _), (by decide : 0 + 0 ≤ _)⟩)
  dsimp only [Pt.U, Pt.locs, Pt.cells, Pt.slots] at X234 l234 y234 z234 st234 hQ234
  subst l234 y234 z234
  obtain ⟨rfl, N234q, e234⟩ := hQ234
  have N234 := Fr.app N0 N234q
  refine own_k T234 5 [.int 4, .int 0] st234 ?_
  obtain ⟨_, _, ⟨T235, L235, k235, n235⟩, -, X235, ⟨Lc235, hQ235, l235, y235, z235⟩, st235⟩ := Jvm.LawKit.callS X234 hx (y := yn13) hown (mvT hZ (ow hw 93 rfl)) (mvT hZ (ow hw 58 rfl)) (mvT hZ (ow hw 8 rfl)) (mvT hZ (ow hw 59 rfl)) (by decide) (backOf (W := 0) (rmCI0 lL Z a0 hw [] fm h0 n0 O S_fm hfm) hZ (ow hw 59 rfl) (ow hw 8 rfl) (by decide) (by decide)) (g := (mkF mM 5 #[.val (.int 0), .val (.ref d)] [.int 4, .int 0])) rfl (by rw [hml]; rfl) (argsL := [.int 0, .int 4]) (rest := []) (lenOf pd__28II_29V rfl) rfl (by show 2 * 0 + _ ≤ _; exact Nat.le_of_eq rfl) (hb hby d21_5) (fun _ _ => ⟨rfl, e234, (by decide : 0 + 0 ≤ _), (by decide : 0 + 0 ≤ _)⟩)
  dsimp only [Pt.U, Pt.locs, Pt.cells, Pt.slots] at X235 l235 y235 z235 st235 hQ235
  subst l235 y235 z235
  obtain ⟨rfl, N235q, e235⟩ := hQ235
  have N235 := Fr.app N234 N235q
  refine own_k T235 8 [] st235 ?_
  exact own_retV X235 hx hlk hret (hb hby d21_8) ⟨rfl, N235, e235⟩ (by decide) (by decide)
theorem d20_0 : decode jdk_52_method_83_code 0 = .ok (.iload_n 1, 1) := by decide +kernel
theorem d20_1 : decode jdk_52_method_83_code 1 = .ok (.aload_n 0, 1) := by decide +kernel
theorem d20_2 : decode jdk_52_method_83_code 2 = .ok (.invokestatic 67, 3) := by decide +kernel
theorem pd__28I_5bB_29V : parseMethodDescriptor "(I[B)V" = some ⟨[.int, (.array .byte)], none⟩ := by decide +kernel
theorem d20_5 : decode jdk_52_method_83_code 5 = .ok (.aload_n 0, 1) := by decide +kernel
theorem d20_6 : decode jdk_52_method_83_code 6 = .ok (.iload_n 1, 1) := by decide +kernel
theorem d20_7 : decode jdk_52_method_83_code 7 = .ok (.invokestatic 71, 3) := by decide +kernel
theorem d20_10 : decode jdk_52_method_83_code 10 = .ok (.ireturn, 1) := by decide +kernel
theorem ef_rmUA0 (mM : MethodId) (d : Addr) (kd : ClassId) (fm : Value) (x0 : Int32) (x1 : Int32) (x2 : Int32) (x3 : Int32) : entryFrame mM #[.ref d, .int 0] 2 = mkF mM 0 #[.val (.ref d), .val (.int 0)] [] := by first | (simp [entryFrame, mkF, argsToLocals, Value.category]; done) | rfl
theorem rmUA0 (lL : Launch) (Z : State) (a0 : Array Value) (hw : own_tb a0 Z) (ws : List Jvm.Cond) (d : Addr) (kd : ClassId) (fm : Value) (x0 : Int32) (x1 : Int32) (x2 : Int32) (x3 : Int32) (h0 : Heap) (n0 : Nat) (A_d : Arv Z h0 d kd .byte 8 [(.int (lo8 x0)), (.int (hi8 x0)), (.int (lo8 x1)), (.int (hi8 x1)), (.int (lo8 x2)), (.int (hi8 x2)), (.int (lo8 x3)), (.int (hi8 x3))] (.int 0)) (O : Old Z n0 h0) (S_fm : Sta Z Z.heap "jdk/internal/util/Preconditions" "SIOOBE_FORMATTER" "Ljava/util/function/BiFunction;" fm) (hfm : fm.isRef = true) (S_ad : Sta Z Z.heap "java/lang/StringUTF16" "$assertionsDisabled" "Z" (.int 1)) (S_hi : Sta Z Z.heap "java/lang/StringUTF16" "HI_BYTE_SHIFT" "I" (.int 0)) (S_lo : Sta Z Z.heap "java/lang/StringUTF16" "LO_BYTE_SHIFT" "I" (.int 8)) (cx0 : nar .char x0 = x0) :
    own_Ct lL Z yn16 jdk_52_method_83_code 2 (some .char) ws (⟨3, 0, 0, 40⟩ : Room) #[.ref d, .int 0] h0 (Qw (.int x0) h0 n0) := by
  refine own_body (plainFor_of_name pn_java_2flang_2fStringUTF16) 0 0 rfl rfl (fun mM => ef_rmUA0 mM d kd fm x0 x1 x2 x3) fun pP eE sS mM below meth cC s₁ hZ hx hby hml hown hnm hret hlk X0 e0 => ?_
  have N0 := Fr.nil n0
  refine o_iloadN 1 X0 hx (hb hby d20_0) rfl rfl ?_
  refine o_aloadN 2 X0 hx (hb hby d20_1) rfl rfl rfl ?_
  obtain ⟨_, _, ⟨T236, L236, k236, n236⟩, -, X236, ⟨Lc236, hQ236, l236, y236, z236⟩, st236⟩ := Jvm.LawKit.callS X0 hx (y := yn15) hown (mvT hZ (ow hw 87 rfl)) (mvT hZ (ow hw 88 rfl)) (mvT hZ (ow hw 22 rfl)) (mvT hZ (ow hw 89 rfl)) (by decide) (backOf (W := 0) (rmUI0 lL Z a0 hw [] d kd fm x0 x1 x2 x3 h0 n0 A_d O S_fm hfm) hZ (ow hw 89 rfl) (ow hw 22 rfl) (by decide) (by decide)) (g := (mkF mM 2 #[.val (.ref d), .val (.int 0)] [.ref d, .int 0])) rfl (by rw [hml]; rfl) (argsL := [.int 0, .ref d]) (rest := []) (lenOf pd__28I_5bB_29V rfl) rfl (by show 2 * 0 + _ ≤ _; exact Nat.le_of_eq rfl) (hb hby d20_2) (fun _ _ => ⟨rfl, e0, (by decide : 0 + 0 ≤ _), (by decide : 0 + 0 ≤ _)⟩)
  dsimp only [Pt.U, Pt.locs, Pt.cells, Pt.slots] at X236 l236 y236 z236 st236 hQ236
  subst l236 y236 z236
  obtain ⟨rfl, N236q, e236⟩ := hQ236
  have N236 := Fr.app N0 N236q
  refine own_k T236 5 [] st236 ?_
  refine o_aloadN 6 X236 hx (hb hby d20_5) rfl rfl rfl ?_
  refine o_iloadN 7 X236 hx (hb hby d20_6) rfl rfl ?_
  obtain ⟨_, _, ⟨T237, L237, k237, n237⟩, -, X237, ⟨Lc237, hQ237, l237, y237, z237⟩, st237⟩ := Jvm.LawKit.callS X236 hx (y := yn4) hown (mvT hZ (ow hw 81 rfl)) (mvT hZ (ow hw 82 rfl)) (mvT hZ (ow hw 22 rfl)) (mvT hZ (ow hw 83 rfl)) (by decide) (backOf (W := 0) (rmGC0 lL Z a0 hw [] d kd x0 x1 x2 x3 h0 n0 A_d O S_ad S_hi S_lo cx0) hZ (ow hw 83 rfl) (ow hw 22 rfl) (by decide) (by decide)) (g := (mkF mM 7 #[.val (.ref d), .val (.int 0)] [.int 0, .ref d])) rfl (by rw [hml]; rfl) (argsL := [.ref d, .int 0]) (rest := []) (lenOf pd__28_5bBI_29C rfl) rfl (by show 2 * 0 + _ ≤ _; exact Nat.le_of_eq rfl) (hb hby d20_7) (fun _ _ => ⟨rfl, e236, (by decide : 0 + 0 ≤ _), (by decide : 0 + 0 ≤ _)⟩)
  dsimp only [Pt.U, Pt.locs, Pt.cells, Pt.slots] at X237 l237 y237 z237 st237 hQ237
  subst l237 y237 z237
  obtain ⟨rfl, N237q, e237⟩ := hQ237
  have N237 := Fr.app N236 N237q
  refine own_k T237 10 [.int x0] st237 ?_
  exact own_retN X237 hx hlk (t := .char) hret (by simp) (hb hby d20_10) ⟨congrArg (fun t => some (Value.int t)) cx0, N237, e237⟩ (by decide) (by decide)
theorem d10_0 : decode jdk_42_method_56_code 0 = .ok (.aload_n 0, 1) := by decide +kernel
theorem d10_1 : decode jdk_42_method_56_code 1 = .ok (.invokevirtual 492, 3) := by decide +kernel
theorem pd__28_29Z : parseMethodDescriptor "()Z" = some ⟨[], some .boolean⟩ := by decide +kernel
theorem d10_4 : decode jdk_42_method_56_code 4 = .ok (.ifCond .eq 12, 3) := by decide +kernel
theorem d10_16 : decode jdk_42_method_56_code 16 = .ok (.aload_n 0, 1) := by decide +kernel
theorem d10_17 : decode jdk_42_method_56_code 17 = .ok (.getfield 9, 3) := by decide +kernel
theorem d10_20 : decode jdk_42_method_56_code 20 = .ok (.iload_n 1, 1) := by decide +kernel
theorem d10_21 : decode jdk_42_method_56_code 21 = .ok (.invokestatic 498, 3) := by decide +kernel
theorem d10_24 : decode jdk_42_method_56_code 24 = .ok (.ireturn, 1) := by decide +kernel
theorem ef_rmAU0 (mM : MethodId) (a : Addr) (cs : Int32) (fm : Value) (x0 : Int32) (x1 : Int32) (x2 : Int32) (x3 : Int32) : entryFrame mM #[.ref a, .int 0] 2 = mkF mM 0 #[.val (.ref a), .val (.int 0)] [] := by first | (simp [entryFrame, mkF, argsToLocals, Value.category]; done) | rfl
theorem rmAU0 (lL : Launch) (Z : State) (a0 : Array Value) (hw : own_tb a0 Z) (ws : List Jvm.Cond) (a : Addr) (cs : Int32) (fm : Value) (x0 : Int32) (x1 : Int32) (x2 : Int32) (x3 : Int32) (h0 : Heap) (n0 : Nat) (so : StrU Z h0 a x0 x1 x2 x3) (O : Old Z n0 h0) (S_fm : Sta Z Z.heap "jdk/internal/util/Preconditions" "SIOOBE_FORMATTER" "Ljava/util/function/BiFunction;" fm) (hfm : fm.isRef = true) (S_cs : Sta Z Z.heap "java/lang/String" "COMPACT_STRINGS" "Z" (.int cs)) (hcs : ¬ cs = (0 : Int32)) (S_ad : Sta Z Z.heap "java/lang/StringUTF16" "$assertionsDisabled" "Z" (.int 1)) (S_hi : Sta Z Z.heap "java/lang/StringUTF16" "HI_BYTE_SHIFT" "I" (.int 0)) (S_lo : Sta Z Z.heap "java/lang/StringUTF16" "LO_BYTE_SHIFT" "I" (.int 8)) (cx0 : nar .char x0 = x0) (cx1 : nar .char x1 = x1) (cx2 : nar .char x2 = x2) (cx3 : nar .char x3 = x3) :
    own_Ct lL Z yn17 jdk_42_method_56_code 2 (some .char) ws (⟨4, 0, 0, 53⟩ : Room) #[.ref a, .int 0] h0 (Qw (.int x0) h0 n0) := by
  refine own_body (plainFor_of_name pn_java_2flang_2fString) 0 0 rfl rfl (fun mM => ef_rmAU0 mM a cs fm x0 x1 x2 x3) fun pP eE sS mM below meth cC s₁ hZ hx hby hml hown hnm hret hlk X0 e0 => ?_
  have N0 := Fr.nil n0
  obtain ⟨d, kd, E_a, fv, fc, A_d⟩ := so
  refine o_aloadN 1 X0 hx (hb hby d10_0) rfl rfl rfl ?_
  obtain ⟨cq238, kq238, q238a, q238b, q238c⟩ := isOf hZ e0 E_a
  obtain ⟨_, _, ⟨T238, L238, k238, n238⟩, -, X238, ⟨Lc238, hQ238, l238, y238, z238⟩, st238⟩ := X0.virtualBack hx (y := yn10) (z := yn10) hown (mvT hZ (ow hw 48 rfl)) (mvT hZ (ow hw 49 rfl)) (notFace_of_selects (args := #[]) (mvT hZ (ow hw 51 rfl))) (mvT hZ (ow hw 51 rfl)) (mvT hZ (ow hw 50 rfl)) (by decide) (backOf (W := 0) (rmIL1 lL Z a0 hw [] a cs h0 n0 fc O S_cs hcs) hZ (ow hw 52 rfl) (ow hw 8 rfl) (by decide) (by decide)) q238a q238c (g := (mkF mM 1 #[.val (.ref a), .val (.int 0)] [.ref a])) rfl (by rw [hml]; rfl) (Steps.refl _) (argsL := []) (rest := []) (lenOf pd__28_29Z rfl) rfl (by show 2 * 0 + _ ≤ _; exact Nat.le_of_eq rfl) (hb hby d10_1) (fun _ _ => ⟨rfl, e0, (by decide : 0 + 0 ≤ _), (by decide : 0 + 0 ≤ _)⟩)
  dsimp only [Pt.U, Pt.locs, Pt.cells, Pt.slots] at X238 l238 y238 z238 st238 hQ238
  subst l238 y238 z238
  obtain ⟨rfl, N238q, e238⟩ := hQ238
  have N238 := Fr.app N0 N238q
  refine own_k T238 4 [.int 0] (fun t_ k_ => st238.trans k_) ?_
  refine o_ifYes 16 X238 hx (hb hby d10_4) ((if0 _ _).trans (teq (by decide : ((0 : Int32) = (0 : Int32)))).1) (by decide) ?_
  refine o_aloadN 17 X238 hx (hb hby d10_16) rfl rfl rfl ?_
  obtain ⟨T239, X239, e239, st239⟩ := getF X238 hx hZ hown (host := "") (Or.inl (ow hw 33 rfl)) Via.refl e238 fv (g := (mkF mM 17 #[.val (.ref a), .val (.int 0)] [.ref a])) rfl rfl (hb hby d10_17)
  refine own_k T239 20 [.ref d] st239 ?_
  refine o_iloadN 21 X239 hx (hb hby d10_20) rfl rfl ?_
  obtain ⟨_, _, ⟨T240, L240, k240, n240⟩, -, X240, ⟨Lc240, hQ240, l240, y240, z240⟩, st240⟩ := Jvm.LawKit.callS X239 hx (y := yn16) hown (mvT hZ (ow hw 84 rfl)) (mvT hZ (ow hw 85 rfl)) (mvT hZ (ow hw 22 rfl)) (mvT hZ (ow hw 86 rfl)) (by decide) (backOf (W := 0) (rmUA0 lL Z a0 hw [] d kd fm x0 x1 x2 x3 h0 n0 A_d O S_fm hfm S_ad S_hi S_lo cx0) hZ (ow hw 86 rfl) (ow hw 22 rfl) (by decide) (by decide)) (g := (mkF mM 21 #[.val (.ref a), .val (.int 0)] [.int 0, .ref d])) rfl (by rw [hml]; rfl) (argsL := [.ref d, .int 0]) (rest := []) (lenOf pd__28_5bBI_29C rfl) rfl (by show 2 * 0 + _ ≤ _; exact Nat.le_of_eq rfl) (hb hby d10_21) (fun _ _ => ⟨rfl, e239, (by decide : 0 + 0 ≤ _), (by decide : 0 + 0 ≤ _)⟩)
  dsimp only [Pt.U, Pt.locs, Pt.cells, Pt.slots] at X240 l240 y240 z240 st240 hQ240
  subst l240 y240 z240
  obtain ⟨rfl, N240q, e240⟩ := hQ240
  have N240 := Fr.app N238 N240q
  refine own_k T240 24 [.int x0] st240 ?_
  exact own_retN X240 hx hlk (t := .char) hret (by simp) (hb hby d10_24) ⟨congrArg (fun t => some (Value.int t)) cx0, N240, e240⟩ (by decide) (by decide)
theorem d10_7 : decode jdk_42_method_56_code 7 = .ok (.aload_n 0, 1) := by decide +kernel
theorem d10_8 : decode jdk_42_method_56_code 8 = .ok (.getfield 9, 3) := by decide +kernel
theorem d10_11 : decode jdk_42_method_56_code 11 = .ok (.iload_n 1, 1) := by decide +kernel
theorem d10_12 : decode jdk_42_method_56_code 12 = .ok (.invokestatic 495, 3) := by decide +kernel
theorem d10_15 : decode jdk_42_method_56_code 15 = .ok (.ireturn, 1) := by decide +kernel
theorem ef_rmAL0 (mM : MethodId) (a : Addr) (cs : Int32) (fm : Value) (x0 : Int32) (x1 : Int32) (x2 : Int32) (x3 : Int32) : entryFrame mM #[.ref a, .int 0] 2 = mkF mM 0 #[.val (.ref a), .val (.int 0)] [] := by first | (simp [entryFrame, mkF, argsToLocals, Value.category]; done) | rfl
theorem rmAL0 (lL : Launch) (Z : State) (a0 : Array Value) (hw : own_tb a0 Z) (ws : List Jvm.Cond) (a : Addr) (cs : Int32) (fm : Value) (x0 : Int32) (x1 : Int32) (x2 : Int32) (x3 : Int32) (h0 : Heap) (n0 : Nat) (so : StrL Z h0 a x0 x1 x2 x3) (O : Old Z n0 h0) (S_fm : Sta Z Z.heap "jdk/internal/util/Preconditions" "SIOOBE_FORMATTER" "Ljava/util/function/BiFunction;" fm) (hfm : fm.isRef = true) (S_cs : Sta Z Z.heap "java/lang/String" "COMPACT_STRINGS" "Z" (.int cs)) (hcs : ¬ cs = (0 : Int32)) (S_ad : Sta Z Z.heap "java/lang/StringUTF16" "$assertionsDisabled" "Z" (.int 1)) (S_hi : Sta Z Z.heap "java/lang/StringUTF16" "HI_BYTE_SHIFT" "I" (.int 0)) (S_lo : Sta Z Z.heap "java/lang/StringUTF16" "LO_BYTE_SHIFT" "I" (.int 8)) (cx0 : nar .char x0 = x0) (cx1 : nar .char x1 = x1) (cx2 : nar .char x2 = x2) (cx3 : nar .char x3 = x3) :
    own_Ct lL Z yn17 jdk_42_method_56_code 2 (some .char) ws (⟨4, 0, 0, 53⟩ : Room) #[.ref a, .int 0] h0 (Qw (.int x0) h0 n0) := by
  refine own_body (plainFor_of_name pn_java_2flang_2fString) 0 0 rfl rfl (fun mM => ef_rmAL0 mM a cs fm x0 x1 x2 x3) fun pP eE sS mM below meth cC s₁ hZ hx hby hml hown hnm hret hlk X0 e0 => ?_
  have N0 := Fr.nil n0
  obtain ⟨⟨d, kd, E_a, fv, fc, A_d⟩, k0, k1, k2, k3⟩ := so
  refine o_aloadN 1 X0 hx (hb hby d10_0) rfl rfl rfl ?_
  obtain ⟨cq241, kq241, q241a, q241b, q241c⟩ := isOf hZ e0 E_a
  obtain ⟨_, _, ⟨T241, L241, k241, n241⟩, -, X241, ⟨Lc241, hQ241, l241, y241, z241⟩, st241⟩ := X0.virtualBack hx (y := yn10) (z := yn10) hown (mvT hZ (ow hw 48 rfl)) (mvT hZ (ow hw 49 rfl)) (notFace_of_selects (args := #[]) (mvT hZ (ow hw 51 rfl))) (mvT hZ (ow hw 51 rfl)) (mvT hZ (ow hw 50 rfl)) (by decide) (backOf (W := 0) (rmIL0 lL Z a0 hw [] a cs h0 n0 fc O S_cs hcs) hZ (ow hw 52 rfl) (ow hw 8 rfl) (by decide) (by decide)) q241a q241c (g := (mkF mM 1 #[.val (.ref a), .val (.int 0)] [.ref a])) rfl (by rw [hml]; rfl) (Steps.refl _) (argsL := []) (rest := []) (lenOf pd__28_29Z rfl) rfl (by show 2 * 0 + _ ≤ _; exact Nat.le_of_eq rfl) (hb hby d10_1) (fun _ _ => ⟨rfl, e0, (by decide : 0 + 0 ≤ _), (by decide : 0 + 0 ≤ _)⟩)
  dsimp only [Pt.U, Pt.locs, Pt.cells, Pt.slots] at X241 l241 y241 z241 st241 hQ241
  subst l241 y241 z241
  obtain ⟨rfl, N241q, e241⟩ := hQ241
  have N241 := Fr.app N0 N241q
  refine own_k T241 4 [.int 1] (fun t_ k_ => st241.trans k_) ?_
  refine o_ifNo 7 X241 hx (hb hby d10_4) ((if0 _ _).trans (feq (by decide : ¬ ((1 : Int32) = (0 : Int32)))).1) rfl ?_
  refine o_aloadN 8 X241 hx (hb hby d10_7) rfl rfl rfl ?_
  obtain ⟨T242, X242, e242, st242⟩ := getF X241 hx hZ hown (host := "") (Or.inl (ow hw 33 rfl)) Via.refl e241 fv (g := (mkF mM 8 #[.val (.ref a), .val (.int 0)] [.ref a])) rfl rfl (hb hby d10_8)
  refine own_k T242 11 [.ref d] st242 ?_
  refine o_iloadN 12 X242 hx (hb hby d10_11) rfl rfl ?_
  obtain ⟨_, _, ⟨T243, L243, k243, n243⟩, -, X243, ⟨Lc243, hQ243, l243, y243, z243⟩, st243⟩ := Jvm.LawKit.callS X242 hx (y := yn14) hown (mvT hZ (ow hw 53 rfl)) (mvT hZ (ow hw 54 rfl)) (mvT hZ (ow hw 55 rfl)) (mvT hZ (ow hw 56 rfl)) (by decide) (backOf (W := 0) (rmLA0 lL Z a0 hw [] d kd fm x0 x1 x2 x3 h0 n0 A_d O S_fm hfm k0) hZ (ow hw 56 rfl) (ow hw 55 rfl) (by decide) (by decide)) (g := (mkF mM 12 #[.val (.ref a), .val (.int 0)] [.int 0, .ref d])) rfl (by rw [hml]; rfl) (argsL := [.ref d, .int 0]) (rest := []) (lenOf pd__28_5bBI_29C rfl) rfl (by show 2 * 0 + _ ≤ _; exact Nat.le_of_eq rfl) (hb hby d10_12) (fun _ _ => ⟨rfl, e242, (by decide : 0 + 0 ≤ _), (by decide : 0 + 0 ≤ _)⟩)
  dsimp only [Pt.U, Pt.locs, Pt.cells, Pt.slots] at X243 l243 y243 z243 st243 hQ243
  subst l243 y243 z243
  obtain ⟨rfl, N243q, e243⟩ := hQ243
  have N243 := Fr.app N241 N243q
  refine own_k T243 15 [.int x0] st243 ?_
  exact own_retN X243 hx hlk (t := .char) hret (by simp) (hb hby d10_15) ⟨congrArg (fun t => some (Value.int t)) cx0, N243, e243⟩ (by decide) (by decide)
theorem rmA0 (lL : Launch) (Z : State) (a0 : Array Value) (hw : own_tb a0 Z) (ws : List Jvm.Cond) (a : Addr) (cs : Int32) (fm : Value) (x0 : Int32) (x1 : Int32) (x2 : Int32) (x3 : Int32) (h0 : Heap) (n0 : Nat) (so : StrC Z h0 a x0 x1 x2 x3) (O : Old Z n0 h0) (S_fm : Sta Z Z.heap "jdk/internal/util/Preconditions" "SIOOBE_FORMATTER" "Ljava/util/function/BiFunction;" fm) (hfm : fm.isRef = true) (S_cs : Sta Z Z.heap "java/lang/String" "COMPACT_STRINGS" "Z" (.int cs)) (hcs : ¬ cs = (0 : Int32)) (S_ad : Sta Z Z.heap "java/lang/StringUTF16" "$assertionsDisabled" "Z" (.int 1)) (S_hi : Sta Z Z.heap "java/lang/StringUTF16" "HI_BYTE_SHIFT" "I" (.int 0)) (S_lo : Sta Z Z.heap "java/lang/StringUTF16" "LO_BYTE_SHIFT" "I" (.int 8)) (cx0 : nar .char x0 = x0) (cx1 : nar .char x1 = x1) (cx2 : nar .char x2 = x2) (cx3 : nar .char x3 = x3) :
    own_Ct lL Z yn17 jdk_42_method_56_code 2 (some .char) ws (⟨4, 0, 0, 53⟩ : Room) #[.ref a, .int 0] h0 (Qw (.int x0) h0 n0) := by
  rcases so with q | q
  · exact rmAL0 lL Z a0 hw ws a cs fm x0 x1 x2 x3 h0 n0 q O S_fm hfm S_cs hcs S_ad S_hi S_lo cx0 cx1 cx2 cx3
  · exact rmAU0 lL Z a0 hw ws a cs fm x0 x1 x2 x3 h0 n0 q O S_fm hfm S_cs hcs S_ad S_hi S_lo cx0 cx1 cx2 cx3
theorem ef_rmPI1 (mM : MethodId) (fm : Value) (hfm : fm.isRef = true) : entryFrame mM #[.int 1, .int 4, fm] 3 = mkF mM 0 #[.val (.int 1), .val (.int 4), .val fm] [] := by rcases ref_cases hfm with rfl | ⟨aq, rfl⟩ <;> first | (simp [entryFrame, mkF, argsToLocals, Value.category]; done) | rfl
theorem rmPI1 (lL : Launch) (Z : State) (a0 : Array Value) (hw : own_tb a0 Z) (ws : List Jvm.Cond) (fm : Value) (h0 : Heap) (n0 : Nat) (hfm : fm.isRef = true) :
    own_Ct lL Z yn12 jdk_41_method_11_code 3 (some .int) ws (⟨0, 0, 0, 0⟩ : Room) #[.int 1, .int 4, fm] h0 (Qw (.int 1) h0 n0) := by
  refine own_body (plainFor_of_name pn_jdk_2finternal_2futil_2fPreconditions) 0 0 rfl rfl (fun mM => ef_rmPI1 mM fm hfm) fun pP eE sS mM below meth cC s₁ hZ hx hby hml hown hnm hret hlk X0 e0 => ?_
  have N0 := Fr.nil n0
  refine o_iloadN 1 X0 hx (hb hby d14_0) rfl rfl ?_
  refine o_ifNo 4 X0 hx (hb hby d14_1) ((if0 _ _).trans (flt (by decide : ¬ ((1 : Int32) < (0 : Int32)))).1) rfl ?_
  refine o_iloadN 5 X0 hx (hb hby d14_4) rfl rfl ?_
  refine o_iloadN 6 X0 hx (hb hby d14_5) rfl rfl ?_
  refine o_icmpYes 16 X0 hx (hb hby d14_6) (tlt (by decide : ((1 : Int32) < (4 : Int32)))).1 (by decide) ?_
  refine o_iloadN 17 X0 hx (hb hby d14_16) rfl rfl ?_
  exact own_retI X0 hx hlk hret (hb hby d14_17) ⟨rfl, N0, e0⟩ (by decide) (by decide)
theorem ef_rmCI1 (mM : MethodId) (fm : Value) : entryFrame mM #[.int 1, .int 4] 2 = mkF mM 0 #[.val (.int 1), .val (.int 4)] [] := by first | (simp [entryFrame, mkF, argsToLocals, Value.category]; done) | rfl
theorem rmCI1 (lL : Launch) (Z : State) (a0 : Array Value) (hw : own_tb a0 Z) (ws : List Jvm.Cond) (fm : Value) (h0 : Heap) (n0 : Nat) (O : Old Z n0 h0) (S_fm : Sta Z Z.heap "jdk/internal/util/Preconditions" "SIOOBE_FORMATTER" "Ljava/util/function/BiFunction;" fm) (hfm : fm.isRef = true) :
    own_Ct lL Z yn13 jdk_42_method_155_code 2 none ws (⟨1, 0, 0, 14⟩ : Room) #[.int 1, .int 4] h0 (Q0 h0 n0) := by
  refine own_body (plainFor_of_name pn_java_2flang_2fString) 0 0 rfl rfl (fun mM => ef_rmCI1 mM fm) fun pP eE sS mM below meth cC s₁ hZ hx hby hml hown hnm hret hlk X0 e0 => ?_
  have N0 := Fr.nil n0
  refine o_iloadN 1 X0 hx (hb hby d13_0) rfl rfl ?_
  refine o_iloadN 2 X0 hx (hb hby d13_1) rfl rfl ?_
  obtain ⟨T244, X244, e244, st244⟩ := getS2 X0 hx hZ hown (host := "") (Or.inl (ow hw 60 rfl)) Via.refl e0 (S_fm.ext O.2) (g := (mkF mM 2 #[.val (.int 1), .val (.int 4)] [.int 4, .int 1])) rfl (hb hby d13_2)
  refine own_k T244 5 [fm, .int 4, .int 1] st244 ?_
  obtain ⟨_, _, ⟨T245, L245, k245, n245⟩, -, X245, ⟨Lc245, hQ245, l245, y245, z245⟩, st245⟩ := Jvm.LawKit.callS X244 hx (y := yn12) hown (mvT hZ (ow hw 62 rfl)) (mvT hZ (ow hw 63 rfl)) (mvT hZ (ow hw 61 rfl)) (mvT hZ (ow hw 64 rfl)) (by decide) (backOf (W := 0) (rmPI1 lL Z a0 hw [] fm h0 n0 hfm) hZ (ow hw 64 rfl) (ow hw 61 rfl) (by decide) (by decide)) (g := (mkF mM 5 #[.val (.int 1), .val (.int 4)] [fm, .int 4, .int 1])) rfl (by rw [hml]; rfl) (argsL := [.int 1, .int 4, fm]) (rest := []) (lenOf pd__28IILjava_2futil_2ffunction_2fBiFunction_3b_29I rfl) rfl (by show 2 * 0 + _ ≤ _; exact Nat.le_of_eq rfl) (hb hby d13_5) (fun _ _ => ⟨rfl, e244, (by decide : 0 + 0 ≤ _), (by decide : 0 + 0 ≤ _)⟩)
  dsimp only [Pt.U, Pt.locs, Pt.cells, Pt.slots] at X245 l245 y245 z245 st245 hQ245
  subst l245 y245 z245
  obtain ⟨rfl, N245q, e245⟩ := hQ245
  have N245 := Fr.app N0 N245q
  refine own_k T245 8 [.int 1] st245 ?_
  refine own_j 9 [] (fun t_ k_ => XS.pop X245.here hx rfl (hb hby d13_8) rfl rfl k_) ?_
  exact own_retV X245 hx hlk hret (hb hby d13_9) ⟨rfl, N245, e245⟩ (by decide) (by decide)
theorem ef_rmLA1 (mM : MethodId) (d : Addr) (kd : ClassId) (fm : Value) (x0 : Int32) (x1 : Int32) (x2 : Int32) (x3 : Int32) : entryFrame mM #[.ref d, .int 1] 2 = mkF mM 0 #[.val (.ref d), .val (.int 1)] [] := by first | (simp [entryFrame, mkF, argsToLocals, Value.category]; done) | rfl
theorem rmLA1 (lL : Launch) (Z : State) (a0 : Array Value) (hw : own_tb a0 Z) (ws : List Jvm.Cond) (d : Addr) (kd : ClassId) (fm : Value) (x0 : Int32) (x1 : Int32) (x2 : Int32) (x3 : Int32) (h0 : Heap) (n0 : Nat) (A_d : Arv Z h0 d kd .byte 4 [(.int (((x0).toInt8.toInt32)).toInt8.toInt32), (.int (((x1).toInt8.toInt32)).toInt8.toInt32), (.int (((x2).toInt8.toInt32)).toInt8.toInt32), (.int (((x3).toInt8.toInt32)).toInt8.toInt32)] (.int 0)) (O : Old Z n0 h0) (S_fm : Sta Z Z.heap "jdk/internal/util/Preconditions" "SIOOBE_FORMATTER" "Ljava/util/function/BiFunction;" fm) (hfm : fm.isRef = true) (ck : Ck x1) :
    own_Ct lL Z yn14 jdk_43_method_2_code 2 (some .char) ws (⟨2, 0, 0, 27⟩ : Room) #[.ref d, .int 1] h0 (Qw (.int x1) h0 n0) := by
  refine own_body (plainFor_of_name pn_java_2flang_2fStringLatin1) 0 0 rfl rfl (fun mM => ef_rmLA1 mM d kd fm x0 x1 x2 x3) fun pP eE sS mM below meth cC s₁ hZ hx hby hml hown hnm hret hlk X0 e0 => ?_
  have N0 := Fr.nil n0
  refine o_iloadN 1 X0 hx (hb hby d12_0) rfl rfl ?_
  refine o_aloadN 2 X0 hx (hb hby d12_1) rfl rfl rfl ?_
  obtain ⟨cl246, Ar246, q246, S246, Nn246, H246, G246⟩ := id A_d
  refine own_j 3 [.int 4, .int 1] (fun t_ k_ => X0.arraylength hx (by rw [e0]; exact Ar246.1) (State.isArrayOf_alike hZ.alike Ar246.2.1) (g := (mkF mM 2 #[.val (.ref d), .val (.int 1)] [.ref d, .int 1])) rfl rfl (hb hby d12_2) t_ (by rw [len_of S246 Nn246]; exact k_)) ?_
  obtain ⟨_, _, ⟨T247, L247, k247, n247⟩, -, X247, ⟨Lc247, hQ247, l247, y247, z247⟩, st247⟩ := Jvm.LawKit.callS X0 hx (y := yn13) hown (mvT hZ (ow hw 57 rfl)) (mvT hZ (ow hw 58 rfl)) (mvT hZ (ow hw 8 rfl)) (mvT hZ (ow hw 59 rfl)) (by decide) (backOf (W := 0) (rmCI1 lL Z a0 hw [] fm h0 n0 O S_fm hfm) hZ (ow hw 59 rfl) (ow hw 8 rfl) (by decide) (by decide)) (g := (mkF mM 3 #[.val (.ref d), .val (.int 1)] [.int 4, .int 1])) rfl (by rw [hml]; rfl) (argsL := [.int 1, .int 4]) (rest := []) (lenOf pd__28II_29V rfl) rfl (by show 2 * 0 + _ ≤ _; exact Nat.le_of_eq rfl) (hb hby d12_3) (fun _ _ => ⟨rfl, e0, (by decide : 0 + 0 ≤ _), (by decide : 0 + 0 ≤ _)⟩)
  dsimp only [Pt.U, Pt.locs, Pt.cells, Pt.slots] at X247 l247 y247 z247 st247 hQ247
  subst l247 y247 z247
  obtain ⟨rfl, N247q, e247⟩ := hQ247
  have N247 := Fr.app N0 N247q
  refine own_k T247 6 [] st247 ?_
  refine o_aloadN 7 X247 hx (hb hby d12_6) rfl rfl rfl ?_
  refine o_iloadN 8 X247 hx (hb hby d12_7) rfl rfl ?_
  obtain ⟨cl248, Ar248, q248, S248, Nn248, H248, G248⟩ := id A_d
  have hin248 : ¬ ((1 : Int32) < 0 ∨ cl248.slots.size ≤ ((1 : Int32)).toNatClampNeg) := inb_of S248 ⟨by decide, by decide⟩
  refine own_j 9 [(.int (((x1).toInt8.toInt32)).toInt8.toInt32)] (fun t_ k_ => X247.baloadBytes hx (j := (1 : Int32)) (v := (.int (((x1).toInt8.toInt32)).toInt8.toInt32)) (by rw [e247]; exact Ar248.1) (State.isArrayOf_alike hZ.alike Ar248.2.1) Ar248.2.2 hin248 (H248.at hin248 rfl) (g := (mkF mM 8 #[.val (.ref d), .val (.int 1)] [.int 1, .ref d])) rfl rfl (hb hby d12_8) t_ k_) ?_
  refine o_sipush 12 255 X247 hx (hb hby d12_9) rfl rfl ?_
  refine own_j 13 [(.int ((((x1).toInt8.toInt32)).toInt8.toInt32 &&& (255 : Int32)))] (fun t_ k_ => XS.iand X247.here hx rfl (hb hby d12_12) rfl k_) ?_
  refine own_j 14 [(.int ((((((x1).toInt8.toInt32)).toInt8.toInt32 &&& (255 : Int32))).toUInt32.toUInt16.toUInt32.toInt32))] (fun t_ k_ => XS.i2c X247.here hx rfl (hb hby d12_13) rfl k_) ?_
  exact own_retN X247 hx hlk (t := .char) hret (by simp) (hb hby d12_14) ⟨congrArg (fun t => some (Value.int t)) (own_rtL ck), N247, e247⟩ (by decide) (by decide)
theorem ef_rmUI1 (mM : MethodId) (d : Addr) (kd : ClassId) (fm : Value) (x0 : Int32) (x1 : Int32) (x2 : Int32) (x3 : Int32) : entryFrame mM #[.int 1, .ref d] 2 = mkF mM 0 #[.val (.int 1), .val (.ref d)] [] := by first | (simp [entryFrame, mkF, argsToLocals, Value.category]; done) | rfl
theorem rmUI1 (lL : Launch) (Z : State) (a0 : Array Value) (hw : own_tb a0 Z) (ws : List Jvm.Cond) (d : Addr) (kd : ClassId) (fm : Value) (x0 : Int32) (x1 : Int32) (x2 : Int32) (x3 : Int32) (h0 : Heap) (n0 : Nat) (A_d : Arv Z h0 d kd .byte 8 [(.int (lo8 x0)), (.int (hi8 x0)), (.int (lo8 x1)), (.int (hi8 x1)), (.int (lo8 x2)), (.int (hi8 x2)), (.int (lo8 x3)), (.int (hi8 x3))] (.int 0)) (O : Old Z n0 h0) (S_fm : Sta Z Z.heap "jdk/internal/util/Preconditions" "SIOOBE_FORMATTER" "Ljava/util/function/BiFunction;" fm) (hfm : fm.isRef = true) :
    own_Ct lL Z yn15 jdk_52_method_91_code 2 none ws (⟨2, 0, 0, 27⟩ : Room) #[.int 1, .ref d] h0 (Q0 h0 n0) := by
  refine own_body (plainFor_of_name pn_java_2flang_2fStringUTF16) 0 0 rfl rfl (fun mM => ef_rmUI1 mM d kd fm x0 x1 x2 x3) fun pP eE sS mM below meth cC s₁ hZ hx hby hml hown hnm hret hlk X0 e0 => ?_
  have N0 := Fr.nil n0
  refine o_iloadN 1 X0 hx (hb hby d21_0) rfl rfl ?_
  refine o_aloadN 2 X0 hx (hb hby d21_1) rfl rfl rfl ?_
  obtain ⟨_, _, ⟨T249, L249, k249, n249⟩, -, X249, ⟨Lc249, hQ249, l249, y249, z249⟩, st249⟩ := Jvm.LawKit.callS X0 hx (y := yn11) hown (mvT hZ (ow hw 90 rfl)) (mvT hZ (ow hw 91 rfl)) (mvT hZ (ow hw 22 rfl)) (mvT hZ (ow hw 92 rfl)) (by decide) (backOf (W := 1) (rmUL lL Z a0 hw [] d kd x0 x1 x2 x3 h0 n0 A_d) hZ (ow hw 92 rfl) (ow hw 22 rfl) (by decide) (by decide)) (g := (mkF mM 2 #[.val (.int 1), .val (.ref d)] [.ref d, .int 1])) rfl (by rw [hml]; rfl) (argsL := [.ref d]) (rest := [.int 1]) (lenOf pd__28_5bB_29I rfl) rfl (by show 2 * 0 + _ ≤ _; exact Nat.le_of_eq rfl) (hb hby d21_2) (fun _ _ => ⟨rfl, e0, (by decide : 0 + 0 ≤ _), (by decide : 0 + 0 ≤ _)⟩)
  dsimp only [Pt.U, Pt.locs, Pt.cells, Pt.slots] at X249 l249 y249 z249 st249 hQ249
  subst l249 y249 z249
  obtain ⟨rfl, N249q, e249⟩ := hQ249
  have N249 := Fr.app N0 N249q
  refine own_k T249 5 [.int 4, .int 1] st249 ?_
  obtain ⟨_, _, ⟨T250, L250, k250, n250⟩, -, X250, ⟨Lc250, hQ250, l250, y250, z250⟩, st250⟩ := Jvm.LawKit.callS X249 hx (y := yn13) hown (mvT hZ (ow hw 93 rfl)) (mvT hZ (ow hw 58 rfl)) (mvT hZ (ow hw 8 rfl)) (mvT hZ (ow hw 59 rfl)) (by decide) (backOf (W := 0) (rmCI1 lL Z a0 hw [] fm h0 n0 O S_fm hfm) hZ (ow hw 59 rfl) (ow hw 8 rfl) (by decide) (by decide)) (g := (mkF mM 5 #[.val (.int 1), .val (.ref d)] [.int 4, .int 1])) rfl (by rw [hml]; rfl) (argsL := [.int 1, .int 4]) (rest := []) (lenOf pd__28II_29V rfl) rfl (by show 2 * 0 + _ ≤ _; exact Nat.le_of_eq rfl) (hb hby d21_5) (fun _ _ => ⟨rfl, e249, (by decide : 0 + 0 ≤ _), (by decide : 0 + 0 ≤ _)⟩)
  dsimp only [Pt.U, Pt.locs, Pt.cells, Pt.slots] at X250 l250 y250 z250 st250 hQ250
  subst l250 y250 z250
  obtain ⟨rfl, N250q, e250⟩ := hQ250
  have N250 := Fr.app N249 N250q
  refine own_k T250 8 [] st250 ?_
  exact own_retV X250 hx hlk hret (hb hby d21_8) ⟨rfl, N250, e250⟩ (by decide) (by decide)
theorem ef_rmUA1 (mM : MethodId) (d : Addr) (kd : ClassId) (fm : Value) (x0 : Int32) (x1 : Int32) (x2 : Int32) (x3 : Int32) : entryFrame mM #[.ref d, .int 1] 2 = mkF mM 0 #[.val (.ref d), .val (.int 1)] [] := by first | (simp [entryFrame, mkF, argsToLocals, Value.category]; done) | rfl
theorem rmUA1 (lL : Launch) (Z : State) (a0 : Array Value) (hw : own_tb a0 Z) (ws : List Jvm.Cond) (d : Addr) (kd : ClassId) (fm : Value) (x0 : Int32) (x1 : Int32) (x2 : Int32) (x3 : Int32) (h0 : Heap) (n0 : Nat) (A_d : Arv Z h0 d kd .byte 8 [(.int (lo8 x0)), (.int (hi8 x0)), (.int (lo8 x1)), (.int (hi8 x1)), (.int (lo8 x2)), (.int (hi8 x2)), (.int (lo8 x3)), (.int (hi8 x3))] (.int 0)) (O : Old Z n0 h0) (S_fm : Sta Z Z.heap "jdk/internal/util/Preconditions" "SIOOBE_FORMATTER" "Ljava/util/function/BiFunction;" fm) (hfm : fm.isRef = true) (S_ad : Sta Z Z.heap "java/lang/StringUTF16" "$assertionsDisabled" "Z" (.int 1)) (S_hi : Sta Z Z.heap "java/lang/StringUTF16" "HI_BYTE_SHIFT" "I" (.int 0)) (S_lo : Sta Z Z.heap "java/lang/StringUTF16" "LO_BYTE_SHIFT" "I" (.int 8)) (cx1 : nar .char x1 = x1) :
    own_Ct lL Z yn16 jdk_52_method_83_code 2 (some .char) ws (⟨3, 0, 0, 40⟩ : Room) #[.ref d, .int 1] h0 (Qw (.int x1) h0 n0) := by
  refine own_body (plainFor_of_name pn_java_2flang_2fStringUTF16) 0 0 rfl rfl (fun mM => ef_rmUA1 mM d kd fm x0 x1 x2 x3) fun pP eE sS mM below meth cC s₁ hZ hx hby hml hown hnm hret hlk X0 e0 => ?_
  have N0 := Fr.nil n0
  refine o_iloadN 1 X0 hx (hb hby d20_0) rfl rfl ?_
  refine o_aloadN 2 X0 hx (hb hby d20_1) rfl rfl rfl ?_
  obtain ⟨_, _, ⟨T251, L251, k251, n251⟩, -, X251, ⟨Lc251, hQ251, l251, y251, z251⟩, st251⟩ := Jvm.LawKit.callS X0 hx (y := yn15) hown (mvT hZ (ow hw 87 rfl)) (mvT hZ (ow hw 88 rfl)) (mvT hZ (ow hw 22 rfl)) (mvT hZ (ow hw 89 rfl)) (by decide) (backOf (W := 0) (rmUI1 lL Z a0 hw [] d kd fm x0 x1 x2 x3 h0 n0 A_d O S_fm hfm) hZ (ow hw 89 rfl) (ow hw 22 rfl) (by decide) (by decide)) (g := (mkF mM 2 #[.val (.ref d), .val (.int 1)] [.ref d, .int 1])) rfl (by rw [hml]; rfl) (argsL := [.int 1, .ref d]) (rest := []) (lenOf pd__28I_5bB_29V rfl) rfl (by show 2 * 0 + _ ≤ _; exact Nat.le_of_eq rfl) (hb hby d20_2) (fun _ _ => ⟨rfl, e0, (by decide : 0 + 0 ≤ _), (by decide : 0 + 0 ≤ _)⟩)
  dsimp only [Pt.U, Pt.locs, Pt.cells, Pt.slots] at X251 l251 y251 z251 st251 hQ251
  subst l251 y251 z251
  obtain ⟨rfl, N251q, e251⟩ := hQ251
  have N251 := Fr.app N0 N251q
  refine own_k T251 5 [] st251 ?_
  refine o_aloadN 6 X251 hx (hb hby d20_5) rfl rfl rfl ?_
  refine o_iloadN 7 X251 hx (hb hby d20_6) rfl rfl ?_
  obtain ⟨_, _, ⟨T252, L252, k252, n252⟩, -, X252, ⟨Lc252, hQ252, l252, y252, z252⟩, st252⟩ := Jvm.LawKit.callS X251 hx (y := yn4) hown (mvT hZ (ow hw 81 rfl)) (mvT hZ (ow hw 82 rfl)) (mvT hZ (ow hw 22 rfl)) (mvT hZ (ow hw 83 rfl)) (by decide) (backOf (W := 0) (rmGC1 lL Z a0 hw [] d kd x0 x1 x2 x3 h0 n0 A_d O S_ad S_hi S_lo cx1) hZ (ow hw 83 rfl) (ow hw 22 rfl) (by decide) (by decide)) (g := (mkF mM 7 #[.val (.ref d), .val (.int 1)] [.int 1, .ref d])) rfl (by rw [hml]; rfl) (argsL := [.ref d, .int 1]) (rest := []) (lenOf pd__28_5bBI_29C rfl) rfl (by show 2 * 0 + _ ≤ _; exact Nat.le_of_eq rfl) (hb hby d20_7) (fun _ _ => ⟨rfl, e251, (by decide : 0 + 0 ≤ _), (by decide : 0 + 0 ≤ _)⟩)
  dsimp only [Pt.U, Pt.locs, Pt.cells, Pt.slots] at X252 l252 y252 z252 st252 hQ252
  subst l252 y252 z252
  obtain ⟨rfl, N252q, e252⟩ := hQ252
  have N252 := Fr.app N251 N252q
  refine own_k T252 10 [.int x1] st252 ?_
  exact own_retN X252 hx hlk (t := .char) hret (by simp) (hb hby d20_10) ⟨congrArg (fun t => some (Value.int t)) cx1, N252, e252⟩ (by decide) (by decide)
theorem ef_rmAU1 (mM : MethodId) (a : Addr) (cs : Int32) (fm : Value) (x0 : Int32) (x1 : Int32) (x2 : Int32) (x3 : Int32) : entryFrame mM #[.ref a, .int 1] 2 = mkF mM 0 #[.val (.ref a), .val (.int 1)] [] := by first | (simp [entryFrame, mkF, argsToLocals, Value.category]; done) | rfl
theorem rmAU1 (lL : Launch) (Z : State) (a0 : Array Value) (hw : own_tb a0 Z) (ws : List Jvm.Cond) (a : Addr) (cs : Int32) (fm : Value) (x0 : Int32) (x1 : Int32) (x2 : Int32) (x3 : Int32) (h0 : Heap) (n0 : Nat) (so : StrU Z h0 a x0 x1 x2 x3) (O : Old Z n0 h0) (S_fm : Sta Z Z.heap "jdk/internal/util/Preconditions" "SIOOBE_FORMATTER" "Ljava/util/function/BiFunction;" fm) (hfm : fm.isRef = true) (S_cs : Sta Z Z.heap "java/lang/String" "COMPACT_STRINGS" "Z" (.int cs)) (hcs : ¬ cs = (0 : Int32)) (S_ad : Sta Z Z.heap "java/lang/StringUTF16" "$assertionsDisabled" "Z" (.int 1)) (S_hi : Sta Z Z.heap "java/lang/StringUTF16" "HI_BYTE_SHIFT" "I" (.int 0)) (S_lo : Sta Z Z.heap "java/lang/StringUTF16" "LO_BYTE_SHIFT" "I" (.int 8)) (cx0 : nar .char x0 = x0) (cx1 : nar .char x1 = x1) (cx2 : nar .char x2 = x2) (cx3 : nar .char x3 = x3) :
    own_Ct lL Z yn17 jdk_42_method_56_code 2 (some .char) ws (⟨4, 0, 0, 53⟩ : Room) #[.ref a, .int 1] h0 (Qw (.int x1) h0 n0) := by
  refine own_body (plainFor_of_name pn_java_2flang_2fString) 0 0 rfl rfl (fun mM => ef_rmAU1 mM a cs fm x0 x1 x2 x3) fun pP eE sS mM below meth cC s₁ hZ hx hby hml hown hnm hret hlk X0 e0 => ?_
  have N0 := Fr.nil n0
  obtain ⟨d, kd, E_a, fv, fc, A_d⟩ := so
  refine o_aloadN 1 X0 hx (hb hby d10_0) rfl rfl rfl ?_
  obtain ⟨cq253, kq253, q253a, q253b, q253c⟩ := isOf hZ e0 E_a
  obtain ⟨_, _, ⟨T253, L253, k253, n253⟩, -, X253, ⟨Lc253, hQ253, l253, y253, z253⟩, st253⟩ := X0.virtualBack hx (y := yn10) (z := yn10) hown (mvT hZ (ow hw 48 rfl)) (mvT hZ (ow hw 49 rfl)) (notFace_of_selects (args := #[]) (mvT hZ (ow hw 51 rfl))) (mvT hZ (ow hw 51 rfl)) (mvT hZ (ow hw 50 rfl)) (by decide) (backOf (W := 0) (rmIL1 lL Z a0 hw [] a cs h0 n0 fc O S_cs hcs) hZ (ow hw 52 rfl) (ow hw 8 rfl) (by decide) (by decide)) q253a q253c (g := (mkF mM 1 #[.val (.ref a), .val (.int 1)] [.ref a])) rfl (by rw [hml]; rfl) (Steps.refl _) (argsL := []) (rest := []) (lenOf pd__28_29Z rfl) rfl (by show 2 * 0 + _ ≤ _; exact Nat.le_of_eq rfl) (hb hby d10_1) (fun _ _ => ⟨rfl, e0, (by decide : 0 + 0 ≤ _), (by decide : 0 + 0 ≤ _)⟩)
  dsimp only [Pt.U, Pt.locs, Pt.cells, Pt.slots] at X253 l253 y253 z253 st253 hQ253
  subst l253 y253 z253
  obtain ⟨rfl, N253q, e253⟩ := hQ253
  have N253 := Fr.app N0 N253q
  refine own_k T253 4 [.int 0] (fun t_ k_ => st253.trans k_) ?_
  refine o_ifYes 16 X253 hx (hb hby d10_4) ((if0 _ _).trans (teq (by decide : ((0 : Int32) = (0 : Int32)))).1) (by decide) ?_
  refine o_aloadN 17 X253 hx (hb hby d10_16) rfl rfl rfl ?_
  obtain ⟨T254, X254, e254, st254⟩ := getF X253 hx hZ hown (host := "") (Or.inl (ow hw 33 rfl)) Via.refl e253 fv (g := (mkF mM 17 #[.val (.ref a), .val (.int 1)] [.ref a])) rfl rfl (hb hby d10_17)
  refine own_k T254 20 [.ref d] st254 ?_
  refine o_iloadN 21 X254 hx (hb hby d10_20) rfl rfl ?_
  obtain ⟨_, _, ⟨T255, L255, k255, n255⟩, -, X255, ⟨Lc255, hQ255, l255, y255, z255⟩, st255⟩ := Jvm.LawKit.callS X254 hx (y := yn16) hown (mvT hZ (ow hw 84 rfl)) (mvT hZ (ow hw 85 rfl)) (mvT hZ (ow hw 22 rfl)) (mvT hZ (ow hw 86 rfl)) (by decide) (backOf (W := 0) (rmUA1 lL Z a0 hw [] d kd fm x0 x1 x2 x3 h0 n0 A_d O S_fm hfm S_ad S_hi S_lo cx1) hZ (ow hw 86 rfl) (ow hw 22 rfl) (by decide) (by decide)) (g := (mkF mM 21 #[.val (.ref a), .val (.int 1)] [.int 1, .ref d])) rfl (by rw [hml]; rfl) (argsL := [.ref d, .int 1]) (rest := []) (lenOf pd__28_5bBI_29C rfl) rfl (by show 2 * 0 + _ ≤ _; exact Nat.le_of_eq rfl) (hb hby d10_21) (fun _ _ => ⟨rfl, e254, (by decide : 0 + 0 ≤ _), (by decide : 0 + 0 ≤ _)⟩)
  dsimp only [Pt.U, Pt.locs, Pt.cells, Pt.slots] at X255 l255 y255 z255 st255 hQ255
  subst l255 y255 z255
  obtain ⟨rfl, N255q, e255⟩ := hQ255
  have N255 := Fr.app N253 N255q
  refine own_k T255 24 [.int x1] st255 ?_
  exact own_retN X255 hx hlk (t := .char) hret (by simp) (hb hby d10_24) ⟨congrArg (fun t => some (Value.int t)) cx1, N255, e255⟩ (by decide) (by decide)
theorem ef_rmAL1 (mM : MethodId) (a : Addr) (cs : Int32) (fm : Value) (x0 : Int32) (x1 : Int32) (x2 : Int32) (x3 : Int32) : entryFrame mM #[.ref a, .int 1] 2 = mkF mM 0 #[.val (.ref a), .val (.int 1)] [] := by first | (simp [entryFrame, mkF, argsToLocals, Value.category]; done) | rfl
theorem rmAL1 (lL : Launch) (Z : State) (a0 : Array Value) (hw : own_tb a0 Z) (ws : List Jvm.Cond) (a : Addr) (cs : Int32) (fm : Value) (x0 : Int32) (x1 : Int32) (x2 : Int32) (x3 : Int32) (h0 : Heap) (n0 : Nat) (so : StrL Z h0 a x0 x1 x2 x3) (O : Old Z n0 h0) (S_fm : Sta Z Z.heap "jdk/internal/util/Preconditions" "SIOOBE_FORMATTER" "Ljava/util/function/BiFunction;" fm) (hfm : fm.isRef = true) (S_cs : Sta Z Z.heap "java/lang/String" "COMPACT_STRINGS" "Z" (.int cs)) (hcs : ¬ cs = (0 : Int32)) (S_ad : Sta Z Z.heap "java/lang/StringUTF16" "$assertionsDisabled" "Z" (.int 1)) (S_hi : Sta Z Z.heap "java/lang/StringUTF16" "HI_BYTE_SHIFT" "I" (.int 0)) (S_lo : Sta Z Z.heap "java/lang/StringUTF16" "LO_BYTE_SHIFT" "I" (.int 8)) (cx0 : nar .char x0 = x0) (cx1 : nar .char x1 = x1) (cx2 : nar .char x2 = x2) (cx3 : nar .char x3 = x3) :
    own_Ct lL Z yn17 jdk_42_method_56_code 2 (some .char) ws (⟨4, 0, 0, 53⟩ : Room) #[.ref a, .int 1] h0 (Qw (.int x1) h0 n0) := by
  refine own_body (plainFor_of_name pn_java_2flang_2fString) 0 0 rfl rfl (fun mM => ef_rmAL1 mM a cs fm x0 x1 x2 x3) fun pP eE sS mM below meth cC s₁ hZ hx hby hml hown hnm hret hlk X0 e0 => ?_
  have N0 := Fr.nil n0
  obtain ⟨⟨d, kd, E_a, fv, fc, A_d⟩, k0, k1, k2, k3⟩ := so
  refine o_aloadN 1 X0 hx (hb hby d10_0) rfl rfl rfl ?_
  obtain ⟨cq256, kq256, q256a, q256b, q256c⟩ := isOf hZ e0 E_a
  obtain ⟨_, _, ⟨T256, L256, k256, n256⟩, -, X256, ⟨Lc256, hQ256, l256, y256, z256⟩, st256⟩ := X0.virtualBack hx (y := yn10) (z := yn10) hown (mvT hZ (ow hw 48 rfl)) (mvT hZ (ow hw 49 rfl)) (notFace_of_selects (args := #[]) (mvT hZ (ow hw 51 rfl))) (mvT hZ (ow hw 51 rfl)) (mvT hZ (ow hw 50 rfl)) (by decide) (backOf (W := 0) (rmIL0 lL Z a0 hw [] a cs h0 n0 fc O S_cs hcs) hZ (ow hw 52 rfl) (ow hw 8 rfl) (by decide) (by decide)) q256a q256c (g := (mkF mM 1 #[.val (.ref a), .val (.int 1)] [.ref a])) rfl (by rw [hml]; rfl) (Steps.refl _) (argsL := []) (rest := []) (lenOf pd__28_29Z rfl) rfl (by show 2 * 0 + _ ≤ _; exact Nat.le_of_eq rfl) (hb hby d10_1) (fun _ _ => ⟨rfl, e0, (by decide : 0 + 0 ≤ _), (by decide : 0 + 0 ≤ _)⟩)
  dsimp only [Pt.U, Pt.locs, Pt.cells, Pt.slots] at X256 l256 y256 z256 st256 hQ256
  subst l256 y256 z256
  obtain ⟨rfl, N256q, e256⟩ := hQ256
  have N256 := Fr.app N0 N256q
  refine own_k T256 4 [.int 1] (fun t_ k_ => st256.trans k_) ?_
  refine o_ifNo 7 X256 hx (hb hby d10_4) ((if0 _ _).trans (feq (by decide : ¬ ((1 : Int32) = (0 : Int32)))).1) rfl ?_
  refine o_aloadN 8 X256 hx (hb hby d10_7) rfl rfl rfl ?_
  obtain ⟨T257, X257, e257, st257⟩ := getF X256 hx hZ hown (host := "") (Or.inl (ow hw 33 rfl)) Via.refl e256 fv (g := (mkF mM 8 #[.val (.ref a), .val (.int 1)] [.ref a])) rfl rfl (hb hby d10_8)
  refine own_k T257 11 [.ref d] st257 ?_
  refine o_iloadN 12 X257 hx (hb hby d10_11) rfl rfl ?_
  obtain ⟨_, _, ⟨T258, L258, k258, n258⟩, -, X258, ⟨Lc258, hQ258, l258, y258, z258⟩, st258⟩ := Jvm.LawKit.callS X257 hx (y := yn14) hown (mvT hZ (ow hw 53 rfl)) (mvT hZ (ow hw 54 rfl)) (mvT hZ (ow hw 55 rfl)) (mvT hZ (ow hw 56 rfl)) (by decide) (backOf (W := 0) (rmLA1 lL Z a0 hw [] d kd fm x0 x1 x2 x3 h0 n0 A_d O S_fm hfm k1) hZ (ow hw 56 rfl) (ow hw 55 rfl) (by decide) (by decide)) (g := (mkF mM 12 #[.val (.ref a), .val (.int 1)] [.int 1, .ref d])) rfl (by rw [hml]; rfl) (argsL := [.ref d, .int 1]) (rest := []) (lenOf pd__28_5bBI_29C rfl) rfl (by show 2 * 0 + _ ≤ _; exact Nat.le_of_eq rfl) (hb hby d10_12) (fun _ _ => ⟨rfl, e257, (by decide : 0 + 0 ≤ _), (by decide : 0 + 0 ≤ _)⟩)
  dsimp only [Pt.U, Pt.locs, Pt.cells, Pt.slots] at X258 l258 y258 z258 st258 hQ258
  subst l258 y258 z258
  obtain ⟨rfl, N258q, e258⟩ := hQ258
  have N258 := Fr.app N256 N258q
  refine own_k T258 15 [.int x1] st258 ?_
  exact own_retN X258 hx hlk (t := .char) hret (by simp) (hb hby d10_15) ⟨congrArg (fun t => some (Value.int t)) cx1, N258, e258⟩ (by decide) (by decide)
theorem rmA1 (lL : Launch) (Z : State) (a0 : Array Value) (hw : own_tb a0 Z) (ws : List Jvm.Cond) (a : Addr) (cs : Int32) (fm : Value) (x0 : Int32) (x1 : Int32) (x2 : Int32) (x3 : Int32) (h0 : Heap) (n0 : Nat) (so : StrC Z h0 a x0 x1 x2 x3) (O : Old Z n0 h0) (S_fm : Sta Z Z.heap "jdk/internal/util/Preconditions" "SIOOBE_FORMATTER" "Ljava/util/function/BiFunction;" fm) (hfm : fm.isRef = true) (S_cs : Sta Z Z.heap "java/lang/String" "COMPACT_STRINGS" "Z" (.int cs)) (hcs : ¬ cs = (0 : Int32)) (S_ad : Sta Z Z.heap "java/lang/StringUTF16" "$assertionsDisabled" "Z" (.int 1)) (S_hi : Sta Z Z.heap "java/lang/StringUTF16" "HI_BYTE_SHIFT" "I" (.int 0)) (S_lo : Sta Z Z.heap "java/lang/StringUTF16" "LO_BYTE_SHIFT" "I" (.int 8)) (cx0 : nar .char x0 = x0) (cx1 : nar .char x1 = x1) (cx2 : nar .char x2 = x2) (cx3 : nar .char x3 = x3) :
    own_Ct lL Z yn17 jdk_42_method_56_code 2 (some .char) ws (⟨4, 0, 0, 53⟩ : Room) #[.ref a, .int 1] h0 (Qw (.int x1) h0 n0) := by
  rcases so with q | q
  · exact rmAL1 lL Z a0 hw ws a cs fm x0 x1 x2 x3 h0 n0 q O S_fm hfm S_cs hcs S_ad S_hi S_lo cx0 cx1 cx2 cx3
  · exact rmAU1 lL Z a0 hw ws a cs fm x0 x1 x2 x3 h0 n0 q O S_fm hfm S_cs hcs S_ad S_hi S_lo cx0 cx1 cx2 cx3
theorem ef_rmPI2 (mM : MethodId) (fm : Value) (hfm : fm.isRef = true) : entryFrame mM #[.int 2, .int 4, fm] 3 = mkF mM 0 #[.val (.int 2), .val (.int 4), .val fm] [] := by rcases ref_cases hfm with rfl | ⟨aq, rfl⟩ <;> first | (simp [entryFrame, mkF, argsToLocals, Value.category]; done) | rfl
theorem rmPI2 (lL : Launch) (Z : State) (a0 : Array Value) (hw : own_tb a0 Z) (ws : List Jvm.Cond) (fm : Value) (h0 : Heap) (n0 : Nat) (hfm : fm.isRef = true) :
    own_Ct lL Z yn12 jdk_41_method_11_code 3 (some .int) ws (⟨0, 0, 0, 0⟩ : Room) #[.int 2, .int 4, fm] h0 (Qw (.int 2) h0 n0) := by
  refine own_body (plainFor_of_name pn_jdk_2finternal_2futil_2fPreconditions) 0 0 rfl rfl (fun mM => ef_rmPI2 mM fm hfm) fun pP eE sS mM below meth cC s₁ hZ hx hby hml hown hnm hret hlk X0 e0 => ?_
  have N0 := Fr.nil n0
  refine o_iloadN 1 X0 hx (hb hby d14_0) rfl rfl ?_
  refine o_ifNo 4 X0 hx (hb hby d14_1) ((if0 _ _).trans (flt (by decide : ¬ ((2 : Int32) < (0 : Int32)))).1) rfl ?_
  refine o_iloadN 5 X0 hx (hb hby d14_4) rfl rfl ?_
  refine o_iloadN 6 X0 hx (hb hby d14_5) rfl rfl ?_
  refine o_icmpYes 16 X0 hx (hb hby d14_6) (tlt (by decide : ((2 : Int32) < (4 : Int32)))).1 (by decide) ?_
  refine o_iloadN 17 X0 hx (hb hby d14_16) rfl rfl ?_
  exact own_retI X0 hx hlk hret (hb hby d14_17) ⟨rfl, N0, e0⟩ (by decide) (by decide)
theorem ef_rmCI2 (mM : MethodId) (fm : Value) : entryFrame mM #[.int 2, .int 4] 2 = mkF mM 0 #[.val (.int 2), .val (.int 4)] [] := by first | (simp [entryFrame, mkF, argsToLocals, Value.category]; done) | rfl
theorem rmCI2 (lL : Launch) (Z : State) (a0 : Array Value) (hw : own_tb a0 Z) (ws : List Jvm.Cond) (fm : Value) (h0 : Heap) (n0 : Nat) (O : Old Z n0 h0) (S_fm : Sta Z Z.heap "jdk/internal/util/Preconditions" "SIOOBE_FORMATTER" "Ljava/util/function/BiFunction;" fm) (hfm : fm.isRef = true) :
    own_Ct lL Z yn13 jdk_42_method_155_code 2 none ws (⟨1, 0, 0, 14⟩ : Room) #[.int 2, .int 4] h0 (Q0 h0 n0) := by
  refine own_body (plainFor_of_name pn_java_2flang_2fString) 0 0 rfl rfl (fun mM => ef_rmCI2 mM fm) fun pP eE sS mM below meth cC s₁ hZ hx hby hml hown hnm hret hlk X0 e0 => ?_
  have N0 := Fr.nil n0
  refine o_iloadN 1 X0 hx (hb hby d13_0) rfl rfl ?_
  refine o_iloadN 2 X0 hx (hb hby d13_1) rfl rfl ?_
  obtain ⟨T259, X259, e259, st259⟩ := getS2 X0 hx hZ hown (host := "") (Or.inl (ow hw 60 rfl)) Via.refl e0 (S_fm.ext O.2) (g := (mkF mM 2 #[.val (.int 2), .val (.int 4)] [.int 4, .int 2])) rfl (hb hby d13_2)
  refine own_k T259 5 [fm, .int 4, .int 2] st259 ?_
  obtain ⟨_, _, ⟨T260, L260, k260, n260⟩, -, X260, ⟨Lc260, hQ260, l260, y260, z260⟩, st260⟩ := Jvm.LawKit.callS X259 hx (y := yn12) hown (mvT hZ (ow hw 62 rfl)) (mvT hZ (ow hw 63 rfl)) (mvT hZ (ow hw 61 rfl)) (mvT hZ (ow hw 64 rfl)) (by decide) (backOf (W := 0) (rmPI2 lL Z a0 hw [] fm h0 n0 hfm) hZ (ow hw 64 rfl) (ow hw 61 rfl) (by decide) (by decide)) (g := (mkF mM 5 #[.val (.int 2), .val (.int 4)] [fm, .int 4, .int 2])) rfl (by rw [hml]; rfl) (argsL := [.int 2, .int 4, fm]) (rest := []) (lenOf pd__28IILjava_2futil_2ffunction_2fBiFunction_3b_29I rfl) rfl (by show 2 * 0 + _ ≤ _; exact Nat.le_of_eq rfl) (hb hby d13_5) (fun _ _ => ⟨rfl, e259, (by decide : 0 + 0 ≤ _), (by decide : 0 + 0 ≤ _)⟩)
  dsimp only [Pt.U, Pt.locs, Pt.cells, Pt.slots] at X260 l260 y260 z260 st260 hQ260
  subst l260 y260 z260
  obtain ⟨rfl, N260q, e260⟩ := hQ260
  have N260 := Fr.app N0 N260q
  refine own_k T260 8 [.int 2] st260 ?_
  refine own_j 9 [] (fun t_ k_ => XS.pop X260.here hx rfl (hb hby d13_8) rfl rfl k_) ?_
  exact own_retV X260 hx hlk hret (hb hby d13_9) ⟨rfl, N260, e260⟩ (by decide) (by decide)
theorem ef_rmLA2 (mM : MethodId) (d : Addr) (kd : ClassId) (fm : Value) (x0 : Int32) (x1 : Int32) (x2 : Int32) (x3 : Int32) : entryFrame mM #[.ref d, .int 2] 2 = mkF mM 0 #[.val (.ref d), .val (.int 2)] [] := by first | (simp [entryFrame, mkF, argsToLocals, Value.category]; done) | rfl
theorem rmLA2 (lL : Launch) (Z : State) (a0 : Array Value) (hw : own_tb a0 Z) (ws : List Jvm.Cond) (d : Addr) (kd : ClassId) (fm : Value) (x0 : Int32) (x1 : Int32) (x2 : Int32) (x3 : Int32) (h0 : Heap) (n0 : Nat) (A_d : Arv Z h0 d kd .byte 4 [(.int (((x0).toInt8.toInt32)).toInt8.toInt32), (.int (((x1).toInt8.toInt32)).toInt8.toInt32), (.int (((x2).toInt8.toInt32)).toInt8.toInt32), (.int (((x3).toInt8.toInt32)).toInt8.toInt32)] (.int 0)) (O : Old Z n0 h0) (S_fm : Sta Z Z.heap "jdk/internal/util/Preconditions" "SIOOBE_FORMATTER" "Ljava/util/function/BiFunction;" fm) (hfm : fm.isRef = true) (ck : Ck x2) :
    own_Ct lL Z yn14 jdk_43_method_2_code 2 (some .char) ws (⟨2, 0, 0, 27⟩ : Room) #[.ref d, .int 2] h0 (Qw (.int x2) h0 n0) := by
  refine own_body (plainFor_of_name pn_java_2flang_2fStringLatin1) 0 0 rfl rfl (fun mM => ef_rmLA2 mM d kd fm x0 x1 x2 x3) fun pP eE sS mM below meth cC s₁ hZ hx hby hml hown hnm hret hlk X0 e0 => ?_
  have N0 := Fr.nil n0
  refine o_iloadN 1 X0 hx (hb hby d12_0) rfl rfl ?_
  refine o_aloadN 2 X0 hx (hb hby d12_1) rfl rfl rfl ?_
  obtain ⟨cl261, Ar261, q261, S261, Nn261, H261, G261⟩ := id A_d
  refine own_j 3 [.int 4, .int 2] (fun t_ k_ => X0.arraylength hx (by rw [e0]; exact Ar261.1) (State.isArrayOf_alike hZ.alike Ar261.2.1) (g := (mkF mM 2 #[.val (.ref d), .val (.int 2)] [.ref d, .int 2])) rfl rfl (hb hby d12_2) t_ (by rw [len_of S261 Nn261]; exact k_)) ?_
  obtain ⟨_, _, ⟨T262, L262, k262, n262⟩, -, X262, ⟨Lc262, hQ262, l262, y262, z262⟩, st262⟩ := Jvm.LawKit.callS X0 hx (y := yn13) hown (mvT hZ (ow hw 57 rfl)) (mvT hZ (ow hw 58 rfl)) (mvT hZ (ow hw 8 rfl)) (mvT hZ (ow hw 59 rfl)) (by decide) (backOf (W := 0) (rmCI2 lL Z a0 hw [] fm h0 n0 O S_fm hfm) hZ (ow hw 59 rfl) (ow hw 8 rfl) (by decide) (by decide)) (g := (mkF mM 3 #[.val (.ref d), .val (.int 2)] [.int 4, .int 2])) rfl (by rw [hml]; rfl) (argsL := [.int 2, .int 4]) (rest := []) (lenOf pd__28II_29V rfl) rfl (by show 2 * 0 + _ ≤ _; exact Nat.le_of_eq rfl) (hb hby d12_3) (fun _ _ => ⟨rfl, e0, (by decide : 0 + 0 ≤ _), (by decide : 0 + 0 ≤ _)⟩)
  dsimp only [Pt.U, Pt.locs, Pt.cells, Pt.slots] at X262 l262 y262 z262 st262 hQ262
  subst l262 y262 z262
  obtain ⟨rfl, N262q, e262⟩ := hQ262
  have N262 := Fr.app N0 N262q
  refine own_k T262 6 [] st262 ?_
  refine o_aloadN 7 X262 hx (hb hby d12_6) rfl rfl rfl ?_
  refine o_iloadN 8 X262 hx (hb hby d12_7) rfl rfl ?_
  obtain ⟨cl263, Ar263, q263, S263, Nn263, H263, G263⟩ := id A_d
  have hin263 : ¬ ((2 : Int32) < 0 ∨ cl263.slots.size ≤ ((2 : Int32)).toNatClampNeg) := inb_of S263 ⟨by decide, by decide⟩
  refine own_j 9 [(.int (((x2).toInt8.toInt32)).toInt8.toInt32)] (fun t_ k_ => X262.baloadBytes hx (j := (2 : Int32)) (v := (.int (((x2).toInt8.toInt32)).toInt8.toInt32)) (by rw [e262]; exact Ar263.1) (State.isArrayOf_alike hZ.alike Ar263.2.1) Ar263.2.2 hin263 (H263.at hin263 rfl) (g := (mkF mM 8 #[.val (.ref d), .val (.int 2)] [.int 2, .ref d])) rfl rfl (hb hby d12_8) t_ k_) ?_
  refine o_sipush 12 255 X262 hx (hb hby d12_9) rfl rfl ?_
  refine own_j 13 [(.int ((((x2).toInt8.toInt32)).toInt8.toInt32 &&& (255 : Int32)))] (fun t_ k_ => XS.iand X262.here hx rfl (hb hby d12_12) rfl k_) ?_
  refine own_j 14 [(.int ((((((x2).toInt8.toInt32)).toInt8.toInt32 &&& (255 : Int32))).toUInt32.toUInt16.toUInt32.toInt32))] (fun t_ k_ => XS.i2c X262.here hx rfl (hb hby d12_13) rfl k_) ?_
  exact own_retN X262 hx hlk (t := .char) hret (by simp) (hb hby d12_14) ⟨congrArg (fun t => some (Value.int t)) (own_rtL ck), N262, e262⟩ (by decide) (by decide)
theorem ef_rmUI2 (mM : MethodId) (d : Addr) (kd : ClassId) (fm : Value) (x0 : Int32) (x1 : Int32) (x2 : Int32) (x3 : Int32) : entryFrame mM #[.int 2, .ref d] 2 = mkF mM 0 #[.val (.int 2), .val (.ref d)] [] := by first | (simp [entryFrame, mkF, argsToLocals, Value.category]; done) | rfl
theorem rmUI2 (lL : Launch) (Z : State) (a0 : Array Value) (hw : own_tb a0 Z) (ws : List Jvm.Cond) (d : Addr) (kd : ClassId) (fm : Value) (x0 : Int32) (x1 : Int32) (x2 : Int32) (x3 : Int32) (h0 : Heap) (n0 : Nat) (A_d : Arv Z h0 d kd .byte 8 [(.int (lo8 x0)), (.int (hi8 x0)), (.int (lo8 x1)), (.int (hi8 x1)), (.int (lo8 x2)), (.int (hi8 x2)), (.int (lo8 x3)), (.int (hi8 x3))] (.int 0)) (O : Old Z n0 h0) (S_fm : Sta Z Z.heap "jdk/internal/util/Preconditions" "SIOOBE_FORMATTER" "Ljava/util/function/BiFunction;" fm) (hfm : fm.isRef = true) :
    own_Ct lL Z yn15 jdk_52_method_91_code 2 none ws (⟨2, 0, 0, 27⟩ : Room) #[.int 2, .ref d] h0 (Q0 h0 n0) := by
  refine own_body (plainFor_of_name pn_java_2flang_2fStringUTF16) 0 0 rfl rfl (fun mM => ef_rmUI2 mM d kd fm x0 x1 x2 x3) fun pP eE sS mM below meth cC s₁ hZ hx hby hml hown hnm hret hlk X0 e0 => ?_
  have N0 := Fr.nil n0
  refine o_iloadN 1 X0 hx (hb hby d21_0) rfl rfl ?_
  refine o_aloadN 2 X0 hx (hb hby d21_1) rfl rfl rfl ?_
  obtain ⟨_, _, ⟨T264, L264, k264, n264⟩, -, X264, ⟨Lc264, hQ264, l264, y264, z264⟩, st264⟩ := Jvm.LawKit.callS X0 hx (y := yn11) hown (mvT hZ (ow hw 90 rfl)) (mvT hZ (ow hw 91 rfl)) (mvT hZ (ow hw 22 rfl)) (mvT hZ (ow hw 92 rfl)) (by decide) (backOf (W := 1) (rmUL lL Z a0 hw [] d kd x0 x1 x2 x3 h0 n0 A_d) hZ (ow hw 92 rfl) (ow hw 22 rfl) (by decide) (by decide)) (g := (mkF mM 2 #[.val (.int 2), .val (.ref d)] [.ref d, .int 2])) rfl (by rw [hml]; rfl) (argsL := [.ref d]) (rest := [.int 2]) (lenOf pd__28_5bB_29I rfl) rfl (by show 2 * 0 + _ ≤ _; exact Nat.le_of_eq rfl) (hb hby d21_2) (fun _ _ => ⟨rfl, e0, (by decide : 0 + 0 ≤ _), (by decide : 0 + 0 ≤ _)⟩)
  dsimp only [Pt.U, Pt.locs, Pt.cells, Pt.slots] at X264 l264 y264 z264 st264 hQ264
  subst l264 y264 z264
  obtain ⟨rfl, N264q, e264⟩ := hQ264
  have N264 := Fr.app N0 N264q
  refine own_k T264 5 [.int 4, .int 2] st264 ?_
  obtain ⟨_, _, ⟨T265, L265, k265, n265⟩, -, X265, ⟨Lc265, hQ265, l265, y265, z265⟩, st265⟩ := Jvm.LawKit.callS X264 hx (y := yn13) hown (mvT hZ (ow hw 93 rfl)) (mvT hZ (ow hw 58 rfl)) (mvT hZ (ow hw 8 rfl)) (mvT hZ (ow hw 59 rfl)) (by decide) (backOf (W := 0) (rmCI2 lL Z a0 hw [] fm h0 n0 O S_fm hfm) hZ (ow hw 59 rfl) (ow hw 8 rfl) (by decide) (by decide)) (g := (mkF mM 5 #[.val (.int 2), .val (.ref d)] [.int 4, .int 2])) rfl (by rw [hml]; rfl) (argsL := [.int 2, .int 4]) (rest := []) (lenOf pd__28II_29V rfl) rfl (by show 2 * 0 + _ ≤ _; exact Nat.le_of_eq rfl) (hb hby d21_5) (fun _ _ => ⟨rfl, e264, (by decide : 0 + 0 ≤ _), (by decide : 0 + 0 ≤ _)⟩)
  dsimp only [Pt.U, Pt.locs, Pt.cells, Pt.slots] at X265 l265 y265 z265 st265 hQ265
  subst l265 y265 z265
  obtain ⟨rfl, N265q, e265⟩ := hQ265
  have N265 := Fr.app N264 N265q
  refine own_k T265 8 [] st265 ?_
  exact own_retV X265 hx hlk hret (hb hby d21_8) ⟨rfl, N265, e265⟩ (by decide) (by decide)
theorem ef_rmUA2 (mM : MethodId) (d : Addr) (kd : ClassId) (fm : Value) (x0 : Int32) (x1 : Int32) (x2 : Int32) (x3 : Int32) : entryFrame mM #[.ref d, .int 2] 2 = mkF mM 0 #[.val (.ref d), .val (.int 2)] [] := by first | (simp [entryFrame, mkF, argsToLocals, Value.category]; done) | rfl
theorem rmUA2 (lL : Launch) (Z : State) (a0 : Array Value) (hw : own_tb a0 Z) (ws : List Jvm.Cond) (d : Addr) (kd : ClassId) (fm : Value) (x0 : Int32) (x1 : Int32) (x2 : Int32) (x3 : Int32) (h0 : Heap) (n0 : Nat) (A_d : Arv Z h0 d kd .byte 8 [(.int (lo8 x0)), (.int (hi8 x0)), (.int (lo8 x1)), (.int (hi8 x1)), (.int (lo8 x2)), (.int (hi8 x2)), (.int (lo8 x3)), (.int (hi8 x3))] (.int 0)) (O : Old Z n0 h0) (S_fm : Sta Z Z.heap "jdk/internal/util/Preconditions" "SIOOBE_FORMATTER" "Ljava/util/function/BiFunction;" fm) (hfm : fm.isRef = true) (S_ad : Sta Z Z.heap "java/lang/StringUTF16" "$assertionsDisabled" "Z" (.int 1)) (S_hi : Sta Z Z.heap "java/lang/StringUTF16" "HI_BYTE_SHIFT" "I" (.int 0)) (S_lo : Sta Z Z.heap "java/lang/StringUTF16" "LO_BYTE_SHIFT" "I" (.int 8)) (cx2 : nar .char x2 = x2) :
    own_Ct lL Z yn16 jdk_52_method_83_code 2 (some .char) ws (⟨3, 0, 0, 40⟩ : Room) #[.ref d, .int 2] h0 (Qw (.int x2) h0 n0) := by
  refine own_body (plainFor_of_name pn_java_2flang_2fStringUTF16) 0 0 rfl rfl (fun mM => ef_rmUA2 mM d kd fm x0 x1 x2 x3) fun pP eE sS mM below meth cC s₁ hZ hx hby hml hown hnm hret hlk X0 e0 => ?_
  have N0 := Fr.nil n0
  refine o_iloadN 1 X0 hx (hb hby d20_0) rfl rfl ?_
  refine o_aloadN 2 X0 hx (hb hby d20_1) rfl rfl rfl ?_
  obtain ⟨_, _, ⟨T266, L266, k266, n266⟩, -, X266, ⟨Lc266, hQ266, l266, y266, z266⟩, st266⟩ := Jvm.LawKit.callS X0 hx (y := yn15) hown (mvT hZ (ow hw 87 rfl)) (mvT hZ (ow hw 88 rfl)) (mvT hZ (ow hw 22 rfl)) (mvT hZ (ow hw 89 rfl)) (by decide) (backOf (W := 0) (rmUI2 lL Z a0 hw [] d kd fm x0 x1 x2 x3 h0 n0 A_d O S_fm hfm) hZ (ow hw 89 rfl) (ow hw 22 rfl) (by decide) (by decide)) (g := (mkF mM 2 #[.val (.ref d), .val (.int 2)] [.ref d, .int 2])) rfl (by rw [hml]; rfl) (argsL := [.int 2, .ref d]) (rest := []) (lenOf pd__28I_5bB_29V rfl) rfl (by show 2 * 0 + _ ≤ _; exact Nat.le_of_eq rfl) (hb hby d20_2) (fun _ _ => ⟨rfl, e0, (by decide : 0 + 0 ≤ _), (by decide : 0 + 0 ≤ _)⟩)
  dsimp only [Pt.U, Pt.locs, Pt.cells, Pt.slots] at X266 l266 y266 z266 st266 hQ266
  subst l266 y266 z266
  obtain ⟨rfl, N266q, e266⟩ := hQ266
  have N266 := Fr.app N0 N266q
  refine own_k T266 5 [] st266 ?_
  refine o_aloadN 6 X266 hx (hb hby d20_5) rfl rfl rfl ?_
  refine o_iloadN 7 X266 hx (hb hby d20_6) rfl rfl ?_
  obtain ⟨_, _, ⟨T267, L267, k267, n267⟩, -, X267, ⟨Lc267, hQ267, l267, y267, z267⟩, st267⟩ := Jvm.LawKit.callS X266 hx (y := yn4) hown (mvT hZ (ow hw 81 rfl)) (mvT hZ (ow hw 82 rfl)) (mvT hZ (ow hw 22 rfl)) (mvT hZ (ow hw 83 rfl)) (by decide) (backOf (W := 0) (rmGC2 lL Z a0 hw [] d kd x0 x1 x2 x3 h0 n0 A_d O S_ad S_hi S_lo cx2) hZ (ow hw 83 rfl) (ow hw 22 rfl) (by decide) (by decide)) (g := (mkF mM 7 #[.val (.ref d), .val (.int 2)] [.int 2, .ref d])) rfl (by rw [hml]; rfl) (argsL := [.ref d, .int 2]) (rest := []) (lenOf pd__28_5bBI_29C rfl) rfl (by show 2 * 0 + _ ≤ _; exact Nat.le_of_eq rfl) (hb hby d20_7) (fun _ _ => ⟨rfl, e266, (by decide : 0 + 0 ≤ _), (by decide : 0 + 0 ≤ _)⟩)
  dsimp only [Pt.U, Pt.locs, Pt.cells, Pt.slots] at X267 l267 y267 z267 st267 hQ267
  subst l267 y267 z267
  obtain ⟨rfl, N267q, e267⟩ := hQ267
  have N267 := Fr.app N266 N267q
  refine own_k T267 10 [.int x2] st267 ?_
  exact own_retN X267 hx hlk (t := .char) hret (by simp) (hb hby d20_10) ⟨congrArg (fun t => some (Value.int t)) cx2, N267, e267⟩ (by decide) (by decide)
theorem ef_rmAU2 (mM : MethodId) (a : Addr) (cs : Int32) (fm : Value) (x0 : Int32) (x1 : Int32) (x2 : Int32) (x3 : Int32) : entryFrame mM #[.ref a, .int 2] 2 = mkF mM 0 #[.val (.ref a), .val (.int 2)] [] := by first | (simp [entryFrame, mkF, argsToLocals, Value.category]; done) | rfl
theorem rmAU2 (lL : Launch) (Z : State) (a0 : Array Value) (hw : own_tb a0 Z) (ws : List Jvm.Cond) (a : Addr) (cs : Int32) (fm : Value) (x0 : Int32) (x1 : Int32) (x2 : Int32) (x3 : Int32) (h0 : Heap) (n0 : Nat) (so : StrU Z h0 a x0 x1 x2 x3) (O : Old Z n0 h0) (S_fm : Sta Z Z.heap "jdk/internal/util/Preconditions" "SIOOBE_FORMATTER" "Ljava/util/function/BiFunction;" fm) (hfm : fm.isRef = true) (S_cs : Sta Z Z.heap "java/lang/String" "COMPACT_STRINGS" "Z" (.int cs)) (hcs : ¬ cs = (0 : Int32)) (S_ad : Sta Z Z.heap "java/lang/StringUTF16" "$assertionsDisabled" "Z" (.int 1)) (S_hi : Sta Z Z.heap "java/lang/StringUTF16" "HI_BYTE_SHIFT" "I" (.int 0)) (S_lo : Sta Z Z.heap "java/lang/StringUTF16" "LO_BYTE_SHIFT" "I" (.int 8)) (cx0 : nar .char x0 = x0) (cx1 : nar .char x1 = x1) (cx2 : nar .char x2 = x2) (cx3 : nar .char x3 = x3) :
    own_Ct lL Z yn17 jdk_42_method_56_code 2 (some .char) ws (⟨4, 0, 0, 53⟩ : Room) #[.ref a, .int 2] h0 (Qw (.int x2) h0 n0) := by
  refine own_body (plainFor_of_name pn_java_2flang_2fString) 0 0 rfl rfl (fun mM => ef_rmAU2 mM a cs fm x0 x1 x2 x3) fun pP eE sS mM below meth cC s₁ hZ hx hby hml hown hnm hret hlk X0 e0 => ?_
  have N0 := Fr.nil n0
  obtain ⟨d, kd, E_a, fv, fc, A_d⟩ := so
  refine o_aloadN 1 X0 hx (hb hby d10_0) rfl rfl rfl ?_
  obtain ⟨cq268, kq268, q268a, q268b, q268c⟩ := isOf hZ e0 E_a
  obtain ⟨_, _, ⟨T268, L268, k268, n268⟩, -, X268, ⟨Lc268, hQ268, l268, y268, z268⟩, st268⟩ := X0.virtualBack hx (y := yn10) (z := yn10) hown (mvT hZ (ow hw 48 rfl)) (mvT hZ (ow hw 49 rfl)) (notFace_of_selects (args := #[]) (mvT hZ (ow hw 51 rfl))) (mvT hZ (ow hw 51 rfl)) (mvT hZ (ow hw 50 rfl)) (by decide) (backOf (W := 0) (rmIL1 lL Z a0 hw [] a cs h0 n0 fc O S_cs hcs) hZ (ow hw 52 rfl) (ow hw 8 rfl) (by decide) (by decide)) q268a q268c (g := (mkF mM 1 #[.val (.ref a), .val (.int 2)] [.ref a])) rfl (by rw [hml]; rfl) (Steps.refl _) (argsL := []) (rest := []) (lenOf pd__28_29Z rfl) rfl (by show 2 * 0 + _ ≤ _; exact Nat.le_of_eq rfl) (hb hby d10_1) (fun _ _ => ⟨rfl, e0, (by decide : 0 + 0 ≤ _), (by decide : 0 + 0 ≤ _)⟩)
  dsimp only [Pt.U, Pt.locs, Pt.cells, Pt.slots] at X268 l268 y268 z268 st268 hQ268
  subst l268 y268 z268
  obtain ⟨rfl, N268q, e268⟩ := hQ268
  have N268 := Fr.app N0 N268q
  refine own_k T268 4 [.int 0] (fun t_ k_ => st268.trans k_) ?_
  refine o_ifYes 16 X268 hx (hb hby d10_4) ((if0 _ _).trans (teq (by decide : ((0 : Int32) = (0 : Int32)))).1) (by decide) ?_
  refine o_aloadN 17 X268 hx (hb hby d10_16) rfl rfl rfl ?_
  obtain ⟨T269, X269, e269, st269⟩ := getF X268 hx hZ hown (host := "") (Or.inl (ow hw 33 rfl)) Via.refl e268 fv (g := (mkF mM 17 #[.val (.ref a), .val (.int 2)] [.ref a])) rfl rfl (hb hby d10_17)
  refine own_k T269 20 [.ref d] st269 ?_
  refine o_iloadN 21 X269 hx (hb hby d10_20) rfl rfl ?_
  obtain ⟨_, _, ⟨T270, L270, k270, n270⟩, -, X270, ⟨Lc270, hQ270, l270, y270, z270⟩, st270⟩ := Jvm.LawKit.callS X269 hx (y := yn16) hown (mvT hZ (ow hw 84 rfl)) (mvT hZ (ow hw 85 rfl)) (mvT hZ (ow hw 22 rfl)) (mvT hZ (ow hw 86 rfl)) (by decide) (backOf (W := 0) (rmUA2 lL Z a0 hw [] d kd fm x0 x1 x2 x3 h0 n0 A_d O S_fm hfm S_ad S_hi S_lo cx2) hZ (ow hw 86 rfl) (ow hw 22 rfl) (by decide) (by decide)) (g := (mkF mM 21 #[.val (.ref a), .val (.int 2)] [.int 2, .ref d])) rfl (by rw [hml]; rfl) (argsL := [.ref d, .int 2]) (rest := []) (lenOf pd__28_5bBI_29C rfl) rfl (by show 2 * 0 + _ ≤ _; exact Nat.le_of_eq rfl) (hb hby d10_21) (fun _ _ => ⟨rfl, e269, (by decide : 0 + 0 ≤ _), (by decide : 0 + 0 ≤ _)⟩)
  dsimp only [Pt.U, Pt.locs, Pt.cells, Pt.slots] at X270 l270 y270 z270 st270 hQ270
  subst l270 y270 z270
  obtain ⟨rfl, N270q, e270⟩ := hQ270
  have N270 := Fr.app N268 N270q
  refine own_k T270 24 [.int x2] st270 ?_
  exact own_retN X270 hx hlk (t := .char) hret (by simp) (hb hby d10_24) ⟨congrArg (fun t => some (Value.int t)) cx2, N270, e270⟩ (by decide) (by decide)
theorem ef_rmAL2 (mM : MethodId) (a : Addr) (cs : Int32) (fm : Value) (x0 : Int32) (x1 : Int32) (x2 : Int32) (x3 : Int32) : entryFrame mM #[.ref a, .int 2] 2 = mkF mM 0 #[.val (.ref a), .val (.int 2)] [] := by first | (simp [entryFrame, mkF, argsToLocals, Value.category]; done) | rfl
theorem rmAL2 (lL : Launch) (Z : State) (a0 : Array Value) (hw : own_tb a0 Z) (ws : List Jvm.Cond) (a : Addr) (cs : Int32) (fm : Value) (x0 : Int32) (x1 : Int32) (x2 : Int32) (x3 : Int32) (h0 : Heap) (n0 : Nat) (so : StrL Z h0 a x0 x1 x2 x3) (O : Old Z n0 h0) (S_fm : Sta Z Z.heap "jdk/internal/util/Preconditions" "SIOOBE_FORMATTER" "Ljava/util/function/BiFunction;" fm) (hfm : fm.isRef = true) (S_cs : Sta Z Z.heap "java/lang/String" "COMPACT_STRINGS" "Z" (.int cs)) (hcs : ¬ cs = (0 : Int32)) (S_ad : Sta Z Z.heap "java/lang/StringUTF16" "$assertionsDisabled" "Z" (.int 1)) (S_hi : Sta Z Z.heap "java/lang/StringUTF16" "HI_BYTE_SHIFT" "I" (.int 0)) (S_lo : Sta Z Z.heap "java/lang/StringUTF16" "LO_BYTE_SHIFT" "I" (.int 8)) (cx0 : nar .char x0 = x0) (cx1 : nar .char x1 = x1) (cx2 : nar .char x2 = x2) (cx3 : nar .char x3 = x3) :
    own_Ct lL Z yn17 jdk_42_method_56_code 2 (some .char) ws (⟨4, 0, 0, 53⟩ : Room) #[.ref a, .int 2] h0 (Qw (.int x2) h0 n0) := by
  refine own_body (plainFor_of_name pn_java_2flang_2fString) 0 0 rfl rfl (fun mM => ef_rmAL2 mM a cs fm x0 x1 x2 x3) fun pP eE sS mM below meth cC s₁ hZ hx hby hml hown hnm hret hlk X0 e0 => ?_
  have N0 := Fr.nil n0
  obtain ⟨⟨d, kd, E_a, fv, fc, A_d⟩, k0, k1, k2, k3⟩ := so
  refine o_aloadN 1 X0 hx (hb hby d10_0) rfl rfl rfl ?_
  obtain ⟨cq271, kq271, q271a, q271b, q271c⟩ := isOf hZ e0 E_a
  obtain ⟨_, _, ⟨T271, L271, k271, n271⟩, -, X271, ⟨Lc271, hQ271, l271, y271, z271⟩, st271⟩ := X0.virtualBack hx (y := yn10) (z := yn10) hown (mvT hZ (ow hw 48 rfl)) (mvT hZ (ow hw 49 rfl)) (notFace_of_selects (args := #[]) (mvT hZ (ow hw 51 rfl))) (mvT hZ (ow hw 51 rfl)) (mvT hZ (ow hw 50 rfl)) (by decide) (backOf (W := 0) (rmIL0 lL Z a0 hw [] a cs h0 n0 fc O S_cs hcs) hZ (ow hw 52 rfl) (ow hw 8 rfl) (by decide) (by decide)) q271a q271c (g := (mkF mM 1 #[.val (.ref a), .val (.int 2)] [.ref a])) rfl (by rw [hml]; rfl) (Steps.refl _) (argsL := []) (rest := []) (lenOf pd__28_29Z rfl) rfl (by show 2 * 0 + _ ≤ _; exact Nat.le_of_eq rfl) (hb hby d10_1) (fun _ _ => ⟨rfl, e0, (by decide : 0 + 0 ≤ _), (by decide : 0 + 0 ≤ _)⟩)
  dsimp only [Pt.U, Pt.locs, Pt.cells, Pt.slots] at X271 l271 y271 z271 st271 hQ271
  subst l271 y271 z271
  obtain ⟨rfl, N271q, e271⟩ := hQ271
  have N271 := Fr.app N0 N271q
  refine own_k T271 4 [.int 1] (fun t_ k_ => st271.trans k_) ?_
  refine o_ifNo 7 X271 hx (hb hby d10_4) ((if0 _ _).trans (feq (by decide : ¬ ((1 : Int32) = (0 : Int32)))).1) rfl ?_
  refine o_aloadN 8 X271 hx (hb hby d10_7) rfl rfl rfl ?_
  obtain ⟨T272, X272, e272, st272⟩ := getF X271 hx hZ hown (host := "") (Or.inl (ow hw 33 rfl)) Via.refl e271 fv (g := (mkF mM 8 #[.val (.ref a), .val (.int 2)] [.ref a])) rfl rfl (hb hby d10_8)
  refine own_k T272 11 [.ref d] st272 ?_
  refine o_iloadN 12 X272 hx (hb hby d10_11) rfl rfl ?_
  obtain ⟨_, _, ⟨T273, L273, k273, n273⟩, -, X273, ⟨Lc273, hQ273, l273, y273, z273⟩, st273⟩ := Jvm.LawKit.callS X272 hx (y := yn14) hown (mvT hZ (ow hw 53 rfl)) (mvT hZ (ow hw 54 rfl)) (mvT hZ (ow hw 55 rfl)) (mvT hZ (ow hw 56 rfl)) (by decide) (backOf (W := 0) (rmLA2 lL Z a0 hw [] d kd fm x0 x1 x2 x3 h0 n0 A_d O S_fm hfm k2) hZ (ow hw 56 rfl) (ow hw 55 rfl) (by decide) (by decide)) (g := (mkF mM 12 #[.val (.ref a), .val (.int 2)] [.int 2, .ref d])) rfl (by rw [hml]; rfl) (argsL := [.ref d, .int 2]) (rest := []) (lenOf pd__28_5bBI_29C rfl) rfl (by show 2 * 0 + _ ≤ _; exact Nat.le_of_eq rfl) (hb hby d10_12) (fun _ _ => ⟨rfl, e272, (by decide : 0 + 0 ≤ _), (by decide : 0 + 0 ≤ _)⟩)
  dsimp only [Pt.U, Pt.locs, Pt.cells, Pt.slots] at X273 l273 y273 z273 st273 hQ273
  subst l273 y273 z273
  obtain ⟨rfl, N273q, e273⟩ := hQ273
  have N273 := Fr.app N271 N273q
  refine own_k T273 15 [.int x2] st273 ?_
  exact own_retN X273 hx hlk (t := .char) hret (by simp) (hb hby d10_15) ⟨congrArg (fun t => some (Value.int t)) cx2, N273, e273⟩ (by decide) (by decide)
theorem rmA2 (lL : Launch) (Z : State) (a0 : Array Value) (hw : own_tb a0 Z) (ws : List Jvm.Cond) (a : Addr) (cs : Int32) (fm : Value) (x0 : Int32) (x1 : Int32) (x2 : Int32) (x3 : Int32) (h0 : Heap) (n0 : Nat) (so : StrC Z h0 a x0 x1 x2 x3) (O : Old Z n0 h0) (S_fm : Sta Z Z.heap "jdk/internal/util/Preconditions" "SIOOBE_FORMATTER" "Ljava/util/function/BiFunction;" fm) (hfm : fm.isRef = true) (S_cs : Sta Z Z.heap "java/lang/String" "COMPACT_STRINGS" "Z" (.int cs)) (hcs : ¬ cs = (0 : Int32)) (S_ad : Sta Z Z.heap "java/lang/StringUTF16" "$assertionsDisabled" "Z" (.int 1)) (S_hi : Sta Z Z.heap "java/lang/StringUTF16" "HI_BYTE_SHIFT" "I" (.int 0)) (S_lo : Sta Z Z.heap "java/lang/StringUTF16" "LO_BYTE_SHIFT" "I" (.int 8)) (cx0 : nar .char x0 = x0) (cx1 : nar .char x1 = x1) (cx2 : nar .char x2 = x2) (cx3 : nar .char x3 = x3) :
    own_Ct lL Z yn17 jdk_42_method_56_code 2 (some .char) ws (⟨4, 0, 0, 53⟩ : Room) #[.ref a, .int 2] h0 (Qw (.int x2) h0 n0) := by
  rcases so with q | q
  · exact rmAL2 lL Z a0 hw ws a cs fm x0 x1 x2 x3 h0 n0 q O S_fm hfm S_cs hcs S_ad S_hi S_lo cx0 cx1 cx2 cx3
  · exact rmAU2 lL Z a0 hw ws a cs fm x0 x1 x2 x3 h0 n0 q O S_fm hfm S_cs hcs S_ad S_hi S_lo cx0 cx1 cx2 cx3
theorem ef_rmPI3 (mM : MethodId) (fm : Value) (hfm : fm.isRef = true) : entryFrame mM #[.int 3, .int 4, fm] 3 = mkF mM 0 #[.val (.int 3), .val (.int 4), .val fm] [] := by rcases ref_cases hfm with rfl | ⟨aq, rfl⟩ <;> first | (simp [entryFrame, mkF, argsToLocals, Value.category]; done) | rfl
theorem rmPI3 (lL : Launch) (Z : State) (a0 : Array Value) (hw : own_tb a0 Z) (ws : List Jvm.Cond) (fm : Value) (h0 : Heap) (n0 : Nat) (hfm : fm.isRef = true) :
    own_Ct lL Z yn12 jdk_41_method_11_code 3 (some .int) ws (⟨0, 0, 0, 0⟩ : Room) #[.int 3, .int 4, fm] h0 (Qw (.int 3) h0 n0) := by
  refine own_body (plainFor_of_name pn_jdk_2finternal_2futil_2fPreconditions) 0 0 rfl rfl (fun mM => ef_rmPI3 mM fm hfm) fun pP eE sS mM below meth cC s₁ hZ hx hby hml hown hnm hret hlk X0 e0 => ?_
  have N0 := Fr.nil n0
  refine o_iloadN 1 X0 hx (hb hby d14_0) rfl rfl ?_
  refine o_ifNo 4 X0 hx (hb hby d14_1) ((if0 _ _).trans (flt (by decide : ¬ ((3 : Int32) < (0 : Int32)))).1) rfl ?_
  refine o_iloadN 5 X0 hx (hb hby d14_4) rfl rfl ?_
  refine o_iloadN 6 X0 hx (hb hby d14_5) rfl rfl ?_
  refine o_icmpYes 16 X0 hx (hb hby d14_6) (tlt (by decide : ((3 : Int32) < (4 : Int32)))).1 (by decide) ?_
  refine o_iloadN 17 X0 hx (hb hby d14_16) rfl rfl ?_
  exact own_retI X0 hx hlk hret (hb hby d14_17) ⟨rfl, N0, e0⟩ (by decide) (by decide)
theorem ef_rmCI3 (mM : MethodId) (fm : Value) : entryFrame mM #[.int 3, .int 4] 2 = mkF mM 0 #[.val (.int 3), .val (.int 4)] [] := by first | (simp [entryFrame, mkF, argsToLocals, Value.category]; done) | rfl
theorem rmCI3 (lL : Launch) (Z : State) (a0 : Array Value) (hw : own_tb a0 Z) (ws : List Jvm.Cond) (fm : Value) (h0 : Heap) (n0 : Nat) (O : Old Z n0 h0) (S_fm : Sta Z Z.heap "jdk/internal/util/Preconditions" "SIOOBE_FORMATTER" "Ljava/util/function/BiFunction;" fm) (hfm : fm.isRef = true) :
    own_Ct lL Z yn13 jdk_42_method_155_code 2 none ws (⟨1, 0, 0, 14⟩ : Room) #[.int 3, .int 4] h0 (Q0 h0 n0) := by
  refine own_body (plainFor_of_name pn_java_2flang_2fString) 0 0 rfl rfl (fun mM => ef_rmCI3 mM fm) fun pP eE sS mM below meth cC s₁ hZ hx hby hml hown hnm hret hlk X0 e0 => ?_
  have N0 := Fr.nil n0
  refine o_iloadN 1 X0 hx (hb hby d13_0) rfl rfl ?_
  refine o_iloadN 2 X0 hx (hb hby d13_1) rfl rfl ?_
  obtain ⟨T274, X274, e274, st274⟩ := getS2 X0 hx hZ hown (host := "") (Or.inl (ow hw 60 rfl)) Via.refl e0 (S_fm.ext O.2) (g := (mkF mM 2 #[.val (.int 3), .val (.int 4)] [.int 4, .int 3])) rfl (hb hby d13_2)
  refine own_k T274 5 [fm, .int 4, .int 3] st274 ?_
  obtain ⟨_, _, ⟨T275, L275, k275, n275⟩, -, X275, ⟨Lc275, hQ275, l275, y275, z275⟩, st275⟩ := Jvm.LawKit.callS X274 hx (y := yn12) hown (mvT hZ (ow hw 62 rfl)) (mvT hZ (ow hw 63 rfl)) (mvT hZ (ow hw 61 rfl)) (mvT hZ (ow hw 64 rfl)) (by decide) (backOf (W := 0) (rmPI3 lL Z a0 hw [] fm h0 n0 hfm) hZ (ow hw 64 rfl) (ow hw 61 rfl) (by decide) (by decide)) (g := (mkF mM 5 #[.val (.int 3), .val (.int 4)] [fm, .int 4, .int 3])) rfl (by rw [hml]; rfl) (argsL := [.int 3, .int 4, fm]) (rest := []) (lenOf pd__28IILjava_2futil_2ffunction_2fBiFunction_3b_29I rfl) rfl (by show 2 * 0 + _ ≤ _; exact Nat.le_of_eq rfl) (hb hby d13_5) (fun _ _ => ⟨rfl, e274, (by decide : 0 + 0 ≤ _), (by decide : 0 + 0 ≤ _)⟩)
  dsimp only [Pt.U, Pt.locs, Pt.cells, Pt.slots] at X275 l275 y275 z275 st275 hQ275
  subst l275 y275 z275
  obtain ⟨rfl, N275q, e275⟩ := hQ275
  have N275 := Fr.app N0 N275q
  refine own_k T275 8 [.int 3] st275 ?_
  refine own_j 9 [] (fun t_ k_ => XS.pop X275.here hx rfl (hb hby d13_8) rfl rfl k_) ?_
  exact own_retV X275 hx hlk hret (hb hby d13_9) ⟨rfl, N275, e275⟩ (by decide) (by decide)
theorem ef_rmLA3 (mM : MethodId) (d : Addr) (kd : ClassId) (fm : Value) (x0 : Int32) (x1 : Int32) (x2 : Int32) (x3 : Int32) : entryFrame mM #[.ref d, .int 3] 2 = mkF mM 0 #[.val (.ref d), .val (.int 3)] [] := by first | (simp [entryFrame, mkF, argsToLocals, Value.category]; done) | rfl
theorem rmLA3 (lL : Launch) (Z : State) (a0 : Array Value) (hw : own_tb a0 Z) (ws : List Jvm.Cond) (d : Addr) (kd : ClassId) (fm : Value) (x0 : Int32) (x1 : Int32) (x2 : Int32) (x3 : Int32) (h0 : Heap) (n0 : Nat) (A_d : Arv Z h0 d kd .byte 4 [(.int (((x0).toInt8.toInt32)).toInt8.toInt32), (.int (((x1).toInt8.toInt32)).toInt8.toInt32), (.int (((x2).toInt8.toInt32)).toInt8.toInt32), (.int (((x3).toInt8.toInt32)).toInt8.toInt32)] (.int 0)) (O : Old Z n0 h0) (S_fm : Sta Z Z.heap "jdk/internal/util/Preconditions" "SIOOBE_FORMATTER" "Ljava/util/function/BiFunction;" fm) (hfm : fm.isRef = true) (ck : Ck x3) :
    own_Ct lL Z yn14 jdk_43_method_2_code 2 (some .char) ws (⟨2, 0, 0, 27⟩ : Room) #[.ref d, .int 3] h0 (Qw (.int x3) h0 n0) := by
  refine own_body (plainFor_of_name pn_java_2flang_2fStringLatin1) 0 0 rfl rfl (fun mM => ef_rmLA3 mM d kd fm x0 x1 x2 x3) fun pP eE sS mM below meth cC s₁ hZ hx hby hml hown hnm hret hlk X0 e0 => ?_
  have N0 := Fr.nil n0
  refine o_iloadN 1 X0 hx (hb hby d12_0) rfl rfl ?_
  refine o_aloadN 2 X0 hx (hb hby d12_1) rfl rfl rfl ?_
  obtain ⟨cl276, Ar276, q276, S276, Nn276, H276, G276⟩ := id A_d
  refine own_j 3 [.int 4, .int 3] (fun t_ k_ => X0.arraylength hx (by rw [e0]; exact Ar276.1) (State.isArrayOf_alike hZ.alike Ar276.2.1) (g := (mkF mM 2 #[.val (.ref d), .val (.int 3)] [.ref d, .int 3])) rfl rfl (hb hby d12_2) t_ (by rw [len_of S276 Nn276]; exact k_)) ?_
  obtain ⟨_, _, ⟨T277, L277, k277, n277⟩, -, X277, ⟨Lc277, hQ277, l277, y277, z277⟩, st277⟩ := Jvm.LawKit.callS X0 hx (y := yn13) hown (mvT hZ (ow hw 57 rfl)) (mvT hZ (ow hw 58 rfl)) (mvT hZ (ow hw 8 rfl)) (mvT hZ (ow hw 59 rfl)) (by decide) (backOf (W := 0) (rmCI3 lL Z a0 hw [] fm h0 n0 O S_fm hfm) hZ (ow hw 59 rfl) (ow hw 8 rfl) (by decide) (by decide)) (g := (mkF mM 3 #[.val (.ref d), .val (.int 3)] [.int 4, .int 3])) rfl (by rw [hml]; rfl) (argsL := [.int 3, .int 4]) (rest := []) (lenOf pd__28II_29V rfl) rfl (by show 2 * 0 + _ ≤ _; exact Nat.le_of_eq rfl) (hb hby d12_3) (fun _ _ => ⟨rfl, e0, (by decide : 0 + 0 ≤ _), (by decide : 0 + 0 ≤ _)⟩)
  dsimp only [Pt.U, Pt.locs, Pt.cells, Pt.slots] at X277 l277 y277 z277 st277 hQ277
  subst l277 y277 z277
  obtain ⟨rfl, N277q, e277⟩ := hQ277
  have N277 := Fr.app N0 N277q
  refine own_k T277 6 [] st277 ?_
  refine o_aloadN 7 X277 hx (hb hby d12_6) rfl rfl rfl ?_
  refine o_iloadN 8 X277 hx (hb hby d12_7) rfl rfl ?_
  obtain ⟨cl278, Ar278, q278, S278, Nn278, H278, G278⟩ := id A_d
  have hin278 : ¬ ((3 : Int32) < 0 ∨ cl278.slots.size ≤ ((3 : Int32)).toNatClampNeg) := inb_of S278 ⟨by decide, by decide⟩
  refine own_j 9 [(.int (((x3).toInt8.toInt32)).toInt8.toInt32)] (fun t_ k_ => X277.baloadBytes hx (j := (3 : Int32)) (v := (.int (((x3).toInt8.toInt32)).toInt8.toInt32)) (by rw [e277]; exact Ar278.1) (State.isArrayOf_alike hZ.alike Ar278.2.1) Ar278.2.2 hin278 (H278.at hin278 rfl) (g := (mkF mM 8 #[.val (.ref d), .val (.int 3)] [.int 3, .ref d])) rfl rfl (hb hby d12_8) t_ k_) ?_
  refine o_sipush 12 255 X277 hx (hb hby d12_9) rfl rfl ?_
  refine own_j 13 [(.int ((((x3).toInt8.toInt32)).toInt8.toInt32 &&& (255 : Int32)))] (fun t_ k_ => XS.iand X277.here hx rfl (hb hby d12_12) rfl k_) ?_
  refine own_j 14 [(.int ((((((x3).toInt8.toInt32)).toInt8.toInt32 &&& (255 : Int32))).toUInt32.toUInt16.toUInt32.toInt32))] (fun t_ k_ => XS.i2c X277.here hx rfl (hb hby d12_13) rfl k_) ?_
  exact own_retN X277 hx hlk (t := .char) hret (by simp) (hb hby d12_14) ⟨congrArg (fun t => some (Value.int t)) (own_rtL ck), N277, e277⟩ (by decide) (by decide)
theorem ef_rmUI3 (mM : MethodId) (d : Addr) (kd : ClassId) (fm : Value) (x0 : Int32) (x1 : Int32) (x2 : Int32) (x3 : Int32) : entryFrame mM #[.int 3, .ref d] 2 = mkF mM 0 #[.val (.int 3), .val (.ref d)] [] := by first | (simp [entryFrame, mkF, argsToLocals, Value.category]; done) | rfl
theorem rmUI3 (lL : Launch) (Z : State) (a0 : Array Value) (hw : own_tb a0 Z) (ws : List Jvm.Cond) (d : Addr) (kd : ClassId) (fm : Value) (x0 : Int32) (x1 : Int32) (x2 : Int32) (x3 : Int32) (h0 : Heap) (n0 : Nat) (A_d : Arv Z h0 d kd .byte 8 [(.int (lo8 x0)), (.int (hi8 x0)), (.int (lo8 x1)), (.int (hi8 x1)), (.int (lo8 x2)), (.int (hi8 x2)), (.int (lo8 x3)), (.int (hi8 x3))] (.int 0)) (O : Old Z n0 h0) (S_fm : Sta Z Z.heap "jdk/internal/util/Preconditions" "SIOOBE_FORMATTER" "Ljava/util/function/BiFunction;" fm) (hfm : fm.isRef = true) :
    own_Ct lL Z yn15 jdk_52_method_91_code 2 none ws (⟨2, 0, 0, 27⟩ : Room) #[.int 3, .ref d] h0 (Q0 h0 n0) := by
  refine own_body (plainFor_of_name pn_java_2flang_2fStringUTF16) 0 0 rfl rfl (fun mM => ef_rmUI3 mM d kd fm x0 x1 x2 x3) fun pP eE sS mM below meth cC s₁ hZ hx hby hml hown hnm hret hlk X0 e0 => ?_
  have N0 := Fr.nil n0
  refine o_iloadN 1 X0 hx (hb hby d21_0) rfl rfl ?_
  refine o_aloadN 2 X0 hx (hb hby d21_1) rfl rfl rfl ?_
  obtain ⟨_, _, ⟨T279, L279, k279, n279⟩, -, X279, ⟨Lc279, hQ279, l279, y279, z279⟩, st279⟩ := Jvm.LawKit.callS X0 hx (y := yn11) hown (mvT hZ (ow hw 90 rfl)) (mvT hZ (ow hw 91 rfl)) (mvT hZ (ow hw 22 rfl)) (mvT hZ (ow hw 92 rfl)) (by decide) (backOf (W := 1) (rmUL lL Z a0 hw [] d kd x0 x1 x2 x3 h0 n0 A_d) hZ (ow hw 92 rfl) (ow hw 22 rfl) (by decide) (by decide)) (g := (mkF mM 2 #[.val (.int 3), .val (.ref d)] [.ref d, .int 3])) rfl (by rw [hml]; rfl) (argsL := [.ref d]) (rest := [.int 3]) (lenOf pd__28_5bB_29I rfl) rfl (by show 2 * 0 + _ ≤ _; exact Nat.le_of_eq rfl) (hb hby d21_2) (fun _ _ => ⟨rfl, e0, (by decide : 0 + 0 ≤ _), (by decide : 0 + 0 ≤ _)⟩)
  dsimp only [Pt.U, Pt.locs, Pt.cells, Pt.slots] at X279 l279 y279 z279 st279 hQ279
  subst l279 y279 z279
  obtain ⟨rfl, N279q, e279⟩ := hQ279
  have N279 := Fr.app N0 N279q
  refine own_k T279 5 [.int 4, .int 3] st279 ?_
  obtain ⟨_, _, ⟨T280, L280, k280, n280⟩, -, X280, ⟨Lc280, hQ280, l280, y280, z280⟩, st280⟩ := Jvm.LawKit.callS X279 hx (y := yn13) hown (mvT hZ (ow hw 93 rfl)) (mvT hZ (ow hw 58 rfl)) (mvT hZ (ow hw 8 rfl)) (mvT hZ (ow hw 59 rfl)) (by decide) (backOf (W := 0) (rmCI3 lL Z a0 hw [] fm h0 n0 O S_fm hfm) hZ (ow hw 59 rfl) (ow hw 8 rfl) (by decide) (by decide)) (g := (mkF mM 5 #[.val (.int 3), .val (.ref d)] [.int 4, .int 3])) rfl (by rw [hml]; rfl) (argsL := [.int 3, .int 4]) (rest := []) (lenOf pd__28II_29V rfl) rfl (by show 2 * 0 + _ ≤ _; exact Nat.le_of_eq rfl) (hb hby d21_5) (fun _ _ => ⟨rfl, e279, (by decide : 0 + 0 ≤ _), (by decide : 0 + 0 ≤ _)⟩)
  dsimp only [Pt.U, Pt.locs, Pt.cells, Pt.slots] at X280 l280 y280 z280 st280 hQ280
  subst l280 y280 z280
  obtain ⟨rfl, N280q, e280⟩ := hQ280
  have N280 := Fr.app N279 N280q
  refine own_k T280 8 [] st280 ?_
  exact own_retV X280 hx hlk hret (hb hby d21_8) ⟨rfl, N280, e280⟩ (by decide) (by decide)
theorem ef_rmUA3 (mM : MethodId) (d : Addr) (kd : ClassId) (fm : Value) (x0 : Int32) (x1 : Int32) (x2 : Int32) (x3 : Int32) : entryFrame mM #[.ref d, .int 3] 2 = mkF mM 0 #[.val (.ref d), .val (.int 3)] [] := by first | (simp [entryFrame, mkF, argsToLocals, Value.category]; done) | rfl
theorem rmUA3 (lL : Launch) (Z : State) (a0 : Array Value) (hw : own_tb a0 Z) (ws : List Jvm.Cond) (d : Addr) (kd : ClassId) (fm : Value) (x0 : Int32) (x1 : Int32) (x2 : Int32) (x3 : Int32) (h0 : Heap) (n0 : Nat) (A_d : Arv Z h0 d kd .byte 8 [(.int (lo8 x0)), (.int (hi8 x0)), (.int (lo8 x1)), (.int (hi8 x1)), (.int (lo8 x2)), (.int (hi8 x2)), (.int (lo8 x3)), (.int (hi8 x3))] (.int 0)) (O : Old Z n0 h0) (S_fm : Sta Z Z.heap "jdk/internal/util/Preconditions" "SIOOBE_FORMATTER" "Ljava/util/function/BiFunction;" fm) (hfm : fm.isRef = true) (S_ad : Sta Z Z.heap "java/lang/StringUTF16" "$assertionsDisabled" "Z" (.int 1)) (S_hi : Sta Z Z.heap "java/lang/StringUTF16" "HI_BYTE_SHIFT" "I" (.int 0)) (S_lo : Sta Z Z.heap "java/lang/StringUTF16" "LO_BYTE_SHIFT" "I" (.int 8)) (cx3 : nar .char x3 = x3) :
    own_Ct lL Z yn16 jdk_52_method_83_code 2 (some .char) ws (⟨3, 0, 0, 40⟩ : Room) #[.ref d, .int 3] h0 (Qw (.int x3) h0 n0) := by
  refine own_body (plainFor_of_name pn_java_2flang_2fStringUTF16) 0 0 rfl rfl (fun mM => ef_rmUA3 mM d kd fm x0 x1 x2 x3) fun pP eE sS mM below meth cC s₁ hZ hx hby hml hown hnm hret hlk X0 e0 => ?_
  have N0 := Fr.nil n0
  refine o_iloadN 1 X0 hx (hb hby d20_0) rfl rfl ?_
  refine o_aloadN 2 X0 hx (hb hby d20_1) rfl rfl rfl ?_
  obtain ⟨_, _, ⟨T281, L281, k281, n281⟩, -, X281, ⟨Lc281, hQ281, l281, y281, z281⟩, st281⟩ := Jvm.LawKit.callS X0 hx (y := yn15) hown (mvT hZ (ow hw 87 rfl)) (mvT hZ (ow hw 88 rfl)) (mvT hZ (ow hw 22 rfl)) (mvT hZ (ow hw 89 rfl)) (by decide) (backOf (W := 0) (rmUI3 lL Z a0 hw [] d kd fm x0 x1 x2 x3 h0 n0 A_d O S_fm hfm) hZ (ow hw 89 rfl) (ow hw 22 rfl) (by decide) (by decide)) (g := (mkF mM 2 #[.val (.ref d), .val (.int 3)] [.ref d, .int 3])) rfl (by rw [hml]; rfl) (argsL := [.int 3, .ref d]) (rest := []) (lenOf pd__28I_5bB_29V rfl) rfl (by show 2 * 0 + _ ≤ _; exact Nat.le_of_eq rfl) (hb hby d20_2) (fun _ _ => ⟨rfl, e0, (by decide : 0 + 0 ≤ _), (by decide : 0 + 0 ≤ _)⟩)
  dsimp only [Pt.U, Pt.locs, Pt.cells, Pt.slots] at X281 l281 y281 z281 st281 hQ281
  subst l281 y281 z281
  obtain ⟨rfl, N281q, e281⟩ := hQ281
  have N281 := Fr.app N0 N281q
  refine own_k T281 5 [] st281 ?_
  refine o_aloadN 6 X281 hx (hb hby d20_5) rfl rfl rfl ?_
  refine o_iloadN 7 X281 hx (hb hby d20_6) rfl rfl ?_
  obtain ⟨_, _, ⟨T282, L282, k282, n282⟩, -, X282, ⟨Lc282, hQ282, l282, y282, z282⟩, st282⟩ := Jvm.LawKit.callS X281 hx (y := yn4) hown (mvT hZ (ow hw 81 rfl)) (mvT hZ (ow hw 82 rfl)) (mvT hZ (ow hw 22 rfl)) (mvT hZ (ow hw 83 rfl)) (by decide) (backOf (W := 0) (rmGC3 lL Z a0 hw [] d kd x0 x1 x2 x3 h0 n0 A_d O S_ad S_hi S_lo cx3) hZ (ow hw 83 rfl) (ow hw 22 rfl) (by decide) (by decide)) (g := (mkF mM 7 #[.val (.ref d), .val (.int 3)] [.int 3, .ref d])) rfl (by rw [hml]; rfl) (argsL := [.ref d, .int 3]) (rest := []) (lenOf pd__28_5bBI_29C rfl) rfl (by show 2 * 0 + _ ≤ _; exact Nat.le_of_eq rfl) (hb hby d20_7) (fun _ _ => ⟨rfl, e281, (by decide : 0 + 0 ≤ _), (by decide : 0 + 0 ≤ _)⟩)
  dsimp only [Pt.U, Pt.locs, Pt.cells, Pt.slots] at X282 l282 y282 z282 st282 hQ282
  subst l282 y282 z282
  obtain ⟨rfl, N282q, e282⟩ := hQ282
  have N282 := Fr.app N281 N282q
  refine own_k T282 10 [.int x3] st282 ?_
  exact own_retN X282 hx hlk (t := .char) hret (by simp) (hb hby d20_10) ⟨congrArg (fun t => some (Value.int t)) cx3, N282, e282⟩ (by decide) (by decide)
theorem ef_rmAU3 (mM : MethodId) (a : Addr) (cs : Int32) (fm : Value) (x0 : Int32) (x1 : Int32) (x2 : Int32) (x3 : Int32) : entryFrame mM #[.ref a, .int 3] 2 = mkF mM 0 #[.val (.ref a), .val (.int 3)] [] := by first | (simp [entryFrame, mkF, argsToLocals, Value.category]; done) | rfl
theorem rmAU3 (lL : Launch) (Z : State) (a0 : Array Value) (hw : own_tb a0 Z) (ws : List Jvm.Cond) (a : Addr) (cs : Int32) (fm : Value) (x0 : Int32) (x1 : Int32) (x2 : Int32) (x3 : Int32) (h0 : Heap) (n0 : Nat) (so : StrU Z h0 a x0 x1 x2 x3) (O : Old Z n0 h0) (S_fm : Sta Z Z.heap "jdk/internal/util/Preconditions" "SIOOBE_FORMATTER" "Ljava/util/function/BiFunction;" fm) (hfm : fm.isRef = true) (S_cs : Sta Z Z.heap "java/lang/String" "COMPACT_STRINGS" "Z" (.int cs)) (hcs : ¬ cs = (0 : Int32)) (S_ad : Sta Z Z.heap "java/lang/StringUTF16" "$assertionsDisabled" "Z" (.int 1)) (S_hi : Sta Z Z.heap "java/lang/StringUTF16" "HI_BYTE_SHIFT" "I" (.int 0)) (S_lo : Sta Z Z.heap "java/lang/StringUTF16" "LO_BYTE_SHIFT" "I" (.int 8)) (cx0 : nar .char x0 = x0) (cx1 : nar .char x1 = x1) (cx2 : nar .char x2 = x2) (cx3 : nar .char x3 = x3) :
    own_Ct lL Z yn17 jdk_42_method_56_code 2 (some .char) ws (⟨4, 0, 0, 53⟩ : Room) #[.ref a, .int 3] h0 (Qw (.int x3) h0 n0) := by
  refine own_body (plainFor_of_name pn_java_2flang_2fString) 0 0 rfl rfl (fun mM => ef_rmAU3 mM a cs fm x0 x1 x2 x3) fun pP eE sS mM below meth cC s₁ hZ hx hby hml hown hnm hret hlk X0 e0 => ?_
  have N0 := Fr.nil n0
  obtain ⟨d, kd, E_a, fv, fc, A_d⟩ := so
  refine o_aloadN 1 X0 hx (hb hby d10_0) rfl rfl rfl ?_
  obtain ⟨cq283, kq283, q283a, q283b, q283c⟩ := isOf hZ e0 E_a
  obtain ⟨_, _, ⟨T283, L283, k283, n283⟩, -, X283, ⟨Lc283, hQ283, l283, y283, z283⟩, st283⟩ := X0.virtualBack hx (y := yn10) (z := yn10) hown (mvT hZ (ow hw 48 rfl)) (mvT hZ (ow hw 49 rfl)) (notFace_of_selects (args := #[]) (mvT hZ (ow hw 51 rfl))) (mvT hZ (ow hw 51 rfl)) (mvT hZ (ow hw 50 rfl)) (by decide) (backOf (W := 0) (rmIL1 lL Z a0 hw [] a cs h0 n0 fc O S_cs hcs) hZ (ow hw 52 rfl) (ow hw 8 rfl) (by decide) (by decide)) q283a q283c (g := (mkF mM 1 #[.val (.ref a), .val (.int 3)] [.ref a])) rfl (by rw [hml]; rfl) (Steps.refl _) (argsL := []) (rest := []) (lenOf pd__28_29Z rfl) rfl (by show 2 * 0 + _ ≤ _; exact Nat.le_of_eq rfl) (hb hby d10_1) (fun _ _ => ⟨rfl, e0, (by decide : 0 + 0 ≤ _), (by decide : 0 + 0 ≤ _)⟩)
  dsimp only [Pt.U, Pt.locs, Pt.cells, Pt.slots] at X283 l283 y283 z283 st283 hQ283
  subst l283 y283 z283
  obtain ⟨rfl, N283q, e283⟩ := hQ283
  have N283 := Fr.app N0 N283q
  refine own_k T283 4 [.int 0] (fun t_ k_ => st283.trans k_) ?_
  refine o_ifYes 16 X283 hx (hb hby d10_4) ((if0 _ _).trans (teq (by decide : ((0 : Int32) = (0 : Int32)))).1) (by decide) ?_
  refine o_aloadN 17 X283 hx (hb hby d10_16) rfl rfl rfl ?_
  obtain ⟨T284, X284, e284, st284⟩ := getF X283 hx hZ hown (host := "") (Or.inl (ow hw 33 rfl)) Via.refl e283 fv (g := (mkF mM 17 #[.val (.ref a), .val (.int 3)] [.ref a])) rfl rfl (hb hby d10_17)
  refine own_k T284 20 [.ref d] st284 ?_
  refine o_iloadN 21 X284 hx (hb hby d10_20) rfl rfl ?_
  obtain ⟨_, _, ⟨T285, L285, k285, n285⟩, -, X285, ⟨Lc285, hQ285, l285, y285, z285⟩, st285⟩ := Jvm.LawKit.callS X284 hx (y := yn16) hown (mvT hZ (ow hw 84 rfl)) (mvT hZ (ow hw 85 rfl)) (mvT hZ (ow hw 22 rfl)) (mvT hZ (ow hw 86 rfl)) (by decide) (backOf (W := 0) (rmUA3 lL Z a0 hw [] d kd fm x0 x1 x2 x3 h0 n0 A_d O S_fm hfm S_ad S_hi S_lo cx3) hZ (ow hw 86 rfl) (ow hw 22 rfl) (by decide) (by decide)) (g := (mkF mM 21 #[.val (.ref a), .val (.int 3)] [.int 3, .ref d])) rfl (by rw [hml]; rfl) (argsL := [.ref d, .int 3]) (rest := []) (lenOf pd__28_5bBI_29C rfl) rfl (by show 2 * 0 + _ ≤ _; exact Nat.le_of_eq rfl) (hb hby d10_21) (fun _ _ => ⟨rfl, e284, (by decide : 0 + 0 ≤ _), (by decide : 0 + 0 ≤ _)⟩)
  dsimp only [Pt.U, Pt.locs, Pt.cells, Pt.slots] at X285 l285 y285 z285 st285 hQ285
  subst l285 y285 z285
  obtain ⟨rfl, N285q, e285⟩ := hQ285
  have N285 := Fr.app N283 N285q
  refine own_k T285 24 [.int x3] st285 ?_
  exact own_retN X285 hx hlk (t := .char) hret (by simp) (hb hby d10_24) ⟨congrArg (fun t => some (Value.int t)) cx3, N285, e285⟩ (by decide) (by decide)
theorem ef_rmAL3 (mM : MethodId) (a : Addr) (cs : Int32) (fm : Value) (x0 : Int32) (x1 : Int32) (x2 : Int32) (x3 : Int32) : entryFrame mM #[.ref a, .int 3] 2 = mkF mM 0 #[.val (.ref a), .val (.int 3)] [] := by first | (simp [entryFrame, mkF, argsToLocals, Value.category]; done) | rfl
theorem rmAL3 (lL : Launch) (Z : State) (a0 : Array Value) (hw : own_tb a0 Z) (ws : List Jvm.Cond) (a : Addr) (cs : Int32) (fm : Value) (x0 : Int32) (x1 : Int32) (x2 : Int32) (x3 : Int32) (h0 : Heap) (n0 : Nat) (so : StrL Z h0 a x0 x1 x2 x3) (O : Old Z n0 h0) (S_fm : Sta Z Z.heap "jdk/internal/util/Preconditions" "SIOOBE_FORMATTER" "Ljava/util/function/BiFunction;" fm) (hfm : fm.isRef = true) (S_cs : Sta Z Z.heap "java/lang/String" "COMPACT_STRINGS" "Z" (.int cs)) (hcs : ¬ cs = (0 : Int32)) (S_ad : Sta Z Z.heap "java/lang/StringUTF16" "$assertionsDisabled" "Z" (.int 1)) (S_hi : Sta Z Z.heap "java/lang/StringUTF16" "HI_BYTE_SHIFT" "I" (.int 0)) (S_lo : Sta Z Z.heap "java/lang/StringUTF16" "LO_BYTE_SHIFT" "I" (.int 8)) (cx0 : nar .char x0 = x0) (cx1 : nar .char x1 = x1) (cx2 : nar .char x2 = x2) (cx3 : nar .char x3 = x3) :
    own_Ct lL Z yn17 jdk_42_method_56_code 2 (some .char) ws (⟨4, 0, 0, 53⟩ : Room) #[.ref a, .int 3] h0 (Qw (.int x3) h0 n0) := by
  refine own_body (plainFor_of_name pn_java_2flang_2fString) 0 0 rfl rfl (fun mM => ef_rmAL3 mM a cs fm x0 x1 x2 x3) fun pP eE sS mM below meth cC s₁ hZ hx hby hml hown hnm hret hlk X0 e0 => ?_
  have N0 := Fr.nil n0
  obtain ⟨⟨d, kd, E_a, fv, fc, A_d⟩, k0, k1, k2, k3⟩ := so
  refine o_aloadN 1 X0 hx (hb hby d10_0) rfl rfl rfl ?_
  obtain ⟨cq286, kq286, q286a, q286b, q286c⟩ := isOf hZ e0 E_a
  obtain ⟨_, _, ⟨T286, L286, k286, n286⟩, -, X286, ⟨Lc286, hQ286, l286, y286, z286⟩, st286⟩ := X0.virtualBack hx (y := yn10) (z := yn10) hown (mvT hZ (ow hw 48 rfl)) (mvT hZ (ow hw 49 rfl)) (notFace_of_selects (args := #[]) (mvT hZ (ow hw 51 rfl))) (mvT hZ (ow hw 51 rfl)) (mvT hZ (ow hw 50 rfl)) (by decide) (backOf (W := 0) (rmIL0 lL Z a0 hw [] a cs h0 n0 fc O S_cs hcs) hZ (ow hw 52 rfl) (ow hw 8 rfl) (by decide) (by decide)) q286a q286c (g := (mkF mM 1 #[.val (.ref a), .val (.int 3)] [.ref a])) rfl (by rw [hml]; rfl) (Steps.refl _) (argsL := []) (rest := []) (lenOf pd__28_29Z rfl) rfl (by show 2 * 0 + _ ≤ _; exact Nat.le_of_eq rfl) (hb hby d10_1) (fun _ _ => ⟨rfl, e0, (by decide : 0 + 0 ≤ _), (by decide : 0 + 0 ≤ _)⟩)
  dsimp only [Pt.U, Pt.locs, Pt.cells, Pt.slots] at X286 l286 y286 z286 st286 hQ286
  subst l286 y286 z286
  obtain ⟨rfl, N286q, e286⟩ := hQ286
  have N286 := Fr.app N0 N286q
  refine own_k T286 4 [.int 1] (fun t_ k_ => st286.trans k_) ?_
  refine o_ifNo 7 X286 hx (hb hby d10_4) ((if0 _ _).trans (feq (by decide : ¬ ((1 : Int32) = (0 : Int32)))).1) rfl ?_
  refine o_aloadN 8 X286 hx (hb hby d10_7) rfl rfl rfl ?_
  obtain ⟨T287, X287, e287, st287⟩ := getF X286 hx hZ hown (host := "") (Or.inl (ow hw 33 rfl)) Via.refl e286 fv (g := (mkF mM 8 #[.val (.ref a), .val (.int 3)] [.ref a])) rfl rfl (hb hby d10_8)
  refine own_k T287 11 [.ref d] st287 ?_
  refine o_iloadN 12 X287 hx (hb hby d10_11) rfl rfl ?_
  obtain ⟨_, _, ⟨T288, L288, k288, n288⟩, -, X288, ⟨Lc288, hQ288, l288, y288, z288⟩, st288⟩ := Jvm.LawKit.callS X287 hx (y := yn14) hown (mvT hZ (ow hw 53 rfl)) (mvT hZ (ow hw 54 rfl)) (mvT hZ (ow hw 55 rfl)) (mvT hZ (ow hw 56 rfl)) (by decide) (backOf (W := 0) (rmLA3 lL Z a0 hw [] d kd fm x0 x1 x2 x3 h0 n0 A_d O S_fm hfm k3) hZ (ow hw 56 rfl) (ow hw 55 rfl) (by decide) (by decide)) (g := (mkF mM 12 #[.val (.ref a), .val (.int 3)] [.int 3, .ref d])) rfl (by rw [hml]; rfl) (argsL := [.ref d, .int 3]) (rest := []) (lenOf pd__28_5bBI_29C rfl) rfl (by show 2 * 0 + _ ≤ _; exact Nat.le_of_eq rfl) (hb hby d10_12) (fun _ _ => ⟨rfl, e287, (by decide : 0 + 0 ≤ _), (by decide : 0 + 0 ≤ _)⟩)
  dsimp only [Pt.U, Pt.locs, Pt.cells, Pt.slots] at X288 l288 y288 z288 st288 hQ288
  subst l288 y288 z288
  obtain ⟨rfl, N288q, e288⟩ := hQ288
  have N288 := Fr.app N286 N288q
  refine own_k T288 15 [.int x3] st288 ?_
  exact own_retN X288 hx hlk (t := .char) hret (by simp) (hb hby d10_15) ⟨congrArg (fun t => some (Value.int t)) cx3, N288, e288⟩ (by decide) (by decide)
theorem rmA3 (lL : Launch) (Z : State) (a0 : Array Value) (hw : own_tb a0 Z) (ws : List Jvm.Cond) (a : Addr) (cs : Int32) (fm : Value) (x0 : Int32) (x1 : Int32) (x2 : Int32) (x3 : Int32) (h0 : Heap) (n0 : Nat) (so : StrC Z h0 a x0 x1 x2 x3) (O : Old Z n0 h0) (S_fm : Sta Z Z.heap "jdk/internal/util/Preconditions" "SIOOBE_FORMATTER" "Ljava/util/function/BiFunction;" fm) (hfm : fm.isRef = true) (S_cs : Sta Z Z.heap "java/lang/String" "COMPACT_STRINGS" "Z" (.int cs)) (hcs : ¬ cs = (0 : Int32)) (S_ad : Sta Z Z.heap "java/lang/StringUTF16" "$assertionsDisabled" "Z" (.int 1)) (S_hi : Sta Z Z.heap "java/lang/StringUTF16" "HI_BYTE_SHIFT" "I" (.int 0)) (S_lo : Sta Z Z.heap "java/lang/StringUTF16" "LO_BYTE_SHIFT" "I" (.int 8)) (cx0 : nar .char x0 = x0) (cx1 : nar .char x1 = x1) (cx2 : nar .char x2 = x2) (cx3 : nar .char x3 = x3) :
    own_Ct lL Z yn17 jdk_42_method_56_code 2 (some .char) ws (⟨4, 0, 0, 53⟩ : Room) #[.ref a, .int 3] h0 (Qw (.int x3) h0 n0) := by
  rcases so with q | q
  · exact rmAL3 lL Z a0 hw ws a cs fm x0 x1 x2 x3 h0 n0 q O S_fm hfm S_cs hcs S_ad S_hi S_lo cx0 cx1 cx2 cx3
  · exact rmAU3 lL Z a0 hw ws a cs fm x0 x1 x2 x3 h0 n0 q O S_fm hfm S_cs hcs S_ad S_hi S_lo cx0 cx1 cx2 cx3
theorem d9_0 : decode prog_31_method_8_code 0 = .ok (.iconst 1, 1) := by decide +kernel
theorem d9_1 : decode prog_31_method_8_code 1 = .ok (.istore_n 2, 1) := by decide +kernel
theorem d9_2 : decode prog_31_method_8_code 2 = .ok (.iconst 0, 1) := by decide +kernel
theorem d9_3 : decode prog_31_method_8_code 3 = .ok (.istore_n 3, 1) := by decide +kernel
theorem d9_4 : decode prog_31_method_8_code 4 = .ok (.iload_n 3, 1) := by decide +kernel
theorem d9_5 : decode prog_31_method_8_code 5 = .ok (.iload_n 1, 1) := by decide +kernel
theorem d9_6 : decode prog_31_method_8_code 6 = .ok (.if_icmp .ge 22, 3) := by decide +kernel
theorem d9_28 : decode prog_31_method_8_code 28 = .ok (.iload_n 2, 1) := by decide +kernel
theorem d9_29 : decode prog_31_method_8_code 29 = .ok (.ireturn, 1) := by decide +kernel
theorem pn_com_2fexample_2fvyasa_2fvyasa_2fSqlLexer : plainName "com/example/vyasa/vyasa/SqlLexer" = true := by first | (simp [plainName, overriddenIn]; done) | decide +kernel
theorem ef_rmLN0 (mM : MethodId) (a : Addr) (cs : Int32) (fm : Value) (x0 : Int32) (x1 : Int32) (x2 : Int32) (x3 : Int32) (r : Int32) : entryFrame mM #[.ref a, .int 0] 4 = mkF mM 0 #[.val (.ref a), .val (.int 0), .unset, .unset] [] := by first | (simp [entryFrame, mkF, argsToLocals, Value.category]; done) | rfl
theorem rmLN0 (lL : Launch) (Z : State) (a0 : Array Value) (hw : own_tb a0 Z) (ws : List Jvm.Cond) (a : Addr) (cs : Int32) (fm : Value) (x0 : Int32) (x1 : Int32) (x2 : Int32) (x3 : Int32) (r : Int32) (h0 : Heap) (n0 : Nat) (so : StrC Z h0 a x0 x1 x2 x3) (O : Old Z n0 h0) (S_fm : Sta Z Z.heap "jdk/internal/util/Preconditions" "SIOOBE_FORMATTER" "Ljava/util/function/BiFunction;" fm) (hfm : fm.isRef = true) (S_cs : Sta Z Z.heap "java/lang/String" "COMPACT_STRINGS" "Z" (.int cs)) (hcs : ¬ cs = (0 : Int32)) (S_ad : Sta Z Z.heap "java/lang/StringUTF16" "$assertionsDisabled" "Z" (.int 1)) (S_hi : Sta Z Z.heap "java/lang/StringUTF16" "HI_BYTE_SHIFT" "I" (.int 0)) (S_lo : Sta Z Z.heap "java/lang/StringUTF16" "LO_BYTE_SHIFT" "I" (.int 8)) (cx0 : nar .char x0 = x0) (cx1 : nar .char x1 = x1) (cx2 : nar .char x2 = x2) (cx3 : nar .char x3 = x3) (hr : r = 1) :
    own_Ct lL Z yn18 prog_31_method_8_code 4 (some .int) ws (⟨0, 0, 0, 0⟩ : Room) #[.ref a, .int 0] h0 (Qw (.int r) h0 n0) := by
  refine own_body (plainFor_of_name pn_com_2fexample_2fvyasa_2fvyasa_2fSqlLexer) 0 0 rfl rfl (fun mM => ef_rmLN0 mM a cs fm x0 x1 x2 x3 r) fun pP eE sS mM below meth cC s₁ hZ hx hby hml hown hnm hret hlk X0 e0 => ?_
  have N0 := Fr.nil n0
  refine o_iconst 1 1 X0 hx (hb hby d9_0) rfl rfl ?_
  let Lv289 : Array Slot := #[.val (.ref a), .val (.int 0), .val (.int 1), .unset]
  refine own_st (A := s₁.setTop (mkF mM 2 Lv289 [])) (fun t_ k_ => XS.istoreN X0.here hx rfl (hb hby d9_1) rfl (l' := Lv289) rfl k_) ?_
  refine o_iconst 3 0 X0 hx (hb hby d9_2) rfl rfl ?_
  let Lv290 : Array Slot := #[.val (.ref a), .val (.int 0), .val (.int 1), .val (.int 0)]
  refine own_st (A := s₁.setTop (mkF mM 4 Lv290 [])) (fun t_ k_ => XS.istoreN X0.here hx rfl (hb hby d9_3) rfl (l' := Lv290) rfl k_) ?_
  refine o_iloadN 5 X0 hx (hb hby d9_4) rfl rfl ?_
  refine o_iloadN 6 X0 hx (hb hby d9_5) rfl rfl ?_
  refine o_icmpYes 28 X0 hx (hb hby d9_6) (flt (by decide : ¬ ((0 : Int32) < (0 : Int32)))).2.1 (by decide) ?_
  refine o_iloadN 29 X0 hx (hb hby d9_28) rfl rfl ?_
  exact own_retI X0 hx hlk hret (hb hby d9_29) (by rw [hr]; exact ⟨rfl, N0, e0⟩) (by decide) (by decide)
theorem d9_9 : decode prog_31_method_8_code 9 = .ok (.aload_n 0, 1) := by decide +kernel
theorem d9_10 : decode prog_31_method_8_code 10 = .ok (.iload_n 3, 1) := by decide +kernel
theorem d9_11 : decode prog_31_method_8_code 11 = .ok (.invokevirtual 61, 3) := by decide +kernel
theorem pd__28I_29C : parseMethodDescriptor "(I)C" = some ⟨[.int], some .char⟩ := by decide +kernel
theorem d9_14 : decode prog_31_method_8_code 14 = .ok (.bipush 10, 2) := by decide +kernel
theorem d9_16 : decode prog_31_method_8_code 16 = .ok (.if_icmp .ne 6, 3) := by decide +kernel
theorem d9_19 : decode prog_31_method_8_code 19 = .ok (.iinc 2 1, 3) := by decide +kernel
theorem d9_22 : decode prog_31_method_8_code 22 = .ok (.iinc 3 1, 3) := by decide +kernel
theorem d9_25 : decode prog_31_method_8_code 25 = .ok (.goto (-21), 3) := by decide +kernel
theorem ef_rmLN1 (mM : MethodId) (a : Addr) (cs : Int32) (fm : Value) (x0 : Int32) (x1 : Int32) (x2 : Int32) (x3 : Int32) (r : Int32) : entryFrame mM #[.ref a, .int 1] 4 = mkF mM 0 #[.val (.ref a), .val (.int 1), .unset, .unset] [] := by first | (simp [entryFrame, mkF, argsToLocals, Value.category]; done) | rfl
theorem rmLN1 (lL : Launch) (Z : State) (a0 : Array Value) (hw : own_tb a0 Z) (ws : List Jvm.Cond) (a : Addr) (cs : Int32) (fm : Value) (x0 : Int32) (x1 : Int32) (x2 : Int32) (x3 : Int32) (r : Int32) (h0 : Heap) (n0 : Nat) (so : StrC Z h0 a x0 x1 x2 x3) (O : Old Z n0 h0) (S_fm : Sta Z Z.heap "jdk/internal/util/Preconditions" "SIOOBE_FORMATTER" "Ljava/util/function/BiFunction;" fm) (hfm : fm.isRef = true) (S_cs : Sta Z Z.heap "java/lang/String" "COMPACT_STRINGS" "Z" (.int cs)) (hcs : ¬ cs = (0 : Int32)) (S_ad : Sta Z Z.heap "java/lang/StringUTF16" "$assertionsDisabled" "Z" (.int 1)) (S_hi : Sta Z Z.heap "java/lang/StringUTF16" "HI_BYTE_SHIFT" "I" (.int 0)) (S_lo : Sta Z Z.heap "java/lang/StringUTF16" "LO_BYTE_SHIFT" "I" (.int 8)) (cx0 : nar .char x0 = x0) (cx1 : nar .char x1 = x1) (cx2 : nar .char x2 = x2) (cx3 : nar .char x3 = x3) (hr : r = 1 + nlv x0) :
    own_Ct lL Z yn18 prog_31_method_8_code 4 (some .int) ws (⟨5, 0, 0, 66⟩ : Room) #[.ref a, .int 1] h0 (Qw (.int r) h0 n0) := by
  refine own_body (plainFor_of_name pn_com_2fexample_2fvyasa_2fvyasa_2fSqlLexer) 0 0 rfl rfl (fun mM => ef_rmLN1 mM a cs fm x0 x1 x2 x3 r) fun pP eE sS mM below meth cC s₁ hZ hx hby hml hown hnm hret hlk X0 e0 => ?_
  have N0 := Fr.nil n0
  refine o_iconst 1 1 X0 hx (hb hby d9_0) rfl rfl ?_
  let Lv291 : Array Slot := #[.val (.ref a), .val (.int 1), .val (.int 1), .unset]
  refine own_st (A := s₁.setTop (mkF mM 2 Lv291 [])) (fun t_ k_ => XS.istoreN X0.here hx rfl (hb hby d9_1) rfl (l' := Lv291) rfl k_) ?_
  refine o_iconst 3 0 X0 hx (hb hby d9_2) rfl rfl ?_
  let Lv292 : Array Slot := #[.val (.ref a), .val (.int 1), .val (.int 1), .val (.int 0)]
  refine own_st (A := s₁.setTop (mkF mM 4 Lv292 [])) (fun t_ k_ => XS.istoreN X0.here hx rfl (hb hby d9_3) rfl (l' := Lv292) rfl k_) ?_
  refine o_iloadN 5 X0 hx (hb hby d9_4) rfl rfl ?_
  refine o_iloadN 6 X0 hx (hb hby d9_5) rfl rfl ?_
  refine o_icmpNo 9 X0 hx (hb hby d9_6) (tlt (by decide : ((0 : Int32) < (1 : Int32)))).2.1 rfl ?_
  refine o_aloadN 10 X0 hx (hb hby d9_9) rfl rfl rfl ?_
  refine o_iloadN 11 X0 hx (hb hby d9_10) rfl rfl ?_
  obtain ⟨cq293, kq293, q293a, q293b, q293c⟩ := isOf hZ e0 (own_StrC_exa so)
  obtain ⟨_, _, ⟨T293, L293, k293, n293⟩, -, X293, ⟨Lc293, hQ293, l293, y293, z293⟩, st293⟩ := X0.virtualBack hx (y := yn17) (z := yn17) hown (mvT hZ (ow hw 43 rfl)) (mvT hZ (ow hw 44 rfl)) (notFace_of_selects (args := #[]) (mvT hZ (ow hw 46 rfl))) (mvT hZ (ow hw 46 rfl)) (mvT hZ (ow hw 45 rfl)) (by decide) (backOf (W := 0) (rmA0 lL Z a0 hw [] a cs fm x0 x1 x2 x3 h0 n0 so O S_fm hfm S_cs hcs S_ad S_hi S_lo cx0 cx1 cx2 cx3) hZ (ow hw 47 rfl) (ow hw 8 rfl) (by decide) (by decide)) q293a q293c (g := (mkF mM 11 Lv292 [.int 0, .ref a])) rfl (by rw [hml]; rfl) (Steps.refl _) (argsL := [.int 0]) (rest := []) (lenOf pd__28I_29C rfl) rfl (by show 2 * 0 + _ ≤ _; exact Nat.le_of_eq rfl) (hb hby d9_11) (fun _ _ => ⟨rfl, e0, (by decide : 0 + 0 ≤ _), (by decide : 0 + 0 ≤ _)⟩)
  dsimp only [Pt.U, Pt.locs, Pt.cells, Pt.slots] at X293 l293 y293 z293 st293 hQ293
  subst l293 y293 z293
  obtain ⟨rfl, N293q, e293⟩ := hQ293
  have N293 := Fr.app N0 N293q
  refine own_k T293 14 [.int x0] (fun t_ k_ => st293.trans k_) ?_
  refine o_bipush 16 10 X293 hx (hb hby d9_14) rfl rfl ?_
  by_cases hc16_294 : x0 = (10 : Int32)
  · skip
    refine o_icmpNo 19 X293 hx (hb hby d9_16) (teq hc16_294).2 rfl ?_
    let Lv295 : Array Slot := #[.val (.ref a), .val (.int 1), .val (.int 2), .val (.int 0)]
    refine own_st (A := T293.setTop (mkF mM 22 Lv295 [])) (fun t_ k_ => XS.iinc X293.here hx rfl (hb hby d9_19) rfl (l' := Lv295) rfl k_) ?_
    let Lv296 : Array Slot := #[.val (.ref a), .val (.int 1), .val (.int 2), .val (.int 1)]
    refine own_st (A := T293.setTop (mkF mM 25 Lv296 [])) (fun t_ k_ => XS.iinc X293.here hx rfl (hb hby d9_22) rfl (l' := Lv296) rfl k_) ?_
    refine o_goto 4 X293 hx (hb hby d9_25) (by decide) ?_
    refine o_iloadN 5 X293 hx (hb hby d9_4) rfl rfl ?_
    refine o_iloadN 6 X293 hx (hb hby d9_5) rfl rfl ?_
    refine o_icmpYes 28 X293 hx (hb hby d9_6) (flt (by decide : ¬ ((1 : Int32) < (1 : Int32)))).2.1 (by decide) ?_
    refine o_iloadN 29 X293 hx (hb hby d9_28) rfl rfl ?_
    exact own_retI X293 hx hlk hret (hb hby d9_29) (by rw [hr, own_nlv1 hc16_294]; exact ⟨rfl, N293, e293⟩) (by decide) (by decide)
  · skip
    refine o_icmpYes 22 X293 hx (hb hby d9_16) (feq hc16_294).2 (by decide) ?_
    let Lv297 : Array Slot := #[.val (.ref a), .val (.int 1), .val (.int 1), .val (.int 1)]
    refine own_st (A := T293.setTop (mkF mM 25 Lv297 [])) (fun t_ k_ => XS.iinc X293.here hx rfl (hb hby d9_22) rfl (l' := Lv297) rfl k_) ?_
    refine o_goto 4 X293 hx (hb hby d9_25) (by decide) ?_
    refine o_iloadN 5 X293 hx (hb hby d9_4) rfl rfl ?_
    refine o_iloadN 6 X293 hx (hb hby d9_5) rfl rfl ?_
    refine o_icmpYes 28 X293 hx (hb hby d9_6) (flt (by decide : ¬ ((1 : Int32) < (1 : Int32)))).2.1 (by decide) ?_
    refine o_iloadN 29 X293 hx (hb hby d9_28) rfl rfl ?_
    exact own_retI X293 hx hlk hret (hb hby d9_29) (by rw [hr, own_nlv0 hc16_294]; exact ⟨rfl, N293, e293⟩) (by decide) (by decide)
theorem ef_rmLN2 (mM : MethodId) (a : Addr) (cs : Int32) (fm : Value) (x0 : Int32) (x1 : Int32) (x2 : Int32) (x3 : Int32) (r : Int32) : entryFrame mM #[.ref a, .int 2] 4 = mkF mM 0 #[.val (.ref a), .val (.int 2), .unset, .unset] [] := by first | (simp [entryFrame, mkF, argsToLocals, Value.category]; done) | rfl
theorem rmLN2 (lL : Launch) (Z : State) (a0 : Array Value) (hw : own_tb a0 Z) (ws : List Jvm.Cond) (a : Addr) (cs : Int32) (fm : Value) (x0 : Int32) (x1 : Int32) (x2 : Int32) (x3 : Int32) (r : Int32) (h0 : Heap) (n0 : Nat) (so : StrC Z h0 a x0 x1 x2 x3) (O : Old Z n0 h0) (S_fm : Sta Z Z.heap "jdk/internal/util/Preconditions" "SIOOBE_FORMATTER" "Ljava/util/function/BiFunction;" fm) (hfm : fm.isRef = true) (S_cs : Sta Z Z.heap "java/lang/String" "COMPACT_STRINGS" "Z" (.int cs)) (hcs : ¬ cs = (0 : Int32)) (S_ad : Sta Z Z.heap "java/lang/StringUTF16" "$assertionsDisabled" "Z" (.int 1)) (S_hi : Sta Z Z.heap "java/lang/StringUTF16" "HI_BYTE_SHIFT" "I" (.int 0)) (S_lo : Sta Z Z.heap "java/lang/StringUTF16" "LO_BYTE_SHIFT" "I" (.int 8)) (cx0 : nar .char x0 = x0) (cx1 : nar .char x1 = x1) (cx2 : nar .char x2 = x2) (cx3 : nar .char x3 = x3) (hr : r = 1 + nlv x0 + nlv x1) :
    own_Ct lL Z yn18 prog_31_method_8_code 4 (some .int) ws (⟨5, 0, 0, 66⟩ : Room) #[.ref a, .int 2] h0 (Qw (.int r) h0 n0) := by
  refine own_body (plainFor_of_name pn_com_2fexample_2fvyasa_2fvyasa_2fSqlLexer) 0 0 rfl rfl (fun mM => ef_rmLN2 mM a cs fm x0 x1 x2 x3 r) fun pP eE sS mM below meth cC s₁ hZ hx hby hml hown hnm hret hlk X0 e0 => ?_
  have N0 := Fr.nil n0
  refine o_iconst 1 1 X0 hx (hb hby d9_0) rfl rfl ?_
  let Lv298 : Array Slot := #[.val (.ref a), .val (.int 2), .val (.int 1), .unset]
  refine own_st (A := s₁.setTop (mkF mM 2 Lv298 [])) (fun t_ k_ => XS.istoreN X0.here hx rfl (hb hby d9_1) rfl (l' := Lv298) rfl k_) ?_
  refine o_iconst 3 0 X0 hx (hb hby d9_2) rfl rfl ?_
  let Lv299 : Array Slot := #[.val (.ref a), .val (.int 2), .val (.int 1), .val (.int 0)]
  refine own_st (A := s₁.setTop (mkF mM 4 Lv299 [])) (fun t_ k_ => XS.istoreN X0.here hx rfl (hb hby d9_3) rfl (l' := Lv299) rfl k_) ?_
  refine o_iloadN 5 X0 hx (hb hby d9_4) rfl rfl ?_
  refine o_iloadN 6 X0 hx (hb hby d9_5) rfl rfl ?_
  refine o_icmpNo 9 X0 hx (hb hby d9_6) (tlt (by decide : ((0 : Int32) < (2 : Int32)))).2.1 rfl ?_
  refine o_aloadN 10 X0 hx (hb hby d9_9) rfl rfl rfl ?_
  refine o_iloadN 11 X0 hx (hb hby d9_10) rfl rfl ?_
  obtain ⟨cq300, kq300, q300a, q300b, q300c⟩ := isOf hZ e0 (own_StrC_exa so)
  obtain ⟨_, _, ⟨T300, L300, k300, n300⟩, -, X300, ⟨Lc300, hQ300, l300, y300, z300⟩, st300⟩ := X0.virtualBack hx (y := yn17) (z := yn17) hown (mvT hZ (ow hw 43 rfl)) (mvT hZ (ow hw 44 rfl)) (notFace_of_selects (args := #[]) (mvT hZ (ow hw 46 rfl))) (mvT hZ (ow hw 46 rfl)) (mvT hZ (ow hw 45 rfl)) (by decide) (backOf (W := 0) (rmA0 lL Z a0 hw [] a cs fm x0 x1 x2 x3 h0 n0 so O S_fm hfm S_cs hcs S_ad S_hi S_lo cx0 cx1 cx2 cx3) hZ (ow hw 47 rfl) (ow hw 8 rfl) (by decide) (by decide)) q300a q300c (g := (mkF mM 11 Lv299 [.int 0, .ref a])) rfl (by rw [hml]; rfl) (Steps.refl _) (argsL := [.int 0]) (rest := []) (lenOf pd__28I_29C rfl) rfl (by show 2 * 0 + _ ≤ _; exact Nat.le_of_eq rfl) (hb hby d9_11) (fun _ _ => ⟨rfl, e0, (by decide : 0 + 0 ≤ _), (by decide : 0 + 0 ≤ _)⟩)
  dsimp only [Pt.U, Pt.locs, Pt.cells, Pt.slots] at X300 l300 y300 z300 st300 hQ300
  subst l300 y300 z300
  obtain ⟨rfl, N300q, e300⟩ := hQ300
  have N300 := Fr.app N0 N300q
  refine own_k T300 14 [.int x0] (fun t_ k_ => st300.trans k_) ?_
  refine o_bipush 16 10 X300 hx (hb hby d9_14) rfl rfl ?_
  by_cases hc16_301 : x0 = (10 : Int32)
  · skip
    refine o_icmpNo 19 X300 hx (hb hby d9_16) (teq hc16_301).2 rfl ?_
    let Lv302 : Array Slot := #[.val (.ref a), .val (.int 2), .val (.int 2), .val (.int 0)]
    refine own_st (A := T300.setTop (mkF mM 22 Lv302 [])) (fun t_ k_ => XS.iinc X300.here hx rfl (hb hby d9_19) rfl (l' := Lv302) rfl k_) ?_
    let Lv303 : Array Slot := #[.val (.ref a), .val (.int 2), .val (.int 2), .val (.int 1)]
    refine own_st (A := T300.setTop (mkF mM 25 Lv303 [])) (fun t_ k_ => XS.iinc X300.here hx rfl (hb hby d9_22) rfl (l' := Lv303) rfl k_) ?_
    refine o_goto 4 X300 hx (hb hby d9_25) (by decide) ?_
    refine o_iloadN 5 X300 hx (hb hby d9_4) rfl rfl ?_
    refine o_iloadN 6 X300 hx (hb hby d9_5) rfl rfl ?_
    refine o_icmpNo 9 X300 hx (hb hby d9_6) (tlt (by decide : ((1 : Int32) < (2 : Int32)))).2.1 rfl ?_
    refine o_aloadN 10 X300 hx (hb hby d9_9) rfl rfl rfl ?_
    refine o_iloadN 11 X300 hx (hb hby d9_10) rfl rfl ?_
    obtain ⟨cq304, kq304, q304a, q304b, q304c⟩ := isOf hZ e300 (own_StrC_exa so)
    obtain ⟨_, _, ⟨T304, L304, k304, n304⟩, -, X304, ⟨Lc304, hQ304, l304, y304, z304⟩, st304⟩ := X300.virtualBack hx (y := yn17) (z := yn17) hown (mvT hZ (ow hw 43 rfl)) (mvT hZ (ow hw 44 rfl)) (notFace_of_selects (args := #[]) (mvT hZ (ow hw 46 rfl))) (mvT hZ (ow hw 46 rfl)) (mvT hZ (ow hw 45 rfl)) (by decide) (backOf (W := 0) (rmA1 lL Z a0 hw [] a cs fm x0 x1 x2 x3 h0 n0 so O S_fm hfm S_cs hcs S_ad S_hi S_lo cx0 cx1 cx2 cx3) hZ (ow hw 47 rfl) (ow hw 8 rfl) (by decide) (by decide)) q304a q304c (g := (mkF mM 11 Lv303 [.int 1, .ref a])) rfl (by rw [hml]; rfl) (Steps.refl _) (argsL := [.int 1]) (rest := []) (lenOf pd__28I_29C rfl) rfl (by show 2 * 0 + _ ≤ _; exact Nat.le_of_eq rfl) (hb hby d9_11) (fun _ _ => ⟨rfl, e300, (by decide : 0 + 0 ≤ _), (by decide : 0 + 0 ≤ _)⟩)
    dsimp only [Pt.U, Pt.locs, Pt.cells, Pt.slots] at X304 l304 y304 z304 st304 hQ304
    subst l304 y304 z304
    obtain ⟨rfl, N304q, e304⟩ := hQ304
    have N304 := Fr.app N300 N304q
    refine own_k T304 14 [.int x1] (fun t_ k_ => st304.trans k_) ?_
    refine o_bipush 16 10 X304 hx (hb hby d9_14) rfl rfl ?_
    by_cases hc16_305 : x1 = (10 : Int32)
    · skip
      refine o_icmpNo 19 X304 hx (hb hby d9_16) (teq hc16_305).2 rfl ?_
      let Lv306 : Array Slot := #[.val (.ref a), .val (.int 2), .val (.int 3), .val (.int 1)]
      refine own_st (A := T304.setTop (mkF mM 22 Lv306 [])) (fun t_ k_ => XS.iinc X304.here hx rfl (hb hby d9_19) rfl (l' := Lv306) rfl k_) ?_
      let Lv307 : Array Slot := #[.val (.ref a), .val (.int 2), .val (.int 3), .val (.int 2)]
      refine own_st (A := T304.setTop (mkF mM 25 Lv307 [])) (fun t_ k_ => XS.iinc X304.here hx rfl (hb hby d9_22) rfl (l' := Lv307) rfl k_) ?_
      refine o_goto 4 X304 hx (hb hby d9_25) (by decide) ?_
      refine o_iloadN 5 X304 hx (hb hby d9_4) rfl rfl ?_
      refine o_iloadN 6 X304 hx (hb hby d9_5) rfl rfl ?_
      refine o_icmpYes 28 X304 hx (hb hby d9_6) (flt (by decide : ¬ ((2 : Int32) < (2 : Int32)))).2.1 (by decide) ?_
      refine o_iloadN 29 X304 hx (hb hby d9_28) rfl rfl ?_
      exact own_retI X304 hx hlk hret (hb hby d9_29) (by rw [hr, own_nlv1 hc16_301, own_nlv1 hc16_305]; exact ⟨rfl, N304, e304⟩) (by decide) (by decide)
    · skip
      refine o_icmpYes 22 X304 hx (hb hby d9_16) (feq hc16_305).2 (by decide) ?_
      let Lv308 : Array Slot := #[.val (.ref a), .val (.int 2), .val (.int 2), .val (.int 2)]
      refine own_st (A := T304.setTop (mkF mM 25 Lv308 [])) (fun t_ k_ => XS.iinc X304.here hx rfl (hb hby d9_22) rfl (l' := Lv308) rfl k_) ?_
      refine o_goto 4 X304 hx (hb hby d9_25) (by decide) ?_
      refine o_iloadN 5 X304 hx (hb hby d9_4) rfl rfl ?_
      refine o_iloadN 6 X304 hx (hb hby d9_5) rfl rfl ?_
      refine o_icmpYes 28 X304 hx (hb hby d9_6) (flt (by decide : ¬ ((2 : Int32) < (2 : Int32)))).2.1 (by decide) ?_
      refine o_iloadN 29 X304 hx (hb hby d9_28) rfl rfl ?_
      exact own_retI X304 hx hlk hret (hb hby d9_29) (by rw [hr, own_nlv1 hc16_301, own_nlv0 hc16_305]; exact ⟨rfl, N304, e304⟩) (by decide) (by decide)
  · skip
    refine o_icmpYes 22 X300 hx (hb hby d9_16) (feq hc16_301).2 (by decide) ?_
    let Lv309 : Array Slot := #[.val (.ref a), .val (.int 2), .val (.int 1), .val (.int 1)]
    refine own_st (A := T300.setTop (mkF mM 25 Lv309 [])) (fun t_ k_ => XS.iinc X300.here hx rfl (hb hby d9_22) rfl (l' := Lv309) rfl k_) ?_
    refine o_goto 4 X300 hx (hb hby d9_25) (by decide) ?_
    refine o_iloadN 5 X300 hx (hb hby d9_4) rfl rfl ?_
    refine o_iloadN 6 X300 hx (hb hby d9_5) rfl rfl ?_
    refine o_icmpNo 9 X300 hx (hb hby d9_6) (tlt (by decide : ((1 : Int32) < (2 : Int32)))).2.1 rfl ?_
    refine o_aloadN 10 X300 hx (hb hby d9_9) rfl rfl rfl ?_
    refine o_iloadN 11 X300 hx (hb hby d9_10) rfl rfl ?_
    obtain ⟨cq310, kq310, q310a, q310b, q310c⟩ := isOf hZ e300 (own_StrC_exa so)
    obtain ⟨_, _, ⟨T310, L310, k310, n310⟩, -, X310, ⟨Lc310, hQ310, l310, y310, z310⟩, st310⟩ := X300.virtualBack hx (y := yn17) (z := yn17) hown (mvT hZ (ow hw 43 rfl)) (mvT hZ (ow hw 44 rfl)) (notFace_of_selects (args := #[]) (mvT hZ (ow hw 46 rfl))) (mvT hZ (ow hw 46 rfl)) (mvT hZ (ow hw 45 rfl)) (by decide) (backOf (W := 0) (rmA1 lL Z a0 hw [] a cs fm x0 x1 x2 x3 h0 n0 so O S_fm hfm S_cs hcs S_ad S_hi S_lo cx0 cx1 cx2 cx3) hZ (ow hw 47 rfl) (ow hw 8 rfl) (by decide) (by decide)) q310a q310c (g := (mkF mM 11 Lv309 [.int 1, .ref a])) rfl (by rw [hml]; rfl) (Steps.refl _) (argsL := [.int 1]) (rest := []) (lenOf pd__28I_29C rfl) rfl (by show 2 * 0 + _ ≤ _; exact Nat.le_of_eq rfl) (hb hby d9_11) (fun _ _ => ⟨rfl, e300, (by decide : 0 + 0 ≤ _), (by decide : 0 + 0 ≤ _)⟩)
    dsimp only [Pt.U, Pt.locs, Pt.cells, Pt.slots] at X310 l310 y310 z310 st310 hQ310
    subst l310 y310 z310
    obtain ⟨rfl, N310q, e310⟩ := hQ310
    have N310 := Fr.app N300 N310q
    refine own_k T310 14 [.int x1] (fun t_ k_ => st310.trans k_) ?_
    refine o_bipush 16 10 X310 hx (hb hby d9_14) rfl rfl ?_
    by_cases hc16_311 : x1 = (10 : Int32)
    · skip
      refine o_icmpNo 19 X310 hx (hb hby d9_16) (teq hc16_311).2 rfl ?_
      let Lv312 : Array Slot := #[.val (.ref a), .val (.int 2), .val (.int 2), .val (.int 1)]
      refine own_st (A := T310.setTop (mkF mM 22 Lv312 [])) (fun t_ k_ => XS.iinc X310.here hx rfl (hb hby d9_19) rfl (l' := Lv312) rfl k_) ?_
      let Lv313 : Array Slot := #[.val (.ref a), .val (.int 2), .val (.int 2), .val (.int 2)]
      refine own_st (A := T310.setTop (mkF mM 25 Lv313 [])) (fun t_ k_ => XS.iinc X310.here hx rfl (hb hby d9_22) rfl (l' := Lv313) rfl k_) ?_
      refine o_goto 4 X310 hx (hb hby d9_25) (by decide) ?_
      refine o_iloadN 5 X310 hx (hb hby d9_4) rfl rfl ?_
      refine o_iloadN 6 X310 hx (hb hby d9_5) rfl rfl ?_
      refine o_icmpYes 28 X310 hx (hb hby d9_6) (flt (by decide : ¬ ((2 : Int32) < (2 : Int32)))).2.1 (by decide) ?_
      refine o_iloadN 29 X310 hx (hb hby d9_28) rfl rfl ?_
      exact own_retI X310 hx hlk hret (hb hby d9_29) (by rw [hr, own_nlv0 hc16_301, own_nlv1 hc16_311]; exact ⟨rfl, N310, e310⟩) (by decide) (by decide)
    · skip
      refine o_icmpYes 22 X310 hx (hb hby d9_16) (feq hc16_311).2 (by decide) ?_
      let Lv314 : Array Slot := #[.val (.ref a), .val (.int 2), .val (.int 1), .val (.int 2)]
      refine own_st (A := T310.setTop (mkF mM 25 Lv314 [])) (fun t_ k_ => XS.iinc X310.here hx rfl (hb hby d9_22) rfl (l' := Lv314) rfl k_) ?_
      refine o_goto 4 X310 hx (hb hby d9_25) (by decide) ?_
      refine o_iloadN 5 X310 hx (hb hby d9_4) rfl rfl ?_
      refine o_iloadN 6 X310 hx (hb hby d9_5) rfl rfl ?_
      refine o_icmpYes 28 X310 hx (hb hby d9_6) (flt (by decide : ¬ ((2 : Int32) < (2 : Int32)))).2.1 (by decide) ?_
      refine o_iloadN 29 X310 hx (hb hby d9_28) rfl rfl ?_
      exact own_retI X310 hx hlk hret (hb hby d9_29) (by rw [hr, own_nlv0 hc16_301, own_nlv0 hc16_311]; exact ⟨rfl, N310, e310⟩) (by decide) (by decide)
theorem ef_rmLN3 (mM : MethodId) (a : Addr) (cs : Int32) (fm : Value) (x0 : Int32) (x1 : Int32) (x2 : Int32) (x3 : Int32) (r : Int32) : entryFrame mM #[.ref a, .int 3] 4 = mkF mM 0 #[.val (.ref a), .val (.int 3), .unset, .unset] [] := by first | (simp [entryFrame, mkF, argsToLocals, Value.category]; done) | rfl
theorem rmLN3 (lL : Launch) (Z : State) (a0 : Array Value) (hw : own_tb a0 Z) (ws : List Jvm.Cond) (a : Addr) (cs : Int32) (fm : Value) (x0 : Int32) (x1 : Int32) (x2 : Int32) (x3 : Int32) (r : Int32) (h0 : Heap) (n0 : Nat) (so : StrC Z h0 a x0 x1 x2 x3) (O : Old Z n0 h0) (S_fm : Sta Z Z.heap "jdk/internal/util/Preconditions" "SIOOBE_FORMATTER" "Ljava/util/function/BiFunction;" fm) (hfm : fm.isRef = true) (S_cs : Sta Z Z.heap "java/lang/String" "COMPACT_STRINGS" "Z" (.int cs)) (hcs : ¬ cs = (0 : Int32)) (S_ad : Sta Z Z.heap "java/lang/StringUTF16" "$assertionsDisabled" "Z" (.int 1)) (S_hi : Sta Z Z.heap "java/lang/StringUTF16" "HI_BYTE_SHIFT" "I" (.int 0)) (S_lo : Sta Z Z.heap "java/lang/StringUTF16" "LO_BYTE_SHIFT" "I" (.int 8)) (cx0 : nar .char x0 = x0) (cx1 : nar .char x1 = x1) (cx2 : nar .char x2 = x2) (cx3 : nar .char x3 = x3) (hr : r = 1 + nlv x0 + nlv x1 + nlv x2) :
    own_Ct lL Z yn18 prog_31_method_8_code 4 (some .int) ws (⟨5, 0, 0, 66⟩ : Room) #[.ref a, .int 3] h0 (Qw (.int r) h0 n0) := by
  refine own_body (plainFor_of_name pn_com_2fexample_2fvyasa_2fvyasa_2fSqlLexer) 0 0 rfl rfl (fun mM => ef_rmLN3 mM a cs fm x0 x1 x2 x3 r) fun pP eE sS mM below meth cC s₁ hZ hx hby hml hown hnm hret hlk X0 e0 => ?_
  have N0 := Fr.nil n0
  refine o_iconst 1 1 X0 hx (hb hby d9_0) rfl rfl ?_
  let Lv315 : Array Slot := #[.val (.ref a), .val (.int 3), .val (.int 1), .unset]
  refine own_st (A := s₁.setTop (mkF mM 2 Lv315 [])) (fun t_ k_ => XS.istoreN X0.here hx rfl (hb hby d9_1) rfl (l' := Lv315) rfl k_) ?_
  refine o_iconst 3 0 X0 hx (hb hby d9_2) rfl rfl ?_
  let Lv316 : Array Slot := #[.val (.ref a), .val (.int 3), .val (.int 1), .val (.int 0)]
  refine own_st (A := s₁.setTop (mkF mM 4 Lv316 [])) (fun t_ k_ => XS.istoreN X0.here hx rfl (hb hby d9_3) rfl (l' := Lv316) rfl k_) ?_
  refine o_iloadN 5 X0 hx (hb hby d9_4) rfl rfl ?_
  refine o_iloadN 6 X0 hx (hb hby d9_5) rfl rfl ?_
  refine o_icmpNo 9 X0 hx (hb hby d9_6) (tlt (by decide : ((0 : Int32) < (3 : Int32)))).2.1 rfl ?_
  refine o_aloadN 10 X0 hx (hb hby d9_9) rfl rfl rfl ?_
  refine o_iloadN 11 X0 hx (hb hby d9_10) rfl rfl ?_
  obtain ⟨cq317, kq317, q317a, q317b, q317c⟩ := isOf hZ e0 (own_StrC_exa so)
  obtain ⟨_, _, ⟨T317, L317, k317, n317⟩, -, X317, ⟨Lc317, hQ317, l317, y317, z317⟩, st317⟩ := X0.virtualBack hx (y := yn17) (z := yn17) hown (mvT hZ (ow hw 43 rfl)) (mvT hZ (ow hw 44 rfl)) (notFace_of_selects (args := #[]) (mvT hZ (ow hw 46 rfl))) (mvT hZ (ow hw 46 rfl)) (mvT hZ (ow hw 45 rfl)) (by decide) (backOf (W := 0) (rmA0 lL Z a0 hw [] a cs fm x0 x1 x2 x3 h0 n0 so O S_fm hfm S_cs hcs S_ad S_hi S_lo cx0 cx1 cx2 cx3) hZ (ow hw 47 rfl) (ow hw 8 rfl) (by decide) (by decide)) q317a q317c (g := (mkF mM 11 Lv316 [.int 0, .ref a])) rfl (by rw [hml]; rfl) (Steps.refl _) (argsL := [.int 0]) (rest := []) (lenOf pd__28I_29C rfl) rfl (by show 2 * 0 + _ ≤ _; exact Nat.le_of_eq rfl) (hb hby d9_11) (fun _ _ => ⟨rfl, e0, (by decide : 0 + 0 ≤ _), (by decide : 0 + 0 ≤ _)⟩)
  dsimp only [Pt.U, Pt.locs, Pt.cells, Pt.slots] at X317 l317 y317 z317 st317 hQ317
  subst l317 y317 z317
  obtain ⟨rfl, N317q, e317⟩ := hQ317
  have N317 := Fr.app N0 N317q
  refine own_k T317 14 [.int x0] (fun t_ k_ => st317.trans k_) ?_
  refine o_bipush 16 10 X317 hx (hb hby d9_14) rfl rfl ?_
  by_cases hc16_318 : x0 = (10 : Int32)
  · skip
    refine o_icmpNo 19 X317 hx (hb hby d9_16) (teq hc16_318).2 rfl ?_
    let Lv319 : Array Slot := #[.val (.ref a), .val (.int 3), .val (.int 2), .val (.int 0)]
    refine own_st (A := T317.setTop (mkF mM 22 Lv319 [])) (fun t_ k_ => XS.iinc X317.here hx rfl (hb hby d9_19) rfl (l' := Lv319) rfl k_) ?_
    let Lv320 : Array Slot := #[.val (.ref a), .val (.int 3), .val (.int 2), .val (.int 1)]
    refine own_st (A := T317.setTop (mkF mM 25 Lv320 [])) (fun t_ k_ => XS.iinc X317.here hx rfl (hb hby d9_22) rfl (l' := Lv320) rfl k_) ?_
    refine o_goto 4 X317 hx (hb hby d9_25) (by decide) ?_
    refine o_iloadN 5 X317 hx (hb hby d9_4) rfl rfl ?_
    refine o_iloadN 6 X317 hx (hb hby d9_5) rfl rfl ?_
    refine o_icmpNo 9 X317 hx (hb hby d9_6) (tlt (by decide : ((1 : Int32) < (3 : Int32)))).2.1 rfl ?_
    refine o_aloadN 10 X317 hx (hb hby d9_9) rfl rfl rfl ?_
    refine o_iloadN 11 X317 hx (hb hby d9_10) rfl rfl ?_
    obtain ⟨cq321, kq321, q321a, q321b, q321c⟩ := isOf hZ e317 (own_StrC_exa so)
    obtain ⟨_, _, ⟨T321, L321, k321, n321⟩, -, X321, ⟨Lc321, hQ321, l321, y321, z321⟩, st321⟩ := X317.virtualBack hx (y := yn17) (z := yn17) hown (mvT hZ (ow hw 43 rfl)) (mvT hZ (ow hw 44 rfl)) (notFace_of_selects (args := #[]) (mvT hZ (ow hw 46 rfl))) (mvT hZ (ow hw 46 rfl)) (mvT hZ (ow hw 45 rfl)) (by decide) (backOf (W := 0) (rmA1 lL Z a0 hw [] a cs fm x0 x1 x2 x3 h0 n0 so O S_fm hfm S_cs hcs S_ad S_hi S_lo cx0 cx1 cx2 cx3) hZ (ow hw 47 rfl) (ow hw 8 rfl) (by decide) (by decide)) q321a q321c (g := (mkF mM 11 Lv320 [.int 1, .ref a])) rfl (by rw [hml]; rfl) (Steps.refl _) (argsL := [.int 1]) (rest := []) (lenOf pd__28I_29C rfl) rfl (by show 2 * 0 + _ ≤ _; exact Nat.le_of_eq rfl) (hb hby d9_11) (fun _ _ => ⟨rfl, e317, (by decide : 0 + 0 ≤ _), (by decide : 0 + 0 ≤ _)⟩)
    dsimp only [Pt.U, Pt.locs, Pt.cells, Pt.slots] at X321 l321 y321 z321 st321 hQ321
    subst l321 y321 z321
    obtain ⟨rfl, N321q, e321⟩ := hQ321
    have N321 := Fr.app N317 N321q
    refine own_k T321 14 [.int x1] (fun t_ k_ => st321.trans k_) ?_
    refine o_bipush 16 10 X321 hx (hb hby d9_14) rfl rfl ?_
    by_cases hc16_322 : x1 = (10 : Int32)
    · skip
      refine o_icmpNo 19 X321 hx (hb hby d9_16) (teq hc16_322).2 rfl ?_
      let Lv323 : Array Slot := #[.val (.ref a), .val (.int 3), .val (.int 3), .val (.int 1)]
      refine own_st (A := T321.setTop (mkF mM 22 Lv323 [])) (fun t_ k_ => XS.iinc X321.here hx rfl (hb hby d9_19) rfl (l' := Lv323) rfl k_) ?_
      let Lv324 : Array Slot := #[.val (.ref a), .val (.int 3), .val (.int 3), .val (.int 2)]
      refine own_st (A := T321.setTop (mkF mM 25 Lv324 [])) (fun t_ k_ => XS.iinc X321.here hx rfl (hb hby d9_22) rfl (l' := Lv324) rfl k_) ?_
      refine o_goto 4 X321 hx (hb hby d9_25) (by decide) ?_
      refine o_iloadN 5 X321 hx (hb hby d9_4) rfl rfl ?_
      refine o_iloadN 6 X321 hx (hb hby d9_5) rfl rfl ?_
      refine o_icmpNo 9 X321 hx (hb hby d9_6) (tlt (by decide : ((2 : Int32) < (3 : Int32)))).2.1 rfl ?_
      refine o_aloadN 10 X321 hx (hb hby d9_9) rfl rfl rfl ?_
      refine o_iloadN 11 X321 hx (hb hby d9_10) rfl rfl ?_
      obtain ⟨cq325, kq325, q325a, q325b, q325c⟩ := isOf hZ e321 (own_StrC_exa so)
      obtain ⟨_, _, ⟨T325, L325, k325, n325⟩, -, X325, ⟨Lc325, hQ325, l325, y325, z325⟩, st325⟩ := X321.virtualBack hx (y := yn17) (z := yn17) hown (mvT hZ (ow hw 43 rfl)) (mvT hZ (ow hw 44 rfl)) (notFace_of_selects (args := #[]) (mvT hZ (ow hw 46 rfl))) (mvT hZ (ow hw 46 rfl)) (mvT hZ (ow hw 45 rfl)) (by decide) (backOf (W := 0) (rmA2 lL Z a0 hw [] a cs fm x0 x1 x2 x3 h0 n0 so O S_fm hfm S_cs hcs S_ad S_hi S_lo cx0 cx1 cx2 cx3) hZ (ow hw 47 rfl) (ow hw 8 rfl) (by decide) (by decide)) q325a q325c (g := (mkF mM 11 Lv324 [.int 2, .ref a])) rfl (by rw [hml]; rfl) (Steps.refl _) (argsL := [.int 2]) (rest := []) (lenOf pd__28I_29C rfl) rfl (by show 2 * 0 + _ ≤ _; exact Nat.le_of_eq rfl) (hb hby d9_11) (fun _ _ => ⟨rfl, e321, (by decide : 0 + 0 ≤ _), (by decide : 0 + 0 ≤ _)⟩)
      dsimp only [Pt.U, Pt.locs, Pt.cells, Pt.slots] at X325 l325 y325 z325 st325 hQ325
      subst l325 y325 z325
      obtain ⟨rfl, N325q, e325⟩ := hQ325
      have N325 := Fr.app N321 N325q
      refine own_k T325 14 [.int x2] (fun t_ k_ => st325.trans k_) ?_
      refine o_bipush 16 10 X325 hx (hb hby d9_14) rfl rfl ?_
      by_cases hc16_326 : x2 = (10 : Int32)
      · skip
        refine o_icmpNo 19 X325 hx (hb hby d9_16) (teq hc16_326).2 rfl ?_
        let Lv327 : Array Slot := #[.val (.ref a), .val (.int 3), .val (.int 4), .val (.int 2)]
        refine own_st (A := T325.setTop (mkF mM 22 Lv327 [])) (fun t_ k_ => XS.iinc X325.here hx rfl (hb hby d9_19) rfl (l' := Lv327) rfl k_) ?_
        let Lv328 : Array Slot := #[.val (.ref a), .val (.int 3), .val (.int 4), .val (.int 3)]
        refine own_st (A := T325.setTop (mkF mM 25 Lv328 [])) (fun t_ k_ => XS.iinc X325.here hx rfl (hb hby d9_22) rfl (l' := Lv328) rfl k_) ?_
        refine o_goto 4 X325 hx (hb hby d9_25) (by decide) ?_
        refine o_iloadN 5 X325 hx (hb hby d9_4) rfl rfl ?_
        refine o_iloadN 6 X325 hx (hb hby d9_5) rfl rfl ?_
        refine o_icmpYes 28 X325 hx (hb hby d9_6) (flt (by decide : ¬ ((3 : Int32) < (3 : Int32)))).2.1 (by decide) ?_
        refine o_iloadN 29 X325 hx (hb hby d9_28) rfl rfl ?_
        exact own_retI X325 hx hlk hret (hb hby d9_29) (by rw [hr, own_nlv1 hc16_318, own_nlv1 hc16_322, own_nlv1 hc16_326]; exact ⟨rfl, N325, e325⟩) (by decide) (by decide)
      · skip
        refine o_icmpYes 22 X325 hx (hb hby d9_16) (feq hc16_326).2 (by decide) ?_
        let Lv329 : Array Slot := #[.val (.ref a), .val (.int 3), .val (.int 3), .val (.int 3)]
        refine own_st (A := T325.setTop (mkF mM 25 Lv329 [])) (fun t_ k_ => XS.iinc X325.here hx rfl (hb hby d9_22) rfl (l' := Lv329) rfl k_) ?_
        refine o_goto 4 X325 hx (hb hby d9_25) (by decide) ?_
        refine o_iloadN 5 X325 hx (hb hby d9_4) rfl rfl ?_
        refine o_iloadN 6 X325 hx (hb hby d9_5) rfl rfl ?_
        refine o_icmpYes 28 X325 hx (hb hby d9_6) (flt (by decide : ¬ ((3 : Int32) < (3 : Int32)))).2.1 (by decide) ?_
        refine o_iloadN 29 X325 hx (hb hby d9_28) rfl rfl ?_
        exact own_retI X325 hx hlk hret (hb hby d9_29) (by rw [hr, own_nlv1 hc16_318, own_nlv1 hc16_322, own_nlv0 hc16_326]; exact ⟨rfl, N325, e325⟩) (by decide) (by decide)
    · skip
      refine o_icmpYes 22 X321 hx (hb hby d9_16) (feq hc16_322).2 (by decide) ?_
      let Lv330 : Array Slot := #[.val (.ref a), .val (.int 3), .val (.int 2), .val (.int 2)]
      refine own_st (A := T321.setTop (mkF mM 25 Lv330 [])) (fun t_ k_ => XS.iinc X321.here hx rfl (hb hby d9_22) rfl (l' := Lv330) rfl k_) ?_
      refine o_goto 4 X321 hx (hb hby d9_25) (by decide) ?_
      refine o_iloadN 5 X321 hx (hb hby d9_4) rfl rfl ?_
      refine o_iloadN 6 X321 hx (hb hby d9_5) rfl rfl ?_
      refine o_icmpNo 9 X321 hx (hb hby d9_6) (tlt (by decide : ((2 : Int32) < (3 : Int32)))).2.1 rfl ?_
      refine o_aloadN 10 X321 hx (hb hby d9_9) rfl rfl rfl ?_
      refine o_iloadN 11 X321 hx (hb hby d9_10) rfl rfl ?_
      obtain ⟨cq331, kq331, q331a, q331b, q331c⟩ := isOf hZ e321 (own_StrC_exa so)
      obtain ⟨_, _, ⟨T331, L331, k331, n331⟩, -, X331, ⟨Lc331, hQ331, l331, y331, z331⟩, st331⟩ := X321.virtualBack hx (y := yn17) (z := yn17) hown (mvT hZ (ow hw 43 rfl)) (mvT hZ (ow hw 44 rfl)) (notFace_of_selects (args := #[]) (mvT hZ (ow hw 46 rfl))) (mvT hZ (ow hw 46 rfl)) (mvT hZ (ow hw 45 rfl)) (by decide) (backOf (W := 0) (rmA2 lL Z a0 hw [] a cs fm x0 x1 x2 x3 h0 n0 so O S_fm hfm S_cs hcs S_ad S_hi S_lo cx0 cx1 cx2 cx3) hZ (ow hw 47 rfl) (ow hw 8 rfl) (by decide) (by decide)) q331a q331c (g := (mkF mM 11 Lv330 [.int 2, .ref a])) rfl (by rw [hml]; rfl) (Steps.refl _) (argsL := [.int 2]) (rest := []) (lenOf pd__28I_29C rfl) rfl (by show 2 * 0 + _ ≤ _; exact Nat.le_of_eq rfl) (hb hby d9_11) (fun _ _ => ⟨rfl, e321, (by decide : 0 + 0 ≤ _), (by decide : 0 + 0 ≤ _)⟩)
      dsimp only [Pt.U, Pt.locs, Pt.cells, Pt.slots] at X331 l331 y331 z331 st331 hQ331
      subst l331 y331 z331
      obtain ⟨rfl, N331q, e331⟩ := hQ331
      have N331 := Fr.app N321 N331q
      refine own_k T331 14 [.int x2] (fun t_ k_ => st331.trans k_) ?_
      refine o_bipush 16 10 X331 hx (hb hby d9_14) rfl rfl ?_
      by_cases hc16_332 : x2 = (10 : Int32)
      · skip
        refine o_icmpNo 19 X331 hx (hb hby d9_16) (teq hc16_332).2 rfl ?_
        let Lv333 : Array Slot := #[.val (.ref a), .val (.int 3), .val (.int 3), .val (.int 2)]
        refine own_st (A := T331.setTop (mkF mM 22 Lv333 [])) (fun t_ k_ => XS.iinc X331.here hx rfl (hb hby d9_19) rfl (l' := Lv333) rfl k_) ?_
        let Lv334 : Array Slot := #[.val (.ref a), .val (.int 3), .val (.int 3), .val (.int 3)]
        refine own_st (A := T331.setTop (mkF mM 25 Lv334 [])) (fun t_ k_ => XS.iinc X331.here hx rfl (hb hby d9_22) rfl (l' := Lv334) rfl k_) ?_
        refine o_goto 4 X331 hx (hb hby d9_25) (by decide) ?_
        refine o_iloadN 5 X331 hx (hb hby d9_4) rfl rfl ?_
        refine o_iloadN 6 X331 hx (hb hby d9_5) rfl rfl ?_
        refine o_icmpYes 28 X331 hx (hb hby d9_6) (flt (by decide : ¬ ((3 : Int32) < (3 : Int32)))).2.1 (by decide) ?_
        refine o_iloadN 29 X331 hx (hb hby d9_28) rfl rfl ?_
        exact own_retI X331 hx hlk hret (hb hby d9_29) (by rw [hr, own_nlv1 hc16_318, own_nlv0 hc16_322, own_nlv1 hc16_332]; exact ⟨rfl, N331, e331⟩) (by decide) (by decide)
      · skip
        refine o_icmpYes 22 X331 hx (hb hby d9_16) (feq hc16_332).2 (by decide) ?_
        let Lv335 : Array Slot := #[.val (.ref a), .val (.int 3), .val (.int 2), .val (.int 3)]
        refine own_st (A := T331.setTop (mkF mM 25 Lv335 [])) (fun t_ k_ => XS.iinc X331.here hx rfl (hb hby d9_22) rfl (l' := Lv335) rfl k_) ?_
        refine o_goto 4 X331 hx (hb hby d9_25) (by decide) ?_
        refine o_iloadN 5 X331 hx (hb hby d9_4) rfl rfl ?_
        refine o_iloadN 6 X331 hx (hb hby d9_5) rfl rfl ?_
        refine o_icmpYes 28 X331 hx (hb hby d9_6) (flt (by decide : ¬ ((3 : Int32) < (3 : Int32)))).2.1 (by decide) ?_
        refine o_iloadN 29 X331 hx (hb hby d9_28) rfl rfl ?_
        exact own_retI X331 hx hlk hret (hb hby d9_29) (by rw [hr, own_nlv1 hc16_318, own_nlv0 hc16_322, own_nlv0 hc16_332]; exact ⟨rfl, N331, e331⟩) (by decide) (by decide)
  · skip
    refine o_icmpYes 22 X317 hx (hb hby d9_16) (feq hc16_318).2 (by decide) ?_
    let Lv336 : Array Slot := #[.val (.ref a), .val (.int 3), .val (.int 1), .val (.int 1)]
    refine own_st (A := T317.setTop (mkF mM 25 Lv336 [])) (fun t_ k_ => XS.iinc X317.here hx rfl (hb hby d9_22) rfl (l' := Lv336) rfl k_) ?_
    refine o_goto 4 X317 hx (hb hby d9_25) (by decide) ?_
    refine o_iloadN 5 X317 hx (hb hby d9_4) rfl rfl ?_
    refine o_iloadN 6 X317 hx (hb hby d9_5) rfl rfl ?_
    refine o_icmpNo 9 X317 hx (hb hby d9_6) (tlt (by decide : ((1 : Int32) < (3 : Int32)))).2.1 rfl ?_
    refine o_aloadN 10 X317 hx (hb hby d9_9) rfl rfl rfl ?_
    refine o_iloadN 11 X317 hx (hb hby d9_10) rfl rfl ?_
    obtain ⟨cq337, kq337, q337a, q337b, q337c⟩ := isOf hZ e317 (own_StrC_exa so)
    obtain ⟨_, _, ⟨T337, L337, k337, n337⟩, -, X337, ⟨Lc337, hQ337, l337, y337, z337⟩, st337⟩ := X317.virtualBack hx (y := yn17) (z := yn17) hown (mvT hZ (ow hw 43 rfl)) (mvT hZ (ow hw 44 rfl)) (notFace_of_selects (args := #[]) (mvT hZ (ow hw 46 rfl))) (mvT hZ (ow hw 46 rfl)) (mvT hZ (ow hw 45 rfl)) (by decide) (backOf (W := 0) (rmA1 lL Z a0 hw [] a cs fm x0 x1 x2 x3 h0 n0 so O S_fm hfm S_cs hcs S_ad S_hi S_lo cx0 cx1 cx2 cx3) hZ (ow hw 47 rfl) (ow hw 8 rfl) (by decide) (by decide)) q337a q337c (g := (mkF mM 11 Lv336 [.int 1, .ref a])) rfl (by rw [hml]; rfl) (Steps.refl _) (argsL := [.int 1]) (rest := []) (lenOf pd__28I_29C rfl) rfl (by show 2 * 0 + _ ≤ _; exact Nat.le_of_eq rfl) (hb hby d9_11) (fun _ _ => ⟨rfl, e317, (by decide : 0 + 0 ≤ _), (by decide : 0 + 0 ≤ _)⟩)
    dsimp only [Pt.U, Pt.locs, Pt.cells, Pt.slots] at X337 l337 y337 z337 st337 hQ337
    subst l337 y337 z337
    obtain ⟨rfl, N337q, e337⟩ := hQ337
    have N337 := Fr.app N317 N337q
    refine own_k T337 14 [.int x1] (fun t_ k_ => st337.trans k_) ?_
    refine o_bipush 16 10 X337 hx (hb hby d9_14) rfl rfl ?_
    by_cases hc16_338 : x1 = (10 : Int32)
    · skip
      refine o_icmpNo 19 X337 hx (hb hby d9_16) (teq hc16_338).2 rfl ?_
      let Lv339 : Array Slot := #[.val (.ref a), .val (.int 3), .val (.int 2), .val (.int 1)]
      refine own_st (A := T337.setTop (mkF mM 22 Lv339 [])) (fun t_ k_ => XS.iinc X337.here hx rfl (hb hby d9_19) rfl (l' := Lv339) rfl k_) ?_
      let Lv340 : Array Slot := #[.val (.ref a), .val (.int 3), .val (.int 2), .val (.int 2)]
      refine own_st (A := T337.setTop (mkF mM 25 Lv340 [])) (fun t_ k_ => XS.iinc X337.here hx rfl (hb hby d9_22) rfl (l' := Lv340) rfl k_) ?_
      refine o_goto 4 X337 hx (hb hby d9_25) (by decide) ?_
      refine o_iloadN 5 X337 hx (hb hby d9_4) rfl rfl ?_
      refine o_iloadN 6 X337 hx (hb hby d9_5) rfl rfl ?_
      refine o_icmpNo 9 X337 hx (hb hby d9_6) (tlt (by decide : ((2 : Int32) < (3 : Int32)))).2.1 rfl ?_
      refine o_aloadN 10 X337 hx (hb hby d9_9) rfl rfl rfl ?_
      refine o_iloadN 11 X337 hx (hb hby d9_10) rfl rfl ?_
      obtain ⟨cq341, kq341, q341a, q341b, q341c⟩ := isOf hZ e337 (own_StrC_exa so)
      obtain ⟨_, _, ⟨T341, L341, k341, n341⟩, -, X341, ⟨Lc341, hQ341, l341, y341, z341⟩, st341⟩ := X337.virtualBack hx (y := yn17) (z := yn17) hown (mvT hZ (ow hw 43 rfl)) (mvT hZ (ow hw 44 rfl)) (notFace_of_selects (args := #[]) (mvT hZ (ow hw 46 rfl))) (mvT hZ (ow hw 46 rfl)) (mvT hZ (ow hw 45 rfl)) (by decide) (backOf (W := 0) (rmA2 lL Z a0 hw [] a cs fm x0 x1 x2 x3 h0 n0 so O S_fm hfm S_cs hcs S_ad S_hi S_lo cx0 cx1 cx2 cx3) hZ (ow hw 47 rfl) (ow hw 8 rfl) (by decide) (by decide)) q341a q341c (g := (mkF mM 11 Lv340 [.int 2, .ref a])) rfl (by rw [hml]; rfl) (Steps.refl _) (argsL := [.int 2]) (rest := []) (lenOf pd__28I_29C rfl) rfl (by show 2 * 0 + _ ≤ _; exact Nat.le_of_eq rfl) (hb hby d9_11) (fun _ _ => ⟨rfl, e337, (by decide : 0 + 0 ≤ _), (by decide : 0 + 0 ≤ _)⟩)
      dsimp only [Pt.U, Pt.locs, Pt.cells, Pt.slots] at X341 l341 y341 z341 st341 hQ341
      subst l341 y341 z341
      obtain ⟨rfl, N341q, e341⟩ := hQ341
      have N341 := Fr.app N337 N341q
      refine own_k T341 14 [.int x2] (fun t_ k_ => st341.trans k_) ?_
      refine o_bipush 16 10 X341 hx (hb hby d9_14) rfl rfl ?_
      by_cases hc16_342 : x2 = (10 : Int32)
      · skip
        refine o_icmpNo 19 X341 hx (hb hby d9_16) (teq hc16_342).2 rfl ?_
        let Lv343 : Array Slot := #[.val (.ref a), .val (.int 3), .val (.int 3), .val (.int 2)]
        refine own_st (A := T341.setTop (mkF mM 22 Lv343 [])) (fun t_ k_ => XS.iinc X341.here hx rfl (hb hby d9_19) rfl (l' := Lv343) rfl k_) ?_
        let Lv344 : Array Slot := #[.val (.ref a), .val (.int 3), .val (.int 3), .val (.int 3)]
        refine own_st (A := T341.setTop (mkF mM 25 Lv344 [])) (fun t_ k_ => XS.iinc X341.here hx rfl (hb hby d9_22) rfl (l' := Lv344) rfl k_) ?_
        refine o_goto 4 X341 hx (hb hby d9_25) (by decide) ?_
        refine o_iloadN 5 X341 hx (hb hby d9_4) rfl rfl ?_
        refine o_iloadN 6 X341 hx (hb hby d9_5) rfl rfl ?_
        refine o_icmpYes 28 X341 hx (hb hby d9_6) (flt (by decide : ¬ ((3 : Int32) < (3 : Int32)))).2.1 (by decide) ?_
        refine o_iloadN 29 X341 hx (hb hby d9_28) rfl rfl ?_
        exact own_retI X341 hx hlk hret (hb hby d9_29) (by rw [hr, own_nlv0 hc16_318, own_nlv1 hc16_338, own_nlv1 hc16_342]; exact ⟨rfl, N341, e341⟩) (by decide) (by decide)
      · skip
        refine o_icmpYes 22 X341 hx (hb hby d9_16) (feq hc16_342).2 (by decide) ?_
        let Lv345 : Array Slot := #[.val (.ref a), .val (.int 3), .val (.int 2), .val (.int 3)]
        refine own_st (A := T341.setTop (mkF mM 25 Lv345 [])) (fun t_ k_ => XS.iinc X341.here hx rfl (hb hby d9_22) rfl (l' := Lv345) rfl k_) ?_
        refine o_goto 4 X341 hx (hb hby d9_25) (by decide) ?_
        refine o_iloadN 5 X341 hx (hb hby d9_4) rfl rfl ?_
        refine o_iloadN 6 X341 hx (hb hby d9_5) rfl rfl ?_
        refine o_icmpYes 28 X341 hx (hb hby d9_6) (flt (by decide : ¬ ((3 : Int32) < (3 : Int32)))).2.1 (by decide) ?_
        refine o_iloadN 29 X341 hx (hb hby d9_28) rfl rfl ?_
        exact own_retI X341 hx hlk hret (hb hby d9_29) (by rw [hr, own_nlv0 hc16_318, own_nlv1 hc16_338, own_nlv0 hc16_342]; exact ⟨rfl, N341, e341⟩) (by decide) (by decide)
    · skip
      refine o_icmpYes 22 X337 hx (hb hby d9_16) (feq hc16_338).2 (by decide) ?_
      let Lv346 : Array Slot := #[.val (.ref a), .val (.int 3), .val (.int 1), .val (.int 2)]
      refine own_st (A := T337.setTop (mkF mM 25 Lv346 [])) (fun t_ k_ => XS.iinc X337.here hx rfl (hb hby d9_22) rfl (l' := Lv346) rfl k_) ?_
      refine o_goto 4 X337 hx (hb hby d9_25) (by decide) ?_
      refine o_iloadN 5 X337 hx (hb hby d9_4) rfl rfl ?_
      refine o_iloadN 6 X337 hx (hb hby d9_5) rfl rfl ?_
      refine o_icmpNo 9 X337 hx (hb hby d9_6) (tlt (by decide : ((2 : Int32) < (3 : Int32)))).2.1 rfl ?_
      refine o_aloadN 10 X337 hx (hb hby d9_9) rfl rfl rfl ?_
      refine o_iloadN 11 X337 hx (hb hby d9_10) rfl rfl ?_
      obtain ⟨cq347, kq347, q347a, q347b, q347c⟩ := isOf hZ e337 (own_StrC_exa so)
      obtain ⟨_, _, ⟨T347, L347, k347, n347⟩, -, X347, ⟨Lc347, hQ347, l347, y347, z347⟩, st347⟩ := X337.virtualBack hx (y := yn17) (z := yn17) hown (mvT hZ (ow hw 43 rfl)) (mvT hZ (ow hw 44 rfl)) (notFace_of_selects (args := #[]) (mvT hZ (ow hw 46 rfl))) (mvT hZ (ow hw 46 rfl)) (mvT hZ (ow hw 45 rfl)) (by decide) (backOf (W := 0) (rmA2 lL Z a0 hw [] a cs fm x0 x1 x2 x3 h0 n0 so O S_fm hfm S_cs hcs S_ad S_hi S_lo cx0 cx1 cx2 cx3) hZ (ow hw 47 rfl) (ow hw 8 rfl) (by decide) (by decide)) q347a q347c (g := (mkF mM 11 Lv346 [.int 2, .ref a])) rfl (by rw [hml]; rfl) (Steps.refl _) (argsL := [.int 2]) (rest := []) (lenOf pd__28I_29C rfl) rfl (by show 2 * 0 + _ ≤ _; exact Nat.le_of_eq rfl) (hb hby d9_11) (fun _ _ => ⟨rfl, e337, (by decide : 0 + 0 ≤ _), (by decide : 0 + 0 ≤ _)⟩)
      dsimp only [Pt.U, Pt.locs, Pt.cells, Pt.slots] at X347 l347 y347 z347 st347 hQ347
      subst l347 y347 z347
      obtain ⟨rfl, N347q, e347⟩ := hQ347
      have N347 := Fr.app N337 N347q
      refine own_k T347 14 [.int x2] (fun t_ k_ => st347.trans k_) ?_
      refine o_bipush 16 10 X347 hx (hb hby d9_14) rfl rfl ?_
      by_cases hc16_348 : x2 = (10 : Int32)
      · skip
        refine o_icmpNo 19 X347 hx (hb hby d9_16) (teq hc16_348).2 rfl ?_
        let Lv349 : Array Slot := #[.val (.ref a), .val (.int 3), .val (.int 2), .val (.int 2)]
        refine own_st (A := T347.setTop (mkF mM 22 Lv349 [])) (fun t_ k_ => XS.iinc X347.here hx rfl (hb hby d9_19) rfl (l' := Lv349) rfl k_) ?_
        let Lv350 : Array Slot := #[.val (.ref a), .val (.int 3), .val (.int 2), .val (.int 3)]
        refine own_st (A := T347.setTop (mkF mM 25 Lv350 [])) (fun t_ k_ => XS.iinc X347.here hx rfl (hb hby d9_22) rfl (l' := Lv350) rfl k_) ?_
        refine o_goto 4 X347 hx (hb hby d9_25) (by decide) ?_
        refine o_iloadN 5 X347 hx (hb hby d9_4) rfl rfl ?_
        refine o_iloadN 6 X347 hx (hb hby d9_5) rfl rfl ?_
        refine o_icmpYes 28 X347 hx (hb hby d9_6) (flt (by decide : ¬ ((3 : Int32) < (3 : Int32)))).2.1 (by decide) ?_
        refine o_iloadN 29 X347 hx (hb hby d9_28) rfl rfl ?_
        exact own_retI X347 hx hlk hret (hb hby d9_29) (by rw [hr, own_nlv0 hc16_318, own_nlv0 hc16_338, own_nlv1 hc16_348]; exact ⟨rfl, N347, e347⟩) (by decide) (by decide)
      · skip
        refine o_icmpYes 22 X347 hx (hb hby d9_16) (feq hc16_348).2 (by decide) ?_
        let Lv351 : Array Slot := #[.val (.ref a), .val (.int 3), .val (.int 1), .val (.int 3)]
        refine own_st (A := T347.setTop (mkF mM 25 Lv351 [])) (fun t_ k_ => XS.iinc X347.here hx rfl (hb hby d9_22) rfl (l' := Lv351) rfl k_) ?_
        refine o_goto 4 X347 hx (hb hby d9_25) (by decide) ?_
        refine o_iloadN 5 X347 hx (hb hby d9_4) rfl rfl ?_
        refine o_iloadN 6 X347 hx (hb hby d9_5) rfl rfl ?_
        refine o_icmpYes 28 X347 hx (hb hby d9_6) (flt (by decide : ¬ ((3 : Int32) < (3 : Int32)))).2.1 (by decide) ?_
        refine o_iloadN 29 X347 hx (hb hby d9_28) rfl rfl ?_
        exact own_retI X347 hx hlk hret (hb hby d9_29) (by rw [hr, own_nlv0 hc16_318, own_nlv0 hc16_338, own_nlv0 hc16_348]; exact ⟨rfl, N347, e347⟩) (by decide) (by decide)
theorem ef_rmLN4 (mM : MethodId) (a : Addr) (cs : Int32) (fm : Value) (x0 : Int32) (x1 : Int32) (x2 : Int32) (x3 : Int32) (r : Int32) : entryFrame mM #[.ref a, .int 4] 4 = mkF mM 0 #[.val (.ref a), .val (.int 4), .unset, .unset] [] := by first | (simp [entryFrame, mkF, argsToLocals, Value.category]; done) | rfl
theorem rmLN4 (lL : Launch) (Z : State) (a0 : Array Value) (hw : own_tb a0 Z) (ws : List Jvm.Cond) (a : Addr) (cs : Int32) (fm : Value) (x0 : Int32) (x1 : Int32) (x2 : Int32) (x3 : Int32) (r : Int32) (h0 : Heap) (n0 : Nat) (so : StrC Z h0 a x0 x1 x2 x3) (O : Old Z n0 h0) (S_fm : Sta Z Z.heap "jdk/internal/util/Preconditions" "SIOOBE_FORMATTER" "Ljava/util/function/BiFunction;" fm) (hfm : fm.isRef = true) (S_cs : Sta Z Z.heap "java/lang/String" "COMPACT_STRINGS" "Z" (.int cs)) (hcs : ¬ cs = (0 : Int32)) (S_ad : Sta Z Z.heap "java/lang/StringUTF16" "$assertionsDisabled" "Z" (.int 1)) (S_hi : Sta Z Z.heap "java/lang/StringUTF16" "HI_BYTE_SHIFT" "I" (.int 0)) (S_lo : Sta Z Z.heap "java/lang/StringUTF16" "LO_BYTE_SHIFT" "I" (.int 8)) (cx0 : nar .char x0 = x0) (cx1 : nar .char x1 = x1) (cx2 : nar .char x2 = x2) (cx3 : nar .char x3 = x3) (hr : r = 1 + nlv x0 + nlv x1 + nlv x2 + nlv x3) :
    own_Ct lL Z yn18 prog_31_method_8_code 4 (some .int) ws (⟨5, 0, 0, 66⟩ : Room) #[.ref a, .int 4] h0 (Qw (.int r) h0 n0) := by
  refine own_body (plainFor_of_name pn_com_2fexample_2fvyasa_2fvyasa_2fSqlLexer) 0 0 rfl rfl (fun mM => ef_rmLN4 mM a cs fm x0 x1 x2 x3 r) fun pP eE sS mM below meth cC s₁ hZ hx hby hml hown hnm hret hlk X0 e0 => ?_
  have N0 := Fr.nil n0
  refine o_iconst 1 1 X0 hx (hb hby d9_0) rfl rfl ?_
  let Lv352 : Array Slot := #[.val (.ref a), .val (.int 4), .val (.int 1), .unset]
  refine own_st (A := s₁.setTop (mkF mM 2 Lv352 [])) (fun t_ k_ => XS.istoreN X0.here hx rfl (hb hby d9_1) rfl (l' := Lv352) rfl k_) ?_
  refine o_iconst 3 0 X0 hx (hb hby d9_2) rfl rfl ?_
  let Lv353 : Array Slot := #[.val (.ref a), .val (.int 4), .val (.int 1), .val (.int 0)]
  refine own_st (A := s₁.setTop (mkF mM 4 Lv353 [])) (fun t_ k_ => XS.istoreN X0.here hx rfl (hb hby d9_3) rfl (l' := Lv353) rfl k_) ?_
  refine o_iloadN 5 X0 hx (hb hby d9_4) rfl rfl ?_
  refine o_iloadN 6 X0 hx (hb hby d9_5) rfl rfl ?_
  refine o_icmpNo 9 X0 hx (hb hby d9_6) (tlt (by decide : ((0 : Int32) < (4 : Int32)))).2.1 rfl ?_
  refine o_aloadN 10 X0 hx (hb hby d9_9) rfl rfl rfl ?_
  refine o_iloadN 11 X0 hx (hb hby d9_10) rfl rfl ?_
  obtain ⟨cq354, kq354, q354a, q354b, q354c⟩ := isOf hZ e0 (own_StrC_exa so)
  obtain ⟨_, _, ⟨T354, L354, k354, n354⟩, -, X354, ⟨Lc354, hQ354, l354, y354, z354⟩, st354⟩ := X0.virtualBack hx (y := yn17) (z := yn17) hown (mvT hZ (ow hw 43 rfl)) (mvT hZ (ow hw 44 rfl)) (notFace_of_selects (args := #[]) (mvT hZ (ow hw 46 rfl))) (mvT hZ (ow hw 46 rfl)) (mvT hZ (ow hw 45 rfl)) (by decide) (backOf (W := 0) (rmA0 lL Z a0 hw [] a cs fm x0 x1 x2 x3 h0 n0 so O S_fm hfm S_cs hcs S_ad S_hi S_lo cx0 cx1 cx2 cx3) hZ (ow hw 47 rfl) (ow hw 8 rfl) (by decide) (by decide)) q354a q354c (g := (mkF mM 11 Lv353 [.int 0, .ref a])) rfl (by rw [hml]; rfl) (Steps.refl _) (argsL := [.int 0]) (rest := []) (lenOf pd__28I_29C rfl) rfl (by show 2 * 0 + _ ≤ _; exact Nat.le_of_eq rfl) (hb hby d9_11) (fun _ _ => ⟨rfl, e0, (by decide : 0 + 0 ≤ _), (by decide : 0 + 0 ≤ _)⟩)
  dsimp only [Pt.U, Pt.locs, Pt.cells, Pt.slots] at X354 l354 y354 z354 st354 hQ354
  subst l354 y354 z354
  obtain ⟨rfl, N354q, e354⟩ := hQ354
  have N354 := Fr.app N0 N354q
  refine own_k T354 14 [.int x0] (fun t_ k_ => st354.trans k_) ?_
  refine o_bipush 16 10 X354 hx (hb hby d9_14) rfl rfl ?_
  by_cases hc16_355 : x0 = (10 : Int32)
  · skip
    refine o_icmpNo 19 X354 hx (hb hby d9_16) (teq hc16_355).2 rfl ?_
    let Lv356 : Array Slot := #[.val (.ref a), .val (.int 4), .val (.int 2), .val (.int 0)]
    refine own_st (A := T354.setTop (mkF mM 22 Lv356 [])) (fun t_ k_ => XS.iinc X354.here hx rfl (hb hby d9_19) rfl (l' := Lv356) rfl k_) ?_
    let Lv357 : Array Slot := #[.val (.ref a), .val (.int 4), .val (.int 2), .val (.int 1)]
    refine own_st (A := T354.setTop (mkF mM 25 Lv357 [])) (fun t_ k_ => XS.iinc X354.here hx rfl (hb hby d9_22) rfl (l' := Lv357) rfl k_) ?_
    refine o_goto 4 X354 hx (hb hby d9_25) (by decide) ?_
    refine o_iloadN 5 X354 hx (hb hby d9_4) rfl rfl ?_
    refine o_iloadN 6 X354 hx (hb hby d9_5) rfl rfl ?_
    refine o_icmpNo 9 X354 hx (hb hby d9_6) (tlt (by decide : ((1 : Int32) < (4 : Int32)))).2.1 rfl ?_
    refine o_aloadN 10 X354 hx (hb hby d9_9) rfl rfl rfl ?_
    refine o_iloadN 11 X354 hx (hb hby d9_10) rfl rfl ?_
    obtain ⟨cq358, kq358, q358a, q358b, q358c⟩ := isOf hZ e354 (own_StrC_exa so)
    obtain ⟨_, _, ⟨T358, L358, k358, n358⟩, -, X358, ⟨Lc358, hQ358, l358, y358, z358⟩, st358⟩ := X354.virtualBack hx (y := yn17) (z := yn17) hown (mvT hZ (ow hw 43 rfl)) (mvT hZ (ow hw 44 rfl)) (notFace_of_selects (args := #[]) (mvT hZ (ow hw 46 rfl))) (mvT hZ (ow hw 46 rfl)) (mvT hZ (ow hw 45 rfl)) (by decide) (backOf (W := 0) (rmA1 lL Z a0 hw [] a cs fm x0 x1 x2 x3 h0 n0 so O S_fm hfm S_cs hcs S_ad S_hi S_lo cx0 cx1 cx2 cx3) hZ (ow hw 47 rfl) (ow hw 8 rfl) (by decide) (by decide)) q358a q358c (g := (mkF mM 11 Lv357 [.int 1, .ref a])) rfl (by rw [hml]; rfl) (Steps.refl _) (argsL := [.int 1]) (rest := []) (lenOf pd__28I_29C rfl) rfl (by show 2 * 0 + _ ≤ _; exact Nat.le_of_eq rfl) (hb hby d9_11) (fun _ _ => ⟨rfl, e354, (by decide : 0 + 0 ≤ _), (by decide : 0 + 0 ≤ _)⟩)
    dsimp only [Pt.U, Pt.locs, Pt.cells, Pt.slots] at X358 l358 y358 z358 st358 hQ358
    subst l358 y358 z358
    obtain ⟨rfl, N358q, e358⟩ := hQ358
    have N358 := Fr.app N354 N358q
    refine own_k T358 14 [.int x1] (fun t_ k_ => st358.trans k_) ?_
    refine o_bipush 16 10 X358 hx (hb hby d9_14) rfl rfl ?_
    by_cases hc16_359 : x1 = (10 : Int32)
    · skip
      refine o_icmpNo 19 X358 hx (hb hby d9_16) (teq hc16_359).2 rfl ?_
      let Lv360 : Array Slot := #[.val (.ref a), .val (.int 4), .val (.int 3), .val (.int 1)]
      refine own_st (A := T358.setTop (mkF mM 22 Lv360 [])) (fun t_ k_ => XS.iinc X358.here hx rfl (hb hby d9_19) rfl (l' := Lv360) rfl k_) ?_
      let Lv361 : Array Slot := #[.val (.ref a), .val (.int 4), .val (.int 3), .val (.int 2)]
      refine own_st (A := T358.setTop (mkF mM 25 Lv361 [])) (fun t_ k_ => XS.iinc X358.here hx rfl (hb hby d9_22) rfl (l' := Lv361) rfl k_) ?_
      refine o_goto 4 X358 hx (hb hby d9_25) (by decide) ?_
      refine o_iloadN 5 X358 hx (hb hby d9_4) rfl rfl ?_
      refine o_iloadN 6 X358 hx (hb hby d9_5) rfl rfl ?_
      refine o_icmpNo 9 X358 hx (hb hby d9_6) (tlt (by decide : ((2 : Int32) < (4 : Int32)))).2.1 rfl ?_
      refine o_aloadN 10 X358 hx (hb hby d9_9) rfl rfl rfl ?_
      refine o_iloadN 11 X358 hx (hb hby d9_10) rfl rfl ?_
      obtain ⟨cq362, kq362, q362a, q362b, q362c⟩ := isOf hZ e358 (own_StrC_exa so)
      obtain ⟨_, _, ⟨T362, L362, k362, n362⟩, -, X362, ⟨Lc362, hQ362, l362, y362, z362⟩, st362⟩ := X358.virtualBack hx (y := yn17) (z := yn17) hown (mvT hZ (ow hw 43 rfl)) (mvT hZ (ow hw 44 rfl)) (notFace_of_selects (args := #[]) (mvT hZ (ow hw 46 rfl))) (mvT hZ (ow hw 46 rfl)) (mvT hZ (ow hw 45 rfl)) (by decide) (backOf (W := 0) (rmA2 lL Z a0 hw [] a cs fm x0 x1 x2 x3 h0 n0 so O S_fm hfm S_cs hcs S_ad S_hi S_lo cx0 cx1 cx2 cx3) hZ (ow hw 47 rfl) (ow hw 8 rfl) (by decide) (by decide)) q362a q362c (g := (mkF mM 11 Lv361 [.int 2, .ref a])) rfl (by rw [hml]; rfl) (Steps.refl _) (argsL := [.int 2]) (rest := []) (lenOf pd__28I_29C rfl) rfl (by show 2 * 0 + _ ≤ _; exact Nat.le_of_eq rfl) (hb hby d9_11) (fun _ _ => ⟨rfl, e358, (by decide : 0 + 0 ≤ _), (by decide : 0 + 0 ≤ _)⟩)
      dsimp only [Pt.U, Pt.locs, Pt.cells, Pt.slots] at X362 l362 y362 z362 st362 hQ362
      subst l362 y362 z362
      obtain ⟨rfl, N362q, e362⟩ := hQ362
      have N362 := Fr.app N358 N362q
      refine own_k T362 14 [.int x2] (fun t_ k_ => st362.trans k_) ?_
      refine o_bipush 16 10 X362 hx (hb hby d9_14) rfl rfl ?_
      by_cases hc16_363 : x2 = (10 : Int32)
      · skip
        refine o_icmpNo 19 X362 hx (hb hby d9_16) (teq hc16_363).2 rfl ?_
        let Lv364 : Array Slot := #[.val (.ref a), .val (.int 4), .val (.int 4), .val (.int 2)]
        refine own_st (A := T362.setTop (mkF mM 22 Lv364 [])) (fun t_ k_ => XS.iinc X362.here hx rfl (hb hby d9_19) rfl (l' := Lv364) rfl k_) ?_
        let Lv365 : Array Slot := #[.val (.ref a), .val (.int 4), .val (.int 4), .val (.int 3)]
        refine own_st (A := T362.setTop (mkF mM 25 Lv365 [])) (fun t_ k_ => XS.iinc X362.here hx rfl (hb hby d9_22) rfl (l' := Lv365) rfl k_) ?_
        refine o_goto 4 X362 hx (hb hby d9_25) (by decide) ?_
        refine o_iloadN 5 X362 hx (hb hby d9_4) rfl rfl ?_
        refine o_iloadN 6 X362 hx (hb hby d9_5) rfl rfl ?_
        refine o_icmpNo 9 X362 hx (hb hby d9_6) (tlt (by decide : ((3 : Int32) < (4 : Int32)))).2.1 rfl ?_
        refine o_aloadN 10 X362 hx (hb hby d9_9) rfl rfl rfl ?_
        refine o_iloadN 11 X362 hx (hb hby d9_10) rfl rfl ?_
        obtain ⟨cq366, kq366, q366a, q366b, q366c⟩ := isOf hZ e362 (own_StrC_exa so)
        obtain ⟨_, _, ⟨T366, L366, k366, n366⟩, -, X366, ⟨Lc366, hQ366, l366, y366, z366⟩, st366⟩ := X362.virtualBack hx (y := yn17) (z := yn17) hown (mvT hZ (ow hw 43 rfl)) (mvT hZ (ow hw 44 rfl)) (notFace_of_selects (args := #[]) (mvT hZ (ow hw 46 rfl))) (mvT hZ (ow hw 46 rfl)) (mvT hZ (ow hw 45 rfl)) (by decide) (backOf (W := 0) (rmA3 lL Z a0 hw [] a cs fm x0 x1 x2 x3 h0 n0 so O S_fm hfm S_cs hcs S_ad S_hi S_lo cx0 cx1 cx2 cx3) hZ (ow hw 47 rfl) (ow hw 8 rfl) (by decide) (by decide)) q366a q366c (g := (mkF mM 11 Lv365 [.int 3, .ref a])) rfl (by rw [hml]; rfl) (Steps.refl _) (argsL := [.int 3]) (rest := []) (lenOf pd__28I_29C rfl) rfl (by show 2 * 0 + _ ≤ _; exact Nat.le_of_eq rfl) (hb hby d9_11) (fun _ _ => ⟨rfl, e362, (by decide : 0 + 0 ≤ _), (by decide : 0 + 0 ≤ _)⟩)
        dsimp only [Pt.U, Pt.locs, Pt.cells, Pt.slots] at X366 l366 y366 z366 st366 hQ366
        subst l366 y366 z366
        obtain ⟨rfl, N366q, e366⟩ := hQ366
        have N366 := Fr.app N362 N366q
        refine own_k T366 14 [.int x3] (fun t_ k_ => st366.trans k_) ?_
        refine o_bipush 16 10 X366 hx (hb hby d9_14) rfl rfl ?_
        by_cases hc16_367 : x3 = (10 : Int32)
        · skip
          refine o_icmpNo 19 X366 hx (hb hby d9_16) (teq hc16_367).2 rfl ?_
          let Lv368 : Array Slot := #[.val (.ref a), .val (.int 4), .val (.int 5), .val (.int 3)]
          refine own_st (A := T366.setTop (mkF mM 22 Lv368 [])) (fun t_ k_ => XS.iinc X366.here hx rfl (hb hby d9_19) rfl (l' := Lv368) rfl k_) ?_
          let Lv369 : Array Slot := #[.val (.ref a), .val (.int 4), .val (.int 5), .val (.int 4)]
          refine own_st (A := T366.setTop (mkF mM 25 Lv369 [])) (fun t_ k_ => XS.iinc X366.here hx rfl (hb hby d9_22) rfl (l' := Lv369) rfl k_) ?_
          refine o_goto 4 X366 hx (hb hby d9_25) (by decide) ?_
          refine o_iloadN 5 X366 hx (hb hby d9_4) rfl rfl ?_
          refine o_iloadN 6 X366 hx (hb hby d9_5) rfl rfl ?_
          refine o_icmpYes 28 X366 hx (hb hby d9_6) (flt (by decide : ¬ ((4 : Int32) < (4 : Int32)))).2.1 (by decide) ?_
          refine o_iloadN 29 X366 hx (hb hby d9_28) rfl rfl ?_
          exact own_retI X366 hx hlk hret (hb hby d9_29) (by rw [hr, own_nlv1 hc16_355, own_nlv1 hc16_359, own_nlv1 hc16_363, own_nlv1 hc16_367]; exact ⟨rfl, N366, e366⟩) (by decide) (by decide)
        · skip
          refine o_icmpYes 22 X366 hx (hb hby d9_16) (feq hc16_367).2 (by decide) ?_
          let Lv370 : Array Slot := #[.val (.ref a), .val (.int 4), .val (.int 4), .val (.int 4)]
          refine own_st (A := T366.setTop (mkF mM 25 Lv370 [])) (fun t_ k_ => XS.iinc X366.here hx rfl (hb hby d9_22) rfl (l' := Lv370) rfl k_) ?_
          refine o_goto 4 X366 hx (hb hby d9_25) (by decide) ?_
          refine o_iloadN 5 X366 hx (hb hby d9_4) rfl rfl ?_
          refine o_iloadN 6 X366 hx (hb hby d9_5) rfl rfl ?_
          refine o_icmpYes 28 X366 hx (hb hby d9_6) (flt (by decide : ¬ ((4 : Int32) < (4 : Int32)))).2.1 (by decide) ?_
          refine o_iloadN 29 X366 hx (hb hby d9_28) rfl rfl ?_
          exact own_retI X366 hx hlk hret (hb hby d9_29) (by rw [hr, own_nlv1 hc16_355, own_nlv1 hc16_359, own_nlv1 hc16_363, own_nlv0 hc16_367]; exact ⟨rfl, N366, e366⟩) (by decide) (by decide)
      · skip
        refine o_icmpYes 22 X362 hx (hb hby d9_16) (feq hc16_363).2 (by decide) ?_
        let Lv371 : Array Slot := #[.val (.ref a), .val (.int 4), .val (.int 3), .val (.int 3)]
        refine own_st (A := T362.setTop (mkF mM 25 Lv371 [])) (fun t_ k_ => XS.iinc X362.here hx rfl (hb hby d9_22) rfl (l' := Lv371) rfl k_) ?_
        refine o_goto 4 X362 hx (hb hby d9_25) (by decide) ?_
        refine o_iloadN 5 X362 hx (hb hby d9_4) rfl rfl ?_
        refine o_iloadN 6 X362 hx (hb hby d9_5) rfl rfl ?_
        refine o_icmpNo 9 X362 hx (hb hby d9_6) (tlt (by decide : ((3 : Int32) < (4 : Int32)))).2.1 rfl ?_
        refine o_aloadN 10 X362 hx (hb hby d9_9) rfl rfl rfl ?_
        refine o_iloadN 11 X362 hx (hb hby d9_10) rfl rfl ?_
        obtain ⟨cq372, kq372, q372a, q372b, q372c⟩ := isOf hZ e362 (own_StrC_exa so)
        obtain ⟨_, _, ⟨T372, L372, k372, n372⟩, -, X372, ⟨Lc372, hQ372, l372, y372, z372⟩, st372⟩ := X362.virtualBack hx (y := yn17) (z := yn17) hown (mvT hZ (ow hw 43 rfl)) (mvT hZ (ow hw 44 rfl)) (notFace_of_selects (args := #[]) (mvT hZ (ow hw 46 rfl))) (mvT hZ (ow hw 46 rfl)) (mvT hZ (ow hw 45 rfl)) (by decide) (backOf (W := 0) (rmA3 lL Z a0 hw [] a cs fm x0 x1 x2 x3 h0 n0 so O S_fm hfm S_cs hcs S_ad S_hi S_lo cx0 cx1 cx2 cx3) hZ (ow hw 47 rfl) (ow hw 8 rfl) (by decide) (by decide)) q372a q372c (g := (mkF mM 11 Lv371 [.int 3, .ref a])) rfl (by rw [hml]; rfl) (Steps.refl _) (argsL := [.int 3]) (rest := []) (lenOf pd__28I_29C rfl) rfl (by show 2 * 0 + _ ≤ _; exact Nat.le_of_eq rfl) (hb hby d9_11) (fun _ _ => ⟨rfl, e362, (by decide : 0 + 0 ≤ _), (by decide : 0 + 0 ≤ _)⟩)
        dsimp only [Pt.U, Pt.locs, Pt.cells, Pt.slots] at X372 l372 y372 z372 st372 hQ372
        subst l372 y372 z372
        obtain ⟨rfl, N372q, e372⟩ := hQ372
        have N372 := Fr.app N362 N372q
        refine own_k T372 14 [.int x3] (fun t_ k_ => st372.trans k_) ?_
        refine o_bipush 16 10 X372 hx (hb hby d9_14) rfl rfl ?_
        by_cases hc16_373 : x3 = (10 : Int32)
        · skip
          refine o_icmpNo 19 X372 hx (hb hby d9_16) (teq hc16_373).2 rfl ?_
          let Lv374 : Array Slot := #[.val (.ref a), .val (.int 4), .val (.int 4), .val (.int 3)]
          refine own_st (A := T372.setTop (mkF mM 22 Lv374 [])) (fun t_ k_ => XS.iinc X372.here hx rfl (hb hby d9_19) rfl (l' := Lv374) rfl k_) ?_
          let Lv375 : Array Slot := #[.val (.ref a), .val (.int 4), .val (.int 4), .val (.int 4)]
          refine own_st (A := T372.setTop (mkF mM 25 Lv375 [])) (fun t_ k_ => XS.iinc X372.here hx rfl (hb hby d9_22) rfl (l' := Lv375) rfl k_) ?_
          refine o_goto 4 X372 hx (hb hby d9_25) (by decide) ?_
          refine o_iloadN 5 X372 hx (hb hby d9_4) rfl rfl ?_
          refine o_iloadN 6 X372 hx (hb hby d9_5) rfl rfl ?_
          refine o_icmpYes 28 X372 hx (hb hby d9_6) (flt (by decide : ¬ ((4 : Int32) < (4 : Int32)))).2.1 (by decide) ?_
          refine o_iloadN 29 X372 hx (hb hby d9_28) rfl rfl ?_
          exact own_retI X372 hx hlk hret (hb hby d9_29) (by rw [hr, own_nlv1 hc16_355, own_nlv1 hc16_359, own_nlv0 hc16_363, own_nlv1 hc16_373]; exact ⟨rfl, N372, e372⟩) (by decide) (by decide)
        · skip
          refine o_icmpYes 22 X372 hx (hb hby d9_16) (feq hc16_373).2 (by decide) ?_
          let Lv376 : Array Slot := #[.val (.ref a), .val (.int 4), .val (.int 3), .val (.int 4)]
          refine own_st (A := T372.setTop (mkF mM 25 Lv376 [])) (fun t_ k_ => XS.iinc X372.here hx rfl (hb hby d9_22) rfl (l' := Lv376) rfl k_) ?_
          refine o_goto 4 X372 hx (hb hby d9_25) (by decide) ?_
          refine o_iloadN 5 X372 hx (hb hby d9_4) rfl rfl ?_
          refine o_iloadN 6 X372 hx (hb hby d9_5) rfl rfl ?_
          refine o_icmpYes 28 X372 hx (hb hby d9_6) (flt (by decide : ¬ ((4 : Int32) < (4 : Int32)))).2.1 (by decide) ?_
          refine o_iloadN 29 X372 hx (hb hby d9_28) rfl rfl ?_
          exact own_retI X372 hx hlk hret (hb hby d9_29) (by rw [hr, own_nlv1 hc16_355, own_nlv1 hc16_359, own_nlv0 hc16_363, own_nlv0 hc16_373]; exact ⟨rfl, N372, e372⟩) (by decide) (by decide)
    · skip
      refine o_icmpYes 22 X358 hx (hb hby d9_16) (feq hc16_359).2 (by decide) ?_
      let Lv377 : Array Slot := #[.val (.ref a), .val (.int 4), .val (.int 2), .val (.int 2)]
      refine own_st (A := T358.setTop (mkF mM 25 Lv377 [])) (fun t_ k_ => XS.iinc X358.here hx rfl (hb hby d9_22) rfl (l' := Lv377) rfl k_) ?_
      refine o_goto 4 X358 hx (hb hby d9_25) (by decide) ?_
      refine o_iloadN 5 X358 hx (hb hby d9_4) rfl rfl ?_
      refine o_iloadN 6 X358 hx (hb hby d9_5) rfl rfl ?_
      refine o_icmpNo 9 X358 hx (hb hby d9_6) (tlt (by decide : ((2 : Int32) < (4 : Int32)))).2.1 rfl ?_
      refine o_aloadN 10 X358 hx (hb hby d9_9) rfl rfl rfl ?_
      refine o_iloadN 11 X358 hx (hb hby d9_10) rfl rfl ?_
      obtain ⟨cq378, kq378, q378a, q378b, q378c⟩ := isOf hZ e358 (own_StrC_exa so)
      obtain ⟨_, _, ⟨T378, L378, k378, n378⟩, -, X378, ⟨Lc378, hQ378, l378, y378, z378⟩, st378⟩ := X358.virtualBack hx (y := yn17) (z := yn17) hown (mvT hZ (ow hw 43 rfl)) (mvT hZ (ow hw 44 rfl)) (notFace_of_selects (args := #[]) (mvT hZ (ow hw 46 rfl))) (mvT hZ (ow hw 46 rfl)) (mvT hZ (ow hw 45 rfl)) (by decide) (backOf (W := 0) (rmA2 lL Z a0 hw [] a cs fm x0 x1 x2 x3 h0 n0 so O S_fm hfm S_cs hcs S_ad S_hi S_lo cx0 cx1 cx2 cx3) hZ (ow hw 47 rfl) (ow hw 8 rfl) (by decide) (by decide)) q378a q378c (g := (mkF mM 11 Lv377 [.int 2, .ref a])) rfl (by rw [hml]; rfl) (Steps.refl _) (argsL := [.int 2]) (rest := []) (lenOf pd__28I_29C rfl) rfl (by show 2 * 0 + _ ≤ _; exact Nat.le_of_eq rfl) (hb hby d9_11) (fun _ _ => ⟨rfl, e358, (by decide : 0 + 0 ≤ _), (by decide : 0 + 0 ≤ _)⟩)
      dsimp only [Pt.U, Pt.locs, Pt.cells, Pt.slots] at X378 l378 y378 z378 st378 hQ378
      subst l378 y378 z378
      obtain ⟨rfl, N378q, e378⟩ := hQ378
      have N378 := Fr.app N358 N378q
      refine own_k T378 14 [.int x2] (fun t_ k_ => st378.trans k_) ?_
      refine o_bipush 16 10 X378 hx (hb hby d9_14) rfl rfl ?_
      by_cases hc16_379 : x2 = (10 : Int32)
      · skip
        refine o_icmpNo 19 X378 hx (hb hby d9_16) (teq hc16_379).2 rfl ?_
        let Lv380 : Array Slot := #[.val (.ref a), .val (.int 4), .val (.int 3), .val (.int 2)]
        refine own_st (A := T378.setTop (mkF mM 22 Lv380 [])) (fun t_ k_ => XS.iinc X378.here hx rfl (hb hby d9_19) rfl (l' := Lv380) rfl k_) ?_
        let Lv381 : Array Slot := #[.val (.ref a), .val (.int 4), .val (.int 3), .val (.int 3)]
        refine own_st (A := T378.setTop (mkF mM 25 Lv381 [])) (fun t_ k_ => XS.iinc X378.here hx rfl (hb hby d9_22) rfl (l' := Lv381) rfl k_) ?_
        refine o_goto 4 X378 hx (hb hby d9_25) (by decide) ?_
        refine o_iloadN 5 X378 hx (hb hby d9_4) rfl rfl ?_
        refine o_iloadN 6 X378 hx (hb hby d9_5) rfl rfl ?_
        refine o_icmpNo 9 X378 hx (hb hby d9_6) (tlt (by decide : ((3 : Int32) < (4 : Int32)))).2.1 rfl ?_
        refine o_aloadN 10 X378 hx (hb hby d9_9) rfl rfl rfl ?_
        refine o_iloadN 11 X378 hx (hb hby d9_10) rfl rfl ?_
        obtain ⟨cq382, kq382, q382a, q382b, q382c⟩ := isOf hZ e378 (own_StrC_exa so)
        obtain ⟨_, _, ⟨T382, L382, k382, n382⟩, -, X382, ⟨Lc382, hQ382, l382, y382, z382⟩, st382⟩ := X378.virtualBack hx (y := yn17) (z := yn17) hown (mvT hZ (ow hw 43 rfl)) (mvT hZ (ow hw 44 rfl)) (notFace_of_selects (args := #[]) (mvT hZ (ow hw 46 rfl))) (mvT hZ (ow hw 46 rfl)) (mvT hZ (ow hw 45 rfl)) (by decide) (backOf (W := 0) (rmA3 lL Z a0 hw [] a cs fm x0 x1 x2 x3 h0 n0 so O S_fm hfm S_cs hcs S_ad S_hi S_lo cx0 cx1 cx2 cx3) hZ (ow hw 47 rfl) (ow hw 8 rfl) (by decide) (by decide)) q382a q382c (g := (mkF mM 11 Lv381 [.int 3, .ref a])) rfl (by rw [hml]; rfl) (Steps.refl _) (argsL := [.int 3]) (rest := []) (lenOf pd__28I_29C rfl) rfl (by show 2 * 0 + _ ≤ _; exact Nat.le_of_eq rfl) (hb hby d9_11) (fun _ _ => ⟨rfl, e378, (by decide : 0 + 0 ≤ _), (by decide : 0 + 0 ≤ _)⟩)
        dsimp only [Pt.U, Pt.locs, Pt.cells, Pt.slots] at X382 l382 y382 z382 st382 hQ382
        subst l382 y382 z382
        obtain ⟨rfl, N382q, e382⟩ := hQ382
        have N382 := Fr.app N378 N382q
        refine own_k T382 14 [.int x3] (fun t_ k_ => st382.trans k_) ?_
        refine o_bipush 16 10 X382 hx (hb hby d9_14) rfl rfl ?_
        by_cases hc16_383 : x3 = (10 : Int32)
        · skip
          refine o_icmpNo 19 X382 hx (hb hby d9_16) (teq hc16_383).2 rfl ?_
          let Lv384 : Array Slot := #[.val (.ref a), .val (.int 4), .val (.int 4), .val (.int 3)]
          refine own_st (A := T382.setTop (mkF mM 22 Lv384 [])) (fun t_ k_ => XS.iinc X382.here hx rfl (hb hby d9_19) rfl (l' := Lv384) rfl k_) ?_
          let Lv385 : Array Slot := #[.val (.ref a), .val (.int 4), .val (.int 4), .val (.int 4)]
          refine own_st (A := T382.setTop (mkF mM 25 Lv385 [])) (fun t_ k_ => XS.iinc X382.here hx rfl (hb hby d9_22) rfl (l' := Lv385) rfl k_) ?_
          refine o_goto 4 X382 hx (hb hby d9_25) (by decide) ?_
          refine o_iloadN 5 X382 hx (hb hby d9_4) rfl rfl ?_
          refine o_iloadN 6 X382 hx (hb hby d9_5) rfl rfl ?_
          refine o_icmpYes 28 X382 hx (hb hby d9_6) (flt (by decide : ¬ ((4 : Int32) < (4 : Int32)))).2.1 (by decide) ?_
          refine o_iloadN 29 X382 hx (hb hby d9_28) rfl rfl ?_
          exact own_retI X382 hx hlk hret (hb hby d9_29) (by rw [hr, own_nlv1 hc16_355, own_nlv0 hc16_359, own_nlv1 hc16_379, own_nlv1 hc16_383]; exact ⟨rfl, N382, e382⟩) (by decide) (by decide)
        · skip
          refine o_icmpYes 22 X382 hx (hb hby d9_16) (feq hc16_383).2 (by decide) ?_
          let Lv386 : Array Slot := #[.val (.ref a), .val (.int 4), .val (.int 3), .val (.int 4)]
          refine own_st (A := T382.setTop (mkF mM 25 Lv386 [])) (fun t_ k_ => XS.iinc X382.here hx rfl (hb hby d9_22) rfl (l' := Lv386) rfl k_) ?_
          refine o_goto 4 X382 hx (hb hby d9_25) (by decide) ?_
          refine o_iloadN 5 X382 hx (hb hby d9_4) rfl rfl ?_
          refine o_iloadN 6 X382 hx (hb hby d9_5) rfl rfl ?_
          refine o_icmpYes 28 X382 hx (hb hby d9_6) (flt (by decide : ¬ ((4 : Int32) < (4 : Int32)))).2.1 (by decide) ?_
          refine o_iloadN 29 X382 hx (hb hby d9_28) rfl rfl ?_
          exact own_retI X382 hx hlk hret (hb hby d9_29) (by rw [hr, own_nlv1 hc16_355, own_nlv0 hc16_359, own_nlv1 hc16_379, own_nlv0 hc16_383]; exact ⟨rfl, N382, e382⟩) (by decide) (by decide)
      · skip
        refine o_icmpYes 22 X378 hx (hb hby d9_16) (feq hc16_379).2 (by decide) ?_
        let Lv387 : Array Slot := #[.val (.ref a), .val (.int 4), .val (.int 2), .val (.int 3)]
        refine own_st (A := T378.setTop (mkF mM 25 Lv387 [])) (fun t_ k_ => XS.iinc X378.here hx rfl (hb hby d9_22) rfl (l' := Lv387) rfl k_) ?_
        refine o_goto 4 X378 hx (hb hby d9_25) (by decide) ?_
        refine o_iloadN 5 X378 hx (hb hby d9_4) rfl rfl ?_
        refine o_iloadN 6 X378 hx (hb hby d9_5) rfl rfl ?_
        refine o_icmpNo 9 X378 hx (hb hby d9_6) (tlt (by decide : ((3 : Int32) < (4 : Int32)))).2.1 rfl ?_
        refine o_aloadN 10 X378 hx (hb hby d9_9) rfl rfl rfl ?_
        refine o_iloadN 11 X378 hx (hb hby d9_10) rfl rfl ?_
        obtain ⟨cq388, kq388, q388a, q388b, q388c⟩ := isOf hZ e378 (own_StrC_exa so)
        obtain ⟨_, _, ⟨T388, L388, k388, n388⟩, -, X388, ⟨Lc388, hQ388, l388, y388, z388⟩, st388⟩ := X378.virtualBack hx (y := yn17) (z := yn17) hown (mvT hZ (ow hw 43 rfl)) (mvT hZ (ow hw 44 rfl)) (notFace_of_selects (args := #[]) (mvT hZ (ow hw 46 rfl))) (mvT hZ (ow hw 46 rfl)) (mvT hZ (ow hw 45 rfl)) (by decide) (backOf (W := 0) (rmA3 lL Z a0 hw [] a cs fm x0 x1 x2 x3 h0 n0 so O S_fm hfm S_cs hcs S_ad S_hi S_lo cx0 cx1 cx2 cx3) hZ (ow hw 47 rfl) (ow hw 8 rfl) (by decide) (by decide)) q388a q388c (g := (mkF mM 11 Lv387 [.int 3, .ref a])) rfl (by rw [hml]; rfl) (Steps.refl _) (argsL := [.int 3]) (rest := []) (lenOf pd__28I_29C rfl) rfl (by show 2 * 0 + _ ≤ _; exact Nat.le_of_eq rfl) (hb hby d9_11) (fun _ _ => ⟨rfl, e378, (by decide : 0 + 0 ≤ _), (by decide : 0 + 0 ≤ _)⟩)
        dsimp only [Pt.U, Pt.locs, Pt.cells, Pt.slots] at X388 l388 y388 z388 st388 hQ388
        subst l388 y388 z388
        obtain ⟨rfl, N388q, e388⟩ := hQ388
        have N388 := Fr.app N378 N388q
        refine own_k T388 14 [.int x3] (fun t_ k_ => st388.trans k_) ?_
        refine o_bipush 16 10 X388 hx (hb hby d9_14) rfl rfl ?_
        by_cases hc16_389 : x3 = (10 : Int32)
        · skip
          refine o_icmpNo 19 X388 hx (hb hby d9_16) (teq hc16_389).2 rfl ?_
          let Lv390 : Array Slot := #[.val (.ref a), .val (.int 4), .val (.int 3), .val (.int 3)]
          refine own_st (A := T388.setTop (mkF mM 22 Lv390 [])) (fun t_ k_ => XS.iinc X388.here hx rfl (hb hby d9_19) rfl (l' := Lv390) rfl k_) ?_
          let Lv391 : Array Slot := #[.val (.ref a), .val (.int 4), .val (.int 3), .val (.int 4)]
          refine own_st (A := T388.setTop (mkF mM 25 Lv391 [])) (fun t_ k_ => XS.iinc X388.here hx rfl (hb hby d9_22) rfl (l' := Lv391) rfl k_) ?_
          refine o_goto 4 X388 hx (hb hby d9_25) (by decide) ?_
          refine o_iloadN 5 X388 hx (hb hby d9_4) rfl rfl ?_
          refine o_iloadN 6 X388 hx (hb hby d9_5) rfl rfl ?_
          refine o_icmpYes 28 X388 hx (hb hby d9_6) (flt (by decide : ¬ ((4 : Int32) < (4 : Int32)))).2.1 (by decide) ?_
          refine o_iloadN 29 X388 hx (hb hby d9_28) rfl rfl ?_
          exact own_retI X388 hx hlk hret (hb hby d9_29) (by rw [hr, own_nlv1 hc16_355, own_nlv0 hc16_359, own_nlv0 hc16_379, own_nlv1 hc16_389]; exact ⟨rfl, N388, e388⟩) (by decide) (by decide)
        · skip
          refine o_icmpYes 22 X388 hx (hb hby d9_16) (feq hc16_389).2 (by decide) ?_
          let Lv392 : Array Slot := #[.val (.ref a), .val (.int 4), .val (.int 2), .val (.int 4)]
          refine own_st (A := T388.setTop (mkF mM 25 Lv392 [])) (fun t_ k_ => XS.iinc X388.here hx rfl (hb hby d9_22) rfl (l' := Lv392) rfl k_) ?_
          refine o_goto 4 X388 hx (hb hby d9_25) (by decide) ?_
          refine o_iloadN 5 X388 hx (hb hby d9_4) rfl rfl ?_
          refine o_iloadN 6 X388 hx (hb hby d9_5) rfl rfl ?_
          refine o_icmpYes 28 X388 hx (hb hby d9_6) (flt (by decide : ¬ ((4 : Int32) < (4 : Int32)))).2.1 (by decide) ?_
          refine o_iloadN 29 X388 hx (hb hby d9_28) rfl rfl ?_
          exact own_retI X388 hx hlk hret (hb hby d9_29) (by rw [hr, own_nlv1 hc16_355, own_nlv0 hc16_359, own_nlv0 hc16_379, own_nlv0 hc16_389]; exact ⟨rfl, N388, e388⟩) (by decide) (by decide)
  · skip
    refine o_icmpYes 22 X354 hx (hb hby d9_16) (feq hc16_355).2 (by decide) ?_
    let Lv393 : Array Slot := #[.val (.ref a), .val (.int 4), .val (.int 1), .val (.int 1)]
    refine own_st (A := T354.setTop (mkF mM 25 Lv393 [])) (fun t_ k_ => XS.iinc X354.here hx rfl (hb hby d9_22) rfl (l' := Lv393) rfl k_) ?_
    refine o_goto 4 X354 hx (hb hby d9_25) (by decide) ?_
    refine o_iloadN 5 X354 hx (hb hby d9_4) rfl rfl ?_
    refine o_iloadN 6 X354 hx (hb hby d9_5) rfl rfl ?_
    refine o_icmpNo 9 X354 hx (hb hby d9_6) (tlt (by decide : ((1 : Int32) < (4 : Int32)))).2.1 rfl ?_
    refine o_aloadN 10 X354 hx (hb hby d9_9) rfl rfl rfl ?_
    refine o_iloadN 11 X354 hx (hb hby d9_10) rfl rfl ?_
    obtain ⟨cq394, kq394, q394a, q394b, q394c⟩ := isOf hZ e354 (own_StrC_exa so)
    obtain ⟨_, _, ⟨T394, L394, k394, n394⟩, -, X394, ⟨Lc394, hQ394, l394, y394, z394⟩, st394⟩ := X354.virtualBack hx (y := yn17) (z := yn17) hown (mvT hZ (ow hw 43 rfl)) (mvT hZ (ow hw 44 rfl)) (notFace_of_selects (args := #[]) (mvT hZ (ow hw 46 rfl))) (mvT hZ (ow hw 46 rfl)) (mvT hZ (ow hw 45 rfl)) (by decide) (backOf (W := 0) (rmA1 lL Z a0 hw [] a cs fm x0 x1 x2 x3 h0 n0 so O S_fm hfm S_cs hcs S_ad S_hi S_lo cx0 cx1 cx2 cx3) hZ (ow hw 47 rfl) (ow hw 8 rfl) (by decide) (by decide)) q394a q394c (g := (mkF mM 11 Lv393 [.int 1, .ref a])) rfl (by rw [hml]; rfl) (Steps.refl _) (argsL := [.int 1]) (rest := []) (lenOf pd__28I_29C rfl) rfl (by show 2 * 0 + _ ≤ _; exact Nat.le_of_eq rfl) (hb hby d9_11) (fun _ _ => ⟨rfl, e354, (by decide : 0 + 0 ≤ _), (by decide : 0 + 0 ≤ _)⟩)
    dsimp only [Pt.U, Pt.locs, Pt.cells, Pt.slots] at X394 l394 y394 z394 st394 hQ394
    subst l394 y394 z394
    obtain ⟨rfl, N394q, e394⟩ := hQ394
    have N394 := Fr.app N354 N394q
    refine own_k T394 14 [.int x1] (fun t_ k_ => st394.trans k_) ?_
    refine o_bipush 16 10 X394 hx (hb hby d9_14) rfl rfl ?_
    by_cases hc16_395 : x1 = (10 : Int32)
    · skip
      refine o_icmpNo 19 X394 hx (hb hby d9_16) (teq hc16_395).2 rfl ?_
      let Lv396 : Array Slot := #[.val (.ref a), .val (.int 4), .val (.int 2), .val (.int 1)]
      refine own_st (A := T394.setTop (mkF mM 22 Lv396 [])) (fun t_ k_ => XS.iinc X394.here hx rfl (hb hby d9_19) rfl (l' := Lv396) rfl k_) ?_
      let Lv397 : Array Slot := #[.val (.ref a), .val (.int 4), .val (.int 2), .val (.int 2)]
      refine own_st (A := T394.setTop (mkF mM 25 Lv397 [])) (fun t_ k_ => XS.iinc X394.here hx rfl (hb hby d9_22) rfl (l' := Lv397) rfl k_) ?_
      refine o_goto 4 X394 hx (hb hby d9_25) (by decide) ?_
      refine o_iloadN 5 X394 hx (hb hby d9_4) rfl rfl ?_
      refine o_iloadN 6 X394 hx (hb hby d9_5) rfl rfl ?_
      refine o_icmpNo 9 X394 hx (hb hby d9_6) (tlt (by decide : ((2 : Int32) < (4 : Int32)))).2.1 rfl ?_
      refine o_aloadN 10 X394 hx (hb hby d9_9) rfl rfl rfl ?_
      refine o_iloadN 11 X394 hx (hb hby d9_10) rfl rfl ?_
      obtain ⟨cq398, kq398, q398a, q398b, q398c⟩ := isOf hZ e394 (own_StrC_exa so)
      obtain ⟨_, _, ⟨T398, L398, k398, n398⟩, -, X398, ⟨Lc398, hQ398, l398, y398, z398⟩, st398⟩ := X394.virtualBack hx (y := yn17) (z := yn17) hown (mvT hZ (ow hw 43 rfl)) (mvT hZ (ow hw 44 rfl)) (notFace_of_selects (args := #[]) (mvT hZ (ow hw 46 rfl))) (mvT hZ (ow hw 46 rfl)) (mvT hZ (ow hw 45 rfl)) (by decide) (backOf (W := 0) (rmA2 lL Z a0 hw [] a cs fm x0 x1 x2 x3 h0 n0 so O S_fm hfm S_cs hcs S_ad S_hi S_lo cx0 cx1 cx2 cx3) hZ (ow hw 47 rfl) (ow hw 8 rfl) (by decide) (by decide)) q398a q398c (g := (mkF mM 11 Lv397 [.int 2, .ref a])) rfl (by rw [hml]; rfl) (Steps.refl _) (argsL := [.int 2]) (rest := []) (lenOf pd__28I_29C rfl) rfl (by show 2 * 0 + _ ≤ _; exact Nat.le_of_eq rfl) (hb hby d9_11) (fun _ _ => ⟨rfl, e394, (by decide : 0 + 0 ≤ _), (by decide : 0 + 0 ≤ _)⟩)
      dsimp only [Pt.U, Pt.locs, Pt.cells, Pt.slots] at X398 l398 y398 z398 st398 hQ398
      subst l398 y398 z398
      obtain ⟨rfl, N398q, e398⟩ := hQ398
      have N398 := Fr.app N394 N398q
      refine own_k T398 14 [.int x2] (fun t_ k_ => st398.trans k_) ?_
      refine o_bipush 16 10 X398 hx (hb hby d9_14) rfl rfl ?_
      by_cases hc16_399 : x2 = (10 : Int32)
      · skip
        refine o_icmpNo 19 X398 hx (hb hby d9_16) (teq hc16_399).2 rfl ?_
        let Lv400 : Array Slot := #[.val (.ref a), .val (.int 4), .val (.int 3), .val (.int 2)]
        refine own_st (A := T398.setTop (mkF mM 22 Lv400 [])) (fun t_ k_ => XS.iinc X398.here hx rfl (hb hby d9_19) rfl (l' := Lv400) rfl k_) ?_
        let Lv401 : Array Slot := #[.val (.ref a), .val (.int 4), .val (.int 3), .val (.int 3)]
        refine own_st (A := T398.setTop (mkF mM 25 Lv401 [])) (fun t_ k_ => XS.iinc X398.here hx rfl (hb hby d9_22) rfl (l' := Lv401) rfl k_) ?_
        refine o_goto 4 X398 hx (hb hby d9_25) (by decide) ?_
        refine o_iloadN 5 X398 hx (hb hby d9_4) rfl rfl ?_
        refine o_iloadN 6 X398 hx (hb hby d9_5) rfl rfl ?_
        refine o_icmpNo 9 X398 hx (hb hby d9_6) (tlt (by decide : ((3 : Int32) < (4 : Int32)))).2.1 rfl ?_
        refine o_aloadN 10 X398 hx (hb hby d9_9) rfl rfl rfl ?_
        refine o_iloadN 11 X398 hx (hb hby d9_10) rfl rfl ?_
        obtain ⟨cq402, kq402, q402a, q402b, q402c⟩ := isOf hZ e398 (own_StrC_exa so)
        obtain ⟨_, _, ⟨T402, L402, k402, n402⟩, -, X402, ⟨Lc402, hQ402, l402, y402, z402⟩, st402⟩ := X398.virtualBack hx (y := yn17) (z := yn17) hown (mvT hZ (ow hw 43 rfl)) (mvT hZ (ow hw 44 rfl)) (notFace_of_selects (args := #[]) (mvT hZ (ow hw 46 rfl))) (mvT hZ (ow hw 46 rfl)) (mvT hZ (ow hw 45 rfl)) (by decide) (backOf (W := 0) (rmA3 lL Z a0 hw [] a cs fm x0 x1 x2 x3 h0 n0 so O S_fm hfm S_cs hcs S_ad S_hi S_lo cx0 cx1 cx2 cx3) hZ (ow hw 47 rfl) (ow hw 8 rfl) (by decide) (by decide)) q402a q402c (g := (mkF mM 11 Lv401 [.int 3, .ref a])) rfl (by rw [hml]; rfl) (Steps.refl _) (argsL := [.int 3]) (rest := []) (lenOf pd__28I_29C rfl) rfl (by show 2 * 0 + _ ≤ _; exact Nat.le_of_eq rfl) (hb hby d9_11) (fun _ _ => ⟨rfl, e398, (by decide : 0 + 0 ≤ _), (by decide : 0 + 0 ≤ _)⟩)
        dsimp only [Pt.U, Pt.locs, Pt.cells, Pt.slots] at X402 l402 y402 z402 st402 hQ402
        subst l402 y402 z402
        obtain ⟨rfl, N402q, e402⟩ := hQ402
        have N402 := Fr.app N398 N402q
        refine own_k T402 14 [.int x3] (fun t_ k_ => st402.trans k_) ?_
        refine o_bipush 16 10 X402 hx (hb hby d9_14) rfl rfl ?_
        by_cases hc16_403 : x3 = (10 : Int32)
        · skip
          refine o_icmpNo 19 X402 hx (hb hby d9_16) (teq hc16_403).2 rfl ?_
          let Lv404 : Array Slot := #[.val (.ref a), .val (.int 4), .val (.int 4), .val (.int 3)]
          refine own_st (A := T402.setTop (mkF mM 22 Lv404 [])) (fun t_ k_ => XS.iinc X402.here hx rfl (hb hby d9_19) rfl (l' := Lv404) rfl k_) ?_
          let Lv405 : Array Slot := #[.val (.ref a), .val (.int 4), .val (.int 4), .val (.int 4)]
          refine own_st (A := T402.setTop (mkF mM 25 Lv405 [])) (fun t_ k_ => XS.iinc X402.here hx rfl (hb hby d9_22) rfl (l' := Lv405) rfl k_) ?_
          refine o_goto 4 X402 hx (hb hby d9_25) (by decide) ?_
          refine o_iloadN 5 X402 hx (hb hby d9_4) rfl rfl ?_
          refine o_iloadN 6 X402 hx (hb hby d9_5) rfl rfl ?_
          refine o_icmpYes 28 X402 hx (hb hby d9_6) (flt (by decide : ¬ ((4 : Int32) < (4 : Int32)))).2.1 (by decide) ?_
          refine o_iloadN 29 X402 hx (hb hby d9_28) rfl rfl ?_
          exact own_retI X402 hx hlk hret (hb hby d9_29) (by rw [hr, own_nlv0 hc16_355, own_nlv1 hc16_395, own_nlv1 hc16_399, own_nlv1 hc16_403]; exact ⟨rfl, N402, e402⟩) (by decide) (by decide)
        · skip
          refine o_icmpYes 22 X402 hx (hb hby d9_16) (feq hc16_403).2 (by decide) ?_
          let Lv406 : Array Slot := #[.val (.ref a), .val (.int 4), .val (.int 3), .val (.int 4)]
          refine own_st (A := T402.setTop (mkF mM 25 Lv406 [])) (fun t_ k_ => XS.iinc X402.here hx rfl (hb hby d9_22) rfl (l' := Lv406) rfl k_) ?_
          refine o_goto 4 X402 hx (hb hby d9_25) (by decide) ?_
          refine o_iloadN 5 X402 hx (hb hby d9_4) rfl rfl ?_
          refine o_iloadN 6 X402 hx (hb hby d9_5) rfl rfl ?_
          refine o_icmpYes 28 X402 hx (hb hby d9_6) (flt (by decide : ¬ ((4 : Int32) < (4 : Int32)))).2.1 (by decide) ?_
          refine o_iloadN 29 X402 hx (hb hby d9_28) rfl rfl ?_
          exact own_retI X402 hx hlk hret (hb hby d9_29) (by rw [hr, own_nlv0 hc16_355, own_nlv1 hc16_395, own_nlv1 hc16_399, own_nlv0 hc16_403]; exact ⟨rfl, N402, e402⟩) (by decide) (by decide)
      · skip
        refine o_icmpYes 22 X398 hx (hb hby d9_16) (feq hc16_399).2 (by decide) ?_
        let Lv407 : Array Slot := #[.val (.ref a), .val (.int 4), .val (.int 2), .val (.int 3)]
        refine own_st (A := T398.setTop (mkF mM 25 Lv407 [])) (fun t_ k_ => XS.iinc X398.here hx rfl (hb hby d9_22) rfl (l' := Lv407) rfl k_) ?_
        refine o_goto 4 X398 hx (hb hby d9_25) (by decide) ?_
        refine o_iloadN 5 X398 hx (hb hby d9_4) rfl rfl ?_
        refine o_iloadN 6 X398 hx (hb hby d9_5) rfl rfl ?_
        refine o_icmpNo 9 X398 hx (hb hby d9_6) (tlt (by decide : ((3 : Int32) < (4 : Int32)))).2.1 rfl ?_
        refine o_aloadN 10 X398 hx (hb hby d9_9) rfl rfl rfl ?_
        refine o_iloadN 11 X398 hx (hb hby d9_10) rfl rfl ?_
        obtain ⟨cq408, kq408, q408a, q408b, q408c⟩ := isOf hZ e398 (own_StrC_exa so)
        obtain ⟨_, _, ⟨T408, L408, k408, n408⟩, -, X408, ⟨Lc408, hQ408, l408, y408, z408⟩, st408⟩ := X398.virtualBack hx (y := yn17) (z := yn17) hown (mvT hZ (ow hw 43 rfl)) (mvT hZ (ow hw 44 rfl)) (notFace_of_selects (args := #[]) (mvT hZ (ow hw 46 rfl))) (mvT hZ (ow hw 46 rfl)) (mvT hZ (ow hw 45 rfl)) (by decide) (backOf (W := 0) (rmA3 lL Z a0 hw [] a cs fm x0 x1 x2 x3 h0 n0 so O S_fm hfm S_cs hcs S_ad S_hi S_lo cx0 cx1 cx2 cx3) hZ (ow hw 47 rfl) (ow hw 8 rfl) (by decide) (by decide)) q408a q408c (g := (mkF mM 11 Lv407 [.int 3, .ref a])) rfl (by rw [hml]; rfl) (Steps.refl _) (argsL := [.int 3]) (rest := []) (lenOf pd__28I_29C rfl) rfl (by show 2 * 0 + _ ≤ _; exact Nat.le_of_eq rfl) (hb hby d9_11) (fun _ _ => ⟨rfl, e398, (by decide : 0 + 0 ≤ _), (by decide : 0 + 0 ≤ _)⟩)
        dsimp only [Pt.U, Pt.locs, Pt.cells, Pt.slots] at X408 l408 y408 z408 st408 hQ408
        subst l408 y408 z408
        obtain ⟨rfl, N408q, e408⟩ := hQ408
        have N408 := Fr.app N398 N408q
        refine own_k T408 14 [.int x3] (fun t_ k_ => st408.trans k_) ?_
        refine o_bipush 16 10 X408 hx (hb hby d9_14) rfl rfl ?_
        by_cases hc16_409 : x3 = (10 : Int32)
        · skip
          refine o_icmpNo 19 X408 hx (hb hby d9_16) (teq hc16_409).2 rfl ?_
          let Lv410 : Array Slot := #[.val (.ref a), .val (.int 4), .val (.int 3), .val (.int 3)]
          refine own_st (A := T408.setTop (mkF mM 22 Lv410 [])) (fun t_ k_ => XS.iinc X408.here hx rfl (hb hby d9_19) rfl (l' := Lv410) rfl k_) ?_
          let Lv411 : Array Slot := #[.val (.ref a), .val (.int 4), .val (.int 3), .val (.int 4)]
          refine own_st (A := T408.setTop (mkF mM 25 Lv411 [])) (fun t_ k_ => XS.iinc X408.here hx rfl (hb hby d9_22) rfl (l' := Lv411) rfl k_) ?_
          refine o_goto 4 X408 hx (hb hby d9_25) (by decide) ?_
          refine o_iloadN 5 X408 hx (hb hby d9_4) rfl rfl ?_
          refine o_iloadN 6 X408 hx (hb hby d9_5) rfl rfl ?_
          refine o_icmpYes 28 X408 hx (hb hby d9_6) (flt (by decide : ¬ ((4 : Int32) < (4 : Int32)))).2.1 (by decide) ?_
          refine o_iloadN 29 X408 hx (hb hby d9_28) rfl rfl ?_
          exact own_retI X408 hx hlk hret (hb hby d9_29) (by rw [hr, own_nlv0 hc16_355, own_nlv1 hc16_395, own_nlv0 hc16_399, own_nlv1 hc16_409]; exact ⟨rfl, N408, e408⟩) (by decide) (by decide)
        · skip
          refine o_icmpYes 22 X408 hx (hb hby d9_16) (feq hc16_409).2 (by decide) ?_
          let Lv412 : Array Slot := #[.val (.ref a), .val (.int 4), .val (.int 2), .val (.int 4)]
          refine own_st (A := T408.setTop (mkF mM 25 Lv412 [])) (fun t_ k_ => XS.iinc X408.here hx rfl (hb hby d9_22) rfl (l' := Lv412) rfl k_) ?_
          refine o_goto 4 X408 hx (hb hby d9_25) (by decide) ?_
          refine o_iloadN 5 X408 hx (hb hby d9_4) rfl rfl ?_
          refine o_iloadN 6 X408 hx (hb hby d9_5) rfl rfl ?_
          refine o_icmpYes 28 X408 hx (hb hby d9_6) (flt (by decide : ¬ ((4 : Int32) < (4 : Int32)))).2.1 (by decide) ?_
          refine o_iloadN 29 X408 hx (hb hby d9_28) rfl rfl ?_
          exact own_retI X408 hx hlk hret (hb hby d9_29) (by rw [hr, own_nlv0 hc16_355, own_nlv1 hc16_395, own_nlv0 hc16_399, own_nlv0 hc16_409]; exact ⟨rfl, N408, e408⟩) (by decide) (by decide)
    · skip
      refine o_icmpYes 22 X394 hx (hb hby d9_16) (feq hc16_395).2 (by decide) ?_
      let Lv413 : Array Slot := #[.val (.ref a), .val (.int 4), .val (.int 1), .val (.int 2)]
      refine own_st (A := T394.setTop (mkF mM 25 Lv413 [])) (fun t_ k_ => XS.iinc X394.here hx rfl (hb hby d9_22) rfl (l' := Lv413) rfl k_) ?_
      refine o_goto 4 X394 hx (hb hby d9_25) (by decide) ?_
      refine o_iloadN 5 X394 hx (hb hby d9_4) rfl rfl ?_
      refine o_iloadN 6 X394 hx (hb hby d9_5) rfl rfl ?_
      refine o_icmpNo 9 X394 hx (hb hby d9_6) (tlt (by decide : ((2 : Int32) < (4 : Int32)))).2.1 rfl ?_
      refine o_aloadN 10 X394 hx (hb hby d9_9) rfl rfl rfl ?_
      refine o_iloadN 11 X394 hx (hb hby d9_10) rfl rfl ?_
      obtain ⟨cq414, kq414, q414a, q414b, q414c⟩ := isOf hZ e394 (own_StrC_exa so)
      obtain ⟨_, _, ⟨T414, L414, k414, n414⟩, -, X414, ⟨Lc414, hQ414, l414, y414, z414⟩, st414⟩ := X394.virtualBack hx (y := yn17) (z := yn17) hown (mvT hZ (ow hw 43 rfl)) (mvT hZ (ow hw 44 rfl)) (notFace_of_selects (args := #[]) (mvT hZ (ow hw 46 rfl))) (mvT hZ (ow hw 46 rfl)) (mvT hZ (ow hw 45 rfl)) (by decide) (backOf (W := 0) (rmA2 lL Z a0 hw [] a cs fm x0 x1 x2 x3 h0 n0 so O S_fm hfm S_cs hcs S_ad S_hi S_lo cx0 cx1 cx2 cx3) hZ (ow hw 47 rfl) (ow hw 8 rfl) (by decide) (by decide)) q414a q414c (g := (mkF mM 11 Lv413 [.int 2, .ref a])) rfl (by rw [hml]; rfl) (Steps.refl _) (argsL := [.int 2]) (rest := []) (lenOf pd__28I_29C rfl) rfl (by show 2 * 0 + _ ≤ _; exact Nat.le_of_eq rfl) (hb hby d9_11) (fun _ _ => ⟨rfl, e394, (by decide : 0 + 0 ≤ _), (by decide : 0 + 0 ≤ _)⟩)
      dsimp only [Pt.U, Pt.locs, Pt.cells, Pt.slots] at X414 l414 y414 z414 st414 hQ414
      subst l414 y414 z414
      obtain ⟨rfl, N414q, e414⟩ := hQ414
      have N414 := Fr.app N394 N414q
      refine own_k T414 14 [.int x2] (fun t_ k_ => st414.trans k_) ?_
      refine o_bipush 16 10 X414 hx (hb hby d9_14) rfl rfl ?_
      by_cases hc16_415 : x2 = (10 : Int32)
      · skip
        refine o_icmpNo 19 X414 hx (hb hby d9_16) (teq hc16_415).2 rfl ?_
        let Lv416 : Array Slot := #[.val (.ref a), .val (.int 4), .val (.int 2), .val (.int 2)]
        refine own_st (A := T414.setTop (mkF mM 22 Lv416 [])) (fun t_ k_ => XS.iinc X414.here hx rfl (hb hby d9_19) rfl (l' := Lv416) rfl k_) ?_
        let Lv417 : Array Slot := #[.val (.ref a), .val (.int 4), .val (.int 2), .val (.int 3)]
        refine own_st (A := T414.setTop (mkF mM 25 Lv417 [])) (fun t_ k_ => XS.iinc X414.here hx rfl (hb hby d9_22) rfl (l' := Lv417) rfl k_) ?_
        refine o_goto 4 X414 hx (hb hby d9_25) (by decide) ?_
        refine o_iloadN 5 X414 hx (hb hby d9_4) rfl rfl ?_
        refine o_iloadN 6 X414 hx (hb hby d9_5) rfl rfl ?_
        refine o_icmpNo 9 X414 hx (hb hby d9_6) (tlt (by decide : ((3 : Int32) < (4 : Int32)))).2.1 rfl ?_
        refine o_aloadN 10 X414 hx (hb hby d9_9) rfl rfl rfl ?_
        refine o_iloadN 11 X414 hx (hb hby d9_10) rfl rfl ?_
        obtain ⟨cq418, kq418, q418a, q418b, q418c⟩ := isOf hZ e414 (own_StrC_exa so)
        obtain ⟨_, _, ⟨T418, L418, k418, n418⟩, -, X418, ⟨Lc418, hQ418, l418, y418, z418⟩, st418⟩ := X414.virtualBack hx (y := yn17) (z := yn17) hown (mvT hZ (ow hw 43 rfl)) (mvT hZ (ow hw 44 rfl)) (notFace_of_selects (args := #[]) (mvT hZ (ow hw 46 rfl))) (mvT hZ (ow hw 46 rfl)) (mvT hZ (ow hw 45 rfl)) (by decide) (backOf (W := 0) (rmA3 lL Z a0 hw [] a cs fm x0 x1 x2 x3 h0 n0 so O S_fm hfm S_cs hcs S_ad S_hi S_lo cx0 cx1 cx2 cx3) hZ (ow hw 47 rfl) (ow hw 8 rfl) (by decide) (by decide)) q418a q418c (g := (mkF mM 11 Lv417 [.int 3, .ref a])) rfl (by rw [hml]; rfl) (Steps.refl _) (argsL := [.int 3]) (rest := []) (lenOf pd__28I_29C rfl) rfl (by show 2 * 0 + _ ≤ _; exact Nat.le_of_eq rfl) (hb hby d9_11) (fun _ _ => ⟨rfl, e414, (by decide : 0 + 0 ≤ _), (by decide : 0 + 0 ≤ _)⟩)
        dsimp only [Pt.U, Pt.locs, Pt.cells, Pt.slots] at X418 l418 y418 z418 st418 hQ418
        subst l418 y418 z418
        obtain ⟨rfl, N418q, e418⟩ := hQ418
        have N418 := Fr.app N414 N418q
        refine own_k T418 14 [.int x3] (fun t_ k_ => st418.trans k_) ?_
        refine o_bipush 16 10 X418 hx (hb hby d9_14) rfl rfl ?_
        by_cases hc16_419 : x3 = (10 : Int32)
        · skip
          refine o_icmpNo 19 X418 hx (hb hby d9_16) (teq hc16_419).2 rfl ?_
          let Lv420 : Array Slot := #[.val (.ref a), .val (.int 4), .val (.int 3), .val (.int 3)]
          refine own_st (A := T418.setTop (mkF mM 22 Lv420 [])) (fun t_ k_ => XS.iinc X418.here hx rfl (hb hby d9_19) rfl (l' := Lv420) rfl k_) ?_
          let Lv421 : Array Slot := #[.val (.ref a), .val (.int 4), .val (.int 3), .val (.int 4)]
          refine own_st (A := T418.setTop (mkF mM 25 Lv421 [])) (fun t_ k_ => XS.iinc X418.here hx rfl (hb hby d9_22) rfl (l' := Lv421) rfl k_) ?_
          refine o_goto 4 X418 hx (hb hby d9_25) (by decide) ?_
          refine o_iloadN 5 X418 hx (hb hby d9_4) rfl rfl ?_
          refine o_iloadN 6 X418 hx (hb hby d9_5) rfl rfl ?_
          refine o_icmpYes 28 X418 hx (hb hby d9_6) (flt (by decide : ¬ ((4 : Int32) < (4 : Int32)))).2.1 (by decide) ?_
          refine o_iloadN 29 X418 hx (hb hby d9_28) rfl rfl ?_
          exact own_retI X418 hx hlk hret (hb hby d9_29) (by rw [hr, own_nlv0 hc16_355, own_nlv0 hc16_395, own_nlv1 hc16_415, own_nlv1 hc16_419]; exact ⟨rfl, N418, e418⟩) (by decide) (by decide)
        · skip
          refine o_icmpYes 22 X418 hx (hb hby d9_16) (feq hc16_419).2 (by decide) ?_
          let Lv422 : Array Slot := #[.val (.ref a), .val (.int 4), .val (.int 2), .val (.int 4)]
          refine own_st (A := T418.setTop (mkF mM 25 Lv422 [])) (fun t_ k_ => XS.iinc X418.here hx rfl (hb hby d9_22) rfl (l' := Lv422) rfl k_) ?_
          refine o_goto 4 X418 hx (hb hby d9_25) (by decide) ?_
          refine o_iloadN 5 X418 hx (hb hby d9_4) rfl rfl ?_
          refine o_iloadN 6 X418 hx (hb hby d9_5) rfl rfl ?_
          refine o_icmpYes 28 X418 hx (hb hby d9_6) (flt (by decide : ¬ ((4 : Int32) < (4 : Int32)))).2.1 (by decide) ?_
          refine o_iloadN 29 X418 hx (hb hby d9_28) rfl rfl ?_
          exact own_retI X418 hx hlk hret (hb hby d9_29) (by rw [hr, own_nlv0 hc16_355, own_nlv0 hc16_395, own_nlv1 hc16_415, own_nlv0 hc16_419]; exact ⟨rfl, N418, e418⟩) (by decide) (by decide)
      · skip
        refine o_icmpYes 22 X414 hx (hb hby d9_16) (feq hc16_415).2 (by decide) ?_
        let Lv423 : Array Slot := #[.val (.ref a), .val (.int 4), .val (.int 1), .val (.int 3)]
        refine own_st (A := T414.setTop (mkF mM 25 Lv423 [])) (fun t_ k_ => XS.iinc X414.here hx rfl (hb hby d9_22) rfl (l' := Lv423) rfl k_) ?_
        refine o_goto 4 X414 hx (hb hby d9_25) (by decide) ?_
        refine o_iloadN 5 X414 hx (hb hby d9_4) rfl rfl ?_
        refine o_iloadN 6 X414 hx (hb hby d9_5) rfl rfl ?_
        refine o_icmpNo 9 X414 hx (hb hby d9_6) (tlt (by decide : ((3 : Int32) < (4 : Int32)))).2.1 rfl ?_
        refine o_aloadN 10 X414 hx (hb hby d9_9) rfl rfl rfl ?_
        refine o_iloadN 11 X414 hx (hb hby d9_10) rfl rfl ?_
        obtain ⟨cq424, kq424, q424a, q424b, q424c⟩ := isOf hZ e414 (own_StrC_exa so)
        obtain ⟨_, _, ⟨T424, L424, k424, n424⟩, -, X424, ⟨Lc424, hQ424, l424, y424, z424⟩, st424⟩ := X414.virtualBack hx (y := yn17) (z := yn17) hown (mvT hZ (ow hw 43 rfl)) (mvT hZ (ow hw 44 rfl)) (notFace_of_selects (args := #[]) (mvT hZ (ow hw 46 rfl))) (mvT hZ (ow hw 46 rfl)) (mvT hZ (ow hw 45 rfl)) (by decide) (backOf (W := 0) (rmA3 lL Z a0 hw [] a cs fm x0 x1 x2 x3 h0 n0 so O S_fm hfm S_cs hcs S_ad S_hi S_lo cx0 cx1 cx2 cx3) hZ (ow hw 47 rfl) (ow hw 8 rfl) (by decide) (by decide)) q424a q424c (g := (mkF mM 11 Lv423 [.int 3, .ref a])) rfl (by rw [hml]; rfl) (Steps.refl _) (argsL := [.int 3]) (rest := []) (lenOf pd__28I_29C rfl) rfl (by show 2 * 0 + _ ≤ _; exact Nat.le_of_eq rfl) (hb hby d9_11) (fun _ _ => ⟨rfl, e414, (by decide : 0 + 0 ≤ _), (by decide : 0 + 0 ≤ _)⟩)
        dsimp only [Pt.U, Pt.locs, Pt.cells, Pt.slots] at X424 l424 y424 z424 st424 hQ424
        subst l424 y424 z424
        obtain ⟨rfl, N424q, e424⟩ := hQ424
        have N424 := Fr.app N414 N424q
        refine own_k T424 14 [.int x3] (fun t_ k_ => st424.trans k_) ?_
        refine o_bipush 16 10 X424 hx (hb hby d9_14) rfl rfl ?_
        by_cases hc16_425 : x3 = (10 : Int32)
        · skip
          refine o_icmpNo 19 X424 hx (hb hby d9_16) (teq hc16_425).2 rfl ?_
          let Lv426 : Array Slot := #[.val (.ref a), .val (.int 4), .val (.int 2), .val (.int 3)]
          refine own_st (A := T424.setTop (mkF mM 22 Lv426 [])) (fun t_ k_ => XS.iinc X424.here hx rfl (hb hby d9_19) rfl (l' := Lv426) rfl k_) ?_
          let Lv427 : Array Slot := #[.val (.ref a), .val (.int 4), .val (.int 2), .val (.int 4)]
          refine own_st (A := T424.setTop (mkF mM 25 Lv427 [])) (fun t_ k_ => XS.iinc X424.here hx rfl (hb hby d9_22) rfl (l' := Lv427) rfl k_) ?_
          refine o_goto 4 X424 hx (hb hby d9_25) (by decide) ?_
          refine o_iloadN 5 X424 hx (hb hby d9_4) rfl rfl ?_
          refine o_iloadN 6 X424 hx (hb hby d9_5) rfl rfl ?_
          refine o_icmpYes 28 X424 hx (hb hby d9_6) (flt (by decide : ¬ ((4 : Int32) < (4 : Int32)))).2.1 (by decide) ?_
          refine o_iloadN 29 X424 hx (hb hby d9_28) rfl rfl ?_
          exact own_retI X424 hx hlk hret (hb hby d9_29) (by rw [hr, own_nlv0 hc16_355, own_nlv0 hc16_395, own_nlv0 hc16_415, own_nlv1 hc16_425]; exact ⟨rfl, N424, e424⟩) (by decide) (by decide)
        · skip
          refine o_icmpYes 22 X424 hx (hb hby d9_16) (feq hc16_425).2 (by decide) ?_
          let Lv428 : Array Slot := #[.val (.ref a), .val (.int 4), .val (.int 1), .val (.int 4)]
          refine own_st (A := T424.setTop (mkF mM 25 Lv428 [])) (fun t_ k_ => XS.iinc X424.here hx rfl (hb hby d9_22) rfl (l' := Lv428) rfl k_) ?_
          refine o_goto 4 X424 hx (hb hby d9_25) (by decide) ?_
          refine o_iloadN 5 X424 hx (hb hby d9_4) rfl rfl ?_
          refine o_iloadN 6 X424 hx (hb hby d9_5) rfl rfl ?_
          refine o_icmpYes 28 X424 hx (hb hby d9_6) (flt (by decide : ¬ ((4 : Int32) < (4 : Int32)))).2.1 (by decide) ?_
          refine o_iloadN 29 X424 hx (hb hby d9_28) rfl rfl ?_
          exact own_retI X424 hx hlk hret (hb hby d9_29) (by rw [hr, own_nlv0 hc16_355, own_nlv0 hc16_395, own_nlv0 hc16_415, own_nlv0 hc16_425]; exact ⟨rfl, N424, e424⟩) (by decide) (by decide)
theorem d8_0 : decode method_3_code 0 = .ok (.iload_n 1, 1) := by decide +kernel
theorem d8_1 : decode method_3_code 1 = .ok (.iload_n 2, 1) := by decide +kernel
theorem d8_2 : decode method_3_code 2 = .ok (.if_icmp .ge 13, 3) := by decide +kernel
theorem d8_5 : decode method_3_code 5 = .ok (.iload_n 0, 1) := by decide +kernel
theorem d8_6 : decode method_3_code 6 = .ok (.bipush 10, 2) := by decide +kernel
theorem d8_8 : decode method_3_code 8 = .ok (.if_icmp .ne 7, 3) := by decide +kernel
theorem d8_11 : decode method_3_code 11 = .ok (.iconst 1, 1) := by decide +kernel
theorem d8_12 : decode method_3_code 12 = .ok (.goto 4, 3) := by decide +kernel
theorem d8_16 : decode method_3_code 16 = .ok (.ireturn, 1) := by decide +kernel
theorem d8_15 : decode method_3_code 15 = .ok (.iconst 0, 1) := by decide +kernel
theorem pn_com_2fexample_2fvyasa_2fvyasa_2fSqlLexerLineNumberPinLaw : plainName "com/example/vyasa/vyasa/SqlLexerLineNumberPinLaw" = true := by first | (simp [plainName, overriddenIn]; done) | decide +kernel
theorem ef_rmn1 (mM : MethodId) (x : Int32) (i' : Int32) (t' : Int32) : entryFrame mM #[.int x, .int i', .int t'] 3 = mkF mM 0 #[.val (.int x), .val (.int i'), .val (.int t')] [] := by first | (simp [entryFrame, mkF, argsToLocals, Value.category]; done) | rfl
theorem rmn1 (lL : Launch) (Z : State) (a0 : Array Value) (hw : own_tb a0 Z) (ws : List Jvm.Cond) (x : Int32) (i' : Int32) (t' : Int32) (h0 : Heap) (n0 : Nat) (hl : i' < t') :
    own_Ct lL Z yn19 method_3_code 3 (some .int) ws (⟨0, 0, 0, 0⟩ : Room) #[.int x, .int i', .int t'] h0 (Qw (.int (nlv x)) h0 n0) := by
  refine own_body (plainFor_of_name pn_com_2fexample_2fvyasa_2fvyasa_2fSqlLexerLineNumberPinLaw) 0 0 rfl rfl (fun mM => ef_rmn1 mM x i' t') fun pP eE sS mM below meth cC s₁ hZ hx hby hml hown hnm hret hlk X0 e0 => ?_
  have N0 := Fr.nil n0
  refine o_iloadN 1 X0 hx (hb hby d8_0) rfl rfl ?_
  refine o_iloadN 2 X0 hx (hb hby d8_1) rfl rfl ?_
  refine o_icmpNo 5 X0 hx (hb hby d8_2) (tlt hl).2.1 rfl ?_
  refine o_iloadN 6 X0 hx (hb hby d8_5) rfl rfl ?_
  refine o_bipush 8 10 X0 hx (hb hby d8_6) rfl rfl ?_
  by_cases hc8_429 : x = (10 : Int32)
  · skip
    refine o_icmpNo 11 X0 hx (hb hby d8_8) (teq hc8_429).2 rfl ?_
    refine o_iconst 12 1 X0 hx (hb hby d8_11) rfl rfl ?_
    refine o_goto 16 X0 hx (hb hby d8_12) (by decide) ?_
    exact own_retI X0 hx hlk hret (hb hby d8_16) (by rw [own_nlv1 hc8_429]; exact ⟨rfl, N0, e0⟩) (by decide) (by decide)
  · skip
    refine o_icmpYes 15 X0 hx (hb hby d8_8) (feq hc8_429).2 (by decide) ?_
    refine o_iconst 16 0 X0 hx (hb hby d8_15) rfl rfl ?_
    exact own_retI X0 hx hlk hret (hb hby d8_16) (by rw [own_nlv0 hc8_429]; exact ⟨rfl, N0, e0⟩) (by decide) (by decide)
theorem ef_rmn0 (mM : MethodId) (x : Int32) (i' : Int32) (t' : Int32) : entryFrame mM #[.int x, .int i', .int t'] 3 = mkF mM 0 #[.val (.int x), .val (.int i'), .val (.int t')] [] := by first | (simp [entryFrame, mkF, argsToLocals, Value.category]; done) | rfl
theorem rmn0 (lL : Launch) (Z : State) (a0 : Array Value) (hw : own_tb a0 Z) (ws : List Jvm.Cond) (x : Int32) (i' : Int32) (t' : Int32) (h0 : Heap) (n0 : Nat) (hl : ¬ i' < t') :
    own_Ct lL Z yn19 method_3_code 3 (some .int) ws (⟨0, 0, 0, 0⟩ : Room) #[.int x, .int i', .int t'] h0 (Qw (.int 0) h0 n0) := by
  refine own_body (plainFor_of_name pn_com_2fexample_2fvyasa_2fvyasa_2fSqlLexerLineNumberPinLaw) 0 0 rfl rfl (fun mM => ef_rmn0 mM x i' t') fun pP eE sS mM below meth cC s₁ hZ hx hby hml hown hnm hret hlk X0 e0 => ?_
  have N0 := Fr.nil n0
  refine o_iloadN 1 X0 hx (hb hby d8_0) rfl rfl ?_
  refine o_iloadN 2 X0 hx (hb hby d8_1) rfl rfl ?_
  refine o_icmpYes 15 X0 hx (hb hby d8_2) (flt hl).2.1 (by decide) ?_
  refine o_iconst 16 0 X0 hx (hb hby d8_15) rfl rfl ?_
  exact own_retI X0 hx hlk hret (hb hby d8_16) ⟨rfl, N0, e0⟩ (by decide) (by decide)
theorem d1_0 : decode method_2_code 0 = .ok (.iload_n 0, 1) := by decide +kernel
theorem d1_1 : decode method_2_code 1 = .ok (.iconst 1, 1) := by decide +kernel
theorem d1_2 : decode method_2_code 2 = .ok (.iand, 1) := by decide +kernel
theorem d1_3 : decode method_2_code 3 = .ok (.ifCond .ne 8, 3) := by decide +kernel
theorem d1_6 : decode method_2_code 6 = .ok (.bipush 10, 2) := by decide +kernel
theorem d1_8 : decode method_2_code 8 = .ok (.goto 10, 3) := by decide +kernel
theorem d1_18 : decode method_2_code 18 = .ok (.ireturn, 1) := by decide +kernel
theorem d1_11 : decode method_2_code 11 = .ok (.iload_n 0, 1) := by decide +kernel
theorem d1_12 : decode method_2_code 12 = .ok (.iconst 1, 1) := by decide +kernel
theorem d1_13 : decode method_2_code 13 = .ok (.iushr, 1) := by decide +kernel
theorem d1_14 : decode method_2_code 14 = .ok (.ldc 7, 2) := by decide +kernel
theorem d1_16 : decode method_2_code 16 = .ok (.iand, 1) := by decide +kernel
theorem d1_17 : decode method_2_code 17 = .ok (.i2c, 1) := by decide +kernel
theorem ef_rmDr (mM : MethodId) (y : Int32) : entryFrame mM #[.int y] 1 = mkF mM 0 #[.val (.int y)] [] := by first | (simp [entryFrame, mkF, argsToLocals, Value.category]; done) | rfl
theorem rmDr (lL : Launch) (Z : State) (a0 : Array Value) (hw : own_tb a0 Z) (ws : List Jvm.Cond) (y : Int32) (h0 : Heap) (n0 : Nat)  :
    own_Ct lL Z yn20 method_2_code 1 (some .char) ws (⟨0, 0, 0, 0⟩ : Room) #[.int y] h0 (QD h0 n0) := by
  refine own_body (plainFor_of_name pn_com_2fexample_2fvyasa_2fvyasa_2fSqlLexerLineNumberPinLaw) 0 0 rfl rfl (fun mM => ef_rmDr mM y) fun pP eE sS mM below meth cC s₁ hZ hx hby hml hown hnm hret hlk X0 e0 => ?_
  have N0 := Fr.nil n0
  refine o_iloadN 1 X0 hx (hb hby d1_0) rfl rfl ?_
  refine o_iconst 2 1 X0 hx (hb hby d1_1) rfl rfl ?_
  refine own_j 3 [(.int (y &&& (1 : Int32)))] (fun t_ k_ => XS.iand X0.here hx rfl (hb hby d1_2) rfl k_) ?_
  by_cases hc3_430 : (y &&& (1 : Int32)) = (0 : Int32)
  · skip
    refine o_ifNo 6 X0 hx (hb hby d1_3) ((if0 _ _).trans (teq hc3_430).2) rfl ?_
    refine o_bipush 8 10 X0 hx (hb hby d1_6) rfl rfl ?_
    refine o_goto 18 X0 hx (hb hby d1_8) (by decide) ?_
    exact own_retN X0 hx hlk (t := .char) hret (by simp) (hb hby d1_18) ⟨_, rfl, N0, e0, own_narnar _⟩ (by decide) (by decide)
  · skip
    refine o_ifYes 11 X0 hx (hb hby d1_3) ((if0 _ _).trans (feq hc3_430).2) (by decide) ?_
    refine o_iloadN 12 X0 hx (hb hby d1_11) rfl rfl ?_
    refine o_iconst 13 1 X0 hx (hb hby d1_12) rfl rfl ?_
    refine own_j 14 [(.int ((y.toUInt32 >>> ((1 : Int32) &&& 31).toUInt32).toInt32))] (fun t_ k_ => XS.iushr X0.here hx rfl (hb hby d1_13) rfl k_) ?_
    refine own_j 16 [.int 65535, (.int ((y.toUInt32 >>> ((1 : Int32) &&& 31).toUInt32).toInt32))] (fun t_ k_ => X0.ldcInt hx hown (mvT hZ (ow hw 4 rfl)) (g := (mkF mM 14 #[.val (.int y)] [(.int ((y.toUInt32 >>> ((1 : Int32) &&& 31).toUInt32).toInt32))])) rfl (hb hby d1_14) t_ k_) ?_
    refine own_j 17 [(.int (((y.toUInt32 >>> ((1 : Int32) &&& 31).toUInt32).toInt32) &&& (65535 : Int32)))] (fun t_ k_ => XS.iand X0.here hx rfl (hb hby d1_16) rfl k_) ?_
    refine own_j 18 [(.int (((((y.toUInt32 >>> ((1 : Int32) &&& 31).toUInt32).toInt32) &&& (65535 : Int32))).toUInt32.toUInt16.toUInt32.toInt32))] (fun t_ k_ => XS.i2c X0.here hx rfl (hb hby d1_17) rfl k_) ?_
    exact own_retN X0 hx hlk (t := .char) hret (by simp) (hb hby d1_18) ⟨_, rfl, N0, e0, own_narnar _⟩ (by decide) (by decide)
theorem pd__28CII_29I : parseMethodDescriptor "(CII)I" = some ⟨[.char, .int, .int], some .int⟩ := by decide +kernel
theorem pd__28Ljava_2flang_2fString_3bI_29I : parseMethodDescriptor "(Ljava/lang/String;I)I" = some ⟨[(.object "java/lang/String"), .int], some .int⟩ := by decide +kernel
theorem J71_0 (hw : own_tb a0 Z) (X0 : Stand pP lL eE room_1 sS mM args below meth cC T0 locs 4 32) (hx : pP.tables.exec = Jvm.exec) (hZ : Z.Warmed39 sS.vm) (hby : cC.code = code) (hml : cC.maxLocals = 13) (hown : sS.vm.findClass "com/example/vyasa/vyasa/SqlLexerLineNumberPinLaw" = some mM.cls) (hlk : meth.locks = false) (hret : meth.sig.returnType = ret) (e0 : T0.heap = h0) (N0 : Fr n0 locs) (u0 : Int32) (u1 : Int32) (u2 : Int32) (u3 : Int32) (u4 : Int32) (x0 : Int32) (x1 : Int32) (x2 : Int32) (x3 : Int32) (cs : Int32) (fm : Value) (cc : Addr) (ss : Addr) (so : StrC Z h0 ss x0 x1 x2 x3) (O : Old Z n0 h0) (S_fm : Sta Z Z.heap "jdk/internal/util/Preconditions" "SIOOBE_FORMATTER" "Ljava/util/function/BiFunction;" fm) (hfm : fm.isRef = true) (S_cs : Sta Z Z.heap "java/lang/String" "COMPACT_STRINGS" "Z" (.int cs)) (hcs : ¬ cs = (0 : Int32)) (S_ad : Sta Z Z.heap "java/lang/StringUTF16" "$assertionsDisabled" "Z" (.int 1)) (S_hi : Sta Z Z.heap "java/lang/StringUTF16" "HI_BYTE_SHIFT" "I" (.int 0)) (S_lo : Sta Z Z.heap "java/lang/StringUTF16" "LO_BYTE_SHIFT" "I" (.int 8)) (cx0 : nar .char x0 = x0) (cx1 : nar .char x1 = x1) (cx2 : nar .char x2 = x2) (cx3 : nar .char x3 = x3) :
    own_Go pP eE below sS (QLaw n0) 16 128 (T0.setTop (mkF mM 71 #[.val (.int u0), .val (.int u1), .val (.int u2), .val (.int u3), .val (.int u4), .val (.int x0), .val (.int x1), .val (.int x2), .val (.int x3), .val (.ref cc), .val (.ref ss), .unset, .unset] [.int 0])) := by
  let Lv431 : Array Slot := #[.val (.int u0), .val (.int u1), .val (.int u2), .val (.int u3), .val (.int u4), .val (.int x0), .val (.int x1), .val (.int x2), .val (.int x3), .val (.ref cc), .val (.ref ss), .val (.int 0), .unset]
  refine own_st (A := T0.setTop (mkF mM 73 Lv431 [])) (fun t_ k_ => XS.istore X0.here hx rfl (hb hby at_71) rfl (l' := Lv431) rfl k_) ?_
  refine o_iconst 74 1 X0 hx (hb hby at_73) rfl rfl ?_
  refine o_iload 76 X0 hx (hb hby at_74) rfl rfl ?_
  refine o_iconst 77 0 X0 hx (hb hby at_76) rfl rfl ?_
  refine o_iload 79 X0 hx (hb hby at_77) rfl rfl ?_
  obtain ⟨_, _, ⟨T432, L432, k432, n432⟩, -, X432, ⟨Lc432, hQ432, l432, y432, z432⟩, st432⟩ := Jvm.LawKit.callS X0 hx (y := yn19) hown (mvT hZ (ow hw 36 rfl)) (mvT hZ (ow hw 37 rfl)) (mvT hZ (ow hw 2 rfl)) (mvT hZ (ow hw 38 rfl)) (by decide) (backOf (W := 1) (rmn0 lL Z a0 hw [] x0 (0 : Int32) (0 : Int32) h0 n0 (by decide)) hZ (ow hw 38 rfl) (ow hw 2 rfl) (by decide) (by decide)) (g := (mkF mM 79 Lv431 [.int 0, .int 0, .int x0, .int 1])) rfl (by rw [hml]; rfl) (argsL := [.int x0, .int 0, .int 0]) (rest := [.int 1]) (lenOf pd__28CII_29I rfl) rfl (by show 2 * 0 + _ ≤ _; exact Nat.le_of_eq rfl) (hb hby at_79) (fun _ _ => ⟨rfl, e0, (by decide : 4 + 0 ≤ _), (by decide : 32 + 0 ≤ _)⟩)
  dsimp only [Pt.U, Pt.locs, Pt.cells, Pt.slots] at X432 l432 y432 z432 st432 hQ432
  subst l432 y432 z432
  obtain ⟨rfl, N432q, e432⟩ := hQ432
  have N432 := Fr.app N0 N432q
  refine own_k T432 82 [.int 0, .int 1] st432 ?_
  refine own_j 83 [.int 1] (fun t_ k_ => XS.iadd X432.here hx rfl (hb hby at_82) rfl k_) ?_
  refine o_iload 85 X432 hx (hb hby at_83) rfl rfl ?_
  refine o_iconst 86 1 X432 hx (hb hby at_85) rfl rfl ?_
  refine o_iload 88 X432 hx (hb hby at_86) rfl rfl ?_
  obtain ⟨_, _, ⟨T433, L433, k433, n433⟩, -, X433, ⟨Lc433, hQ433, l433, y433, z433⟩, st433⟩ := Jvm.LawKit.callS X432 hx (y := yn19) hown (mvT hZ (ow hw 36 rfl)) (mvT hZ (ow hw 37 rfl)) (mvT hZ (ow hw 2 rfl)) (mvT hZ (ow hw 38 rfl)) (by decide) (backOf (W := 1) (rmn0 lL Z a0 hw [] x1 (1 : Int32) (0 : Int32) h0 n0 (by decide)) hZ (ow hw 38 rfl) (ow hw 2 rfl) (by decide) (by decide)) (g := (mkF mM 88 Lv431 [.int 0, .int 1, .int x1, .int 1])) rfl (by rw [hml]; rfl) (argsL := [.int x1, .int 1, .int 0]) (rest := [.int 1]) (lenOf pd__28CII_29I rfl) rfl (by show 2 * 0 + _ ≤ _; exact Nat.le_of_eq rfl) (hb hby at_88) (fun _ _ => ⟨rfl, e432, (by decide : 4 + 0 ≤ _), (by decide : 32 + 0 ≤ _)⟩)
  dsimp only [Pt.U, Pt.locs, Pt.cells, Pt.slots] at X433 l433 y433 z433 st433 hQ433
  subst l433 y433 z433
  obtain ⟨rfl, N433q, e433⟩ := hQ433
  have N433 := Fr.app N432 N433q
  refine own_k T433 91 [.int 0, .int 1] st433 ?_
  refine own_j 92 [.int 1] (fun t_ k_ => XS.iadd X433.here hx rfl (hb hby at_91) rfl k_) ?_
  refine o_iload 94 X433 hx (hb hby at_92) rfl rfl ?_
  refine o_iconst 95 2 X433 hx (hb hby at_94) rfl rfl ?_
  refine o_iload 97 X433 hx (hb hby at_95) rfl rfl ?_
  obtain ⟨_, _, ⟨T434, L434, k434, n434⟩, -, X434, ⟨Lc434, hQ434, l434, y434, z434⟩, st434⟩ := Jvm.LawKit.callS X433 hx (y := yn19) hown (mvT hZ (ow hw 36 rfl)) (mvT hZ (ow hw 37 rfl)) (mvT hZ (ow hw 2 rfl)) (mvT hZ (ow hw 38 rfl)) (by decide) (backOf (W := 1) (rmn0 lL Z a0 hw [] x2 (2 : Int32) (0 : Int32) h0 n0 (by decide)) hZ (ow hw 38 rfl) (ow hw 2 rfl) (by decide) (by decide)) (g := (mkF mM 97 Lv431 [.int 0, .int 2, .int x2, .int 1])) rfl (by rw [hml]; rfl) (argsL := [.int x2, .int 2, .int 0]) (rest := [.int 1]) (lenOf pd__28CII_29I rfl) rfl (by show 2 * 0 + _ ≤ _; exact Nat.le_of_eq rfl) (hb hby at_97) (fun _ _ => ⟨rfl, e433, (by decide : 4 + 0 ≤ _), (by decide : 32 + 0 ≤ _)⟩)
  dsimp only [Pt.U, Pt.locs, Pt.cells, Pt.slots] at X434 l434 y434 z434 st434 hQ434
  subst l434 y434 z434
  obtain ⟨rfl, N434q, e434⟩ := hQ434
  have N434 := Fr.app N433 N434q
  refine own_k T434 100 [.int 0, .int 1] st434 ?_
  refine own_j 101 [.int 1] (fun t_ k_ => XS.iadd X434.here hx rfl (hb hby at_100) rfl k_) ?_
  refine o_iload 103 X434 hx (hb hby at_101) rfl rfl ?_
  refine o_iconst 104 3 X434 hx (hb hby at_103) rfl rfl ?_
  refine o_iload 106 X434 hx (hb hby at_104) rfl rfl ?_
  obtain ⟨_, _, ⟨T435, L435, k435, n435⟩, -, X435, ⟨Lc435, hQ435, l435, y435, z435⟩, st435⟩ := Jvm.LawKit.callS X434 hx (y := yn19) hown (mvT hZ (ow hw 36 rfl)) (mvT hZ (ow hw 37 rfl)) (mvT hZ (ow hw 2 rfl)) (mvT hZ (ow hw 38 rfl)) (by decide) (backOf (W := 1) (rmn0 lL Z a0 hw [] x3 (3 : Int32) (0 : Int32) h0 n0 (by decide)) hZ (ow hw 38 rfl) (ow hw 2 rfl) (by decide) (by decide)) (g := (mkF mM 106 Lv431 [.int 0, .int 3, .int x3, .int 1])) rfl (by rw [hml]; rfl) (argsL := [.int x3, .int 3, .int 0]) (rest := [.int 1]) (lenOf pd__28CII_29I rfl) rfl (by show 2 * 0 + _ ≤ _; exact Nat.le_of_eq rfl) (hb hby at_106) (fun _ _ => ⟨rfl, e434, (by decide : 4 + 0 ≤ _), (by decide : 32 + 0 ≤ _)⟩)
  dsimp only [Pt.U, Pt.locs, Pt.cells, Pt.slots] at X435 l435 y435 z435 st435 hQ435
  subst l435 y435 z435
  obtain ⟨rfl, N435q, e435⟩ := hQ435
  have N435 := Fr.app N434 N435q
  refine own_k T435 109 [.int 0, .int 1] st435 ?_
  refine own_j 110 [.int 1] (fun t_ k_ => XS.iadd X435.here hx rfl (hb hby at_109) rfl k_) ?_
  let Lv436 : Array Slot := #[.val (.int u0), .val (.int u1), .val (.int u2), .val (.int u3), .val (.int u4), .val (.int x0), .val (.int x1), .val (.int x2), .val (.int x3), .val (.ref cc), .val (.ref ss), .val (.int 0), .val (.int 1)]
  refine own_st (A := T435.setTop (mkF mM 112 Lv436 [])) (fun t_ k_ => XS.istore X435.here hx rfl (hb hby at_110) rfl (l' := Lv436) rfl k_) ?_
  refine o_aload 114 X435 hx (hb hby at_112) rfl rfl rfl ?_
  refine o_iload 116 X435 hx (hb hby at_114) rfl rfl ?_
  obtain ⟨_, _, ⟨T437, L437, k437, n437⟩, -, X437, ⟨Lc437, hQ437, l437, y437, z437⟩, st437⟩ := Jvm.LawKit.callS X435 hx (y := yn18) hown (mvT hZ (ow hw 39 rfl)) (mvT hZ (ow hw 40 rfl)) (mvT hZ (ow hw 41 rfl)) (mvT hZ (ow hw 42 rfl)) (by decide) (backOf (W := 0) (rmLN0 lL Z a0 hw [] ss cs fm x0 x1 x2 x3 (1 : Int32) h0 n0 so O S_fm hfm S_cs hcs S_ad S_hi S_lo cx0 cx1 cx2 cx3 (by simp only [Int32.add_zero])) hZ (ow hw 42 rfl) (ow hw 41 rfl) (by decide) (by decide)) (g := (mkF mM 116 Lv436 [.int 0, .ref ss])) rfl (by rw [hml]; rfl) (argsL := [.ref ss, .int 0]) (rest := []) (lenOf pd__28Ljava_2flang_2fString_3bI_29I rfl) rfl (by show 2 * 0 + _ ≤ _; exact Nat.le_of_eq rfl) (hb hby at_116) (fun _ _ => ⟨rfl, e435, (by decide : 4 + 0 ≤ _), (by decide : 32 + 0 ≤ _)⟩)
  dsimp only [Pt.U, Pt.locs, Pt.cells, Pt.slots] at X437 l437 y437 z437 st437 hQ437
  subst l437 y437 z437
  obtain ⟨rfl, N437q, e437⟩ := hQ437
  have N437 := Fr.app N435 N437q
  refine own_k T437 119 [.int 1] st437 ?_
  refine o_iload 121 X437 hx (hb hby at_119) rfl rfl ?_
  refine o_icmpNo 124 X437 hx (hb hby at_121) (teq rfl).2 rfl ?_
  refine o_iconst 125 1 X437 hx (hb hby at_124) rfl rfl ?_
  refine o_goto 129 X437 hx (hb hby at_125) (by decide) ?_
  exact own_retN X437 hx hlk (t := .boolean) hret (by simp) (hb hby at_129) ⟨rfl, N437⟩ (by decide) (by decide)
theorem J71_1 (hw : own_tb a0 Z) (X0 : Stand pP lL eE room_1 sS mM args below meth cC T0 locs 4 32) (hx : pP.tables.exec = Jvm.exec) (hZ : Z.Warmed39 sS.vm) (hby : cC.code = code) (hml : cC.maxLocals = 13) (hown : sS.vm.findClass "com/example/vyasa/vyasa/SqlLexerLineNumberPinLaw" = some mM.cls) (hlk : meth.locks = false) (hret : meth.sig.returnType = ret) (e0 : T0.heap = h0) (N0 : Fr n0 locs) (u0 : Int32) (u1 : Int32) (u2 : Int32) (u3 : Int32) (u4 : Int32) (x0 : Int32) (x1 : Int32) (x2 : Int32) (x3 : Int32) (cs : Int32) (fm : Value) (cc : Addr) (ss : Addr) (so : StrC Z h0 ss x0 x1 x2 x3) (O : Old Z n0 h0) (S_fm : Sta Z Z.heap "jdk/internal/util/Preconditions" "SIOOBE_FORMATTER" "Ljava/util/function/BiFunction;" fm) (hfm : fm.isRef = true) (S_cs : Sta Z Z.heap "java/lang/String" "COMPACT_STRINGS" "Z" (.int cs)) (hcs : ¬ cs = (0 : Int32)) (S_ad : Sta Z Z.heap "java/lang/StringUTF16" "$assertionsDisabled" "Z" (.int 1)) (S_hi : Sta Z Z.heap "java/lang/StringUTF16" "HI_BYTE_SHIFT" "I" (.int 0)) (S_lo : Sta Z Z.heap "java/lang/StringUTF16" "LO_BYTE_SHIFT" "I" (.int 8)) (cx0 : nar .char x0 = x0) (cx1 : nar .char x1 = x1) (cx2 : nar .char x2 = x2) (cx3 : nar .char x3 = x3) :
    own_Go pP eE below sS (QLaw n0) 16 128 (T0.setTop (mkF mM 71 #[.val (.int u0), .val (.int u1), .val (.int u2), .val (.int u3), .val (.int u4), .val (.int x0), .val (.int x1), .val (.int x2), .val (.int x3), .val (.ref cc), .val (.ref ss), .unset, .unset] [.int 1])) := by
  let Lv438 : Array Slot := #[.val (.int u0), .val (.int u1), .val (.int u2), .val (.int u3), .val (.int u4), .val (.int x0), .val (.int x1), .val (.int x2), .val (.int x3), .val (.ref cc), .val (.ref ss), .val (.int 1), .unset]
  refine own_st (A := T0.setTop (mkF mM 73 Lv438 [])) (fun t_ k_ => XS.istore X0.here hx rfl (hb hby at_71) rfl (l' := Lv438) rfl k_) ?_
  refine o_iconst 74 1 X0 hx (hb hby at_73) rfl rfl ?_
  refine o_iload 76 X0 hx (hb hby at_74) rfl rfl ?_
  refine o_iconst 77 0 X0 hx (hb hby at_76) rfl rfl ?_
  refine o_iload 79 X0 hx (hb hby at_77) rfl rfl ?_
  obtain ⟨_, _, ⟨T439, L439, k439, n439⟩, -, X439, ⟨Lc439, hQ439, l439, y439, z439⟩, st439⟩ := Jvm.LawKit.callS X0 hx (y := yn19) hown (mvT hZ (ow hw 36 rfl)) (mvT hZ (ow hw 37 rfl)) (mvT hZ (ow hw 2 rfl)) (mvT hZ (ow hw 38 rfl)) (by decide) (backOf (W := 1) (rmn1 lL Z a0 hw [] x0 (0 : Int32) (1 : Int32) h0 n0 (by decide)) hZ (ow hw 38 rfl) (ow hw 2 rfl) (by decide) (by decide)) (g := (mkF mM 79 Lv438 [.int 1, .int 0, .int x0, .int 1])) rfl (by rw [hml]; rfl) (argsL := [.int x0, .int 0, .int 1]) (rest := [.int 1]) (lenOf pd__28CII_29I rfl) rfl (by show 2 * 0 + _ ≤ _; exact Nat.le_of_eq rfl) (hb hby at_79) (fun _ _ => ⟨rfl, e0, (by decide : 4 + 0 ≤ _), (by decide : 32 + 0 ≤ _)⟩)
  dsimp only [Pt.U, Pt.locs, Pt.cells, Pt.slots] at X439 l439 y439 z439 st439 hQ439
  subst l439 y439 z439
  obtain ⟨rfl, N439q, e439⟩ := hQ439
  have N439 := Fr.app N0 N439q
  refine own_k T439 82 [(.int (nlv x0)), .int 1] st439 ?_
  refine own_j 83 [(.int ((1 : Int32) + (nlv x0)))] (fun t_ k_ => XS.iadd X439.here hx rfl (hb hby at_82) rfl k_) ?_
  refine o_iload 85 X439 hx (hb hby at_83) rfl rfl ?_
  refine o_iconst 86 1 X439 hx (hb hby at_85) rfl rfl ?_
  refine o_iload 88 X439 hx (hb hby at_86) rfl rfl ?_
  obtain ⟨_, _, ⟨T440, L440, k440, n440⟩, -, X440, ⟨Lc440, hQ440, l440, y440, z440⟩, st440⟩ := Jvm.LawKit.callS X439 hx (y := yn19) hown (mvT hZ (ow hw 36 rfl)) (mvT hZ (ow hw 37 rfl)) (mvT hZ (ow hw 2 rfl)) (mvT hZ (ow hw 38 rfl)) (by decide) (backOf (W := 1) (rmn0 lL Z a0 hw [] x1 (1 : Int32) (1 : Int32) h0 n0 (by decide)) hZ (ow hw 38 rfl) (ow hw 2 rfl) (by decide) (by decide)) (g := (mkF mM 88 Lv438 [.int 1, .int 1, .int x1, (.int ((1 : Int32) + (nlv x0)))])) rfl (by rw [hml]; rfl) (argsL := [.int x1, .int 1, .int 1]) (rest := [(.int ((1 : Int32) + (nlv x0)))]) (lenOf pd__28CII_29I rfl) rfl (by show 2 * 0 + _ ≤ _; exact Nat.le_of_eq rfl) (hb hby at_88) (fun _ _ => ⟨rfl, e439, (by decide : 4 + 0 ≤ _), (by decide : 32 + 0 ≤ _)⟩)
  dsimp only [Pt.U, Pt.locs, Pt.cells, Pt.slots] at X440 l440 y440 z440 st440 hQ440
  subst l440 y440 z440
  obtain ⟨rfl, N440q, e440⟩ := hQ440
  have N440 := Fr.app N439 N440q
  refine own_k T440 91 [.int 0, (.int ((1 : Int32) + (nlv x0)))] st440 ?_
  refine own_j 92 [(.int (((1 : Int32) + (nlv x0)) + (0 : Int32)))] (fun t_ k_ => XS.iadd X440.here hx rfl (hb hby at_91) rfl k_) ?_
  refine o_iload 94 X440 hx (hb hby at_92) rfl rfl ?_
  refine o_iconst 95 2 X440 hx (hb hby at_94) rfl rfl ?_
  refine o_iload 97 X440 hx (hb hby at_95) rfl rfl ?_
  obtain ⟨_, _, ⟨T441, L441, k441, n441⟩, -, X441, ⟨Lc441, hQ441, l441, y441, z441⟩, st441⟩ := Jvm.LawKit.callS X440 hx (y := yn19) hown (mvT hZ (ow hw 36 rfl)) (mvT hZ (ow hw 37 rfl)) (mvT hZ (ow hw 2 rfl)) (mvT hZ (ow hw 38 rfl)) (by decide) (backOf (W := 1) (rmn0 lL Z a0 hw [] x2 (2 : Int32) (1 : Int32) h0 n0 (by decide)) hZ (ow hw 38 rfl) (ow hw 2 rfl) (by decide) (by decide)) (g := (mkF mM 97 Lv438 [.int 1, .int 2, .int x2, (.int (((1 : Int32) + (nlv x0)) + (0 : Int32)))])) rfl (by rw [hml]; rfl) (argsL := [.int x2, .int 2, .int 1]) (rest := [(.int (((1 : Int32) + (nlv x0)) + (0 : Int32)))]) (lenOf pd__28CII_29I rfl) rfl (by show 2 * 0 + _ ≤ _; exact Nat.le_of_eq rfl) (hb hby at_97) (fun _ _ => ⟨rfl, e440, (by decide : 4 + 0 ≤ _), (by decide : 32 + 0 ≤ _)⟩)
  dsimp only [Pt.U, Pt.locs, Pt.cells, Pt.slots] at X441 l441 y441 z441 st441 hQ441
  subst l441 y441 z441
  obtain ⟨rfl, N441q, e441⟩ := hQ441
  have N441 := Fr.app N440 N441q
  refine own_k T441 100 [.int 0, (.int (((1 : Int32) + (nlv x0)) + (0 : Int32)))] st441 ?_
  refine own_j 101 [(.int ((((1 : Int32) + (nlv x0)) + (0 : Int32)) + (0 : Int32)))] (fun t_ k_ => XS.iadd X441.here hx rfl (hb hby at_100) rfl k_) ?_
  refine o_iload 103 X441 hx (hb hby at_101) rfl rfl ?_
  refine o_iconst 104 3 X441 hx (hb hby at_103) rfl rfl ?_
  refine o_iload 106 X441 hx (hb hby at_104) rfl rfl ?_
  obtain ⟨_, _, ⟨T442, L442, k442, n442⟩, -, X442, ⟨Lc442, hQ442, l442, y442, z442⟩, st442⟩ := Jvm.LawKit.callS X441 hx (y := yn19) hown (mvT hZ (ow hw 36 rfl)) (mvT hZ (ow hw 37 rfl)) (mvT hZ (ow hw 2 rfl)) (mvT hZ (ow hw 38 rfl)) (by decide) (backOf (W := 1) (rmn0 lL Z a0 hw [] x3 (3 : Int32) (1 : Int32) h0 n0 (by decide)) hZ (ow hw 38 rfl) (ow hw 2 rfl) (by decide) (by decide)) (g := (mkF mM 106 Lv438 [.int 1, .int 3, .int x3, (.int ((((1 : Int32) + (nlv x0)) + (0 : Int32)) + (0 : Int32)))])) rfl (by rw [hml]; rfl) (argsL := [.int x3, .int 3, .int 1]) (rest := [(.int ((((1 : Int32) + (nlv x0)) + (0 : Int32)) + (0 : Int32)))]) (lenOf pd__28CII_29I rfl) rfl (by show 2 * 0 + _ ≤ _; exact Nat.le_of_eq rfl) (hb hby at_106) (fun _ _ => ⟨rfl, e441, (by decide : 4 + 0 ≤ _), (by decide : 32 + 0 ≤ _)⟩)
  dsimp only [Pt.U, Pt.locs, Pt.cells, Pt.slots] at X442 l442 y442 z442 st442 hQ442
  subst l442 y442 z442
  obtain ⟨rfl, N442q, e442⟩ := hQ442
  have N442 := Fr.app N441 N442q
  refine own_k T442 109 [.int 0, (.int ((((1 : Int32) + (nlv x0)) + (0 : Int32)) + (0 : Int32)))] st442 ?_
  refine own_j 110 [(.int (((((1 : Int32) + (nlv x0)) + (0 : Int32)) + (0 : Int32)) + (0 : Int32)))] (fun t_ k_ => XS.iadd X442.here hx rfl (hb hby at_109) rfl k_) ?_
  let Lv443 : Array Slot := #[.val (.int u0), .val (.int u1), .val (.int u2), .val (.int u3), .val (.int u4), .val (.int x0), .val (.int x1), .val (.int x2), .val (.int x3), .val (.ref cc), .val (.ref ss), .val (.int 1), .val (.int (((((1 : Int32) + (nlv x0)) + (0 : Int32)) + (0 : Int32)) + (0 : Int32)))]
  refine own_st (A := T442.setTop (mkF mM 112 Lv443 [])) (fun t_ k_ => XS.istore X442.here hx rfl (hb hby at_110) rfl (l' := Lv443) rfl k_) ?_
  refine o_aload 114 X442 hx (hb hby at_112) rfl rfl rfl ?_
  refine o_iload 116 X442 hx (hb hby at_114) rfl rfl ?_
  obtain ⟨_, _, ⟨T444, L444, k444, n444⟩, -, X444, ⟨Lc444, hQ444, l444, y444, z444⟩, st444⟩ := Jvm.LawKit.callS X442 hx (y := yn18) hown (mvT hZ (ow hw 39 rfl)) (mvT hZ (ow hw 40 rfl)) (mvT hZ (ow hw 41 rfl)) (mvT hZ (ow hw 42 rfl)) (by decide) (backOf (W := 0) (rmLN1 lL Z a0 hw [] ss cs fm x0 x1 x2 x3 (((((1 : Int32) + (nlv x0)) + (0 : Int32)) + (0 : Int32)) + (0 : Int32)) h0 n0 so O S_fm hfm S_cs hcs S_ad S_hi S_lo cx0 cx1 cx2 cx3 (by simp only [Int32.add_zero])) hZ (ow hw 42 rfl) (ow hw 41 rfl) (by decide) (by decide)) (g := (mkF mM 116 Lv443 [.int 1, .ref ss])) rfl (by rw [hml]; rfl) (argsL := [.ref ss, .int 1]) (rest := []) (lenOf pd__28Ljava_2flang_2fString_3bI_29I rfl) rfl (by show 2 * 0 + _ ≤ _; exact Nat.le_of_eq rfl) (hb hby at_116) (fun _ _ => ⟨rfl, e442, (by decide : 4 + 0 ≤ _), (by decide : 32 + 0 ≤ _)⟩)
  dsimp only [Pt.U, Pt.locs, Pt.cells, Pt.slots] at X444 l444 y444 z444 st444 hQ444
  subst l444 y444 z444
  obtain ⟨rfl, N444q, e444⟩ := hQ444
  have N444 := Fr.app N442 N444q
  refine own_k T444 119 [(.int (((((1 : Int32) + (nlv x0)) + (0 : Int32)) + (0 : Int32)) + (0 : Int32)))] st444 ?_
  refine o_iload 121 X444 hx (hb hby at_119) rfl rfl ?_
  refine o_icmpNo 124 X444 hx (hb hby at_121) (teq rfl).2 rfl ?_
  refine o_iconst 125 1 X444 hx (hb hby at_124) rfl rfl ?_
  refine o_goto 129 X444 hx (hb hby at_125) (by decide) ?_
  exact own_retN X444 hx hlk (t := .boolean) hret (by simp) (hb hby at_129) ⟨rfl, N444⟩ (by decide) (by decide)
theorem J71_2 (hw : own_tb a0 Z) (X0 : Stand pP lL eE room_1 sS mM args below meth cC T0 locs 4 32) (hx : pP.tables.exec = Jvm.exec) (hZ : Z.Warmed39 sS.vm) (hby : cC.code = code) (hml : cC.maxLocals = 13) (hown : sS.vm.findClass "com/example/vyasa/vyasa/SqlLexerLineNumberPinLaw" = some mM.cls) (hlk : meth.locks = false) (hret : meth.sig.returnType = ret) (e0 : T0.heap = h0) (N0 : Fr n0 locs) (u0 : Int32) (u1 : Int32) (u2 : Int32) (u3 : Int32) (u4 : Int32) (x0 : Int32) (x1 : Int32) (x2 : Int32) (x3 : Int32) (cs : Int32) (fm : Value) (cc : Addr) (ss : Addr) (so : StrC Z h0 ss x0 x1 x2 x3) (O : Old Z n0 h0) (S_fm : Sta Z Z.heap "jdk/internal/util/Preconditions" "SIOOBE_FORMATTER" "Ljava/util/function/BiFunction;" fm) (hfm : fm.isRef = true) (S_cs : Sta Z Z.heap "java/lang/String" "COMPACT_STRINGS" "Z" (.int cs)) (hcs : ¬ cs = (0 : Int32)) (S_ad : Sta Z Z.heap "java/lang/StringUTF16" "$assertionsDisabled" "Z" (.int 1)) (S_hi : Sta Z Z.heap "java/lang/StringUTF16" "HI_BYTE_SHIFT" "I" (.int 0)) (S_lo : Sta Z Z.heap "java/lang/StringUTF16" "LO_BYTE_SHIFT" "I" (.int 8)) (cx0 : nar .char x0 = x0) (cx1 : nar .char x1 = x1) (cx2 : nar .char x2 = x2) (cx3 : nar .char x3 = x3) :
    own_Go pP eE below sS (QLaw n0) 16 128 (T0.setTop (mkF mM 71 #[.val (.int u0), .val (.int u1), .val (.int u2), .val (.int u3), .val (.int u4), .val (.int x0), .val (.int x1), .val (.int x2), .val (.int x3), .val (.ref cc), .val (.ref ss), .unset, .unset] [.int 2])) := by
  let Lv445 : Array Slot := #[.val (.int u0), .val (.int u1), .val (.int u2), .val (.int u3), .val (.int u4), .val (.int x0), .val (.int x1), .val (.int x2), .val (.int x3), .val (.ref cc), .val (.ref ss), .val (.int 2), .unset]
  refine own_st (A := T0.setTop (mkF mM 73 Lv445 [])) (fun t_ k_ => XS.istore X0.here hx rfl (hb hby at_71) rfl (l' := Lv445) rfl k_) ?_
  refine o_iconst 74 1 X0 hx (hb hby at_73) rfl rfl ?_
  refine o_iload 76 X0 hx (hb hby at_74) rfl rfl ?_
  refine o_iconst 77 0 X0 hx (hb hby at_76) rfl rfl ?_
  refine o_iload 79 X0 hx (hb hby at_77) rfl rfl ?_
  obtain ⟨_, _, ⟨T446, L446, k446, n446⟩, -, X446, ⟨Lc446, hQ446, l446, y446, z446⟩, st446⟩ := Jvm.LawKit.callS X0 hx (y := yn19) hown (mvT hZ (ow hw 36 rfl)) (mvT hZ (ow hw 37 rfl)) (mvT hZ (ow hw 2 rfl)) (mvT hZ (ow hw 38 rfl)) (by decide) (backOf (W := 1) (rmn1 lL Z a0 hw [] x0 (0 : Int32) (2 : Int32) h0 n0 (by decide)) hZ (ow hw 38 rfl) (ow hw 2 rfl) (by decide) (by decide)) (g := (mkF mM 79 Lv445 [.int 2, .int 0, .int x0, .int 1])) rfl (by rw [hml]; rfl) (argsL := [.int x0, .int 0, .int 2]) (rest := [.int 1]) (lenOf pd__28CII_29I rfl) rfl (by show 2 * 0 + _ ≤ _; exact Nat.le_of_eq rfl) (hb hby at_79) (fun _ _ => ⟨rfl, e0, (by decide : 4 + 0 ≤ _), (by decide : 32 + 0 ≤ _)⟩)
  dsimp only [Pt.U, Pt.locs, Pt.cells, Pt.slots] at X446 l446 y446 z446 st446 hQ446
  subst l446 y446 z446
  obtain ⟨rfl, N446q, e446⟩ := hQ446
  have N446 := Fr.app N0 N446q
  refine own_k T446 82 [(.int (nlv x0)), .int 1] st446 ?_
  refine own_j 83 [(.int ((1 : Int32) + (nlv x0)))] (fun t_ k_ => XS.iadd X446.here hx rfl (hb hby at_82) rfl k_) ?_
  refine o_iload 85 X446 hx (hb hby at_83) rfl rfl ?_
  refine o_iconst 86 1 X446 hx (hb hby at_85) rfl rfl ?_
  refine o_iload 88 X446 hx (hb hby at_86) rfl rfl ?_
  obtain ⟨_, _, ⟨T447, L447, k447, n447⟩, -, X447, ⟨Lc447, hQ447, l447, y447, z447⟩, st447⟩ := Jvm.LawKit.callS X446 hx (y := yn19) hown (mvT hZ (ow hw 36 rfl)) (mvT hZ (ow hw 37 rfl)) (mvT hZ (ow hw 2 rfl)) (mvT hZ (ow hw 38 rfl)) (by decide) (backOf (W := 1) (rmn1 lL Z a0 hw [] x1 (1 : Int32) (2 : Int32) h0 n0 (by decide)) hZ (ow hw 38 rfl) (ow hw 2 rfl) (by decide) (by decide)) (g := (mkF mM 88 Lv445 [.int 2, .int 1, .int x1, (.int ((1 : Int32) + (nlv x0)))])) rfl (by rw [hml]; rfl) (argsL := [.int x1, .int 1, .int 2]) (rest := [(.int ((1 : Int32) + (nlv x0)))]) (lenOf pd__28CII_29I rfl) rfl (by show 2 * 0 + _ ≤ _; exact Nat.le_of_eq rfl) (hb hby at_88) (fun _ _ => ⟨rfl, e446, (by decide : 4 + 0 ≤ _), (by decide : 32 + 0 ≤ _)⟩)
  dsimp only [Pt.U, Pt.locs, Pt.cells, Pt.slots] at X447 l447 y447 z447 st447 hQ447
  subst l447 y447 z447
  obtain ⟨rfl, N447q, e447⟩ := hQ447
  have N447 := Fr.app N446 N447q
  refine own_k T447 91 [(.int (nlv x1)), (.int ((1 : Int32) + (nlv x0)))] st447 ?_
  refine own_j 92 [(.int (((1 : Int32) + (nlv x0)) + (nlv x1)))] (fun t_ k_ => XS.iadd X447.here hx rfl (hb hby at_91) rfl k_) ?_
  refine o_iload 94 X447 hx (hb hby at_92) rfl rfl ?_
  refine o_iconst 95 2 X447 hx (hb hby at_94) rfl rfl ?_
  refine o_iload 97 X447 hx (hb hby at_95) rfl rfl ?_
  obtain ⟨_, _, ⟨T448, L448, k448, n448⟩, -, X448, ⟨Lc448, hQ448, l448, y448, z448⟩, st448⟩ := Jvm.LawKit.callS X447 hx (y := yn19) hown (mvT hZ (ow hw 36 rfl)) (mvT hZ (ow hw 37 rfl)) (mvT hZ (ow hw 2 rfl)) (mvT hZ (ow hw 38 rfl)) (by decide) (backOf (W := 1) (rmn0 lL Z a0 hw [] x2 (2 : Int32) (2 : Int32) h0 n0 (by decide)) hZ (ow hw 38 rfl) (ow hw 2 rfl) (by decide) (by decide)) (g := (mkF mM 97 Lv445 [.int 2, .int 2, .int x2, (.int (((1 : Int32) + (nlv x0)) + (nlv x1)))])) rfl (by rw [hml]; rfl) (argsL := [.int x2, .int 2, .int 2]) (rest := [(.int (((1 : Int32) + (nlv x0)) + (nlv x1)))]) (lenOf pd__28CII_29I rfl) rfl (by show 2 * 0 + _ ≤ _; exact Nat.le_of_eq rfl) (hb hby at_97) (fun _ _ => ⟨rfl, e447, (by decide : 4 + 0 ≤ _), (by decide : 32 + 0 ≤ _)⟩)
  dsimp only [Pt.U, Pt.locs, Pt.cells, Pt.slots] at X448 l448 y448 z448 st448 hQ448
  subst l448 y448 z448
  obtain ⟨rfl, N448q, e448⟩ := hQ448
  have N448 := Fr.app N447 N448q
  refine own_k T448 100 [.int 0, (.int (((1 : Int32) + (nlv x0)) + (nlv x1)))] st448 ?_
  refine own_j 101 [(.int ((((1 : Int32) + (nlv x0)) + (nlv x1)) + (0 : Int32)))] (fun t_ k_ => XS.iadd X448.here hx rfl (hb hby at_100) rfl k_) ?_
  refine o_iload 103 X448 hx (hb hby at_101) rfl rfl ?_
  refine o_iconst 104 3 X448 hx (hb hby at_103) rfl rfl ?_
  refine o_iload 106 X448 hx (hb hby at_104) rfl rfl ?_
  obtain ⟨_, _, ⟨T449, L449, k449, n449⟩, -, X449, ⟨Lc449, hQ449, l449, y449, z449⟩, st449⟩ := Jvm.LawKit.callS X448 hx (y := yn19) hown (mvT hZ (ow hw 36 rfl)) (mvT hZ (ow hw 37 rfl)) (mvT hZ (ow hw 2 rfl)) (mvT hZ (ow hw 38 rfl)) (by decide) (backOf (W := 1) (rmn0 lL Z a0 hw [] x3 (3 : Int32) (2 : Int32) h0 n0 (by decide)) hZ (ow hw 38 rfl) (ow hw 2 rfl) (by decide) (by decide)) (g := (mkF mM 106 Lv445 [.int 2, .int 3, .int x3, (.int ((((1 : Int32) + (nlv x0)) + (nlv x1)) + (0 : Int32)))])) rfl (by rw [hml]; rfl) (argsL := [.int x3, .int 3, .int 2]) (rest := [(.int ((((1 : Int32) + (nlv x0)) + (nlv x1)) + (0 : Int32)))]) (lenOf pd__28CII_29I rfl) rfl (by show 2 * 0 + _ ≤ _; exact Nat.le_of_eq rfl) (hb hby at_106) (fun _ _ => ⟨rfl, e448, (by decide : 4 + 0 ≤ _), (by decide : 32 + 0 ≤ _)⟩)
  dsimp only [Pt.U, Pt.locs, Pt.cells, Pt.slots] at X449 l449 y449 z449 st449 hQ449
  subst l449 y449 z449
  obtain ⟨rfl, N449q, e449⟩ := hQ449
  have N449 := Fr.app N448 N449q
  refine own_k T449 109 [.int 0, (.int ((((1 : Int32) + (nlv x0)) + (nlv x1)) + (0 : Int32)))] st449 ?_
  refine own_j 110 [(.int (((((1 : Int32) + (nlv x0)) + (nlv x1)) + (0 : Int32)) + (0 : Int32)))] (fun t_ k_ => XS.iadd X449.here hx rfl (hb hby at_109) rfl k_) ?_
  let Lv450 : Array Slot := #[.val (.int u0), .val (.int u1), .val (.int u2), .val (.int u3), .val (.int u4), .val (.int x0), .val (.int x1), .val (.int x2), .val (.int x3), .val (.ref cc), .val (.ref ss), .val (.int 2), .val (.int (((((1 : Int32) + (nlv x0)) + (nlv x1)) + (0 : Int32)) + (0 : Int32)))]
  refine own_st (A := T449.setTop (mkF mM 112 Lv450 [])) (fun t_ k_ => XS.istore X449.here hx rfl (hb hby at_110) rfl (l' := Lv450) rfl k_) ?_
  refine o_aload 114 X449 hx (hb hby at_112) rfl rfl rfl ?_
  refine o_iload 116 X449 hx (hb hby at_114) rfl rfl ?_
  obtain ⟨_, _, ⟨T451, L451, k451, n451⟩, -, X451, ⟨Lc451, hQ451, l451, y451, z451⟩, st451⟩ := Jvm.LawKit.callS X449 hx (y := yn18) hown (mvT hZ (ow hw 39 rfl)) (mvT hZ (ow hw 40 rfl)) (mvT hZ (ow hw 41 rfl)) (mvT hZ (ow hw 42 rfl)) (by decide) (backOf (W := 0) (rmLN2 lL Z a0 hw [] ss cs fm x0 x1 x2 x3 (((((1 : Int32) + (nlv x0)) + (nlv x1)) + (0 : Int32)) + (0 : Int32)) h0 n0 so O S_fm hfm S_cs hcs S_ad S_hi S_lo cx0 cx1 cx2 cx3 (by simp only [Int32.add_zero])) hZ (ow hw 42 rfl) (ow hw 41 rfl) (by decide) (by decide)) (g := (mkF mM 116 Lv450 [.int 2, .ref ss])) rfl (by rw [hml]; rfl) (argsL := [.ref ss, .int 2]) (rest := []) (lenOf pd__28Ljava_2flang_2fString_3bI_29I rfl) rfl (by show 2 * 0 + _ ≤ _; exact Nat.le_of_eq rfl) (hb hby at_116) (fun _ _ => ⟨rfl, e449, (by decide : 4 + 0 ≤ _), (by decide : 32 + 0 ≤ _)⟩)
  dsimp only [Pt.U, Pt.locs, Pt.cells, Pt.slots] at X451 l451 y451 z451 st451 hQ451
  subst l451 y451 z451
  obtain ⟨rfl, N451q, e451⟩ := hQ451
  have N451 := Fr.app N449 N451q
  refine own_k T451 119 [(.int (((((1 : Int32) + (nlv x0)) + (nlv x1)) + (0 : Int32)) + (0 : Int32)))] st451 ?_
  refine o_iload 121 X451 hx (hb hby at_119) rfl rfl ?_
  refine o_icmpNo 124 X451 hx (hb hby at_121) (teq rfl).2 rfl ?_
  refine o_iconst 125 1 X451 hx (hb hby at_124) rfl rfl ?_
  refine o_goto 129 X451 hx (hb hby at_125) (by decide) ?_
  exact own_retN X451 hx hlk (t := .boolean) hret (by simp) (hb hby at_129) ⟨rfl, N451⟩ (by decide) (by decide)
theorem J71_3 (hw : own_tb a0 Z) (X0 : Stand pP lL eE room_1 sS mM args below meth cC T0 locs 4 32) (hx : pP.tables.exec = Jvm.exec) (hZ : Z.Warmed39 sS.vm) (hby : cC.code = code) (hml : cC.maxLocals = 13) (hown : sS.vm.findClass "com/example/vyasa/vyasa/SqlLexerLineNumberPinLaw" = some mM.cls) (hlk : meth.locks = false) (hret : meth.sig.returnType = ret) (e0 : T0.heap = h0) (N0 : Fr n0 locs) (u0 : Int32) (u1 : Int32) (u2 : Int32) (u3 : Int32) (u4 : Int32) (x0 : Int32) (x1 : Int32) (x2 : Int32) (x3 : Int32) (cs : Int32) (fm : Value) (cc : Addr) (ss : Addr) (so : StrC Z h0 ss x0 x1 x2 x3) (O : Old Z n0 h0) (S_fm : Sta Z Z.heap "jdk/internal/util/Preconditions" "SIOOBE_FORMATTER" "Ljava/util/function/BiFunction;" fm) (hfm : fm.isRef = true) (S_cs : Sta Z Z.heap "java/lang/String" "COMPACT_STRINGS" "Z" (.int cs)) (hcs : ¬ cs = (0 : Int32)) (S_ad : Sta Z Z.heap "java/lang/StringUTF16" "$assertionsDisabled" "Z" (.int 1)) (S_hi : Sta Z Z.heap "java/lang/StringUTF16" "HI_BYTE_SHIFT" "I" (.int 0)) (S_lo : Sta Z Z.heap "java/lang/StringUTF16" "LO_BYTE_SHIFT" "I" (.int 8)) (cx0 : nar .char x0 = x0) (cx1 : nar .char x1 = x1) (cx2 : nar .char x2 = x2) (cx3 : nar .char x3 = x3) :
    own_Go pP eE below sS (QLaw n0) 16 128 (T0.setTop (mkF mM 71 #[.val (.int u0), .val (.int u1), .val (.int u2), .val (.int u3), .val (.int u4), .val (.int x0), .val (.int x1), .val (.int x2), .val (.int x3), .val (.ref cc), .val (.ref ss), .unset, .unset] [.int 3])) := by
  let Lv452 : Array Slot := #[.val (.int u0), .val (.int u1), .val (.int u2), .val (.int u3), .val (.int u4), .val (.int x0), .val (.int x1), .val (.int x2), .val (.int x3), .val (.ref cc), .val (.ref ss), .val (.int 3), .unset]
  refine own_st (A := T0.setTop (mkF mM 73 Lv452 [])) (fun t_ k_ => XS.istore X0.here hx rfl (hb hby at_71) rfl (l' := Lv452) rfl k_) ?_
  refine o_iconst 74 1 X0 hx (hb hby at_73) rfl rfl ?_
  refine o_iload 76 X0 hx (hb hby at_74) rfl rfl ?_
  refine o_iconst 77 0 X0 hx (hb hby at_76) rfl rfl ?_
  refine o_iload 79 X0 hx (hb hby at_77) rfl rfl ?_
  obtain ⟨_, _, ⟨T453, L453, k453, n453⟩, -, X453, ⟨Lc453, hQ453, l453, y453, z453⟩, st453⟩ := Jvm.LawKit.callS X0 hx (y := yn19) hown (mvT hZ (ow hw 36 rfl)) (mvT hZ (ow hw 37 rfl)) (mvT hZ (ow hw 2 rfl)) (mvT hZ (ow hw 38 rfl)) (by decide) (backOf (W := 1) (rmn1 lL Z a0 hw [] x0 (0 : Int32) (3 : Int32) h0 n0 (by decide)) hZ (ow hw 38 rfl) (ow hw 2 rfl) (by decide) (by decide)) (g := (mkF mM 79 Lv452 [.int 3, .int 0, .int x0, .int 1])) rfl (by rw [hml]; rfl) (argsL := [.int x0, .int 0, .int 3]) (rest := [.int 1]) (lenOf pd__28CII_29I rfl) rfl (by show 2 * 0 + _ ≤ _; exact Nat.le_of_eq rfl) (hb hby at_79) (fun _ _ => ⟨rfl, e0, (by decide : 4 + 0 ≤ _), (by decide : 32 + 0 ≤ _)⟩)
  dsimp only [Pt.U, Pt.locs, Pt.cells, Pt.slots] at X453 l453 y453 z453 st453 hQ453
  subst l453 y453 z453
  obtain ⟨rfl, N453q, e453⟩ := hQ453
  have N453 := Fr.app N0 N453q
  refine own_k T453 82 [(.int (nlv x0)), .int 1] st453 ?_
  refine own_j 83 [(.int ((1 : Int32) + (nlv x0)))] (fun t_ k_ => XS.iadd X453.here hx rfl (hb hby at_82) rfl k_) ?_
  refine o_iload 85 X453 hx (hb hby at_83) rfl rfl ?_
  refine o_iconst 86 1 X453 hx (hb hby at_85) rfl rfl ?_
  refine o_iload 88 X453 hx (hb hby at_86) rfl rfl ?_
  obtain ⟨_, _, ⟨T454, L454, k454, n454⟩, -, X454, ⟨Lc454, hQ454, l454, y454, z454⟩, st454⟩ := Jvm.LawKit.callS X453 hx (y := yn19) hown (mvT hZ (ow hw 36 rfl)) (mvT hZ (ow hw 37 rfl)) (mvT hZ (ow hw 2 rfl)) (mvT hZ (ow hw 38 rfl)) (by decide) (backOf (W := 1) (rmn1 lL Z a0 hw [] x1 (1 : Int32) (3 : Int32) h0 n0 (by decide)) hZ (ow hw 38 rfl) (ow hw 2 rfl) (by decide) (by decide)) (g := (mkF mM 88 Lv452 [.int 3, .int 1, .int x1, (.int ((1 : Int32) + (nlv x0)))])) rfl (by rw [hml]; rfl) (argsL := [.int x1, .int 1, .int 3]) (rest := [(.int ((1 : Int32) + (nlv x0)))]) (lenOf pd__28CII_29I rfl) rfl (by show 2 * 0 + _ ≤ _; exact Nat.le_of_eq rfl) (hb hby at_88) (fun _ _ => ⟨rfl, e453, (by decide : 4 + 0 ≤ _), (by decide : 32 + 0 ≤ _)⟩)
  dsimp only [Pt.U, Pt.locs, Pt.cells, Pt.slots] at X454 l454 y454 z454 st454 hQ454
  subst l454 y454 z454
  obtain ⟨rfl, N454q, e454⟩ := hQ454
  have N454 := Fr.app N453 N454q
  refine own_k T454 91 [(.int (nlv x1)), (.int ((1 : Int32) + (nlv x0)))] st454 ?_
  refine own_j 92 [(.int (((1 : Int32) + (nlv x0)) + (nlv x1)))] (fun t_ k_ => XS.iadd X454.here hx rfl (hb hby at_91) rfl k_) ?_
  refine o_iload 94 X454 hx (hb hby at_92) rfl rfl ?_
  refine o_iconst 95 2 X454 hx (hb hby at_94) rfl rfl ?_
  refine o_iload 97 X454 hx (hb hby at_95) rfl rfl ?_
  obtain ⟨_, _, ⟨T455, L455, k455, n455⟩, -, X455, ⟨Lc455, hQ455, l455, y455, z455⟩, st455⟩ := Jvm.LawKit.callS X454 hx (y := yn19) hown (mvT hZ (ow hw 36 rfl)) (mvT hZ (ow hw 37 rfl)) (mvT hZ (ow hw 2 rfl)) (mvT hZ (ow hw 38 rfl)) (by decide) (backOf (W := 1) (rmn1 lL Z a0 hw [] x2 (2 : Int32) (3 : Int32) h0 n0 (by decide)) hZ (ow hw 38 rfl) (ow hw 2 rfl) (by decide) (by decide)) (g := (mkF mM 97 Lv452 [.int 3, .int 2, .int x2, (.int (((1 : Int32) + (nlv x0)) + (nlv x1)))])) rfl (by rw [hml]; rfl) (argsL := [.int x2, .int 2, .int 3]) (rest := [(.int (((1 : Int32) + (nlv x0)) + (nlv x1)))]) (lenOf pd__28CII_29I rfl) rfl (by show 2 * 0 + _ ≤ _; exact Nat.le_of_eq rfl) (hb hby at_97) (fun _ _ => ⟨rfl, e454, (by decide : 4 + 0 ≤ _), (by decide : 32 + 0 ≤ _)⟩)
  dsimp only [Pt.U, Pt.locs, Pt.cells, Pt.slots] at X455 l455 y455 z455 st455 hQ455
  subst l455 y455 z455
  obtain ⟨rfl, N455q, e455⟩ := hQ455
  have N455 := Fr.app N454 N455q
  refine own_k T455 100 [(.int (nlv x2)), (.int (((1 : Int32) + (nlv x0)) + (nlv x1)))] st455 ?_
  refine own_j 101 [(.int ((((1 : Int32) + (nlv x0)) + (nlv x1)) + (nlv x2)))] (fun t_ k_ => XS.iadd X455.here hx rfl (hb hby at_100) rfl k_) ?_
  refine o_iload 103 X455 hx (hb hby at_101) rfl rfl ?_
  refine o_iconst 104 3 X455 hx (hb hby at_103) rfl rfl ?_
  refine o_iload 106 X455 hx (hb hby at_104) rfl rfl ?_
  obtain ⟨_, _, ⟨T456, L456, k456, n456⟩, -, X456, ⟨Lc456, hQ456, l456, y456, z456⟩, st456⟩ := Jvm.LawKit.callS X455 hx (y := yn19) hown (mvT hZ (ow hw 36 rfl)) (mvT hZ (ow hw 37 rfl)) (mvT hZ (ow hw 2 rfl)) (mvT hZ (ow hw 38 rfl)) (by decide) (backOf (W := 1) (rmn0 lL Z a0 hw [] x3 (3 : Int32) (3 : Int32) h0 n0 (by decide)) hZ (ow hw 38 rfl) (ow hw 2 rfl) (by decide) (by decide)) (g := (mkF mM 106 Lv452 [.int 3, .int 3, .int x3, (.int ((((1 : Int32) + (nlv x0)) + (nlv x1)) + (nlv x2)))])) rfl (by rw [hml]; rfl) (argsL := [.int x3, .int 3, .int 3]) (rest := [(.int ((((1 : Int32) + (nlv x0)) + (nlv x1)) + (nlv x2)))]) (lenOf pd__28CII_29I rfl) rfl (by show 2 * 0 + _ ≤ _; exact Nat.le_of_eq rfl) (hb hby at_106) (fun _ _ => ⟨rfl, e455, (by decide : 4 + 0 ≤ _), (by decide : 32 + 0 ≤ _)⟩)
  dsimp only [Pt.U, Pt.locs, Pt.cells, Pt.slots] at X456 l456 y456 z456 st456 hQ456
  subst l456 y456 z456
  obtain ⟨rfl, N456q, e456⟩ := hQ456
  have N456 := Fr.app N455 N456q
  refine own_k T456 109 [.int 0, (.int ((((1 : Int32) + (nlv x0)) + (nlv x1)) + (nlv x2)))] st456 ?_
  refine own_j 110 [(.int (((((1 : Int32) + (nlv x0)) + (nlv x1)) + (nlv x2)) + (0 : Int32)))] (fun t_ k_ => XS.iadd X456.here hx rfl (hb hby at_109) rfl k_) ?_
  let Lv457 : Array Slot := #[.val (.int u0), .val (.int u1), .val (.int u2), .val (.int u3), .val (.int u4), .val (.int x0), .val (.int x1), .val (.int x2), .val (.int x3), .val (.ref cc), .val (.ref ss), .val (.int 3), .val (.int (((((1 : Int32) + (nlv x0)) + (nlv x1)) + (nlv x2)) + (0 : Int32)))]
  refine own_st (A := T456.setTop (mkF mM 112 Lv457 [])) (fun t_ k_ => XS.istore X456.here hx rfl (hb hby at_110) rfl (l' := Lv457) rfl k_) ?_
  refine o_aload 114 X456 hx (hb hby at_112) rfl rfl rfl ?_
  refine o_iload 116 X456 hx (hb hby at_114) rfl rfl ?_
  obtain ⟨_, _, ⟨T458, L458, k458, n458⟩, -, X458, ⟨Lc458, hQ458, l458, y458, z458⟩, st458⟩ := Jvm.LawKit.callS X456 hx (y := yn18) hown (mvT hZ (ow hw 39 rfl)) (mvT hZ (ow hw 40 rfl)) (mvT hZ (ow hw 41 rfl)) (mvT hZ (ow hw 42 rfl)) (by decide) (backOf (W := 0) (rmLN3 lL Z a0 hw [] ss cs fm x0 x1 x2 x3 (((((1 : Int32) + (nlv x0)) + (nlv x1)) + (nlv x2)) + (0 : Int32)) h0 n0 so O S_fm hfm S_cs hcs S_ad S_hi S_lo cx0 cx1 cx2 cx3 (by simp only [Int32.add_zero])) hZ (ow hw 42 rfl) (ow hw 41 rfl) (by decide) (by decide)) (g := (mkF mM 116 Lv457 [.int 3, .ref ss])) rfl (by rw [hml]; rfl) (argsL := [.ref ss, .int 3]) (rest := []) (lenOf pd__28Ljava_2flang_2fString_3bI_29I rfl) rfl (by show 2 * 0 + _ ≤ _; exact Nat.le_of_eq rfl) (hb hby at_116) (fun _ _ => ⟨rfl, e456, (by decide : 4 + 0 ≤ _), (by decide : 32 + 0 ≤ _)⟩)
  dsimp only [Pt.U, Pt.locs, Pt.cells, Pt.slots] at X458 l458 y458 z458 st458 hQ458
  subst l458 y458 z458
  obtain ⟨rfl, N458q, e458⟩ := hQ458
  have N458 := Fr.app N456 N458q
  refine own_k T458 119 [(.int (((((1 : Int32) + (nlv x0)) + (nlv x1)) + (nlv x2)) + (0 : Int32)))] st458 ?_
  refine o_iload 121 X458 hx (hb hby at_119) rfl rfl ?_
  refine o_icmpNo 124 X458 hx (hb hby at_121) (teq rfl).2 rfl ?_
  refine o_iconst 125 1 X458 hx (hb hby at_124) rfl rfl ?_
  refine o_goto 129 X458 hx (hb hby at_125) (by decide) ?_
  exact own_retN X458 hx hlk (t := .boolean) hret (by simp) (hb hby at_129) ⟨rfl, N458⟩ (by decide) (by decide)
theorem J71_4 (hw : own_tb a0 Z) (X0 : Stand pP lL eE room_1 sS mM args below meth cC T0 locs 4 32) (hx : pP.tables.exec = Jvm.exec) (hZ : Z.Warmed39 sS.vm) (hby : cC.code = code) (hml : cC.maxLocals = 13) (hown : sS.vm.findClass "com/example/vyasa/vyasa/SqlLexerLineNumberPinLaw" = some mM.cls) (hlk : meth.locks = false) (hret : meth.sig.returnType = ret) (e0 : T0.heap = h0) (N0 : Fr n0 locs) (u0 : Int32) (u1 : Int32) (u2 : Int32) (u3 : Int32) (u4 : Int32) (x0 : Int32) (x1 : Int32) (x2 : Int32) (x3 : Int32) (cs : Int32) (fm : Value) (cc : Addr) (ss : Addr) (so : StrC Z h0 ss x0 x1 x2 x3) (O : Old Z n0 h0) (S_fm : Sta Z Z.heap "jdk/internal/util/Preconditions" "SIOOBE_FORMATTER" "Ljava/util/function/BiFunction;" fm) (hfm : fm.isRef = true) (S_cs : Sta Z Z.heap "java/lang/String" "COMPACT_STRINGS" "Z" (.int cs)) (hcs : ¬ cs = (0 : Int32)) (S_ad : Sta Z Z.heap "java/lang/StringUTF16" "$assertionsDisabled" "Z" (.int 1)) (S_hi : Sta Z Z.heap "java/lang/StringUTF16" "HI_BYTE_SHIFT" "I" (.int 0)) (S_lo : Sta Z Z.heap "java/lang/StringUTF16" "LO_BYTE_SHIFT" "I" (.int 8)) (cx0 : nar .char x0 = x0) (cx1 : nar .char x1 = x1) (cx2 : nar .char x2 = x2) (cx3 : nar .char x3 = x3) :
    own_Go pP eE below sS (QLaw n0) 16 128 (T0.setTop (mkF mM 71 #[.val (.int u0), .val (.int u1), .val (.int u2), .val (.int u3), .val (.int u4), .val (.int x0), .val (.int x1), .val (.int x2), .val (.int x3), .val (.ref cc), .val (.ref ss), .unset, .unset] [.int 4])) := by
  let Lv459 : Array Slot := #[.val (.int u0), .val (.int u1), .val (.int u2), .val (.int u3), .val (.int u4), .val (.int x0), .val (.int x1), .val (.int x2), .val (.int x3), .val (.ref cc), .val (.ref ss), .val (.int 4), .unset]
  refine own_st (A := T0.setTop (mkF mM 73 Lv459 [])) (fun t_ k_ => XS.istore X0.here hx rfl (hb hby at_71) rfl (l' := Lv459) rfl k_) ?_
  refine o_iconst 74 1 X0 hx (hb hby at_73) rfl rfl ?_
  refine o_iload 76 X0 hx (hb hby at_74) rfl rfl ?_
  refine o_iconst 77 0 X0 hx (hb hby at_76) rfl rfl ?_
  refine o_iload 79 X0 hx (hb hby at_77) rfl rfl ?_
  obtain ⟨_, _, ⟨T460, L460, k460, n460⟩, -, X460, ⟨Lc460, hQ460, l460, y460, z460⟩, st460⟩ := Jvm.LawKit.callS X0 hx (y := yn19) hown (mvT hZ (ow hw 36 rfl)) (mvT hZ (ow hw 37 rfl)) (mvT hZ (ow hw 2 rfl)) (mvT hZ (ow hw 38 rfl)) (by decide) (backOf (W := 1) (rmn1 lL Z a0 hw [] x0 (0 : Int32) (4 : Int32) h0 n0 (by decide)) hZ (ow hw 38 rfl) (ow hw 2 rfl) (by decide) (by decide)) (g := (mkF mM 79 Lv459 [.int 4, .int 0, .int x0, .int 1])) rfl (by rw [hml]; rfl) (argsL := [.int x0, .int 0, .int 4]) (rest := [.int 1]) (lenOf pd__28CII_29I rfl) rfl (by show 2 * 0 + _ ≤ _; exact Nat.le_of_eq rfl) (hb hby at_79) (fun _ _ => ⟨rfl, e0, (by decide : 4 + 0 ≤ _), (by decide : 32 + 0 ≤ _)⟩)
  dsimp only [Pt.U, Pt.locs, Pt.cells, Pt.slots] at X460 l460 y460 z460 st460 hQ460
  subst l460 y460 z460
  obtain ⟨rfl, N460q, e460⟩ := hQ460
  have N460 := Fr.app N0 N460q
  refine own_k T460 82 [(.int (nlv x0)), .int 1] st460 ?_
  refine own_j 83 [(.int ((1 : Int32) + (nlv x0)))] (fun t_ k_ => XS.iadd X460.here hx rfl (hb hby at_82) rfl k_) ?_
  refine o_iload 85 X460 hx (hb hby at_83) rfl rfl ?_
  refine o_iconst 86 1 X460 hx (hb hby at_85) rfl rfl ?_
  refine o_iload 88 X460 hx (hb hby at_86) rfl rfl ?_
  obtain ⟨_, _, ⟨T461, L461, k461, n461⟩, -, X461, ⟨Lc461, hQ461, l461, y461, z461⟩, st461⟩ := Jvm.LawKit.callS X460 hx (y := yn19) hown (mvT hZ (ow hw 36 rfl)) (mvT hZ (ow hw 37 rfl)) (mvT hZ (ow hw 2 rfl)) (mvT hZ (ow hw 38 rfl)) (by decide) (backOf (W := 1) (rmn1 lL Z a0 hw [] x1 (1 : Int32) (4 : Int32) h0 n0 (by decide)) hZ (ow hw 38 rfl) (ow hw 2 rfl) (by decide) (by decide)) (g := (mkF mM 88 Lv459 [.int 4, .int 1, .int x1, (.int ((1 : Int32) + (nlv x0)))])) rfl (by rw [hml]; rfl) (argsL := [.int x1, .int 1, .int 4]) (rest := [(.int ((1 : Int32) + (nlv x0)))]) (lenOf pd__28CII_29I rfl) rfl (by show 2 * 0 + _ ≤ _; exact Nat.le_of_eq rfl) (hb hby at_88) (fun _ _ => ⟨rfl, e460, (by decide : 4 + 0 ≤ _), (by decide : 32 + 0 ≤ _)⟩)
  dsimp only [Pt.U, Pt.locs, Pt.cells, Pt.slots] at X461 l461 y461 z461 st461 hQ461
  subst l461 y461 z461
  obtain ⟨rfl, N461q, e461⟩ := hQ461
  have N461 := Fr.app N460 N461q
  refine own_k T461 91 [(.int (nlv x1)), (.int ((1 : Int32) + (nlv x0)))] st461 ?_
  refine own_j 92 [(.int (((1 : Int32) + (nlv x0)) + (nlv x1)))] (fun t_ k_ => XS.iadd X461.here hx rfl (hb hby at_91) rfl k_) ?_
  refine o_iload 94 X461 hx (hb hby at_92) rfl rfl ?_
  refine o_iconst 95 2 X461 hx (hb hby at_94) rfl rfl ?_
  refine o_iload 97 X461 hx (hb hby at_95) rfl rfl ?_
  obtain ⟨_, _, ⟨T462, L462, k462, n462⟩, -, X462, ⟨Lc462, hQ462, l462, y462, z462⟩, st462⟩ := Jvm.LawKit.callS X461 hx (y := yn19) hown (mvT hZ (ow hw 36 rfl)) (mvT hZ (ow hw 37 rfl)) (mvT hZ (ow hw 2 rfl)) (mvT hZ (ow hw 38 rfl)) (by decide) (backOf (W := 1) (rmn1 lL Z a0 hw [] x2 (2 : Int32) (4 : Int32) h0 n0 (by decide)) hZ (ow hw 38 rfl) (ow hw 2 rfl) (by decide) (by decide)) (g := (mkF mM 97 Lv459 [.int 4, .int 2, .int x2, (.int (((1 : Int32) + (nlv x0)) + (nlv x1)))])) rfl (by rw [hml]; rfl) (argsL := [.int x2, .int 2, .int 4]) (rest := [(.int (((1 : Int32) + (nlv x0)) + (nlv x1)))]) (lenOf pd__28CII_29I rfl) rfl (by show 2 * 0 + _ ≤ _; exact Nat.le_of_eq rfl) (hb hby at_97) (fun _ _ => ⟨rfl, e461, (by decide : 4 + 0 ≤ _), (by decide : 32 + 0 ≤ _)⟩)
  dsimp only [Pt.U, Pt.locs, Pt.cells, Pt.slots] at X462 l462 y462 z462 st462 hQ462
  subst l462 y462 z462
  obtain ⟨rfl, N462q, e462⟩ := hQ462
  have N462 := Fr.app N461 N462q
  refine own_k T462 100 [(.int (nlv x2)), (.int (((1 : Int32) + (nlv x0)) + (nlv x1)))] st462 ?_
  refine own_j 101 [(.int ((((1 : Int32) + (nlv x0)) + (nlv x1)) + (nlv x2)))] (fun t_ k_ => XS.iadd X462.here hx rfl (hb hby at_100) rfl k_) ?_
  refine o_iload 103 X462 hx (hb hby at_101) rfl rfl ?_
  refine o_iconst 104 3 X462 hx (hb hby at_103) rfl rfl ?_
  refine o_iload 106 X462 hx (hb hby at_104) rfl rfl ?_
  obtain ⟨_, _, ⟨T463, L463, k463, n463⟩, -, X463, ⟨Lc463, hQ463, l463, y463, z463⟩, st463⟩ := Jvm.LawKit.callS X462 hx (y := yn19) hown (mvT hZ (ow hw 36 rfl)) (mvT hZ (ow hw 37 rfl)) (mvT hZ (ow hw 2 rfl)) (mvT hZ (ow hw 38 rfl)) (by decide) (backOf (W := 1) (rmn1 lL Z a0 hw [] x3 (3 : Int32) (4 : Int32) h0 n0 (by decide)) hZ (ow hw 38 rfl) (ow hw 2 rfl) (by decide) (by decide)) (g := (mkF mM 106 Lv459 [.int 4, .int 3, .int x3, (.int ((((1 : Int32) + (nlv x0)) + (nlv x1)) + (nlv x2)))])) rfl (by rw [hml]; rfl) (argsL := [.int x3, .int 3, .int 4]) (rest := [(.int ((((1 : Int32) + (nlv x0)) + (nlv x1)) + (nlv x2)))]) (lenOf pd__28CII_29I rfl) rfl (by show 2 * 0 + _ ≤ _; exact Nat.le_of_eq rfl) (hb hby at_106) (fun _ _ => ⟨rfl, e462, (by decide : 4 + 0 ≤ _), (by decide : 32 + 0 ≤ _)⟩)
  dsimp only [Pt.U, Pt.locs, Pt.cells, Pt.slots] at X463 l463 y463 z463 st463 hQ463
  subst l463 y463 z463
  obtain ⟨rfl, N463q, e463⟩ := hQ463
  have N463 := Fr.app N462 N463q
  refine own_k T463 109 [(.int (nlv x3)), (.int ((((1 : Int32) + (nlv x0)) + (nlv x1)) + (nlv x2)))] st463 ?_
  refine own_j 110 [(.int (((((1 : Int32) + (nlv x0)) + (nlv x1)) + (nlv x2)) + (nlv x3)))] (fun t_ k_ => XS.iadd X463.here hx rfl (hb hby at_109) rfl k_) ?_
  let Lv464 : Array Slot := #[.val (.int u0), .val (.int u1), .val (.int u2), .val (.int u3), .val (.int u4), .val (.int x0), .val (.int x1), .val (.int x2), .val (.int x3), .val (.ref cc), .val (.ref ss), .val (.int 4), .val (.int (((((1 : Int32) + (nlv x0)) + (nlv x1)) + (nlv x2)) + (nlv x3)))]
  refine own_st (A := T463.setTop (mkF mM 112 Lv464 [])) (fun t_ k_ => XS.istore X463.here hx rfl (hb hby at_110) rfl (l' := Lv464) rfl k_) ?_
  refine o_aload 114 X463 hx (hb hby at_112) rfl rfl rfl ?_
  refine o_iload 116 X463 hx (hb hby at_114) rfl rfl ?_
  obtain ⟨_, _, ⟨T465, L465, k465, n465⟩, -, X465, ⟨Lc465, hQ465, l465, y465, z465⟩, st465⟩ := Jvm.LawKit.callS X463 hx (y := yn18) hown (mvT hZ (ow hw 39 rfl)) (mvT hZ (ow hw 40 rfl)) (mvT hZ (ow hw 41 rfl)) (mvT hZ (ow hw 42 rfl)) (by decide) (backOf (W := 0) (rmLN4 lL Z a0 hw [] ss cs fm x0 x1 x2 x3 (((((1 : Int32) + (nlv x0)) + (nlv x1)) + (nlv x2)) + (nlv x3)) h0 n0 so O S_fm hfm S_cs hcs S_ad S_hi S_lo cx0 cx1 cx2 cx3 (by simp only [Int32.add_zero])) hZ (ow hw 42 rfl) (ow hw 41 rfl) (by decide) (by decide)) (g := (mkF mM 116 Lv464 [.int 4, .ref ss])) rfl (by rw [hml]; rfl) (argsL := [.ref ss, .int 4]) (rest := []) (lenOf pd__28Ljava_2flang_2fString_3bI_29I rfl) rfl (by show 2 * 0 + _ ≤ _; exact Nat.le_of_eq rfl) (hb hby at_116) (fun _ _ => ⟨rfl, e463, (by decide : 4 + 0 ≤ _), (by decide : 32 + 0 ≤ _)⟩)
  dsimp only [Pt.U, Pt.locs, Pt.cells, Pt.slots] at X465 l465 y465 z465 st465 hQ465
  subst l465 y465 z465
  obtain ⟨rfl, N465q, e465⟩ := hQ465
  have N465 := Fr.app N463 N465q
  refine own_k T465 119 [(.int (((((1 : Int32) + (nlv x0)) + (nlv x1)) + (nlv x2)) + (nlv x3)))] st465 ?_
  refine o_iload 121 X465 hx (hb hby at_119) rfl rfl ?_
  refine o_icmpNo 124 X465 hx (hb hby at_121) (teq rfl).2 rfl ?_
  refine o_iconst 125 1 X465 hx (hb hby at_124) rfl rfl ?_
  refine o_goto 129 X465 hx (hb hby at_125) (by decide) ?_
  exact own_retN X465 hx hlk (t := .boolean) hret (by simp) (hb hby at_129) ⟨rfl, N465⟩ (by decide) (by decide)
theorem pd__28_5bC_29V : parseMethodDescriptor "([C)V" = some ⟨[(.array .char)], none⟩ := by decide +kernel
theorem J24 (hw : own_tb a0 Z) (X0 : Stand pP lL eE room_1 sS mM args below meth cC T0 locs 0 0) (hx : pP.tables.exec = Jvm.exec) (hZ : Z.Warmed39 sS.vm) (hby : cC.code = code) (hml : cC.maxLocals = 13) (hown : sS.vm.findClass "com/example/vyasa/vyasa/SqlLexerLineNumberPinLaw" = some mM.cls) (hlk : meth.locks = false) (hret : meth.sig.returnType = ret) (e0 : T0.heap = h0) (N0 : Fr n0 locs) (u0 : Int32) (u1 : Int32) (u2 : Int32) (u3 : Int32) (u4 : Int32) (x0 : Int32) (x1 : Int32) (x2 : Int32) (x3 : Int32) (cs : Int32) (fm : Value) (Zn : n0 ≤ h0.size) (O : Old Z n0 h0) (S_fm : Sta Z Z.heap "jdk/internal/util/Preconditions" "SIOOBE_FORMATTER" "Ljava/util/function/BiFunction;" fm) (hfm : fm.isRef = true) (S_cs : Sta Z Z.heap "java/lang/String" "COMPACT_STRINGS" "Z" (.int cs)) (hcs : ¬ cs = (0 : Int32)) (S_ad : Sta Z Z.heap "java/lang/StringUTF16" "$assertionsDisabled" "Z" (.int 1)) (S_hi : Sta Z Z.heap "java/lang/StringUTF16" "HI_BYTE_SHIFT" "I" (.int 0)) (S_lo : Sta Z Z.heap "java/lang/StringUTF16" "LO_BYTE_SHIFT" "I" (.int 8)) (cx0 : nar .char x0 = x0) (cx1 : nar .char x1 = x1) (cx2 : nar .char x2 = x2) (cx3 : nar .char x3 = x3) :
    own_Go pP eE below sS (QLaw n0) 16 128 (T0.setTop (mkF mM 24 #[.val (.int u0), .val (.int u1), .val (.int u2), .val (.int u3), .val (.int u4), .val (.int x0), .val (.int x1), .val (.int x2), .val (.int x3), .unset, .unset, .unset, .unset] [])) := by
  refine o_iconst 25 4 X0 hx (hb hby at_24) rfl rfl ?_
  obtain ⟨T466, h466, k466, X466, e466, E466, A466, st466⟩ := newP X0 hx hZ (ow hw 5 rfl) e0 (g := (mkF mM 25 #[.val (.int u0), .val (.int u1), .val (.int u2), .val (.int u3), .val (.int u4), .val (.int x0), .val (.int x1), .val (.int x2), .val (.int x3), .unset, .unset, .unset, .unset] [.int 4])) rfl (hb hby at_25) rfl (by decide) (cap := 4) (by decide) (by decide) (by decide) (by decide)
  obtain ⟨b466, g466⟩ : ∃ z, z = h0.size := ⟨_, rfl⟩
  rw [← g466] at A466 st466
  have g_b466 : n0 ≤ b466 := Nat.le_trans Zn (Nat.le_of_eq g466.symm)
  have O := O.ext E466
  have Zn := Nat.le_trans Zn E466.1
  have A_b466 : Arv Z h466 b466 k466 .char 4 [.int 0, .int 0, .int 0, .int 0] (.int 0) := (Arv.new A466 (by decide)).pad (pad_rep [] (.int 0) 4)
  refine own_k T466 27 [.ref b466] st466 ?_
  let Lv467 : Array Slot := #[.val (.int u0), .val (.int u1), .val (.int u2), .val (.int u3), .val (.int u4), .val (.int x0), .val (.int x1), .val (.int x2), .val (.int x3), .val (.ref b466), .unset, .unset, .unset]
  refine own_st (A := T466.setTop (mkF mM 29 Lv467 [])) (fun t_ k_ => XS.astore X466.here hx rfl (hb hby at_27) rfl rfl (l' := Lv467) rfl k_) ?_
  refine o_aload 31 X466 hx (hb hby at_29) rfl rfl rfl ?_
  refine o_iconst 32 0 X466 hx (hb hby at_31) rfl rfl ?_
  refine o_iload 34 X466 hx (hb hby at_32) rfl rfl ?_
  obtain ⟨cl468, Ar468, q468, S468, Nn468, H468, G468⟩ := id A_b466
  obtain ⟨T469, h469, X469, e469, W469, st469⟩ := stC X466 hx hZ e466 Ar468 (j := (0 : Int32)) (inb_of S468 ⟨by decide, by decide⟩) (g := (mkF mM 34 Lv467 [.int x0, .int 0, .ref b466])) rfl rfl (hb hby at_34)
  have N469 := Fr.snoc X469 N0 g_b466
  have O := O.wr W469 g_b466
  have Zn := Nat.le_trans Zn (Keep.of_wr W469).1
  have A_b466 : Arv Z h469 b466 k466 .char 4 [(.int (nar .char x0)), .int 0, .int 0, .int 0] (.int 0) := Arv.set Ar468 q468 S468 Nn468 H468 G468 (fits_nar_char _) W469 0 rfl (Nat.le_of_ble_eq_true rfl)
  refine own_k T469 35 [] st469 ?_
  rw [cx0] at A_b466
  refine o_aload 37 X469 hx (hb hby at_35) rfl rfl rfl ?_
  refine o_iconst 38 1 X469 hx (hb hby at_37) rfl rfl ?_
  refine o_iload 40 X469 hx (hb hby at_38) rfl rfl ?_
  obtain ⟨cl470, Ar470, q470, S470, Nn470, H470, G470⟩ := id A_b466
  obtain ⟨T471, h471, X471, e471, W471, st471⟩ := stC X469 hx hZ e469 Ar470 (j := (1 : Int32)) (inb_of S470 ⟨by decide, by decide⟩) (g := (mkF mM 40 Lv467 [.int x1, .int 1, .ref b466])) rfl rfl (hb hby at_40)
  have N471 := Fr.snoc X471 N469 g_b466
  have O := O.wr W471 g_b466
  have Zn := Nat.le_trans Zn (Keep.of_wr W471).1
  have A_b466 : Arv Z h471 b466 k466 .char 4 [.int x0, (.int (nar .char x1)), .int 0, .int 0] (.int 0) := Arv.set Ar470 q470 S470 Nn470 H470 G470 (fits_nar_char _) W471 1 rfl (Nat.le_of_ble_eq_true rfl)
  refine own_k T471 41 [] st471 ?_
  rw [cx1] at A_b466
  refine o_aload 43 X471 hx (hb hby at_41) rfl rfl rfl ?_
  refine o_iconst 44 2 X471 hx (hb hby at_43) rfl rfl ?_
  refine o_iload 46 X471 hx (hb hby at_44) rfl rfl ?_
  obtain ⟨cl472, Ar472, q472, S472, Nn472, H472, G472⟩ := id A_b466
  obtain ⟨T473, h473, X473, e473, W473, st473⟩ := stC X471 hx hZ e471 Ar472 (j := (2 : Int32)) (inb_of S472 ⟨by decide, by decide⟩) (g := (mkF mM 46 Lv467 [.int x2, .int 2, .ref b466])) rfl rfl (hb hby at_46)
  have N473 := Fr.snoc X473 N471 g_b466
  have O := O.wr W473 g_b466
  have Zn := Nat.le_trans Zn (Keep.of_wr W473).1
  have A_b466 : Arv Z h473 b466 k466 .char 4 [.int x0, .int x1, (.int (nar .char x2)), .int 0] (.int 0) := Arv.set Ar472 q472 S472 Nn472 H472 G472 (fits_nar_char _) W473 2 rfl (Nat.le_of_ble_eq_true rfl)
  refine own_k T473 47 [] st473 ?_
  rw [cx2] at A_b466
  refine o_aload 49 X473 hx (hb hby at_47) rfl rfl rfl ?_
  refine o_iconst 50 3 X473 hx (hb hby at_49) rfl rfl ?_
  refine o_iload 52 X473 hx (hb hby at_50) rfl rfl ?_
  obtain ⟨cl474, Ar474, q474, S474, Nn474, H474, G474⟩ := id A_b466
  obtain ⟨T475, h475, X475, e475, W475, st475⟩ := stC X473 hx hZ e473 Ar474 (j := (3 : Int32)) (inb_of S474 ⟨by decide, by decide⟩) (g := (mkF mM 52 Lv467 [.int x3, .int 3, .ref b466])) rfl rfl (hb hby at_52)
  have N475 := Fr.snoc X475 N473 g_b466
  have O := O.wr W475 g_b466
  have Zn := Nat.le_trans Zn (Keep.of_wr W475).1
  have A_b466 : Arv Z h475 b466 k466 .char 4 [.int x0, .int x1, .int x2, (.int (nar .char x3))] (.int 0) := Arv.set Ar474 q474 S474 Nn474 H474 G474 (fits_nar_char _) W475 3 rfl (Nat.le_of_ble_eq_true rfl)
  refine own_k T475 53 [] st475 ?_
  rw [cx3] at A_b466
  obtain ⟨T476, h476, X476, e476, E476, A476, D476, -, st476⟩ := newO X475 hx hZ hown (ow hw 6 rfl) (ow hw 7 rfl) (ow hw 8 rfl) e475 (g := (mkF mM 53 Lv467 [])) rfl (hb hby at_53) (by decide) (by decide)
  obtain ⟨b476, g476⟩ : ∃ z, z = h475.size := ⟨_, rfl⟩
  rw [← g476] at A476 D476 st476
  have ne_b466_b476 : b466 ≠ b476 := Nat.ne_of_lt (Nat.lt_of_lt_of_le A_b466.lt (Nat.le_of_eq g476.symm))
  have g_b476 : n0 ≤ b476 := Nat.le_trans Zn (Nat.le_of_eq g476.symm)
  have O := O.ext E476
  have A_b466 := A_b466.ext E476
  have Zn := Nat.le_trans Zn E476.1
  have E_b476 := A476
  have F_b476_coder : Fld Z h476 b476 "java/lang/String" "coder" "B" (.int 0) := D476 (Or.inr (ow hw 32 rfl)) (ty := .byte) (by decide)
  have F_b476_value : Fld Z h476 b476 "java/lang/String" "value" "[B" .null := D476 (Or.inr (ow hw 34 rfl)) (ty := (.array .byte)) (by decide)
  refine own_k T476 56 [.ref b476] st476 ?_
  refine o_dup 57 X476 hx (hb hby at_56) rfl rfl ?_
  refine o_aload 59 X476 hx (hb hby at_57) rfl rfl rfl ?_
  obtain ⟨_, _, ⟨T477, L477, k477, n477⟩, -, X477, ⟨Lc477, hQ477, l477, y477, z477⟩, st477⟩ := X476.specialBack hx (y := yn9) rfl hown (mvT hZ (ow hw 9 rfl)) (mvT hZ (ow hw 10 rfl)) (mvT hZ (ow hw 11 rfl)) (by decide) (backOf (W := 1) (rmS1 lL Z a0 hw [] b476 b466 k466 cs x0 x1 x2 x3 h476 n0 g_b476 E_b476 F_b476_value F_b476_coder A_b466 ne_b466_b476 O Zn S_cs hcs S_ad S_hi S_lo cx0 cx1 cx2 cx3) hZ (ow hw 11 rfl) (ow hw 8 rfl) (by decide) (by decide)) (g := (mkF mM 59 Lv467 [.ref b466, .ref b476, .ref b476])) rfl (by rw [hml]; rfl) (Steps.refl _) (a := b476) (argsL := [.ref b466]) (rest := [.ref b476]) (lenOf pd__28_5bC_29V rfl) rfl (by show 2 * 0 + _ ≤ _; exact Nat.le_of_eq rfl) (hb hby at_59) (fun _ _ => ⟨rfl, e476, (by decide : 2 + 2 ≤ _), (by decide : 8 + 12 ≤ _)⟩)
  dsimp only [Pt.U, Pt.locs, Pt.cells, Pt.slots] at X477 l477 y477 z477 st477 hQ477
  subst l477 y477 z477
  obtain ⟨rfl, N477q, K477, so⟩ := hQ477
  have N477 := Fr.app N475 N477q
  have e477 : T477.heap = T477.heap := rfl
  refine own_k T477 62 [.ref b476] (fun t_ k_ => st477.trans k_) ?_
  have E_b476 := E_b476.keep K477
  have A_b466 := A_b466.keep K477 (ninS ne_b466_b476 nin0)
  have O := O.keep K477 (allS g_b476 all0)
  have Zn := Nat.le_trans Zn K477.1
  let Lv478 : Array Slot := #[.val (.int u0), .val (.int u1), .val (.int u2), .val (.int u3), .val (.int u4), .val (.int x0), .val (.int x1), .val (.int x2), .val (.int x3), .val (.ref b466), .val (.ref b476), .unset, .unset]
  refine own_st (A := T477.setTop (mkF mM 64 Lv478 [])) (fun t_ k_ => XS.astore X477.here hx rfl (hb hby at_62) rfl rfl (l' := Lv478) rfl k_) ?_
  refine o_iload 66 X477 hx (hb hby at_64) rfl rfl ?_
  refine own_j 68 [.int 2147483647, .int u4] (fun t_ k_ => X477.ldcInt hx hown (mvT hZ (ow hw 35 rfl)) (g := (mkF mM 66 Lv478 [.int u4])) rfl (hb hby at_66) t_ k_) ?_
  refine own_j 69 [(.int (u4 &&& (2147483647 : Int32)))] (fun t_ k_ => XS.iand X477.here hx rfl (hb hby at_68) rfl k_) ?_
  refine o_iconst 70 5 X477 hx (hb hby at_69) rfl rfl ?_
  refine own_j 71 [(.int ((u4 &&& (2147483647 : Int32)) % (5 : Int32)))] (fun t_ k_ => iremM X477 hx rfl (hb hby at_70) rfl (by decide) k_) ?_
  rcases own_mod5 u4 with q479 | q479 | q479 | q479 | q479
  · rw [q479]
    exact J71_0 hw (X477.more (by decide) (by decide)) hx hZ hby hml hown hlk hret e477 N477 u0 u1 u2 u3 u4 x0 x1 x2 x3 cs fm b466 b476 so O S_fm hfm S_cs hcs S_ad S_hi S_lo cx0 cx1 cx2 cx3
  · rw [q479]
    exact J71_1 hw (X477.more (by decide) (by decide)) hx hZ hby hml hown hlk hret e477 N477 u0 u1 u2 u3 u4 x0 x1 x2 x3 cs fm b466 b476 so O S_fm hfm S_cs hcs S_ad S_hi S_lo cx0 cx1 cx2 cx3
  · rw [q479]
    exact J71_2 hw (X477.more (by decide) (by decide)) hx hZ hby hml hown hlk hret e477 N477 u0 u1 u2 u3 u4 x0 x1 x2 x3 cs fm b466 b476 so O S_fm hfm S_cs hcs S_ad S_hi S_lo cx0 cx1 cx2 cx3
  · rw [q479]
    exact J71_3 hw (X477.more (by decide) (by decide)) hx hZ hby hml hown hlk hret e477 N477 u0 u1 u2 u3 u4 x0 x1 x2 x3 cs fm b466 b476 so O S_fm hfm S_cs hcs S_ad S_hi S_lo cx0 cx1 cx2 cx3
  · rw [q479]
    exact J71_4 hw (X477.more (by decide) (by decide)) hx hZ hby hml hown hlk hret e477 N477 u0 u1 u2 u3 u4 x0 x1 x2 x3 cs fm b466 b476 so O S_fm hfm S_cs hcs S_ad S_hi S_lo cx0 cx1 cx2 cx3
theorem ef_rm0 (mM : MethodId) (u0 : Int32) (u1 : Int32) (u2 : Int32) (u3 : Int32) (u4 : Int32) (cs : Int32) (fm : Value) : entryFrame mM #[.int u0, .int u1, .int u2, .int u3, .int u4] maxLocals = mkF mM 0 #[.val (.int u0), .val (.int u1), .val (.int u2), .val (.int u3), .val (.int u4), .unset, .unset, .unset, .unset, .unset, .unset, .unset, .unset] [] := by first | (simp [entryFrame, mkF, argsToLocals, Value.category, maxLocals]; done) | rfl
theorem rm0 (lL : Launch) (Z : State) (a0 : Array Value) (hw : own_tb a0 Z) (ws : List Jvm.Cond) (u0 : Int32) (u1 : Int32) (u2 : Int32) (u3 : Int32) (u4 : Int32) (cs : Int32) (fm : Value) (h0 : Heap) (n0 : Nat) (Zn : n0 ≤ h0.size) (O : Old Z n0 h0) (S_fm : Sta Z Z.heap "jdk/internal/util/Preconditions" "SIOOBE_FORMATTER" "Ljava/util/function/BiFunction;" fm) (hfm : fm.isRef = true) (S_cs : Sta Z Z.heap "java/lang/String" "COMPACT_STRINGS" "Z" (.int cs)) (hcs : ¬ cs = (0 : Int32)) (S_ad : Sta Z Z.heap "java/lang/StringUTF16" "$assertionsDisabled" "Z" (.int 1)) (S_hi : Sta Z Z.heap "java/lang/StringUTF16" "HI_BYTE_SHIFT" "I" (.int 0)) (S_lo : Sta Z Z.heap "java/lang/StringUTF16" "LO_BYTE_SHIFT" "I" (.int 8)) :
    MetFree lL x (head1 (Jvm.Cond.code x code maxLocals ret :: ws) room_1) (fun as_ uU_ => as_ = #[.int u0, .int u1, .int u2, .int u3, .int u4] ∧ Z.Warmed39 uU_.vm ∧ uU_.heap = h0) (fun _ _ _ _ _ => True) (fun _ uU_ oO_ uE_ => ∃ vV_ lL_, oO_ = .returned vV_ ∧ (fun _ => QLaw) h0 n0 vV_ uE_.heap lL_ ∧ FrameEnd uU_ oO_ uE_ lL_ 16 128) := by
  refine MetFree.of_bodySF (plainFor_of_name pn_com_2fexample_2fvyasa_2fvyasa_2fSqlLexerLineNumberPinLaw) hisR ?_
  intro pP eE sS mM args below meth cC s₁ Bd hml0 hP hK
  obtain ⟨rfl, hZ, hh⟩ := hP
  have hx := Bd.exec
  have hby := Bd.bytes
  have hml : cC.maxLocals = 13 := hml0
  have hown : sS.vm.findClass "com/example/vyasa/vyasa/SqlLexerLineNumberPinLaw" = some mM.cls := findClass_of_methodNamed Bd.named
  have hnm := (name_of_methodNamed Bd.named Bd.method).1
  have hret := Bd.returns
  have hlk := BodyLoose.notSynchronized Bd
  have X0 : Stand pP lL eE room_1 sS mM #[.int u0, .int u1, .int u2, .int u3, .int u4] below meth cC s₁ [] 0 0 := Stand.of_body Bd
  have e0 : s₁.heap = h0 := by rw [← hh, Bd.state]; rfl
  have N0 := Fr.nil n0
  show own_Go pP eE below sS ((fun _ => QLaw) h0 n0) 16 128 (s₁.setTop (entryFrame mM #[.int u0, .int u1, .int u2, .int u3, .int u4] maxLocals))
  refine own_st (A := s₁.setTop (mkF mM 0 #[.val (.int u0), .val (.int u1), .val (.int u2), .val (.int u3), .val (.int u4), .unset, .unset, .unset, .unset, .unset, .unset, .unset, .unset] [])) (fun t_ k_ => castTop (ef_rm0 mM u0 u1 u2 u3 u4 cs fm) k_) ?_
  refine o_iloadN 1 X0 hx (hb hby at_0) rfl rfl ?_
  obtain ⟨_, _, ⟨T480, L480, k480, n480⟩, -, X480, ⟨Lc480, hQ480, l480, y480, z480⟩, st480⟩ := Jvm.LawKit.callS X0 hx (y := yn20) hown (mvT hZ (ow hw 0 rfl)) (mvT hZ (ow hw 1 rfl)) (mvT hZ (ow hw 2 rfl)) (mvT hZ (ow hw 3 rfl)) (by decide) (backOf (W := 0) (rmDr lL Z a0 hw [] u0 h0 n0 ) hZ (ow hw 3 rfl) (ow hw 2 rfl) (by decide) (by decide)) (g := (mkF mM 1 #[.val (.int u0), .val (.int u1), .val (.int u2), .val (.int u3), .val (.int u4), .unset, .unset, .unset, .unset, .unset, .unset, .unset, .unset] [.int u0])) rfl (by rw [hml]; rfl) (argsL := [.int u0]) (rest := []) (lenOf pd__28I_29C rfl) rfl (by show 2 * 0 + _ ≤ _; exact Nat.le_of_eq rfl) (hb hby at_1) (fun _ _ => ⟨rfl, e0, (by decide : 0 + 0 ≤ _), (by decide : 0 + 0 ≤ _)⟩)
  dsimp only [Pt.U, Pt.locs, Pt.cells, Pt.slots] at X480 l480 y480 z480 st480 hQ480
  subst l480 y480 z480
  obtain ⟨y480, rfl, N480q, e480, cy480⟩ := hQ480
  have N480 := Fr.app N0 N480q
  refine own_k T480 4 [.int y480] st480 ?_
  let Lv481 : Array Slot := #[.val (.int u0), .val (.int u1), .val (.int u2), .val (.int u3), .val (.int u4), .val (.int y480), .unset, .unset, .unset, .unset, .unset, .unset, .unset]
  refine own_st (A := T480.setTop (mkF mM 6 Lv481 [])) (fun t_ k_ => XS.istore X480.here hx rfl (hb hby at_4) rfl (l' := Lv481) rfl k_) ?_
  refine o_iloadN 7 X480 hx (hb hby at_6) rfl rfl ?_
  obtain ⟨_, _, ⟨T482, L482, k482, n482⟩, -, X482, ⟨Lc482, hQ482, l482, y482, z482⟩, st482⟩ := Jvm.LawKit.callS X480 hx (y := yn20) hown (mvT hZ (ow hw 0 rfl)) (mvT hZ (ow hw 1 rfl)) (mvT hZ (ow hw 2 rfl)) (mvT hZ (ow hw 3 rfl)) (by decide) (backOf (W := 0) (rmDr lL Z a0 hw [] u1 h0 n0 ) hZ (ow hw 3 rfl) (ow hw 2 rfl) (by decide) (by decide)) (g := (mkF mM 7 Lv481 [.int u1])) rfl (by rw [hml]; rfl) (argsL := [.int u1]) (rest := []) (lenOf pd__28I_29C rfl) rfl (by show 2 * 0 + _ ≤ _; exact Nat.le_of_eq rfl) (hb hby at_7) (fun _ _ => ⟨rfl, e480, (by decide : 0 + 0 ≤ _), (by decide : 0 + 0 ≤ _)⟩)
  dsimp only [Pt.U, Pt.locs, Pt.cells, Pt.slots] at X482 l482 y482 z482 st482 hQ482
  subst l482 y482 z482
  obtain ⟨y482, rfl, N482q, e482, cy482⟩ := hQ482
  have N482 := Fr.app N480 N482q
  refine own_k T482 10 [.int y482] st482 ?_
  let Lv483 : Array Slot := #[.val (.int u0), .val (.int u1), .val (.int u2), .val (.int u3), .val (.int u4), .val (.int y480), .val (.int y482), .unset, .unset, .unset, .unset, .unset, .unset]
  refine own_st (A := T482.setTop (mkF mM 12 Lv483 [])) (fun t_ k_ => XS.istore X482.here hx rfl (hb hby at_10) rfl (l' := Lv483) rfl k_) ?_
  refine o_iloadN 13 X482 hx (hb hby at_12) rfl rfl ?_
  obtain ⟨_, _, ⟨T484, L484, k484, n484⟩, -, X484, ⟨Lc484, hQ484, l484, y484, z484⟩, st484⟩ := Jvm.LawKit.callS X482 hx (y := yn20) hown (mvT hZ (ow hw 0 rfl)) (mvT hZ (ow hw 1 rfl)) (mvT hZ (ow hw 2 rfl)) (mvT hZ (ow hw 3 rfl)) (by decide) (backOf (W := 0) (rmDr lL Z a0 hw [] u2 h0 n0 ) hZ (ow hw 3 rfl) (ow hw 2 rfl) (by decide) (by decide)) (g := (mkF mM 13 Lv483 [.int u2])) rfl (by rw [hml]; rfl) (argsL := [.int u2]) (rest := []) (lenOf pd__28I_29C rfl) rfl (by show 2 * 0 + _ ≤ _; exact Nat.le_of_eq rfl) (hb hby at_13) (fun _ _ => ⟨rfl, e482, (by decide : 0 + 0 ≤ _), (by decide : 0 + 0 ≤ _)⟩)
  dsimp only [Pt.U, Pt.locs, Pt.cells, Pt.slots] at X484 l484 y484 z484 st484 hQ484
  subst l484 y484 z484
  obtain ⟨y484, rfl, N484q, e484, cy484⟩ := hQ484
  have N484 := Fr.app N482 N484q
  refine own_k T484 16 [.int y484] st484 ?_
  let Lv485 : Array Slot := #[.val (.int u0), .val (.int u1), .val (.int u2), .val (.int u3), .val (.int u4), .val (.int y480), .val (.int y482), .val (.int y484), .unset, .unset, .unset, .unset, .unset]
  refine own_st (A := T484.setTop (mkF mM 18 Lv485 [])) (fun t_ k_ => XS.istore X484.here hx rfl (hb hby at_16) rfl (l' := Lv485) rfl k_) ?_
  refine o_iloadN 19 X484 hx (hb hby at_18) rfl rfl ?_
  obtain ⟨_, _, ⟨T486, L486, k486, n486⟩, -, X486, ⟨Lc486, hQ486, l486, y486, z486⟩, st486⟩ := Jvm.LawKit.callS X484 hx (y := yn20) hown (mvT hZ (ow hw 0 rfl)) (mvT hZ (ow hw 1 rfl)) (mvT hZ (ow hw 2 rfl)) (mvT hZ (ow hw 3 rfl)) (by decide) (backOf (W := 0) (rmDr lL Z a0 hw [] u3 h0 n0 ) hZ (ow hw 3 rfl) (ow hw 2 rfl) (by decide) (by decide)) (g := (mkF mM 19 Lv485 [.int u3])) rfl (by rw [hml]; rfl) (argsL := [.int u3]) (rest := []) (lenOf pd__28I_29C rfl) rfl (by show 2 * 0 + _ ≤ _; exact Nat.le_of_eq rfl) (hb hby at_19) (fun _ _ => ⟨rfl, e484, (by decide : 0 + 0 ≤ _), (by decide : 0 + 0 ≤ _)⟩)
  dsimp only [Pt.U, Pt.locs, Pt.cells, Pt.slots] at X486 l486 y486 z486 st486 hQ486
  subst l486 y486 z486
  obtain ⟨y486, rfl, N486q, e486, cy486⟩ := hQ486
  have N486 := Fr.app N484 N486q
  refine own_k T486 22 [.int y486] st486 ?_
  let Lv487 : Array Slot := #[.val (.int u0), .val (.int u1), .val (.int u2), .val (.int u3), .val (.int u4), .val (.int y480), .val (.int y482), .val (.int y484), .val (.int y486), .unset, .unset, .unset, .unset]
  refine own_st (A := T486.setTop (mkF mM 24 Lv487 [])) (fun t_ k_ => XS.istore X486.here hx rfl (hb hby at_22) rfl (l' := Lv487) rfl k_) ?_
  exact J24 hw X486 hx hZ hby hml hown hlk hret e486 N486 u0 u1 u2 u3 u4 y480 y482 y484 y486 cs fm Zn O S_fm hfm S_cs hcs S_ad S_hi S_lo cy480 cy482 cy484 cy486
theorem own_stI {args : Array Value} {s : State} {t : Term} {k : Int32} (h : (Jvm.Cond.eq t (Term.int k)).value args s none s [] = some true) : t.eval args s none [] s = some (.int k) := by
  have e2 := Term.int_eval (args := args) (first := s) (o := none) (idx := []) (s := s) k
  obtain ⟨x, y, hx, hy, -, -⟩ := cmp_v (Or.inl h)
  cases e2.symm.trans hy
  rw [hx]
  cases x <;> simp [Jvm.Cond.value, hx, e2] at h ⊢
  exact h
theorem comes_1 {Post : Tables → Env → Array Value → State → Outcome → State → Prop} (hpost : ∀ tb e args s v u, (limb_1_1.after args s (.returned v) u = true ∧ limb_1_2.after args s (.returned v) u = true ∧ True) → FrameEnd s (.returned v) u (Jvm.fieldLocs frame_1_writes args s ++ Jvm.arrayLocs frame_1_arrays args s ++ Jvm.staticLocs frame_1_statics s) 16 128 → Post tb e args s (.returned v) u) :
    ArmFor flags0 classFile x code maxLocals ret World_1 tables_1 room_1 Calls_1 rest_1 Pre_1 Post := by
  intro l hfl _ _ p e ha hc hk s m args below hf hA hF happ hP
  obtain ⟨hcalls, hrest, hpre⟩ := hP
  obtain ⟨-, -, -, hnamed, -, -, -, hat⟩ := (Spec.applies_iff hf).mp happ
  obtain ⟨hg, hn⟩ := and_e (Cond.before_iff.mp (show (Jvm.Cond.and given_1 narrow_1).before args s = true from hpre))
  obtain ⟨h1, hg1⟩ := and_e hg
  obtain ⟨w0, w1, w2, w3, w4, rfl⟩ : ∃ w0 w1 w2 w3 w4 : Value, args = #[w0, w1, w2, w3, w4] := by
    have hs : args.size = 5 := by simpa [Cond.value, given_1] using h1
    obtain ⟨L⟩ := args
    match L, hs with
    | [w0, w1, w2, w3, w4], _ => exact ⟨w0, w1, w2, w3, w4, rfl⟩
  have hw := fun d (hd : d ∈ tables_1) => atoms_spec (ws := Jvm.Cond.code x code maxLocals ret :: tables_1) hat d (List.mem_cons_of_mem _ hd)
  have hfit : Fit s := fun {y c} hc i hi => by
    obtain ⟨ha, rfl⟩ := Array.getElem?_eq_some_iff.mp hc
    have q := List.all_eq_true.mp ((Array.all_eq_true_iff_forall_mem.mp hF) _ (Array.getElem_mem ha)) i (List.mem_range.mpr hi)
    simpa [Array.getElem?_eq_getElem hi] using q
  obtain ⟨g0, hg2⟩ := and_e hg1
  obtain ⟨i0, e0⟩ := is_v g0
  obtain rfl : w0 = (.int i0) := Option.some.inj e0
  obtain ⟨g1, hg3⟩ := and_e hg2
  obtain ⟨i1, e1⟩ := is_v g1
  obtain rfl : w1 = (.int i1) := Option.some.inj e1
  obtain ⟨g2, hg4⟩ := and_e hg3
  obtain ⟨i2, e2⟩ := is_v g2
  obtain rfl : w2 = (.int i2) := Option.some.inj e2
  obtain ⟨g3, hg5⟩ := and_e hg4
  obtain ⟨i3, e3⟩ := is_v g3
  obtain rfl : w3 = (.int i3) := Option.some.inj e3
  have g4 := hg5
  obtain ⟨i4, e4⟩ := is_v g4
  obtain rfl : w4 = (.int i4) := Option.some.inj e4
  have hn : narrow_1.value _ s none s [] = some true := hn
  obtain ⟨hsets, -⟩ := atoms_of jdkStatics_1 (show (jdkStatics_1.foldr Jvm.Cond.and restOwn_1).before _ s = true from (by have q := hrest; rw [← rest_1_c_eq]; exact q))
  obtain ⟨cs, ev_cs⟩ := is_v (Cond.before_iff.mp (hsets _ (List.mem_of_getElem? (i := 1) rfl)))
  have S_cs := Sta.start ev_cs (Or.inl (hsets _ (List.mem_of_getElem? (i := 0) rfl)))
  have hcs : ¬ cs = (0 : Int32) := gotF (Cond.eq_ints ev_cs (Term.int_eval 0)) (not_v (Cond.before_iff.mp (hsets _ (List.mem_of_getElem? (i := 2) rfl))))
  obtain ⟨fm, ev_fm, hfm⟩ := isR_v (Cond.before_iff.mp (hsets _ (List.mem_of_getElem? (i := 8) rfl)))
  have S_fm := Sta.start ev_fm (Or.inl (hsets _ (List.mem_of_getElem? (i := 7) rfl)))
  have S_ad := Sta.start (own_stI (Cond.before_iff.mp (hsets _ (List.mem_of_getElem? (i := 12) rfl)))) (Or.inl (hsets _ (List.mem_of_getElem? (i := 11) rfl)))
  have S_hi := Sta.start (own_stI (Cond.before_iff.mp (hsets _ (List.mem_of_getElem? (i := 15) rfl)))) (Or.inl (hsets _ (List.mem_of_getElem? (i := 14) rfl)))
  have S_lo := Sta.start (own_stI (Cond.before_iff.mp (hsets _ (List.mem_of_getElem? (i := 18) rfl)))) (Or.inl (hsets _ (List.mem_of_getElem? (i := 17) rfl)))
  obtain ⟨n, o, h1, h2, h3, _, L, rfl, ⟨rfl, N⟩, hq⟩ := rm0 l s _ hw tables_1 i0 i1 i2 i3 i4 cs fm s.heap s.heap.size (Nat.le_refl _) (Old.start s) S_fm hfm S_cs hcs S_ad S_hi S_lo p e ha hc hk s m _ below hf ((Spec.applies_iff_loose hf).mp happ).1 ⟨rfl, State.Warmed39.refl s, rfl⟩ trivial
  refine ⟨n, _, h1, h2, h3, hpost _ _ _ _ _ _ ⟨Cond.after_iff.mpr rfl, Cond.after_iff.mpr (eq_i res_at (Term.int_eval (1)) rfl), trivial⟩ ⟨hq.1, hq.2.1, (hq.2.2.sift fun y hy => Or.inr (N y hy)).mono (by decide) (by decide)⟩⟩
theorem main_1_1 : Claimed_1_1 := comes_1 fun _ _ _ _ _ _ h hF => ⟨h.1, hF⟩
theorem main_1_2 : Claimed_1_2 := comes_1 fun _ _ _ _ _ _ h hF => ⟨h.2.1, hF⟩
end Jvm.Pilot.@@N@@
namespace Jvm.Pilot.@@N@@
open Jvm Jvm.ClassFile Sem Op Lib Jvm.Free Jvm.Stand Jvm.Pilot.@@N@@.Jvm.D
/-! MADE BY PROGRAM (witnessworld.py) out of the Statement's table words and the real class files: 20 classes; the members and pool entries that the words name. The judged class is class 1, her method 3. -/
namespace start1
open Jvm.ClassFile
def u (s : String) : CpInfo := .utf8 (stringToUtf16 s)
/-- a pool by its gaps: so many unusable entries, then the entry; so many at the end -/
def gap : Nat → List CpInfo → List CpInfo
  | 0, r => r
  | n + 1, r => .unusable :: gap n r
def poolList (es : List (Nat × CpInfo)) (last : Nat) : List CpInfo := es.foldr (fun e r => gap e.1 (e.2 :: r)) (gap last [])
def pool (es : List (Nat × CpInfo)) (last : Nat) : Array CpInfo := ⟨poolList es last⟩
def fileOf (pool : Array CpInfo) (this : Nat) (attrs : Array Attribute := #[]) (ms : Array MethodInfo := #[]) (fl : Nat := 33) (sup : Nat := 0) (ifs : Array Nat := #[]) (fds : Array FieldInfo := #[]) : ClassFile where
  minorVersion := 0
  majorVersion := 65
  constantPool := pool
  accessFlags := fl
  thisClass := this
  superClass := sup
  interfaces := ifs
  fields := fds
  methods := ms
  attributes := attrs
def plain (name : String) (sup : Option ClassId) : Class where
  name := name
  kind := .ordinary
  loader := none
  accessFlags := 33
  super := sup
  interfaces := #[]
  cf := none
  fields := #[]
  methods := #[]
  instanceTypes := #[]
  staticTypes := #[]
  resolved := #[]
  callSites := []
  init := .initialized
  statics := none
  mirror := none

def pool0 : Array CpInfo := pool [(5, u "<init>"), (0, u "()V"), (1, .class_ 10), (1, u "java/lang/Object")] 113

def k0c0 : Code := { maxStack := 0, maxLocals := 1, code := object_method_1_code, exceptionTable := #[], attributes := #[] }
def k0m0 : Method := { name := "<init>", desc := "()V", sig := { parameters := [], returnType := none }, accessFlags := 1, code := some k0c0 }
/-- java/lang/Object -/
def k0 : Class := { plain "java/lang/Object" none with
  accessFlags := 33
  interfaces := #[]
  cf := some (fileOf pool0 8 #[] #[{ accessFlags := 1, nameIndex := 5, descriptorIndex := 6, attributes := #[] }] 33 0 #[] #[])
  fields := #[]
  methods := #[k0m0]
  instanceTypes := #[]
  staticTypes := #[]
  resolved := Array.replicate 124 none
  statics := none }

def pool1 : Array CpInfo := pool [(2, .class_ 4), (1, u "java/lang/Object"), (0, u "<init>"), (0, u "()V"), (0, .integer 65535), (0, .methodref 9 10), (0, .class_ 11), (0, .nameAndType 12 13), (0, u "com/example/vyasa/vyasa/SqlLexerLineNumberPinLaw"), (0, u "draw"), (0, u "(I)C"), (0, .class_ 15), (0, u "java/lang/String"), (0, .methodref 14 17), (0, .nameAndType 5 18), (0, u "([C)V"), (0, .integer 2147483647), (0, .methodref 9 21), (0, .nameAndType 22 23), (0, u "nl"), (0, u "(CII)I"), (0, .methodref 25 26), (0, .class_ 27), (0, .nameAndType 28 29), (0, u "com/example/vyasa/vyasa/SqlLexer"), (0, u "lineNumber"), (0, u "(Ljava/lang/String;I)I"), (3, u "law"), (0, u "(IIIII)Z")] 4

def k1m0 : Method := { name := "<init>", desc := "()V", sig := { parameters := [], returnType := none }, accessFlags := 1, code := none }
def k1c1 : Code := { maxStack := 2, maxLocals := 1, code := method_2_code, exceptionTable := #[], attributes := #[] }
def k1m1 : Method := { name := "draw", desc := "(I)C", sig := { parameters := [.int], returnType := some .char }, accessFlags := 10, code := some k1c1 }
def k1c2 : Code := { maxStack := 2, maxLocals := 3, code := method_3_code, exceptionTable := #[], attributes := #[] }
def k1m2 : Method := { name := "nl", desc := "(CII)I", sig := { parameters := [.char, .int, .int], returnType := some .int }, accessFlags := 10, code := some k1c2 }
def k1c3 : Code := { maxStack := 4, maxLocals := 13, code := code, exceptionTable := #[], attributes := #[] }
def k1m3 : Method := { name := "law", desc := "(IIIII)Z", sig := { parameters := [.int, .int, .int, .int, .int], returnType := some .boolean }, accessFlags := 9, code := some k1c3 }
/-- com/example/vyasa/vyasa/SqlLexerLineNumberPinLaw -/
def k1 : Class := { plain "com/example/vyasa/vyasa/SqlLexerLineNumberPinLaw" (some 0) with
  accessFlags := 49
  interfaces := #[]
  cf := some (fileOf pool1 9 #[] #[{ accessFlags := 1, nameIndex := 5, descriptorIndex := 6, attributes := #[] }, { accessFlags := 10, nameIndex := 12, descriptorIndex := 13, attributes := #[] }, { accessFlags := 10, nameIndex := 22, descriptorIndex := 23, attributes := #[] }, { accessFlags := 9, nameIndex := 33, descriptorIndex := 34, attributes := #[] }] 49 2 #[] #[])
  fields := #[]
  methods := #[k1m0, k1m1, k1m2, k1m3]
  instanceTypes := #[]
  staticTypes := #[]
  resolved := Array.replicate 39 none
  statics := none }

def pool2 : Array CpInfo := pool [(1, .class_ 2), (0, u "java/io/Serializable"), (0, .class_ 4), (0, u "java/lang/Object")] 2

/-- java/io/Serializable -/
def k2 : Class := { plain "java/io/Serializable" (some 0) with
  accessFlags := 1537
  interfaces := #[]
  cf := some (fileOf pool2 1 #[] #[] 1537 3 #[] #[])
  fields := #[]
  methods := #[]
  instanceTypes := #[]
  staticTypes := #[]
  resolved := Array.replicate 7 none
  statics := none }

def pool3 : Array CpInfo := pool [(1, .class_ 2), (0, u "java/lang/Comparable"), (0, .class_ 4), (0, u "java/lang/Object")] 7

/-- java/lang/Comparable -/
def k3 : Class := { plain "java/lang/Comparable" (some 0) with
  accessFlags := 1537
  interfaces := #[]
  cf := some (fileOf pool3 1 #[] #[] 1537 3 #[] #[])
  fields := #[]
  methods := #[]
  instanceTypes := #[]
  staticTypes := #[]
  resolved := Array.replicate 12 none
  statics := none }

def pool4 : Array CpInfo := pool [(2, .class_ 4), (1, u "java/lang/CharSequence"), (42, .class_ 48), (0, u "java/lang/CharSequence$1CodePointIterator"), (10, .class_ 60), (0, u "java/lang/CharSequence$1CharIterator"), (5, .class_ 67), (0, u "java/lang/Object")] 63

/-- java/lang/CharSequence -/
def k4 : Class := { plain "java/lang/CharSequence" (some 0) with
  accessFlags := 1537
  interfaces := #[]
  cf := some (fileOf pool4 2 #[.nestMembers #[47, 59]] #[] 1537 66 #[] #[])
  fields := #[]
  methods := #[]
  instanceTypes := #[]
  staticTypes := #[]
  resolved := Array.replicate 131 none
  statics := none }

def pool5 : Array CpInfo := pool [(1, .class_ 2), (0, u "java/lang/constant/Constable"), (0, .class_ 4), (0, u "java/lang/Object")] 6

/-- java/lang/constant/Constable -/
def k5 : Class := { plain "java/lang/constant/Constable" (some 0) with
  accessFlags := 1537
  interfaces := #[]
  cf := some (fileOf pool5 1 #[] #[] 1537 3 #[] #[])
  fields := #[]
  methods := #[]
  instanceTypes := #[]
  staticTypes := #[]
  resolved := Array.replicate 11 none
  statics := none }

def pool6 : Array CpInfo := pool [(1, .class_ 2), (0, u "java/lang/constant/ConstantDesc"), (0, .class_ 4), (0, u "java/lang/Object")] 32

/-- java/lang/constant/ConstantDesc -/
def k6 : Class := { plain "java/lang/constant/ConstantDesc" (some 0) with
  accessFlags := 1537
  interfaces := #[]
  cf := some (fileOf pool6 1 #[] #[] 1537 3 #[] #[])
  fields := #[]
  methods := #[]
  instanceTypes := #[]
  staticTypes := #[]
  resolved := Array.replicate 37 none
  statics := none }

def pool7 : Array CpInfo := pool [(1, .methodref 2 3), (0, .class_ 4), (0, .nameAndType 5 6), (0, u "java/lang/Object"), (0, u "<init>"), (0, u "()V"), (2, .fieldref 10 11), (0, .class_ 12), (0, .nameAndType 13 14), (0, u "java/lang/String"), (0, u "value"), (0, u "[B"), (0, .fieldref 10 16), (0, .nameAndType 17 18), (0, u "coder"), (0, u "B"), (2, u "hash"), (0, u "I"), (2, u "hashIsZero"), (0, u "Z"), (0, .methodref 10 28), (0, .nameAndType 5 29), (0, u "([CIILjava/lang/Void;)V"), (8, .fieldref 10 39), (0, .nameAndType 40 26), (0, u "COMPACT_STRINGS"), (1, .class_ 44), (1, u "java/lang/StringUTF16"), (0, u "compress"), (1, .methodref 42 48), (0, .nameAndType 49 50), (0, u "coderFromArrayLen"), (0, u "([BI)B"), (56, .class_ 109), (1, u "java/lang/StringLatin1"), (32, u "()Z"), (34, .methodref 42 178), (0, .nameAndType 45 179), (0, u "([CII)[B"), (183, u "([BI)C"), (27, u "(II)V"), (35, u "(I)C"), (64, .methodref 10 493), (0, .nameAndType 494 142), (0, u "isLatin1"), (0, .methodref 107 496), (0, .nameAndType 497 363), (0, u "charAt"), (0, .methodref 42 496), (2, u "checkIndex"), (73, .class_ 576), (0, u "java/lang/CharSequence"), (22, u "CASE_INSENSITIVE_ORDER"), (0, u "Ljava/util/Comparator;"), (409, u "([C)V"), (42, .fieldref 1054 1055), (0, .class_ 1056), (0, .nameAndType 1057 1058), (0, u "jdk/internal/util/Preconditions"), (0, u "SIOOBE_FORMATTER"), (0, u "Ljava/util/function/BiFunction;"), (0, .methodref 1054 1060), (0, .nameAndType 501 1061), (0, u "(IILjava/util/function/BiFunction;)I"), (39, u "serialPersistentFields"), (0, u "[Ljava/io/ObjectStreamField;"), (0, .class_ 1104), (0, u "java/lang/String$CaseInsensitiveComparator"), (1, .class_ 1107), (0, u "java/io/Serializable"), (0, .class_ 1109), (0, u "java/lang/Comparable"), (0, .class_ 1111), (0, u "java/lang/constant/Constable"), (0, .class_ 1113), (0, u "java/lang/constant/ConstantDesc"), (2, u "serialVersionUID"), (0, u "J"), (3, u "REPL"), (0, u "C"), (2, u "LATIN1"), (1, u "UTF16")] 323

def k7m0 : Method := { name := "<init>", desc := "()V", sig := { parameters := [], returnType := none }, accessFlags := 1, code := none }
def k7c1 : Code := { maxStack := 5, maxLocals := 2, code := jdk_42_method_3_code, exceptionTable := #[], attributes := #[] }
def k7m1 : Method := { name := "<init>", desc := "([C)V", sig := { parameters := [(.array .char)], returnType := none }, accessFlags := 1, code := some k7c1 }
def k7c2 : Code := { maxStack := 2, maxLocals := 2, code := jdk_42_method_56_code, exceptionTable := #[], attributes := #[] }
def k7m2 : Method := { name := "charAt", desc := "(I)C", sig := { parameters := [.int], returnType := some .char }, accessFlags := 1, code := some k7c2 }
def k7c3 : Code := { maxStack := 4, maxLocals := 6, code := jdk_42_method_149_code, exceptionTable := #[], attributes := #[] }
def k7m3 : Method := { name := "<init>", desc := "([CIILjava/lang/Void;)V", sig := { parameters := [(.array .char), .int, .int, (.object "java/lang/Void")], returnType := none }, accessFlags := 2, code := some k7c3 }
def k7c4 : Code := { maxStack := 1, maxLocals := 1, code := jdk_42_method_154_code, exceptionTable := #[], attributes := #[] }
def k7m4 : Method := { name := "isLatin1", desc := "()Z", sig := { parameters := [], returnType := some .boolean }, accessFlags := 0, code := some k7c4 }
def k7c5 : Code := { maxStack := 3, maxLocals := 2, code := jdk_42_method_155_code, exceptionTable := #[], attributes := #[] }
def k7m5 : Method := { name := "checkIndex", desc := "(II)V", sig := { parameters := [.int, .int], returnType := none }, accessFlags := 8, code := some k7c5 }
/-- java/lang/String -/
def k7 : Class := { plain "java/lang/String" (some 0) with
  accessFlags := 49
  interfaces := #[2, 3, 4, 5, 6]
  cf := some (fileOf pool7 10 #[.nestMembers #[1103]] #[{ accessFlags := 1, nameIndex := 5, descriptorIndex := 6, attributes := #[] }, { accessFlags := 1, nameIndex := 5, descriptorIndex := 1010, attributes := #[] }, { accessFlags := 1, nameIndex := 497, descriptorIndex := 427, attributes := #[] }, { accessFlags := 2, nameIndex := 5, descriptorIndex := 29, attributes := #[] }, { accessFlags := 0, nameIndex := 494, descriptorIndex := 142, attributes := #[] }, { accessFlags := 8, nameIndex := 501, descriptorIndex := 391, attributes := #[] }] 49 2 #[1106, 1108, 575, 1110, 1112] #[{ accessFlags := 18, nameIndex := 13, descriptorIndex := 14, attributes := #[] }, { accessFlags := 18, nameIndex := 17, descriptorIndex := 18, attributes := #[] }, { accessFlags := 2, nameIndex := 21, descriptorIndex := 22, attributes := #[] }, { accessFlags := 2, nameIndex := 25, descriptorIndex := 26, attributes := #[] }, { accessFlags := 26, nameIndex := 1116, descriptorIndex := 1117, attributes := #[] }, { accessFlags := 24, nameIndex := 40, descriptorIndex := 26, attributes := #[] }, { accessFlags := 26, nameIndex := 1101, descriptorIndex := 1102, attributes := #[] }, { accessFlags := 26, nameIndex := 1121, descriptorIndex := 1122, attributes := #[] }, { accessFlags := 25, nameIndex := 599, descriptorIndex := 600, attributes := #[] }, { accessFlags := 24, nameIndex := 1125, descriptorIndex := 18, attributes := #[] }, { accessFlags := 24, nameIndex := 1127, descriptorIndex := 18, attributes := #[] }])
  fields := #[{ name := "value", type := (.array .byte), accessFlags := 18, slot := 0, constantValue := 0 }, { name := "coder", type := .byte, accessFlags := 18, slot := 1, constantValue := 0 }, { name := "hash", type := .int, accessFlags := 2, slot := 2, constantValue := 0 }, { name := "hashIsZero", type := .boolean, accessFlags := 2, slot := 3, constantValue := 0 }, { name := "serialVersionUID", type := .long, accessFlags := 26, slot := 0, constantValue := 0 }, { name := "COMPACT_STRINGS", type := .boolean, accessFlags := 24, slot := 1, constantValue := 0 }, { name := "serialPersistentFields", type := (.array (.object "java/io/ObjectStreamField")), accessFlags := 26, slot := 2, constantValue := 0 }, { name := "REPL", type := .char, accessFlags := 26, slot := 3, constantValue := 0 }, { name := "CASE_INSENSITIVE_ORDER", type := (.object "java/util/Comparator"), accessFlags := 25, slot := 4, constantValue := 0 }, { name := "LATIN1", type := .byte, accessFlags := 24, slot := 5, constantValue := 0 }, { name := "UTF16", type := .byte, accessFlags := 24, slot := 6, constantValue := 0 }]
  methods := #[k7m0, k7m1, k7m2, k7m3, k7m4, k7m5]
  instanceTypes := #[(.array .byte), .byte, .int, .boolean]
  staticTypes := #[.long, .boolean, (.array (.object "java/io/ObjectStreamField")), .char, (.object "java/util/Comparator"), .byte, .byte]
  resolved := Array.replicate 1451 none
  statics := some 0 }

def pool8 : Array CpInfo := pool [(3, .class_ 4), (0, u "java/lang/String"), (1, .class_ 8), (1, u "java/lang/Object"), (0, u "<init>"), (0, u "()V"), (0, .methodref 12 13), (0, .class_ 14), (0, .nameAndType 15 16), (0, u "java/lang/StringUTF16"), (0, u "newBytesLength"), (0, u "(I)I"), (3, .integer 1073741823), (23, .fieldref 12 45), (0, .nameAndType 46 47), (0, u "$assertionsDisabled"), (0, u "Z"), (0, .methodref 12 49), (0, .nameAndType 50 51), (0, u "length"), (0, u "([B)I"), (7, .fieldref 12 60), (0, .nameAndType 61 62), (0, u "HI_BYTE_SHIFT"), (0, u "I"), (0, .fieldref 12 64), (0, .nameAndType 65 62), (0, u "LO_BYTE_SHIFT"), (1, .methodref 12 68), (0, .nameAndType 69 70), (0, u "checkIndex"), (0, u "(I[B)V"), (0, .methodref 12 72), (0, .nameAndType 73 74), (0, u "getChar"), (0, u "([BI)C"), (32, .methodref 12 108), (0, .nameAndType 109 110), (0, u "newBytesFor"), (0, u "(I)[B"), (0, .methodref 12 112), (0, .nameAndType 113 114), (0, u "putChar"), (0, u "([BII)V"), (0, .methodref 12 116), (0, .nameAndType 117 118), (0, u "compress"), (0, u "([CI[BII)I"), (0, .methodref 12 120), (0, .nameAndType 121 122), (0, u "toBytes"), (0, u "([CII)[B"), (138, u "coderFromArrayLen"), (0, u "([BI)B"), (106, .class_ 371), (1, u "java/lang/StringUTF16$LinesSpliterator"), (20, u "charAt"), (21, .methodref 3 415), (0, .nameAndType 69 416), (0, u "(II)V"), (13, u "MAX_LENGTH"), (196, .class_ 628), (0, u "java/lang/StringUTF16$CodePointsSpliterator"), (0, .class_ 630), (0, u "java/lang/StringUTF16$CharsSpliterator")] 4

def k8m0 : Method := { name := "<init>", desc := "()V", sig := { parameters := [], returnType := none }, accessFlags := 0, code := none }
def k8c1 : Code := { maxStack := 1, maxLocals := 1, code := jdk_52_method_2_code, exceptionTable := #[], attributes := #[] }
def k8m1 : Method := { name := "newBytesFor", desc := "(I)[B", sig := { parameters := [.int], returnType := some (.array .byte) }, accessFlags := 9, code := some k8c1 }
def k8c2 : Code := { maxStack := 4, maxLocals := 1, code := jdk_52_method_3_code, exceptionTable := #[], attributes := #[] }
def k8m2 : Method := { name := "newBytesLength", desc := "(I)I", sig := { parameters := [.int], returnType := some .int }, accessFlags := 9, code := some k8c2 }
def k8c3 : Code := { maxStack := 4, maxLocals := 3, code := jdk_52_method_4_code, exceptionTable := #[], attributes := #[] }
def k8m3 : Method := { name := "putChar", desc := "([BII)V", sig := { parameters := [(.array .byte), .int, .int], returnType := none }, accessFlags := 8, code := some k8c3 }
def k8c4 : Code := { maxStack := 3, maxLocals := 2, code := jdk_52_method_5_code, exceptionTable := #[], attributes := #[] }
def k8m4 : Method := { name := "getChar", desc := "([BI)C", sig := { parameters := [(.array .byte), .int], returnType := some .char }, accessFlags := 8, code := some k8c4 }
def k8c5 : Code := { maxStack := 2, maxLocals := 1, code := jdk_52_method_6_code, exceptionTable := #[], attributes := #[] }
def k8m5 : Method := { name := "length", desc := "([B)I", sig := { parameters := [(.array .byte)], returnType := some .int }, accessFlags := 9, code := some k8c5 }
def k8c6 : Code := { maxStack := 4, maxLocals := 5, code := jdk_52_method_14_code, exceptionTable := #[], attributes := #[] }
def k8m6 : Method := { name := "toBytes", desc := "([CII)[B", sig := { parameters := [(.array .char), .int, .int], returnType := some (.array .byte) }, accessFlags := 9, code := some k8c6 }
def k8c7 : Code := { maxStack := 2, maxLocals := 2, code := jdk_52_method_15_code, exceptionTable := #[], attributes := #[] }
def k8m7 : Method := { name := "coderFromArrayLen", desc := "([BI)B", sig := { parameters := [(.array .byte), .int], returnType := some .byte }, accessFlags := 8, code := some k8c7 }
def k8c8 : Code := { maxStack := 5, maxLocals := 6, code := jdk_52_method_16_code, exceptionTable := #[], attributes := #[] }
def k8m8 : Method := { name := "compress", desc := "([CII)[B", sig := { parameters := [(.array .char), .int, .int], returnType := some (.array .byte) }, accessFlags := 9, code := some k8c8 }
def k8c9 : Code := { maxStack := 3, maxLocals := 7, code := jdk_52_method_21_code, exceptionTable := #[], attributes := #[] }
def k8m9 : Method := { name := "compress", desc := "([CI[BII)I", sig := { parameters := [(.array .char), .int, (.array .byte), .int, .int], returnType := some .int }, accessFlags := 9, code := some k8c9 }
def k8c10 : Code := { maxStack := 2, maxLocals := 2, code := jdk_52_method_83_code, exceptionTable := #[], attributes := #[] }
def k8m10 : Method := { name := "charAt", desc := "([BI)C", sig := { parameters := [(.array .byte), .int], returnType := some .char }, accessFlags := 9, code := some k8c10 }
def k8c11 : Code := { maxStack := 2, maxLocals := 2, code := jdk_52_method_91_code, exceptionTable := #[], attributes := #[] }
def k8m11 : Method := { name := "checkIndex", desc := "(I[B)V", sig := { parameters := [.int, (.array .byte)], returnType := none }, accessFlags := 9, code := some k8c11 }
/-- java/lang/StringUTF16 -/
def k8 : Class := { plain "java/lang/StringUTF16" (some 0) with
  accessFlags := 48
  interfaces := #[]
  cf := some (fileOf pool8 12 #[.nestMembers #[627, 629, 369]] #[{ accessFlags := 0, nameIndex := 9, descriptorIndex := 10, attributes := #[] }, { accessFlags := 9, nameIndex := 109, descriptorIndex := 110, attributes := #[] }, { accessFlags := 9, nameIndex := 15, descriptorIndex := 16, attributes := #[] }, { accessFlags := 8, nameIndex := 113, descriptorIndex := 114, attributes := #[] }, { accessFlags := 8, nameIndex := 73, descriptorIndex := 74, attributes := #[] }, { accessFlags := 9, nameIndex := 50, descriptorIndex := 51, attributes := #[] }, { accessFlags := 9, nameIndex := 121, descriptorIndex := 122, attributes := #[] }, { accessFlags := 8, nameIndex := 261, descriptorIndex := 262, attributes := #[] }, { accessFlags := 9, nameIndex := 117, descriptorIndex := 122, attributes := #[] }, { accessFlags := 9, nameIndex := 117, descriptorIndex := 118, attributes := #[] }, { accessFlags := 9, nameIndex := 392, descriptorIndex := 74, attributes := #[] }, { accessFlags := 9, nameIndex := 69, descriptorIndex := 70, attributes := #[] }] 48 6 #[] #[{ accessFlags := 26, nameIndex := 61, descriptorIndex := 62, attributes := #[] }, { accessFlags := 26, nameIndex := 65, descriptorIndex := 62, attributes := #[] }, { accessFlags := 24, nameIndex := 430, descriptorIndex := 62, attributes := #[] }, { accessFlags := 4120, nameIndex := 46, descriptorIndex := 47, attributes := #[] }])
  fields := #[{ name := "HI_BYTE_SHIFT", type := .int, accessFlags := 26, slot := 0, constantValue := 0 }, { name := "LO_BYTE_SHIFT", type := .int, accessFlags := 26, slot := 1, constantValue := 0 }, { name := "MAX_LENGTH", type := .int, accessFlags := 24, slot := 2, constantValue := 0 }, { name := "$assertionsDisabled", type := .boolean, accessFlags := 4120, slot := 3, constantValue := 0 }]
  methods := #[k8m0, k8m1, k8m2, k8m3, k8m4, k8m5, k8m6, k8m7, k8m8, k8m9, k8m10, k8m11]
  instanceTypes := #[]
  staticTypes := #[.int, .int, .int, .boolean]
  resolved := Array.replicate 635 none
  statics := some 1 }

def pool9 : Array CpInfo := pool [(2, .class_ 4), (1, u "java/lang/Object"), (2, .class_ 8), (0, u "com/example/vyasa/vyasa/SqlLexer$Rule"), (7, .class_ 18), (1, u "com/example/vyasa/vyasa/SqlLexer"), (0, u "rules"), (0, u "Ljava/util/Set;"), (11, .class_ 34), (1, u "java/lang/String"), (25, u "(Ljava/lang/String;I)I"), (0, .methodref 32 62), (0, .nameAndType 63 64), (0, u "charAt"), (0, u "(I)C"), (23, u "DOLLAR_TAG"), (0, u "Ljava/util/regex/Pattern;"), (72, u "lineNumber")] 6

def k9c0 : Code := { maxStack := 2, maxLocals := 4, code := prog_31_method_8_code, exceptionTable := #[], attributes := #[] }
def k9m0 : Method := { name := "lineNumber", desc := "(Ljava/lang/String;I)I", sig := { parameters := [(.object "java/lang/String"), .int], returnType := some .int }, accessFlags := 8, code := some k9c0 }
/-- com/example/vyasa/vyasa/SqlLexer -/
def k9 : Class := { plain "com/example/vyasa/vyasa/SqlLexer" (some 0) with
  accessFlags := 32
  interfaces := #[]
  cf := some (fileOf pool9 16 #[.nestMembers #[7]] #[{ accessFlags := 8, nameIndex := 162, descriptorIndex := 60, attributes := #[] }] 32 2 #[] #[{ accessFlags := 26, nameIndex := 88, descriptorIndex := 89, attributes := #[] }, { accessFlags := 18, nameIndex := 19, descriptorIndex := 20, attributes := #[] }])
  fields := #[{ name := "DOLLAR_TAG", type := (.object "java/util/regex/Pattern"), accessFlags := 26, slot := 0, constantValue := 0 }, { name := "rules", type := (.object "java/util/Set"), accessFlags := 18, slot := 0, constantValue := 0 }]
  methods := #[k9m0]
  instanceTypes := #[(.object "java/util/Set")]
  staticTypes := #[(.object "java/util/regex/Pattern")]
  resolved := Array.replicate 169 none
  statics := none }

def pool10 : Array CpInfo := pool [(1, .class_ 2), (0, u "java/lang/String"), (1, .class_ 6), (1, u "java/lang/Object"), (0, u "<init>"), (0, u "()V"), (0, .methodref 1 10), (0, .nameAndType 11 12), (0, u "checkIndex"), (0, u "(II)V"), (1, .class_ 16), (1, u "java/lang/StringLatin1"), (36, u "([BI)C"), (67, u "$assertionsDisabled"), (0, u "Z"), (98, .class_ 223), (1, u "java/lang/StringLatin1$LinesSpliterator"), (28, u "charAt"), (137, .class_ 391), (0, u "java/lang/StringLatin1$CharsSpliterator")] 3

def k10m0 : Method := { name := "<init>", desc := "()V", sig := { parameters := [], returnType := none }, accessFlags := 0, code := none }
def k10c1 : Code := { maxStack := 2, maxLocals := 2, code := jdk_43_method_2_code, exceptionTable := #[], attributes := #[] }
def k10m1 : Method := { name := "charAt", desc := "([BI)C", sig := { parameters := [(.array .byte), .int], returnType := some .char }, accessFlags := 9, code := some k10c1 }
/-- java/lang/StringLatin1 -/
def k10 : Class := { plain "java/lang/StringLatin1" (some 0) with
  accessFlags := 48
  interfaces := #[]
  cf := some (fileOf pool10 14 #[.nestMembers #[390, 221]] #[{ accessFlags := 0, nameIndex := 7, descriptorIndex := 8, attributes := #[] }, { accessFlags := 9, nameIndex := 252, descriptorIndex := 53, attributes := #[] }] 48 4 #[] #[{ accessFlags := 4120, nameIndex := 121, descriptorIndex := 122, attributes := #[] }])
  fields := #[{ name := "$assertionsDisabled", type := .boolean, accessFlags := 4120, slot := 0, constantValue := 0 }]
  methods := #[k10m0, k10m1]
  instanceTypes := #[]
  staticTypes := #[.boolean]
  resolved := Array.replicate 395 none
  statics := none }

def pool11 : Array CpInfo := pool [(2, .class_ 4), (1, u "java/lang/Object"), (0, u "<init>"), (0, u "()V"), (17, .class_ 26), (1, u "jdk/internal/util/Preconditions"), (6, u "checkIndex"), (21, .class_ 56), (0, u "jdk/internal/util/Preconditions$4"), (57, .class_ 115), (0, u "jdk/internal/util/Preconditions$1"), (7, u "SIOOBE_FORMATTER"), (0, u "Ljava/util/function/BiFunction;"), (0, .class_ 126), (0, u "jdk/internal/util/Preconditions$2"), (3, u "AIOOBE_FORMATTER"), (0, .class_ 132), (0, u "jdk/internal/util/Preconditions$3"), (3, u "IOOBE_FORMATTER"), (41, u "(IILjava/util/function/BiFunction;)I")] 15

def k11m0 : Method := { name := "<init>", desc := "()V", sig := { parameters := [], returnType := none }, accessFlags := 1, code := none }
def k11c1 : Code := { maxStack := 3, maxLocals := 3, code := jdk_41_method_11_code, exceptionTable := #[], attributes := #[] }
def k11m1 : Method := { name := "checkIndex", desc := "(IILjava/util/function/BiFunction;)I", sig := { parameters := [.int, .int, (.object "java/util/function/BiFunction")], returnType := some .int }, accessFlags := 9, code := some k11c1 }
/-- jdk/internal/util/Preconditions -/
def k11 : Class := { plain "jdk/internal/util/Preconditions" (some 0) with
  accessFlags := 33
  interfaces := #[]
  cf := some (fileOf pool11 24 #[.nestMembers #[55, 131, 125, 114]] #[{ accessFlags := 1, nameIndex := 5, descriptorIndex := 6, attributes := #[] }, { accessFlags := 9, nameIndex := 33, descriptorIndex := 178, attributes := #[] }] 33 2 #[] #[{ accessFlags := 25, nameIndex := 123, descriptorIndex := 124, attributes := #[] }, { accessFlags := 25, nameIndex := 130, descriptorIndex := 124, attributes := #[] }, { accessFlags := 25, nameIndex := 136, descriptorIndex := 124, attributes := #[] }])
  fields := #[{ name := "SIOOBE_FORMATTER", type := (.object "java/util/function/BiFunction"), accessFlags := 25, slot := 0, constantValue := 0 }, { name := "AIOOBE_FORMATTER", type := (.object "java/util/function/BiFunction"), accessFlags := 25, slot := 1, constantValue := 0 }, { name := "IOOBE_FORMATTER", type := (.object "java/util/function/BiFunction"), accessFlags := 25, slot := 2, constantValue := 0 }]
  methods := #[k11m0, k11m1]
  instanceTypes := #[]
  staticTypes := #[(.object "java/util/function/BiFunction"), (.object "java/util/function/BiFunction"), (.object "java/util/function/BiFunction")]
  resolved := Array.replicate 194 none
  statics := some 2 }

def pool12 : Array CpInfo := pool [(9, u "<init>"), (6, .class_ 18), (1, u "java/lang/Object"), (0, u "()V"), (1, .class_ 23), (1, u "jdk/internal/util/ArraysSupport"), (0, u "LOG2_ARRAY_LONG_INDEX_SCALE"), (0, u "I"), (2, u "U"), (0, u "Ljdk/internal/misc/Unsafe;"), (8, u "BIG_ENDIAN"), (0, u "Z"), (8, u "LOG2_BYTE_BIT_SIZE"), (4, u "LOG2_ARRAY_INT_INDEX_SCALE"), (54, u "JLA"), (0, u "Ljdk/internal/access/JavaLangAccess;"), (11, u "LOG2_ARRAY_BOOLEAN_INDEX_SCALE"), (9, u "LOG2_ARRAY_BYTE_INDEX_SCALE"), (5, u "LOG2_ARRAY_CHAR_INDEX_SCALE"), (5, u "LOG2_ARRAY_SHORT_INDEX_SCALE"), (18, u "LOG2_ARRAY_FLOAT_INDEX_SCALE"), (24, u "LOG2_ARRAY_DOUBLE_INDEX_SCALE"), (89, u "T_BOOLEAN"), (2, u "T_CHAR"), (1, u "T_FLOAT"), (1, u "T_DOUBLE"), (1, u "T_BYTE"), (1, u "T_SHORT"), (1, u "T_INT"), (1, u "T_LONG"), (1, u "SOFT_MAX_ARRAY_LENGTH")] 83

def k12m0 : Method := { name := "<init>", desc := "()V", sig := { parameters := [], returnType := none }, accessFlags := 2, code := none }
/-- jdk/internal/util/ArraysSupport -/
def k12 : Class := { plain "jdk/internal/util/ArraysSupport" (some 0) with
  accessFlags := 33
  interfaces := #[]
  cf := some (fileOf pool12 21 #[] #[{ accessFlags := 2, nameIndex := 9, descriptorIndex := 19, attributes := #[] }] 33 16 #[] #[{ accessFlags := 24, nameIndex := 28, descriptorIndex := 29, attributes := #[] }, { accessFlags := 26, nameIndex := 38, descriptorIndex := 39, attributes := #[] }, { accessFlags := 25, nameIndex := 121, descriptorIndex := 25, attributes := #[] }, { accessFlags := 25, nameIndex := 131, descriptorIndex := 25, attributes := #[] }, { accessFlags := 25, nameIndex := 137, descriptorIndex := 25, attributes := #[] }, { accessFlags := 25, nameIndex := 143, descriptorIndex := 25, attributes := #[] }, { accessFlags := 25, nameIndex := 53, descriptorIndex := 25, attributes := #[] }, { accessFlags := 25, nameIndex := 24, descriptorIndex := 25, attributes := #[] }, { accessFlags := 25, nameIndex := 162, descriptorIndex := 25, attributes := #[] }, { accessFlags := 25, nameIndex := 187, descriptorIndex := 25, attributes := #[] }, { accessFlags := 26, nameIndex := 48, descriptorIndex := 25, attributes := #[] }, { accessFlags := 25, nameIndex := 277, descriptorIndex := 25, attributes := #[] }, { accessFlags := 25, nameIndex := 280, descriptorIndex := 25, attributes := #[] }, { accessFlags := 25, nameIndex := 282, descriptorIndex := 25, attributes := #[] }, { accessFlags := 25, nameIndex := 284, descriptorIndex := 25, attributes := #[] }, { accessFlags := 25, nameIndex := 286, descriptorIndex := 25, attributes := #[] }, { accessFlags := 25, nameIndex := 288, descriptorIndex := 25, attributes := #[] }, { accessFlags := 25, nameIndex := 290, descriptorIndex := 25, attributes := #[] }, { accessFlags := 25, nameIndex := 292, descriptorIndex := 25, attributes := #[] }, { accessFlags := 26, nameIndex := 108, descriptorIndex := 109, attributes := #[] }, { accessFlags := 25, nameIndex := 294, descriptorIndex := 25, attributes := #[] }])
  fields := #[{ name := "U", type := (.object "jdk/internal/misc/Unsafe"), accessFlags := 24, slot := 0, constantValue := 0 }, { name := "BIG_ENDIAN", type := .boolean, accessFlags := 26, slot := 1, constantValue := 0 }, { name := "LOG2_ARRAY_BOOLEAN_INDEX_SCALE", type := .int, accessFlags := 25, slot := 2, constantValue := 0 }, { name := "LOG2_ARRAY_BYTE_INDEX_SCALE", type := .int, accessFlags := 25, slot := 3, constantValue := 0 }, { name := "LOG2_ARRAY_CHAR_INDEX_SCALE", type := .int, accessFlags := 25, slot := 4, constantValue := 0 }, { name := "LOG2_ARRAY_SHORT_INDEX_SCALE", type := .int, accessFlags := 25, slot := 5, constantValue := 0 }, { name := "LOG2_ARRAY_INT_INDEX_SCALE", type := .int, accessFlags := 25, slot := 6, constantValue := 0 }, { name := "LOG2_ARRAY_LONG_INDEX_SCALE", type := .int, accessFlags := 25, slot := 7, constantValue := 0 }, { name := "LOG2_ARRAY_FLOAT_INDEX_SCALE", type := .int, accessFlags := 25, slot := 8, constantValue := 0 }, { name := "LOG2_ARRAY_DOUBLE_INDEX_SCALE", type := .int, accessFlags := 25, slot := 9, constantValue := 0 }, { name := "LOG2_BYTE_BIT_SIZE", type := .int, accessFlags := 26, slot := 10, constantValue := 0 }, { name := "T_BOOLEAN", type := .int, accessFlags := 25, slot := 11, constantValue := 0 }, { name := "T_CHAR", type := .int, accessFlags := 25, slot := 12, constantValue := 0 }, { name := "T_FLOAT", type := .int, accessFlags := 25, slot := 13, constantValue := 0 }, { name := "T_DOUBLE", type := .int, accessFlags := 25, slot := 14, constantValue := 0 }, { name := "T_BYTE", type := .int, accessFlags := 25, slot := 15, constantValue := 0 }, { name := "T_SHORT", type := .int, accessFlags := 25, slot := 16, constantValue := 0 }, { name := "T_INT", type := .int, accessFlags := 25, slot := 17, constantValue := 0 }, { name := "T_LONG", type := .int, accessFlags := 25, slot := 18, constantValue := 0 }, { name := "JLA", type := (.object "jdk/internal/access/JavaLangAccess"), accessFlags := 26, slot := 19, constantValue := 0 }, { name := "SOFT_MAX_ARRAY_LENGTH", type := .int, accessFlags := 25, slot := 20, constantValue := 0 }]
  methods := #[k12m0]
  instanceTypes := #[]
  staticTypes := #[(.object "jdk/internal/misc/Unsafe"), .boolean, .int, .int, .int, .int, .int, .int, .int, .int, .int, .int, .int, .int, .int, .int, .int, .int, .int, (.object "jdk/internal/access/JavaLangAccess"), .int]
  resolved := Array.replicate 378 none
  statics := none }

def pool13 : Array CpInfo := pool [(1, u "java/lang/Cloneable"), (0, .class_ 1), (0, u "java/lang/Object"), (0, .class_ 3)] 3

/-- java/lang/Cloneable -/
def k13 : Class := { plain "java/lang/Cloneable" (some 0) with
  accessFlags := 1537
  interfaces := #[]
  cf := some (fileOf pool13 2 #[] #[] 1537 4 #[] #[])
  fields := #[]
  methods := #[]
  instanceTypes := #[]
  staticTypes := #[]
  resolved := Array.replicate 8 none
  statics := none }

/-- the primitive byte -/
def k14 : Class := { plain "byte" none with kind := .primitive 'B', accessFlags := 0x411 }
/-- [B -/
def k15 : Class := { plain "[B" (some 0) with kind := .array 14 .byte, interfaces := #[13, 2], accessFlags := 1041 }

/-- the primitive char -/
def k16 : Class := { plain "char" none with kind := .primitive 'C', accessFlags := 0x411 }
/-- [C -/
def k17 : Class := { plain "[C" (some 0) with kind := .array 16 .char, interfaces := #[13, 2], accessFlags := 1041 }

/-- the primitive int -/
def k18 : Class := { plain "int" none with kind := .primitive 'I', accessFlags := 0x411 }
/-- [I -/
def k19 : Class := { plain "[I" (some 0) with kind := .array 18 .int, interfaces := #[13, 2], accessFlags := 1041 }

def heap : Heap := #[{ cls := 7, slots := #[.long 0, .int 1, .null, .int 0, .null, .int 0, .int 0], vm := .statics 7 },
  { cls := 8, slots := #[.int 0, .int 8, .int 0, .int 1], vm := .statics 8 },
  { cls := 11, slots := #[.null, .null, .null], vm := .statics 11 }]
def classes : Array Class := #[k0, k1, k2, k3, k4, k5, k6, k7, k8, k9, k10, k11, k12, k13, k14, k15, k16, k17, k18, k19]
def interned : List (Array UInt16 × Addr) := []
def slotsUsed : Nat := 14
def theMethod : MethodId := ⟨1, 3⟩
def args0 : Array Value := #[.int 5, .int 6, .int 7, .int 8, .int 9]
def aboutOver (below : List Frame) : State where
  vm := { classes := classes, interned := interned.toArray }
  heap := heap
  slotsUsed := slotsUsed
  threads := #[{ frames := .invoking theMethod args0 :: below }]
def below0 : List Frame := [.native { method := ⟨0, 0⟩, args := #[] }]
def about1 : State := aboutOver below0
def p0 : Program := .bare "" "" ""
def e0 : Env := launch0.env 0 0 0
theorem w_frames : about1.frames = Frame.invoking theMethod args0 :: below0 := rfl
set_option maxRecDepth 65536 in
theorem w_args : argsFit about1.vm theMethod args0 = true := by decide +kernel
set_option maxRecDepth 65536 in
theorem w_heap : heapFits about1 = true := by decide +kernel
set_option maxRecDepth 65536 in
theorem w_runnable : about1.curStatus? = some .runnable := by decide +kernel
set_option maxRecDepth 65536 in
theorem w_alone : about1.alone = true := by decide +kernel
set_option maxRecDepth 65536 in
theorem w_named : about1.methodNamed? x = some theMethod := by decide +kernel
set_option maxRecDepth 65536 in
theorem w_hears : about1.hears theMethod below0 = true := by decide +kernel
set_option maxRecDepth 65536 in
theorem w_ripe : about1.ripe theMethod args0 below0 = true := by decide +kernel
theorem w_running : about1.status = .running := rfl
set_option maxRecDepth 65536 in
theorem w_room : about1.hasRoom e0.platform room_1 = true :=
  launch0.hasRoom_least _ room_1 (by decide +kernel) (by decide +kernel) (by decide +kernel) (by decide +kernel) (by decide +kernel) (by decide +kernel)
theorem allAtoms_all (ts : List Jvm.Cond) (a : Array Jvm.Value) (st : Jvm.State) : (allAtoms ts).before a st = ts.all (fun c => c.before a st) := by
  induction ts with
  | nil => rfl
  | cons c t ih =>
    show (Jvm.Cond.and c (allAtoms t)).before a st = _
    rw [Jvm.Cond.before_and, ih, List.all_cons]
def words1 : List Jvm.Cond := Jvm.Cond.code x code maxLocals ret :: tables_1
/-- a 'code' word, met by the world's own term for the bytes: nothing is compared byte by byte -/
theorem code_word {y : MethodName} {bytes : ByteArray} {mx : Nat} {rt : Option FieldType} {a : Array Value} {s : State} {m : MethodId} {meth : Method} {c : Code} (h1 : s.methodNamed? y = some m) (h2 : s.vm.method? m = some meth) (h3 : meth.code = some c) (h4 : c.code = bytes)
    (h5 : (c.maxLocals == mx && c.exceptionTable.isEmpty && decide (c.maxStack ≤ mostOperands) && decide (meth.sig.returnType = rt) && !meth.locks && decide (parseMethodDescriptor y.desc = some meth.sig)) = true) : (Jvm.Cond.code y bytes mx rt).before a s = true := by
  simp only [Bool.and_eq_true, beq_iff_eq, Bool.not_eq_true', decide_eq_true_eq] at h5
  obtain ⟨⟨⟨⟨⟨g1, g2⟩, g3⟩, g4⟩, g5⟩, g6⟩ := h5
  simp [Cond.before, Cond.holds, Cond.value, h1, h2, h3, h4, g1, g2, g3, g4, g5, g6]
def isCode : Jvm.Cond → Bool
  | .code _ _ _ _ => true
  | _ => false
theorem all_split {L : List Jvm.Cond} {P : Jvm.Cond → Bool} (h1 : L.all (fun c => isCode c || P c) = true) (h2 : ∀ c ∈ L.filter isCode, P c = true) : L.all P = true := by
  refine List.all_eq_true.mpr fun c hc => ?_
  have h := List.all_eq_true.mp h1 c hc
  rcases Bool.eq_false_or_eq_true (isCode c) with hi | hi
  · exact h2 c (List.mem_filter.mpr ⟨hc, hi⟩)
  · simpa [hi] using h
set_option maxRecDepth 65536 in
theorem w_c0 : (Jvm.Cond.code x code maxLocals ret).before args0 about1 = true := code_word (m := ⟨1, 3⟩) (meth := k1m3) (c := k1c3) (by decide +kernel) rfl rfl rfl (by decide +kernel)
set_option maxRecDepth 65536 in
theorem w_c1 : (Jvm.Cond.code ({ cls := "com/example/vyasa/vyasa/SqlLexerLineNumberPinLaw", name := "draw", desc := "(I)C" } : Jvm.MethodName) method_2_code (1 : Nat) (Option.some Jvm.ClassFile.FieldType.char)).before args0 about1 = true := code_word (m := ⟨1, 1⟩) (meth := k1m1) (c := k1c1) (by decide +kernel) rfl rfl rfl (by decide +kernel)
set_option maxRecDepth 65536 in
theorem w_c2 : (Jvm.Cond.code ({ cls := "java/lang/String", name := "<init>", desc := "([C)V" } : Jvm.MethodName) jdk_42_method_3_code (2 : Nat) (Option.none : Option Jvm.ClassFile.FieldType)).before args0 about1 = true := code_word (m := ⟨7, 1⟩) (meth := k7m1) (c := k7c1) (by decide +kernel) rfl rfl rfl (by decide +kernel)
set_option maxRecDepth 65536 in
theorem w_c3 : (Jvm.Cond.code ({ cls := "java/lang/String", name := "<init>", desc := "([CIILjava/lang/Void;)V" } : Jvm.MethodName) jdk_42_method_149_code (6 : Nat) (Option.none : Option Jvm.ClassFile.FieldType)).before args0 about1 = true := code_word (m := ⟨7, 3⟩) (meth := k7m3) (c := k7c3) (by decide +kernel) rfl rfl rfl (by decide +kernel)
set_option maxRecDepth 65536 in
theorem w_c4 : (Jvm.Cond.code ({ cls := "java/lang/Object", name := "<init>", desc := "()V" } : Jvm.MethodName) object_method_1_code (1 : Nat) (Option.none : Option Jvm.ClassFile.FieldType)).before args0 about1 = true := code_word (m := ⟨0, 0⟩) (meth := k0m0) (c := k0c0) (by decide +kernel) rfl rfl rfl (by decide +kernel)
set_option maxRecDepth 65536 in
theorem w_c5 : (Jvm.Cond.code ({ cls := "java/lang/StringUTF16", name := "compress", desc := "([CII)[B" } : Jvm.MethodName) jdk_52_method_16_code (6 : Nat) (Option.some (Jvm.ClassFile.FieldType.array Jvm.ClassFile.FieldType.byte))).before args0 about1 = true := code_word (m := ⟨8, 8⟩) (meth := k8m8) (c := k8c8) (by decide +kernel) rfl rfl rfl (by decide +kernel)
set_option maxRecDepth 65536 in
theorem w_c6 : (Jvm.Cond.code ({ cls := "java/lang/StringUTF16", name := "compress", desc := "([CI[BII)I" } : Jvm.MethodName) jdk_52_method_21_code (7 : Nat) (Option.some Jvm.ClassFile.FieldType.int)).before args0 about1 = true := code_word (m := ⟨8, 9⟩) (meth := k8m9) (c := k8c9) (by decide +kernel) rfl rfl rfl (by decide +kernel)
set_option maxRecDepth 65536 in
theorem w_c7 : (Jvm.Cond.code ({ cls := "java/lang/StringUTF16", name := "coderFromArrayLen", desc := "([BI)B" } : Jvm.MethodName) jdk_52_method_15_code (2 : Nat) (Option.some Jvm.ClassFile.FieldType.byte)).before args0 about1 = true := code_word (m := ⟨8, 7⟩) (meth := k8m7) (c := k8c7) (by decide +kernel) rfl rfl rfl (by decide +kernel)
set_option maxRecDepth 65536 in
theorem w_c8 : (Jvm.Cond.code ({ cls := "com/example/vyasa/vyasa/SqlLexerLineNumberPinLaw", name := "nl", desc := "(CII)I" } : Jvm.MethodName) method_3_code (3 : Nat) (Option.some Jvm.ClassFile.FieldType.int)).before args0 about1 = true := code_word (m := ⟨1, 2⟩) (meth := k1m2) (c := k1c2) (by decide +kernel) rfl rfl rfl (by decide +kernel)
set_option maxRecDepth 65536 in
theorem w_c9 : (Jvm.Cond.code ({ cls := "com/example/vyasa/vyasa/SqlLexer", name := "lineNumber", desc := "(Ljava/lang/String;I)I" } : Jvm.MethodName) prog_31_method_8_code (4 : Nat) (Option.some Jvm.ClassFile.FieldType.int)).before args0 about1 = true := code_word (m := ⟨9, 0⟩) (meth := k9m0) (c := k9c0) (by decide +kernel) rfl rfl rfl (by decide +kernel)
set_option maxRecDepth 65536 in
theorem w_c10 : (Jvm.Cond.code ({ cls := "java/lang/String", name := "charAt", desc := "(I)C" } : Jvm.MethodName) jdk_42_method_56_code (2 : Nat) (Option.some Jvm.ClassFile.FieldType.char)).before args0 about1 = true := code_word (m := ⟨7, 2⟩) (meth := k7m2) (c := k7c2) (by decide +kernel) rfl rfl rfl (by decide +kernel)
set_option maxRecDepth 65536 in
theorem w_c11 : (Jvm.Cond.code ({ cls := "java/lang/String", name := "isLatin1", desc := "()Z" } : Jvm.MethodName) jdk_42_method_154_code (1 : Nat) (Option.some Jvm.ClassFile.FieldType.boolean)).before args0 about1 = true := code_word (m := ⟨7, 4⟩) (meth := k7m4) (c := k7c4) (by decide +kernel) rfl rfl rfl (by decide +kernel)
set_option maxRecDepth 65536 in
theorem w_c12 : (Jvm.Cond.code ({ cls := "java/lang/StringLatin1", name := "charAt", desc := "([BI)C" } : Jvm.MethodName) jdk_43_method_2_code (2 : Nat) (Option.some Jvm.ClassFile.FieldType.char)).before args0 about1 = true := code_word (m := ⟨10, 1⟩) (meth := k10m1) (c := k10c1) (by decide +kernel) rfl rfl rfl (by decide +kernel)
set_option maxRecDepth 65536 in
theorem w_c13 : (Jvm.Cond.code ({ cls := "java/lang/String", name := "checkIndex", desc := "(II)V" } : Jvm.MethodName) jdk_42_method_155_code (2 : Nat) (Option.none : Option Jvm.ClassFile.FieldType)).before args0 about1 = true := code_word (m := ⟨7, 5⟩) (meth := k7m5) (c := k7c5) (by decide +kernel) rfl rfl rfl (by decide +kernel)
set_option maxRecDepth 65536 in
theorem w_c14 : (Jvm.Cond.code ({ cls := "jdk/internal/util/Preconditions", name := "checkIndex", desc := "(IILjava/util/function/BiFunction;)I" } : Jvm.MethodName) jdk_41_method_11_code (3 : Nat) (Option.some Jvm.ClassFile.FieldType.int)).before args0 about1 = true := code_word (m := ⟨11, 1⟩) (meth := k11m1) (c := k11c1) (by decide +kernel) rfl rfl rfl (by decide +kernel)
set_option maxRecDepth 65536 in
theorem w_c15 : (Jvm.Cond.code ({ cls := "java/lang/StringUTF16", name := "toBytes", desc := "([CII)[B" } : Jvm.MethodName) jdk_52_method_14_code (5 : Nat) (Option.some (Jvm.ClassFile.FieldType.array Jvm.ClassFile.FieldType.byte))).before args0 about1 = true := code_word (m := ⟨8, 6⟩) (meth := k8m6) (c := k8c6) (by decide +kernel) rfl rfl rfl (by decide +kernel)
set_option maxRecDepth 65536 in
theorem w_c16 : (Jvm.Cond.code ({ cls := "java/lang/StringUTF16", name := "newBytesFor", desc := "(I)[B" } : Jvm.MethodName) jdk_52_method_2_code (1 : Nat) (Option.some (Jvm.ClassFile.FieldType.array Jvm.ClassFile.FieldType.byte))).before args0 about1 = true := code_word (m := ⟨8, 1⟩) (meth := k8m1) (c := k8c1) (by decide +kernel) rfl rfl rfl (by decide +kernel)
set_option maxRecDepth 65536 in
theorem w_c17 : (Jvm.Cond.code ({ cls := "java/lang/StringUTF16", name := "newBytesLength", desc := "(I)I" } : Jvm.MethodName) jdk_52_method_3_code (1 : Nat) (Option.some Jvm.ClassFile.FieldType.int)).before args0 about1 = true := code_word (m := ⟨8, 2⟩) (meth := k8m2) (c := k8c2) (by decide +kernel) rfl rfl rfl (by decide +kernel)
set_option maxRecDepth 65536 in
theorem w_c18 : (Jvm.Cond.code ({ cls := "java/lang/StringUTF16", name := "putChar", desc := "([BII)V" } : Jvm.MethodName) jdk_52_method_4_code (3 : Nat) (Option.none : Option Jvm.ClassFile.FieldType)).before args0 about1 = true := code_word (m := ⟨8, 3⟩) (meth := k8m3) (c := k8c3) (by decide +kernel) rfl rfl rfl (by decide +kernel)
set_option maxRecDepth 65536 in
theorem w_c19 : (Jvm.Cond.code ({ cls := "java/lang/StringUTF16", name := "getChar", desc := "([BI)C" } : Jvm.MethodName) jdk_52_method_5_code (2 : Nat) (Option.some Jvm.ClassFile.FieldType.char)).before args0 about1 = true := code_word (m := ⟨8, 4⟩) (meth := k8m4) (c := k8c4) (by decide +kernel) rfl rfl rfl (by decide +kernel)
set_option maxRecDepth 65536 in
theorem w_c20 : (Jvm.Cond.code ({ cls := "java/lang/StringUTF16", name := "charAt", desc := "([BI)C" } : Jvm.MethodName) jdk_52_method_83_code (2 : Nat) (Option.some Jvm.ClassFile.FieldType.char)).before args0 about1 = true := code_word (m := ⟨8, 10⟩) (meth := k8m10) (c := k8c10) (by decide +kernel) rfl rfl rfl (by decide +kernel)
set_option maxRecDepth 65536 in
theorem w_c21 : (Jvm.Cond.code ({ cls := "java/lang/StringUTF16", name := "checkIndex", desc := "(I[B)V" } : Jvm.MethodName) jdk_52_method_91_code (2 : Nat) (Option.none : Option Jvm.ClassFile.FieldType)).before args0 about1 = true := code_word (m := ⟨8, 11⟩) (meth := k8m11) (c := k8c11) (by decide +kernel) rfl rfl rfl (by decide +kernel)
set_option maxRecDepth 65536 in
theorem w_c22 : (Jvm.Cond.code ({ cls := "java/lang/StringUTF16", name := "length", desc := "([B)I" } : Jvm.MethodName) jdk_52_method_6_code (1 : Nat) (Option.some Jvm.ClassFile.FieldType.int)).before args0 about1 = true := code_word (m := ⟨8, 5⟩) (meth := k8m5) (c := k8c5) (by decide +kernel) rfl rfl rfl (by decide +kernel)
def codes1 : List Jvm.Cond := [Jvm.Cond.code x code maxLocals ret, Jvm.Cond.code ({ cls := "com/example/vyasa/vyasa/SqlLexerLineNumberPinLaw", name := "draw", desc := "(I)C" } : Jvm.MethodName) method_2_code (1 : Nat) (Option.some Jvm.ClassFile.FieldType.char), Jvm.Cond.code ({ cls := "java/lang/String", name := "<init>", desc := "([C)V" } : Jvm.MethodName) jdk_42_method_3_code (2 : Nat) (Option.none : Option Jvm.ClassFile.FieldType), Jvm.Cond.code ({ cls := "java/lang/String", name := "<init>", desc := "([CIILjava/lang/Void;)V" } : Jvm.MethodName) jdk_42_method_149_code (6 : Nat) (Option.none : Option Jvm.ClassFile.FieldType), Jvm.Cond.code ({ cls := "java/lang/Object", name := "<init>", desc := "()V" } : Jvm.MethodName) object_method_1_code (1 : Nat) (Option.none : Option Jvm.ClassFile.FieldType), Jvm.Cond.code ({ cls := "java/lang/StringUTF16", name := "compress", desc := "([CII)[B" } : Jvm.MethodName) jdk_52_method_16_code (6 : Nat) (Option.some (Jvm.ClassFile.FieldType.array Jvm.ClassFile.FieldType.byte)), Jvm.Cond.code ({ cls := "java/lang/StringUTF16", name := "compress", desc := "([CI[BII)I" } : Jvm.MethodName) jdk_52_method_21_code (7 : Nat) (Option.some Jvm.ClassFile.FieldType.int), Jvm.Cond.code ({ cls := "java/lang/StringUTF16", name := "coderFromArrayLen", desc := "([BI)B" } : Jvm.MethodName) jdk_52_method_15_code (2 : Nat) (Option.some Jvm.ClassFile.FieldType.byte), Jvm.Cond.code ({ cls := "com/example/vyasa/vyasa/SqlLexerLineNumberPinLaw", name := "nl", desc := "(CII)I" } : Jvm.MethodName) method_3_code (3 : Nat) (Option.some Jvm.ClassFile.FieldType.int), Jvm.Cond.code ({ cls := "com/example/vyasa/vyasa/SqlLexer", name := "lineNumber", desc := "(Ljava/lang/String;I)I" } : Jvm.MethodName) prog_31_method_8_code (4 : Nat) (Option.some Jvm.ClassFile.FieldType.int), Jvm.Cond.code ({ cls := "java/lang/String", name := "charAt", desc := "(I)C" } : Jvm.MethodName) jdk_42_method_56_code (2 : Nat) (Option.some Jvm.ClassFile.FieldType.char), Jvm.Cond.code ({ cls := "java/lang/String", name := "isLatin1", desc := "()Z" } : Jvm.MethodName) jdk_42_method_154_code (1 : Nat) (Option.some Jvm.ClassFile.FieldType.boolean), Jvm.Cond.code ({ cls := "java/lang/StringLatin1", name := "charAt", desc := "([BI)C" } : Jvm.MethodName) jdk_43_method_2_code (2 : Nat) (Option.some Jvm.ClassFile.FieldType.char), Jvm.Cond.code ({ cls := "java/lang/String", name := "checkIndex", desc := "(II)V" } : Jvm.MethodName) jdk_42_method_155_code (2 : Nat) (Option.none : Option Jvm.ClassFile.FieldType), Jvm.Cond.code ({ cls := "jdk/internal/util/Preconditions", name := "checkIndex", desc := "(IILjava/util/function/BiFunction;)I" } : Jvm.MethodName) jdk_41_method_11_code (3 : Nat) (Option.some Jvm.ClassFile.FieldType.int), Jvm.Cond.code ({ cls := "java/lang/StringUTF16", name := "toBytes", desc := "([CII)[B" } : Jvm.MethodName) jdk_52_method_14_code (5 : Nat) (Option.some (Jvm.ClassFile.FieldType.array Jvm.ClassFile.FieldType.byte)), Jvm.Cond.code ({ cls := "java/lang/StringUTF16", name := "newBytesFor", desc := "(I)[B" } : Jvm.MethodName) jdk_52_method_2_code (1 : Nat) (Option.some (Jvm.ClassFile.FieldType.array Jvm.ClassFile.FieldType.byte)), Jvm.Cond.code ({ cls := "java/lang/StringUTF16", name := "newBytesLength", desc := "(I)I" } : Jvm.MethodName) jdk_52_method_3_code (1 : Nat) (Option.some Jvm.ClassFile.FieldType.int), Jvm.Cond.code ({ cls := "java/lang/StringUTF16", name := "putChar", desc := "([BII)V" } : Jvm.MethodName) jdk_52_method_4_code (3 : Nat) (Option.none : Option Jvm.ClassFile.FieldType), Jvm.Cond.code ({ cls := "java/lang/StringUTF16", name := "getChar", desc := "([BI)C" } : Jvm.MethodName) jdk_52_method_5_code (2 : Nat) (Option.some Jvm.ClassFile.FieldType.char), Jvm.Cond.code ({ cls := "java/lang/StringUTF16", name := "charAt", desc := "([BI)C" } : Jvm.MethodName) jdk_52_method_83_code (2 : Nat) (Option.some Jvm.ClassFile.FieldType.char), Jvm.Cond.code ({ cls := "java/lang/StringUTF16", name := "checkIndex", desc := "(I[B)V" } : Jvm.MethodName) jdk_52_method_91_code (2 : Nat) (Option.none : Option Jvm.ClassFile.FieldType), Jvm.Cond.code ({ cls := "java/lang/StringUTF16", name := "length", desc := "([B)I" } : Jvm.MethodName) jdk_52_method_6_code (1 : Nat) (Option.some Jvm.ClassFile.FieldType.int)]
set_option maxRecDepth 65536 in
theorem codes_eq : words1.filter isCode = codes1 := rfl
theorem w_codes : ∀ c ∈ words1.filter isCode, c.before args0 about1 = true := by
  rw [codes_eq]
  intro c hc
  simp only [codes1, List.mem_cons, List.not_mem_nil, or_false] at hc
  rcases hc with rfl | rfl | rfl | rfl | rfl | rfl | rfl | rfl | rfl | rfl | rfl | rfl | rfl | rfl | rfl | rfl | rfl | rfl | rfl | rfl | rfl | rfl | rfl
  · exact w_c0
  · exact w_c1
  · exact w_c2
  · exact w_c3
  · exact w_c4
  · exact w_c5
  · exact w_c6
  · exact w_c7
  · exact w_c8
  · exact w_c9
  · exact w_c10
  · exact w_c11
  · exact w_c12
  · exact w_c13
  · exact w_c14
  · exact w_c15
  · exact w_c16
  · exact w_c17
  · exact w_c18
  · exact w_c19
  · exact w_c20
  · exact w_c21
  · exact w_c22
set_option maxRecDepth 65536 in
theorem w_t1 : (words1.take 24).all (fun c => isCode c || c.before args0 about1) = true := by decide +kernel
set_option maxRecDepth 65536 in
theorem w_t2 : ((words1.drop 24).take 24).all (fun c => isCode c || c.before args0 about1) = true := by decide +kernel
set_option maxRecDepth 65536 in
theorem w_t3 : (((words1.drop 24).drop 24).take 24).all (fun c => isCode c || c.before args0 about1) = true := by decide +kernel
set_option maxRecDepth 65536 in
theorem w_t4 : (((words1.drop 24).drop 24).drop 24).all (fun c => isCode c || c.before args0 about1) = true := by decide +kernel
theorem w_tables : (allAtoms (Jvm.Cond.code x code maxLocals ret :: tables_1)).before args0 about1 = true := by
  rw [allAtoms_all]
  show words1.all (fun c => c.before args0 about1) = true
  refine all_split ?_ w_codes
  rw [← List.take_append_drop 24 words1, List.all_append, w_t1, ← List.take_append_drop 24 (words1.drop 24), List.all_append, w_t2, ← List.take_append_drop 24 ((words1.drop 24).drop 24), List.all_append, w_t3, w_t4]
  rfl
set_option maxRecDepth 65536 in
theorem w_rest : rest_1_c.before args0 about1 = true := by decide +kernel
set_option maxRecDepth 65536 in
theorem w_case : (Jvm.Cond.and given_1 narrow_1).before args0 about1 = true := by decide +kernel
theorem w_applies : (headSpec (Jvm.Cond.code x code maxLocals ret :: tables_1) room_1).applies x e0.platform about1 = true :=
  (Spec.applies_iff w_frames).mpr ⟨w_running, w_runnable, w_alone, w_named, w_hears, w_ripe, w_room, w_tables⟩
theorem atStart : AtStart classFile x code maxLocals ret World_1 tables_1 room_1 Calls_1 rest_1 Pre_1 launch0 p0 e0 about1 theMethod args0 below0 :=
  ⟨lists_1, trivial, launch0.admits_env _ _ _, launch0.least_env, fairChoices_fair.cas, fairChoices_fair.clock, w_frames, w_args, w_heap, w_applies, trivial, w_rest, w_case⟩
end start1
theorem witness_1 : WitnessClaimed_1 := ⟨start1.p0, start1.e0, start1.about1, start1.theMethod, start1.args0, start1.below0, start1.atStart⟩
end Jvm.Pilot.@@N@@
