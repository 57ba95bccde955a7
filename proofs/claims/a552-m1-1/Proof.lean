import JvmDerived
import JvmDerived.Pilot.@@N@@Statement
import JvmDerived.Pilot.@@N@@Code
set_option linter.unusedVariables false
set_option linter.unusedSimpArgs false
namespace Jvm.Pilot.@@N@@
open Jvm Jvm.ClassFile Sem Op Lib Jvm.Free Jvm.Stand Jvm.LawKit Jvm.RoadKit Bundle Jvm.Pilot.@@N@@.Jvm.D
theorem oW {a0 : Array Value} {Z : State} (hw : ∀ d ∈ tables_1, d.before a0 Z = true) {d : Jvm.Cond} (i : Nat) (h : tables_1[i]? = some d) : d.before a0 Z = true := hw _ (List.mem_of_getElem? h)
abbrev uu : Slot := .unset
abbrev ss : Slot := .second
/-- the run from T with g on top comes to a state of which P holds -/
def oWk (tb : Tables) (e : Env) (below : List Frame) (P : State → Prop) (T : State) (g : JFrame) : Prop := ∃ t, Steps tb e below (T.setTop g) t ∧ P t
section OwnA
variable {tb : Tables} {e : Env} {below : List Frame} {P : State → Prop} {T T' : State} {g g' : JFrame}
theorem oWk.st (f : ∀ t, Steps tb e below (T'.setTop g') t → Steps tb e below (T.setTop g) t) (k : oWk tb e below P T' g') : oWk tb e below P T g := k.elim fun t q => ⟨t, f t q.1, q.2⟩
theorem oWk.tr (f : Steps tb e below (T.setTop g) (T'.setTop g')) (k : oWk tb e below P T' g') : oWk tb e below P T g := k.elim fun t q => ⟨t, f.trans q.1, q.2⟩
theorem oWk.cast (q : g = g') (k : oWk tb e below P T g') : oWk tb e below P T g := q ▸ k
end OwnA
/-- the invocation has ended: a value, the heap, the places written -/
def oDn (s : State) (below : List Frame) (Q : Option Value → Heap → List Loc → Prop) (k n : Nat) (t : State) : Prop := t.status = .running ∧ ∃ v L, Ended t below (.returned v) ∧ Q v t.heap L ∧ FrameEnd s (.returned v) t L k n
/-- a contract: called with these arguments on this heap the body returns and Q holds -/
abbrev oCon (l : Launch) (Z : State) (y : MethodName) (bytes : ByteArray) (maxL : Nat) (ret : Option FieldType) (ws : List Jvm.Cond) (rm : Room) (as' : Array Value) (h0 : Heap) (Q : Option Value → Heap → List Loc → Prop) : Prop :=
  MetFree l y (head1 (Jvm.Cond.code y bytes maxL ret :: ws) rm) (fun a U => a = as' ∧ Z.Warmed39 U.vm ∧ U.heap = h0) (fun _ _ _ _ _ => True) (fun _ U o U' => ∃ v L, o = .returned v ∧ Q v U'.heap L ∧ FrameEnd U o U' L rm.cells rm.slots)
theorem oCon.of {l : Launch} {Z : State} {y : MethodName} {bytes : ByteArray} {maxL : Nat} {ret : Option FieldType} {ws : List Jvm.Cond} {rm : Room} {as' : Array Value} {h0 : Heap} {Q : Option Value → Heap → List Loc → Prop} (hp : plainFor y = true)
    (body : ∀ (p : Program) (e : Env) (s : State) (m : MethodId) (below : List Frame) (meth : Method) (c : Code) (T : State), Stand p l e rm s m as' below meth c T [] 0 0 → p.tables.exec = Jvm.exec → c.code = bytes → c.maxLocals = maxL → s.vm.findClass y.cls = some m.cls → meth.name = y.name → meth.sig.returnType = ret → meth.locks = false → Z.Warmed39 s.vm → T.heap = h0 → oWk p.tables e below (oDn s below Q rm.cells rm.slots) T (entryFrame m as' maxL)) :
    oCon l Z y bytes maxL ret ws rm as' h0 Q := by
  refine MetFree.of_bodySF hp hisR ?_
  intro p e s m args below meth c s₁ Bd hml0 hP hK
  obtain ⟨rfl, hZ, hh⟩ := hP
  have e0 : s₁.heap = h0 := by rw [← hh, Bd.state]; rfl
  obtain ⟨t, h1, h2, v, L, h3, h4, h5⟩ := body p e s m below meth c s₁ (Stand.of_body Bd) Bd.exec Bd.bytes hml0 (findClass_of_methodNamed Bd.named) (name_of_methodNamed Bd.named Bd.method).1 Bd.returns Bd.notSynchronized hZ e0
  exact ⟨t, _, h1, h2, h3, v, L, rfl, h4, h5⟩
section OwnB
variable {p : Program} {l : Launch} {e : Env} {R : Room} {s : State} {m : MethodId} {args : Array Value} {below : List Frame} {meth : Method} {c : Code} {T : State} {locs : List Loc} {cells slots : Nat} {Q : Option Value → Heap → List Loc → Prop} {k n pc : Nat} {Ls : Array Slot}
theorem oRet (X : Stand p l e R s m args below meth c T locs cells slots) (hx : p.tables.exec = Jvm.exec) (hlk : meth.locks = false) {w : Value} {t : FieldType} {i : Instr} {rest : List Value} (hret : meth.sig.returnType = some t) (hn : narrow t w = w)
    (hi : (i = .ireturn ∧ (t = .int ∨ t = .boolean ∨ t = .byte ∨ t = .char ∨ t = .short) ∧ ∃ z, w = .int z) ∨ (i = .lreturn ∧ t = .long ∧ ∃ z, w = .long z) ∨ (i = .dreturn ∧ t = .double ∧ ∃ z, w = .double z) ∨ (i = .freturn ∧ t = .float ∧ ∃ z, w = .float z) ∨ (i = .areturn ∧ t.isReference = true ∧ w.isRef = true))
    (hd : decode c.code pc = .ok (i, 1)) (hQ : Q (some w) T.heap locs) (hk : cells ≤ k) (hs : slots ≤ n) : oWk p.tables e below (oDn s below Q k n) T (mkF m pc Ls (w :: rest)) := by
  obtain ⟨fs, hr, hrun, hended, hW, hsame⟩ := X.leave (v := some w) (fun h => by rw [hret] at h; cases h) hlk
  exact ⟨_, retOut X hx hret hn hi hd hr, hrun, _, _, hended, hQ, ⟨_, rfl⟩, hW, hsame.mono hk hs⟩
theorem oRetI (X : Stand p l e R s m args below meth c T locs cells slots) (hx : p.tables.exec = Jvm.exec) (hlk : meth.locks = false) {z : Int32} {rest : List Value} (hret : meth.sig.returnType = some .int) (hd : decode c.code pc = .ok (.ireturn, 1)) (hQ : Q (some (.int z)) T.heap locs) (hk : cells ≤ k) (hs : slots ≤ n) :
    oWk p.tables e below (oDn s below Q k n) T (mkF m pc Ls (.int z :: rest)) := oRet X hx hlk hret rfl (Or.inl ⟨rfl, Or.inl rfl, _, rfl⟩) hd hQ hk hs
theorem oRetZ (X : Stand p l e R s m args below meth c T locs cells slots) (hx : p.tables.exec = Jvm.exec) (hlk : meth.locks = false) {z : Int32} {rest : List Value} (hret : meth.sig.returnType = some .boolean) (hd : decode c.code pc = .ok (.ireturn, 1)) (hz : z = 0 ∨ z = 1) (hQ : Q (some (.int z)) T.heap locs) (hk : cells ≤ k) (hs : slots ≤ n) :
    oWk p.tables e below (oDn s below Q k n) T (mkF m pc Ls (.int z :: rest)) := oRet X hx hlk hret (by rcases hz with rfl | rfl <;> rfl) (Or.inl ⟨rfl, Or.inr (Or.inl rfl), _, rfl⟩) hd hQ hk hs
theorem oRetN (X : Stand p l e R s m args below meth c T locs cells slots) (hx : p.tables.exec = Jvm.exec) (hlk : meth.locks = false) {z : Int32} {t : FieldType} {rest : List Value} (hret : meth.sig.returnType = some t) (ht : t = .byte ∨ t = .char ∨ t = .short) (hn : narrow t (.int z) = .int z) (hd : decode c.code pc = .ok (.ireturn, 1)) (hQ : Q (some (.int z)) T.heap locs) (hk : cells ≤ k) (hs : slots ≤ n) :
    oWk p.tables e below (oDn s below Q k n) T (mkF m pc Ls (.int z :: rest)) := oRet X hx hlk hret hn (Or.inl ⟨rfl, Or.inr (Or.inr ht), _, rfl⟩) hd hQ hk hs
theorem oRetD (X : Stand p l e R s m args below meth c T locs cells slots) (hx : p.tables.exec = Jvm.exec) (hlk : meth.locks = false) {z : UInt64} {rest : List Value} (hret : meth.sig.returnType = some .double) (hd : decode c.code pc = .ok (.dreturn, 1)) (hQ : Q (some (.double z)) T.heap locs) (hk : cells ≤ k) (hs : slots ≤ n) :
    oWk p.tables e below (oDn s below Q k n) T (mkF m pc Ls (.double z :: rest)) := oRet X hx hlk hret rfl (Or.inr (Or.inr (Or.inl ⟨rfl, rfl, _, rfl⟩))) hd hQ hk hs
theorem oNarR {t : FieldType} {w : Value} (ht : t.isReference = true) (hw : w.isRef = true) : narrow t w = w := by cases t <;> cases w <;> simp_all [narrow, FieldType.isReference, Value.isRef]
theorem oRetA (X : Stand p l e R s m args below meth c T locs cells slots) (hx : p.tables.exec = Jvm.exec) (hlk : meth.locks = false) {w : Value} {t : FieldType} {rest : List Value} (hret : meth.sig.returnType = some t) (ht : t.isReference = true) (hw : w.isRef = true) (hd : decode c.code pc = .ok (.areturn, 1)) (hQ : Q (some w) T.heap locs) (hk : cells ≤ k) (hs : slots ≤ n) :
    oWk p.tables e below (oDn s below Q k n) T (mkF m pc Ls (w :: rest)) := oRet X hx hlk hret (oNarR ht hw) (Or.inr (Or.inr (Or.inr (Or.inr ⟨rfl, ht, hw⟩)))) hd hQ hk hs
theorem oRetV (X : Stand p l e R s m args below meth c T locs cells slots) (hx : p.tables.exec = Jvm.exec) (hlk : meth.locks = false) (hret : meth.sig.returnType = none) (hd : decode c.code pc = .ok (.return_, 1)) (hQ : Q none T.heap locs) (hk : cells ≤ k) (hs : slots ≤ n) :
    oWk p.tables e below (oDn s below Q k n) T (mkF m pc Ls []) := by
  obtain ⟨fs, hr, hrun, hended, hW, hsame⟩ := X.leave (v := none) (fun _ => rfl) hlk
  exact ⟨_, X.returnOut hx hret hd hr, hrun, _, _, hended, hQ, ⟨_, rfl⟩, hW, hsame.mono hk hs⟩
end OwnB
/-- the heap is kept but for ws and new cells; the places written lie there -/
def oKp (h0 h : Heap) (ws : List Addr) (L : List Loc) : Prop := Keep h0 h ws ∧ ∀ y ∈ L, y.base ∈ ws ∨ h0.size ≤ y.base
section OwnC
variable {Z : State} {h0 h h' : Heap} {ws ws' : List Addr} {L L' : List Loc} {a : Addr} {sl : Nat} {v : Value}
theorem oKp.nil (h : Heap) (ws : List Addr) : oKp h h ws [] := ⟨Keep.refl _ _, fun _ q => nomatch q⟩
theorem oKp.ext (K : oKp h0 h ws L) (E : Ext h h') : oKp h0 h' ws L := ⟨K.1.ext E, K.2⟩
theorem oKp.wr (K : oKp h0 h ws L) (W : Wr h h' a sl v) (q : a ∈ ws ∨ h0.size ≤ a) : oKp h0 h' ws (L ++ [⟨a, sl⟩]) := ⟨K.1.wr W q, fun y hy => (List.mem_append.mp hy).elim (K.2 y) fun hy => by cases List.mem_singleton.mp hy; exact q⟩
theorem oKp.call (K : oKp h0 h ws L) (K' : oKp h h' ws' L') (q : ∀ x ∈ ws', x ∈ ws ∨ h0.size ≤ x) : oKp h0 h' ws (L ++ L') := ⟨K.1.trans K'.1 q, fun y hy => (List.mem_append.mp hy).elim (K.2 y) fun hy => (K'.2 y hy).elim (q _) fun z => Or.inr (Nat.le_trans K.1.1 z)⟩
theorem oKp.le (K : oKp h0 h ws L) : h0.size ≤ h.size := K.1.1
theorem oKp.old (K : oKp h0 h ws L) (O : Ext Z.heap h0) (q : ∀ x ∈ ws, Z.heap.size ≤ x) : Ext Z.heap h := ⟨Nat.le_trans O.1 K.1.1, fun x c hc => K.1.2.1 x c (O.2 x c hc) fun hx => absurd (Array.getElem?_eq_some_iff.mp hc).1 (Nat.not_lt.mpr (q x hx))⟩
theorem oKp.fr (K : oKp h0 h [] L) : Fr h0.size L := fun y hy => (K.2 y hy).elim (fun q => nomatch q) id
theorem oExtRefl (h : Heap) : Ext h h := ⟨Nat.le_refl _, fun _ _ q => q⟩
theorem Ext.keep0 (E : Ext h h') : Keep h h' [] := ⟨E.1, fun x c q _ => E.2 x c q, fun x c q => ⟨c, E.2 x c q, rfl, rfl, rfl⟩⟩
end OwnC
/-- a truth as an int -/
def oBi (P : Prop) [Decidable P] : Int32 := if P then 1 else 0
theorem oBi_t {P : Prop} [Decidable P] (h : P) : oBi P = 1 := if_pos h
theorem oBi_f {P : Prop} [Decidable P] (h : ¬ P) : oBi P = 0 := if_neg h
theorem oBi_ne {P : Prop} [Decidable P] (h : P) : ¬ oBi P = 0 := by rw [oBi_t h]; decide
theorem oBi_01 (P : Prop) [Decidable P] : oBi P = 0 ∨ oBi P = 1 := by by_cases h : P; exact Or.inr (if_pos h); exact Or.inl (if_neg h)
theorem oBi_0 {P : Prop} [Decidable P] (h : oBi P = 0) : ¬ P := fun q => oBi_ne q h
theorem oBi_1 {P : Prop} [Decidable P] (h : ¬ oBi P = 0) : P := Decidable.byContradiction fun q => h (oBi_f q)
section OwnD
variable {args : Array Value} {Z : State} {t u : Term} {C n d K : String} {a b : Addr} {k : Int32}
theorem oFldR (ht : t.eval args Z none [] Z = some (.ref a)) (hu : u.eval args Z none [] Z = some (.ref b)) (h : (Jvm.Cond.eq (.field t C n d) u).value args Z none Z [] = some true) : Fld Z Z.heap a C n d (.ref b) := by
  obtain ⟨x, y, e1, e2, k1, k2⟩ := cmp_v (Or.inl h)
  cases hu.symm.trans e2
  have hx : x.isRef = true := k2.2
  have q := gotT (eq_R e1 e2 hx rfl) h
  subst q
  exact Fld.start ((fld_at ht).symm.trans e1)
theorem oFldI (ht : t.eval args Z none [] Z = some (.ref a)) (h : (Jvm.Cond.eq (.field t C n d) (.int k)).value args Z none Z [] = some true) : Fld Z Z.heap a C n d (.int k) := by
  obtain ⟨x, y, e1, e2, k1, k2⟩ := cmp_v (Or.inl h)
  cases (Option.some.inj e2 : Value.int k = y)
  obtain ⟨z, rfl⟩ := (k2 : ∃ z, x = .int z)
  have q : z = k := by
    have h' := h
    simp only [Cond.value, e1, e2] at h'
    simpa using h'
  subst q
  exact Fld.start ((fld_at ht).symm.trans e1)
theorem oFldX (ht : t.eval args Z none [] Z = some (.ref a)) (h : (Jvm.Cond.exactly (.field t C n d) K).value args Z none Z [] = some true) : ∃ b, (Term.field t C n d).eval args Z none [] Z = some (.ref b) ∧ Fld Z Z.heap a C n d (.ref b) ∧ Exa Z Z.heap b K := by
  obtain ⟨b, e1⟩ := exa_v h
  exact ⟨b, e1, Fld.start ((fld_at ht).symm.trans e1), Exa.start e1 h⟩
theorem oNe32 {x y : Int32} (h : ¬ x = y) : x.toInt ≠ y.toInt := fun q => h (Int32.toInt_inj.mp q)
end OwnD
section OwnE
variable {Z : State} {a0 : Array Value} {C O K : String} {n : Nat} {h h' : Heap} {a : Addr} {ws : List Addr}
theorem oNSroot (wo : (Jvm.Cond.noSuperclass O).before a0 Z = true) (wk : (Jvm.Cond.instantiable K n).before a0 Z = true) (h2 : O ≠ K) : NS Z O K := by
  obtain ⟨t, kt, g1, -⟩ := Cond.instantiable_spec wk
  obtain ⟨c, k, a1, a2, a3, -, -⟩ := Cond.noSuperclass_spec wo
  have ne := ids_ne a1 g1 h2
  refine ⟨c, t, a1, g1, fun fuel => ?_⟩
  cases fuel with
  | zero => rfl
  | succ f => simp [Vm.isSubclassAux, ne, a2, a3]
theorem oNSno (w : (Jvm.Cond.superclass C O).before a0 Z = true) (wk : (Jvm.Cond.instantiable K n).before a0 Z = true) (N : NS Z C K) (h1 : C ≠ K) : ∃ c t, Z.vm.findClass C = some c ∧ Z.vm.findClass K = some t ∧ Z.vm.assignable c t = false := by
  obtain ⟨t, kt, g1, g2, g3, g4, -⟩ := Cond.instantiable_spec wk
  obtain ⟨c, t', b0, b1, b2⟩ := N
  cases g1.symm.trans b1
  obtain ⟨p, k, kp, e1, e2, e3, e4, e5, -, e7⟩ := Cond.superclass_spec b0 w
  have ne := ids_ne b0 g1 h1
  have gi : kt.isInterface = false := by simp only [Bool.or_eq_false_iff] at g4; exact g4.1
  refine ⟨c, t, b0, g1, ?_⟩
  show Z.vm.assignableAux (255 + 1) c t = false
  simp [Vm.assignableAux, ne, e2, g2, e5, g3, gi, Vm.isSubclass, b2]
theorem oNotInst (w : (Jvm.Cond.superclass C O).before a0 Z = true) (wo : (Jvm.Cond.noSuperclass O).before a0 Z = true) (wk : (Jvm.Cond.instantiable K n).before a0 Z = true) (h1 : C ≠ K) (h2 : O ≠ K) : ∃ c t, Z.vm.findClass C = some c ∧ Z.vm.findClass K = some t ∧ Z.vm.assignable c t = false :=
  oNSno w wk (NS.step w (oNSroot wo wk h2) h1) h1
theorem oInsKeep {b : Bool} (F : Ins Z h a K b) (H : Keep h h' ws) : Ins Z h' a K b := by
  obtain ⟨cell, cT, h1, h2, h3⟩ := F
  obtain ⟨c', e1, e2, e3, -⟩ := H.2.2 _ _ h1
  exact ⟨c', cT, e1, h2, by rw [e2, e3]; exact h3⟩
end OwnE
theorem oNot0 {args : Array Value} {Z : State} {t : Term} {x : Int32} (h : t.eval args Z none [] Z = some (.int x)) (hn : (Jvm.Cond.not (.eq t (.int 0))).value args Z none Z [] = some true) : ¬ x = (0 : Int32) := fun q => by
  subst q
  have e : (Jvm.Cond.eq t (.int 0)).value args Z none Z [] = some true := eq_i h (Term.int_eval 0) rfl
  simp [Cond.value] at hn e
  rw [e] at hn
  simp at hn
theorem oFldD {args : Array Value} {Z : State} {t : Term} {C n d : String} {a : Addr} {k : Int64} (ht : t.eval args Z none [] Z = some (.ref a)) (h : (Jvm.Cond.eq (.field t C n d) (.op1 .bitsD (.long k))).value args Z none Z [] = some true) : Fld Z Z.heap a C n d (.double k.toUInt64) := by
  obtain ⟨x, y, e1, e2, k1, k2⟩ := cmp_v (Or.inl h)
  have e3 : (Term.op1 .bitsD (.long k)).eval args Z none [] Z = some (.double k.toUInt64) := rfl
  cases e3.symm.trans e2
  obtain ⟨z, rfl⟩ := (k2 : ∃ z, x = .double z)
  have q : z = k.toUInt64 := by
    have h' := h
    simp only [Cond.value, e1, e2] at h'
    simpa using h'
  subst q
  exact Fld.start ((fld_at ht).symm.trans e1)
section OwnF
variable {p : Program} {l : Launch} {e : Env} {R : Room} {s : State} {m : MethodId} {args : Array Value} {below : List Frame} {meth : Method} {c : Code} {T : State} {locs : List Loc} {cells slots : Nat} {Z : State} {a0 : Array Value} {h : Heap} {own C : String} {index : Nat} {a mr : Addr}
/-- the Class object of C has been made: mr -/
def oMir (Z : State) (C : String) (mr : Addr) : Prop := ∃ (c : ClassId) (k : Class), Z.vm.findClass C = some c ∧ Z.vm.classes[c]? = some k ∧ k.mirror = some mr
abbrev oGc : MethodName := ⟨"java/lang/Object", "getClass", "()Ljava/lang/Class;"⟩
theorem oGcls (X : Stand p l e R s m args below meth c T locs cells slots) (hx : p.tables.exec = Jvm.exec) (hZ : Z.Warmed39 s.vm) (hown : s.vm.findClass own = some m.cls) (w1 : (Jvm.Cond.methodLink own index oGc).before a0 Z = true) (w2 : (Jvm.Cond.declares oGc).before a0 Z = true) (w4 : (Jvm.Cond.selects C oGc oGc).before a0 Z = true) (w5 : (Jvm.Cond.instanceMethod oGc).before a0 Z = true) (w6 : (Jvm.Cond.native oGc).before a0 Z = true) (eT : T.heap = h) (E : Exa Z h a C) (M : oMir Z C mr)
    {g : JFrame} (hg : g.method = m) (hsize : g.locals.size = c.maxLocals) {rest : List Value} (hs : g.stack = .ref a :: rest) (hd : decode c.code g.pc = .ok (.invokevirtual index, 3)) (hf : 1 ≤ R.frames) {W : Nat} (hW : 2 * g.monitorRoom + (rest.map fun v => v.category).sum ≤ W) (hl : W + (nativeFrameWords "java/lang/Object" "getClass" 1 + 11) ≤ R.locals) :
    ∃ T', Stand p l e R s m args below meth c T' locs cells slots ∧ T'.heap = h ∧ ∀ target, Steps p.tables e below (T'.setTop { g with pc := g.pc + 3, stack := .ref mr :: rest }) target → Steps p.tables e below (T.setTop g) target := by
  obtain ⟨cB, kB, i1, i2, i3⟩ := isOf hZ eT E
  obtain ⟨cc, kc, m1, m2, m3⟩ := M
  have i0 := i1
  rw [hZ.alike.findClass] at i1
  cases i1.symm.trans m1
  obtain ⟨k', q, ek⟩ := hZ.alike.2.2 _ _ m2
  obtain ⟨vm', X', st⟩ := X.getClassOf hx hown (mvT hZ w1) (mvT hZ w2) (notFace_of_selects (args := #[]) (mvT hZ w4)) (mvT hZ w4) (mvT hZ w5) (mvT hZ w6) i0 i3 q (by rw [ek]; exact m3) hg hsize hs hd hf (by omega)
  exact ⟨_, X', eT, st⟩
theorem oLdcM (X : Stand p l e R s m args below meth c T locs cells slots) (hx : p.tables.exec = Jvm.exec) (hZ : Z.Warmed39 s.vm) (hown : s.vm.findClass own = some m.cls) (w : (Jvm.Cond.classLink own index C).before a0 Z = true) (eT : T.heap = h) (M : oMir Z C mr)
    {g : JFrame} (hg : g.method = m) (hd : decode c.code g.pc = .ok (.ldc index, 2)) : ∃ T', Stand p l e R s m args below meth c T' locs cells slots ∧ T'.heap = h ∧ ∀ target, Steps p.tables e below (T'.setTop { g with pc := g.pc + 2, stack := .ref mr :: g.stack }) target → Steps p.tables e below (T.setTop g) target := by
  obtain ⟨cc, kc, m1, m2, m3⟩ := M
  obtain ⟨k', q, ek⟩ := hZ.alike.2.2 _ _ m2
  have f1 : s.vm.findClass C = some cc := by rw [hZ.alike.findClass]; exact m1
  have f2 : k'.mirror = some mr := by rw [ek]; exact m3
  obtain ⟨vm', X', st⟩ := X.ldcMirror hx hown (mvT hZ w) (a := mr) (by simp [Term.eval, f1, q, f2]) hg hd
  exact ⟨_, X', eT, st⟩
end OwnF
theorem oArr0 {args : Array Value} {Z : State} {t : Term} {a : Addr} {ty : FieldType} {dv : Value} (hf : Fit Z) (ev : t.eval args Z none [] Z = some (.ref a)) (h1 : (Jvm.Cond.arrayOf t ty).value args Z none Z [] = some true) (h2 : (Jvm.Cond.eq (.length t) (.int 0)).value args Z none Z [] = some true) : ∃ k, Arv Z Z.heap a k ty 0 [] dv := by
  obtain ⟨cl, A⟩ := Arr.start ev h1
  have ha : Z.arrayAt? a = some cl := Arr.fin (Vm.Alike.refl _) A
  have hlt : cl.slots.size < 2 ^ 31 := by
    apply Decidable.byContradiction
    intro q
    have e : (Term.length t).eval args Z none [] Z = none := by
      cases hv : (Term.length t).eval args Z none [] Z with
      | none => rfl
      | some y =>
        simp only [Term.eval, Option.bind_eq_bind] at hv
        rw [ev] at hv
        simp [ha, q] at hv
    simp [Cond.value, e] at h2
  have e : (Term.length t).eval args Z none [] Z = some (.int cl.slots.size.toInt32) := len_f ev ha hlt
  have z : cl.slots.size.toInt32 = 0 := by
    have h' := h2
    simp only [Cond.value, e, Term.int_eval] at h'
    simpa using h'
  have z' : cl.slots.size = 0 := by
    have := len_toInt hlt
    rw [z] at this
    have r : (0 : Int32).toInt = 0 := by decide
    omega
  exact ⟨_, Arv.start hf A hlt z (by decide) rfl trivial⟩
def Q_rHV1 (Z : State) (m1 : Addr) (h0 : Heap) (v : Option Value) (h : Heap) (L : List Loc) : Prop := v = some (.ref m1) ∧ h = h0 ∧ oKp h0 h [] L
theorem pn_0 : plainName "com/example/classement/classement/ranking/Setting" = true := by first | (simp [plainName, overriddenIn]; done) | decide +kernel
abbrev yy0 : MethodName := ⟨"com/example/classement/classement/ranking/Setting", "headingValue", "(I)Lcom/example/classement/classement/ranking/Setting;"⟩
theorem d1_0 : decode prog_46_method_9_code 0 = .ok (.iload_n 0, 1) := by decide +kernel
theorem d1_1 : decode prog_46_method_9_code 1 = .ok (.tableswitch 45 1 3 #[27, 33, 39], 27) := by decide +kernel
theorem d1_28 : decode prog_46_method_9_code 28 = .ok (.getstatic 7, 3) := by decide +kernel
theorem d1_31 : decode prog_46_method_9_code 31 = .ok (.goto 29, 3) := by decide +kernel
theorem d1_60 : decode prog_46_method_9_code 60 = .ok (.areturn, 1) := by decide +kernel
set_option maxRecDepth 65536 in
set_option maxHeartbeats 40000000 in
theorem rHV1 (l : Launch) (Z : State) (a0 : Array Value) (hw : ∀ d ∈ tables_1, d.before a0 Z = true) (ws : List Jvm.Cond) (m1 : Addr) (h0 : Heap) (O0 : Ext Z.heap h0) (S_HEADING_OWN_VALUE : Sta Z Z.heap "com/example/classement/classement/ranking/Setting" "HEADING_OWN_VALUE" "Lcom/example/classement/classement/ranking/Setting;" (.ref m1)) :
    oCon l Z yy0 prog_46_method_9_code 1 (some (.object "com/example/classement/classement/ranking/Setting")) ws ({ frames := 0, cells := 0, slots := 0, locals := 0 } : Room) #[(.int (1 : Int32))] h0 (Q_rHV1 Z m1 h0) := by
  refine oCon.of (plainFor_of_name pn_0) ?_
  intro p e s m below meth c T X hx hby hml hown hnm hret hlk hZ e0
  have hml : c.maxLocals = 1 := hml
  have K : oKp h0 h0 [] [] := oKp.nil _ _
  refine oWk.cast (g' := (mkF m 0 #[iv 1] [])) (by first | rfl | (simp [entryFrame, mkF, argsToLocals, Value.category]; done)) ?_
  refine oWk.st (fun _ kt => XS.iloadN X.here hx rfl (hb hby d1_0) rfl kt) ?_
  show oWk _ _ _ _ T (mkF m 1 #[iv 1] [(.int 1)])
  refine oWk.st (fun _ kt => XS.tswIn X.here hx rfl (pc0 := 1) (pc' := 28) rfl (hb hby d1_1) rfl (by decide) rfl (by decide) (by decide) kt) ?_
  show oWk _ _ _ _ T (mkF m 28 #[iv 1] [])
  have Oh := K.old O0 all0
  obtain ⟨T, X, e0, st⟩ := getS2 X hx hZ hown (host := "") (Or.inl (oW hw 5 rfl)) Via.refl e0 (S_HEADING_OWN_VALUE.ext Oh) (g := (mkF m 28 #[iv 1] [])) rfl (hb hby d1_28)
  refine oWk.st st ?_
  show oWk _ _ _ _ T (mkF m 31 #[iv 1] [(.ref m1)])
  refine oWk.st (fun _ kt => XS.goto X.here hx rfl (pc0 := 31) (pc' := 60) rfl (hb hby d1_31) (by decide) (by decide) kt) ?_
  show oWk _ _ _ _ T (mkF m 60 #[iv 1] [(.ref m1)])
  exact oRetA X hx hlk hret rfl rfl (hb hby d1_60) (by rw [e0]; exact ⟨rfl, rfl, K⟩) (by decide) (by decide)
def Q_rEX1 (Z : State) (m1 : Addr) (h0 : Heap) (v : Option Value) (h : Heap) (L : List Loc) : Prop := v = some (.ref m1) ∧ h = h0 ∧ oKp h0 h [] L
theorem pn_1 : plainName "com/example/classement/classement/ranking/SettingHeadingValuePinLaw" = true := by first | (simp [plainName, overriddenIn]; done) | decide +kernel
abbrev yy1 : MethodName := ⟨"com/example/classement/classement/ranking/SettingHeadingValuePinLaw", "expected", "(I)Lcom/example/classement/classement/ranking/Setting;"⟩
theorem d2_0 : decode method_3_code 0 = .ok (.iload_n 0, 1) := by decide +kernel
theorem d2_1 : decode method_3_code 1 = .ok (.iconst 1, 1) := by decide +kernel
theorem d2_2 : decode method_3_code 2 = .ok (.if_icmp .ne 7, 3) := by decide +kernel
theorem d2_5 : decode method_3_code 5 = .ok (.getstatic 23, 3) := by decide +kernel
theorem d2_8 : decode method_3_code 8 = .ok (.areturn, 1) := by decide +kernel
set_option maxRecDepth 65536 in
set_option maxHeartbeats 40000000 in
theorem rEX1 (l : Launch) (Z : State) (a0 : Array Value) (hw : ∀ d ∈ tables_1, d.before a0 Z = true) (ws : List Jvm.Cond) (m1 : Addr) (h0 : Heap) (O0 : Ext Z.heap h0) (S_HEADING_OWN_VALUE : Sta Z Z.heap "com/example/classement/classement/ranking/Setting" "HEADING_OWN_VALUE" "Lcom/example/classement/classement/ranking/Setting;" (.ref m1)) :
    oCon l Z yy1 method_3_code 1 (some (.object "com/example/classement/classement/ranking/Setting")) ws ({ frames := 0, cells := 0, slots := 0, locals := 0 } : Room) #[(.int (1 : Int32))] h0 (Q_rEX1 Z m1 h0) := by
  refine oCon.of (plainFor_of_name pn_1) ?_
  intro p e s m below meth c T X hx hby hml hown hnm hret hlk hZ e0
  have hml : c.maxLocals = 1 := hml
  have K : oKp h0 h0 [] [] := oKp.nil _ _
  refine oWk.cast (g' := (mkF m 0 #[iv 1] [])) (by first | rfl | (simp [entryFrame, mkF, argsToLocals, Value.category]; done)) ?_
  refine oWk.st (fun _ kt => XS.iloadN X.here hx rfl (hb hby d2_0) rfl kt) ?_
  show oWk _ _ _ _ T (mkF m 1 #[iv 1] [(.int 1)])
  refine oWk.st (fun _ kt => XS.iconst X.here hx rfl (hb hby d2_1) kt) ?_
  show oWk _ _ _ _ T (mkF m 2 #[iv 1] [(.int 1), (.int 1)])
  refine oWk.st (fun _ kt => XS.icmpNo X.here hx rfl (hb hby d2_2) rfl (teq (by decide)).2 kt) ?_
  show oWk _ _ _ _ T (mkF m 5 #[iv 1] [])
  have Oh := K.old O0 all0
  obtain ⟨T, X, e0, st⟩ := getS2 X hx hZ hown (host := "") (Or.inl (oW hw 11 rfl)) Via.refl e0 (S_HEADING_OWN_VALUE.ext Oh) (g := (mkF m 5 #[iv 1] [])) rfl (hb hby d2_5)
  refine oWk.st st ?_
  show oWk _ _ _ _ T (mkF m 8 #[iv 1] [(.ref m1)])
  exact oRetA X hx hlk hret rfl rfl (hb hby d2_8) (by rw [e0]; exact ⟨rfl, rfl, K⟩) (by decide) (by decide)
def Q_rHV2 (Z : State) (m2 : Addr) (h0 : Heap) (v : Option Value) (h : Heap) (L : List Loc) : Prop := v = some (.ref m2) ∧ h = h0 ∧ oKp h0 h [] L
theorem d1_34 : decode prog_46_method_9_code 34 = .ok (.getstatic 13, 3) := by decide +kernel
theorem d1_37 : decode prog_46_method_9_code 37 = .ok (.goto 23, 3) := by decide +kernel
set_option maxRecDepth 65536 in
set_option maxHeartbeats 40000000 in
theorem rHV2 (l : Launch) (Z : State) (a0 : Array Value) (hw : ∀ d ∈ tables_1, d.before a0 Z = true) (ws : List Jvm.Cond) (m2 : Addr) (h0 : Heap) (O0 : Ext Z.heap h0) (S_HEADING_PARENT_VALUE : Sta Z Z.heap "com/example/classement/classement/ranking/Setting" "HEADING_PARENT_VALUE" "Lcom/example/classement/classement/ranking/Setting;" (.ref m2)) :
    oCon l Z yy0 prog_46_method_9_code 1 (some (.object "com/example/classement/classement/ranking/Setting")) ws ({ frames := 0, cells := 0, slots := 0, locals := 0 } : Room) #[(.int (2 : Int32))] h0 (Q_rHV2 Z m2 h0) := by
  refine oCon.of (plainFor_of_name pn_0) ?_
  intro p e s m below meth c T X hx hby hml hown hnm hret hlk hZ e0
  have hml : c.maxLocals = 1 := hml
  have K : oKp h0 h0 [] [] := oKp.nil _ _
  refine oWk.cast (g' := (mkF m 0 #[iv 2] [])) (by first | rfl | (simp [entryFrame, mkF, argsToLocals, Value.category]; done)) ?_
  refine oWk.st (fun _ kt => XS.iloadN X.here hx rfl (hb hby d1_0) rfl kt) ?_
  show oWk _ _ _ _ T (mkF m 1 #[iv 2] [(.int 2)])
  refine oWk.st (fun _ kt => XS.tswIn X.here hx rfl (pc0 := 1) (pc' := 34) rfl (hb hby d1_1) rfl (by decide) rfl (by decide) (by decide) kt) ?_
  show oWk _ _ _ _ T (mkF m 34 #[iv 2] [])
  have Oh := K.old O0 all0
  obtain ⟨T, X, e0, st⟩ := getS2 X hx hZ hown (host := "") (Or.inl (oW hw 21 rfl)) Via.refl e0 (S_HEADING_PARENT_VALUE.ext Oh) (g := (mkF m 34 #[iv 2] [])) rfl (hb hby d1_34)
  refine oWk.st st ?_
  show oWk _ _ _ _ T (mkF m 37 #[iv 2] [(.ref m2)])
  refine oWk.st (fun _ kt => XS.goto X.here hx rfl (pc0 := 37) (pc' := 60) rfl (hb hby d1_37) (by decide) (by decide) kt) ?_
  show oWk _ _ _ _ T (mkF m 60 #[iv 2] [(.ref m2)])
  exact oRetA X hx hlk hret rfl rfl (hb hby d1_60) (by rw [e0]; exact ⟨rfl, rfl, K⟩) (by decide) (by decide)
def Q_rEX2 (Z : State) (m2 : Addr) (h0 : Heap) (v : Option Value) (h : Heap) (L : List Loc) : Prop := v = some (.ref m2) ∧ h = h0 ∧ oKp h0 h [] L
theorem d2_9 : decode method_3_code 9 = .ok (.iload_n 0, 1) := by decide +kernel
theorem d2_10 : decode method_3_code 10 = .ok (.iconst 2, 1) := by decide +kernel
theorem d2_11 : decode method_3_code 11 = .ok (.if_icmp .ne 7, 3) := by decide +kernel
theorem d2_14 : decode method_3_code 14 = .ok (.getstatic 27, 3) := by decide +kernel
theorem d2_17 : decode method_3_code 17 = .ok (.areturn, 1) := by decide +kernel
set_option maxRecDepth 65536 in
set_option maxHeartbeats 40000000 in
theorem rEX2 (l : Launch) (Z : State) (a0 : Array Value) (hw : ∀ d ∈ tables_1, d.before a0 Z = true) (ws : List Jvm.Cond) (m2 : Addr) (h0 : Heap) (O0 : Ext Z.heap h0) (S_HEADING_PARENT_VALUE : Sta Z Z.heap "com/example/classement/classement/ranking/Setting" "HEADING_PARENT_VALUE" "Lcom/example/classement/classement/ranking/Setting;" (.ref m2)) :
    oCon l Z yy1 method_3_code 1 (some (.object "com/example/classement/classement/ranking/Setting")) ws ({ frames := 0, cells := 0, slots := 0, locals := 0 } : Room) #[(.int (2 : Int32))] h0 (Q_rEX2 Z m2 h0) := by
  refine oCon.of (plainFor_of_name pn_1) ?_
  intro p e s m below meth c T X hx hby hml hown hnm hret hlk hZ e0
  have hml : c.maxLocals = 1 := hml
  have K : oKp h0 h0 [] [] := oKp.nil _ _
  refine oWk.cast (g' := (mkF m 0 #[iv 2] [])) (by first | rfl | (simp [entryFrame, mkF, argsToLocals, Value.category]; done)) ?_
  refine oWk.st (fun _ kt => XS.iloadN X.here hx rfl (hb hby d2_0) rfl kt) ?_
  show oWk _ _ _ _ T (mkF m 1 #[iv 2] [(.int 2)])
  refine oWk.st (fun _ kt => XS.iconst X.here hx rfl (hb hby d2_1) kt) ?_
  show oWk _ _ _ _ T (mkF m 2 #[iv 2] [(.int 1), (.int 2)])
  refine oWk.st (fun _ kt => XS.icmpYes X.here hx rfl (pc0 := 2) (pc' := 9) rfl (hb hby d2_2) rfl (feq (by decide)).2 (by decide) (by decide) kt) ?_
  show oWk _ _ _ _ T (mkF m 9 #[iv 2] [])
  refine oWk.st (fun _ kt => XS.iloadN X.here hx rfl (hb hby d2_9) rfl kt) ?_
  show oWk _ _ _ _ T (mkF m 10 #[iv 2] [(.int 2)])
  refine oWk.st (fun _ kt => XS.iconst X.here hx rfl (hb hby d2_10) kt) ?_
  show oWk _ _ _ _ T (mkF m 11 #[iv 2] [(.int 2), (.int 2)])
  refine oWk.st (fun _ kt => XS.icmpNo X.here hx rfl (hb hby d2_11) rfl (teq (by decide)).2 kt) ?_
  show oWk _ _ _ _ T (mkF m 14 #[iv 2] [])
  have Oh := K.old O0 all0
  obtain ⟨T, X, e0, st⟩ := getS2 X hx hZ hown (host := "") (Or.inl (oW hw 24 rfl)) Via.refl e0 (S_HEADING_PARENT_VALUE.ext Oh) (g := (mkF m 14 #[iv 2] [])) rfl (hb hby d2_14)
  refine oWk.st st ?_
  show oWk _ _ _ _ T (mkF m 17 #[iv 2] [(.ref m2)])
  exact oRetA X hx hlk hret rfl rfl (hb hby d2_17) (by rw [e0]; exact ⟨rfl, rfl, K⟩) (by decide) (by decide)
def Q_rHV3 (Z : State) (m3 : Addr) (h0 : Heap) (v : Option Value) (h : Heap) (L : List Loc) : Prop := v = some (.ref m3) ∧ h = h0 ∧ oKp h0 h [] L
theorem d1_40 : decode prog_46_method_9_code 40 = .ok (.getstatic 19, 3) := by decide +kernel
theorem d1_43 : decode prog_46_method_9_code 43 = .ok (.goto 17, 3) := by decide +kernel
set_option maxRecDepth 65536 in
set_option maxHeartbeats 40000000 in
theorem rHV3 (l : Launch) (Z : State) (a0 : Array Value) (hw : ∀ d ∈ tables_1, d.before a0 Z = true) (ws : List Jvm.Cond) (m3 : Addr) (h0 : Heap) (O0 : Ext Z.heap h0) (S_HEADING_ALL_VALUE : Sta Z Z.heap "com/example/classement/classement/ranking/Setting" "HEADING_ALL_VALUE" "Lcom/example/classement/classement/ranking/Setting;" (.ref m3)) :
    oCon l Z yy0 prog_46_method_9_code 1 (some (.object "com/example/classement/classement/ranking/Setting")) ws ({ frames := 0, cells := 0, slots := 0, locals := 0 } : Room) #[(.int (3 : Int32))] h0 (Q_rHV3 Z m3 h0) := by
  refine oCon.of (plainFor_of_name pn_0) ?_
  intro p e s m below meth c T X hx hby hml hown hnm hret hlk hZ e0
  have hml : c.maxLocals = 1 := hml
  have K : oKp h0 h0 [] [] := oKp.nil _ _
  refine oWk.cast (g' := (mkF m 0 #[iv 3] [])) (by first | rfl | (simp [entryFrame, mkF, argsToLocals, Value.category]; done)) ?_
  refine oWk.st (fun _ kt => XS.iloadN X.here hx rfl (hb hby d1_0) rfl kt) ?_
  show oWk _ _ _ _ T (mkF m 1 #[iv 3] [(.int 3)])
  refine oWk.st (fun _ kt => XS.tswIn X.here hx rfl (pc0 := 1) (pc' := 40) rfl (hb hby d1_1) rfl (by decide) rfl (by decide) (by decide) kt) ?_
  show oWk _ _ _ _ T (mkF m 40 #[iv 3] [])
  have Oh := K.old O0 all0
  obtain ⟨T, X, e0, st⟩ := getS2 X hx hZ hown (host := "") (Or.inl (oW hw 19 rfl)) Via.refl e0 (S_HEADING_ALL_VALUE.ext Oh) (g := (mkF m 40 #[iv 3] [])) rfl (hb hby d1_40)
  refine oWk.st st ?_
  show oWk _ _ _ _ T (mkF m 43 #[iv 3] [(.ref m3)])
  refine oWk.st (fun _ kt => XS.goto X.here hx rfl (pc0 := 43) (pc' := 60) rfl (hb hby d1_43) (by decide) (by decide) kt) ?_
  show oWk _ _ _ _ T (mkF m 60 #[iv 3] [(.ref m3)])
  exact oRetA X hx hlk hret rfl rfl (hb hby d1_60) (by rw [e0]; exact ⟨rfl, rfl, K⟩) (by decide) (by decide)
def Q_rEX3 (Z : State) (m3 : Addr) (h0 : Heap) (v : Option Value) (h : Heap) (L : List Loc) : Prop := v = some (.ref m3) ∧ h = h0 ∧ oKp h0 h [] L
theorem d2_18 : decode method_3_code 18 = .ok (.getstatic 30, 3) := by decide +kernel
theorem d2_21 : decode method_3_code 21 = .ok (.areturn, 1) := by decide +kernel
set_option maxRecDepth 65536 in
set_option maxHeartbeats 40000000 in
theorem rEX3 (l : Launch) (Z : State) (a0 : Array Value) (hw : ∀ d ∈ tables_1, d.before a0 Z = true) (ws : List Jvm.Cond) (m3 : Addr) (h0 : Heap) (O0 : Ext Z.heap h0) (S_HEADING_ALL_VALUE : Sta Z Z.heap "com/example/classement/classement/ranking/Setting" "HEADING_ALL_VALUE" "Lcom/example/classement/classement/ranking/Setting;" (.ref m3)) :
    oCon l Z yy1 method_3_code 1 (some (.object "com/example/classement/classement/ranking/Setting")) ws ({ frames := 0, cells := 0, slots := 0, locals := 0 } : Room) #[(.int (3 : Int32))] h0 (Q_rEX3 Z m3 h0) := by
  refine oCon.of (plainFor_of_name pn_1) ?_
  intro p e s m below meth c T X hx hby hml hown hnm hret hlk hZ e0
  have hml : c.maxLocals = 1 := hml
  have K : oKp h0 h0 [] [] := oKp.nil _ _
  refine oWk.cast (g' := (mkF m 0 #[iv 3] [])) (by first | rfl | (simp [entryFrame, mkF, argsToLocals, Value.category]; done)) ?_
  refine oWk.st (fun _ kt => XS.iloadN X.here hx rfl (hb hby d2_0) rfl kt) ?_
  show oWk _ _ _ _ T (mkF m 1 #[iv 3] [(.int 3)])
  refine oWk.st (fun _ kt => XS.iconst X.here hx rfl (hb hby d2_1) kt) ?_
  show oWk _ _ _ _ T (mkF m 2 #[iv 3] [(.int 1), (.int 3)])
  refine oWk.st (fun _ kt => XS.icmpYes X.here hx rfl (pc0 := 2) (pc' := 9) rfl (hb hby d2_2) rfl (feq (by decide)).2 (by decide) (by decide) kt) ?_
  show oWk _ _ _ _ T (mkF m 9 #[iv 3] [])
  refine oWk.st (fun _ kt => XS.iloadN X.here hx rfl (hb hby d2_9) rfl kt) ?_
  show oWk _ _ _ _ T (mkF m 10 #[iv 3] [(.int 3)])
  refine oWk.st (fun _ kt => XS.iconst X.here hx rfl (hb hby d2_10) kt) ?_
  show oWk _ _ _ _ T (mkF m 11 #[iv 3] [(.int 2), (.int 3)])
  refine oWk.st (fun _ kt => XS.icmpYes X.here hx rfl (pc0 := 11) (pc' := 18) rfl (hb hby d2_11) rfl (feq (by decide)).2 (by decide) (by decide) kt) ?_
  show oWk _ _ _ _ T (mkF m 18 #[iv 3] [])
  have Oh := K.old O0 all0
  obtain ⟨T, X, e0, st⟩ := getS2 X hx hZ hown (host := "") (Or.inl (oW hw 23 rfl)) Via.refl e0 (S_HEADING_ALL_VALUE.ext Oh) (g := (mkF m 18 #[iv 3] [])) rfl (hb hby d2_18)
  refine oWk.st st ?_
  show oWk _ _ _ _ T (mkF m 21 #[iv 3] [(.ref m3)])
  exact oRetA X hx hlk hret rfl rfl (hb hby d2_21) (by rw [e0]; exact ⟨rfl, rfl, K⟩) (by decide) (by decide)
def Q_rDV (Z : State) (xa : Addr) (xd : UInt64) (h0 : Heap) (v : Option Value) (h : Heap) (L : List Loc) : Prop := v = some (.double xd) ∧ h = h0 ∧ oKp h0 h [] L
abbrev yy2 : MethodName := ⟨"com/example/classement/classement/ranking/Setting", "defaultValue", "()D"⟩
theorem d3_0 : decode prog_46_method_6_code 0 = .ok (.aload_n 0, 1) := by decide +kernel
theorem d3_1 : decode prog_46_method_6_code 1 = .ok (.getfield 66, 3) := by decide +kernel
theorem d3_4 : decode prog_46_method_6_code 4 = .ok (.dreturn, 1) := by decide +kernel
set_option maxRecDepth 65536 in
set_option maxHeartbeats 40000000 in
theorem rDV (l : Launch) (Z : State) (a0 : Array Value) (hw : ∀ d ∈ tables_1, d.before a0 Z = true) (ws : List Jvm.Cond) (xa : Addr) (xd : UInt64) (h0 : Heap) (O0 : Ext Z.heap h0) (F_defaultValue_xa : Fld Z h0 xa "com/example/classement/classement/ranking/Setting" "defaultValue" "D" (.double xd)) :
    oCon l Z yy2 prog_46_method_6_code 1 (some .double) ws ({ frames := 0, cells := 0, slots := 0, locals := 0 } : Room) #[(.ref xa)] h0 (Q_rDV Z xa xd h0) := by
  refine oCon.of (plainFor_of_name pn_0) ?_
  intro p e s m below meth c T X hx hby hml hown hnm hret hlk hZ e0
  have hml : c.maxLocals = 1 := hml
  have K : oKp h0 h0 [] [] := oKp.nil _ _
  refine oWk.cast (g' := (mkF m 0 #[rv xa] [])) (by first | rfl | (simp [entryFrame, mkF, argsToLocals, Value.category]; done)) ?_
  refine oWk.st (fun _ kt => XS.aloadN X.here hx rfl (hb hby d3_0) rfl rfl kt) ?_
  show oWk _ _ _ _ T (mkF m 1 #[rv xa] [(.ref xa)])
  obtain ⟨T, X, e0, st⟩ := getF X hx hZ hown (host := "") (Or.inl (oW hw 17 rfl)) Via.refl e0 F_defaultValue_xa (g := (mkF m 1 #[rv xa] [(.ref xa)])) rfl rfl (hb hby d3_1)
  refine oWk.st st ?_
  show oWk _ _ _ _ T (mkF m 4 #[rv xa] [(.double xd)])
  exact oRetD X hx hlk hret (hb hby d3_4) (by rw [e0]; exact ⟨rfl, rfl, K⟩) (by decide) (by decide)
theorem oThree {p a : Int32} (h : ((p &&& 2147483647) % 3) + 1 = a) : a = 1 ∨ a = 2 ∨ a = 3 := by
  have q1 := (c_irem (p &&& 2147483647) 3 3 rfl).1
  have q2 := c_mask p 2147483647 31 (by decide) (by decide)
  have q3 := c_iadd ((p &&& 2147483647) % 3) 1
  rw [h] at q3
  have q4 : (1 : Int32).toInt = 1 := by decide
  have q5 := rng32 a
  have e : ∀ j : Int32, a.toInt = j.toInt → a = j := fun j q => Int32.toInt_inj.mp q
  have d : a.toInt = 1 ∨ a.toInt = 2 ∨ a.toInt = 3 := by omega
  exact d.imp (e 1) (Or.imp (e 2) (e 3))
def Q_rLaw (Z : State) (p0 : Int32) (p1 : Int32) (m1 : Addr) (m2 : Addr) (m3 : Addr) (h0 : Heap) (v : Option Value) (h : Heap) (L : List Loc) : Prop := v = some (.int (1 : Int32)) ∧ Fr h0.size L
theorem pd_0 : parseMethodDescriptor "(I)Lcom/example/classement/classement/ranking/Setting;" = some ⟨[.int], some (.object "com/example/classement/classement/ranking/Setting")⟩ := by decide +kernel
theorem pd_1 : parseMethodDescriptor "()D" = some ⟨[], some .double⟩ := by decide +kernel
set_option maxRecDepth 65536 in
set_option maxHeartbeats 40000000 in
theorem rLaw (l : Launch) (Z : State) (a0 : Array Value) (hw : ∀ d ∈ tables_1, d.before a0 Z = true) (ws : List Jvm.Cond) (p0 : Int32) (p1 : Int32) (m1 : Addr) (m2 : Addr) (m3 : Addr) (h0 : Heap) (O0 : Ext Z.heap h0) (S_HEADING_OWN_VALUE : Sta Z Z.heap "com/example/classement/classement/ranking/Setting" "HEADING_OWN_VALUE" "Lcom/example/classement/classement/ranking/Setting;" (.ref m1)) (S_HEADING_PARENT_VALUE : Sta Z Z.heap "com/example/classement/classement/ranking/Setting" "HEADING_PARENT_VALUE" "Lcom/example/classement/classement/ranking/Setting;" (.ref m2)) (S_HEADING_ALL_VALUE : Sta Z Z.heap "com/example/classement/classement/ranking/Setting" "HEADING_ALL_VALUE" "Lcom/example/classement/classement/ranking/Setting;" (.ref m3)) (ne_m1_m2 : m1 ≠ m2) (ne_m1_m3 : m1 ≠ m3) (ne_m2_m3 : m2 ≠ m3) (E_m1 : Exa Z h0 m1 "com/example/classement/classement/ranking/Setting") (E_m2 : Exa Z h0 m2 "com/example/classement/classement/ranking/Setting") (E_m3 : Exa Z h0 m3 "com/example/classement/classement/ranking/Setting") (F_defaultValue_m1 : Fld Z h0 m1 "com/example/classement/classement/ranking/Setting" "defaultValue" "D" (.double (4608533498688228557 : UInt64))) (F_defaultValue_m2 : Fld Z h0 m2 "com/example/classement/classement/ranking/Setting" "defaultValue" "D" (.double (4608083138725491507 : UInt64))) (F_defaultValue_m3 : Fld Z h0 m3 "com/example/classement/classement/ranking/Setting" "defaultValue" "D" (.double (4607632778762754458 : UInt64))) :
    oCon l Z x code maxLocals ret ws room_1 #[(.int p0), (.int p1)] h0 (Q_rLaw Z p0 p1 m1 m2 m3 h0) := by
  refine oCon.of (plainFor_of_name pn_1) ?_
  intro p e s m below meth c T X hx hby hml hown hnm hret hlk hZ e0
  have hml : c.maxLocals = 9 := hml
  have K : oKp h0 h0 [] [] := oKp.nil _ _
  refine oWk.cast (g' := (mkF m 0 #[iv p0, iv p1, uu, uu, uu, uu, uu, uu, uu] [])) (by first | rfl | (simp [entryFrame, mkF, argsToLocals, Value.category, maxLocals]; done)) ?_
  refine oWk.st (fun _ kt => XS.iloadN X.here hx rfl (hb hby at_0) rfl kt) ?_
  show oWk _ _ _ _ T (mkF m 1 #[iv p0, iv p1, uu, uu, uu, uu, uu, uu, uu] [(.int p0)])
  refine oWk.st (fun _ kt => X.ldcI hx hown (mvT hZ (oW hw 0 rfl)) rfl (hb hby at_1) kt) ?_
  show oWk _ _ _ _ T (mkF m 3 #[iv p0, iv p1, uu, uu, uu, uu, uu, uu, uu] [(.int 2147483647), (.int p0)])
  refine oWk.st (fun _ kt => XS.iand X.here hx rfl (hb hby at_3) rfl kt) ?_
  show oWk _ _ _ _ T (mkF m 4 #[iv p0, iv p1, uu, uu, uu, uu, uu, uu, uu] [(.int (p0 &&& (2147483647 : Int32)))])
  refine oWk.st (fun _ kt => XS.iconst X.here hx rfl (hb hby at_4) kt) ?_
  show oWk _ _ _ _ T (mkF m 5 #[iv p0, iv p1, uu, uu, uu, uu, uu, uu, uu] [(.int 3), (.int (p0 &&& (2147483647 : Int32)))])
  refine oWk.st (fun _ kt => iremM X hx rfl (hb hby at_5) rfl (by decide) kt) ?_
  show oWk _ _ _ _ T (mkF m 6 #[iv p0, iv p1, uu, uu, uu, uu, uu, uu, uu] [(.int ((p0 &&& (2147483647 : Int32)) % (3 : Int32)))])
  refine oWk.st (fun _ kt => XS.iconst X.here hx rfl (hb hby at_6) kt) ?_
  show oWk _ _ _ _ T (mkF m 7 #[iv p0, iv p1, uu, uu, uu, uu, uu, uu, uu] [(.int 1), (.int ((p0 &&& (2147483647 : Int32)) % (3 : Int32)))])
  refine oWk.st (fun _ kt => XS.iadd X.here hx rfl (hb hby at_7) rfl kt) ?_
  show oWk _ _ _ _ T (mkF m 8 #[iv p0, iv p1, uu, uu, uu, uu, uu, uu, uu] [(.int (((p0 &&& (2147483647 : Int32)) % (3 : Int32)) + (1 : Int32)))])
  generalize ha : (((p0 &&& (2147483647 : Int32)) % (3 : Int32)) + (1 : Int32)) = av
  show oWk _ _ _ _ T (mkF m 8 #[iv p0, iv p1, uu, uu, uu, uu, uu, uu, uu] [(.int av)])
  have cav := oThree ha
  rcases cav with rfl | rfl | rfl
  · show oWk _ _ _ _ T (mkF m 8 #[iv p0, iv p1, uu, uu, uu, uu, uu, uu, uu] [(.int 1)])
    refine oWk.st (fun _ kt => XS.istoreN X.here hx rfl (hb hby at_8) rfl (l' := #[iv p0, iv p1, iv 1, uu, uu, uu, uu, uu, uu]) rfl kt) ?_
    show oWk _ _ _ _ T (mkF m 9 #[iv p0, iv p1, iv 1, uu, uu, uu, uu, uu, uu] [])
    refine oWk.st (fun _ kt => XS.iloadN X.here hx rfl (hb hby at_9) rfl kt) ?_
    show oWk _ _ _ _ T (mkF m 10 #[iv p0, iv p1, iv 1, uu, uu, uu, uu, uu, uu] [(.int p1)])
    refine oWk.st (fun _ kt => X.ldcI hx hown (mvT hZ (oW hw 0 rfl)) rfl (hb hby at_10) kt) ?_
    show oWk _ _ _ _ T (mkF m 12 #[iv p0, iv p1, iv 1, uu, uu, uu, uu, uu, uu] [(.int 2147483647), (.int p1)])
    refine oWk.st (fun _ kt => XS.iand X.here hx rfl (hb hby at_12) rfl kt) ?_
    show oWk _ _ _ _ T (mkF m 13 #[iv p0, iv p1, iv 1, uu, uu, uu, uu, uu, uu] [(.int (p1 &&& (2147483647 : Int32)))])
    refine oWk.st (fun _ kt => XS.iconst X.here hx rfl (hb hby at_13) kt) ?_
    show oWk _ _ _ _ T (mkF m 14 #[iv p0, iv p1, iv 1, uu, uu, uu, uu, uu, uu] [(.int 3), (.int (p1 &&& (2147483647 : Int32)))])
    refine oWk.st (fun _ kt => iremM X hx rfl (hb hby at_14) rfl (by decide) kt) ?_
    show oWk _ _ _ _ T (mkF m 15 #[iv p0, iv p1, iv 1, uu, uu, uu, uu, uu, uu] [(.int ((p1 &&& (2147483647 : Int32)) % (3 : Int32)))])
    refine oWk.st (fun _ kt => XS.iconst X.here hx rfl (hb hby at_15) kt) ?_
    show oWk _ _ _ _ T (mkF m 16 #[iv p0, iv p1, iv 1, uu, uu, uu, uu, uu, uu] [(.int 1), (.int ((p1 &&& (2147483647 : Int32)) % (3 : Int32)))])
    refine oWk.st (fun _ kt => XS.iadd X.here hx rfl (hb hby at_16) rfl kt) ?_
    show oWk _ _ _ _ T (mkF m 17 #[iv p0, iv p1, iv 1, uu, uu, uu, uu, uu, uu] [(.int (((p1 &&& (2147483647 : Int32)) % (3 : Int32)) + (1 : Int32)))])
    generalize hb_ : (((p1 &&& (2147483647 : Int32)) % (3 : Int32)) + (1 : Int32)) = bv
    show oWk _ _ _ _ T (mkF m 17 #[iv p0, iv p1, iv 1, uu, uu, uu, uu, uu, uu] [(.int bv)])
    have cbv := oThree hb_
    rcases cbv with rfl | rfl | rfl
    · show oWk _ _ _ _ T (mkF m 17 #[iv p0, iv p1, iv 1, uu, uu, uu, uu, uu, uu] [(.int 1)])
      refine oWk.st (fun _ kt => XS.istoreN X.here hx rfl (hb hby at_17) rfl (l' := #[iv p0, iv p1, iv 1, iv 1, uu, uu, uu, uu, uu]) rfl kt) ?_
      show oWk _ _ _ _ T (mkF m 18 #[iv p0, iv p1, iv 1, iv 1, uu, uu, uu, uu, uu] [])
      refine oWk.st (fun _ kt => XS.iloadN X.here hx rfl (hb hby at_18) rfl kt) ?_
      show oWk _ _ _ _ T (mkF m 19 #[iv p0, iv p1, iv 1, iv 1, uu, uu, uu, uu, uu] [(.int 1)])
      have Oh := K.old O0 all0
      obtain ⟨_, _, ⟨T, L2, k2, n2⟩, -, X, ⟨Lc2, hQ, l2, y2, z2⟩, st⟩ := Jvm.LawKit.callS X hx (y := yy0) hown (mvT hZ (oW hw 1 rfl)) (mvT hZ (oW hw 2 rfl)) (mvT hZ (oW hw 3 rfl)) (mvT hZ (oW hw 4 rfl)) (by decide) (backOf (W := 0) (rHV1 l Z a0 hw [] m1 h0 Oh S_HEADING_OWN_VALUE) hZ (oW hw 4 rfl) (oW hw 3 rfl) (by decide) (by decide)) (g := (mkF m 19 #[iv p0, iv p1, iv 1, iv 1, uu, uu, uu, uu, uu] [(.int 1)])) rfl (by rw [hml]; rfl) (argsL := [(.int (1 : Int32))]) (rest := []) (lenOf pd_0 rfl) rfl (by show 2 * 0 + _ ≤ _; exact Nat.le_of_eq rfl) (hb hby at_19) (fun _ _ => ⟨rfl, e0, (by decide : 0 + 0 ≤ _), (by decide : 0 + 0 ≤ _)⟩)
      dsimp only [Pt.U, Pt.locs, Pt.cells, Pt.slots] at X l2 y2 z2 st hQ
      subst l2 y2 z2
      obtain ⟨rfl, e0, K1⟩ := hQ
      have K := K.call K1 all0
      rw [e0] at K
      refine oWk.st st ?_
      show oWk _ _ _ _ T (mkF m 22 #[iv p0, iv p1, iv 1, iv 1, uu, uu, uu, uu, uu] [(.ref m1)])
      refine oWk.st (fun _ kt => XS.astore X.here hx rfl (hb hby at_22) rfl rfl (l' := #[iv p0, iv p1, iv 1, iv 1, rv m1, uu, uu, uu, uu]) rfl kt) ?_
      show oWk _ _ _ _ T (mkF m 24 #[iv p0, iv p1, iv 1, iv 1, rv m1, uu, uu, uu, uu] [])
      refine oWk.st (fun _ kt => XS.iloadN X.here hx rfl (hb hby at_24) rfl kt) ?_
      show oWk _ _ _ _ T (mkF m 25 #[iv p0, iv p1, iv 1, iv 1, rv m1, uu, uu, uu, uu] [(.int 1)])
      have Oh := K.old O0 all0
      obtain ⟨_, _, ⟨T, L4, k4, n4⟩, -, X, ⟨Lc4, hQ, l4, y4, z4⟩, st⟩ := Jvm.LawKit.callS X hx (y := yy0) hown (mvT hZ (oW hw 1 rfl)) (mvT hZ (oW hw 2 rfl)) (mvT hZ (oW hw 3 rfl)) (mvT hZ (oW hw 4 rfl)) (by decide) (backOf (W := 0) (rHV1 l Z a0 hw [] m1 h0 Oh S_HEADING_OWN_VALUE) hZ (oW hw 4 rfl) (oW hw 3 rfl) (by decide) (by decide)) (g := (mkF m 25 #[iv p0, iv p1, iv 1, iv 1, rv m1, uu, uu, uu, uu] [(.int 1)])) rfl (by rw [hml]; rfl) (argsL := [(.int (1 : Int32))]) (rest := []) (lenOf pd_0 rfl) rfl (by show 2 * 0 + _ ≤ _; exact Nat.le_of_eq rfl) (hb hby at_25) (fun _ _ => ⟨rfl, e0, (by decide : 0 + 0 ≤ _), (by decide : 0 + 0 ≤ _)⟩)
      dsimp only [Pt.U, Pt.locs, Pt.cells, Pt.slots] at X l4 y4 z4 st hQ
      subst l4 y4 z4
      obtain ⟨rfl, e0, K3⟩ := hQ
      have K := K.call K3 all0
      rw [e0] at K
      refine oWk.st st ?_
      show oWk _ _ _ _ T (mkF m 28 #[iv p0, iv p1, iv 1, iv 1, rv m1, uu, uu, uu, uu] [(.ref m1)])
      refine oWk.st (fun _ kt => XS.astore X.here hx rfl (hb hby at_28) rfl rfl (l' := #[iv p0, iv p1, iv 1, iv 1, rv m1, rv m1, uu, uu, uu]) rfl kt) ?_
      show oWk _ _ _ _ T (mkF m 30 #[iv p0, iv p1, iv 1, iv 1, rv m1, rv m1, uu, uu, uu] [])
      refine oWk.st (fun _ kt => XS.aload X.here hx rfl (hb hby at_30) rfl rfl kt) ?_
      show oWk _ _ _ _ T (mkF m 32 #[iv p0, iv p1, iv 1, iv 1, rv m1, rv m1, uu, uu, uu] [(.ref m1)])
      refine oWk.st (fun _ kt => XS.iloadN X.here hx rfl (hb hby at_32) rfl kt) ?_
      show oWk _ _ _ _ T (mkF m 33 #[iv p0, iv p1, iv 1, iv 1, rv m1, rv m1, uu, uu, uu] [(.int 1), (.ref m1)])
      have Oh := K.old O0 all0
      obtain ⟨_, _, ⟨T, L6, k6, n6⟩, -, X, ⟨Lc6, hQ, l6, y6, z6⟩, st⟩ := Jvm.LawKit.callS X hx (y := yy1) hown (mvT hZ (oW hw 7 rfl)) (mvT hZ (oW hw 8 rfl)) (mvT hZ (oW hw 9 rfl)) (mvT hZ (oW hw 10 rfl)) (by decide) (backOf (W := 1) (rEX1 l Z a0 hw [] m1 h0 Oh S_HEADING_OWN_VALUE) hZ (oW hw 10 rfl) (oW hw 9 rfl) (by decide) (by decide)) (g := (mkF m 33 #[iv p0, iv p1, iv 1, iv 1, rv m1, rv m1, uu, uu, uu] [(.int 1), (.ref m1)])) rfl (by rw [hml]; rfl) (argsL := [(.int (1 : Int32))]) (rest := [(.ref m1)]) (lenOf pd_0 rfl) rfl (by show 2 * 0 + _ ≤ _; exact Nat.le_of_eq rfl) (hb hby at_33) (fun _ _ => ⟨rfl, e0, (by decide : 0 + 0 ≤ _), (by decide : 0 + 0 ≤ _)⟩)
      dsimp only [Pt.U, Pt.locs, Pt.cells, Pt.slots] at X l6 y6 z6 st hQ
      subst l6 y6 z6
      obtain ⟨rfl, e0, K5⟩ := hQ
      have K := K.call K5 all0
      rw [e0] at K
      refine oWk.st st ?_
      show oWk _ _ _ _ T (mkF m 36 #[iv p0, iv p1, iv 1, iv 1, rv m1, rv m1, uu, uu, uu] [(.ref m1), (.ref m1)])
      refine oWk.st (fun _ kt => Jvm.RoadKit.acmp (g := (mkF m 36 #[iv p0, iv p1, iv 1, iv 1, rv m1, rv m1, uu, uu, uu] [(.ref m1), (.ref m1)])) X hx rfl rfl rfl (pc0 := 36) (pc' := 39) (same := true) rfl (hb hby at_36) rfl (decide_eq_true rfl) (by decide) (by decide) kt) ?_
      show oWk _ _ _ _ T (mkF m 39 #[iv p0, iv p1, iv 1, iv 1, rv m1, rv m1, uu, uu, uu] [])
      refine oWk.st (fun _ kt => XS.aload X.here hx rfl (hb hby at_39) rfl rfl kt) ?_
      show oWk _ _ _ _ T (mkF m 41 #[iv p0, iv p1, iv 1, iv 1, rv m1, rv m1, uu, uu, uu] [(.ref m1)])
      refine oWk.st (fun _ kt => XS.iloadN X.here hx rfl (hb hby at_41) rfl kt) ?_
      show oWk _ _ _ _ T (mkF m 42 #[iv p0, iv p1, iv 1, iv 1, rv m1, rv m1, uu, uu, uu] [(.int 1), (.ref m1)])
      have Oh := K.old O0 all0
      obtain ⟨_, _, ⟨T, L8, k8, n8⟩, -, X, ⟨Lc8, hQ, l8, y8, z8⟩, st⟩ := Jvm.LawKit.callS X hx (y := yy1) hown (mvT hZ (oW hw 7 rfl)) (mvT hZ (oW hw 8 rfl)) (mvT hZ (oW hw 9 rfl)) (mvT hZ (oW hw 10 rfl)) (by decide) (backOf (W := 1) (rEX1 l Z a0 hw [] m1 h0 Oh S_HEADING_OWN_VALUE) hZ (oW hw 10 rfl) (oW hw 9 rfl) (by decide) (by decide)) (g := (mkF m 42 #[iv p0, iv p1, iv 1, iv 1, rv m1, rv m1, uu, uu, uu] [(.int 1), (.ref m1)])) rfl (by rw [hml]; rfl) (argsL := [(.int (1 : Int32))]) (rest := [(.ref m1)]) (lenOf pd_0 rfl) rfl (by show 2 * 0 + _ ≤ _; exact Nat.le_of_eq rfl) (hb hby at_42) (fun _ _ => ⟨rfl, e0, (by decide : 0 + 0 ≤ _), (by decide : 0 + 0 ≤ _)⟩)
      dsimp only [Pt.U, Pt.locs, Pt.cells, Pt.slots] at X l8 y8 z8 st hQ
      subst l8 y8 z8
      obtain ⟨rfl, e0, K7⟩ := hQ
      have K := K.call K7 all0
      rw [e0] at K
      refine oWk.st st ?_
      show oWk _ _ _ _ T (mkF m 45 #[iv p0, iv p1, iv 1, iv 1, rv m1, rv m1, uu, uu, uu] [(.ref m1), (.ref m1)])
      refine oWk.st (fun _ kt => Jvm.RoadKit.acmp (g := (mkF m 45 #[iv p0, iv p1, iv 1, iv 1, rv m1, rv m1, uu, uu, uu] [(.ref m1), (.ref m1)])) X hx rfl rfl rfl (pc0 := 45) (pc' := 48) (same := true) rfl (hb hby at_45) rfl (decide_eq_true rfl) (by decide) (by decide) kt) ?_
      show oWk _ _ _ _ T (mkF m 48 #[iv p0, iv p1, iv 1, iv 1, rv m1, rv m1, uu, uu, uu] [])
      refine oWk.st (fun _ kt => XS.iconst X.here hx rfl (hb hby at_48) kt) ?_
      show oWk _ _ _ _ T (mkF m 49 #[iv p0, iv p1, iv 1, iv 1, rv m1, rv m1, uu, uu, uu] [(.int 1)])
      refine oWk.st (fun _ kt => XS.goto X.here hx rfl (pc0 := 49) (pc' := 53) rfl (hb hby at_49) (by decide) (by decide) kt) ?_
      show oWk _ _ _ _ T (mkF m 53 #[iv p0, iv p1, iv 1, iv 1, rv m1, rv m1, uu, uu, uu] [(.int 1)])
      refine oWk.st (fun _ kt => XS.istore X.here hx rfl (hb hby at_53) rfl (l' := #[iv p0, iv p1, iv 1, iv 1, rv m1, rv m1, iv 1, uu, uu]) rfl kt) ?_
      show oWk _ _ _ _ T (mkF m 55 #[iv p0, iv p1, iv 1, iv 1, rv m1, rv m1, iv 1, uu, uu] [])
      refine oWk.st (fun _ kt => XS.iloadN X.here hx rfl (hb hby at_55) rfl kt) ?_
      show oWk _ _ _ _ T (mkF m 56 #[iv p0, iv p1, iv 1, iv 1, rv m1, rv m1, iv 1, uu, uu] [(.int 1)])
      refine oWk.st (fun _ kt => XS.iloadN X.here hx rfl (hb hby at_56) rfl kt) ?_
      show oWk _ _ _ _ T (mkF m 57 #[iv p0, iv p1, iv 1, iv 1, rv m1, rv m1, iv 1, uu, uu] [(.int 1), (.int 1)])
      refine oWk.st (fun _ kt => XS.icmpNo X.here hx rfl (hb hby at_57) rfl (teq (by decide)).2 kt) ?_
      show oWk _ _ _ _ T (mkF m 60 #[iv p0, iv p1, iv 1, iv 1, rv m1, rv m1, iv 1, uu, uu] [])
      refine oWk.st (fun _ kt => XS.iconst X.here hx rfl (hb hby at_60) kt) ?_
      show oWk _ _ _ _ T (mkF m 61 #[iv p0, iv p1, iv 1, iv 1, rv m1, rv m1, iv 1, uu, uu] [(.int 1)])
      refine oWk.st (fun _ kt => XS.goto X.here hx rfl (pc0 := 61) (pc' := 65) rfl (hb hby at_61) (by decide) (by decide) kt) ?_
      show oWk _ _ _ _ T (mkF m 65 #[iv p0, iv p1, iv 1, iv 1, rv m1, rv m1, iv 1, uu, uu] [(.int 1)])
      refine oWk.st (fun _ kt => XS.aload X.here hx rfl (hb hby at_65) rfl rfl kt) ?_
      show oWk _ _ _ _ T (mkF m 67 #[iv p0, iv p1, iv 1, iv 1, rv m1, rv m1, iv 1, uu, uu] [(.ref m1), (.int 1)])
      refine oWk.st (fun _ kt => XS.aload X.here hx rfl (hb hby at_67) rfl rfl kt) ?_
      show oWk _ _ _ _ T (mkF m 69 #[iv p0, iv p1, iv 1, iv 1, rv m1, rv m1, iv 1, uu, uu] [(.ref m1), (.ref m1), (.int 1)])
      refine oWk.st (fun _ kt => Jvm.RoadKit.acmp (g := (mkF m 69 #[iv p0, iv p1, iv 1, iv 1, rv m1, rv m1, iv 1, uu, uu] [(.ref m1), (.ref m1), (.int 1)])) X hx rfl rfl rfl (pc0 := 69) (pc' := 72) (same := true) rfl (hb hby at_69) rfl (decide_eq_true rfl) (by decide) (by decide) kt) ?_
      show oWk _ _ _ _ T (mkF m 72 #[iv p0, iv p1, iv 1, iv 1, rv m1, rv m1, iv 1, uu, uu] [(.int 1)])
      refine oWk.st (fun _ kt => XS.iconst X.here hx rfl (hb hby at_72) kt) ?_
      show oWk _ _ _ _ T (mkF m 73 #[iv p0, iv p1, iv 1, iv 1, rv m1, rv m1, iv 1, uu, uu] [(.int 1), (.int 1)])
      refine oWk.st (fun _ kt => XS.goto X.here hx rfl (pc0 := 73) (pc' := 77) rfl (hb hby at_73) (by decide) (by decide) kt) ?_
      show oWk _ _ _ _ T (mkF m 77 #[iv p0, iv p1, iv 1, iv 1, rv m1, rv m1, iv 1, uu, uu] [(.int 1), (.int 1)])
      refine oWk.st (fun _ kt => XS.icmpNo X.here hx rfl (hb hby at_77) rfl (teq (by decide)).2 kt) ?_
      show oWk _ _ _ _ T (mkF m 80 #[iv p0, iv p1, iv 1, iv 1, rv m1, rv m1, iv 1, uu, uu] [])
      refine oWk.st (fun _ kt => XS.iconst X.here hx rfl (hb hby at_80) kt) ?_
      show oWk _ _ _ _ T (mkF m 81 #[iv p0, iv p1, iv 1, iv 1, rv m1, rv m1, iv 1, uu, uu] [(.int 1)])
      refine oWk.st (fun _ kt => XS.goto X.here hx rfl (pc0 := 81) (pc' := 85) rfl (hb hby at_81) (by decide) (by decide) kt) ?_
      show oWk _ _ _ _ T (mkF m 85 #[iv p0, iv p1, iv 1, iv 1, rv m1, rv m1, iv 1, uu, uu] [(.int 1)])
      refine oWk.st (fun _ kt => XS.istore X.here hx rfl (hb hby at_85) rfl (l' := #[iv p0, iv p1, iv 1, iv 1, rv m1, rv m1, iv 1, iv 1, uu]) rfl kt) ?_
      show oWk _ _ _ _ T (mkF m 87 #[iv p0, iv p1, iv 1, iv 1, rv m1, rv m1, iv 1, iv 1, uu] [])
      refine oWk.st (fun _ kt => XS.iloadN X.here hx rfl (hb hby at_87) rfl kt) ?_
      show oWk _ _ _ _ T (mkF m 88 #[iv p0, iv p1, iv 1, iv 1, rv m1, rv m1, iv 1, iv 1, uu] [(.int 1)])
      refine oWk.st (fun _ kt => XS.iloadN X.here hx rfl (hb hby at_88) rfl kt) ?_
      show oWk _ _ _ _ T (mkF m 89 #[iv p0, iv p1, iv 1, iv 1, rv m1, rv m1, iv 1, iv 1, uu] [(.int 1), (.int 1)])
      refine oWk.st (fun _ kt => XS.icmpYes X.here hx rfl (pc0 := 89) (pc' := 96) rfl (hb hby at_89) rfl (flt (by decide)).2.1 (by decide) (by decide) kt) ?_
      show oWk _ _ _ _ T (mkF m 96 #[iv p0, iv p1, iv 1, iv 1, rv m1, rv m1, iv 1, iv 1, uu] [])
      refine oWk.st (fun _ kt => XS.iconst X.here hx rfl (hb hby at_96) kt) ?_
      show oWk _ _ _ _ T (mkF m 97 #[iv p0, iv p1, iv 1, iv 1, rv m1, rv m1, iv 1, iv 1, uu] [(.int 0)])
      refine oWk.st (fun _ kt => XS.aload X.here hx rfl (hb hby at_97) rfl rfl kt) ?_
      show oWk _ _ _ _ T (mkF m 99 #[iv p0, iv p1, iv 1, iv 1, rv m1, rv m1, iv 1, iv 1, uu] [(.ref m1), (.int 0)])
      have Oh := K.old O0 all0
      obtain ⟨cq10, kq10, q10a, q10b, q10c⟩ := isOf hZ e0 E_m1
      obtain ⟨_, _, ⟨T, L10, k10, n10⟩, -, X, ⟨Lc10, hQ, l10, y10, z10⟩, st⟩ := X.virtualBack hx (y := yy2) (z := yy2) hown (mvT hZ (oW hw 12 rfl)) (mvT hZ (oW hw 13 rfl)) (notFace_of_selects (args := #[]) (mvT hZ (oW hw 15 rfl))) (mvT hZ (oW hw 15 rfl)) (mvT hZ (oW hw 14 rfl)) (by decide) (backOf (W := 1) (rDV l Z a0 hw [] m1 (4608533498688228557 : UInt64) h0 Oh F_defaultValue_m1) hZ (oW hw 16 rfl) (oW hw 3 rfl) (by decide) (by decide)) q10a q10c (g := (mkF m 99 #[iv p0, iv p1, iv 1, iv 1, rv m1, rv m1, iv 1, iv 1, uu] [(.ref m1), (.int 0)])) rfl (by rw [hml]; rfl) (Steps.refl _) (argsL := []) (rest := [(.int (0 : Int32))]) (lenOf pd_1 rfl) rfl (by show 2 * 0 + _ ≤ _; exact Nat.le_of_eq rfl) (hb hby at_99) (fun _ _ => ⟨rfl, e0, (by decide : 0 + 0 ≤ _), (by decide : 0 + 0 ≤ _)⟩)
      dsimp only [Pt.U, Pt.locs, Pt.cells, Pt.slots] at X l10 y10 z10 st hQ
      subst l10 y10 z10
      obtain ⟨rfl, e0, K9⟩ := hQ
      have K := K.call K9 all0
      rw [e0] at K
      refine oWk.tr st ?_
      show oWk _ _ _ _ T (mkF m 102 #[iv p0, iv p1, iv 1, iv 1, rv m1, rv m1, iv 1, iv 1, uu] [(.double (4608533498688228557 : UInt64)), (.int 0)])
      refine oWk.st (fun _ kt => XS.aload X.here hx rfl (hb hby at_102) rfl rfl kt) ?_
      show oWk _ _ _ _ T (mkF m 104 #[iv p0, iv p1, iv 1, iv 1, rv m1, rv m1, iv 1, iv 1, uu] [(.ref m1), (.double (4608533498688228557 : UInt64)), (.int 0)])
      have Oh := K.old O0 all0
      obtain ⟨cq12, kq12, q12a, q12b, q12c⟩ := isOf hZ e0 E_m1
      obtain ⟨_, _, ⟨T, L12, k12, n12⟩, -, X, ⟨Lc12, hQ, l12, y12, z12⟩, st⟩ := X.virtualBack hx (y := yy2) (z := yy2) hown (mvT hZ (oW hw 12 rfl)) (mvT hZ (oW hw 13 rfl)) (notFace_of_selects (args := #[]) (mvT hZ (oW hw 15 rfl))) (mvT hZ (oW hw 15 rfl)) (mvT hZ (oW hw 14 rfl)) (by decide) (backOf (W := 3) (rDV l Z a0 hw [] m1 (4608533498688228557 : UInt64) h0 Oh F_defaultValue_m1) hZ (oW hw 16 rfl) (oW hw 3 rfl) (by decide) (by decide)) q12a q12c (g := (mkF m 104 #[iv p0, iv p1, iv 1, iv 1, rv m1, rv m1, iv 1, iv 1, uu] [(.ref m1), (.double (4608533498688228557 : UInt64)), (.int 0)])) rfl (by rw [hml]; rfl) (Steps.refl _) (argsL := []) (rest := [(.double (4608533498688228557 : UInt64)), (.int (0 : Int32))]) (lenOf pd_1 rfl) rfl (by show 2 * 0 + _ ≤ _; exact Nat.le_of_eq rfl) (hb hby at_104) (fun _ _ => ⟨rfl, e0, (by decide : 0 + 0 ≤ _), (by decide : 0 + 0 ≤ _)⟩)
      dsimp only [Pt.U, Pt.locs, Pt.cells, Pt.slots] at X l12 y12 z12 st hQ
      subst l12 y12 z12
      obtain ⟨rfl, e0, K11⟩ := hQ
      have K := K.call K11 all0
      rw [e0] at K
      refine oWk.tr st ?_
      show oWk _ _ _ _ T (mkF m 107 #[iv p0, iv p1, iv 1, iv 1, rv m1, rv m1, iv 1, iv 1, uu] [(.double (4608533498688228557 : UInt64)), (.double (4608533498688228557 : UInt64)), (.int 0)])
      refine oWk.st (fun _ kt => XS.dcmpS X.here hx rfl (v := (0 : Int32)) (hb hby at_107) rfl (by decide +kernel) kt) ?_
      show oWk _ _ _ _ T (mkF m 108 #[iv p0, iv p1, iv 1, iv 1, rv m1, rv m1, iv 1, iv 1, uu] [(.int 0), (.int 0)])
      refine oWk.st (fun _ kt => XS.ifYes X.here hx rfl (pc0 := 108) (pc' := 115) rfl (hb hby at_108) rfl ((if0 _ _).trans (flt (by decide)).2.2.2) (by decide) (by decide) kt) ?_
      show oWk _ _ _ _ T (mkF m 115 #[iv p0, iv p1, iv 1, iv 1, rv m1, rv m1, iv 1, iv 1, uu] [(.int 0)])
      refine oWk.st (fun _ kt => XS.iconst X.here hx rfl (hb hby at_115) kt) ?_
      show oWk _ _ _ _ T (mkF m 116 #[iv p0, iv p1, iv 1, iv 1, rv m1, rv m1, iv 1, iv 1, uu] [(.int 0), (.int 0)])
      refine oWk.st (fun _ kt => XS.icmpNo X.here hx rfl (hb hby at_116) rfl (teq (by decide)).2 kt) ?_
      show oWk _ _ _ _ T (mkF m 119 #[iv p0, iv p1, iv 1, iv 1, rv m1, rv m1, iv 1, iv 1, uu] [])
      refine oWk.st (fun _ kt => XS.iconst X.here hx rfl (hb hby at_119) kt) ?_
      show oWk _ _ _ _ T (mkF m 120 #[iv p0, iv p1, iv 1, iv 1, rv m1, rv m1, iv 1, iv 1, uu] [(.int 1)])
      refine oWk.st (fun _ kt => XS.goto X.here hx rfl (pc0 := 120) (pc' := 124) rfl (hb hby at_120) (by decide) (by decide) kt) ?_
      show oWk _ _ _ _ T (mkF m 124 #[iv p0, iv p1, iv 1, iv 1, rv m1, rv m1, iv 1, iv 1, uu] [(.int 1)])
      refine oWk.st (fun _ kt => XS.istore X.here hx rfl (hb hby at_124) rfl (l' := #[iv p0, iv p1, iv 1, iv 1, rv m1, rv m1, iv 1, iv 1, iv 1]) rfl kt) ?_
      show oWk _ _ _ _ T (mkF m 126 #[iv p0, iv p1, iv 1, iv 1, rv m1, rv m1, iv 1, iv 1, iv 1] [])
      refine oWk.st (fun _ kt => XS.iload X.here hx rfl (hb hby at_126) rfl kt) ?_
      show oWk _ _ _ _ T (mkF m 128 #[iv p0, iv p1, iv 1, iv 1, rv m1, rv m1, iv 1, iv 1, iv 1] [(.int 1)])
      refine oWk.st (fun _ kt => XS.ifNo X.here hx rfl (hb hby at_128) rfl ((if0 _ _).trans (feq (by decide)).1) kt) ?_
      show oWk _ _ _ _ T (mkF m 131 #[iv p0, iv p1, iv 1, iv 1, rv m1, rv m1, iv 1, iv 1, iv 1] [])
      refine oWk.st (fun _ kt => XS.iload X.here hx rfl (hb hby at_131) rfl kt) ?_
      show oWk _ _ _ _ T (mkF m 133 #[iv p0, iv p1, iv 1, iv 1, rv m1, rv m1, iv 1, iv 1, iv 1] [(.int 1)])
      refine oWk.st (fun _ kt => XS.ifNo X.here hx rfl (hb hby at_133) rfl ((if0 _ _).trans (feq (by decide)).1) kt) ?_
      show oWk _ _ _ _ T (mkF m 136 #[iv p0, iv p1, iv 1, iv 1, rv m1, rv m1, iv 1, iv 1, iv 1] [])
      refine oWk.st (fun _ kt => XS.iload X.here hx rfl (hb hby at_136) rfl kt) ?_
      show oWk _ _ _ _ T (mkF m 138 #[iv p0, iv p1, iv 1, iv 1, rv m1, rv m1, iv 1, iv 1, iv 1] [(.int 1)])
      refine oWk.st (fun _ kt => XS.ifNo X.here hx rfl (hb hby at_138) rfl ((if0 _ _).trans (feq (by decide)).1) kt) ?_
      show oWk _ _ _ _ T (mkF m 141 #[iv p0, iv p1, iv 1, iv 1, rv m1, rv m1, iv 1, iv 1, iv 1] [])
      refine oWk.st (fun _ kt => XS.iconst X.here hx rfl (hb hby at_141) kt) ?_
      show oWk _ _ _ _ T (mkF m 142 #[iv p0, iv p1, iv 1, iv 1, rv m1, rv m1, iv 1, iv 1, iv 1] [(.int 1)])
      refine oWk.st (fun _ kt => XS.goto X.here hx rfl (pc0 := 142) (pc' := 146) rfl (hb hby at_142) (by decide) (by decide) kt) ?_
      show oWk _ _ _ _ T (mkF m 146 #[iv p0, iv p1, iv 1, iv 1, rv m1, rv m1, iv 1, iv 1, iv 1] [(.int 1)])
      exact oRetZ X hx hlk hret (hb hby at_146) (Or.inr rfl) (by rw [e0]; exact ⟨rfl, K.fr⟩) (by decide) (by decide)
    · show oWk _ _ _ _ T (mkF m 17 #[iv p0, iv p1, iv 1, uu, uu, uu, uu, uu, uu] [(.int 2)])
      refine oWk.st (fun _ kt => XS.istoreN X.here hx rfl (hb hby at_17) rfl (l' := #[iv p0, iv p1, iv 1, iv 2, uu, uu, uu, uu, uu]) rfl kt) ?_
      show oWk _ _ _ _ T (mkF m 18 #[iv p0, iv p1, iv 1, iv 2, uu, uu, uu, uu, uu] [])
      refine oWk.st (fun _ kt => XS.iloadN X.here hx rfl (hb hby at_18) rfl kt) ?_
      show oWk _ _ _ _ T (mkF m 19 #[iv p0, iv p1, iv 1, iv 2, uu, uu, uu, uu, uu] [(.int 1)])
      have Oh := K.old O0 all0
      obtain ⟨_, _, ⟨T, L14, k14, n14⟩, -, X, ⟨Lc14, hQ, l14, y14, z14⟩, st⟩ := Jvm.LawKit.callS X hx (y := yy0) hown (mvT hZ (oW hw 1 rfl)) (mvT hZ (oW hw 2 rfl)) (mvT hZ (oW hw 3 rfl)) (mvT hZ (oW hw 4 rfl)) (by decide) (backOf (W := 0) (rHV1 l Z a0 hw [] m1 h0 Oh S_HEADING_OWN_VALUE) hZ (oW hw 4 rfl) (oW hw 3 rfl) (by decide) (by decide)) (g := (mkF m 19 #[iv p0, iv p1, iv 1, iv 2, uu, uu, uu, uu, uu] [(.int 1)])) rfl (by rw [hml]; rfl) (argsL := [(.int (1 : Int32))]) (rest := []) (lenOf pd_0 rfl) rfl (by show 2 * 0 + _ ≤ _; exact Nat.le_of_eq rfl) (hb hby at_19) (fun _ _ => ⟨rfl, e0, (by decide : 0 + 0 ≤ _), (by decide : 0 + 0 ≤ _)⟩)
      dsimp only [Pt.U, Pt.locs, Pt.cells, Pt.slots] at X l14 y14 z14 st hQ
      subst l14 y14 z14
      obtain ⟨rfl, e0, K13⟩ := hQ
      have K := K.call K13 all0
      rw [e0] at K
      refine oWk.st st ?_
      show oWk _ _ _ _ T (mkF m 22 #[iv p0, iv p1, iv 1, iv 2, uu, uu, uu, uu, uu] [(.ref m1)])
      refine oWk.st (fun _ kt => XS.astore X.here hx rfl (hb hby at_22) rfl rfl (l' := #[iv p0, iv p1, iv 1, iv 2, rv m1, uu, uu, uu, uu]) rfl kt) ?_
      show oWk _ _ _ _ T (mkF m 24 #[iv p0, iv p1, iv 1, iv 2, rv m1, uu, uu, uu, uu] [])
      refine oWk.st (fun _ kt => XS.iloadN X.here hx rfl (hb hby at_24) rfl kt) ?_
      show oWk _ _ _ _ T (mkF m 25 #[iv p0, iv p1, iv 1, iv 2, rv m1, uu, uu, uu, uu] [(.int 2)])
      have Oh := K.old O0 all0
      obtain ⟨_, _, ⟨T, L16, k16, n16⟩, -, X, ⟨Lc16, hQ, l16, y16, z16⟩, st⟩ := Jvm.LawKit.callS X hx (y := yy0) hown (mvT hZ (oW hw 1 rfl)) (mvT hZ (oW hw 2 rfl)) (mvT hZ (oW hw 3 rfl)) (mvT hZ (oW hw 4 rfl)) (by decide) (backOf (W := 0) (rHV2 l Z a0 hw [] m2 h0 Oh S_HEADING_PARENT_VALUE) hZ (oW hw 4 rfl) (oW hw 3 rfl) (by decide) (by decide)) (g := (mkF m 25 #[iv p0, iv p1, iv 1, iv 2, rv m1, uu, uu, uu, uu] [(.int 2)])) rfl (by rw [hml]; rfl) (argsL := [(.int (2 : Int32))]) (rest := []) (lenOf pd_0 rfl) rfl (by show 2 * 0 + _ ≤ _; exact Nat.le_of_eq rfl) (hb hby at_25) (fun _ _ => ⟨rfl, e0, (by decide : 0 + 0 ≤ _), (by decide : 0 + 0 ≤ _)⟩)
      dsimp only [Pt.U, Pt.locs, Pt.cells, Pt.slots] at X l16 y16 z16 st hQ
      subst l16 y16 z16
      obtain ⟨rfl, e0, K15⟩ := hQ
      have K := K.call K15 all0
      rw [e0] at K
      refine oWk.st st ?_
      show oWk _ _ _ _ T (mkF m 28 #[iv p0, iv p1, iv 1, iv 2, rv m1, uu, uu, uu, uu] [(.ref m2)])
      refine oWk.st (fun _ kt => XS.astore X.here hx rfl (hb hby at_28) rfl rfl (l' := #[iv p0, iv p1, iv 1, iv 2, rv m1, rv m2, uu, uu, uu]) rfl kt) ?_
      show oWk _ _ _ _ T (mkF m 30 #[iv p0, iv p1, iv 1, iv 2, rv m1, rv m2, uu, uu, uu] [])
      refine oWk.st (fun _ kt => XS.aload X.here hx rfl (hb hby at_30) rfl rfl kt) ?_
      show oWk _ _ _ _ T (mkF m 32 #[iv p0, iv p1, iv 1, iv 2, rv m1, rv m2, uu, uu, uu] [(.ref m1)])
      refine oWk.st (fun _ kt => XS.iloadN X.here hx rfl (hb hby at_32) rfl kt) ?_
      show oWk _ _ _ _ T (mkF m 33 #[iv p0, iv p1, iv 1, iv 2, rv m1, rv m2, uu, uu, uu] [(.int 1), (.ref m1)])
      have Oh := K.old O0 all0
      obtain ⟨_, _, ⟨T, L18, k18, n18⟩, -, X, ⟨Lc18, hQ, l18, y18, z18⟩, st⟩ := Jvm.LawKit.callS X hx (y := yy1) hown (mvT hZ (oW hw 7 rfl)) (mvT hZ (oW hw 8 rfl)) (mvT hZ (oW hw 9 rfl)) (mvT hZ (oW hw 10 rfl)) (by decide) (backOf (W := 1) (rEX1 l Z a0 hw [] m1 h0 Oh S_HEADING_OWN_VALUE) hZ (oW hw 10 rfl) (oW hw 9 rfl) (by decide) (by decide)) (g := (mkF m 33 #[iv p0, iv p1, iv 1, iv 2, rv m1, rv m2, uu, uu, uu] [(.int 1), (.ref m1)])) rfl (by rw [hml]; rfl) (argsL := [(.int (1 : Int32))]) (rest := [(.ref m1)]) (lenOf pd_0 rfl) rfl (by show 2 * 0 + _ ≤ _; exact Nat.le_of_eq rfl) (hb hby at_33) (fun _ _ => ⟨rfl, e0, (by decide : 0 + 0 ≤ _), (by decide : 0 + 0 ≤ _)⟩)
      dsimp only [Pt.U, Pt.locs, Pt.cells, Pt.slots] at X l18 y18 z18 st hQ
      subst l18 y18 z18
      obtain ⟨rfl, e0, K17⟩ := hQ
      have K := K.call K17 all0
      rw [e0] at K
      refine oWk.st st ?_
      show oWk _ _ _ _ T (mkF m 36 #[iv p0, iv p1, iv 1, iv 2, rv m1, rv m2, uu, uu, uu] [(.ref m1), (.ref m1)])
      refine oWk.st (fun _ kt => Jvm.RoadKit.acmp (g := (mkF m 36 #[iv p0, iv p1, iv 1, iv 2, rv m1, rv m2, uu, uu, uu] [(.ref m1), (.ref m1)])) X hx rfl rfl rfl (pc0 := 36) (pc' := 39) (same := true) rfl (hb hby at_36) rfl (decide_eq_true rfl) (by decide) (by decide) kt) ?_
      show oWk _ _ _ _ T (mkF m 39 #[iv p0, iv p1, iv 1, iv 2, rv m1, rv m2, uu, uu, uu] [])
      refine oWk.st (fun _ kt => XS.aload X.here hx rfl (hb hby at_39) rfl rfl kt) ?_
      show oWk _ _ _ _ T (mkF m 41 #[iv p0, iv p1, iv 1, iv 2, rv m1, rv m2, uu, uu, uu] [(.ref m2)])
      refine oWk.st (fun _ kt => XS.iloadN X.here hx rfl (hb hby at_41) rfl kt) ?_
      show oWk _ _ _ _ T (mkF m 42 #[iv p0, iv p1, iv 1, iv 2, rv m1, rv m2, uu, uu, uu] [(.int 2), (.ref m2)])
      have Oh := K.old O0 all0
      obtain ⟨_, _, ⟨T, L20, k20, n20⟩, -, X, ⟨Lc20, hQ, l20, y20, z20⟩, st⟩ := Jvm.LawKit.callS X hx (y := yy1) hown (mvT hZ (oW hw 7 rfl)) (mvT hZ (oW hw 8 rfl)) (mvT hZ (oW hw 9 rfl)) (mvT hZ (oW hw 10 rfl)) (by decide) (backOf (W := 1) (rEX2 l Z a0 hw [] m2 h0 Oh S_HEADING_PARENT_VALUE) hZ (oW hw 10 rfl) (oW hw 9 rfl) (by decide) (by decide)) (g := (mkF m 42 #[iv p0, iv p1, iv 1, iv 2, rv m1, rv m2, uu, uu, uu] [(.int 2), (.ref m2)])) rfl (by rw [hml]; rfl) (argsL := [(.int (2 : Int32))]) (rest := [(.ref m2)]) (lenOf pd_0 rfl) rfl (by show 2 * 0 + _ ≤ _; exact Nat.le_of_eq rfl) (hb hby at_42) (fun _ _ => ⟨rfl, e0, (by decide : 0 + 0 ≤ _), (by decide : 0 + 0 ≤ _)⟩)
      dsimp only [Pt.U, Pt.locs, Pt.cells, Pt.slots] at X l20 y20 z20 st hQ
      subst l20 y20 z20
      obtain ⟨rfl, e0, K19⟩ := hQ
      have K := K.call K19 all0
      rw [e0] at K
      refine oWk.st st ?_
      show oWk _ _ _ _ T (mkF m 45 #[iv p0, iv p1, iv 1, iv 2, rv m1, rv m2, uu, uu, uu] [(.ref m2), (.ref m2)])
      refine oWk.st (fun _ kt => Jvm.RoadKit.acmp (g := (mkF m 45 #[iv p0, iv p1, iv 1, iv 2, rv m1, rv m2, uu, uu, uu] [(.ref m2), (.ref m2)])) X hx rfl rfl rfl (pc0 := 45) (pc' := 48) (same := true) rfl (hb hby at_45) rfl (decide_eq_true rfl) (by decide) (by decide) kt) ?_
      show oWk _ _ _ _ T (mkF m 48 #[iv p0, iv p1, iv 1, iv 2, rv m1, rv m2, uu, uu, uu] [])
      refine oWk.st (fun _ kt => XS.iconst X.here hx rfl (hb hby at_48) kt) ?_
      show oWk _ _ _ _ T (mkF m 49 #[iv p0, iv p1, iv 1, iv 2, rv m1, rv m2, uu, uu, uu] [(.int 1)])
      refine oWk.st (fun _ kt => XS.goto X.here hx rfl (pc0 := 49) (pc' := 53) rfl (hb hby at_49) (by decide) (by decide) kt) ?_
      show oWk _ _ _ _ T (mkF m 53 #[iv p0, iv p1, iv 1, iv 2, rv m1, rv m2, uu, uu, uu] [(.int 1)])
      refine oWk.st (fun _ kt => XS.istore X.here hx rfl (hb hby at_53) rfl (l' := #[iv p0, iv p1, iv 1, iv 2, rv m1, rv m2, iv 1, uu, uu]) rfl kt) ?_
      show oWk _ _ _ _ T (mkF m 55 #[iv p0, iv p1, iv 1, iv 2, rv m1, rv m2, iv 1, uu, uu] [])
      refine oWk.st (fun _ kt => XS.iloadN X.here hx rfl (hb hby at_55) rfl kt) ?_
      show oWk _ _ _ _ T (mkF m 56 #[iv p0, iv p1, iv 1, iv 2, rv m1, rv m2, iv 1, uu, uu] [(.int 1)])
      refine oWk.st (fun _ kt => XS.iloadN X.here hx rfl (hb hby at_56) rfl kt) ?_
      show oWk _ _ _ _ T (mkF m 57 #[iv p0, iv p1, iv 1, iv 2, rv m1, rv m2, iv 1, uu, uu] [(.int 2), (.int 1)])
      refine oWk.st (fun _ kt => XS.icmpYes X.here hx rfl (pc0 := 57) (pc' := 64) rfl (hb hby at_57) rfl (feq (by decide)).2 (by decide) (by decide) kt) ?_
      show oWk _ _ _ _ T (mkF m 64 #[iv p0, iv p1, iv 1, iv 2, rv m1, rv m2, iv 1, uu, uu] [])
      refine oWk.st (fun _ kt => XS.iconst X.here hx rfl (hb hby at_64) kt) ?_
      show oWk _ _ _ _ T (mkF m 65 #[iv p0, iv p1, iv 1, iv 2, rv m1, rv m2, iv 1, uu, uu] [(.int 0)])
      refine oWk.st (fun _ kt => XS.aload X.here hx rfl (hb hby at_65) rfl rfl kt) ?_
      show oWk _ _ _ _ T (mkF m 67 #[iv p0, iv p1, iv 1, iv 2, rv m1, rv m2, iv 1, uu, uu] [(.ref m1), (.int 0)])
      refine oWk.st (fun _ kt => XS.aload X.here hx rfl (hb hby at_67) rfl rfl kt) ?_
      show oWk _ _ _ _ T (mkF m 69 #[iv p0, iv p1, iv 1, iv 2, rv m1, rv m2, iv 1, uu, uu] [(.ref m2), (.ref m1), (.int 0)])
      refine oWk.st (fun _ kt => Jvm.RoadKit.acmp (g := (mkF m 69 #[iv p0, iv p1, iv 1, iv 2, rv m1, rv m2, iv 1, uu, uu] [(.ref m2), (.ref m1), (.int 0)])) X hx rfl rfl rfl (pc0 := 69) (pc' := 76) (same := false) rfl (hb hby at_69) rfl (decide_eq_false fun q => ne_m1_m2 (Value.ref.inj q)) (by decide) (by decide) kt) ?_
      show oWk _ _ _ _ T (mkF m 76 #[iv p0, iv p1, iv 1, iv 2, rv m1, rv m2, iv 1, uu, uu] [(.int 0)])
      refine oWk.st (fun _ kt => XS.iconst X.here hx rfl (hb hby at_76) kt) ?_
      show oWk _ _ _ _ T (mkF m 77 #[iv p0, iv p1, iv 1, iv 2, rv m1, rv m2, iv 1, uu, uu] [(.int 0), (.int 0)])
      refine oWk.st (fun _ kt => XS.icmpNo X.here hx rfl (hb hby at_77) rfl (teq (by decide)).2 kt) ?_
      show oWk _ _ _ _ T (mkF m 80 #[iv p0, iv p1, iv 1, iv 2, rv m1, rv m2, iv 1, uu, uu] [])
      refine oWk.st (fun _ kt => XS.iconst X.here hx rfl (hb hby at_80) kt) ?_
      show oWk _ _ _ _ T (mkF m 81 #[iv p0, iv p1, iv 1, iv 2, rv m1, rv m2, iv 1, uu, uu] [(.int 1)])
      refine oWk.st (fun _ kt => XS.goto X.here hx rfl (pc0 := 81) (pc' := 85) rfl (hb hby at_81) (by decide) (by decide) kt) ?_
      show oWk _ _ _ _ T (mkF m 85 #[iv p0, iv p1, iv 1, iv 2, rv m1, rv m2, iv 1, uu, uu] [(.int 1)])
      refine oWk.st (fun _ kt => XS.istore X.here hx rfl (hb hby at_85) rfl (l' := #[iv p0, iv p1, iv 1, iv 2, rv m1, rv m2, iv 1, iv 1, uu]) rfl kt) ?_
      show oWk _ _ _ _ T (mkF m 87 #[iv p0, iv p1, iv 1, iv 2, rv m1, rv m2, iv 1, iv 1, uu] [])
      refine oWk.st (fun _ kt => XS.iloadN X.here hx rfl (hb hby at_87) rfl kt) ?_
      show oWk _ _ _ _ T (mkF m 88 #[iv p0, iv p1, iv 1, iv 2, rv m1, rv m2, iv 1, iv 1, uu] [(.int 1)])
      refine oWk.st (fun _ kt => XS.iloadN X.here hx rfl (hb hby at_88) rfl kt) ?_
      show oWk _ _ _ _ T (mkF m 89 #[iv p0, iv p1, iv 1, iv 2, rv m1, rv m2, iv 1, iv 1, uu] [(.int 2), (.int 1)])
      refine oWk.st (fun _ kt => XS.icmpNo X.here hx rfl (hb hby at_89) rfl (tlt (by decide)).2.1 kt) ?_
      show oWk _ _ _ _ T (mkF m 92 #[iv p0, iv p1, iv 1, iv 2, rv m1, rv m2, iv 1, iv 1, uu] [])
      refine oWk.st (fun _ kt => XS.iconst X.here hx rfl (hb hby at_92) kt) ?_
      show oWk _ _ _ _ T (mkF m 93 #[iv p0, iv p1, iv 1, iv 2, rv m1, rv m2, iv 1, iv 1, uu] [(.int 1)])
      refine oWk.st (fun _ kt => XS.goto X.here hx rfl (pc0 := 93) (pc' := 97) rfl (hb hby at_93) (by decide) (by decide) kt) ?_
      show oWk _ _ _ _ T (mkF m 97 #[iv p0, iv p1, iv 1, iv 2, rv m1, rv m2, iv 1, iv 1, uu] [(.int 1)])
      refine oWk.st (fun _ kt => XS.aload X.here hx rfl (hb hby at_97) rfl rfl kt) ?_
      show oWk _ _ _ _ T (mkF m 99 #[iv p0, iv p1, iv 1, iv 2, rv m1, rv m2, iv 1, iv 1, uu] [(.ref m1), (.int 1)])
      have Oh := K.old O0 all0
      obtain ⟨cq22, kq22, q22a, q22b, q22c⟩ := isOf hZ e0 E_m1
      obtain ⟨_, _, ⟨T, L22, k22, n22⟩, -, X, ⟨Lc22, hQ, l22, y22, z22⟩, st⟩ := X.virtualBack hx (y := yy2) (z := yy2) hown (mvT hZ (oW hw 12 rfl)) (mvT hZ (oW hw 13 rfl)) (notFace_of_selects (args := #[]) (mvT hZ (oW hw 15 rfl))) (mvT hZ (oW hw 15 rfl)) (mvT hZ (oW hw 14 rfl)) (by decide) (backOf (W := 1) (rDV l Z a0 hw [] m1 (4608533498688228557 : UInt64) h0 Oh F_defaultValue_m1) hZ (oW hw 16 rfl) (oW hw 3 rfl) (by decide) (by decide)) q22a q22c (g := (mkF m 99 #[iv p0, iv p1, iv 1, iv 2, rv m1, rv m2, iv 1, iv 1, uu] [(.ref m1), (.int 1)])) rfl (by rw [hml]; rfl) (Steps.refl _) (argsL := []) (rest := [(.int (1 : Int32))]) (lenOf pd_1 rfl) rfl (by show 2 * 0 + _ ≤ _; exact Nat.le_of_eq rfl) (hb hby at_99) (fun _ _ => ⟨rfl, e0, (by decide : 0 + 0 ≤ _), (by decide : 0 + 0 ≤ _)⟩)
      dsimp only [Pt.U, Pt.locs, Pt.cells, Pt.slots] at X l22 y22 z22 st hQ
      subst l22 y22 z22
      obtain ⟨rfl, e0, K21⟩ := hQ
      have K := K.call K21 all0
      rw [e0] at K
      refine oWk.tr st ?_
      show oWk _ _ _ _ T (mkF m 102 #[iv p0, iv p1, iv 1, iv 2, rv m1, rv m2, iv 1, iv 1, uu] [(.double (4608533498688228557 : UInt64)), (.int 1)])
      refine oWk.st (fun _ kt => XS.aload X.here hx rfl (hb hby at_102) rfl rfl kt) ?_
      show oWk _ _ _ _ T (mkF m 104 #[iv p0, iv p1, iv 1, iv 2, rv m1, rv m2, iv 1, iv 1, uu] [(.ref m2), (.double (4608533498688228557 : UInt64)), (.int 1)])
      have Oh := K.old O0 all0
      obtain ⟨cq24, kq24, q24a, q24b, q24c⟩ := isOf hZ e0 E_m2
      obtain ⟨_, _, ⟨T, L24, k24, n24⟩, -, X, ⟨Lc24, hQ, l24, y24, z24⟩, st⟩ := X.virtualBack hx (y := yy2) (z := yy2) hown (mvT hZ (oW hw 12 rfl)) (mvT hZ (oW hw 13 rfl)) (notFace_of_selects (args := #[]) (mvT hZ (oW hw 15 rfl))) (mvT hZ (oW hw 15 rfl)) (mvT hZ (oW hw 14 rfl)) (by decide) (backOf (W := 3) (rDV l Z a0 hw [] m2 (4608083138725491507 : UInt64) h0 Oh F_defaultValue_m2) hZ (oW hw 16 rfl) (oW hw 3 rfl) (by decide) (by decide)) q24a q24c (g := (mkF m 104 #[iv p0, iv p1, iv 1, iv 2, rv m1, rv m2, iv 1, iv 1, uu] [(.ref m2), (.double (4608533498688228557 : UInt64)), (.int 1)])) rfl (by rw [hml]; rfl) (Steps.refl _) (argsL := []) (rest := [(.double (4608533498688228557 : UInt64)), (.int (1 : Int32))]) (lenOf pd_1 rfl) rfl (by show 2 * 0 + _ ≤ _; exact Nat.le_of_eq rfl) (hb hby at_104) (fun _ _ => ⟨rfl, e0, (by decide : 0 + 0 ≤ _), (by decide : 0 + 0 ≤ _)⟩)
      dsimp only [Pt.U, Pt.locs, Pt.cells, Pt.slots] at X l24 y24 z24 st hQ
      subst l24 y24 z24
      obtain ⟨rfl, e0, K23⟩ := hQ
      have K := K.call K23 all0
      rw [e0] at K
      refine oWk.tr st ?_
      show oWk _ _ _ _ T (mkF m 107 #[iv p0, iv p1, iv 1, iv 2, rv m1, rv m2, iv 1, iv 1, uu] [(.double (4608083138725491507 : UInt64)), (.double (4608533498688228557 : UInt64)), (.int 1)])
      refine oWk.st (fun _ kt => XS.dcmpS X.here hx rfl (v := (1 : Int32)) (hb hby at_107) rfl (by decide +kernel) kt) ?_
      show oWk _ _ _ _ T (mkF m 108 #[iv p0, iv p1, iv 1, iv 2, rv m1, rv m2, iv 1, iv 1, uu] [(.int 1), (.int 1)])
      refine oWk.st (fun _ kt => XS.ifNo X.here hx rfl (hb hby at_108) rfl ((if0 _ _).trans (tlt (by decide)).2.2.2) kt) ?_
      show oWk _ _ _ _ T (mkF m 111 #[iv p0, iv p1, iv 1, iv 2, rv m1, rv m2, iv 1, iv 1, uu] [(.int 1)])
      refine oWk.st (fun _ kt => XS.iconst X.here hx rfl (hb hby at_111) kt) ?_
      show oWk _ _ _ _ T (mkF m 112 #[iv p0, iv p1, iv 1, iv 2, rv m1, rv m2, iv 1, iv 1, uu] [(.int 1), (.int 1)])
      refine oWk.st (fun _ kt => XS.goto X.here hx rfl (pc0 := 112) (pc' := 116) rfl (hb hby at_112) (by decide) (by decide) kt) ?_
      show oWk _ _ _ _ T (mkF m 116 #[iv p0, iv p1, iv 1, iv 2, rv m1, rv m2, iv 1, iv 1, uu] [(.int 1), (.int 1)])
      refine oWk.st (fun _ kt => XS.icmpNo X.here hx rfl (hb hby at_116) rfl (teq (by decide)).2 kt) ?_
      show oWk _ _ _ _ T (mkF m 119 #[iv p0, iv p1, iv 1, iv 2, rv m1, rv m2, iv 1, iv 1, uu] [])
      refine oWk.st (fun _ kt => XS.iconst X.here hx rfl (hb hby at_119) kt) ?_
      show oWk _ _ _ _ T (mkF m 120 #[iv p0, iv p1, iv 1, iv 2, rv m1, rv m2, iv 1, iv 1, uu] [(.int 1)])
      refine oWk.st (fun _ kt => XS.goto X.here hx rfl (pc0 := 120) (pc' := 124) rfl (hb hby at_120) (by decide) (by decide) kt) ?_
      show oWk _ _ _ _ T (mkF m 124 #[iv p0, iv p1, iv 1, iv 2, rv m1, rv m2, iv 1, iv 1, uu] [(.int 1)])
      refine oWk.st (fun _ kt => XS.istore X.here hx rfl (hb hby at_124) rfl (l' := #[iv p0, iv p1, iv 1, iv 2, rv m1, rv m2, iv 1, iv 1, iv 1]) rfl kt) ?_
      show oWk _ _ _ _ T (mkF m 126 #[iv p0, iv p1, iv 1, iv 2, rv m1, rv m2, iv 1, iv 1, iv 1] [])
      refine oWk.st (fun _ kt => XS.iload X.here hx rfl (hb hby at_126) rfl kt) ?_
      show oWk _ _ _ _ T (mkF m 128 #[iv p0, iv p1, iv 1, iv 2, rv m1, rv m2, iv 1, iv 1, iv 1] [(.int 1)])
      refine oWk.st (fun _ kt => XS.ifNo X.here hx rfl (hb hby at_128) rfl ((if0 _ _).trans (feq (by decide)).1) kt) ?_
      show oWk _ _ _ _ T (mkF m 131 #[iv p0, iv p1, iv 1, iv 2, rv m1, rv m2, iv 1, iv 1, iv 1] [])
      refine oWk.st (fun _ kt => XS.iload X.here hx rfl (hb hby at_131) rfl kt) ?_
      show oWk _ _ _ _ T (mkF m 133 #[iv p0, iv p1, iv 1, iv 2, rv m1, rv m2, iv 1, iv 1, iv 1] [(.int 1)])
      refine oWk.st (fun _ kt => XS.ifNo X.here hx rfl (hb hby at_133) rfl ((if0 _ _).trans (feq (by decide)).1) kt) ?_
      show oWk _ _ _ _ T (mkF m 136 #[iv p0, iv p1, iv 1, iv 2, rv m1, rv m2, iv 1, iv 1, iv 1] [])
      refine oWk.st (fun _ kt => XS.iload X.here hx rfl (hb hby at_136) rfl kt) ?_
      show oWk _ _ _ _ T (mkF m 138 #[iv p0, iv p1, iv 1, iv 2, rv m1, rv m2, iv 1, iv 1, iv 1] [(.int 1)])
      refine oWk.st (fun _ kt => XS.ifNo X.here hx rfl (hb hby at_138) rfl ((if0 _ _).trans (feq (by decide)).1) kt) ?_
      show oWk _ _ _ _ T (mkF m 141 #[iv p0, iv p1, iv 1, iv 2, rv m1, rv m2, iv 1, iv 1, iv 1] [])
      refine oWk.st (fun _ kt => XS.iconst X.here hx rfl (hb hby at_141) kt) ?_
      show oWk _ _ _ _ T (mkF m 142 #[iv p0, iv p1, iv 1, iv 2, rv m1, rv m2, iv 1, iv 1, iv 1] [(.int 1)])
      refine oWk.st (fun _ kt => XS.goto X.here hx rfl (pc0 := 142) (pc' := 146) rfl (hb hby at_142) (by decide) (by decide) kt) ?_
      show oWk _ _ _ _ T (mkF m 146 #[iv p0, iv p1, iv 1, iv 2, rv m1, rv m2, iv 1, iv 1, iv 1] [(.int 1)])
      exact oRetZ X hx hlk hret (hb hby at_146) (Or.inr rfl) (by rw [e0]; exact ⟨rfl, K.fr⟩) (by decide) (by decide)
    · show oWk _ _ _ _ T (mkF m 17 #[iv p0, iv p1, iv 1, uu, uu, uu, uu, uu, uu] [(.int 3)])
      refine oWk.st (fun _ kt => XS.istoreN X.here hx rfl (hb hby at_17) rfl (l' := #[iv p0, iv p1, iv 1, iv 3, uu, uu, uu, uu, uu]) rfl kt) ?_
      show oWk _ _ _ _ T (mkF m 18 #[iv p0, iv p1, iv 1, iv 3, uu, uu, uu, uu, uu] [])
      refine oWk.st (fun _ kt => XS.iloadN X.here hx rfl (hb hby at_18) rfl kt) ?_
      show oWk _ _ _ _ T (mkF m 19 #[iv p0, iv p1, iv 1, iv 3, uu, uu, uu, uu, uu] [(.int 1)])
      have Oh := K.old O0 all0
      obtain ⟨_, _, ⟨T, L26, k26, n26⟩, -, X, ⟨Lc26, hQ, l26, y26, z26⟩, st⟩ := Jvm.LawKit.callS X hx (y := yy0) hown (mvT hZ (oW hw 1 rfl)) (mvT hZ (oW hw 2 rfl)) (mvT hZ (oW hw 3 rfl)) (mvT hZ (oW hw 4 rfl)) (by decide) (backOf (W := 0) (rHV1 l Z a0 hw [] m1 h0 Oh S_HEADING_OWN_VALUE) hZ (oW hw 4 rfl) (oW hw 3 rfl) (by decide) (by decide)) (g := (mkF m 19 #[iv p0, iv p1, iv 1, iv 3, uu, uu, uu, uu, uu] [(.int 1)])) rfl (by rw [hml]; rfl) (argsL := [(.int (1 : Int32))]) (rest := []) (lenOf pd_0 rfl) rfl (by show 2 * 0 + _ ≤ _; exact Nat.le_of_eq rfl) (hb hby at_19) (fun _ _ => ⟨rfl, e0, (by decide : 0 + 0 ≤ _), (by decide : 0 + 0 ≤ _)⟩)
      dsimp only [Pt.U, Pt.locs, Pt.cells, Pt.slots] at X l26 y26 z26 st hQ
      subst l26 y26 z26
      obtain ⟨rfl, e0, K25⟩ := hQ
      have K := K.call K25 all0
      rw [e0] at K
      refine oWk.st st ?_
      show oWk _ _ _ _ T (mkF m 22 #[iv p0, iv p1, iv 1, iv 3, uu, uu, uu, uu, uu] [(.ref m1)])
      refine oWk.st (fun _ kt => XS.astore X.here hx rfl (hb hby at_22) rfl rfl (l' := #[iv p0, iv p1, iv 1, iv 3, rv m1, uu, uu, uu, uu]) rfl kt) ?_
      show oWk _ _ _ _ T (mkF m 24 #[iv p0, iv p1, iv 1, iv 3, rv m1, uu, uu, uu, uu] [])
      refine oWk.st (fun _ kt => XS.iloadN X.here hx rfl (hb hby at_24) rfl kt) ?_
      show oWk _ _ _ _ T (mkF m 25 #[iv p0, iv p1, iv 1, iv 3, rv m1, uu, uu, uu, uu] [(.int 3)])
      have Oh := K.old O0 all0
      obtain ⟨_, _, ⟨T, L28, k28, n28⟩, -, X, ⟨Lc28, hQ, l28, y28, z28⟩, st⟩ := Jvm.LawKit.callS X hx (y := yy0) hown (mvT hZ (oW hw 1 rfl)) (mvT hZ (oW hw 2 rfl)) (mvT hZ (oW hw 3 rfl)) (mvT hZ (oW hw 4 rfl)) (by decide) (backOf (W := 0) (rHV3 l Z a0 hw [] m3 h0 Oh S_HEADING_ALL_VALUE) hZ (oW hw 4 rfl) (oW hw 3 rfl) (by decide) (by decide)) (g := (mkF m 25 #[iv p0, iv p1, iv 1, iv 3, rv m1, uu, uu, uu, uu] [(.int 3)])) rfl (by rw [hml]; rfl) (argsL := [(.int (3 : Int32))]) (rest := []) (lenOf pd_0 rfl) rfl (by show 2 * 0 + _ ≤ _; exact Nat.le_of_eq rfl) (hb hby at_25) (fun _ _ => ⟨rfl, e0, (by decide : 0 + 0 ≤ _), (by decide : 0 + 0 ≤ _)⟩)
      dsimp only [Pt.U, Pt.locs, Pt.cells, Pt.slots] at X l28 y28 z28 st hQ
      subst l28 y28 z28
      obtain ⟨rfl, e0, K27⟩ := hQ
      have K := K.call K27 all0
      rw [e0] at K
      refine oWk.st st ?_
      show oWk _ _ _ _ T (mkF m 28 #[iv p0, iv p1, iv 1, iv 3, rv m1, uu, uu, uu, uu] [(.ref m3)])
      refine oWk.st (fun _ kt => XS.astore X.here hx rfl (hb hby at_28) rfl rfl (l' := #[iv p0, iv p1, iv 1, iv 3, rv m1, rv m3, uu, uu, uu]) rfl kt) ?_
      show oWk _ _ _ _ T (mkF m 30 #[iv p0, iv p1, iv 1, iv 3, rv m1, rv m3, uu, uu, uu] [])
      refine oWk.st (fun _ kt => XS.aload X.here hx rfl (hb hby at_30) rfl rfl kt) ?_
      show oWk _ _ _ _ T (mkF m 32 #[iv p0, iv p1, iv 1, iv 3, rv m1, rv m3, uu, uu, uu] [(.ref m1)])
      refine oWk.st (fun _ kt => XS.iloadN X.here hx rfl (hb hby at_32) rfl kt) ?_
      show oWk _ _ _ _ T (mkF m 33 #[iv p0, iv p1, iv 1, iv 3, rv m1, rv m3, uu, uu, uu] [(.int 1), (.ref m1)])
      have Oh := K.old O0 all0
      obtain ⟨_, _, ⟨T, L30, k30, n30⟩, -, X, ⟨Lc30, hQ, l30, y30, z30⟩, st⟩ := Jvm.LawKit.callS X hx (y := yy1) hown (mvT hZ (oW hw 7 rfl)) (mvT hZ (oW hw 8 rfl)) (mvT hZ (oW hw 9 rfl)) (mvT hZ (oW hw 10 rfl)) (by decide) (backOf (W := 1) (rEX1 l Z a0 hw [] m1 h0 Oh S_HEADING_OWN_VALUE) hZ (oW hw 10 rfl) (oW hw 9 rfl) (by decide) (by decide)) (g := (mkF m 33 #[iv p0, iv p1, iv 1, iv 3, rv m1, rv m3, uu, uu, uu] [(.int 1), (.ref m1)])) rfl (by rw [hml]; rfl) (argsL := [(.int (1 : Int32))]) (rest := [(.ref m1)]) (lenOf pd_0 rfl) rfl (by show 2 * 0 + _ ≤ _; exact Nat.le_of_eq rfl) (hb hby at_33) (fun _ _ => ⟨rfl, e0, (by decide : 0 + 0 ≤ _), (by decide : 0 + 0 ≤ _)⟩)
      dsimp only [Pt.U, Pt.locs, Pt.cells, Pt.slots] at X l30 y30 z30 st hQ
      subst l30 y30 z30
      obtain ⟨rfl, e0, K29⟩ := hQ
      have K := K.call K29 all0
      rw [e0] at K
      refine oWk.st st ?_
      show oWk _ _ _ _ T (mkF m 36 #[iv p0, iv p1, iv 1, iv 3, rv m1, rv m3, uu, uu, uu] [(.ref m1), (.ref m1)])
      refine oWk.st (fun _ kt => Jvm.RoadKit.acmp (g := (mkF m 36 #[iv p0, iv p1, iv 1, iv 3, rv m1, rv m3, uu, uu, uu] [(.ref m1), (.ref m1)])) X hx rfl rfl rfl (pc0 := 36) (pc' := 39) (same := true) rfl (hb hby at_36) rfl (decide_eq_true rfl) (by decide) (by decide) kt) ?_
      show oWk _ _ _ _ T (mkF m 39 #[iv p0, iv p1, iv 1, iv 3, rv m1, rv m3, uu, uu, uu] [])
      refine oWk.st (fun _ kt => XS.aload X.here hx rfl (hb hby at_39) rfl rfl kt) ?_
      show oWk _ _ _ _ T (mkF m 41 #[iv p0, iv p1, iv 1, iv 3, rv m1, rv m3, uu, uu, uu] [(.ref m3)])
      refine oWk.st (fun _ kt => XS.iloadN X.here hx rfl (hb hby at_41) rfl kt) ?_
      show oWk _ _ _ _ T (mkF m 42 #[iv p0, iv p1, iv 1, iv 3, rv m1, rv m3, uu, uu, uu] [(.int 3), (.ref m3)])
      have Oh := K.old O0 all0
      obtain ⟨_, _, ⟨T, L32, k32, n32⟩, -, X, ⟨Lc32, hQ, l32, y32, z32⟩, st⟩ := Jvm.LawKit.callS X hx (y := yy1) hown (mvT hZ (oW hw 7 rfl)) (mvT hZ (oW hw 8 rfl)) (mvT hZ (oW hw 9 rfl)) (mvT hZ (oW hw 10 rfl)) (by decide) (backOf (W := 1) (rEX3 l Z a0 hw [] m3 h0 Oh S_HEADING_ALL_VALUE) hZ (oW hw 10 rfl) (oW hw 9 rfl) (by decide) (by decide)) (g := (mkF m 42 #[iv p0, iv p1, iv 1, iv 3, rv m1, rv m3, uu, uu, uu] [(.int 3), (.ref m3)])) rfl (by rw [hml]; rfl) (argsL := [(.int (3 : Int32))]) (rest := [(.ref m3)]) (lenOf pd_0 rfl) rfl (by show 2 * 0 + _ ≤ _; exact Nat.le_of_eq rfl) (hb hby at_42) (fun _ _ => ⟨rfl, e0, (by decide : 0 + 0 ≤ _), (by decide : 0 + 0 ≤ _)⟩)
      dsimp only [Pt.U, Pt.locs, Pt.cells, Pt.slots] at X l32 y32 z32 st hQ
      subst l32 y32 z32
      obtain ⟨rfl, e0, K31⟩ := hQ
      have K := K.call K31 all0
      rw [e0] at K
      refine oWk.st st ?_
      show oWk _ _ _ _ T (mkF m 45 #[iv p0, iv p1, iv 1, iv 3, rv m1, rv m3, uu, uu, uu] [(.ref m3), (.ref m3)])
      refine oWk.st (fun _ kt => Jvm.RoadKit.acmp (g := (mkF m 45 #[iv p0, iv p1, iv 1, iv 3, rv m1, rv m3, uu, uu, uu] [(.ref m3), (.ref m3)])) X hx rfl rfl rfl (pc0 := 45) (pc' := 48) (same := true) rfl (hb hby at_45) rfl (decide_eq_true rfl) (by decide) (by decide) kt) ?_
      show oWk _ _ _ _ T (mkF m 48 #[iv p0, iv p1, iv 1, iv 3, rv m1, rv m3, uu, uu, uu] [])
      refine oWk.st (fun _ kt => XS.iconst X.here hx rfl (hb hby at_48) kt) ?_
      show oWk _ _ _ _ T (mkF m 49 #[iv p0, iv p1, iv 1, iv 3, rv m1, rv m3, uu, uu, uu] [(.int 1)])
      refine oWk.st (fun _ kt => XS.goto X.here hx rfl (pc0 := 49) (pc' := 53) rfl (hb hby at_49) (by decide) (by decide) kt) ?_
      show oWk _ _ _ _ T (mkF m 53 #[iv p0, iv p1, iv 1, iv 3, rv m1, rv m3, uu, uu, uu] [(.int 1)])
      refine oWk.st (fun _ kt => XS.istore X.here hx rfl (hb hby at_53) rfl (l' := #[iv p0, iv p1, iv 1, iv 3, rv m1, rv m3, iv 1, uu, uu]) rfl kt) ?_
      show oWk _ _ _ _ T (mkF m 55 #[iv p0, iv p1, iv 1, iv 3, rv m1, rv m3, iv 1, uu, uu] [])
      refine oWk.st (fun _ kt => XS.iloadN X.here hx rfl (hb hby at_55) rfl kt) ?_
      show oWk _ _ _ _ T (mkF m 56 #[iv p0, iv p1, iv 1, iv 3, rv m1, rv m3, iv 1, uu, uu] [(.int 1)])
      refine oWk.st (fun _ kt => XS.iloadN X.here hx rfl (hb hby at_56) rfl kt) ?_
      show oWk _ _ _ _ T (mkF m 57 #[iv p0, iv p1, iv 1, iv 3, rv m1, rv m3, iv 1, uu, uu] [(.int 3), (.int 1)])
      refine oWk.st (fun _ kt => XS.icmpYes X.here hx rfl (pc0 := 57) (pc' := 64) rfl (hb hby at_57) rfl (feq (by decide)).2 (by decide) (by decide) kt) ?_
      show oWk _ _ _ _ T (mkF m 64 #[iv p0, iv p1, iv 1, iv 3, rv m1, rv m3, iv 1, uu, uu] [])
      refine oWk.st (fun _ kt => XS.iconst X.here hx rfl (hb hby at_64) kt) ?_
      show oWk _ _ _ _ T (mkF m 65 #[iv p0, iv p1, iv 1, iv 3, rv m1, rv m3, iv 1, uu, uu] [(.int 0)])
      refine oWk.st (fun _ kt => XS.aload X.here hx rfl (hb hby at_65) rfl rfl kt) ?_
      show oWk _ _ _ _ T (mkF m 67 #[iv p0, iv p1, iv 1, iv 3, rv m1, rv m3, iv 1, uu, uu] [(.ref m1), (.int 0)])
      refine oWk.st (fun _ kt => XS.aload X.here hx rfl (hb hby at_67) rfl rfl kt) ?_
      show oWk _ _ _ _ T (mkF m 69 #[iv p0, iv p1, iv 1, iv 3, rv m1, rv m3, iv 1, uu, uu] [(.ref m3), (.ref m1), (.int 0)])
      refine oWk.st (fun _ kt => Jvm.RoadKit.acmp (g := (mkF m 69 #[iv p0, iv p1, iv 1, iv 3, rv m1, rv m3, iv 1, uu, uu] [(.ref m3), (.ref m1), (.int 0)])) X hx rfl rfl rfl (pc0 := 69) (pc' := 76) (same := false) rfl (hb hby at_69) rfl (decide_eq_false fun q => ne_m1_m3 (Value.ref.inj q)) (by decide) (by decide) kt) ?_
      show oWk _ _ _ _ T (mkF m 76 #[iv p0, iv p1, iv 1, iv 3, rv m1, rv m3, iv 1, uu, uu] [(.int 0)])
      refine oWk.st (fun _ kt => XS.iconst X.here hx rfl (hb hby at_76) kt) ?_
      show oWk _ _ _ _ T (mkF m 77 #[iv p0, iv p1, iv 1, iv 3, rv m1, rv m3, iv 1, uu, uu] [(.int 0), (.int 0)])
      refine oWk.st (fun _ kt => XS.icmpNo X.here hx rfl (hb hby at_77) rfl (teq (by decide)).2 kt) ?_
      show oWk _ _ _ _ T (mkF m 80 #[iv p0, iv p1, iv 1, iv 3, rv m1, rv m3, iv 1, uu, uu] [])
      refine oWk.st (fun _ kt => XS.iconst X.here hx rfl (hb hby at_80) kt) ?_
      show oWk _ _ _ _ T (mkF m 81 #[iv p0, iv p1, iv 1, iv 3, rv m1, rv m3, iv 1, uu, uu] [(.int 1)])
      refine oWk.st (fun _ kt => XS.goto X.here hx rfl (pc0 := 81) (pc' := 85) rfl (hb hby at_81) (by decide) (by decide) kt) ?_
      show oWk _ _ _ _ T (mkF m 85 #[iv p0, iv p1, iv 1, iv 3, rv m1, rv m3, iv 1, uu, uu] [(.int 1)])
      refine oWk.st (fun _ kt => XS.istore X.here hx rfl (hb hby at_85) rfl (l' := #[iv p0, iv p1, iv 1, iv 3, rv m1, rv m3, iv 1, iv 1, uu]) rfl kt) ?_
      show oWk _ _ _ _ T (mkF m 87 #[iv p0, iv p1, iv 1, iv 3, rv m1, rv m3, iv 1, iv 1, uu] [])
      refine oWk.st (fun _ kt => XS.iloadN X.here hx rfl (hb hby at_87) rfl kt) ?_
      show oWk _ _ _ _ T (mkF m 88 #[iv p0, iv p1, iv 1, iv 3, rv m1, rv m3, iv 1, iv 1, uu] [(.int 1)])
      refine oWk.st (fun _ kt => XS.iloadN X.here hx rfl (hb hby at_88) rfl kt) ?_
      show oWk _ _ _ _ T (mkF m 89 #[iv p0, iv p1, iv 1, iv 3, rv m1, rv m3, iv 1, iv 1, uu] [(.int 3), (.int 1)])
      refine oWk.st (fun _ kt => XS.icmpNo X.here hx rfl (hb hby at_89) rfl (tlt (by decide)).2.1 kt) ?_
      show oWk _ _ _ _ T (mkF m 92 #[iv p0, iv p1, iv 1, iv 3, rv m1, rv m3, iv 1, iv 1, uu] [])
      refine oWk.st (fun _ kt => XS.iconst X.here hx rfl (hb hby at_92) kt) ?_
      show oWk _ _ _ _ T (mkF m 93 #[iv p0, iv p1, iv 1, iv 3, rv m1, rv m3, iv 1, iv 1, uu] [(.int 1)])
      refine oWk.st (fun _ kt => XS.goto X.here hx rfl (pc0 := 93) (pc' := 97) rfl (hb hby at_93) (by decide) (by decide) kt) ?_
      show oWk _ _ _ _ T (mkF m 97 #[iv p0, iv p1, iv 1, iv 3, rv m1, rv m3, iv 1, iv 1, uu] [(.int 1)])
      refine oWk.st (fun _ kt => XS.aload X.here hx rfl (hb hby at_97) rfl rfl kt) ?_
      show oWk _ _ _ _ T (mkF m 99 #[iv p0, iv p1, iv 1, iv 3, rv m1, rv m3, iv 1, iv 1, uu] [(.ref m1), (.int 1)])
      have Oh := K.old O0 all0
      obtain ⟨cq34, kq34, q34a, q34b, q34c⟩ := isOf hZ e0 E_m1
      obtain ⟨_, _, ⟨T, L34, k34, n34⟩, -, X, ⟨Lc34, hQ, l34, y34, z34⟩, st⟩ := X.virtualBack hx (y := yy2) (z := yy2) hown (mvT hZ (oW hw 12 rfl)) (mvT hZ (oW hw 13 rfl)) (notFace_of_selects (args := #[]) (mvT hZ (oW hw 15 rfl))) (mvT hZ (oW hw 15 rfl)) (mvT hZ (oW hw 14 rfl)) (by decide) (backOf (W := 1) (rDV l Z a0 hw [] m1 (4608533498688228557 : UInt64) h0 Oh F_defaultValue_m1) hZ (oW hw 16 rfl) (oW hw 3 rfl) (by decide) (by decide)) q34a q34c (g := (mkF m 99 #[iv p0, iv p1, iv 1, iv 3, rv m1, rv m3, iv 1, iv 1, uu] [(.ref m1), (.int 1)])) rfl (by rw [hml]; rfl) (Steps.refl _) (argsL := []) (rest := [(.int (1 : Int32))]) (lenOf pd_1 rfl) rfl (by show 2 * 0 + _ ≤ _; exact Nat.le_of_eq rfl) (hb hby at_99) (fun _ _ => ⟨rfl, e0, (by decide : 0 + 0 ≤ _), (by decide : 0 + 0 ≤ _)⟩)
      dsimp only [Pt.U, Pt.locs, Pt.cells, Pt.slots] at X l34 y34 z34 st hQ
      subst l34 y34 z34
      obtain ⟨rfl, e0, K33⟩ := hQ
      have K := K.call K33 all0
      rw [e0] at K
      refine oWk.tr st ?_
      show oWk _ _ _ _ T (mkF m 102 #[iv p0, iv p1, iv 1, iv 3, rv m1, rv m3, iv 1, iv 1, uu] [(.double (4608533498688228557 : UInt64)), (.int 1)])
      refine oWk.st (fun _ kt => XS.aload X.here hx rfl (hb hby at_102) rfl rfl kt) ?_
      show oWk _ _ _ _ T (mkF m 104 #[iv p0, iv p1, iv 1, iv 3, rv m1, rv m3, iv 1, iv 1, uu] [(.ref m3), (.double (4608533498688228557 : UInt64)), (.int 1)])
      have Oh := K.old O0 all0
      obtain ⟨cq36, kq36, q36a, q36b, q36c⟩ := isOf hZ e0 E_m3
      obtain ⟨_, _, ⟨T, L36, k36, n36⟩, -, X, ⟨Lc36, hQ, l36, y36, z36⟩, st⟩ := X.virtualBack hx (y := yy2) (z := yy2) hown (mvT hZ (oW hw 12 rfl)) (mvT hZ (oW hw 13 rfl)) (notFace_of_selects (args := #[]) (mvT hZ (oW hw 15 rfl))) (mvT hZ (oW hw 15 rfl)) (mvT hZ (oW hw 14 rfl)) (by decide) (backOf (W := 3) (rDV l Z a0 hw [] m3 (4607632778762754458 : UInt64) h0 Oh F_defaultValue_m3) hZ (oW hw 16 rfl) (oW hw 3 rfl) (by decide) (by decide)) q36a q36c (g := (mkF m 104 #[iv p0, iv p1, iv 1, iv 3, rv m1, rv m3, iv 1, iv 1, uu] [(.ref m3), (.double (4608533498688228557 : UInt64)), (.int 1)])) rfl (by rw [hml]; rfl) (Steps.refl _) (argsL := []) (rest := [(.double (4608533498688228557 : UInt64)), (.int (1 : Int32))]) (lenOf pd_1 rfl) rfl (by show 2 * 0 + _ ≤ _; exact Nat.le_of_eq rfl) (hb hby at_104) (fun _ _ => ⟨rfl, e0, (by decide : 0 + 0 ≤ _), (by decide : 0 + 0 ≤ _)⟩)
      dsimp only [Pt.U, Pt.locs, Pt.cells, Pt.slots] at X l36 y36 z36 st hQ
      subst l36 y36 z36
      obtain ⟨rfl, e0, K35⟩ := hQ
      have K := K.call K35 all0
      rw [e0] at K
      refine oWk.tr st ?_
      show oWk _ _ _ _ T (mkF m 107 #[iv p0, iv p1, iv 1, iv 3, rv m1, rv m3, iv 1, iv 1, uu] [(.double (4607632778762754458 : UInt64)), (.double (4608533498688228557 : UInt64)), (.int 1)])
      refine oWk.st (fun _ kt => XS.dcmpS X.here hx rfl (v := (1 : Int32)) (hb hby at_107) rfl (by decide +kernel) kt) ?_
      show oWk _ _ _ _ T (mkF m 108 #[iv p0, iv p1, iv 1, iv 3, rv m1, rv m3, iv 1, iv 1, uu] [(.int 1), (.int 1)])
      refine oWk.st (fun _ kt => XS.ifNo X.here hx rfl (hb hby at_108) rfl ((if0 _ _).trans (tlt (by decide)).2.2.2) kt) ?_
      show oWk _ _ _ _ T (mkF m 111 #[iv p0, iv p1, iv 1, iv 3, rv m1, rv m3, iv 1, iv 1, uu] [(.int 1)])
      refine oWk.st (fun _ kt => XS.iconst X.here hx rfl (hb hby at_111) kt) ?_
      show oWk _ _ _ _ T (mkF m 112 #[iv p0, iv p1, iv 1, iv 3, rv m1, rv m3, iv 1, iv 1, uu] [(.int 1), (.int 1)])
      refine oWk.st (fun _ kt => XS.goto X.here hx rfl (pc0 := 112) (pc' := 116) rfl (hb hby at_112) (by decide) (by decide) kt) ?_
      show oWk _ _ _ _ T (mkF m 116 #[iv p0, iv p1, iv 1, iv 3, rv m1, rv m3, iv 1, iv 1, uu] [(.int 1), (.int 1)])
      refine oWk.st (fun _ kt => XS.icmpNo X.here hx rfl (hb hby at_116) rfl (teq (by decide)).2 kt) ?_
      show oWk _ _ _ _ T (mkF m 119 #[iv p0, iv p1, iv 1, iv 3, rv m1, rv m3, iv 1, iv 1, uu] [])
      refine oWk.st (fun _ kt => XS.iconst X.here hx rfl (hb hby at_119) kt) ?_
      show oWk _ _ _ _ T (mkF m 120 #[iv p0, iv p1, iv 1, iv 3, rv m1, rv m3, iv 1, iv 1, uu] [(.int 1)])
      refine oWk.st (fun _ kt => XS.goto X.here hx rfl (pc0 := 120) (pc' := 124) rfl (hb hby at_120) (by decide) (by decide) kt) ?_
      show oWk _ _ _ _ T (mkF m 124 #[iv p0, iv p1, iv 1, iv 3, rv m1, rv m3, iv 1, iv 1, uu] [(.int 1)])
      refine oWk.st (fun _ kt => XS.istore X.here hx rfl (hb hby at_124) rfl (l' := #[iv p0, iv p1, iv 1, iv 3, rv m1, rv m3, iv 1, iv 1, iv 1]) rfl kt) ?_
      show oWk _ _ _ _ T (mkF m 126 #[iv p0, iv p1, iv 1, iv 3, rv m1, rv m3, iv 1, iv 1, iv 1] [])
      refine oWk.st (fun _ kt => XS.iload X.here hx rfl (hb hby at_126) rfl kt) ?_
      show oWk _ _ _ _ T (mkF m 128 #[iv p0, iv p1, iv 1, iv 3, rv m1, rv m3, iv 1, iv 1, iv 1] [(.int 1)])
      refine oWk.st (fun _ kt => XS.ifNo X.here hx rfl (hb hby at_128) rfl ((if0 _ _).trans (feq (by decide)).1) kt) ?_
      show oWk _ _ _ _ T (mkF m 131 #[iv p0, iv p1, iv 1, iv 3, rv m1, rv m3, iv 1, iv 1, iv 1] [])
      refine oWk.st (fun _ kt => XS.iload X.here hx rfl (hb hby at_131) rfl kt) ?_
      show oWk _ _ _ _ T (mkF m 133 #[iv p0, iv p1, iv 1, iv 3, rv m1, rv m3, iv 1, iv 1, iv 1] [(.int 1)])
      refine oWk.st (fun _ kt => XS.ifNo X.here hx rfl (hb hby at_133) rfl ((if0 _ _).trans (feq (by decide)).1) kt) ?_
      show oWk _ _ _ _ T (mkF m 136 #[iv p0, iv p1, iv 1, iv 3, rv m1, rv m3, iv 1, iv 1, iv 1] [])
      refine oWk.st (fun _ kt => XS.iload X.here hx rfl (hb hby at_136) rfl kt) ?_
      show oWk _ _ _ _ T (mkF m 138 #[iv p0, iv p1, iv 1, iv 3, rv m1, rv m3, iv 1, iv 1, iv 1] [(.int 1)])
      refine oWk.st (fun _ kt => XS.ifNo X.here hx rfl (hb hby at_138) rfl ((if0 _ _).trans (feq (by decide)).1) kt) ?_
      show oWk _ _ _ _ T (mkF m 141 #[iv p0, iv p1, iv 1, iv 3, rv m1, rv m3, iv 1, iv 1, iv 1] [])
      refine oWk.st (fun _ kt => XS.iconst X.here hx rfl (hb hby at_141) kt) ?_
      show oWk _ _ _ _ T (mkF m 142 #[iv p0, iv p1, iv 1, iv 3, rv m1, rv m3, iv 1, iv 1, iv 1] [(.int 1)])
      refine oWk.st (fun _ kt => XS.goto X.here hx rfl (pc0 := 142) (pc' := 146) rfl (hb hby at_142) (by decide) (by decide) kt) ?_
      show oWk _ _ _ _ T (mkF m 146 #[iv p0, iv p1, iv 1, iv 3, rv m1, rv m3, iv 1, iv 1, iv 1] [(.int 1)])
      exact oRetZ X hx hlk hret (hb hby at_146) (Or.inr rfl) (by rw [e0]; exact ⟨rfl, K.fr⟩) (by decide) (by decide)
  · show oWk _ _ _ _ T (mkF m 8 #[iv p0, iv p1, uu, uu, uu, uu, uu, uu, uu] [(.int 2)])
    refine oWk.st (fun _ kt => XS.istoreN X.here hx rfl (hb hby at_8) rfl (l' := #[iv p0, iv p1, iv 2, uu, uu, uu, uu, uu, uu]) rfl kt) ?_
    show oWk _ _ _ _ T (mkF m 9 #[iv p0, iv p1, iv 2, uu, uu, uu, uu, uu, uu] [])
    refine oWk.st (fun _ kt => XS.iloadN X.here hx rfl (hb hby at_9) rfl kt) ?_
    show oWk _ _ _ _ T (mkF m 10 #[iv p0, iv p1, iv 2, uu, uu, uu, uu, uu, uu] [(.int p1)])
    refine oWk.st (fun _ kt => X.ldcI hx hown (mvT hZ (oW hw 0 rfl)) rfl (hb hby at_10) kt) ?_
    show oWk _ _ _ _ T (mkF m 12 #[iv p0, iv p1, iv 2, uu, uu, uu, uu, uu, uu] [(.int 2147483647), (.int p1)])
    refine oWk.st (fun _ kt => XS.iand X.here hx rfl (hb hby at_12) rfl kt) ?_
    show oWk _ _ _ _ T (mkF m 13 #[iv p0, iv p1, iv 2, uu, uu, uu, uu, uu, uu] [(.int (p1 &&& (2147483647 : Int32)))])
    refine oWk.st (fun _ kt => XS.iconst X.here hx rfl (hb hby at_13) kt) ?_
    show oWk _ _ _ _ T (mkF m 14 #[iv p0, iv p1, iv 2, uu, uu, uu, uu, uu, uu] [(.int 3), (.int (p1 &&& (2147483647 : Int32)))])
    refine oWk.st (fun _ kt => iremM X hx rfl (hb hby at_14) rfl (by decide) kt) ?_
    show oWk _ _ _ _ T (mkF m 15 #[iv p0, iv p1, iv 2, uu, uu, uu, uu, uu, uu] [(.int ((p1 &&& (2147483647 : Int32)) % (3 : Int32)))])
    refine oWk.st (fun _ kt => XS.iconst X.here hx rfl (hb hby at_15) kt) ?_
    show oWk _ _ _ _ T (mkF m 16 #[iv p0, iv p1, iv 2, uu, uu, uu, uu, uu, uu] [(.int 1), (.int ((p1 &&& (2147483647 : Int32)) % (3 : Int32)))])
    refine oWk.st (fun _ kt => XS.iadd X.here hx rfl (hb hby at_16) rfl kt) ?_
    show oWk _ _ _ _ T (mkF m 17 #[iv p0, iv p1, iv 2, uu, uu, uu, uu, uu, uu] [(.int (((p1 &&& (2147483647 : Int32)) % (3 : Int32)) + (1 : Int32)))])
    generalize hb_ : (((p1 &&& (2147483647 : Int32)) % (3 : Int32)) + (1 : Int32)) = bv
    show oWk _ _ _ _ T (mkF m 17 #[iv p0, iv p1, iv 2, uu, uu, uu, uu, uu, uu] [(.int bv)])
    have cbv := oThree hb_
    rcases cbv with rfl | rfl | rfl
    · show oWk _ _ _ _ T (mkF m 17 #[iv p0, iv p1, iv 2, uu, uu, uu, uu, uu, uu] [(.int 1)])
      refine oWk.st (fun _ kt => XS.istoreN X.here hx rfl (hb hby at_17) rfl (l' := #[iv p0, iv p1, iv 2, iv 1, uu, uu, uu, uu, uu]) rfl kt) ?_
      show oWk _ _ _ _ T (mkF m 18 #[iv p0, iv p1, iv 2, iv 1, uu, uu, uu, uu, uu] [])
      refine oWk.st (fun _ kt => XS.iloadN X.here hx rfl (hb hby at_18) rfl kt) ?_
      show oWk _ _ _ _ T (mkF m 19 #[iv p0, iv p1, iv 2, iv 1, uu, uu, uu, uu, uu] [(.int 2)])
      have Oh := K.old O0 all0
      obtain ⟨_, _, ⟨T, L38, k38, n38⟩, -, X, ⟨Lc38, hQ, l38, y38, z38⟩, st⟩ := Jvm.LawKit.callS X hx (y := yy0) hown (mvT hZ (oW hw 1 rfl)) (mvT hZ (oW hw 2 rfl)) (mvT hZ (oW hw 3 rfl)) (mvT hZ (oW hw 4 rfl)) (by decide) (backOf (W := 0) (rHV2 l Z a0 hw [] m2 h0 Oh S_HEADING_PARENT_VALUE) hZ (oW hw 4 rfl) (oW hw 3 rfl) (by decide) (by decide)) (g := (mkF m 19 #[iv p0, iv p1, iv 2, iv 1, uu, uu, uu, uu, uu] [(.int 2)])) rfl (by rw [hml]; rfl) (argsL := [(.int (2 : Int32))]) (rest := []) (lenOf pd_0 rfl) rfl (by show 2 * 0 + _ ≤ _; exact Nat.le_of_eq rfl) (hb hby at_19) (fun _ _ => ⟨rfl, e0, (by decide : 0 + 0 ≤ _), (by decide : 0 + 0 ≤ _)⟩)
      dsimp only [Pt.U, Pt.locs, Pt.cells, Pt.slots] at X l38 y38 z38 st hQ
      subst l38 y38 z38
      obtain ⟨rfl, e0, K37⟩ := hQ
      have K := K.call K37 all0
      rw [e0] at K
      refine oWk.st st ?_
      show oWk _ _ _ _ T (mkF m 22 #[iv p0, iv p1, iv 2, iv 1, uu, uu, uu, uu, uu] [(.ref m2)])
      refine oWk.st (fun _ kt => XS.astore X.here hx rfl (hb hby at_22) rfl rfl (l' := #[iv p0, iv p1, iv 2, iv 1, rv m2, uu, uu, uu, uu]) rfl kt) ?_
      show oWk _ _ _ _ T (mkF m 24 #[iv p0, iv p1, iv 2, iv 1, rv m2, uu, uu, uu, uu] [])
      refine oWk.st (fun _ kt => XS.iloadN X.here hx rfl (hb hby at_24) rfl kt) ?_
      show oWk _ _ _ _ T (mkF m 25 #[iv p0, iv p1, iv 2, iv 1, rv m2, uu, uu, uu, uu] [(.int 1)])
      have Oh := K.old O0 all0
      obtain ⟨_, _, ⟨T, L40, k40, n40⟩, -, X, ⟨Lc40, hQ, l40, y40, z40⟩, st⟩ := Jvm.LawKit.callS X hx (y := yy0) hown (mvT hZ (oW hw 1 rfl)) (mvT hZ (oW hw 2 rfl)) (mvT hZ (oW hw 3 rfl)) (mvT hZ (oW hw 4 rfl)) (by decide) (backOf (W := 0) (rHV1 l Z a0 hw [] m1 h0 Oh S_HEADING_OWN_VALUE) hZ (oW hw 4 rfl) (oW hw 3 rfl) (by decide) (by decide)) (g := (mkF m 25 #[iv p0, iv p1, iv 2, iv 1, rv m2, uu, uu, uu, uu] [(.int 1)])) rfl (by rw [hml]; rfl) (argsL := [(.int (1 : Int32))]) (rest := []) (lenOf pd_0 rfl) rfl (by show 2 * 0 + _ ≤ _; exact Nat.le_of_eq rfl) (hb hby at_25) (fun _ _ => ⟨rfl, e0, (by decide : 0 + 0 ≤ _), (by decide : 0 + 0 ≤ _)⟩)
      dsimp only [Pt.U, Pt.locs, Pt.cells, Pt.slots] at X l40 y40 z40 st hQ
      subst l40 y40 z40
      obtain ⟨rfl, e0, K39⟩ := hQ
      have K := K.call K39 all0
      rw [e0] at K
      refine oWk.st st ?_
      show oWk _ _ _ _ T (mkF m 28 #[iv p0, iv p1, iv 2, iv 1, rv m2, uu, uu, uu, uu] [(.ref m1)])
      refine oWk.st (fun _ kt => XS.astore X.here hx rfl (hb hby at_28) rfl rfl (l' := #[iv p0, iv p1, iv 2, iv 1, rv m2, rv m1, uu, uu, uu]) rfl kt) ?_
      show oWk _ _ _ _ T (mkF m 30 #[iv p0, iv p1, iv 2, iv 1, rv m2, rv m1, uu, uu, uu] [])
      refine oWk.st (fun _ kt => XS.aload X.here hx rfl (hb hby at_30) rfl rfl kt) ?_
      show oWk _ _ _ _ T (mkF m 32 #[iv p0, iv p1, iv 2, iv 1, rv m2, rv m1, uu, uu, uu] [(.ref m2)])
      refine oWk.st (fun _ kt => XS.iloadN X.here hx rfl (hb hby at_32) rfl kt) ?_
      show oWk _ _ _ _ T (mkF m 33 #[iv p0, iv p1, iv 2, iv 1, rv m2, rv m1, uu, uu, uu] [(.int 2), (.ref m2)])
      have Oh := K.old O0 all0
      obtain ⟨_, _, ⟨T, L42, k42, n42⟩, -, X, ⟨Lc42, hQ, l42, y42, z42⟩, st⟩ := Jvm.LawKit.callS X hx (y := yy1) hown (mvT hZ (oW hw 7 rfl)) (mvT hZ (oW hw 8 rfl)) (mvT hZ (oW hw 9 rfl)) (mvT hZ (oW hw 10 rfl)) (by decide) (backOf (W := 1) (rEX2 l Z a0 hw [] m2 h0 Oh S_HEADING_PARENT_VALUE) hZ (oW hw 10 rfl) (oW hw 9 rfl) (by decide) (by decide)) (g := (mkF m 33 #[iv p0, iv p1, iv 2, iv 1, rv m2, rv m1, uu, uu, uu] [(.int 2), (.ref m2)])) rfl (by rw [hml]; rfl) (argsL := [(.int (2 : Int32))]) (rest := [(.ref m2)]) (lenOf pd_0 rfl) rfl (by show 2 * 0 + _ ≤ _; exact Nat.le_of_eq rfl) (hb hby at_33) (fun _ _ => ⟨rfl, e0, (by decide : 0 + 0 ≤ _), (by decide : 0 + 0 ≤ _)⟩)
      dsimp only [Pt.U, Pt.locs, Pt.cells, Pt.slots] at X l42 y42 z42 st hQ
      subst l42 y42 z42
      obtain ⟨rfl, e0, K41⟩ := hQ
      have K := K.call K41 all0
      rw [e0] at K
      refine oWk.st st ?_
      show oWk _ _ _ _ T (mkF m 36 #[iv p0, iv p1, iv 2, iv 1, rv m2, rv m1, uu, uu, uu] [(.ref m2), (.ref m2)])
      refine oWk.st (fun _ kt => Jvm.RoadKit.acmp (g := (mkF m 36 #[iv p0, iv p1, iv 2, iv 1, rv m2, rv m1, uu, uu, uu] [(.ref m2), (.ref m2)])) X hx rfl rfl rfl (pc0 := 36) (pc' := 39) (same := true) rfl (hb hby at_36) rfl (decide_eq_true rfl) (by decide) (by decide) kt) ?_
      show oWk _ _ _ _ T (mkF m 39 #[iv p0, iv p1, iv 2, iv 1, rv m2, rv m1, uu, uu, uu] [])
      refine oWk.st (fun _ kt => XS.aload X.here hx rfl (hb hby at_39) rfl rfl kt) ?_
      show oWk _ _ _ _ T (mkF m 41 #[iv p0, iv p1, iv 2, iv 1, rv m2, rv m1, uu, uu, uu] [(.ref m1)])
      refine oWk.st (fun _ kt => XS.iloadN X.here hx rfl (hb hby at_41) rfl kt) ?_
      show oWk _ _ _ _ T (mkF m 42 #[iv p0, iv p1, iv 2, iv 1, rv m2, rv m1, uu, uu, uu] [(.int 1), (.ref m1)])
      have Oh := K.old O0 all0
      obtain ⟨_, _, ⟨T, L44, k44, n44⟩, -, X, ⟨Lc44, hQ, l44, y44, z44⟩, st⟩ := Jvm.LawKit.callS X hx (y := yy1) hown (mvT hZ (oW hw 7 rfl)) (mvT hZ (oW hw 8 rfl)) (mvT hZ (oW hw 9 rfl)) (mvT hZ (oW hw 10 rfl)) (by decide) (backOf (W := 1) (rEX1 l Z a0 hw [] m1 h0 Oh S_HEADING_OWN_VALUE) hZ (oW hw 10 rfl) (oW hw 9 rfl) (by decide) (by decide)) (g := (mkF m 42 #[iv p0, iv p1, iv 2, iv 1, rv m2, rv m1, uu, uu, uu] [(.int 1), (.ref m1)])) rfl (by rw [hml]; rfl) (argsL := [(.int (1 : Int32))]) (rest := [(.ref m1)]) (lenOf pd_0 rfl) rfl (by show 2 * 0 + _ ≤ _; exact Nat.le_of_eq rfl) (hb hby at_42) (fun _ _ => ⟨rfl, e0, (by decide : 0 + 0 ≤ _), (by decide : 0 + 0 ≤ _)⟩)
      dsimp only [Pt.U, Pt.locs, Pt.cells, Pt.slots] at X l44 y44 z44 st hQ
      subst l44 y44 z44
      obtain ⟨rfl, e0, K43⟩ := hQ
      have K := K.call K43 all0
      rw [e0] at K
      refine oWk.st st ?_
      show oWk _ _ _ _ T (mkF m 45 #[iv p0, iv p1, iv 2, iv 1, rv m2, rv m1, uu, uu, uu] [(.ref m1), (.ref m1)])
      refine oWk.st (fun _ kt => Jvm.RoadKit.acmp (g := (mkF m 45 #[iv p0, iv p1, iv 2, iv 1, rv m2, rv m1, uu, uu, uu] [(.ref m1), (.ref m1)])) X hx rfl rfl rfl (pc0 := 45) (pc' := 48) (same := true) rfl (hb hby at_45) rfl (decide_eq_true rfl) (by decide) (by decide) kt) ?_
      show oWk _ _ _ _ T (mkF m 48 #[iv p0, iv p1, iv 2, iv 1, rv m2, rv m1, uu, uu, uu] [])
      refine oWk.st (fun _ kt => XS.iconst X.here hx rfl (hb hby at_48) kt) ?_
      show oWk _ _ _ _ T (mkF m 49 #[iv p0, iv p1, iv 2, iv 1, rv m2, rv m1, uu, uu, uu] [(.int 1)])
      refine oWk.st (fun _ kt => XS.goto X.here hx rfl (pc0 := 49) (pc' := 53) rfl (hb hby at_49) (by decide) (by decide) kt) ?_
      show oWk _ _ _ _ T (mkF m 53 #[iv p0, iv p1, iv 2, iv 1, rv m2, rv m1, uu, uu, uu] [(.int 1)])
      refine oWk.st (fun _ kt => XS.istore X.here hx rfl (hb hby at_53) rfl (l' := #[iv p0, iv p1, iv 2, iv 1, rv m2, rv m1, iv 1, uu, uu]) rfl kt) ?_
      show oWk _ _ _ _ T (mkF m 55 #[iv p0, iv p1, iv 2, iv 1, rv m2, rv m1, iv 1, uu, uu] [])
      refine oWk.st (fun _ kt => XS.iloadN X.here hx rfl (hb hby at_55) rfl kt) ?_
      show oWk _ _ _ _ T (mkF m 56 #[iv p0, iv p1, iv 2, iv 1, rv m2, rv m1, iv 1, uu, uu] [(.int 2)])
      refine oWk.st (fun _ kt => XS.iloadN X.here hx rfl (hb hby at_56) rfl kt) ?_
      show oWk _ _ _ _ T (mkF m 57 #[iv p0, iv p1, iv 2, iv 1, rv m2, rv m1, iv 1, uu, uu] [(.int 1), (.int 2)])
      refine oWk.st (fun _ kt => XS.icmpYes X.here hx rfl (pc0 := 57) (pc' := 64) rfl (hb hby at_57) rfl (feq (by decide)).2 (by decide) (by decide) kt) ?_
      show oWk _ _ _ _ T (mkF m 64 #[iv p0, iv p1, iv 2, iv 1, rv m2, rv m1, iv 1, uu, uu] [])
      refine oWk.st (fun _ kt => XS.iconst X.here hx rfl (hb hby at_64) kt) ?_
      show oWk _ _ _ _ T (mkF m 65 #[iv p0, iv p1, iv 2, iv 1, rv m2, rv m1, iv 1, uu, uu] [(.int 0)])
      refine oWk.st (fun _ kt => XS.aload X.here hx rfl (hb hby at_65) rfl rfl kt) ?_
      show oWk _ _ _ _ T (mkF m 67 #[iv p0, iv p1, iv 2, iv 1, rv m2, rv m1, iv 1, uu, uu] [(.ref m2), (.int 0)])
      refine oWk.st (fun _ kt => XS.aload X.here hx rfl (hb hby at_67) rfl rfl kt) ?_
      show oWk _ _ _ _ T (mkF m 69 #[iv p0, iv p1, iv 2, iv 1, rv m2, rv m1, iv 1, uu, uu] [(.ref m1), (.ref m2), (.int 0)])
      refine oWk.st (fun _ kt => Jvm.RoadKit.acmp (g := (mkF m 69 #[iv p0, iv p1, iv 2, iv 1, rv m2, rv m1, iv 1, uu, uu] [(.ref m1), (.ref m2), (.int 0)])) X hx rfl rfl rfl (pc0 := 69) (pc' := 76) (same := false) rfl (hb hby at_69) rfl (decide_eq_false fun q => (Ne.symm ne_m1_m2) (Value.ref.inj q)) (by decide) (by decide) kt) ?_
      show oWk _ _ _ _ T (mkF m 76 #[iv p0, iv p1, iv 2, iv 1, rv m2, rv m1, iv 1, uu, uu] [(.int 0)])
      refine oWk.st (fun _ kt => XS.iconst X.here hx rfl (hb hby at_76) kt) ?_
      show oWk _ _ _ _ T (mkF m 77 #[iv p0, iv p1, iv 2, iv 1, rv m2, rv m1, iv 1, uu, uu] [(.int 0), (.int 0)])
      refine oWk.st (fun _ kt => XS.icmpNo X.here hx rfl (hb hby at_77) rfl (teq (by decide)).2 kt) ?_
      show oWk _ _ _ _ T (mkF m 80 #[iv p0, iv p1, iv 2, iv 1, rv m2, rv m1, iv 1, uu, uu] [])
      refine oWk.st (fun _ kt => XS.iconst X.here hx rfl (hb hby at_80) kt) ?_
      show oWk _ _ _ _ T (mkF m 81 #[iv p0, iv p1, iv 2, iv 1, rv m2, rv m1, iv 1, uu, uu] [(.int 1)])
      refine oWk.st (fun _ kt => XS.goto X.here hx rfl (pc0 := 81) (pc' := 85) rfl (hb hby at_81) (by decide) (by decide) kt) ?_
      show oWk _ _ _ _ T (mkF m 85 #[iv p0, iv p1, iv 2, iv 1, rv m2, rv m1, iv 1, uu, uu] [(.int 1)])
      refine oWk.st (fun _ kt => XS.istore X.here hx rfl (hb hby at_85) rfl (l' := #[iv p0, iv p1, iv 2, iv 1, rv m2, rv m1, iv 1, iv 1, uu]) rfl kt) ?_
      show oWk _ _ _ _ T (mkF m 87 #[iv p0, iv p1, iv 2, iv 1, rv m2, rv m1, iv 1, iv 1, uu] [])
      refine oWk.st (fun _ kt => XS.iloadN X.here hx rfl (hb hby at_87) rfl kt) ?_
      show oWk _ _ _ _ T (mkF m 88 #[iv p0, iv p1, iv 2, iv 1, rv m2, rv m1, iv 1, iv 1, uu] [(.int 2)])
      refine oWk.st (fun _ kt => XS.iloadN X.here hx rfl (hb hby at_88) rfl kt) ?_
      show oWk _ _ _ _ T (mkF m 89 #[iv p0, iv p1, iv 2, iv 1, rv m2, rv m1, iv 1, iv 1, uu] [(.int 1), (.int 2)])
      refine oWk.st (fun _ kt => XS.icmpYes X.here hx rfl (pc0 := 89) (pc' := 96) rfl (hb hby at_89) rfl (flt (by decide)).2.1 (by decide) (by decide) kt) ?_
      show oWk _ _ _ _ T (mkF m 96 #[iv p0, iv p1, iv 2, iv 1, rv m2, rv m1, iv 1, iv 1, uu] [])
      refine oWk.st (fun _ kt => XS.iconst X.here hx rfl (hb hby at_96) kt) ?_
      show oWk _ _ _ _ T (mkF m 97 #[iv p0, iv p1, iv 2, iv 1, rv m2, rv m1, iv 1, iv 1, uu] [(.int 0)])
      refine oWk.st (fun _ kt => XS.aload X.here hx rfl (hb hby at_97) rfl rfl kt) ?_
      show oWk _ _ _ _ T (mkF m 99 #[iv p0, iv p1, iv 2, iv 1, rv m2, rv m1, iv 1, iv 1, uu] [(.ref m2), (.int 0)])
      have Oh := K.old O0 all0
      obtain ⟨cq46, kq46, q46a, q46b, q46c⟩ := isOf hZ e0 E_m2
      obtain ⟨_, _, ⟨T, L46, k46, n46⟩, -, X, ⟨Lc46, hQ, l46, y46, z46⟩, st⟩ := X.virtualBack hx (y := yy2) (z := yy2) hown (mvT hZ (oW hw 12 rfl)) (mvT hZ (oW hw 13 rfl)) (notFace_of_selects (args := #[]) (mvT hZ (oW hw 15 rfl))) (mvT hZ (oW hw 15 rfl)) (mvT hZ (oW hw 14 rfl)) (by decide) (backOf (W := 1) (rDV l Z a0 hw [] m2 (4608083138725491507 : UInt64) h0 Oh F_defaultValue_m2) hZ (oW hw 16 rfl) (oW hw 3 rfl) (by decide) (by decide)) q46a q46c (g := (mkF m 99 #[iv p0, iv p1, iv 2, iv 1, rv m2, rv m1, iv 1, iv 1, uu] [(.ref m2), (.int 0)])) rfl (by rw [hml]; rfl) (Steps.refl _) (argsL := []) (rest := [(.int (0 : Int32))]) (lenOf pd_1 rfl) rfl (by show 2 * 0 + _ ≤ _; exact Nat.le_of_eq rfl) (hb hby at_99) (fun _ _ => ⟨rfl, e0, (by decide : 0 + 0 ≤ _), (by decide : 0 + 0 ≤ _)⟩)
      dsimp only [Pt.U, Pt.locs, Pt.cells, Pt.slots] at X l46 y46 z46 st hQ
      subst l46 y46 z46
      obtain ⟨rfl, e0, K45⟩ := hQ
      have K := K.call K45 all0
      rw [e0] at K
      refine oWk.tr st ?_
      show oWk _ _ _ _ T (mkF m 102 #[iv p0, iv p1, iv 2, iv 1, rv m2, rv m1, iv 1, iv 1, uu] [(.double (4608083138725491507 : UInt64)), (.int 0)])
      refine oWk.st (fun _ kt => XS.aload X.here hx rfl (hb hby at_102) rfl rfl kt) ?_
      show oWk _ _ _ _ T (mkF m 104 #[iv p0, iv p1, iv 2, iv 1, rv m2, rv m1, iv 1, iv 1, uu] [(.ref m1), (.double (4608083138725491507 : UInt64)), (.int 0)])
      have Oh := K.old O0 all0
      obtain ⟨cq48, kq48, q48a, q48b, q48c⟩ := isOf hZ e0 E_m1
      obtain ⟨_, _, ⟨T, L48, k48, n48⟩, -, X, ⟨Lc48, hQ, l48, y48, z48⟩, st⟩ := X.virtualBack hx (y := yy2) (z := yy2) hown (mvT hZ (oW hw 12 rfl)) (mvT hZ (oW hw 13 rfl)) (notFace_of_selects (args := #[]) (mvT hZ (oW hw 15 rfl))) (mvT hZ (oW hw 15 rfl)) (mvT hZ (oW hw 14 rfl)) (by decide) (backOf (W := 3) (rDV l Z a0 hw [] m1 (4608533498688228557 : UInt64) h0 Oh F_defaultValue_m1) hZ (oW hw 16 rfl) (oW hw 3 rfl) (by decide) (by decide)) q48a q48c (g := (mkF m 104 #[iv p0, iv p1, iv 2, iv 1, rv m2, rv m1, iv 1, iv 1, uu] [(.ref m1), (.double (4608083138725491507 : UInt64)), (.int 0)])) rfl (by rw [hml]; rfl) (Steps.refl _) (argsL := []) (rest := [(.double (4608083138725491507 : UInt64)), (.int (0 : Int32))]) (lenOf pd_1 rfl) rfl (by show 2 * 0 + _ ≤ _; exact Nat.le_of_eq rfl) (hb hby at_104) (fun _ _ => ⟨rfl, e0, (by decide : 0 + 0 ≤ _), (by decide : 0 + 0 ≤ _)⟩)
      dsimp only [Pt.U, Pt.locs, Pt.cells, Pt.slots] at X l48 y48 z48 st hQ
      subst l48 y48 z48
      obtain ⟨rfl, e0, K47⟩ := hQ
      have K := K.call K47 all0
      rw [e0] at K
      refine oWk.tr st ?_
      show oWk _ _ _ _ T (mkF m 107 #[iv p0, iv p1, iv 2, iv 1, rv m2, rv m1, iv 1, iv 1, uu] [(.double (4608533498688228557 : UInt64)), (.double (4608083138725491507 : UInt64)), (.int 0)])
      refine oWk.st (fun _ kt => XS.dcmpS X.here hx rfl (v := (-1 : Int32)) (hb hby at_107) rfl (by decide +kernel) kt) ?_
      show oWk _ _ _ _ T (mkF m 108 #[iv p0, iv p1, iv 2, iv 1, rv m2, rv m1, iv 1, iv 1, uu] [(.int (-1 : Int32)), (.int 0)])
      refine oWk.st (fun _ kt => XS.ifYes X.here hx rfl (pc0 := 108) (pc' := 115) rfl (hb hby at_108) rfl ((if0 _ _).trans (flt (by decide)).2.2.2) (by decide) (by decide) kt) ?_
      show oWk _ _ _ _ T (mkF m 115 #[iv p0, iv p1, iv 2, iv 1, rv m2, rv m1, iv 1, iv 1, uu] [(.int 0)])
      refine oWk.st (fun _ kt => XS.iconst X.here hx rfl (hb hby at_115) kt) ?_
      show oWk _ _ _ _ T (mkF m 116 #[iv p0, iv p1, iv 2, iv 1, rv m2, rv m1, iv 1, iv 1, uu] [(.int 0), (.int 0)])
      refine oWk.st (fun _ kt => XS.icmpNo X.here hx rfl (hb hby at_116) rfl (teq (by decide)).2 kt) ?_
      show oWk _ _ _ _ T (mkF m 119 #[iv p0, iv p1, iv 2, iv 1, rv m2, rv m1, iv 1, iv 1, uu] [])
      refine oWk.st (fun _ kt => XS.iconst X.here hx rfl (hb hby at_119) kt) ?_
      show oWk _ _ _ _ T (mkF m 120 #[iv p0, iv p1, iv 2, iv 1, rv m2, rv m1, iv 1, iv 1, uu] [(.int 1)])
      refine oWk.st (fun _ kt => XS.goto X.here hx rfl (pc0 := 120) (pc' := 124) rfl (hb hby at_120) (by decide) (by decide) kt) ?_
      show oWk _ _ _ _ T (mkF m 124 #[iv p0, iv p1, iv 2, iv 1, rv m2, rv m1, iv 1, iv 1, uu] [(.int 1)])
      refine oWk.st (fun _ kt => XS.istore X.here hx rfl (hb hby at_124) rfl (l' := #[iv p0, iv p1, iv 2, iv 1, rv m2, rv m1, iv 1, iv 1, iv 1]) rfl kt) ?_
      show oWk _ _ _ _ T (mkF m 126 #[iv p0, iv p1, iv 2, iv 1, rv m2, rv m1, iv 1, iv 1, iv 1] [])
      refine oWk.st (fun _ kt => XS.iload X.here hx rfl (hb hby at_126) rfl kt) ?_
      show oWk _ _ _ _ T (mkF m 128 #[iv p0, iv p1, iv 2, iv 1, rv m2, rv m1, iv 1, iv 1, iv 1] [(.int 1)])
      refine oWk.st (fun _ kt => XS.ifNo X.here hx rfl (hb hby at_128) rfl ((if0 _ _).trans (feq (by decide)).1) kt) ?_
      show oWk _ _ _ _ T (mkF m 131 #[iv p0, iv p1, iv 2, iv 1, rv m2, rv m1, iv 1, iv 1, iv 1] [])
      refine oWk.st (fun _ kt => XS.iload X.here hx rfl (hb hby at_131) rfl kt) ?_
      show oWk _ _ _ _ T (mkF m 133 #[iv p0, iv p1, iv 2, iv 1, rv m2, rv m1, iv 1, iv 1, iv 1] [(.int 1)])
      refine oWk.st (fun _ kt => XS.ifNo X.here hx rfl (hb hby at_133) rfl ((if0 _ _).trans (feq (by decide)).1) kt) ?_
      show oWk _ _ _ _ T (mkF m 136 #[iv p0, iv p1, iv 2, iv 1, rv m2, rv m1, iv 1, iv 1, iv 1] [])
      refine oWk.st (fun _ kt => XS.iload X.here hx rfl (hb hby at_136) rfl kt) ?_
      show oWk _ _ _ _ T (mkF m 138 #[iv p0, iv p1, iv 2, iv 1, rv m2, rv m1, iv 1, iv 1, iv 1] [(.int 1)])
      refine oWk.st (fun _ kt => XS.ifNo X.here hx rfl (hb hby at_138) rfl ((if0 _ _).trans (feq (by decide)).1) kt) ?_
      show oWk _ _ _ _ T (mkF m 141 #[iv p0, iv p1, iv 2, iv 1, rv m2, rv m1, iv 1, iv 1, iv 1] [])
      refine oWk.st (fun _ kt => XS.iconst X.here hx rfl (hb hby at_141) kt) ?_
      show oWk _ _ _ _ T (mkF m 142 #[iv p0, iv p1, iv 2, iv 1, rv m2, rv m1, iv 1, iv 1, iv 1] [(.int 1)])
      refine oWk.st (fun _ kt => XS.goto X.here hx rfl (pc0 := 142) (pc' := 146) rfl (hb hby at_142) (by decide) (by decide) kt) ?_
      show oWk _ _ _ _ T (mkF m 146 #[iv p0, iv p1, iv 2, iv 1, rv m2, rv m1, iv 1, iv 1, iv 1] [(.int 1)])
      exact oRetZ X hx hlk hret (hb hby at_146) (Or.inr rfl) (by rw [e0]; exact ⟨rfl, K.fr⟩) (by decide) (by decide)
    · show oWk _ _ _ _ T (mkF m 17 #[iv p0, iv p1, iv 2, uu, uu, uu, uu, uu, uu] [(.int 2)])
      refine oWk.st (fun _ kt => XS.istoreN X.here hx rfl (hb hby at_17) rfl (l' := #[iv p0, iv p1, iv 2, iv 2, uu, uu, uu, uu, uu]) rfl kt) ?_
      show oWk _ _ _ _ T (mkF m 18 #[iv p0, iv p1, iv 2, iv 2, uu, uu, uu, uu, uu] [])
      refine oWk.st (fun _ kt => XS.iloadN X.here hx rfl (hb hby at_18) rfl kt) ?_
      show oWk _ _ _ _ T (mkF m 19 #[iv p0, iv p1, iv 2, iv 2, uu, uu, uu, uu, uu] [(.int 2)])
      have Oh := K.old O0 all0
      obtain ⟨_, _, ⟨T, L50, k50, n50⟩, -, X, ⟨Lc50, hQ, l50, y50, z50⟩, st⟩ := Jvm.LawKit.callS X hx (y := yy0) hown (mvT hZ (oW hw 1 rfl)) (mvT hZ (oW hw 2 rfl)) (mvT hZ (oW hw 3 rfl)) (mvT hZ (oW hw 4 rfl)) (by decide) (backOf (W := 0) (rHV2 l Z a0 hw [] m2 h0 Oh S_HEADING_PARENT_VALUE) hZ (oW hw 4 rfl) (oW hw 3 rfl) (by decide) (by decide)) (g := (mkF m 19 #[iv p0, iv p1, iv 2, iv 2, uu, uu, uu, uu, uu] [(.int 2)])) rfl (by rw [hml]; rfl) (argsL := [(.int (2 : Int32))]) (rest := []) (lenOf pd_0 rfl) rfl (by show 2 * 0 + _ ≤ _; exact Nat.le_of_eq rfl) (hb hby at_19) (fun _ _ => ⟨rfl, e0, (by decide : 0 + 0 ≤ _), (by decide : 0 + 0 ≤ _)⟩)
      dsimp only [Pt.U, Pt.locs, Pt.cells, Pt.slots] at X l50 y50 z50 st hQ
      subst l50 y50 z50
      obtain ⟨rfl, e0, K49⟩ := hQ
      have K := K.call K49 all0
      rw [e0] at K
      refine oWk.st st ?_
      show oWk _ _ _ _ T (mkF m 22 #[iv p0, iv p1, iv 2, iv 2, uu, uu, uu, uu, uu] [(.ref m2)])
      refine oWk.st (fun _ kt => XS.astore X.here hx rfl (hb hby at_22) rfl rfl (l' := #[iv p0, iv p1, iv 2, iv 2, rv m2, uu, uu, uu, uu]) rfl kt) ?_
      show oWk _ _ _ _ T (mkF m 24 #[iv p0, iv p1, iv 2, iv 2, rv m2, uu, uu, uu, uu] [])
      refine oWk.st (fun _ kt => XS.iloadN X.here hx rfl (hb hby at_24) rfl kt) ?_
      show oWk _ _ _ _ T (mkF m 25 #[iv p0, iv p1, iv 2, iv 2, rv m2, uu, uu, uu, uu] [(.int 2)])
      have Oh := K.old O0 all0
      obtain ⟨_, _, ⟨T, L52, k52, n52⟩, -, X, ⟨Lc52, hQ, l52, y52, z52⟩, st⟩ := Jvm.LawKit.callS X hx (y := yy0) hown (mvT hZ (oW hw 1 rfl)) (mvT hZ (oW hw 2 rfl)) (mvT hZ (oW hw 3 rfl)) (mvT hZ (oW hw 4 rfl)) (by decide) (backOf (W := 0) (rHV2 l Z a0 hw [] m2 h0 Oh S_HEADING_PARENT_VALUE) hZ (oW hw 4 rfl) (oW hw 3 rfl) (by decide) (by decide)) (g := (mkF m 25 #[iv p0, iv p1, iv 2, iv 2, rv m2, uu, uu, uu, uu] [(.int 2)])) rfl (by rw [hml]; rfl) (argsL := [(.int (2 : Int32))]) (rest := []) (lenOf pd_0 rfl) rfl (by show 2 * 0 + _ ≤ _; exact Nat.le_of_eq rfl) (hb hby at_25) (fun _ _ => ⟨rfl, e0, (by decide : 0 + 0 ≤ _), (by decide : 0 + 0 ≤ _)⟩)
      dsimp only [Pt.U, Pt.locs, Pt.cells, Pt.slots] at X l52 y52 z52 st hQ
      subst l52 y52 z52
      obtain ⟨rfl, e0, K51⟩ := hQ
      have K := K.call K51 all0
      rw [e0] at K
      refine oWk.st st ?_
      show oWk _ _ _ _ T (mkF m 28 #[iv p0, iv p1, iv 2, iv 2, rv m2, uu, uu, uu, uu] [(.ref m2)])
      refine oWk.st (fun _ kt => XS.astore X.here hx rfl (hb hby at_28) rfl rfl (l' := #[iv p0, iv p1, iv 2, iv 2, rv m2, rv m2, uu, uu, uu]) rfl kt) ?_
      show oWk _ _ _ _ T (mkF m 30 #[iv p0, iv p1, iv 2, iv 2, rv m2, rv m2, uu, uu, uu] [])
      refine oWk.st (fun _ kt => XS.aload X.here hx rfl (hb hby at_30) rfl rfl kt) ?_
      show oWk _ _ _ _ T (mkF m 32 #[iv p0, iv p1, iv 2, iv 2, rv m2, rv m2, uu, uu, uu] [(.ref m2)])
      refine oWk.st (fun _ kt => XS.iloadN X.here hx rfl (hb hby at_32) rfl kt) ?_
      show oWk _ _ _ _ T (mkF m 33 #[iv p0, iv p1, iv 2, iv 2, rv m2, rv m2, uu, uu, uu] [(.int 2), (.ref m2)])
      have Oh := K.old O0 all0
      obtain ⟨_, _, ⟨T, L54, k54, n54⟩, -, X, ⟨Lc54, hQ, l54, y54, z54⟩, st⟩ := Jvm.LawKit.callS X hx (y := yy1) hown (mvT hZ (oW hw 7 rfl)) (mvT hZ (oW hw 8 rfl)) (mvT hZ (oW hw 9 rfl)) (mvT hZ (oW hw 10 rfl)) (by decide) (backOf (W := 1) (rEX2 l Z a0 hw [] m2 h0 Oh S_HEADING_PARENT_VALUE) hZ (oW hw 10 rfl) (oW hw 9 rfl) (by decide) (by decide)) (g := (mkF m 33 #[iv p0, iv p1, iv 2, iv 2, rv m2, rv m2, uu, uu, uu] [(.int 2), (.ref m2)])) rfl (by rw [hml]; rfl) (argsL := [(.int (2 : Int32))]) (rest := [(.ref m2)]) (lenOf pd_0 rfl) rfl (by show 2 * 0 + _ ≤ _; exact Nat.le_of_eq rfl) (hb hby at_33) (fun _ _ => ⟨rfl, e0, (by decide : 0 + 0 ≤ _), (by decide : 0 + 0 ≤ _)⟩)
      dsimp only [Pt.U, Pt.locs, Pt.cells, Pt.slots] at X l54 y54 z54 st hQ
      subst l54 y54 z54
      obtain ⟨rfl, e0, K53⟩ := hQ
      have K := K.call K53 all0
      rw [e0] at K
      refine oWk.st st ?_
      show oWk _ _ _ _ T (mkF m 36 #[iv p0, iv p1, iv 2, iv 2, rv m2, rv m2, uu, uu, uu] [(.ref m2), (.ref m2)])
      refine oWk.st (fun _ kt => Jvm.RoadKit.acmp (g := (mkF m 36 #[iv p0, iv p1, iv 2, iv 2, rv m2, rv m2, uu, uu, uu] [(.ref m2), (.ref m2)])) X hx rfl rfl rfl (pc0 := 36) (pc' := 39) (same := true) rfl (hb hby at_36) rfl (decide_eq_true rfl) (by decide) (by decide) kt) ?_
      show oWk _ _ _ _ T (mkF m 39 #[iv p0, iv p1, iv 2, iv 2, rv m2, rv m2, uu, uu, uu] [])
      refine oWk.st (fun _ kt => XS.aload X.here hx rfl (hb hby at_39) rfl rfl kt) ?_
      show oWk _ _ _ _ T (mkF m 41 #[iv p0, iv p1, iv 2, iv 2, rv m2, rv m2, uu, uu, uu] [(.ref m2)])
      refine oWk.st (fun _ kt => XS.iloadN X.here hx rfl (hb hby at_41) rfl kt) ?_
      show oWk _ _ _ _ T (mkF m 42 #[iv p0, iv p1, iv 2, iv 2, rv m2, rv m2, uu, uu, uu] [(.int 2), (.ref m2)])
      have Oh := K.old O0 all0
      obtain ⟨_, _, ⟨T, L56, k56, n56⟩, -, X, ⟨Lc56, hQ, l56, y56, z56⟩, st⟩ := Jvm.LawKit.callS X hx (y := yy1) hown (mvT hZ (oW hw 7 rfl)) (mvT hZ (oW hw 8 rfl)) (mvT hZ (oW hw 9 rfl)) (mvT hZ (oW hw 10 rfl)) (by decide) (backOf (W := 1) (rEX2 l Z a0 hw [] m2 h0 Oh S_HEADING_PARENT_VALUE) hZ (oW hw 10 rfl) (oW hw 9 rfl) (by decide) (by decide)) (g := (mkF m 42 #[iv p0, iv p1, iv 2, iv 2, rv m2, rv m2, uu, uu, uu] [(.int 2), (.ref m2)])) rfl (by rw [hml]; rfl) (argsL := [(.int (2 : Int32))]) (rest := [(.ref m2)]) (lenOf pd_0 rfl) rfl (by show 2 * 0 + _ ≤ _; exact Nat.le_of_eq rfl) (hb hby at_42) (fun _ _ => ⟨rfl, e0, (by decide : 0 + 0 ≤ _), (by decide : 0 + 0 ≤ _)⟩)
      dsimp only [Pt.U, Pt.locs, Pt.cells, Pt.slots] at X l56 y56 z56 st hQ
      subst l56 y56 z56
      obtain ⟨rfl, e0, K55⟩ := hQ
      have K := K.call K55 all0
      rw [e0] at K
      refine oWk.st st ?_
      show oWk _ _ _ _ T (mkF m 45 #[iv p0, iv p1, iv 2, iv 2, rv m2, rv m2, uu, uu, uu] [(.ref m2), (.ref m2)])
      refine oWk.st (fun _ kt => Jvm.RoadKit.acmp (g := (mkF m 45 #[iv p0, iv p1, iv 2, iv 2, rv m2, rv m2, uu, uu, uu] [(.ref m2), (.ref m2)])) X hx rfl rfl rfl (pc0 := 45) (pc' := 48) (same := true) rfl (hb hby at_45) rfl (decide_eq_true rfl) (by decide) (by decide) kt) ?_
      show oWk _ _ _ _ T (mkF m 48 #[iv p0, iv p1, iv 2, iv 2, rv m2, rv m2, uu, uu, uu] [])
      refine oWk.st (fun _ kt => XS.iconst X.here hx rfl (hb hby at_48) kt) ?_
      show oWk _ _ _ _ T (mkF m 49 #[iv p0, iv p1, iv 2, iv 2, rv m2, rv m2, uu, uu, uu] [(.int 1)])
      refine oWk.st (fun _ kt => XS.goto X.here hx rfl (pc0 := 49) (pc' := 53) rfl (hb hby at_49) (by decide) (by decide) kt) ?_
      show oWk _ _ _ _ T (mkF m 53 #[iv p0, iv p1, iv 2, iv 2, rv m2, rv m2, uu, uu, uu] [(.int 1)])
      refine oWk.st (fun _ kt => XS.istore X.here hx rfl (hb hby at_53) rfl (l' := #[iv p0, iv p1, iv 2, iv 2, rv m2, rv m2, iv 1, uu, uu]) rfl kt) ?_
      show oWk _ _ _ _ T (mkF m 55 #[iv p0, iv p1, iv 2, iv 2, rv m2, rv m2, iv 1, uu, uu] [])
      refine oWk.st (fun _ kt => XS.iloadN X.here hx rfl (hb hby at_55) rfl kt) ?_
      show oWk _ _ _ _ T (mkF m 56 #[iv p0, iv p1, iv 2, iv 2, rv m2, rv m2, iv 1, uu, uu] [(.int 2)])
      refine oWk.st (fun _ kt => XS.iloadN X.here hx rfl (hb hby at_56) rfl kt) ?_
      show oWk _ _ _ _ T (mkF m 57 #[iv p0, iv p1, iv 2, iv 2, rv m2, rv m2, iv 1, uu, uu] [(.int 2), (.int 2)])
      refine oWk.st (fun _ kt => XS.icmpNo X.here hx rfl (hb hby at_57) rfl (teq (by decide)).2 kt) ?_
      show oWk _ _ _ _ T (mkF m 60 #[iv p0, iv p1, iv 2, iv 2, rv m2, rv m2, iv 1, uu, uu] [])
      refine oWk.st (fun _ kt => XS.iconst X.here hx rfl (hb hby at_60) kt) ?_
      show oWk _ _ _ _ T (mkF m 61 #[iv p0, iv p1, iv 2, iv 2, rv m2, rv m2, iv 1, uu, uu] [(.int 1)])
      refine oWk.st (fun _ kt => XS.goto X.here hx rfl (pc0 := 61) (pc' := 65) rfl (hb hby at_61) (by decide) (by decide) kt) ?_
      show oWk _ _ _ _ T (mkF m 65 #[iv p0, iv p1, iv 2, iv 2, rv m2, rv m2, iv 1, uu, uu] [(.int 1)])
      refine oWk.st (fun _ kt => XS.aload X.here hx rfl (hb hby at_65) rfl rfl kt) ?_
      show oWk _ _ _ _ T (mkF m 67 #[iv p0, iv p1, iv 2, iv 2, rv m2, rv m2, iv 1, uu, uu] [(.ref m2), (.int 1)])
      refine oWk.st (fun _ kt => XS.aload X.here hx rfl (hb hby at_67) rfl rfl kt) ?_
      show oWk _ _ _ _ T (mkF m 69 #[iv p0, iv p1, iv 2, iv 2, rv m2, rv m2, iv 1, uu, uu] [(.ref m2), (.ref m2), (.int 1)])
      refine oWk.st (fun _ kt => Jvm.RoadKit.acmp (g := (mkF m 69 #[iv p0, iv p1, iv 2, iv 2, rv m2, rv m2, iv 1, uu, uu] [(.ref m2), (.ref m2), (.int 1)])) X hx rfl rfl rfl (pc0 := 69) (pc' := 72) (same := true) rfl (hb hby at_69) rfl (decide_eq_true rfl) (by decide) (by decide) kt) ?_
      show oWk _ _ _ _ T (mkF m 72 #[iv p0, iv p1, iv 2, iv 2, rv m2, rv m2, iv 1, uu, uu] [(.int 1)])
      refine oWk.st (fun _ kt => XS.iconst X.here hx rfl (hb hby at_72) kt) ?_
      show oWk _ _ _ _ T (mkF m 73 #[iv p0, iv p1, iv 2, iv 2, rv m2, rv m2, iv 1, uu, uu] [(.int 1), (.int 1)])
      refine oWk.st (fun _ kt => XS.goto X.here hx rfl (pc0 := 73) (pc' := 77) rfl (hb hby at_73) (by decide) (by decide) kt) ?_
      show oWk _ _ _ _ T (mkF m 77 #[iv p0, iv p1, iv 2, iv 2, rv m2, rv m2, iv 1, uu, uu] [(.int 1), (.int 1)])
      refine oWk.st (fun _ kt => XS.icmpNo X.here hx rfl (hb hby at_77) rfl (teq (by decide)).2 kt) ?_
      show oWk _ _ _ _ T (mkF m 80 #[iv p0, iv p1, iv 2, iv 2, rv m2, rv m2, iv 1, uu, uu] [])
      refine oWk.st (fun _ kt => XS.iconst X.here hx rfl (hb hby at_80) kt) ?_
      show oWk _ _ _ _ T (mkF m 81 #[iv p0, iv p1, iv 2, iv 2, rv m2, rv m2, iv 1, uu, uu] [(.int 1)])
      refine oWk.st (fun _ kt => XS.goto X.here hx rfl (pc0 := 81) (pc' := 85) rfl (hb hby at_81) (by decide) (by decide) kt) ?_
      show oWk _ _ _ _ T (mkF m 85 #[iv p0, iv p1, iv 2, iv 2, rv m2, rv m2, iv 1, uu, uu] [(.int 1)])
      refine oWk.st (fun _ kt => XS.istore X.here hx rfl (hb hby at_85) rfl (l' := #[iv p0, iv p1, iv 2, iv 2, rv m2, rv m2, iv 1, iv 1, uu]) rfl kt) ?_
      show oWk _ _ _ _ T (mkF m 87 #[iv p0, iv p1, iv 2, iv 2, rv m2, rv m2, iv 1, iv 1, uu] [])
      refine oWk.st (fun _ kt => XS.iloadN X.here hx rfl (hb hby at_87) rfl kt) ?_
      show oWk _ _ _ _ T (mkF m 88 #[iv p0, iv p1, iv 2, iv 2, rv m2, rv m2, iv 1, iv 1, uu] [(.int 2)])
      refine oWk.st (fun _ kt => XS.iloadN X.here hx rfl (hb hby at_88) rfl kt) ?_
      show oWk _ _ _ _ T (mkF m 89 #[iv p0, iv p1, iv 2, iv 2, rv m2, rv m2, iv 1, iv 1, uu] [(.int 2), (.int 2)])
      refine oWk.st (fun _ kt => XS.icmpYes X.here hx rfl (pc0 := 89) (pc' := 96) rfl (hb hby at_89) rfl (flt (by decide)).2.1 (by decide) (by decide) kt) ?_
      show oWk _ _ _ _ T (mkF m 96 #[iv p0, iv p1, iv 2, iv 2, rv m2, rv m2, iv 1, iv 1, uu] [])
      refine oWk.st (fun _ kt => XS.iconst X.here hx rfl (hb hby at_96) kt) ?_
      show oWk _ _ _ _ T (mkF m 97 #[iv p0, iv p1, iv 2, iv 2, rv m2, rv m2, iv 1, iv 1, uu] [(.int 0)])
      refine oWk.st (fun _ kt => XS.aload X.here hx rfl (hb hby at_97) rfl rfl kt) ?_
      show oWk _ _ _ _ T (mkF m 99 #[iv p0, iv p1, iv 2, iv 2, rv m2, rv m2, iv 1, iv 1, uu] [(.ref m2), (.int 0)])
      have Oh := K.old O0 all0
      obtain ⟨cq58, kq58, q58a, q58b, q58c⟩ := isOf hZ e0 E_m2
      obtain ⟨_, _, ⟨T, L58, k58, n58⟩, -, X, ⟨Lc58, hQ, l58, y58, z58⟩, st⟩ := X.virtualBack hx (y := yy2) (z := yy2) hown (mvT hZ (oW hw 12 rfl)) (mvT hZ (oW hw 13 rfl)) (notFace_of_selects (args := #[]) (mvT hZ (oW hw 15 rfl))) (mvT hZ (oW hw 15 rfl)) (mvT hZ (oW hw 14 rfl)) (by decide) (backOf (W := 1) (rDV l Z a0 hw [] m2 (4608083138725491507 : UInt64) h0 Oh F_defaultValue_m2) hZ (oW hw 16 rfl) (oW hw 3 rfl) (by decide) (by decide)) q58a q58c (g := (mkF m 99 #[iv p0, iv p1, iv 2, iv 2, rv m2, rv m2, iv 1, iv 1, uu] [(.ref m2), (.int 0)])) rfl (by rw [hml]; rfl) (Steps.refl _) (argsL := []) (rest := [(.int (0 : Int32))]) (lenOf pd_1 rfl) rfl (by show 2 * 0 + _ ≤ _; exact Nat.le_of_eq rfl) (hb hby at_99) (fun _ _ => ⟨rfl, e0, (by decide : 0 + 0 ≤ _), (by decide : 0 + 0 ≤ _)⟩)
      dsimp only [Pt.U, Pt.locs, Pt.cells, Pt.slots] at X l58 y58 z58 st hQ
      subst l58 y58 z58
      obtain ⟨rfl, e0, K57⟩ := hQ
      have K := K.call K57 all0
      rw [e0] at K
      refine oWk.tr st ?_
      show oWk _ _ _ _ T (mkF m 102 #[iv p0, iv p1, iv 2, iv 2, rv m2, rv m2, iv 1, iv 1, uu] [(.double (4608083138725491507 : UInt64)), (.int 0)])
      refine oWk.st (fun _ kt => XS.aload X.here hx rfl (hb hby at_102) rfl rfl kt) ?_
      show oWk _ _ _ _ T (mkF m 104 #[iv p0, iv p1, iv 2, iv 2, rv m2, rv m2, iv 1, iv 1, uu] [(.ref m2), (.double (4608083138725491507 : UInt64)), (.int 0)])
      have Oh := K.old O0 all0
      obtain ⟨cq60, kq60, q60a, q60b, q60c⟩ := isOf hZ e0 E_m2
      obtain ⟨_, _, ⟨T, L60, k60, n60⟩, -, X, ⟨Lc60, hQ, l60, y60, z60⟩, st⟩ := X.virtualBack hx (y := yy2) (z := yy2) hown (mvT hZ (oW hw 12 rfl)) (mvT hZ (oW hw 13 rfl)) (notFace_of_selects (args := #[]) (mvT hZ (oW hw 15 rfl))) (mvT hZ (oW hw 15 rfl)) (mvT hZ (oW hw 14 rfl)) (by decide) (backOf (W := 3) (rDV l Z a0 hw [] m2 (4608083138725491507 : UInt64) h0 Oh F_defaultValue_m2) hZ (oW hw 16 rfl) (oW hw 3 rfl) (by decide) (by decide)) q60a q60c (g := (mkF m 104 #[iv p0, iv p1, iv 2, iv 2, rv m2, rv m2, iv 1, iv 1, uu] [(.ref m2), (.double (4608083138725491507 : UInt64)), (.int 0)])) rfl (by rw [hml]; rfl) (Steps.refl _) (argsL := []) (rest := [(.double (4608083138725491507 : UInt64)), (.int (0 : Int32))]) (lenOf pd_1 rfl) rfl (by show 2 * 0 + _ ≤ _; exact Nat.le_of_eq rfl) (hb hby at_104) (fun _ _ => ⟨rfl, e0, (by decide : 0 + 0 ≤ _), (by decide : 0 + 0 ≤ _)⟩)
      dsimp only [Pt.U, Pt.locs, Pt.cells, Pt.slots] at X l60 y60 z60 st hQ
      subst l60 y60 z60
      obtain ⟨rfl, e0, K59⟩ := hQ
      have K := K.call K59 all0
      rw [e0] at K
      refine oWk.tr st ?_
      show oWk _ _ _ _ T (mkF m 107 #[iv p0, iv p1, iv 2, iv 2, rv m2, rv m2, iv 1, iv 1, uu] [(.double (4608083138725491507 : UInt64)), (.double (4608083138725491507 : UInt64)), (.int 0)])
      refine oWk.st (fun _ kt => XS.dcmpS X.here hx rfl (v := (0 : Int32)) (hb hby at_107) rfl (by decide +kernel) kt) ?_
      show oWk _ _ _ _ T (mkF m 108 #[iv p0, iv p1, iv 2, iv 2, rv m2, rv m2, iv 1, iv 1, uu] [(.int 0), (.int 0)])
      refine oWk.st (fun _ kt => XS.ifYes X.here hx rfl (pc0 := 108) (pc' := 115) rfl (hb hby at_108) rfl ((if0 _ _).trans (flt (by decide)).2.2.2) (by decide) (by decide) kt) ?_
      show oWk _ _ _ _ T (mkF m 115 #[iv p0, iv p1, iv 2, iv 2, rv m2, rv m2, iv 1, iv 1, uu] [(.int 0)])
      refine oWk.st (fun _ kt => XS.iconst X.here hx rfl (hb hby at_115) kt) ?_
      show oWk _ _ _ _ T (mkF m 116 #[iv p0, iv p1, iv 2, iv 2, rv m2, rv m2, iv 1, iv 1, uu] [(.int 0), (.int 0)])
      refine oWk.st (fun _ kt => XS.icmpNo X.here hx rfl (hb hby at_116) rfl (teq (by decide)).2 kt) ?_
      show oWk _ _ _ _ T (mkF m 119 #[iv p0, iv p1, iv 2, iv 2, rv m2, rv m2, iv 1, iv 1, uu] [])
      refine oWk.st (fun _ kt => XS.iconst X.here hx rfl (hb hby at_119) kt) ?_
      show oWk _ _ _ _ T (mkF m 120 #[iv p0, iv p1, iv 2, iv 2, rv m2, rv m2, iv 1, iv 1, uu] [(.int 1)])
      refine oWk.st (fun _ kt => XS.goto X.here hx rfl (pc0 := 120) (pc' := 124) rfl (hb hby at_120) (by decide) (by decide) kt) ?_
      show oWk _ _ _ _ T (mkF m 124 #[iv p0, iv p1, iv 2, iv 2, rv m2, rv m2, iv 1, iv 1, uu] [(.int 1)])
      refine oWk.st (fun _ kt => XS.istore X.here hx rfl (hb hby at_124) rfl (l' := #[iv p0, iv p1, iv 2, iv 2, rv m2, rv m2, iv 1, iv 1, iv 1]) rfl kt) ?_
      show oWk _ _ _ _ T (mkF m 126 #[iv p0, iv p1, iv 2, iv 2, rv m2, rv m2, iv 1, iv 1, iv 1] [])
      refine oWk.st (fun _ kt => XS.iload X.here hx rfl (hb hby at_126) rfl kt) ?_
      show oWk _ _ _ _ T (mkF m 128 #[iv p0, iv p1, iv 2, iv 2, rv m2, rv m2, iv 1, iv 1, iv 1] [(.int 1)])
      refine oWk.st (fun _ kt => XS.ifNo X.here hx rfl (hb hby at_128) rfl ((if0 _ _).trans (feq (by decide)).1) kt) ?_
      show oWk _ _ _ _ T (mkF m 131 #[iv p0, iv p1, iv 2, iv 2, rv m2, rv m2, iv 1, iv 1, iv 1] [])
      refine oWk.st (fun _ kt => XS.iload X.here hx rfl (hb hby at_131) rfl kt) ?_
      show oWk _ _ _ _ T (mkF m 133 #[iv p0, iv p1, iv 2, iv 2, rv m2, rv m2, iv 1, iv 1, iv 1] [(.int 1)])
      refine oWk.st (fun _ kt => XS.ifNo X.here hx rfl (hb hby at_133) rfl ((if0 _ _).trans (feq (by decide)).1) kt) ?_
      show oWk _ _ _ _ T (mkF m 136 #[iv p0, iv p1, iv 2, iv 2, rv m2, rv m2, iv 1, iv 1, iv 1] [])
      refine oWk.st (fun _ kt => XS.iload X.here hx rfl (hb hby at_136) rfl kt) ?_
      show oWk _ _ _ _ T (mkF m 138 #[iv p0, iv p1, iv 2, iv 2, rv m2, rv m2, iv 1, iv 1, iv 1] [(.int 1)])
      refine oWk.st (fun _ kt => XS.ifNo X.here hx rfl (hb hby at_138) rfl ((if0 _ _).trans (feq (by decide)).1) kt) ?_
      show oWk _ _ _ _ T (mkF m 141 #[iv p0, iv p1, iv 2, iv 2, rv m2, rv m2, iv 1, iv 1, iv 1] [])
      refine oWk.st (fun _ kt => XS.iconst X.here hx rfl (hb hby at_141) kt) ?_
      show oWk _ _ _ _ T (mkF m 142 #[iv p0, iv p1, iv 2, iv 2, rv m2, rv m2, iv 1, iv 1, iv 1] [(.int 1)])
      refine oWk.st (fun _ kt => XS.goto X.here hx rfl (pc0 := 142) (pc' := 146) rfl (hb hby at_142) (by decide) (by decide) kt) ?_
      show oWk _ _ _ _ T (mkF m 146 #[iv p0, iv p1, iv 2, iv 2, rv m2, rv m2, iv 1, iv 1, iv 1] [(.int 1)])
      exact oRetZ X hx hlk hret (hb hby at_146) (Or.inr rfl) (by rw [e0]; exact ⟨rfl, K.fr⟩) (by decide) (by decide)
    · show oWk _ _ _ _ T (mkF m 17 #[iv p0, iv p1, iv 2, uu, uu, uu, uu, uu, uu] [(.int 3)])
      refine oWk.st (fun _ kt => XS.istoreN X.here hx rfl (hb hby at_17) rfl (l' := #[iv p0, iv p1, iv 2, iv 3, uu, uu, uu, uu, uu]) rfl kt) ?_
      show oWk _ _ _ _ T (mkF m 18 #[iv p0, iv p1, iv 2, iv 3, uu, uu, uu, uu, uu] [])
      refine oWk.st (fun _ kt => XS.iloadN X.here hx rfl (hb hby at_18) rfl kt) ?_
      show oWk _ _ _ _ T (mkF m 19 #[iv p0, iv p1, iv 2, iv 3, uu, uu, uu, uu, uu] [(.int 2)])
      have Oh := K.old O0 all0
      obtain ⟨_, _, ⟨T, L62, k62, n62⟩, -, X, ⟨Lc62, hQ, l62, y62, z62⟩, st⟩ := Jvm.LawKit.callS X hx (y := yy0) hown (mvT hZ (oW hw 1 rfl)) (mvT hZ (oW hw 2 rfl)) (mvT hZ (oW hw 3 rfl)) (mvT hZ (oW hw 4 rfl)) (by decide) (backOf (W := 0) (rHV2 l Z a0 hw [] m2 h0 Oh S_HEADING_PARENT_VALUE) hZ (oW hw 4 rfl) (oW hw 3 rfl) (by decide) (by decide)) (g := (mkF m 19 #[iv p0, iv p1, iv 2, iv 3, uu, uu, uu, uu, uu] [(.int 2)])) rfl (by rw [hml]; rfl) (argsL := [(.int (2 : Int32))]) (rest := []) (lenOf pd_0 rfl) rfl (by show 2 * 0 + _ ≤ _; exact Nat.le_of_eq rfl) (hb hby at_19) (fun _ _ => ⟨rfl, e0, (by decide : 0 + 0 ≤ _), (by decide : 0 + 0 ≤ _)⟩)
      dsimp only [Pt.U, Pt.locs, Pt.cells, Pt.slots] at X l62 y62 z62 st hQ
      subst l62 y62 z62
      obtain ⟨rfl, e0, K61⟩ := hQ
      have K := K.call K61 all0
      rw [e0] at K
      refine oWk.st st ?_
      show oWk _ _ _ _ T (mkF m 22 #[iv p0, iv p1, iv 2, iv 3, uu, uu, uu, uu, uu] [(.ref m2)])
      refine oWk.st (fun _ kt => XS.astore X.here hx rfl (hb hby at_22) rfl rfl (l' := #[iv p0, iv p1, iv 2, iv 3, rv m2, uu, uu, uu, uu]) rfl kt) ?_
      show oWk _ _ _ _ T (mkF m 24 #[iv p0, iv p1, iv 2, iv 3, rv m2, uu, uu, uu, uu] [])
      refine oWk.st (fun _ kt => XS.iloadN X.here hx rfl (hb hby at_24) rfl kt) ?_
      show oWk _ _ _ _ T (mkF m 25 #[iv p0, iv p1, iv 2, iv 3, rv m2, uu, uu, uu, uu] [(.int 3)])
      have Oh := K.old O0 all0
      obtain ⟨_, _, ⟨T, L64, k64, n64⟩, -, X, ⟨Lc64, hQ, l64, y64, z64⟩, st⟩ := Jvm.LawKit.callS X hx (y := yy0) hown (mvT hZ (oW hw 1 rfl)) (mvT hZ (oW hw 2 rfl)) (mvT hZ (oW hw 3 rfl)) (mvT hZ (oW hw 4 rfl)) (by decide) (backOf (W := 0) (rHV3 l Z a0 hw [] m3 h0 Oh S_HEADING_ALL_VALUE) hZ (oW hw 4 rfl) (oW hw 3 rfl) (by decide) (by decide)) (g := (mkF m 25 #[iv p0, iv p1, iv 2, iv 3, rv m2, uu, uu, uu, uu] [(.int 3)])) rfl (by rw [hml]; rfl) (argsL := [(.int (3 : Int32))]) (rest := []) (lenOf pd_0 rfl) rfl (by show 2 * 0 + _ ≤ _; exact Nat.le_of_eq rfl) (hb hby at_25) (fun _ _ => ⟨rfl, e0, (by decide : 0 + 0 ≤ _), (by decide : 0 + 0 ≤ _)⟩)
      dsimp only [Pt.U, Pt.locs, Pt.cells, Pt.slots] at X l64 y64 z64 st hQ
      subst l64 y64 z64
      obtain ⟨rfl, e0, K63⟩ := hQ
      have K := K.call K63 all0
      rw [e0] at K
      refine oWk.st st ?_
      show oWk _ _ _ _ T (mkF m 28 #[iv p0, iv p1, iv 2, iv 3, rv m2, uu, uu, uu, uu] [(.ref m3)])
      refine oWk.st (fun _ kt => XS.astore X.here hx rfl (hb hby at_28) rfl rfl (l' := #[iv p0, iv p1, iv 2, iv 3, rv m2, rv m3, uu, uu, uu]) rfl kt) ?_
      show oWk _ _ _ _ T (mkF m 30 #[iv p0, iv p1, iv 2, iv 3, rv m2, rv m3, uu, uu, uu] [])
      refine oWk.st (fun _ kt => XS.aload X.here hx rfl (hb hby at_30) rfl rfl kt) ?_
      show oWk _ _ _ _ T (mkF m 32 #[iv p0, iv p1, iv 2, iv 3, rv m2, rv m3, uu, uu, uu] [(.ref m2)])
      refine oWk.st (fun _ kt => XS.iloadN X.here hx rfl (hb hby at_32) rfl kt) ?_
      show oWk _ _ _ _ T (mkF m 33 #[iv p0, iv p1, iv 2, iv 3, rv m2, rv m3, uu, uu, uu] [(.int 2), (.ref m2)])
      have Oh := K.old O0 all0
      obtain ⟨_, _, ⟨T, L66, k66, n66⟩, -, X, ⟨Lc66, hQ, l66, y66, z66⟩, st⟩ := Jvm.LawKit.callS X hx (y := yy1) hown (mvT hZ (oW hw 7 rfl)) (mvT hZ (oW hw 8 rfl)) (mvT hZ (oW hw 9 rfl)) (mvT hZ (oW hw 10 rfl)) (by decide) (backOf (W := 1) (rEX2 l Z a0 hw [] m2 h0 Oh S_HEADING_PARENT_VALUE) hZ (oW hw 10 rfl) (oW hw 9 rfl) (by decide) (by decide)) (g := (mkF m 33 #[iv p0, iv p1, iv 2, iv 3, rv m2, rv m3, uu, uu, uu] [(.int 2), (.ref m2)])) rfl (by rw [hml]; rfl) (argsL := [(.int (2 : Int32))]) (rest := [(.ref m2)]) (lenOf pd_0 rfl) rfl (by show 2 * 0 + _ ≤ _; exact Nat.le_of_eq rfl) (hb hby at_33) (fun _ _ => ⟨rfl, e0, (by decide : 0 + 0 ≤ _), (by decide : 0 + 0 ≤ _)⟩)
      dsimp only [Pt.U, Pt.locs, Pt.cells, Pt.slots] at X l66 y66 z66 st hQ
      subst l66 y66 z66
      obtain ⟨rfl, e0, K65⟩ := hQ
      have K := K.call K65 all0
      rw [e0] at K
      refine oWk.st st ?_
      show oWk _ _ _ _ T (mkF m 36 #[iv p0, iv p1, iv 2, iv 3, rv m2, rv m3, uu, uu, uu] [(.ref m2), (.ref m2)])
      refine oWk.st (fun _ kt => Jvm.RoadKit.acmp (g := (mkF m 36 #[iv p0, iv p1, iv 2, iv 3, rv m2, rv m3, uu, uu, uu] [(.ref m2), (.ref m2)])) X hx rfl rfl rfl (pc0 := 36) (pc' := 39) (same := true) rfl (hb hby at_36) rfl (decide_eq_true rfl) (by decide) (by decide) kt) ?_
      show oWk _ _ _ _ T (mkF m 39 #[iv p0, iv p1, iv 2, iv 3, rv m2, rv m3, uu, uu, uu] [])
      refine oWk.st (fun _ kt => XS.aload X.here hx rfl (hb hby at_39) rfl rfl kt) ?_
      show oWk _ _ _ _ T (mkF m 41 #[iv p0, iv p1, iv 2, iv 3, rv m2, rv m3, uu, uu, uu] [(.ref m3)])
      refine oWk.st (fun _ kt => XS.iloadN X.here hx rfl (hb hby at_41) rfl kt) ?_
      show oWk _ _ _ _ T (mkF m 42 #[iv p0, iv p1, iv 2, iv 3, rv m2, rv m3, uu, uu, uu] [(.int 3), (.ref m3)])
      have Oh := K.old O0 all0
      obtain ⟨_, _, ⟨T, L68, k68, n68⟩, -, X, ⟨Lc68, hQ, l68, y68, z68⟩, st⟩ := Jvm.LawKit.callS X hx (y := yy1) hown (mvT hZ (oW hw 7 rfl)) (mvT hZ (oW hw 8 rfl)) (mvT hZ (oW hw 9 rfl)) (mvT hZ (oW hw 10 rfl)) (by decide) (backOf (W := 1) (rEX3 l Z a0 hw [] m3 h0 Oh S_HEADING_ALL_VALUE) hZ (oW hw 10 rfl) (oW hw 9 rfl) (by decide) (by decide)) (g := (mkF m 42 #[iv p0, iv p1, iv 2, iv 3, rv m2, rv m3, uu, uu, uu] [(.int 3), (.ref m3)])) rfl (by rw [hml]; rfl) (argsL := [(.int (3 : Int32))]) (rest := [(.ref m3)]) (lenOf pd_0 rfl) rfl (by show 2 * 0 + _ ≤ _; exact Nat.le_of_eq rfl) (hb hby at_42) (fun _ _ => ⟨rfl, e0, (by decide : 0 + 0 ≤ _), (by decide : 0 + 0 ≤ _)⟩)
      dsimp only [Pt.U, Pt.locs, Pt.cells, Pt.slots] at X l68 y68 z68 st hQ
      subst l68 y68 z68
      obtain ⟨rfl, e0, K67⟩ := hQ
      have K := K.call K67 all0
      rw [e0] at K
      refine oWk.st st ?_
      show oWk _ _ _ _ T (mkF m 45 #[iv p0, iv p1, iv 2, iv 3, rv m2, rv m3, uu, uu, uu] [(.ref m3), (.ref m3)])
      refine oWk.st (fun _ kt => Jvm.RoadKit.acmp (g := (mkF m 45 #[iv p0, iv p1, iv 2, iv 3, rv m2, rv m3, uu, uu, uu] [(.ref m3), (.ref m3)])) X hx rfl rfl rfl (pc0 := 45) (pc' := 48) (same := true) rfl (hb hby at_45) rfl (decide_eq_true rfl) (by decide) (by decide) kt) ?_
      show oWk _ _ _ _ T (mkF m 48 #[iv p0, iv p1, iv 2, iv 3, rv m2, rv m3, uu, uu, uu] [])
      refine oWk.st (fun _ kt => XS.iconst X.here hx rfl (hb hby at_48) kt) ?_
      show oWk _ _ _ _ T (mkF m 49 #[iv p0, iv p1, iv 2, iv 3, rv m2, rv m3, uu, uu, uu] [(.int 1)])
      refine oWk.st (fun _ kt => XS.goto X.here hx rfl (pc0 := 49) (pc' := 53) rfl (hb hby at_49) (by decide) (by decide) kt) ?_
      show oWk _ _ _ _ T (mkF m 53 #[iv p0, iv p1, iv 2, iv 3, rv m2, rv m3, uu, uu, uu] [(.int 1)])
      refine oWk.st (fun _ kt => XS.istore X.here hx rfl (hb hby at_53) rfl (l' := #[iv p0, iv p1, iv 2, iv 3, rv m2, rv m3, iv 1, uu, uu]) rfl kt) ?_
      show oWk _ _ _ _ T (mkF m 55 #[iv p0, iv p1, iv 2, iv 3, rv m2, rv m3, iv 1, uu, uu] [])
      refine oWk.st (fun _ kt => XS.iloadN X.here hx rfl (hb hby at_55) rfl kt) ?_
      show oWk _ _ _ _ T (mkF m 56 #[iv p0, iv p1, iv 2, iv 3, rv m2, rv m3, iv 1, uu, uu] [(.int 2)])
      refine oWk.st (fun _ kt => XS.iloadN X.here hx rfl (hb hby at_56) rfl kt) ?_
      show oWk _ _ _ _ T (mkF m 57 #[iv p0, iv p1, iv 2, iv 3, rv m2, rv m3, iv 1, uu, uu] [(.int 3), (.int 2)])
      refine oWk.st (fun _ kt => XS.icmpYes X.here hx rfl (pc0 := 57) (pc' := 64) rfl (hb hby at_57) rfl (feq (by decide)).2 (by decide) (by decide) kt) ?_
      show oWk _ _ _ _ T (mkF m 64 #[iv p0, iv p1, iv 2, iv 3, rv m2, rv m3, iv 1, uu, uu] [])
      refine oWk.st (fun _ kt => XS.iconst X.here hx rfl (hb hby at_64) kt) ?_
      show oWk _ _ _ _ T (mkF m 65 #[iv p0, iv p1, iv 2, iv 3, rv m2, rv m3, iv 1, uu, uu] [(.int 0)])
      refine oWk.st (fun _ kt => XS.aload X.here hx rfl (hb hby at_65) rfl rfl kt) ?_
      show oWk _ _ _ _ T (mkF m 67 #[iv p0, iv p1, iv 2, iv 3, rv m2, rv m3, iv 1, uu, uu] [(.ref m2), (.int 0)])
      refine oWk.st (fun _ kt => XS.aload X.here hx rfl (hb hby at_67) rfl rfl kt) ?_
      show oWk _ _ _ _ T (mkF m 69 #[iv p0, iv p1, iv 2, iv 3, rv m2, rv m3, iv 1, uu, uu] [(.ref m3), (.ref m2), (.int 0)])
      refine oWk.st (fun _ kt => Jvm.RoadKit.acmp (g := (mkF m 69 #[iv p0, iv p1, iv 2, iv 3, rv m2, rv m3, iv 1, uu, uu] [(.ref m3), (.ref m2), (.int 0)])) X hx rfl rfl rfl (pc0 := 69) (pc' := 76) (same := false) rfl (hb hby at_69) rfl (decide_eq_false fun q => ne_m2_m3 (Value.ref.inj q)) (by decide) (by decide) kt) ?_
      show oWk _ _ _ _ T (mkF m 76 #[iv p0, iv p1, iv 2, iv 3, rv m2, rv m3, iv 1, uu, uu] [(.int 0)])
      refine oWk.st (fun _ kt => XS.iconst X.here hx rfl (hb hby at_76) kt) ?_
      show oWk _ _ _ _ T (mkF m 77 #[iv p0, iv p1, iv 2, iv 3, rv m2, rv m3, iv 1, uu, uu] [(.int 0), (.int 0)])
      refine oWk.st (fun _ kt => XS.icmpNo X.here hx rfl (hb hby at_77) rfl (teq (by decide)).2 kt) ?_
      show oWk _ _ _ _ T (mkF m 80 #[iv p0, iv p1, iv 2, iv 3, rv m2, rv m3, iv 1, uu, uu] [])
      refine oWk.st (fun _ kt => XS.iconst X.here hx rfl (hb hby at_80) kt) ?_
      show oWk _ _ _ _ T (mkF m 81 #[iv p0, iv p1, iv 2, iv 3, rv m2, rv m3, iv 1, uu, uu] [(.int 1)])
      refine oWk.st (fun _ kt => XS.goto X.here hx rfl (pc0 := 81) (pc' := 85) rfl (hb hby at_81) (by decide) (by decide) kt) ?_
      show oWk _ _ _ _ T (mkF m 85 #[iv p0, iv p1, iv 2, iv 3, rv m2, rv m3, iv 1, uu, uu] [(.int 1)])
      refine oWk.st (fun _ kt => XS.istore X.here hx rfl (hb hby at_85) rfl (l' := #[iv p0, iv p1, iv 2, iv 3, rv m2, rv m3, iv 1, iv 1, uu]) rfl kt) ?_
      show oWk _ _ _ _ T (mkF m 87 #[iv p0, iv p1, iv 2, iv 3, rv m2, rv m3, iv 1, iv 1, uu] [])
      refine oWk.st (fun _ kt => XS.iloadN X.here hx rfl (hb hby at_87) rfl kt) ?_
      show oWk _ _ _ _ T (mkF m 88 #[iv p0, iv p1, iv 2, iv 3, rv m2, rv m3, iv 1, iv 1, uu] [(.int 2)])
      refine oWk.st (fun _ kt => XS.iloadN X.here hx rfl (hb hby at_88) rfl kt) ?_
      show oWk _ _ _ _ T (mkF m 89 #[iv p0, iv p1, iv 2, iv 3, rv m2, rv m3, iv 1, iv 1, uu] [(.int 3), (.int 2)])
      refine oWk.st (fun _ kt => XS.icmpNo X.here hx rfl (hb hby at_89) rfl (tlt (by decide)).2.1 kt) ?_
      show oWk _ _ _ _ T (mkF m 92 #[iv p0, iv p1, iv 2, iv 3, rv m2, rv m3, iv 1, iv 1, uu] [])
      refine oWk.st (fun _ kt => XS.iconst X.here hx rfl (hb hby at_92) kt) ?_
      show oWk _ _ _ _ T (mkF m 93 #[iv p0, iv p1, iv 2, iv 3, rv m2, rv m3, iv 1, iv 1, uu] [(.int 1)])
      refine oWk.st (fun _ kt => XS.goto X.here hx rfl (pc0 := 93) (pc' := 97) rfl (hb hby at_93) (by decide) (by decide) kt) ?_
      show oWk _ _ _ _ T (mkF m 97 #[iv p0, iv p1, iv 2, iv 3, rv m2, rv m3, iv 1, iv 1, uu] [(.int 1)])
      refine oWk.st (fun _ kt => XS.aload X.here hx rfl (hb hby at_97) rfl rfl kt) ?_
      show oWk _ _ _ _ T (mkF m 99 #[iv p0, iv p1, iv 2, iv 3, rv m2, rv m3, iv 1, iv 1, uu] [(.ref m2), (.int 1)])
      have Oh := K.old O0 all0
      obtain ⟨cq70, kq70, q70a, q70b, q70c⟩ := isOf hZ e0 E_m2
      obtain ⟨_, _, ⟨T, L70, k70, n70⟩, -, X, ⟨Lc70, hQ, l70, y70, z70⟩, st⟩ := X.virtualBack hx (y := yy2) (z := yy2) hown (mvT hZ (oW hw 12 rfl)) (mvT hZ (oW hw 13 rfl)) (notFace_of_selects (args := #[]) (mvT hZ (oW hw 15 rfl))) (mvT hZ (oW hw 15 rfl)) (mvT hZ (oW hw 14 rfl)) (by decide) (backOf (W := 1) (rDV l Z a0 hw [] m2 (4608083138725491507 : UInt64) h0 Oh F_defaultValue_m2) hZ (oW hw 16 rfl) (oW hw 3 rfl) (by decide) (by decide)) q70a q70c (g := (mkF m 99 #[iv p0, iv p1, iv 2, iv 3, rv m2, rv m3, iv 1, iv 1, uu] [(.ref m2), (.int 1)])) rfl (by rw [hml]; rfl) (Steps.refl _) (argsL := []) (rest := [(.int (1 : Int32))]) (lenOf pd_1 rfl) rfl (by show 2 * 0 + _ ≤ _; exact Nat.le_of_eq rfl) (hb hby at_99) (fun _ _ => ⟨rfl, e0, (by decide : 0 + 0 ≤ _), (by decide : 0 + 0 ≤ _)⟩)
      dsimp only [Pt.U, Pt.locs, Pt.cells, Pt.slots] at X l70 y70 z70 st hQ
      subst l70 y70 z70
      obtain ⟨rfl, e0, K69⟩ := hQ
      have K := K.call K69 all0
      rw [e0] at K
      refine oWk.tr st ?_
      show oWk _ _ _ _ T (mkF m 102 #[iv p0, iv p1, iv 2, iv 3, rv m2, rv m3, iv 1, iv 1, uu] [(.double (4608083138725491507 : UInt64)), (.int 1)])
      refine oWk.st (fun _ kt => XS.aload X.here hx rfl (hb hby at_102) rfl rfl kt) ?_
      show oWk _ _ _ _ T (mkF m 104 #[iv p0, iv p1, iv 2, iv 3, rv m2, rv m3, iv 1, iv 1, uu] [(.ref m3), (.double (4608083138725491507 : UInt64)), (.int 1)])
      have Oh := K.old O0 all0
      obtain ⟨cq72, kq72, q72a, q72b, q72c⟩ := isOf hZ e0 E_m3
      obtain ⟨_, _, ⟨T, L72, k72, n72⟩, -, X, ⟨Lc72, hQ, l72, y72, z72⟩, st⟩ := X.virtualBack hx (y := yy2) (z := yy2) hown (mvT hZ (oW hw 12 rfl)) (mvT hZ (oW hw 13 rfl)) (notFace_of_selects (args := #[]) (mvT hZ (oW hw 15 rfl))) (mvT hZ (oW hw 15 rfl)) (mvT hZ (oW hw 14 rfl)) (by decide) (backOf (W := 3) (rDV l Z a0 hw [] m3 (4607632778762754458 : UInt64) h0 Oh F_defaultValue_m3) hZ (oW hw 16 rfl) (oW hw 3 rfl) (by decide) (by decide)) q72a q72c (g := (mkF m 104 #[iv p0, iv p1, iv 2, iv 3, rv m2, rv m3, iv 1, iv 1, uu] [(.ref m3), (.double (4608083138725491507 : UInt64)), (.int 1)])) rfl (by rw [hml]; rfl) (Steps.refl _) (argsL := []) (rest := [(.double (4608083138725491507 : UInt64)), (.int (1 : Int32))]) (lenOf pd_1 rfl) rfl (by show 2 * 0 + _ ≤ _; exact Nat.le_of_eq rfl) (hb hby at_104) (fun _ _ => ⟨rfl, e0, (by decide : 0 + 0 ≤ _), (by decide : 0 + 0 ≤ _)⟩)
      dsimp only [Pt.U, Pt.locs, Pt.cells, Pt.slots] at X l72 y72 z72 st hQ
      subst l72 y72 z72
      obtain ⟨rfl, e0, K71⟩ := hQ
      have K := K.call K71 all0
      rw [e0] at K
      refine oWk.tr st ?_
      show oWk _ _ _ _ T (mkF m 107 #[iv p0, iv p1, iv 2, iv 3, rv m2, rv m3, iv 1, iv 1, uu] [(.double (4607632778762754458 : UInt64)), (.double (4608083138725491507 : UInt64)), (.int 1)])
      refine oWk.st (fun _ kt => XS.dcmpS X.here hx rfl (v := (1 : Int32)) (hb hby at_107) rfl (by decide +kernel) kt) ?_
      show oWk _ _ _ _ T (mkF m 108 #[iv p0, iv p1, iv 2, iv 3, rv m2, rv m3, iv 1, iv 1, uu] [(.int 1), (.int 1)])
      refine oWk.st (fun _ kt => XS.ifNo X.here hx rfl (hb hby at_108) rfl ((if0 _ _).trans (tlt (by decide)).2.2.2) kt) ?_
      show oWk _ _ _ _ T (mkF m 111 #[iv p0, iv p1, iv 2, iv 3, rv m2, rv m3, iv 1, iv 1, uu] [(.int 1)])
      refine oWk.st (fun _ kt => XS.iconst X.here hx rfl (hb hby at_111) kt) ?_
      show oWk _ _ _ _ T (mkF m 112 #[iv p0, iv p1, iv 2, iv 3, rv m2, rv m3, iv 1, iv 1, uu] [(.int 1), (.int 1)])
      refine oWk.st (fun _ kt => XS.goto X.here hx rfl (pc0 := 112) (pc' := 116) rfl (hb hby at_112) (by decide) (by decide) kt) ?_
      show oWk _ _ _ _ T (mkF m 116 #[iv p0, iv p1, iv 2, iv 3, rv m2, rv m3, iv 1, iv 1, uu] [(.int 1), (.int 1)])
      refine oWk.st (fun _ kt => XS.icmpNo X.here hx rfl (hb hby at_116) rfl (teq (by decide)).2 kt) ?_
      show oWk _ _ _ _ T (mkF m 119 #[iv p0, iv p1, iv 2, iv 3, rv m2, rv m3, iv 1, iv 1, uu] [])
      refine oWk.st (fun _ kt => XS.iconst X.here hx rfl (hb hby at_119) kt) ?_
      show oWk _ _ _ _ T (mkF m 120 #[iv p0, iv p1, iv 2, iv 3, rv m2, rv m3, iv 1, iv 1, uu] [(.int 1)])
      refine oWk.st (fun _ kt => XS.goto X.here hx rfl (pc0 := 120) (pc' := 124) rfl (hb hby at_120) (by decide) (by decide) kt) ?_
      show oWk _ _ _ _ T (mkF m 124 #[iv p0, iv p1, iv 2, iv 3, rv m2, rv m3, iv 1, iv 1, uu] [(.int 1)])
      refine oWk.st (fun _ kt => XS.istore X.here hx rfl (hb hby at_124) rfl (l' := #[iv p0, iv p1, iv 2, iv 3, rv m2, rv m3, iv 1, iv 1, iv 1]) rfl kt) ?_
      show oWk _ _ _ _ T (mkF m 126 #[iv p0, iv p1, iv 2, iv 3, rv m2, rv m3, iv 1, iv 1, iv 1] [])
      refine oWk.st (fun _ kt => XS.iload X.here hx rfl (hb hby at_126) rfl kt) ?_
      show oWk _ _ _ _ T (mkF m 128 #[iv p0, iv p1, iv 2, iv 3, rv m2, rv m3, iv 1, iv 1, iv 1] [(.int 1)])
      refine oWk.st (fun _ kt => XS.ifNo X.here hx rfl (hb hby at_128) rfl ((if0 _ _).trans (feq (by decide)).1) kt) ?_
      show oWk _ _ _ _ T (mkF m 131 #[iv p0, iv p1, iv 2, iv 3, rv m2, rv m3, iv 1, iv 1, iv 1] [])
      refine oWk.st (fun _ kt => XS.iload X.here hx rfl (hb hby at_131) rfl kt) ?_
      show oWk _ _ _ _ T (mkF m 133 #[iv p0, iv p1, iv 2, iv 3, rv m2, rv m3, iv 1, iv 1, iv 1] [(.int 1)])
      refine oWk.st (fun _ kt => XS.ifNo X.here hx rfl (hb hby at_133) rfl ((if0 _ _).trans (feq (by decide)).1) kt) ?_
      show oWk _ _ _ _ T (mkF m 136 #[iv p0, iv p1, iv 2, iv 3, rv m2, rv m3, iv 1, iv 1, iv 1] [])
      refine oWk.st (fun _ kt => XS.iload X.here hx rfl (hb hby at_136) rfl kt) ?_
      show oWk _ _ _ _ T (mkF m 138 #[iv p0, iv p1, iv 2, iv 3, rv m2, rv m3, iv 1, iv 1, iv 1] [(.int 1)])
      refine oWk.st (fun _ kt => XS.ifNo X.here hx rfl (hb hby at_138) rfl ((if0 _ _).trans (feq (by decide)).1) kt) ?_
      show oWk _ _ _ _ T (mkF m 141 #[iv p0, iv p1, iv 2, iv 3, rv m2, rv m3, iv 1, iv 1, iv 1] [])
      refine oWk.st (fun _ kt => XS.iconst X.here hx rfl (hb hby at_141) kt) ?_
      show oWk _ _ _ _ T (mkF m 142 #[iv p0, iv p1, iv 2, iv 3, rv m2, rv m3, iv 1, iv 1, iv 1] [(.int 1)])
      refine oWk.st (fun _ kt => XS.goto X.here hx rfl (pc0 := 142) (pc' := 146) rfl (hb hby at_142) (by decide) (by decide) kt) ?_
      show oWk _ _ _ _ T (mkF m 146 #[iv p0, iv p1, iv 2, iv 3, rv m2, rv m3, iv 1, iv 1, iv 1] [(.int 1)])
      exact oRetZ X hx hlk hret (hb hby at_146) (Or.inr rfl) (by rw [e0]; exact ⟨rfl, K.fr⟩) (by decide) (by decide)
  · show oWk _ _ _ _ T (mkF m 8 #[iv p0, iv p1, uu, uu, uu, uu, uu, uu, uu] [(.int 3)])
    refine oWk.st (fun _ kt => XS.istoreN X.here hx rfl (hb hby at_8) rfl (l' := #[iv p0, iv p1, iv 3, uu, uu, uu, uu, uu, uu]) rfl kt) ?_
    show oWk _ _ _ _ T (mkF m 9 #[iv p0, iv p1, iv 3, uu, uu, uu, uu, uu, uu] [])
    refine oWk.st (fun _ kt => XS.iloadN X.here hx rfl (hb hby at_9) rfl kt) ?_
    show oWk _ _ _ _ T (mkF m 10 #[iv p0, iv p1, iv 3, uu, uu, uu, uu, uu, uu] [(.int p1)])
    refine oWk.st (fun _ kt => X.ldcI hx hown (mvT hZ (oW hw 0 rfl)) rfl (hb hby at_10) kt) ?_
    show oWk _ _ _ _ T (mkF m 12 #[iv p0, iv p1, iv 3, uu, uu, uu, uu, uu, uu] [(.int 2147483647), (.int p1)])
    refine oWk.st (fun _ kt => XS.iand X.here hx rfl (hb hby at_12) rfl kt) ?_
    show oWk _ _ _ _ T (mkF m 13 #[iv p0, iv p1, iv 3, uu, uu, uu, uu, uu, uu] [(.int (p1 &&& (2147483647 : Int32)))])
    refine oWk.st (fun _ kt => XS.iconst X.here hx rfl (hb hby at_13) kt) ?_
    show oWk _ _ _ _ T (mkF m 14 #[iv p0, iv p1, iv 3, uu, uu, uu, uu, uu, uu] [(.int 3), (.int (p1 &&& (2147483647 : Int32)))])
    refine oWk.st (fun _ kt => iremM X hx rfl (hb hby at_14) rfl (by decide) kt) ?_
    show oWk _ _ _ _ T (mkF m 15 #[iv p0, iv p1, iv 3, uu, uu, uu, uu, uu, uu] [(.int ((p1 &&& (2147483647 : Int32)) % (3 : Int32)))])
    refine oWk.st (fun _ kt => XS.iconst X.here hx rfl (hb hby at_15) kt) ?_
    show oWk _ _ _ _ T (mkF m 16 #[iv p0, iv p1, iv 3, uu, uu, uu, uu, uu, uu] [(.int 1), (.int ((p1 &&& (2147483647 : Int32)) % (3 : Int32)))])
    refine oWk.st (fun _ kt => XS.iadd X.here hx rfl (hb hby at_16) rfl kt) ?_
    show oWk _ _ _ _ T (mkF m 17 #[iv p0, iv p1, iv 3, uu, uu, uu, uu, uu, uu] [(.int (((p1 &&& (2147483647 : Int32)) % (3 : Int32)) + (1 : Int32)))])
    generalize hb_ : (((p1 &&& (2147483647 : Int32)) % (3 : Int32)) + (1 : Int32)) = bv
    show oWk _ _ _ _ T (mkF m 17 #[iv p0, iv p1, iv 3, uu, uu, uu, uu, uu, uu] [(.int bv)])
    have cbv := oThree hb_
    rcases cbv with rfl | rfl | rfl
    · show oWk _ _ _ _ T (mkF m 17 #[iv p0, iv p1, iv 3, uu, uu, uu, uu, uu, uu] [(.int 1)])
      refine oWk.st (fun _ kt => XS.istoreN X.here hx rfl (hb hby at_17) rfl (l' := #[iv p0, iv p1, iv 3, iv 1, uu, uu, uu, uu, uu]) rfl kt) ?_
      show oWk _ _ _ _ T (mkF m 18 #[iv p0, iv p1, iv 3, iv 1, uu, uu, uu, uu, uu] [])
      refine oWk.st (fun _ kt => XS.iloadN X.here hx rfl (hb hby at_18) rfl kt) ?_
      show oWk _ _ _ _ T (mkF m 19 #[iv p0, iv p1, iv 3, iv 1, uu, uu, uu, uu, uu] [(.int 3)])
      have Oh := K.old O0 all0
      obtain ⟨_, _, ⟨T, L74, k74, n74⟩, -, X, ⟨Lc74, hQ, l74, y74, z74⟩, st⟩ := Jvm.LawKit.callS X hx (y := yy0) hown (mvT hZ (oW hw 1 rfl)) (mvT hZ (oW hw 2 rfl)) (mvT hZ (oW hw 3 rfl)) (mvT hZ (oW hw 4 rfl)) (by decide) (backOf (W := 0) (rHV3 l Z a0 hw [] m3 h0 Oh S_HEADING_ALL_VALUE) hZ (oW hw 4 rfl) (oW hw 3 rfl) (by decide) (by decide)) (g := (mkF m 19 #[iv p0, iv p1, iv 3, iv 1, uu, uu, uu, uu, uu] [(.int 3)])) rfl (by rw [hml]; rfl) (argsL := [(.int (3 : Int32))]) (rest := []) (lenOf pd_0 rfl) rfl (by show 2 * 0 + _ ≤ _; exact Nat.le_of_eq rfl) (hb hby at_19) (fun _ _ => ⟨rfl, e0, (by decide : 0 + 0 ≤ _), (by decide : 0 + 0 ≤ _)⟩)
      dsimp only [Pt.U, Pt.locs, Pt.cells, Pt.slots] at X l74 y74 z74 st hQ
      subst l74 y74 z74
      obtain ⟨rfl, e0, K73⟩ := hQ
      have K := K.call K73 all0
      rw [e0] at K
      refine oWk.st st ?_
      show oWk _ _ _ _ T (mkF m 22 #[iv p0, iv p1, iv 3, iv 1, uu, uu, uu, uu, uu] [(.ref m3)])
      refine oWk.st (fun _ kt => XS.astore X.here hx rfl (hb hby at_22) rfl rfl (l' := #[iv p0, iv p1, iv 3, iv 1, rv m3, uu, uu, uu, uu]) rfl kt) ?_
      show oWk _ _ _ _ T (mkF m 24 #[iv p0, iv p1, iv 3, iv 1, rv m3, uu, uu, uu, uu] [])
      refine oWk.st (fun _ kt => XS.iloadN X.here hx rfl (hb hby at_24) rfl kt) ?_
      show oWk _ _ _ _ T (mkF m 25 #[iv p0, iv p1, iv 3, iv 1, rv m3, uu, uu, uu, uu] [(.int 1)])
      have Oh := K.old O0 all0
      obtain ⟨_, _, ⟨T, L76, k76, n76⟩, -, X, ⟨Lc76, hQ, l76, y76, z76⟩, st⟩ := Jvm.LawKit.callS X hx (y := yy0) hown (mvT hZ (oW hw 1 rfl)) (mvT hZ (oW hw 2 rfl)) (mvT hZ (oW hw 3 rfl)) (mvT hZ (oW hw 4 rfl)) (by decide) (backOf (W := 0) (rHV1 l Z a0 hw [] m1 h0 Oh S_HEADING_OWN_VALUE) hZ (oW hw 4 rfl) (oW hw 3 rfl) (by decide) (by decide)) (g := (mkF m 25 #[iv p0, iv p1, iv 3, iv 1, rv m3, uu, uu, uu, uu] [(.int 1)])) rfl (by rw [hml]; rfl) (argsL := [(.int (1 : Int32))]) (rest := []) (lenOf pd_0 rfl) rfl (by show 2 * 0 + _ ≤ _; exact Nat.le_of_eq rfl) (hb hby at_25) (fun _ _ => ⟨rfl, e0, (by decide : 0 + 0 ≤ _), (by decide : 0 + 0 ≤ _)⟩)
      dsimp only [Pt.U, Pt.locs, Pt.cells, Pt.slots] at X l76 y76 z76 st hQ
      subst l76 y76 z76
      obtain ⟨rfl, e0, K75⟩ := hQ
      have K := K.call K75 all0
      rw [e0] at K
      refine oWk.st st ?_
      show oWk _ _ _ _ T (mkF m 28 #[iv p0, iv p1, iv 3, iv 1, rv m3, uu, uu, uu, uu] [(.ref m1)])
      refine oWk.st (fun _ kt => XS.astore X.here hx rfl (hb hby at_28) rfl rfl (l' := #[iv p0, iv p1, iv 3, iv 1, rv m3, rv m1, uu, uu, uu]) rfl kt) ?_
      show oWk _ _ _ _ T (mkF m 30 #[iv p0, iv p1, iv 3, iv 1, rv m3, rv m1, uu, uu, uu] [])
      refine oWk.st (fun _ kt => XS.aload X.here hx rfl (hb hby at_30) rfl rfl kt) ?_
      show oWk _ _ _ _ T (mkF m 32 #[iv p0, iv p1, iv 3, iv 1, rv m3, rv m1, uu, uu, uu] [(.ref m3)])
      refine oWk.st (fun _ kt => XS.iloadN X.here hx rfl (hb hby at_32) rfl kt) ?_
      show oWk _ _ _ _ T (mkF m 33 #[iv p0, iv p1, iv 3, iv 1, rv m3, rv m1, uu, uu, uu] [(.int 3), (.ref m3)])
      have Oh := K.old O0 all0
      obtain ⟨_, _, ⟨T, L78, k78, n78⟩, -, X, ⟨Lc78, hQ, l78, y78, z78⟩, st⟩ := Jvm.LawKit.callS X hx (y := yy1) hown (mvT hZ (oW hw 7 rfl)) (mvT hZ (oW hw 8 rfl)) (mvT hZ (oW hw 9 rfl)) (mvT hZ (oW hw 10 rfl)) (by decide) (backOf (W := 1) (rEX3 l Z a0 hw [] m3 h0 Oh S_HEADING_ALL_VALUE) hZ (oW hw 10 rfl) (oW hw 9 rfl) (by decide) (by decide)) (g := (mkF m 33 #[iv p0, iv p1, iv 3, iv 1, rv m3, rv m1, uu, uu, uu] [(.int 3), (.ref m3)])) rfl (by rw [hml]; rfl) (argsL := [(.int (3 : Int32))]) (rest := [(.ref m3)]) (lenOf pd_0 rfl) rfl (by show 2 * 0 + _ ≤ _; exact Nat.le_of_eq rfl) (hb hby at_33) (fun _ _ => ⟨rfl, e0, (by decide : 0 + 0 ≤ _), (by decide : 0 + 0 ≤ _)⟩)
      dsimp only [Pt.U, Pt.locs, Pt.cells, Pt.slots] at X l78 y78 z78 st hQ
      subst l78 y78 z78
      obtain ⟨rfl, e0, K77⟩ := hQ
      have K := K.call K77 all0
      rw [e0] at K
      refine oWk.st st ?_
      show oWk _ _ _ _ T (mkF m 36 #[iv p0, iv p1, iv 3, iv 1, rv m3, rv m1, uu, uu, uu] [(.ref m3), (.ref m3)])
      refine oWk.st (fun _ kt => Jvm.RoadKit.acmp (g := (mkF m 36 #[iv p0, iv p1, iv 3, iv 1, rv m3, rv m1, uu, uu, uu] [(.ref m3), (.ref m3)])) X hx rfl rfl rfl (pc0 := 36) (pc' := 39) (same := true) rfl (hb hby at_36) rfl (decide_eq_true rfl) (by decide) (by decide) kt) ?_
      show oWk _ _ _ _ T (mkF m 39 #[iv p0, iv p1, iv 3, iv 1, rv m3, rv m1, uu, uu, uu] [])
      refine oWk.st (fun _ kt => XS.aload X.here hx rfl (hb hby at_39) rfl rfl kt) ?_
      show oWk _ _ _ _ T (mkF m 41 #[iv p0, iv p1, iv 3, iv 1, rv m3, rv m1, uu, uu, uu] [(.ref m1)])
      refine oWk.st (fun _ kt => XS.iloadN X.here hx rfl (hb hby at_41) rfl kt) ?_
      show oWk _ _ _ _ T (mkF m 42 #[iv p0, iv p1, iv 3, iv 1, rv m3, rv m1, uu, uu, uu] [(.int 1), (.ref m1)])
      have Oh := K.old O0 all0
      obtain ⟨_, _, ⟨T, L80, k80, n80⟩, -, X, ⟨Lc80, hQ, l80, y80, z80⟩, st⟩ := Jvm.LawKit.callS X hx (y := yy1) hown (mvT hZ (oW hw 7 rfl)) (mvT hZ (oW hw 8 rfl)) (mvT hZ (oW hw 9 rfl)) (mvT hZ (oW hw 10 rfl)) (by decide) (backOf (W := 1) (rEX1 l Z a0 hw [] m1 h0 Oh S_HEADING_OWN_VALUE) hZ (oW hw 10 rfl) (oW hw 9 rfl) (by decide) (by decide)) (g := (mkF m 42 #[iv p0, iv p1, iv 3, iv 1, rv m3, rv m1, uu, uu, uu] [(.int 1), (.ref m1)])) rfl (by rw [hml]; rfl) (argsL := [(.int (1 : Int32))]) (rest := [(.ref m1)]) (lenOf pd_0 rfl) rfl (by show 2 * 0 + _ ≤ _; exact Nat.le_of_eq rfl) (hb hby at_42) (fun _ _ => ⟨rfl, e0, (by decide : 0 + 0 ≤ _), (by decide : 0 + 0 ≤ _)⟩)
      dsimp only [Pt.U, Pt.locs, Pt.cells, Pt.slots] at X l80 y80 z80 st hQ
      subst l80 y80 z80
      obtain ⟨rfl, e0, K79⟩ := hQ
      have K := K.call K79 all0
      rw [e0] at K
      refine oWk.st st ?_
      show oWk _ _ _ _ T (mkF m 45 #[iv p0, iv p1, iv 3, iv 1, rv m3, rv m1, uu, uu, uu] [(.ref m1), (.ref m1)])
      refine oWk.st (fun _ kt => Jvm.RoadKit.acmp (g := (mkF m 45 #[iv p0, iv p1, iv 3, iv 1, rv m3, rv m1, uu, uu, uu] [(.ref m1), (.ref m1)])) X hx rfl rfl rfl (pc0 := 45) (pc' := 48) (same := true) rfl (hb hby at_45) rfl (decide_eq_true rfl) (by decide) (by decide) kt) ?_
      show oWk _ _ _ _ T (mkF m 48 #[iv p0, iv p1, iv 3, iv 1, rv m3, rv m1, uu, uu, uu] [])
      refine oWk.st (fun _ kt => XS.iconst X.here hx rfl (hb hby at_48) kt) ?_
      show oWk _ _ _ _ T (mkF m 49 #[iv p0, iv p1, iv 3, iv 1, rv m3, rv m1, uu, uu, uu] [(.int 1)])
      refine oWk.st (fun _ kt => XS.goto X.here hx rfl (pc0 := 49) (pc' := 53) rfl (hb hby at_49) (by decide) (by decide) kt) ?_
      show oWk _ _ _ _ T (mkF m 53 #[iv p0, iv p1, iv 3, iv 1, rv m3, rv m1, uu, uu, uu] [(.int 1)])
      refine oWk.st (fun _ kt => XS.istore X.here hx rfl (hb hby at_53) rfl (l' := #[iv p0, iv p1, iv 3, iv 1, rv m3, rv m1, iv 1, uu, uu]) rfl kt) ?_
      show oWk _ _ _ _ T (mkF m 55 #[iv p0, iv p1, iv 3, iv 1, rv m3, rv m1, iv 1, uu, uu] [])
      refine oWk.st (fun _ kt => XS.iloadN X.here hx rfl (hb hby at_55) rfl kt) ?_
      show oWk _ _ _ _ T (mkF m 56 #[iv p0, iv p1, iv 3, iv 1, rv m3, rv m1, iv 1, uu, uu] [(.int 3)])
      refine oWk.st (fun _ kt => XS.iloadN X.here hx rfl (hb hby at_56) rfl kt) ?_
      show oWk _ _ _ _ T (mkF m 57 #[iv p0, iv p1, iv 3, iv 1, rv m3, rv m1, iv 1, uu, uu] [(.int 1), (.int 3)])
      refine oWk.st (fun _ kt => XS.icmpYes X.here hx rfl (pc0 := 57) (pc' := 64) rfl (hb hby at_57) rfl (feq (by decide)).2 (by decide) (by decide) kt) ?_
      show oWk _ _ _ _ T (mkF m 64 #[iv p0, iv p1, iv 3, iv 1, rv m3, rv m1, iv 1, uu, uu] [])
      refine oWk.st (fun _ kt => XS.iconst X.here hx rfl (hb hby at_64) kt) ?_
      show oWk _ _ _ _ T (mkF m 65 #[iv p0, iv p1, iv 3, iv 1, rv m3, rv m1, iv 1, uu, uu] [(.int 0)])
      refine oWk.st (fun _ kt => XS.aload X.here hx rfl (hb hby at_65) rfl rfl kt) ?_
      show oWk _ _ _ _ T (mkF m 67 #[iv p0, iv p1, iv 3, iv 1, rv m3, rv m1, iv 1, uu, uu] [(.ref m3), (.int 0)])
      refine oWk.st (fun _ kt => XS.aload X.here hx rfl (hb hby at_67) rfl rfl kt) ?_
      show oWk _ _ _ _ T (mkF m 69 #[iv p0, iv p1, iv 3, iv 1, rv m3, rv m1, iv 1, uu, uu] [(.ref m1), (.ref m3), (.int 0)])
      refine oWk.st (fun _ kt => Jvm.RoadKit.acmp (g := (mkF m 69 #[iv p0, iv p1, iv 3, iv 1, rv m3, rv m1, iv 1, uu, uu] [(.ref m1), (.ref m3), (.int 0)])) X hx rfl rfl rfl (pc0 := 69) (pc' := 76) (same := false) rfl (hb hby at_69) rfl (decide_eq_false fun q => (Ne.symm ne_m1_m3) (Value.ref.inj q)) (by decide) (by decide) kt) ?_
      show oWk _ _ _ _ T (mkF m 76 #[iv p0, iv p1, iv 3, iv 1, rv m3, rv m1, iv 1, uu, uu] [(.int 0)])
      refine oWk.st (fun _ kt => XS.iconst X.here hx rfl (hb hby at_76) kt) ?_
      show oWk _ _ _ _ T (mkF m 77 #[iv p0, iv p1, iv 3, iv 1, rv m3, rv m1, iv 1, uu, uu] [(.int 0), (.int 0)])
      refine oWk.st (fun _ kt => XS.icmpNo X.here hx rfl (hb hby at_77) rfl (teq (by decide)).2 kt) ?_
      show oWk _ _ _ _ T (mkF m 80 #[iv p0, iv p1, iv 3, iv 1, rv m3, rv m1, iv 1, uu, uu] [])
      refine oWk.st (fun _ kt => XS.iconst X.here hx rfl (hb hby at_80) kt) ?_
      show oWk _ _ _ _ T (mkF m 81 #[iv p0, iv p1, iv 3, iv 1, rv m3, rv m1, iv 1, uu, uu] [(.int 1)])
      refine oWk.st (fun _ kt => XS.goto X.here hx rfl (pc0 := 81) (pc' := 85) rfl (hb hby at_81) (by decide) (by decide) kt) ?_
      show oWk _ _ _ _ T (mkF m 85 #[iv p0, iv p1, iv 3, iv 1, rv m3, rv m1, iv 1, uu, uu] [(.int 1)])
      refine oWk.st (fun _ kt => XS.istore X.here hx rfl (hb hby at_85) rfl (l' := #[iv p0, iv p1, iv 3, iv 1, rv m3, rv m1, iv 1, iv 1, uu]) rfl kt) ?_
      show oWk _ _ _ _ T (mkF m 87 #[iv p0, iv p1, iv 3, iv 1, rv m3, rv m1, iv 1, iv 1, uu] [])
      refine oWk.st (fun _ kt => XS.iloadN X.here hx rfl (hb hby at_87) rfl kt) ?_
      show oWk _ _ _ _ T (mkF m 88 #[iv p0, iv p1, iv 3, iv 1, rv m3, rv m1, iv 1, iv 1, uu] [(.int 3)])
      refine oWk.st (fun _ kt => XS.iloadN X.here hx rfl (hb hby at_88) rfl kt) ?_
      show oWk _ _ _ _ T (mkF m 89 #[iv p0, iv p1, iv 3, iv 1, rv m3, rv m1, iv 1, iv 1, uu] [(.int 1), (.int 3)])
      refine oWk.st (fun _ kt => XS.icmpYes X.here hx rfl (pc0 := 89) (pc' := 96) rfl (hb hby at_89) rfl (flt (by decide)).2.1 (by decide) (by decide) kt) ?_
      show oWk _ _ _ _ T (mkF m 96 #[iv p0, iv p1, iv 3, iv 1, rv m3, rv m1, iv 1, iv 1, uu] [])
      refine oWk.st (fun _ kt => XS.iconst X.here hx rfl (hb hby at_96) kt) ?_
      show oWk _ _ _ _ T (mkF m 97 #[iv p0, iv p1, iv 3, iv 1, rv m3, rv m1, iv 1, iv 1, uu] [(.int 0)])
      refine oWk.st (fun _ kt => XS.aload X.here hx rfl (hb hby at_97) rfl rfl kt) ?_
      show oWk _ _ _ _ T (mkF m 99 #[iv p0, iv p1, iv 3, iv 1, rv m3, rv m1, iv 1, iv 1, uu] [(.ref m3), (.int 0)])
      have Oh := K.old O0 all0
      obtain ⟨cq82, kq82, q82a, q82b, q82c⟩ := isOf hZ e0 E_m3
      obtain ⟨_, _, ⟨T, L82, k82, n82⟩, -, X, ⟨Lc82, hQ, l82, y82, z82⟩, st⟩ := X.virtualBack hx (y := yy2) (z := yy2) hown (mvT hZ (oW hw 12 rfl)) (mvT hZ (oW hw 13 rfl)) (notFace_of_selects (args := #[]) (mvT hZ (oW hw 15 rfl))) (mvT hZ (oW hw 15 rfl)) (mvT hZ (oW hw 14 rfl)) (by decide) (backOf (W := 1) (rDV l Z a0 hw [] m3 (4607632778762754458 : UInt64) h0 Oh F_defaultValue_m3) hZ (oW hw 16 rfl) (oW hw 3 rfl) (by decide) (by decide)) q82a q82c (g := (mkF m 99 #[iv p0, iv p1, iv 3, iv 1, rv m3, rv m1, iv 1, iv 1, uu] [(.ref m3), (.int 0)])) rfl (by rw [hml]; rfl) (Steps.refl _) (argsL := []) (rest := [(.int (0 : Int32))]) (lenOf pd_1 rfl) rfl (by show 2 * 0 + _ ≤ _; exact Nat.le_of_eq rfl) (hb hby at_99) (fun _ _ => ⟨rfl, e0, (by decide : 0 + 0 ≤ _), (by decide : 0 + 0 ≤ _)⟩)
      dsimp only [Pt.U, Pt.locs, Pt.cells, Pt.slots] at X l82 y82 z82 st hQ
      subst l82 y82 z82
      obtain ⟨rfl, e0, K81⟩ := hQ
      have K := K.call K81 all0
      rw [e0] at K
      refine oWk.tr st ?_
      show oWk _ _ _ _ T (mkF m 102 #[iv p0, iv p1, iv 3, iv 1, rv m3, rv m1, iv 1, iv 1, uu] [(.double (4607632778762754458 : UInt64)), (.int 0)])
      refine oWk.st (fun _ kt => XS.aload X.here hx rfl (hb hby at_102) rfl rfl kt) ?_
      show oWk _ _ _ _ T (mkF m 104 #[iv p0, iv p1, iv 3, iv 1, rv m3, rv m1, iv 1, iv 1, uu] [(.ref m1), (.double (4607632778762754458 : UInt64)), (.int 0)])
      have Oh := K.old O0 all0
      obtain ⟨cq84, kq84, q84a, q84b, q84c⟩ := isOf hZ e0 E_m1
      obtain ⟨_, _, ⟨T, L84, k84, n84⟩, -, X, ⟨Lc84, hQ, l84, y84, z84⟩, st⟩ := X.virtualBack hx (y := yy2) (z := yy2) hown (mvT hZ (oW hw 12 rfl)) (mvT hZ (oW hw 13 rfl)) (notFace_of_selects (args := #[]) (mvT hZ (oW hw 15 rfl))) (mvT hZ (oW hw 15 rfl)) (mvT hZ (oW hw 14 rfl)) (by decide) (backOf (W := 3) (rDV l Z a0 hw [] m1 (4608533498688228557 : UInt64) h0 Oh F_defaultValue_m1) hZ (oW hw 16 rfl) (oW hw 3 rfl) (by decide) (by decide)) q84a q84c (g := (mkF m 104 #[iv p0, iv p1, iv 3, iv 1, rv m3, rv m1, iv 1, iv 1, uu] [(.ref m1), (.double (4607632778762754458 : UInt64)), (.int 0)])) rfl (by rw [hml]; rfl) (Steps.refl _) (argsL := []) (rest := [(.double (4607632778762754458 : UInt64)), (.int (0 : Int32))]) (lenOf pd_1 rfl) rfl (by show 2 * 0 + _ ≤ _; exact Nat.le_of_eq rfl) (hb hby at_104) (fun _ _ => ⟨rfl, e0, (by decide : 0 + 0 ≤ _), (by decide : 0 + 0 ≤ _)⟩)
      dsimp only [Pt.U, Pt.locs, Pt.cells, Pt.slots] at X l84 y84 z84 st hQ
      subst l84 y84 z84
      obtain ⟨rfl, e0, K83⟩ := hQ
      have K := K.call K83 all0
      rw [e0] at K
      refine oWk.tr st ?_
      show oWk _ _ _ _ T (mkF m 107 #[iv p0, iv p1, iv 3, iv 1, rv m3, rv m1, iv 1, iv 1, uu] [(.double (4608533498688228557 : UInt64)), (.double (4607632778762754458 : UInt64)), (.int 0)])
      refine oWk.st (fun _ kt => XS.dcmpS X.here hx rfl (v := (-1 : Int32)) (hb hby at_107) rfl (by decide +kernel) kt) ?_
      show oWk _ _ _ _ T (mkF m 108 #[iv p0, iv p1, iv 3, iv 1, rv m3, rv m1, iv 1, iv 1, uu] [(.int (-1 : Int32)), (.int 0)])
      refine oWk.st (fun _ kt => XS.ifYes X.here hx rfl (pc0 := 108) (pc' := 115) rfl (hb hby at_108) rfl ((if0 _ _).trans (flt (by decide)).2.2.2) (by decide) (by decide) kt) ?_
      show oWk _ _ _ _ T (mkF m 115 #[iv p0, iv p1, iv 3, iv 1, rv m3, rv m1, iv 1, iv 1, uu] [(.int 0)])
      refine oWk.st (fun _ kt => XS.iconst X.here hx rfl (hb hby at_115) kt) ?_
      show oWk _ _ _ _ T (mkF m 116 #[iv p0, iv p1, iv 3, iv 1, rv m3, rv m1, iv 1, iv 1, uu] [(.int 0), (.int 0)])
      refine oWk.st (fun _ kt => XS.icmpNo X.here hx rfl (hb hby at_116) rfl (teq (by decide)).2 kt) ?_
      show oWk _ _ _ _ T (mkF m 119 #[iv p0, iv p1, iv 3, iv 1, rv m3, rv m1, iv 1, iv 1, uu] [])
      refine oWk.st (fun _ kt => XS.iconst X.here hx rfl (hb hby at_119) kt) ?_
      show oWk _ _ _ _ T (mkF m 120 #[iv p0, iv p1, iv 3, iv 1, rv m3, rv m1, iv 1, iv 1, uu] [(.int 1)])
      refine oWk.st (fun _ kt => XS.goto X.here hx rfl (pc0 := 120) (pc' := 124) rfl (hb hby at_120) (by decide) (by decide) kt) ?_
      show oWk _ _ _ _ T (mkF m 124 #[iv p0, iv p1, iv 3, iv 1, rv m3, rv m1, iv 1, iv 1, uu] [(.int 1)])
      refine oWk.st (fun _ kt => XS.istore X.here hx rfl (hb hby at_124) rfl (l' := #[iv p0, iv p1, iv 3, iv 1, rv m3, rv m1, iv 1, iv 1, iv 1]) rfl kt) ?_
      show oWk _ _ _ _ T (mkF m 126 #[iv p0, iv p1, iv 3, iv 1, rv m3, rv m1, iv 1, iv 1, iv 1] [])
      refine oWk.st (fun _ kt => XS.iload X.here hx rfl (hb hby at_126) rfl kt) ?_
      show oWk _ _ _ _ T (mkF m 128 #[iv p0, iv p1, iv 3, iv 1, rv m3, rv m1, iv 1, iv 1, iv 1] [(.int 1)])
      refine oWk.st (fun _ kt => XS.ifNo X.here hx rfl (hb hby at_128) rfl ((if0 _ _).trans (feq (by decide)).1) kt) ?_
      show oWk _ _ _ _ T (mkF m 131 #[iv p0, iv p1, iv 3, iv 1, rv m3, rv m1, iv 1, iv 1, iv 1] [])
      refine oWk.st (fun _ kt => XS.iload X.here hx rfl (hb hby at_131) rfl kt) ?_
      show oWk _ _ _ _ T (mkF m 133 #[iv p0, iv p1, iv 3, iv 1, rv m3, rv m1, iv 1, iv 1, iv 1] [(.int 1)])
      refine oWk.st (fun _ kt => XS.ifNo X.here hx rfl (hb hby at_133) rfl ((if0 _ _).trans (feq (by decide)).1) kt) ?_
      show oWk _ _ _ _ T (mkF m 136 #[iv p0, iv p1, iv 3, iv 1, rv m3, rv m1, iv 1, iv 1, iv 1] [])
      refine oWk.st (fun _ kt => XS.iload X.here hx rfl (hb hby at_136) rfl kt) ?_
      show oWk _ _ _ _ T (mkF m 138 #[iv p0, iv p1, iv 3, iv 1, rv m3, rv m1, iv 1, iv 1, iv 1] [(.int 1)])
      refine oWk.st (fun _ kt => XS.ifNo X.here hx rfl (hb hby at_138) rfl ((if0 _ _).trans (feq (by decide)).1) kt) ?_
      show oWk _ _ _ _ T (mkF m 141 #[iv p0, iv p1, iv 3, iv 1, rv m3, rv m1, iv 1, iv 1, iv 1] [])
      refine oWk.st (fun _ kt => XS.iconst X.here hx rfl (hb hby at_141) kt) ?_
      show oWk _ _ _ _ T (mkF m 142 #[iv p0, iv p1, iv 3, iv 1, rv m3, rv m1, iv 1, iv 1, iv 1] [(.int 1)])
      refine oWk.st (fun _ kt => XS.goto X.here hx rfl (pc0 := 142) (pc' := 146) rfl (hb hby at_142) (by decide) (by decide) kt) ?_
      show oWk _ _ _ _ T (mkF m 146 #[iv p0, iv p1, iv 3, iv 1, rv m3, rv m1, iv 1, iv 1, iv 1] [(.int 1)])
      exact oRetZ X hx hlk hret (hb hby at_146) (Or.inr rfl) (by rw [e0]; exact ⟨rfl, K.fr⟩) (by decide) (by decide)
    · show oWk _ _ _ _ T (mkF m 17 #[iv p0, iv p1, iv 3, uu, uu, uu, uu, uu, uu] [(.int 2)])
      refine oWk.st (fun _ kt => XS.istoreN X.here hx rfl (hb hby at_17) rfl (l' := #[iv p0, iv p1, iv 3, iv 2, uu, uu, uu, uu, uu]) rfl kt) ?_
      show oWk _ _ _ _ T (mkF m 18 #[iv p0, iv p1, iv 3, iv 2, uu, uu, uu, uu, uu] [])
      refine oWk.st (fun _ kt => XS.iloadN X.here hx rfl (hb hby at_18) rfl kt) ?_
      show oWk _ _ _ _ T (mkF m 19 #[iv p0, iv p1, iv 3, iv 2, uu, uu, uu, uu, uu] [(.int 3)])
      have Oh := K.old O0 all0
      obtain ⟨_, _, ⟨T, L86, k86, n86⟩, -, X, ⟨Lc86, hQ, l86, y86, z86⟩, st⟩ := Jvm.LawKit.callS X hx (y := yy0) hown (mvT hZ (oW hw 1 rfl)) (mvT hZ (oW hw 2 rfl)) (mvT hZ (oW hw 3 rfl)) (mvT hZ (oW hw 4 rfl)) (by decide) (backOf (W := 0) (rHV3 l Z a0 hw [] m3 h0 Oh S_HEADING_ALL_VALUE) hZ (oW hw 4 rfl) (oW hw 3 rfl) (by decide) (by decide)) (g := (mkF m 19 #[iv p0, iv p1, iv 3, iv 2, uu, uu, uu, uu, uu] [(.int 3)])) rfl (by rw [hml]; rfl) (argsL := [(.int (3 : Int32))]) (rest := []) (lenOf pd_0 rfl) rfl (by show 2 * 0 + _ ≤ _; exact Nat.le_of_eq rfl) (hb hby at_19) (fun _ _ => ⟨rfl, e0, (by decide : 0 + 0 ≤ _), (by decide : 0 + 0 ≤ _)⟩)
      dsimp only [Pt.U, Pt.locs, Pt.cells, Pt.slots] at X l86 y86 z86 st hQ
      subst l86 y86 z86
      obtain ⟨rfl, e0, K85⟩ := hQ
      have K := K.call K85 all0
      rw [e0] at K
      refine oWk.st st ?_
      show oWk _ _ _ _ T (mkF m 22 #[iv p0, iv p1, iv 3, iv 2, uu, uu, uu, uu, uu] [(.ref m3)])
      refine oWk.st (fun _ kt => XS.astore X.here hx rfl (hb hby at_22) rfl rfl (l' := #[iv p0, iv p1, iv 3, iv 2, rv m3, uu, uu, uu, uu]) rfl kt) ?_
      show oWk _ _ _ _ T (mkF m 24 #[iv p0, iv p1, iv 3, iv 2, rv m3, uu, uu, uu, uu] [])
      refine oWk.st (fun _ kt => XS.iloadN X.here hx rfl (hb hby at_24) rfl kt) ?_
      show oWk _ _ _ _ T (mkF m 25 #[iv p0, iv p1, iv 3, iv 2, rv m3, uu, uu, uu, uu] [(.int 2)])
      have Oh := K.old O0 all0
      obtain ⟨_, _, ⟨T, L88, k88, n88⟩, -, X, ⟨Lc88, hQ, l88, y88, z88⟩, st⟩ := Jvm.LawKit.callS X hx (y := yy0) hown (mvT hZ (oW hw 1 rfl)) (mvT hZ (oW hw 2 rfl)) (mvT hZ (oW hw 3 rfl)) (mvT hZ (oW hw 4 rfl)) (by decide) (backOf (W := 0) (rHV2 l Z a0 hw [] m2 h0 Oh S_HEADING_PARENT_VALUE) hZ (oW hw 4 rfl) (oW hw 3 rfl) (by decide) (by decide)) (g := (mkF m 25 #[iv p0, iv p1, iv 3, iv 2, rv m3, uu, uu, uu, uu] [(.int 2)])) rfl (by rw [hml]; rfl) (argsL := [(.int (2 : Int32))]) (rest := []) (lenOf pd_0 rfl) rfl (by show 2 * 0 + _ ≤ _; exact Nat.le_of_eq rfl) (hb hby at_25) (fun _ _ => ⟨rfl, e0, (by decide : 0 + 0 ≤ _), (by decide : 0 + 0 ≤ _)⟩)
      dsimp only [Pt.U, Pt.locs, Pt.cells, Pt.slots] at X l88 y88 z88 st hQ
      subst l88 y88 z88
      obtain ⟨rfl, e0, K87⟩ := hQ
      have K := K.call K87 all0
      rw [e0] at K
      refine oWk.st st ?_
      show oWk _ _ _ _ T (mkF m 28 #[iv p0, iv p1, iv 3, iv 2, rv m3, uu, uu, uu, uu] [(.ref m2)])
      refine oWk.st (fun _ kt => XS.astore X.here hx rfl (hb hby at_28) rfl rfl (l' := #[iv p0, iv p1, iv 3, iv 2, rv m3, rv m2, uu, uu, uu]) rfl kt) ?_
      show oWk _ _ _ _ T (mkF m 30 #[iv p0, iv p1, iv 3, iv 2, rv m3, rv m2, uu, uu, uu] [])
      refine oWk.st (fun _ kt => XS.aload X.here hx rfl (hb hby at_30) rfl rfl kt) ?_
      show oWk _ _ _ _ T (mkF m 32 #[iv p0, iv p1, iv 3, iv 2, rv m3, rv m2, uu, uu, uu] [(.ref m3)])
      refine oWk.st (fun _ kt => XS.iloadN X.here hx rfl (hb hby at_32) rfl kt) ?_
      show oWk _ _ _ _ T (mkF m 33 #[iv p0, iv p1, iv 3, iv 2, rv m3, rv m2, uu, uu, uu] [(.int 3), (.ref m3)])
      have Oh := K.old O0 all0
      obtain ⟨_, _, ⟨T, L90, k90, n90⟩, -, X, ⟨Lc90, hQ, l90, y90, z90⟩, st⟩ := Jvm.LawKit.callS X hx (y := yy1) hown (mvT hZ (oW hw 7 rfl)) (mvT hZ (oW hw 8 rfl)) (mvT hZ (oW hw 9 rfl)) (mvT hZ (oW hw 10 rfl)) (by decide) (backOf (W := 1) (rEX3 l Z a0 hw [] m3 h0 Oh S_HEADING_ALL_VALUE) hZ (oW hw 10 rfl) (oW hw 9 rfl) (by decide) (by decide)) (g := (mkF m 33 #[iv p0, iv p1, iv 3, iv 2, rv m3, rv m2, uu, uu, uu] [(.int 3), (.ref m3)])) rfl (by rw [hml]; rfl) (argsL := [(.int (3 : Int32))]) (rest := [(.ref m3)]) (lenOf pd_0 rfl) rfl (by show 2 * 0 + _ ≤ _; exact Nat.le_of_eq rfl) (hb hby at_33) (fun _ _ => ⟨rfl, e0, (by decide : 0 + 0 ≤ _), (by decide : 0 + 0 ≤ _)⟩)
      dsimp only [Pt.U, Pt.locs, Pt.cells, Pt.slots] at X l90 y90 z90 st hQ
      subst l90 y90 z90
      obtain ⟨rfl, e0, K89⟩ := hQ
      have K := K.call K89 all0
      rw [e0] at K
      refine oWk.st st ?_
      show oWk _ _ _ _ T (mkF m 36 #[iv p0, iv p1, iv 3, iv 2, rv m3, rv m2, uu, uu, uu] [(.ref m3), (.ref m3)])
      refine oWk.st (fun _ kt => Jvm.RoadKit.acmp (g := (mkF m 36 #[iv p0, iv p1, iv 3, iv 2, rv m3, rv m2, uu, uu, uu] [(.ref m3), (.ref m3)])) X hx rfl rfl rfl (pc0 := 36) (pc' := 39) (same := true) rfl (hb hby at_36) rfl (decide_eq_true rfl) (by decide) (by decide) kt) ?_
      show oWk _ _ _ _ T (mkF m 39 #[iv p0, iv p1, iv 3, iv 2, rv m3, rv m2, uu, uu, uu] [])
      refine oWk.st (fun _ kt => XS.aload X.here hx rfl (hb hby at_39) rfl rfl kt) ?_
      show oWk _ _ _ _ T (mkF m 41 #[iv p0, iv p1, iv 3, iv 2, rv m3, rv m2, uu, uu, uu] [(.ref m2)])
      refine oWk.st (fun _ kt => XS.iloadN X.here hx rfl (hb hby at_41) rfl kt) ?_
      show oWk _ _ _ _ T (mkF m 42 #[iv p0, iv p1, iv 3, iv 2, rv m3, rv m2, uu, uu, uu] [(.int 2), (.ref m2)])
      have Oh := K.old O0 all0
      obtain ⟨_, _, ⟨T, L92, k92, n92⟩, -, X, ⟨Lc92, hQ, l92, y92, z92⟩, st⟩ := Jvm.LawKit.callS X hx (y := yy1) hown (mvT hZ (oW hw 7 rfl)) (mvT hZ (oW hw 8 rfl)) (mvT hZ (oW hw 9 rfl)) (mvT hZ (oW hw 10 rfl)) (by decide) (backOf (W := 1) (rEX2 l Z a0 hw [] m2 h0 Oh S_HEADING_PARENT_VALUE) hZ (oW hw 10 rfl) (oW hw 9 rfl) (by decide) (by decide)) (g := (mkF m 42 #[iv p0, iv p1, iv 3, iv 2, rv m3, rv m2, uu, uu, uu] [(.int 2), (.ref m2)])) rfl (by rw [hml]; rfl) (argsL := [(.int (2 : Int32))]) (rest := [(.ref m2)]) (lenOf pd_0 rfl) rfl (by show 2 * 0 + _ ≤ _; exact Nat.le_of_eq rfl) (hb hby at_42) (fun _ _ => ⟨rfl, e0, (by decide : 0 + 0 ≤ _), (by decide : 0 + 0 ≤ _)⟩)
      dsimp only [Pt.U, Pt.locs, Pt.cells, Pt.slots] at X l92 y92 z92 st hQ
      subst l92 y92 z92
      obtain ⟨rfl, e0, K91⟩ := hQ
      have K := K.call K91 all0
      rw [e0] at K
      refine oWk.st st ?_
      show oWk _ _ _ _ T (mkF m 45 #[iv p0, iv p1, iv 3, iv 2, rv m3, rv m2, uu, uu, uu] [(.ref m2), (.ref m2)])
      refine oWk.st (fun _ kt => Jvm.RoadKit.acmp (g := (mkF m 45 #[iv p0, iv p1, iv 3, iv 2, rv m3, rv m2, uu, uu, uu] [(.ref m2), (.ref m2)])) X hx rfl rfl rfl (pc0 := 45) (pc' := 48) (same := true) rfl (hb hby at_45) rfl (decide_eq_true rfl) (by decide) (by decide) kt) ?_
      show oWk _ _ _ _ T (mkF m 48 #[iv p0, iv p1, iv 3, iv 2, rv m3, rv m2, uu, uu, uu] [])
      refine oWk.st (fun _ kt => XS.iconst X.here hx rfl (hb hby at_48) kt) ?_
      show oWk _ _ _ _ T (mkF m 49 #[iv p0, iv p1, iv 3, iv 2, rv m3, rv m2, uu, uu, uu] [(.int 1)])
      refine oWk.st (fun _ kt => XS.goto X.here hx rfl (pc0 := 49) (pc' := 53) rfl (hb hby at_49) (by decide) (by decide) kt) ?_
      show oWk _ _ _ _ T (mkF m 53 #[iv p0, iv p1, iv 3, iv 2, rv m3, rv m2, uu, uu, uu] [(.int 1)])
      refine oWk.st (fun _ kt => XS.istore X.here hx rfl (hb hby at_53) rfl (l' := #[iv p0, iv p1, iv 3, iv 2, rv m3, rv m2, iv 1, uu, uu]) rfl kt) ?_
      show oWk _ _ _ _ T (mkF m 55 #[iv p0, iv p1, iv 3, iv 2, rv m3, rv m2, iv 1, uu, uu] [])
      refine oWk.st (fun _ kt => XS.iloadN X.here hx rfl (hb hby at_55) rfl kt) ?_
      show oWk _ _ _ _ T (mkF m 56 #[iv p0, iv p1, iv 3, iv 2, rv m3, rv m2, iv 1, uu, uu] [(.int 3)])
      refine oWk.st (fun _ kt => XS.iloadN X.here hx rfl (hb hby at_56) rfl kt) ?_
      show oWk _ _ _ _ T (mkF m 57 #[iv p0, iv p1, iv 3, iv 2, rv m3, rv m2, iv 1, uu, uu] [(.int 2), (.int 3)])
      refine oWk.st (fun _ kt => XS.icmpYes X.here hx rfl (pc0 := 57) (pc' := 64) rfl (hb hby at_57) rfl (feq (by decide)).2 (by decide) (by decide) kt) ?_
      show oWk _ _ _ _ T (mkF m 64 #[iv p0, iv p1, iv 3, iv 2, rv m3, rv m2, iv 1, uu, uu] [])
      refine oWk.st (fun _ kt => XS.iconst X.here hx rfl (hb hby at_64) kt) ?_
      show oWk _ _ _ _ T (mkF m 65 #[iv p0, iv p1, iv 3, iv 2, rv m3, rv m2, iv 1, uu, uu] [(.int 0)])
      refine oWk.st (fun _ kt => XS.aload X.here hx rfl (hb hby at_65) rfl rfl kt) ?_
      show oWk _ _ _ _ T (mkF m 67 #[iv p0, iv p1, iv 3, iv 2, rv m3, rv m2, iv 1, uu, uu] [(.ref m3), (.int 0)])
      refine oWk.st (fun _ kt => XS.aload X.here hx rfl (hb hby at_67) rfl rfl kt) ?_
      show oWk _ _ _ _ T (mkF m 69 #[iv p0, iv p1, iv 3, iv 2, rv m3, rv m2, iv 1, uu, uu] [(.ref m2), (.ref m3), (.int 0)])
      refine oWk.st (fun _ kt => Jvm.RoadKit.acmp (g := (mkF m 69 #[iv p0, iv p1, iv 3, iv 2, rv m3, rv m2, iv 1, uu, uu] [(.ref m2), (.ref m3), (.int 0)])) X hx rfl rfl rfl (pc0 := 69) (pc' := 76) (same := false) rfl (hb hby at_69) rfl (decide_eq_false fun q => (Ne.symm ne_m2_m3) (Value.ref.inj q)) (by decide) (by decide) kt) ?_
      show oWk _ _ _ _ T (mkF m 76 #[iv p0, iv p1, iv 3, iv 2, rv m3, rv m2, iv 1, uu, uu] [(.int 0)])
      refine oWk.st (fun _ kt => XS.iconst X.here hx rfl (hb hby at_76) kt) ?_
      show oWk _ _ _ _ T (mkF m 77 #[iv p0, iv p1, iv 3, iv 2, rv m3, rv m2, iv 1, uu, uu] [(.int 0), (.int 0)])
      refine oWk.st (fun _ kt => XS.icmpNo X.here hx rfl (hb hby at_77) rfl (teq (by decide)).2 kt) ?_
      show oWk _ _ _ _ T (mkF m 80 #[iv p0, iv p1, iv 3, iv 2, rv m3, rv m2, iv 1, uu, uu] [])
      refine oWk.st (fun _ kt => XS.iconst X.here hx rfl (hb hby at_80) kt) ?_
      show oWk _ _ _ _ T (mkF m 81 #[iv p0, iv p1, iv 3, iv 2, rv m3, rv m2, iv 1, uu, uu] [(.int 1)])
      refine oWk.st (fun _ kt => XS.goto X.here hx rfl (pc0 := 81) (pc' := 85) rfl (hb hby at_81) (by decide) (by decide) kt) ?_
      show oWk _ _ _ _ T (mkF m 85 #[iv p0, iv p1, iv 3, iv 2, rv m3, rv m2, iv 1, uu, uu] [(.int 1)])
      refine oWk.st (fun _ kt => XS.istore X.here hx rfl (hb hby at_85) rfl (l' := #[iv p0, iv p1, iv 3, iv 2, rv m3, rv m2, iv 1, iv 1, uu]) rfl kt) ?_
      show oWk _ _ _ _ T (mkF m 87 #[iv p0, iv p1, iv 3, iv 2, rv m3, rv m2, iv 1, iv 1, uu] [])
      refine oWk.st (fun _ kt => XS.iloadN X.here hx rfl (hb hby at_87) rfl kt) ?_
      show oWk _ _ _ _ T (mkF m 88 #[iv p0, iv p1, iv 3, iv 2, rv m3, rv m2, iv 1, iv 1, uu] [(.int 3)])
      refine oWk.st (fun _ kt => XS.iloadN X.here hx rfl (hb hby at_88) rfl kt) ?_
      show oWk _ _ _ _ T (mkF m 89 #[iv p0, iv p1, iv 3, iv 2, rv m3, rv m2, iv 1, iv 1, uu] [(.int 2), (.int 3)])
      refine oWk.st (fun _ kt => XS.icmpYes X.here hx rfl (pc0 := 89) (pc' := 96) rfl (hb hby at_89) rfl (flt (by decide)).2.1 (by decide) (by decide) kt) ?_
      show oWk _ _ _ _ T (mkF m 96 #[iv p0, iv p1, iv 3, iv 2, rv m3, rv m2, iv 1, iv 1, uu] [])
      refine oWk.st (fun _ kt => XS.iconst X.here hx rfl (hb hby at_96) kt) ?_
      show oWk _ _ _ _ T (mkF m 97 #[iv p0, iv p1, iv 3, iv 2, rv m3, rv m2, iv 1, iv 1, uu] [(.int 0)])
      refine oWk.st (fun _ kt => XS.aload X.here hx rfl (hb hby at_97) rfl rfl kt) ?_
      show oWk _ _ _ _ T (mkF m 99 #[iv p0, iv p1, iv 3, iv 2, rv m3, rv m2, iv 1, iv 1, uu] [(.ref m3), (.int 0)])
      have Oh := K.old O0 all0
      obtain ⟨cq94, kq94, q94a, q94b, q94c⟩ := isOf hZ e0 E_m3
      obtain ⟨_, _, ⟨T, L94, k94, n94⟩, -, X, ⟨Lc94, hQ, l94, y94, z94⟩, st⟩ := X.virtualBack hx (y := yy2) (z := yy2) hown (mvT hZ (oW hw 12 rfl)) (mvT hZ (oW hw 13 rfl)) (notFace_of_selects (args := #[]) (mvT hZ (oW hw 15 rfl))) (mvT hZ (oW hw 15 rfl)) (mvT hZ (oW hw 14 rfl)) (by decide) (backOf (W := 1) (rDV l Z a0 hw [] m3 (4607632778762754458 : UInt64) h0 Oh F_defaultValue_m3) hZ (oW hw 16 rfl) (oW hw 3 rfl) (by decide) (by decide)) q94a q94c (g := (mkF m 99 #[iv p0, iv p1, iv 3, iv 2, rv m3, rv m2, iv 1, iv 1, uu] [(.ref m3), (.int 0)])) rfl (by rw [hml]; rfl) (Steps.refl _) (argsL := []) (rest := [(.int (0 : Int32))]) (lenOf pd_1 rfl) rfl (by show 2 * 0 + _ ≤ _; exact Nat.le_of_eq rfl) (hb hby at_99) (fun _ _ => ⟨rfl, e0, (by decide : 0 + 0 ≤ _), (by decide : 0 + 0 ≤ _)⟩)
      dsimp only [Pt.U, Pt.locs, Pt.cells, Pt.slots] at X l94 y94 z94 st hQ
      subst l94 y94 z94
      obtain ⟨rfl, e0, K93⟩ := hQ
      have K := K.call K93 all0
      rw [e0] at K
      refine oWk.tr st ?_
      show oWk _ _ _ _ T (mkF m 102 #[iv p0, iv p1, iv 3, iv 2, rv m3, rv m2, iv 1, iv 1, uu] [(.double (4607632778762754458 : UInt64)), (.int 0)])
      refine oWk.st (fun _ kt => XS.aload X.here hx rfl (hb hby at_102) rfl rfl kt) ?_
      show oWk _ _ _ _ T (mkF m 104 #[iv p0, iv p1, iv 3, iv 2, rv m3, rv m2, iv 1, iv 1, uu] [(.ref m2), (.double (4607632778762754458 : UInt64)), (.int 0)])
      have Oh := K.old O0 all0
      obtain ⟨cq96, kq96, q96a, q96b, q96c⟩ := isOf hZ e0 E_m2
      obtain ⟨_, _, ⟨T, L96, k96, n96⟩, -, X, ⟨Lc96, hQ, l96, y96, z96⟩, st⟩ := X.virtualBack hx (y := yy2) (z := yy2) hown (mvT hZ (oW hw 12 rfl)) (mvT hZ (oW hw 13 rfl)) (notFace_of_selects (args := #[]) (mvT hZ (oW hw 15 rfl))) (mvT hZ (oW hw 15 rfl)) (mvT hZ (oW hw 14 rfl)) (by decide) (backOf (W := 3) (rDV l Z a0 hw [] m2 (4608083138725491507 : UInt64) h0 Oh F_defaultValue_m2) hZ (oW hw 16 rfl) (oW hw 3 rfl) (by decide) (by decide)) q96a q96c (g := (mkF m 104 #[iv p0, iv p1, iv 3, iv 2, rv m3, rv m2, iv 1, iv 1, uu] [(.ref m2), (.double (4607632778762754458 : UInt64)), (.int 0)])) rfl (by rw [hml]; rfl) (Steps.refl _) (argsL := []) (rest := [(.double (4607632778762754458 : UInt64)), (.int (0 : Int32))]) (lenOf pd_1 rfl) rfl (by show 2 * 0 + _ ≤ _; exact Nat.le_of_eq rfl) (hb hby at_104) (fun _ _ => ⟨rfl, e0, (by decide : 0 + 0 ≤ _), (by decide : 0 + 0 ≤ _)⟩)
      dsimp only [Pt.U, Pt.locs, Pt.cells, Pt.slots] at X l96 y96 z96 st hQ
      subst l96 y96 z96
      obtain ⟨rfl, e0, K95⟩ := hQ
      have K := K.call K95 all0
      rw [e0] at K
      refine oWk.tr st ?_
      show oWk _ _ _ _ T (mkF m 107 #[iv p0, iv p1, iv 3, iv 2, rv m3, rv m2, iv 1, iv 1, uu] [(.double (4608083138725491507 : UInt64)), (.double (4607632778762754458 : UInt64)), (.int 0)])
      refine oWk.st (fun _ kt => XS.dcmpS X.here hx rfl (v := (-1 : Int32)) (hb hby at_107) rfl (by decide +kernel) kt) ?_
      show oWk _ _ _ _ T (mkF m 108 #[iv p0, iv p1, iv 3, iv 2, rv m3, rv m2, iv 1, iv 1, uu] [(.int (-1 : Int32)), (.int 0)])
      refine oWk.st (fun _ kt => XS.ifYes X.here hx rfl (pc0 := 108) (pc' := 115) rfl (hb hby at_108) rfl ((if0 _ _).trans (flt (by decide)).2.2.2) (by decide) (by decide) kt) ?_
      show oWk _ _ _ _ T (mkF m 115 #[iv p0, iv p1, iv 3, iv 2, rv m3, rv m2, iv 1, iv 1, uu] [(.int 0)])
      refine oWk.st (fun _ kt => XS.iconst X.here hx rfl (hb hby at_115) kt) ?_
      show oWk _ _ _ _ T (mkF m 116 #[iv p0, iv p1, iv 3, iv 2, rv m3, rv m2, iv 1, iv 1, uu] [(.int 0), (.int 0)])
      refine oWk.st (fun _ kt => XS.icmpNo X.here hx rfl (hb hby at_116) rfl (teq (by decide)).2 kt) ?_
      show oWk _ _ _ _ T (mkF m 119 #[iv p0, iv p1, iv 3, iv 2, rv m3, rv m2, iv 1, iv 1, uu] [])
      refine oWk.st (fun _ kt => XS.iconst X.here hx rfl (hb hby at_119) kt) ?_
      show oWk _ _ _ _ T (mkF m 120 #[iv p0, iv p1, iv 3, iv 2, rv m3, rv m2, iv 1, iv 1, uu] [(.int 1)])
      refine oWk.st (fun _ kt => XS.goto X.here hx rfl (pc0 := 120) (pc' := 124) rfl (hb hby at_120) (by decide) (by decide) kt) ?_
      show oWk _ _ _ _ T (mkF m 124 #[iv p0, iv p1, iv 3, iv 2, rv m3, rv m2, iv 1, iv 1, uu] [(.int 1)])
      refine oWk.st (fun _ kt => XS.istore X.here hx rfl (hb hby at_124) rfl (l' := #[iv p0, iv p1, iv 3, iv 2, rv m3, rv m2, iv 1, iv 1, iv 1]) rfl kt) ?_
      show oWk _ _ _ _ T (mkF m 126 #[iv p0, iv p1, iv 3, iv 2, rv m3, rv m2, iv 1, iv 1, iv 1] [])
      refine oWk.st (fun _ kt => XS.iload X.here hx rfl (hb hby at_126) rfl kt) ?_
      show oWk _ _ _ _ T (mkF m 128 #[iv p0, iv p1, iv 3, iv 2, rv m3, rv m2, iv 1, iv 1, iv 1] [(.int 1)])
      refine oWk.st (fun _ kt => XS.ifNo X.here hx rfl (hb hby at_128) rfl ((if0 _ _).trans (feq (by decide)).1) kt) ?_
      show oWk _ _ _ _ T (mkF m 131 #[iv p0, iv p1, iv 3, iv 2, rv m3, rv m2, iv 1, iv 1, iv 1] [])
      refine oWk.st (fun _ kt => XS.iload X.here hx rfl (hb hby at_131) rfl kt) ?_
      show oWk _ _ _ _ T (mkF m 133 #[iv p0, iv p1, iv 3, iv 2, rv m3, rv m2, iv 1, iv 1, iv 1] [(.int 1)])
      refine oWk.st (fun _ kt => XS.ifNo X.here hx rfl (hb hby at_133) rfl ((if0 _ _).trans (feq (by decide)).1) kt) ?_
      show oWk _ _ _ _ T (mkF m 136 #[iv p0, iv p1, iv 3, iv 2, rv m3, rv m2, iv 1, iv 1, iv 1] [])
      refine oWk.st (fun _ kt => XS.iload X.here hx rfl (hb hby at_136) rfl kt) ?_
      show oWk _ _ _ _ T (mkF m 138 #[iv p0, iv p1, iv 3, iv 2, rv m3, rv m2, iv 1, iv 1, iv 1] [(.int 1)])
      refine oWk.st (fun _ kt => XS.ifNo X.here hx rfl (hb hby at_138) rfl ((if0 _ _).trans (feq (by decide)).1) kt) ?_
      show oWk _ _ _ _ T (mkF m 141 #[iv p0, iv p1, iv 3, iv 2, rv m3, rv m2, iv 1, iv 1, iv 1] [])
      refine oWk.st (fun _ kt => XS.iconst X.here hx rfl (hb hby at_141) kt) ?_
      show oWk _ _ _ _ T (mkF m 142 #[iv p0, iv p1, iv 3, iv 2, rv m3, rv m2, iv 1, iv 1, iv 1] [(.int 1)])
      refine oWk.st (fun _ kt => XS.goto X.here hx rfl (pc0 := 142) (pc' := 146) rfl (hb hby at_142) (by decide) (by decide) kt) ?_
      show oWk _ _ _ _ T (mkF m 146 #[iv p0, iv p1, iv 3, iv 2, rv m3, rv m2, iv 1, iv 1, iv 1] [(.int 1)])
      exact oRetZ X hx hlk hret (hb hby at_146) (Or.inr rfl) (by rw [e0]; exact ⟨rfl, K.fr⟩) (by decide) (by decide)
    · show oWk _ _ _ _ T (mkF m 17 #[iv p0, iv p1, iv 3, uu, uu, uu, uu, uu, uu] [(.int 3)])
      refine oWk.st (fun _ kt => XS.istoreN X.here hx rfl (hb hby at_17) rfl (l' := #[iv p0, iv p1, iv 3, iv 3, uu, uu, uu, uu, uu]) rfl kt) ?_
      show oWk _ _ _ _ T (mkF m 18 #[iv p0, iv p1, iv 3, iv 3, uu, uu, uu, uu, uu] [])
      refine oWk.st (fun _ kt => XS.iloadN X.here hx rfl (hb hby at_18) rfl kt) ?_
      show oWk _ _ _ _ T (mkF m 19 #[iv p0, iv p1, iv 3, iv 3, uu, uu, uu, uu, uu] [(.int 3)])
      have Oh := K.old O0 all0
      obtain ⟨_, _, ⟨T, L98, k98, n98⟩, -, X, ⟨Lc98, hQ, l98, y98, z98⟩, st⟩ := Jvm.LawKit.callS X hx (y := yy0) hown (mvT hZ (oW hw 1 rfl)) (mvT hZ (oW hw 2 rfl)) (mvT hZ (oW hw 3 rfl)) (mvT hZ (oW hw 4 rfl)) (by decide) (backOf (W := 0) (rHV3 l Z a0 hw [] m3 h0 Oh S_HEADING_ALL_VALUE) hZ (oW hw 4 rfl) (oW hw 3 rfl) (by decide) (by decide)) (g := (mkF m 19 #[iv p0, iv p1, iv 3, iv 3, uu, uu, uu, uu, uu] [(.int 3)])) rfl (by rw [hml]; rfl) (argsL := [(.int (3 : Int32))]) (rest := []) (lenOf pd_0 rfl) rfl (by show 2 * 0 + _ ≤ _; exact Nat.le_of_eq rfl) (hb hby at_19) (fun _ _ => ⟨rfl, e0, (by decide : 0 + 0 ≤ _), (by decide : 0 + 0 ≤ _)⟩)
      dsimp only [Pt.U, Pt.locs, Pt.cells, Pt.slots] at X l98 y98 z98 st hQ
      subst l98 y98 z98
      obtain ⟨rfl, e0, K97⟩ := hQ
      have K := K.call K97 all0
      rw [e0] at K
      refine oWk.st st ?_
      show oWk _ _ _ _ T (mkF m 22 #[iv p0, iv p1, iv 3, iv 3, uu, uu, uu, uu, uu] [(.ref m3)])
      refine oWk.st (fun _ kt => XS.astore X.here hx rfl (hb hby at_22) rfl rfl (l' := #[iv p0, iv p1, iv 3, iv 3, rv m3, uu, uu, uu, uu]) rfl kt) ?_
      show oWk _ _ _ _ T (mkF m 24 #[iv p0, iv p1, iv 3, iv 3, rv m3, uu, uu, uu, uu] [])
      refine oWk.st (fun _ kt => XS.iloadN X.here hx rfl (hb hby at_24) rfl kt) ?_
      show oWk _ _ _ _ T (mkF m 25 #[iv p0, iv p1, iv 3, iv 3, rv m3, uu, uu, uu, uu] [(.int 3)])
      have Oh := K.old O0 all0
      obtain ⟨_, _, ⟨T, L100, k100, n100⟩, -, X, ⟨Lc100, hQ, l100, y100, z100⟩, st⟩ := Jvm.LawKit.callS X hx (y := yy0) hown (mvT hZ (oW hw 1 rfl)) (mvT hZ (oW hw 2 rfl)) (mvT hZ (oW hw 3 rfl)) (mvT hZ (oW hw 4 rfl)) (by decide) (backOf (W := 0) (rHV3 l Z a0 hw [] m3 h0 Oh S_HEADING_ALL_VALUE) hZ (oW hw 4 rfl) (oW hw 3 rfl) (by decide) (by decide)) (g := (mkF m 25 #[iv p0, iv p1, iv 3, iv 3, rv m3, uu, uu, uu, uu] [(.int 3)])) rfl (by rw [hml]; rfl) (argsL := [(.int (3 : Int32))]) (rest := []) (lenOf pd_0 rfl) rfl (by show 2 * 0 + _ ≤ _; exact Nat.le_of_eq rfl) (hb hby at_25) (fun _ _ => ⟨rfl, e0, (by decide : 0 + 0 ≤ _), (by decide : 0 + 0 ≤ _)⟩)
      dsimp only [Pt.U, Pt.locs, Pt.cells, Pt.slots] at X l100 y100 z100 st hQ
      subst l100 y100 z100
      obtain ⟨rfl, e0, K99⟩ := hQ
      have K := K.call K99 all0
      rw [e0] at K
      refine oWk.st st ?_
      show oWk _ _ _ _ T (mkF m 28 #[iv p0, iv p1, iv 3, iv 3, rv m3, uu, uu, uu, uu] [(.ref m3)])
      refine oWk.st (fun _ kt => XS.astore X.here hx rfl (hb hby at_28) rfl rfl (l' := #[iv p0, iv p1, iv 3, iv 3, rv m3, rv m3, uu, uu, uu]) rfl kt) ?_
      show oWk _ _ _ _ T (mkF m 30 #[iv p0, iv p1, iv 3, iv 3, rv m3, rv m3, uu, uu, uu] [])
      refine oWk.st (fun _ kt => XS.aload X.here hx rfl (hb hby at_30) rfl rfl kt) ?_
      show oWk _ _ _ _ T (mkF m 32 #[iv p0, iv p1, iv 3, iv 3, rv m3, rv m3, uu, uu, uu] [(.ref m3)])
      refine oWk.st (fun _ kt => XS.iloadN X.here hx rfl (hb hby at_32) rfl kt) ?_
      show oWk _ _ _ _ T (mkF m 33 #[iv p0, iv p1, iv 3, iv 3, rv m3, rv m3, uu, uu, uu] [(.int 3), (.ref m3)])
      have Oh := K.old O0 all0
      obtain ⟨_, _, ⟨T, L102, k102, n102⟩, -, X, ⟨Lc102, hQ, l102, y102, z102⟩, st⟩ := Jvm.LawKit.callS X hx (y := yy1) hown (mvT hZ (oW hw 7 rfl)) (mvT hZ (oW hw 8 rfl)) (mvT hZ (oW hw 9 rfl)) (mvT hZ (oW hw 10 rfl)) (by decide) (backOf (W := 1) (rEX3 l Z a0 hw [] m3 h0 Oh S_HEADING_ALL_VALUE) hZ (oW hw 10 rfl) (oW hw 9 rfl) (by decide) (by decide)) (g := (mkF m 33 #[iv p0, iv p1, iv 3, iv 3, rv m3, rv m3, uu, uu, uu] [(.int 3), (.ref m3)])) rfl (by rw [hml]; rfl) (argsL := [(.int (3 : Int32))]) (rest := [(.ref m3)]) (lenOf pd_0 rfl) rfl (by show 2 * 0 + _ ≤ _; exact Nat.le_of_eq rfl) (hb hby at_33) (fun _ _ => ⟨rfl, e0, (by decide : 0 + 0 ≤ _), (by decide : 0 + 0 ≤ _)⟩)
      dsimp only [Pt.U, Pt.locs, Pt.cells, Pt.slots] at X l102 y102 z102 st hQ
      subst l102 y102 z102
      obtain ⟨rfl, e0, K101⟩ := hQ
      have K := K.call K101 all0
      rw [e0] at K
      refine oWk.st st ?_
      show oWk _ _ _ _ T (mkF m 36 #[iv p0, iv p1, iv 3, iv 3, rv m3, rv m3, uu, uu, uu] [(.ref m3), (.ref m3)])
      refine oWk.st (fun _ kt => Jvm.RoadKit.acmp (g := (mkF m 36 #[iv p0, iv p1, iv 3, iv 3, rv m3, rv m3, uu, uu, uu] [(.ref m3), (.ref m3)])) X hx rfl rfl rfl (pc0 := 36) (pc' := 39) (same := true) rfl (hb hby at_36) rfl (decide_eq_true rfl) (by decide) (by decide) kt) ?_
      show oWk _ _ _ _ T (mkF m 39 #[iv p0, iv p1, iv 3, iv 3, rv m3, rv m3, uu, uu, uu] [])
      refine oWk.st (fun _ kt => XS.aload X.here hx rfl (hb hby at_39) rfl rfl kt) ?_
      show oWk _ _ _ _ T (mkF m 41 #[iv p0, iv p1, iv 3, iv 3, rv m3, rv m3, uu, uu, uu] [(.ref m3)])
      refine oWk.st (fun _ kt => XS.iloadN X.here hx rfl (hb hby at_41) rfl kt) ?_
      show oWk _ _ _ _ T (mkF m 42 #[iv p0, iv p1, iv 3, iv 3, rv m3, rv m3, uu, uu, uu] [(.int 3), (.ref m3)])
      have Oh := K.old O0 all0
      obtain ⟨_, _, ⟨T, L104, k104, n104⟩, -, X, ⟨Lc104, hQ, l104, y104, z104⟩, st⟩ := Jvm.LawKit.callS X hx (y := yy1) hown (mvT hZ (oW hw 7 rfl)) (mvT hZ (oW hw 8 rfl)) (mvT hZ (oW hw 9 rfl)) (mvT hZ (oW hw 10 rfl)) (by decide) (backOf (W := 1) (rEX3 l Z a0 hw [] m3 h0 Oh S_HEADING_ALL_VALUE) hZ (oW hw 10 rfl) (oW hw 9 rfl) (by decide) (by decide)) (g := (mkF m 42 #[iv p0, iv p1, iv 3, iv 3, rv m3, rv m3, uu, uu, uu] [(.int 3), (.ref m3)])) rfl (by rw [hml]; rfl) (argsL := [(.int (3 : Int32))]) (rest := [(.ref m3)]) (lenOf pd_0 rfl) rfl (by show 2 * 0 + _ ≤ _; exact Nat.le_of_eq rfl) (hb hby at_42) (fun _ _ => ⟨rfl, e0, (by decide : 0 + 0 ≤ _), (by decide : 0 + 0 ≤ _)⟩)
      dsimp only [Pt.U, Pt.locs, Pt.cells, Pt.slots] at X l104 y104 z104 st hQ
      subst l104 y104 z104
      obtain ⟨rfl, e0, K103⟩ := hQ
      have K := K.call K103 all0
      rw [e0] at K
      refine oWk.st st ?_
      show oWk _ _ _ _ T (mkF m 45 #[iv p0, iv p1, iv 3, iv 3, rv m3, rv m3, uu, uu, uu] [(.ref m3), (.ref m3)])
      refine oWk.st (fun _ kt => Jvm.RoadKit.acmp (g := (mkF m 45 #[iv p0, iv p1, iv 3, iv 3, rv m3, rv m3, uu, uu, uu] [(.ref m3), (.ref m3)])) X hx rfl rfl rfl (pc0 := 45) (pc' := 48) (same := true) rfl (hb hby at_45) rfl (decide_eq_true rfl) (by decide) (by decide) kt) ?_
      show oWk _ _ _ _ T (mkF m 48 #[iv p0, iv p1, iv 3, iv 3, rv m3, rv m3, uu, uu, uu] [])
      refine oWk.st (fun _ kt => XS.iconst X.here hx rfl (hb hby at_48) kt) ?_
      show oWk _ _ _ _ T (mkF m 49 #[iv p0, iv p1, iv 3, iv 3, rv m3, rv m3, uu, uu, uu] [(.int 1)])
      refine oWk.st (fun _ kt => XS.goto X.here hx rfl (pc0 := 49) (pc' := 53) rfl (hb hby at_49) (by decide) (by decide) kt) ?_
      show oWk _ _ _ _ T (mkF m 53 #[iv p0, iv p1, iv 3, iv 3, rv m3, rv m3, uu, uu, uu] [(.int 1)])
      refine oWk.st (fun _ kt => XS.istore X.here hx rfl (hb hby at_53) rfl (l' := #[iv p0, iv p1, iv 3, iv 3, rv m3, rv m3, iv 1, uu, uu]) rfl kt) ?_
      show oWk _ _ _ _ T (mkF m 55 #[iv p0, iv p1, iv 3, iv 3, rv m3, rv m3, iv 1, uu, uu] [])
      refine oWk.st (fun _ kt => XS.iloadN X.here hx rfl (hb hby at_55) rfl kt) ?_
      show oWk _ _ _ _ T (mkF m 56 #[iv p0, iv p1, iv 3, iv 3, rv m3, rv m3, iv 1, uu, uu] [(.int 3)])
      refine oWk.st (fun _ kt => XS.iloadN X.here hx rfl (hb hby at_56) rfl kt) ?_
      show oWk _ _ _ _ T (mkF m 57 #[iv p0, iv p1, iv 3, iv 3, rv m3, rv m3, iv 1, uu, uu] [(.int 3), (.int 3)])
      refine oWk.st (fun _ kt => XS.icmpNo X.here hx rfl (hb hby at_57) rfl (teq (by decide)).2 kt) ?_
      show oWk _ _ _ _ T (mkF m 60 #[iv p0, iv p1, iv 3, iv 3, rv m3, rv m3, iv 1, uu, uu] [])
      refine oWk.st (fun _ kt => XS.iconst X.here hx rfl (hb hby at_60) kt) ?_
      show oWk _ _ _ _ T (mkF m 61 #[iv p0, iv p1, iv 3, iv 3, rv m3, rv m3, iv 1, uu, uu] [(.int 1)])
      refine oWk.st (fun _ kt => XS.goto X.here hx rfl (pc0 := 61) (pc' := 65) rfl (hb hby at_61) (by decide) (by decide) kt) ?_
      show oWk _ _ _ _ T (mkF m 65 #[iv p0, iv p1, iv 3, iv 3, rv m3, rv m3, iv 1, uu, uu] [(.int 1)])
      refine oWk.st (fun _ kt => XS.aload X.here hx rfl (hb hby at_65) rfl rfl kt) ?_
      show oWk _ _ _ _ T (mkF m 67 #[iv p0, iv p1, iv 3, iv 3, rv m3, rv m3, iv 1, uu, uu] [(.ref m3), (.int 1)])
      refine oWk.st (fun _ kt => XS.aload X.here hx rfl (hb hby at_67) rfl rfl kt) ?_
      show oWk _ _ _ _ T (mkF m 69 #[iv p0, iv p1, iv 3, iv 3, rv m3, rv m3, iv 1, uu, uu] [(.ref m3), (.ref m3), (.int 1)])
      refine oWk.st (fun _ kt => Jvm.RoadKit.acmp (g := (mkF m 69 #[iv p0, iv p1, iv 3, iv 3, rv m3, rv m3, iv 1, uu, uu] [(.ref m3), (.ref m3), (.int 1)])) X hx rfl rfl rfl (pc0 := 69) (pc' := 72) (same := true) rfl (hb hby at_69) rfl (decide_eq_true rfl) (by decide) (by decide) kt) ?_
      show oWk _ _ _ _ T (mkF m 72 #[iv p0, iv p1, iv 3, iv 3, rv m3, rv m3, iv 1, uu, uu] [(.int 1)])
      refine oWk.st (fun _ kt => XS.iconst X.here hx rfl (hb hby at_72) kt) ?_
      show oWk _ _ _ _ T (mkF m 73 #[iv p0, iv p1, iv 3, iv 3, rv m3, rv m3, iv 1, uu, uu] [(.int 1), (.int 1)])
      refine oWk.st (fun _ kt => XS.goto X.here hx rfl (pc0 := 73) (pc' := 77) rfl (hb hby at_73) (by decide) (by decide) kt) ?_
      show oWk _ _ _ _ T (mkF m 77 #[iv p0, iv p1, iv 3, iv 3, rv m3, rv m3, iv 1, uu, uu] [(.int 1), (.int 1)])
      refine oWk.st (fun _ kt => XS.icmpNo X.here hx rfl (hb hby at_77) rfl (teq (by decide)).2 kt) ?_
      show oWk _ _ _ _ T (mkF m 80 #[iv p0, iv p1, iv 3, iv 3, rv m3, rv m3, iv 1, uu, uu] [])
      refine oWk.st (fun _ kt => XS.iconst X.here hx rfl (hb hby at_80) kt) ?_
      show oWk _ _ _ _ T (mkF m 81 #[iv p0, iv p1, iv 3, iv 3, rv m3, rv m3, iv 1, uu, uu] [(.int 1)])
      refine oWk.st (fun _ kt => XS.goto X.here hx rfl (pc0 := 81) (pc' := 85) rfl (hb hby at_81) (by decide) (by decide) kt) ?_
      show oWk _ _ _ _ T (mkF m 85 #[iv p0, iv p1, iv 3, iv 3, rv m3, rv m3, iv 1, uu, uu] [(.int 1)])
      refine oWk.st (fun _ kt => XS.istore X.here hx rfl (hb hby at_85) rfl (l' := #[iv p0, iv p1, iv 3, iv 3, rv m3, rv m3, iv 1, iv 1, uu]) rfl kt) ?_
      show oWk _ _ _ _ T (mkF m 87 #[iv p0, iv p1, iv 3, iv 3, rv m3, rv m3, iv 1, iv 1, uu] [])
      refine oWk.st (fun _ kt => XS.iloadN X.here hx rfl (hb hby at_87) rfl kt) ?_
      show oWk _ _ _ _ T (mkF m 88 #[iv p0, iv p1, iv 3, iv 3, rv m3, rv m3, iv 1, iv 1, uu] [(.int 3)])
      refine oWk.st (fun _ kt => XS.iloadN X.here hx rfl (hb hby at_88) rfl kt) ?_
      show oWk _ _ _ _ T (mkF m 89 #[iv p0, iv p1, iv 3, iv 3, rv m3, rv m3, iv 1, iv 1, uu] [(.int 3), (.int 3)])
      refine oWk.st (fun _ kt => XS.icmpYes X.here hx rfl (pc0 := 89) (pc' := 96) rfl (hb hby at_89) rfl (flt (by decide)).2.1 (by decide) (by decide) kt) ?_
      show oWk _ _ _ _ T (mkF m 96 #[iv p0, iv p1, iv 3, iv 3, rv m3, rv m3, iv 1, iv 1, uu] [])
      refine oWk.st (fun _ kt => XS.iconst X.here hx rfl (hb hby at_96) kt) ?_
      show oWk _ _ _ _ T (mkF m 97 #[iv p0, iv p1, iv 3, iv 3, rv m3, rv m3, iv 1, iv 1, uu] [(.int 0)])
      refine oWk.st (fun _ kt => XS.aload X.here hx rfl (hb hby at_97) rfl rfl kt) ?_
      show oWk _ _ _ _ T (mkF m 99 #[iv p0, iv p1, iv 3, iv 3, rv m3, rv m3, iv 1, iv 1, uu] [(.ref m3), (.int 0)])
      have Oh := K.old O0 all0
      obtain ⟨cq106, kq106, q106a, q106b, q106c⟩ := isOf hZ e0 E_m3
      obtain ⟨_, _, ⟨T, L106, k106, n106⟩, -, X, ⟨Lc106, hQ, l106, y106, z106⟩, st⟩ := X.virtualBack hx (y := yy2) (z := yy2) hown (mvT hZ (oW hw 12 rfl)) (mvT hZ (oW hw 13 rfl)) (notFace_of_selects (args := #[]) (mvT hZ (oW hw 15 rfl))) (mvT hZ (oW hw 15 rfl)) (mvT hZ (oW hw 14 rfl)) (by decide) (backOf (W := 1) (rDV l Z a0 hw [] m3 (4607632778762754458 : UInt64) h0 Oh F_defaultValue_m3) hZ (oW hw 16 rfl) (oW hw 3 rfl) (by decide) (by decide)) q106a q106c (g := (mkF m 99 #[iv p0, iv p1, iv 3, iv 3, rv m3, rv m3, iv 1, iv 1, uu] [(.ref m3), (.int 0)])) rfl (by rw [hml]; rfl) (Steps.refl _) (argsL := []) (rest := [(.int (0 : Int32))]) (lenOf pd_1 rfl) rfl (by show 2 * 0 + _ ≤ _; exact Nat.le_of_eq rfl) (hb hby at_99) (fun _ _ => ⟨rfl, e0, (by decide : 0 + 0 ≤ _), (by decide : 0 + 0 ≤ _)⟩)
      dsimp only [Pt.U, Pt.locs, Pt.cells, Pt.slots] at X l106 y106 z106 st hQ
      subst l106 y106 z106
      obtain ⟨rfl, e0, K105⟩ := hQ
      have K := K.call K105 all0
      rw [e0] at K
      refine oWk.tr st ?_
      show oWk _ _ _ _ T (mkF m 102 #[iv p0, iv p1, iv 3, iv 3, rv m3, rv m3, iv 1, iv 1, uu] [(.double (4607632778762754458 : UInt64)), (.int 0)])
      refine oWk.st (fun _ kt => XS.aload X.here hx rfl (hb hby at_102) rfl rfl kt) ?_
      show oWk _ _ _ _ T (mkF m 104 #[iv p0, iv p1, iv 3, iv 3, rv m3, rv m3, iv 1, iv 1, uu] [(.ref m3), (.double (4607632778762754458 : UInt64)), (.int 0)])
      have Oh := K.old O0 all0
      obtain ⟨cq108, kq108, q108a, q108b, q108c⟩ := isOf hZ e0 E_m3
      obtain ⟨_, _, ⟨T, L108, k108, n108⟩, -, X, ⟨Lc108, hQ, l108, y108, z108⟩, st⟩ := X.virtualBack hx (y := yy2) (z := yy2) hown (mvT hZ (oW hw 12 rfl)) (mvT hZ (oW hw 13 rfl)) (notFace_of_selects (args := #[]) (mvT hZ (oW hw 15 rfl))) (mvT hZ (oW hw 15 rfl)) (mvT hZ (oW hw 14 rfl)) (by decide) (backOf (W := 3) (rDV l Z a0 hw [] m3 (4607632778762754458 : UInt64) h0 Oh F_defaultValue_m3) hZ (oW hw 16 rfl) (oW hw 3 rfl) (by decide) (by decide)) q108a q108c (g := (mkF m 104 #[iv p0, iv p1, iv 3, iv 3, rv m3, rv m3, iv 1, iv 1, uu] [(.ref m3), (.double (4607632778762754458 : UInt64)), (.int 0)])) rfl (by rw [hml]; rfl) (Steps.refl _) (argsL := []) (rest := [(.double (4607632778762754458 : UInt64)), (.int (0 : Int32))]) (lenOf pd_1 rfl) rfl (by show 2 * 0 + _ ≤ _; exact Nat.le_of_eq rfl) (hb hby at_104) (fun _ _ => ⟨rfl, e0, (by decide : 0 + 0 ≤ _), (by decide : 0 + 0 ≤ _)⟩)
      dsimp only [Pt.U, Pt.locs, Pt.cells, Pt.slots] at X l108 y108 z108 st hQ
      subst l108 y108 z108
      obtain ⟨rfl, e0, K107⟩ := hQ
      have K := K.call K107 all0
      rw [e0] at K
      refine oWk.tr st ?_
      show oWk _ _ _ _ T (mkF m 107 #[iv p0, iv p1, iv 3, iv 3, rv m3, rv m3, iv 1, iv 1, uu] [(.double (4607632778762754458 : UInt64)), (.double (4607632778762754458 : UInt64)), (.int 0)])
      refine oWk.st (fun _ kt => XS.dcmpS X.here hx rfl (v := (0 : Int32)) (hb hby at_107) rfl (by decide +kernel) kt) ?_
      show oWk _ _ _ _ T (mkF m 108 #[iv p0, iv p1, iv 3, iv 3, rv m3, rv m3, iv 1, iv 1, uu] [(.int 0), (.int 0)])
      refine oWk.st (fun _ kt => XS.ifYes X.here hx rfl (pc0 := 108) (pc' := 115) rfl (hb hby at_108) rfl ((if0 _ _).trans (flt (by decide)).2.2.2) (by decide) (by decide) kt) ?_
      show oWk _ _ _ _ T (mkF m 115 #[iv p0, iv p1, iv 3, iv 3, rv m3, rv m3, iv 1, iv 1, uu] [(.int 0)])
      refine oWk.st (fun _ kt => XS.iconst X.here hx rfl (hb hby at_115) kt) ?_
      show oWk _ _ _ _ T (mkF m 116 #[iv p0, iv p1, iv 3, iv 3, rv m3, rv m3, iv 1, iv 1, uu] [(.int 0), (.int 0)])
      refine oWk.st (fun _ kt => XS.icmpNo X.here hx rfl (hb hby at_116) rfl (teq (by decide)).2 kt) ?_
      show oWk _ _ _ _ T (mkF m 119 #[iv p0, iv p1, iv 3, iv 3, rv m3, rv m3, iv 1, iv 1, uu] [])
      refine oWk.st (fun _ kt => XS.iconst X.here hx rfl (hb hby at_119) kt) ?_
      show oWk _ _ _ _ T (mkF m 120 #[iv p0, iv p1, iv 3, iv 3, rv m3, rv m3, iv 1, iv 1, uu] [(.int 1)])
      refine oWk.st (fun _ kt => XS.goto X.here hx rfl (pc0 := 120) (pc' := 124) rfl (hb hby at_120) (by decide) (by decide) kt) ?_
      show oWk _ _ _ _ T (mkF m 124 #[iv p0, iv p1, iv 3, iv 3, rv m3, rv m3, iv 1, iv 1, uu] [(.int 1)])
      refine oWk.st (fun _ kt => XS.istore X.here hx rfl (hb hby at_124) rfl (l' := #[iv p0, iv p1, iv 3, iv 3, rv m3, rv m3, iv 1, iv 1, iv 1]) rfl kt) ?_
      show oWk _ _ _ _ T (mkF m 126 #[iv p0, iv p1, iv 3, iv 3, rv m3, rv m3, iv 1, iv 1, iv 1] [])
      refine oWk.st (fun _ kt => XS.iload X.here hx rfl (hb hby at_126) rfl kt) ?_
      show oWk _ _ _ _ T (mkF m 128 #[iv p0, iv p1, iv 3, iv 3, rv m3, rv m3, iv 1, iv 1, iv 1] [(.int 1)])
      refine oWk.st (fun _ kt => XS.ifNo X.here hx rfl (hb hby at_128) rfl ((if0 _ _).trans (feq (by decide)).1) kt) ?_
      show oWk _ _ _ _ T (mkF m 131 #[iv p0, iv p1, iv 3, iv 3, rv m3, rv m3, iv 1, iv 1, iv 1] [])
      refine oWk.st (fun _ kt => XS.iload X.here hx rfl (hb hby at_131) rfl kt) ?_
      show oWk _ _ _ _ T (mkF m 133 #[iv p0, iv p1, iv 3, iv 3, rv m3, rv m3, iv 1, iv 1, iv 1] [(.int 1)])
      refine oWk.st (fun _ kt => XS.ifNo X.here hx rfl (hb hby at_133) rfl ((if0 _ _).trans (feq (by decide)).1) kt) ?_
      show oWk _ _ _ _ T (mkF m 136 #[iv p0, iv p1, iv 3, iv 3, rv m3, rv m3, iv 1, iv 1, iv 1] [])
      refine oWk.st (fun _ kt => XS.iload X.here hx rfl (hb hby at_136) rfl kt) ?_
      show oWk _ _ _ _ T (mkF m 138 #[iv p0, iv p1, iv 3, iv 3, rv m3, rv m3, iv 1, iv 1, iv 1] [(.int 1)])
      refine oWk.st (fun _ kt => XS.ifNo X.here hx rfl (hb hby at_138) rfl ((if0 _ _).trans (feq (by decide)).1) kt) ?_
      show oWk _ _ _ _ T (mkF m 141 #[iv p0, iv p1, iv 3, iv 3, rv m3, rv m3, iv 1, iv 1, iv 1] [])
      refine oWk.st (fun _ kt => XS.iconst X.here hx rfl (hb hby at_141) kt) ?_
      show oWk _ _ _ _ T (mkF m 142 #[iv p0, iv p1, iv 3, iv 3, rv m3, rv m3, iv 1, iv 1, iv 1] [(.int 1)])
      refine oWk.st (fun _ kt => XS.goto X.here hx rfl (pc0 := 142) (pc' := 146) rfl (hb hby at_142) (by decide) (by decide) kt) ?_
      show oWk _ _ _ _ T (mkF m 146 #[iv p0, iv p1, iv 3, iv 3, rv m3, rv m3, iv 1, iv 1, iv 1] [(.int 1)])
      exact oRetZ X hx hlk hret (hb hby at_146) (Or.inr rfl) (by rw [e0]; exact ⟨rfl, K.fr⟩) (by decide) (by decide)
set_option maxRecDepth 65536 in
set_option maxHeartbeats 40000000 in
theorem comes_1 {Post : Tables → Env → Array Value → State → Outcome → State → Prop} (hpost : ∀ tb e args s v u, (limb_1_1.after args s (.returned v) u = true ∧ limb_1_2.after args s (.returned v) u = true ∧ True) → FrameEnd s (.returned v) u (Jvm.fieldLocs frame_1_writes args s ++ Jvm.arrayLocs frame_1_arrays args s ++ Jvm.staticLocs frame_1_statics s) 0 0 → Post tb e args s (.returned v) u) :
    ArmFor flags0 classFile x code maxLocals ret World_1 tables_1 room_1 Calls_1 rest_1 Pre_1 Post := by
  intro l hfl _ _ p e ha hc hk s m args below hf hA hF happ hP
  obtain ⟨hcalls, hrest, hpre⟩ := hP
  obtain ⟨-, -, -, hnamed, -, -, -, hat⟩ := (Spec.applies_iff hf).mp happ
  obtain ⟨hg, hn⟩ := and_e (Cond.before_iff.mp (show (Jvm.Cond.and given_1 narrow_1).before args s = true from hpre))
  obtain ⟨n1, n2⟩ := and_e hg
  obtain ⟨n3, n4⟩ := and_e n2
  obtain ⟨w0, w1, rfl⟩ : ∃ w0 w1 : Value, args = #[w0, w1] := by
    have hs : args.size = 2 := by simpa [Cond.value, given_1] using n1
    obtain ⟨L⟩ := args
    match L, hs with
    | [w0, w1], _ => exact ⟨w0, w1, rfl⟩
  have hw := fun d (hd : d ∈ tables_1) => atoms_spec (ws := Jvm.Cond.code x code maxLocals ret :: tables_1) hat d (List.mem_cons_of_mem _ hd)
  have hfit : Fit s := fun {y c} hc i hi => by
    obtain ⟨ha, rfl⟩ := Array.getElem?_eq_some_iff.mp hc
    have q := List.all_eq_true.mp ((Array.all_eq_true_iff_forall_mem.mp hF) _ (Array.getElem_mem ha)) i (List.mem_range.mpr hi)
    simpa [Array.getElem?_eq_getElem hi] using q
  obtain ⟨i0, ei0⟩ := is_v n3
  obtain rfl : w0 = (.int i0) := Option.some.inj ei0
  obtain ⟨i1, ei1⟩ := is_v n4
  obtain rfl : w1 = (.int i1) := Option.some.inj ei1
  obtain ⟨n5, n6⟩ := and_e hn
  obtain ⟨n7, n8⟩ := and_e n6
  obtain ⟨n9, n10⟩ := and_e n8
  obtain ⟨n11, n12⟩ := and_e n10
  obtain ⟨n13, n14⟩ := and_e n12
  obtain ⟨n15, n16⟩ := and_e n14
  obtain ⟨n17, n18⟩ := and_e n16
  obtain ⟨n19, n20⟩ := and_e n18
  obtain ⟨m_HEADING_OWN_VALUE_21, v_m_HEADING_OWN_VALUE_21⟩ := exa_v n5
  have E_m_HEADING_OWN_VALUE_21 := Exa.start v_m_HEADING_OWN_VALUE_21 n5
  have S_m_HEADING_OWN_VALUE_21 := Sta.start v_m_HEADING_OWN_VALUE_21 (Or.inr ⟨(oW hw 3 rfl), (oW hw 6 rfl)⟩)
  have F_defaultValue_22 := oFldD v_m_HEADING_OWN_VALUE_21 n7
  obtain ⟨m_HEADING_ALL_VALUE_23, v_m_HEADING_ALL_VALUE_23⟩ := exa_v n9
  have E_m_HEADING_ALL_VALUE_23 := Exa.start v_m_HEADING_ALL_VALUE_23 n9
  have S_m_HEADING_ALL_VALUE_23 := Sta.start v_m_HEADING_ALL_VALUE_23 (Or.inr ⟨(oW hw 3 rfl), (oW hw 20 rfl)⟩)
  obtain ⟨m_HEADING_PARENT_VALUE_24, v_m_HEADING_PARENT_VALUE_24⟩ := exa_v n11
  have E_m_HEADING_PARENT_VALUE_24 := Exa.start v_m_HEADING_PARENT_VALUE_24 n11
  have S_m_HEADING_PARENT_VALUE_24 := Sta.start v_m_HEADING_PARENT_VALUE_24 (Or.inr ⟨(oW hw 3 rfl), (oW hw 22 rfl)⟩)
  have F_ordinal_25 := oFldI v_m_HEADING_ALL_VALUE_23 n13
  have F_ordinal_26 := oFldI v_m_HEADING_PARENT_VALUE_24 n15
  have F_defaultValue_27 := oFldD v_m_HEADING_ALL_VALUE_23 n17
  have F_defaultValue_28 := oFldD v_m_HEADING_PARENT_VALUE_24 n19
  have F_ordinal_29 := oFldI v_m_HEADING_OWN_VALUE_21 n20
  have ne_0_1 : m_HEADING_OWN_VALUE_21 ≠ m_HEADING_PARENT_VALUE_24 := Fld.ne F_ordinal_29 F_ordinal_26 (fun q => absurd (Value.int.inj q) (by decide))
  have ne_0_2 : m_HEADING_OWN_VALUE_21 ≠ m_HEADING_ALL_VALUE_23 := Fld.ne F_ordinal_29 F_ordinal_25 (fun q => absurd (Value.int.inj q) (by decide))
  have ne_1_2 : m_HEADING_PARENT_VALUE_24 ≠ m_HEADING_ALL_VALUE_23 := Fld.ne F_ordinal_26 F_ordinal_25 (fun q => absurd (Value.int.inj q) (by decide))
  obtain ⟨n, o, h1, h2, h3, _, L, rfl, ⟨rfl, N⟩, hq⟩ := rLaw l s _ hw tables_1 i0 i1 m_HEADING_OWN_VALUE_21 m_HEADING_PARENT_VALUE_24 m_HEADING_ALL_VALUE_23 s.heap (oExtRefl _) S_m_HEADING_OWN_VALUE_21 S_m_HEADING_PARENT_VALUE_24 S_m_HEADING_ALL_VALUE_23 ne_0_1 ne_0_2 ne_1_2 E_m_HEADING_OWN_VALUE_21 E_m_HEADING_PARENT_VALUE_24 E_m_HEADING_ALL_VALUE_23 F_defaultValue_22 F_defaultValue_28 F_defaultValue_27 p e ha hc hk s m _ below hf ((Spec.applies_iff_loose hf).mp happ).1 ⟨rfl, State.Warmed39.refl s, rfl⟩ trivial
  refine ⟨n, _, h1, h2, h3, hpost _ _ _ _ _ _ ⟨Cond.after_iff.mpr rfl, Cond.after_iff.mpr (eq_i res_at (Term.int_eval (1)) rfl), trivial⟩ ⟨hq.1, hq.2.1, (hq.2.2.sift fun y hy => Or.inr (N y hy)).mono (by decide) (by decide)⟩⟩
theorem main_1_1 : Claimed_1_1 := comes_1 fun _ _ _ _ _ _ h hF => ⟨h.1, hF⟩
theorem main_1_2 : Claimed_1_2 := comes_1 fun _ _ _ _ _ _ h hF => ⟨h.2.1, hF⟩
end Jvm.Pilot.@@N@@
namespace Jvm.Pilot.@@N@@
open Jvm Jvm.ClassFile Sem Op Lib Jvm.Free Jvm.Stand Jvm.Pilot.@@N@@.Jvm.D
/-! MADE BY PROGRAM (witnessworld.py) out of the Statement's table words and the real class files: 12 classes; the members and pool entries that the words name. The judged class is class 1, her method 1. -/
namespace start1
open Jvm.ClassFile
def u (s : String) : CpInfo := .utf8 (stringToUtf16 s)
/-- a pool by its gaps: so many unusable entries, then the entry; so many at the end -/
def gap : Nat → List CpInfo → List CpInfo
  | 0, r => r
  | n + 1, r => .unusable :: gap n r
def poolList (es : List (Nat × CpInfo)) (last : Nat) : List CpInfo := es.foldr (fun e r => gap e.1 (e.2 :: r)) (gap last [])
def pool (es : List (Nat × CpInfo)) (last : Nat) : Array CpInfo := ⟨poolList es last⟩
def fileOf (pool : Array CpInfo) (this : Nat) (attrs : Array Attribute := #[]) (ms : Array MethodInfo := #[]) (fl : Nat := 33) (sup : Nat := 0) (ifs : Array Nat := #[]) (fds : Array FieldInfo := #[]) : ClassFile where
  minorVersion := 0
  majorVersion := 65
  constantPool := pool
  accessFlags := fl
  thisClass := this
  superClass := sup
  interfaces := ifs
  fields := fds
  methods := ms
  attributes := attrs
def plain (name : String) (sup : Option ClassId) : Class where
  name := name
  kind := .ordinary
  loader := none
  accessFlags := 33
  super := sup
  interfaces := #[]
  cf := none
  fields := #[]
  methods := #[]
  instanceTypes := #[]
  staticTypes := #[]
  resolved := #[]
  callSites := []
  init := .initialized
  statics := none
  mirror := none

def pool0 : Array CpInfo := pool [(5, u "<init>"), (0, u "()V"), (1, .class_ 10), (1, u "java/lang/Object")] 113

def k0m0 : Method := { name := "<init>", desc := "()V", sig := { parameters := [], returnType := none }, accessFlags := 1, code := none }
/-- java/lang/Object -/
def k0 : Class := { plain "java/lang/Object" none with
  accessFlags := 33
  interfaces := #[]
  cf := some (fileOf pool0 8 #[] #[{ accessFlags := 1, nameIndex := 5, descriptorIndex := 6, attributes := #[] }] 33 0 #[] #[])
  fields := #[]
  methods := #[k0m0]
  instanceTypes := #[]
  staticTypes := #[]
  resolved := Array.replicate 124 none
  statics := none }

def pool1 : Array CpInfo := pool [(2, .class_ 4), (1, u "java/lang/Object"), (0, u "<init>"), (0, u "()V"), (0, .integer 2147483647), (0, .methodref 9 10), (0, .class_ 11), (0, .nameAndType 12 13), (0, u "com/example/classement/classement/ranking/Setting"), (0, u "headingValue"), (0, u "(I)Lcom/example/classement/classement/ranking/Setting;"), (0, .methodref 15 16), (0, .class_ 17), (0, .nameAndType 18 13), (0, u "com/example/classement/classement/ranking/SettingHeadingValuePinLaw"), (0, u "expected"), (0, .methodref 9 20), (0, .nameAndType 21 22), (0, u "defaultValue"), (0, u "()D"), (0, .fieldref 9 24), (0, .nameAndType 25 26), (0, u "HEADING_OWN_VALUE"), (0, u "Lcom/example/classement/classement/ranking/Setting;"), (0, .fieldref 9 28), (0, .nameAndType 29 26), (0, u "HEADING_PARENT_VALUE"), (0, .fieldref 9 31), (0, .nameAndType 32 26), (0, u "HEADING_ALL_VALUE"), (2, u "law"), (0, u "(II)Z")] 3

def k1m0 : Method := { name := "<init>", desc := "()V", sig := { parameters := [], returnType := none }, accessFlags := 2, code := none }
def k1c1 : Code := { maxStack := 5, maxLocals := 9, code := code, exceptionTable := #[], attributes := #[] }
def k1m1 : Method := { name := "law", desc := "(II)Z", sig := { parameters := [.int, .int], returnType := some .boolean }, accessFlags := 9, code := some k1c1 }
def k1c2 : Code := { maxStack := 2, maxLocals := 1, code := method_3_code, exceptionTable := #[], attributes := #[] }
def k1m2 : Method := { name := "expected", desc := "(I)Lcom/example/classement/classement/ranking/Setting;", sig := { parameters := [.int], returnType := some (.object "com/example/classement/classement/ranking/Setting") }, accessFlags := 10, code := some k1c2 }
/-- com/example/classement/classement/ranking/SettingHeadingValuePinLaw -/
def k1 : Class := { plain "com/example/classement/classement/ranking/SettingHeadingValuePinLaw" (some 0) with
  accessFlags := 49
  interfaces := #[]
  cf := some (fileOf pool1 15 #[] #[{ accessFlags := 2, nameIndex := 5, descriptorIndex := 6, attributes := #[] }, { accessFlags := 9, nameIndex := 35, descriptorIndex := 36, attributes := #[] }, { accessFlags := 10, nameIndex := 18, descriptorIndex := 13, attributes := #[] }] 49 2 #[] #[])
  fields := #[]
  methods := #[k1m0, k1m1, k1m2]
  instanceTypes := #[]
  staticTypes := #[]
  resolved := Array.replicate 40 none
  statics := none }

def pool2 : Array CpInfo := pool [(1, .class_ 2), (0, u "java/lang/constant/Constable"), (0, .class_ 4), (0, u "java/lang/Object")] 6

/-- java/lang/constant/Constable -/
def k2 : Class := { plain "java/lang/constant/Constable" (some 0) with
  accessFlags := 1537
  interfaces := #[]
  cf := some (fileOf pool2 1 #[] #[] 1537 3 #[] #[])
  fields := #[]
  methods := #[]
  instanceTypes := #[]
  staticTypes := #[]
  resolved := Array.replicate 11 none
  statics := none }

def pool3 : Array CpInfo := pool [(1, .class_ 2), (0, u "java/lang/Comparable"), (0, .class_ 4), (0, u "java/lang/Object")] 7

/-- java/lang/Comparable -/
def k3 : Class := { plain "java/lang/Comparable" (some 0) with
  accessFlags := 1537
  interfaces := #[]
  cf := some (fileOf pool3 1 #[] #[] 1537 3 #[] #[])
  fields := #[]
  methods := #[]
  instanceTypes := #[]
  staticTypes := #[]
  resolved := Array.replicate 12 none
  statics := none }

def pool4 : Array CpInfo := pool [(1, .class_ 2), (0, u "java/io/Serializable"), (0, .class_ 4), (0, u "java/lang/Object")] 2

/-- java/io/Serializable -/
def k4 : Class := { plain "java/io/Serializable" (some 0) with
  accessFlags := 1537
  interfaces := #[]
  cf := some (fileOf pool4 1 #[] #[] 1537 3 #[] #[])
  fields := #[]
  methods := #[]
  instanceTypes := #[]
  staticTypes := #[]
  resolved := Array.replicate 7 none
  statics := none }

def pool5 : Array CpInfo := pool [(2, .class_ 4), (1, u "java/lang/Enum"), (0, u "name"), (0, u "Ljava/lang/String;"), (2, u "ordinal"), (0, u "I"), (1, .class_ 14), (1, u "java/lang/Object"), (4, u "hash"), (86, .class_ 108), (1, u "java/lang/Enum$EnumDesc"), (2, .class_ 112), (0, u "java/lang/constant/Constable"), (0, .class_ 114), (0, u "java/lang/Comparable"), (0, .class_ 116), (0, u "java/io/Serializable")] 87

/-- java/lang/Enum -/
def k5 : Class := { plain "java/lang/Enum" (some 0) with
  accessFlags := 1057
  interfaces := #[2, 3, 4]
  cf := some (fileOf pool5 2 #[.nestMembers #[106]] #[] 1057 12 #[111, 113, 115] #[{ accessFlags := 18, nameIndex := 5, descriptorIndex := 6, attributes := #[] }, { accessFlags := 18, nameIndex := 9, descriptorIndex := 10, attributes := #[] }, { accessFlags := 2, nameIndex := 19, descriptorIndex := 10, attributes := #[] }])
  fields := #[{ name := "name", type := (.object "java/lang/String"), accessFlags := 18, slot := 0, constantValue := 0 }, { name := "ordinal", type := .int, accessFlags := 18, slot := 1, constantValue := 0 }, { name := "hash", type := .int, accessFlags := 2, slot := 2, constantValue := 0 }]
  methods := #[]
  instanceTypes := #[(.object "java/lang/String"), .int, .int]
  staticTypes := #[]
  resolved := Array.replicate 204 none
  statics := none }

def pool6 : Array CpInfo := pool [(1, .class_ 2), (0, u "com/example/classement/classement/ranking/Setting"), (2, u "HEADING_OWN_MIN"), (0, u "Lcom/example/classement/classement/ranking/Setting;"), (0, .fieldref 1 8), (0, .nameAndType 9 6), (0, u "HEADING_OWN_VALUE"), (2, u "HEADING_PARENT_MIN"), (0, .fieldref 1 14), (0, .nameAndType 15 6), (0, u "HEADING_PARENT_VALUE"), (2, u "HEADING_ALL_MIN"), (0, .fieldref 1 20), (0, .nameAndType 21 6), (0, u "HEADING_ALL_VALUE"), (2, u "DEPTH_MIN"), (2, u "DEPTH_VALUE"), (2, u "COVERAGE_MIN"), (2, u "COVERAGE_VALUE"), (2, u "QUESTION_TEXT"), (2, u "QUESTION_OWN_HEADING"), (2, u "QUESTION_HEADING"), (2, u "$VALUES"), (0, u "[Lcom/example/classement/classement/ranking/Setting;"), (6, .class_ 55), (1, u "java/lang/Enum"), (8, u "factor"), (0, u "Lcom/example/classement/classement/ranking/Factor;"), (0, .fieldref 1 67), (0, .nameAndType 68 69), (0, u "defaultValue"), (0, u "D"), (2, u "range"), (0, u "Lcom/example/classement/classement/ranking/Setting$Range;"), (25, .class_ 101), (1, u "com/example/classement/classement/ranking/Setting$Range"), (16, .class_ 120), (1, u "com/example/classement/classement/ranking/Setting$1"), (86, u "()D"), (0, u "headingValue"), (0, u "(I)Lcom/example/classement/classement/ranking/Setting;")] 26

def k6c0 : Code := { maxStack := 2, maxLocals := 1, code := prog_46_method_6_code, exceptionTable := #[], attributes := #[] }
def k6m0 : Method := { name := "defaultValue", desc := "()D", sig := { parameters := [], returnType := some .double }, accessFlags := 1, code := some k6c0 }
def k6c1 : Code := { maxStack := 3, maxLocals := 1, code := prog_46_method_9_code, exceptionTable := #[], attributes := #[] }
def k6m1 : Method := { name := "headingValue", desc := "(I)Lcom/example/classement/classement/ranking/Setting;", sig := { parameters := [.int], returnType := some (.object "com/example/classement/classement/ranking/Setting") }, accessFlags := 8, code := some k6c1 }
/-- com/example/classement/classement/ranking/Setting -/
def k6 : Class := { plain "com/example/classement/classement/ranking/Setting" (some 5) with
  accessFlags := 16433
  interfaces := #[]
  cf := some (fileOf pool6 1 #[.nestMembers #[118, 99]] #[{ accessFlags := 1, nameIndex := 68, descriptorIndex := 207, attributes := #[] }, { accessFlags := 8, nameIndex := 208, descriptorIndex := 209, attributes := #[] }] 16433 53 #[] #[{ accessFlags := 16409, nameIndex := 5, descriptorIndex := 6, attributes := #[] }, { accessFlags := 16409, nameIndex := 9, descriptorIndex := 6, attributes := #[] }, { accessFlags := 16409, nameIndex := 12, descriptorIndex := 6, attributes := #[] }, { accessFlags := 16409, nameIndex := 15, descriptorIndex := 6, attributes := #[] }, { accessFlags := 16409, nameIndex := 18, descriptorIndex := 6, attributes := #[] }, { accessFlags := 16409, nameIndex := 21, descriptorIndex := 6, attributes := #[] }, { accessFlags := 16409, nameIndex := 24, descriptorIndex := 6, attributes := #[] }, { accessFlags := 16409, nameIndex := 27, descriptorIndex := 6, attributes := #[] }, { accessFlags := 16409, nameIndex := 30, descriptorIndex := 6, attributes := #[] }, { accessFlags := 16409, nameIndex := 33, descriptorIndex := 6, attributes := #[] }, { accessFlags := 16409, nameIndex := 36, descriptorIndex := 6, attributes := #[] }, { accessFlags := 16409, nameIndex := 39, descriptorIndex := 6, attributes := #[] }, { accessFlags := 16409, nameIndex := 42, descriptorIndex := 6, attributes := #[] }, { accessFlags := 18, nameIndex := 64, descriptorIndex := 65, attributes := #[] }, { accessFlags := 18, nameIndex := 68, descriptorIndex := 69, attributes := #[] }, { accessFlags := 18, nameIndex := 72, descriptorIndex := 73, attributes := #[] }, { accessFlags := 4122, nameIndex := 45, descriptorIndex := 46, attributes := #[] }])
  fields := #[{ name := "HEADING_OWN_MIN", type := (.object "com/example/classement/classement/ranking/Setting"), accessFlags := 16409, slot := 0, constantValue := 0 }, { name := "HEADING_OWN_VALUE", type := (.object "com/example/classement/classement/ranking/Setting"), accessFlags := 16409, slot := 1, constantValue := 0 }, { name := "HEADING_PARENT_MIN", type := (.object "com/example/classement/classement/ranking/Setting"), accessFlags := 16409, slot := 2, constantValue := 0 }, { name := "HEADING_PARENT_VALUE", type := (.object "com/example/classement/classement/ranking/Setting"), accessFlags := 16409, slot := 3, constantValue := 0 }, { name := "HEADING_ALL_MIN", type := (.object "com/example/classement/classement/ranking/Setting"), accessFlags := 16409, slot := 4, constantValue := 0 }, { name := "HEADING_ALL_VALUE", type := (.object "com/example/classement/classement/ranking/Setting"), accessFlags := 16409, slot := 5, constantValue := 0 }, { name := "DEPTH_MIN", type := (.object "com/example/classement/classement/ranking/Setting"), accessFlags := 16409, slot := 6, constantValue := 0 }, { name := "DEPTH_VALUE", type := (.object "com/example/classement/classement/ranking/Setting"), accessFlags := 16409, slot := 7, constantValue := 0 }, { name := "COVERAGE_MIN", type := (.object "com/example/classement/classement/ranking/Setting"), accessFlags := 16409, slot := 8, constantValue := 0 }, { name := "COVERAGE_VALUE", type := (.object "com/example/classement/classement/ranking/Setting"), accessFlags := 16409, slot := 9, constantValue := 0 }, { name := "QUESTION_TEXT", type := (.object "com/example/classement/classement/ranking/Setting"), accessFlags := 16409, slot := 10, constantValue := 0 }, { name := "QUESTION_OWN_HEADING", type := (.object "com/example/classement/classement/ranking/Setting"), accessFlags := 16409, slot := 11, constantValue := 0 }, { name := "QUESTION_HEADING", type := (.object "com/example/classement/classement/ranking/Setting"), accessFlags := 16409, slot := 12, constantValue := 0 }, { name := "factor", type := (.object "com/example/classement/classement/ranking/Factor"), accessFlags := 18, slot := 3, constantValue := 0 }, { name := "defaultValue", type := .double, accessFlags := 18, slot := 4, constantValue := 0 }, { name := "range", type := (.object "com/example/classement/classement/ranking/Setting$Range"), accessFlags := 18, slot := 5, constantValue := 0 }, { name := "$VALUES", type := (.array (.object "com/example/classement/classement/ranking/Setting")), accessFlags := 4122, slot := 13, constantValue := 0 }]
  methods := #[k6m0, k6m1]
  instanceTypes := #[(.object "java/lang/String"), .int, .int, (.object "com/example/classement/classement/ranking/Factor"), .double, (.object "com/example/classement/classement/ranking/Setting$Range")]
  staticTypes := #[(.object "com/example/classement/classement/ranking/Setting"), (.object "com/example/classement/classement/ranking/Setting"), (.object "com/example/classement/classement/ranking/Setting"), (.object "com/example/classement/classement/ranking/Setting"), (.object "com/example/classement/classement/ranking/Setting"), (.object "com/example/classement/classement/ranking/Setting"), (.object "com/example/classement/classement/ranking/Setting"), (.object "com/example/classement/classement/ranking/Setting"), (.object "com/example/classement/classement/ranking/Setting"), (.object "com/example/classement/classement/ranking/Setting"), (.object "com/example/classement/classement/ranking/Setting"), (.object "com/example/classement/classement/ranking/Setting"), (.object "com/example/classement/classement/ranking/Setting"), (.array (.object "com/example/classement/classement/ranking/Setting"))]
  resolved := Array.replicate 236 none
  statics := some 0 }

def pool7 : Array CpInfo := pool [(1, u "java/lang/Cloneable"), (0, .class_ 1), (0, u "java/lang/Object"), (0, .class_ 3)] 3

/-- java/lang/Cloneable -/
def k7 : Class := { plain "java/lang/Cloneable" (some 0) with
  accessFlags := 1537
  interfaces := #[]
  cf := some (fileOf pool7 2 #[] #[] 1537 4 #[] #[])
  fields := #[]
  methods := #[]
  instanceTypes := #[]
  staticTypes := #[]
  resolved := Array.replicate 8 none
  statics := none }

/-- the primitive byte -/
def k8 : Class := { plain "byte" none with kind := .primitive 'B', accessFlags := 0x411 }
/-- [B -/
def k9 : Class := { plain "[B" (some 0) with kind := .array 8 .byte, interfaces := #[7, 4], accessFlags := 1041 }

/-- the primitive int -/
def k10 : Class := { plain "int" none with kind := .primitive 'I', accessFlags := 0x411 }
/-- [I -/
def k11 : Class := { plain "[I" (some 0) with kind := .array 10 .int, interfaces := #[7, 4], accessFlags := 1041 }

def heap : Heap := #[{ cls := 6, slots := #[.null, .ref 1, .null, .ref 2, .null, .ref 3, .null, .null, .null, .null, .null, .null, .null, .null], vm := .statics 6 },
  { cls := 6, slots := #[.null, .int 1, .int 0, .null, .double 4608533498688228557, .null], vm := .none },
  { cls := 6, slots := #[.null, .int 3, .int 0, .null, .double 4608083138725491507, .null], vm := .none },
  { cls := 6, slots := #[.null, .int 5, .int 0, .null, .double 4607632778762754458, .null], vm := .none }]
def classes : Array Class := #[k0, k1, k2, k3, k4, k5, k6, k7, k8, k9, k10, k11]
def interned : List (Array UInt16 × Addr) := []
def slotsUsed : Nat := 32
def theMethod : MethodId := ⟨1, 1⟩
def args0 : Array Value := #[.int 5, .int 7]
def aboutOver (below : List Frame) : State where
  vm := { classes := classes, interned := interned.toArray }
  heap := heap
  slotsUsed := slotsUsed
  threads := #[{ frames := .invoking theMethod args0 :: below }]
def below0 : List Frame := [.native { method := ⟨0, 0⟩, args := #[] }]
def about1 : State := aboutOver below0
def p0 : Program := .bare "" "" ""
def e0 : Env := launch0.env 0 0 0
theorem w_frames : about1.frames = Frame.invoking theMethod args0 :: below0 := rfl
set_option maxRecDepth 65536 in
theorem w_args : argsFit about1.vm theMethod args0 = true := by decide +kernel
set_option maxRecDepth 65536 in
theorem w_heap : heapFits about1 = true := by decide +kernel
set_option maxRecDepth 65536 in
theorem w_runnable : about1.curStatus? = some .runnable := by decide +kernel
set_option maxRecDepth 65536 in
theorem w_alone : about1.alone = true := by decide +kernel
set_option maxRecDepth 65536 in
theorem w_named : about1.methodNamed? x = some theMethod := by decide +kernel
set_option maxRecDepth 65536 in
theorem w_hears : about1.hears theMethod below0 = true := by decide +kernel
set_option maxRecDepth 65536 in
theorem w_ripe : about1.ripe theMethod args0 below0 = true := by decide +kernel
theorem w_running : about1.status = .running := rfl
set_option maxRecDepth 65536 in
theorem w_room : about1.hasRoom e0.platform room_1 = true :=
  launch0.hasRoom_least _ room_1 (by decide +kernel) (by decide +kernel) (by decide +kernel) (by decide +kernel) (by decide +kernel) (by decide +kernel)
theorem allAtoms_all (ts : List Jvm.Cond) (a : Array Jvm.Value) (st : Jvm.State) : (allAtoms ts).before a st = ts.all (fun c => c.before a st) := by
  induction ts with
  | nil => rfl
  | cons c t ih =>
    show (Jvm.Cond.and c (allAtoms t)).before a st = _
    rw [Jvm.Cond.before_and, ih, List.all_cons]
def words1 : List Jvm.Cond := Jvm.Cond.code x code maxLocals ret :: tables_1
/-- a 'code' word, met by the world's own term for the bytes: nothing is compared byte by byte -/
theorem code_word {y : MethodName} {bytes : ByteArray} {mx : Nat} {rt : Option FieldType} {a : Array Value} {s : State} {m : MethodId} {meth : Method} {c : Code} (h1 : s.methodNamed? y = some m) (h2 : s.vm.method? m = some meth) (h3 : meth.code = some c) (h4 : c.code = bytes)
    (h5 : (c.maxLocals == mx && c.exceptionTable.isEmpty && decide (c.maxStack ≤ mostOperands) && decide (meth.sig.returnType = rt) && !meth.locks && decide (parseMethodDescriptor y.desc = some meth.sig)) = true) : (Jvm.Cond.code y bytes mx rt).before a s = true := by
  simp only [Bool.and_eq_true, beq_iff_eq, Bool.not_eq_true', decide_eq_true_eq] at h5
  obtain ⟨⟨⟨⟨⟨g1, g2⟩, g3⟩, g4⟩, g5⟩, g6⟩ := h5
  simp [Cond.before, Cond.holds, Cond.value, h1, h2, h3, h4, g1, g2, g3, g4, g5, g6]
def isCode : Jvm.Cond → Bool
  | .code _ _ _ _ => true
  | _ => false
theorem all_split {L : List Jvm.Cond} {P : Jvm.Cond → Bool} (h1 : L.all (fun c => isCode c || P c) = true) (h2 : ∀ c ∈ L.filter isCode, P c = true) : L.all P = true := by
  refine List.all_eq_true.mpr fun c hc => ?_
  have h := List.all_eq_true.mp h1 c hc
  rcases Bool.eq_false_or_eq_true (isCode c) with hi | hi
  · exact h2 c (List.mem_filter.mpr ⟨hc, hi⟩)
  · simpa [hi] using h
set_option maxRecDepth 65536 in
theorem w_c0 : (Jvm.Cond.code x code maxLocals ret).before args0 about1 = true := code_word (m := ⟨1, 1⟩) (meth := k1m1) (c := k1c1) (by decide +kernel) rfl rfl rfl (by decide +kernel)
set_option maxRecDepth 65536 in
theorem w_c1 : (Jvm.Cond.code ({ cls := "com/example/classement/classement/ranking/Setting", name := "headingValue", desc := "(I)Lcom/example/classement/classement/ranking/Setting;" } : Jvm.MethodName) prog_46_method_9_code (1 : Nat) (Option.some (Jvm.ClassFile.FieldType.object "com/example/classement/classement/ranking/Setting"))).before args0 about1 = true := code_word (m := ⟨6, 1⟩) (meth := k6m1) (c := k6c1) (by decide +kernel) rfl rfl rfl (by decide +kernel)
set_option maxRecDepth 65536 in
theorem w_c2 : (Jvm.Cond.code ({ cls := "com/example/classement/classement/ranking/SettingHeadingValuePinLaw", name := "expected", desc := "(I)Lcom/example/classement/classement/ranking/Setting;" } : Jvm.MethodName) method_3_code (1 : Nat) (Option.some (Jvm.ClassFile.FieldType.object "com/example/classement/classement/ranking/Setting"))).before args0 about1 = true := code_word (m := ⟨1, 2⟩) (meth := k1m2) (c := k1c2) (by decide +kernel) rfl rfl rfl (by decide +kernel)
set_option maxRecDepth 65536 in
theorem w_c3 : (Jvm.Cond.code ({ cls := "com/example/classement/classement/ranking/Setting", name := "defaultValue", desc := "()D" } : Jvm.MethodName) prog_46_method_6_code (1 : Nat) (Option.some Jvm.ClassFile.FieldType.double)).before args0 about1 = true := code_word (m := ⟨6, 0⟩) (meth := k6m0) (c := k6c0) (by decide +kernel) rfl rfl rfl (by decide +kernel)
def codes1 : List Jvm.Cond := [Jvm.Cond.code x code maxLocals ret, Jvm.Cond.code ({ cls := "com/example/classement/classement/ranking/Setting", name := "headingValue", desc := "(I)Lcom/example/classement/classement/ranking/Setting;" } : Jvm.MethodName) prog_46_method_9_code (1 : Nat) (Option.some (Jvm.ClassFile.FieldType.object "com/example/classement/classement/ranking/Setting")), Jvm.Cond.code ({ cls := "com/example/classement/classement/ranking/SettingHeadingValuePinLaw", name := "expected", desc := "(I)Lcom/example/classement/classement/ranking/Setting;" } : Jvm.MethodName) method_3_code (1 : Nat) (Option.some (Jvm.ClassFile.FieldType.object "com/example/classement/classement/ranking/Setting")), Jvm.Cond.code ({ cls := "com/example/classement/classement/ranking/Setting", name := "defaultValue", desc := "()D" } : Jvm.MethodName) prog_46_method_6_code (1 : Nat) (Option.some Jvm.ClassFile.FieldType.double)]
set_option maxRecDepth 65536 in
theorem codes_eq : words1.filter isCode = codes1 := rfl
theorem w_codes : ∀ c ∈ words1.filter isCode, c.before args0 about1 = true := by
  rw [codes_eq]
  intro c hc
  simp only [codes1, List.mem_cons, List.not_mem_nil, or_false] at hc
  rcases hc with rfl | rfl | rfl | rfl
  · exact w_c0
  · exact w_c1
  · exact w_c2
  · exact w_c3
set_option maxRecDepth 65536 in
theorem w_t1 : (words1.take 24).all (fun c => isCode c || c.before args0 about1) = true := by decide +kernel
set_option maxRecDepth 65536 in
theorem w_t2 : (words1.drop 24).all (fun c => isCode c || c.before args0 about1) = true := by decide +kernel
theorem w_tables : (allAtoms (Jvm.Cond.code x code maxLocals ret :: tables_1)).before args0 about1 = true := by
  rw [allAtoms_all]
  show words1.all (fun c => c.before args0 about1) = true
  refine all_split ?_ w_codes
  rw [← List.take_append_drop 24 words1, List.all_append, w_t1, w_t2]
  rfl
set_option maxRecDepth 65536 in
theorem w_case : (Jvm.Cond.and given_1 narrow_1).before args0 about1 = true := by decide +kernel
theorem w_applies : (headSpec (Jvm.Cond.code x code maxLocals ret :: tables_1) room_1).applies x e0.platform about1 = true :=
  (Spec.applies_iff w_frames).mpr ⟨w_running, w_runnable, w_alone, w_named, w_hears, w_ripe, w_room, w_tables⟩
theorem atStart : AtStart classFile x code maxLocals ret World_1 tables_1 room_1 Calls_1 rest_1 Pre_1 launch0 p0 e0 about1 theMethod args0 below0 :=
  ⟨lists_1, trivial, launch0.admits_env _ _ _, launch0.least_env, fairChoices_fair.cas, fairChoices_fair.clock, w_frames, w_args, w_heap, w_applies, trivial, trivial, w_case⟩
end start1
theorem witness_1 : WitnessClaimed_1 := ⟨start1.p0, start1.e0, start1.about1, start1.theMethod, start1.args0, start1.below0, start1.atStart⟩
end Jvm.Pilot.@@N@@
