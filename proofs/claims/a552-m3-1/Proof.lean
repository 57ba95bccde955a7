import JvmDerived
import JvmDerived.Pilot.@@N@@Statement
import JvmDerived.Pilot.@@N@@Code
set_option linter.unusedVariables false
set_option linter.unusedSimpArgs false
namespace Jvm.Pilot.@@N@@
open Jvm Jvm.ClassFile Sem Op Lib Jvm.Free Jvm.Stand Jvm.LawKit Jvm.RoadKit Bundle Jvm.Pilot.@@N@@.Jvm.D
theorem oW {a0 : Array Value} {Z : State} (hw : ∀ d ∈ tables_1, d.before a0 Z = true) {d : Jvm.Cond} (i : Nat) (h : tables_1[i]? = some d) : d.before a0 Z = true := hw _ (List.mem_of_getElem? h)
abbrev uu : Slot := .unset
abbrev ss : Slot := .second
/-- the run from T with g on top comes to a state of which P holds -/
def oWk (tb : Tables) (e : Env) (below : List Frame) (P : State → Prop) (T : State) (g : JFrame) : Prop := ∃ t, Steps tb e below (T.setTop g) t ∧ P t
section OwnA
variable {tb : Tables} {e : Env} {below : List Frame} {P : State → Prop} {T T' : State} {g g' : JFrame}
theorem oWk.st (f : ∀ t, Steps tb e below (T'.setTop g') t → Steps tb e below (T.setTop g) t) (k : oWk tb e below P T' g') : oWk tb e below P T g := k.elim fun t q => ⟨t, f t q.1, q.2⟩
theorem oWk.tr (f : Steps tb e below (T.setTop g) (T'.setTop g')) (k : oWk tb e below P T' g') : oWk tb e below P T g := k.elim fun t q => ⟨t, f.trans q.1, q.2⟩
theorem oWk.cast (q : g = g') (k : oWk tb e below P T g') : oWk tb e below P T g := q ▸ k
end OwnA
/-- the invocation has ended: a value, the heap, the places written -/
def oDn (s : State) (below : List Frame) (Q : Option Value → Heap → List Loc → Prop) (k n : Nat) (t : State) : Prop := t.status = .running ∧ ∃ v L, Ended t below (.returned v) ∧ Q v t.heap L ∧ FrameEnd s (.returned v) t L k n
/-- a contract: called with these arguments on this heap the body returns and Q holds -/
abbrev oCon (l : Launch) (Z : State) (y : MethodName) (bytes : ByteArray) (maxL : Nat) (ret : Option FieldType) (ws : List Jvm.Cond) (rm : Room) (as' : Array Value) (h0 : Heap) (Q : Option Value → Heap → List Loc → Prop) : Prop :=
  MetFree l y (head1 (Jvm.Cond.code y bytes maxL ret :: ws) rm) (fun a U => a = as' ∧ Z.Warmed39 U.vm ∧ U.heap = h0) (fun _ _ _ _ _ => True) (fun _ U o U' => ∃ v L, o = .returned v ∧ Q v U'.heap L ∧ FrameEnd U o U' L rm.cells rm.slots)
theorem oCon.of {l : Launch} {Z : State} {y : MethodName} {bytes : ByteArray} {maxL : Nat} {ret : Option FieldType} {ws : List Jvm.Cond} {rm : Room} {as' : Array Value} {h0 : Heap} {Q : Option Value → Heap → List Loc → Prop} (hp : plainFor y = true)
    (body : ∀ (p : Program) (e : Env) (s : State) (m : MethodId) (below : List Frame) (meth : Method) (c : Code) (T : State), Stand p l e rm s m as' below meth c T [] 0 0 → p.tables.exec = Jvm.exec → c.code = bytes → c.maxLocals = maxL → s.vm.findClass y.cls = some m.cls → meth.name = y.name → meth.sig.returnType = ret → meth.locks = false → Z.Warmed39 s.vm → T.heap = h0 → oWk p.tables e below (oDn s below Q rm.cells rm.slots) T (entryFrame m as' maxL)) :
    oCon l Z y bytes maxL ret ws rm as' h0 Q := by
  refine MetFree.of_bodySF hp hisR ?_
  intro p e s m args below meth c s₁ Bd hml0 hP hK
  obtain ⟨rfl, hZ, hh⟩ := hP
  have e0 : s₁.heap = h0 := by rw [← hh, Bd.state]; rfl
  obtain ⟨t, h1, h2, v, L, h3, h4, h5⟩ := body p e s m below meth c s₁ (Stand.of_body Bd) Bd.exec Bd.bytes hml0 (findClass_of_methodNamed Bd.named) (name_of_methodNamed Bd.named Bd.method).1 Bd.returns Bd.notSynchronized hZ e0
  exact ⟨t, _, h1, h2, h3, v, L, rfl, h4, h5⟩
section OwnB
variable {p : Program} {l : Launch} {e : Env} {R : Room} {s : State} {m : MethodId} {args : Array Value} {below : List Frame} {meth : Method} {c : Code} {T : State} {locs : List Loc} {cells slots : Nat} {Q : Option Value → Heap → List Loc → Prop} {k n pc : Nat} {Ls : Array Slot}
theorem oRet (X : Stand p l e R s m args below meth c T locs cells slots) (hx : p.tables.exec = Jvm.exec) (hlk : meth.locks = false) {w : Value} {t : FieldType} {i : Instr} {rest : List Value} (hret : meth.sig.returnType = some t) (hn : narrow t w = w)
    (hi : (i = .ireturn ∧ (t = .int ∨ t = .boolean ∨ t = .byte ∨ t = .char ∨ t = .short) ∧ ∃ z, w = .int z) ∨ (i = .lreturn ∧ t = .long ∧ ∃ z, w = .long z) ∨ (i = .dreturn ∧ t = .double ∧ ∃ z, w = .double z) ∨ (i = .freturn ∧ t = .float ∧ ∃ z, w = .float z) ∨ (i = .areturn ∧ t.isReference = true ∧ w.isRef = true))
    (hd : decode c.code pc = .ok (i, 1)) (hQ : Q (some w) T.heap locs) (hk : cells ≤ k) (hs : slots ≤ n) : oWk p.tables e below (oDn s below Q k n) T (mkF m pc Ls (w :: rest)) := by
  obtain ⟨fs, hr, hrun, hended, hW, hsame⟩ := X.leave (v := some w) (fun h => by rw [hret] at h; cases h) hlk
  exact ⟨_, retOut X hx hret hn hi hd hr, hrun, _, _, hended, hQ, ⟨_, rfl⟩, hW, hsame.mono hk hs⟩
theorem oRetI (X : Stand p l e R s m args below meth c T locs cells slots) (hx : p.tables.exec = Jvm.exec) (hlk : meth.locks = false) {z : Int32} {rest : List Value} (hret : meth.sig.returnType = some .int) (hd : decode c.code pc = .ok (.ireturn, 1)) (hQ : Q (some (.int z)) T.heap locs) (hk : cells ≤ k) (hs : slots ≤ n) :
    oWk p.tables e below (oDn s below Q k n) T (mkF m pc Ls (.int z :: rest)) := oRet X hx hlk hret rfl (Or.inl ⟨rfl, Or.inl rfl, _, rfl⟩) hd hQ hk hs
theorem oRetZ (X : Stand p l e R s m args below meth c T locs cells slots) (hx : p.tables.exec = Jvm.exec) (hlk : meth.locks = false) {z : Int32} {rest : List Value} (hret : meth.sig.returnType = some .boolean) (hd : decode c.code pc = .ok (.ireturn, 1)) (hz : z = 0 ∨ z = 1) (hQ : Q (some (.int z)) T.heap locs) (hk : cells ≤ k) (hs : slots ≤ n) :
    oWk p.tables e below (oDn s below Q k n) T (mkF m pc Ls (.int z :: rest)) := oRet X hx hlk hret (by rcases hz with rfl | rfl <;> rfl) (Or.inl ⟨rfl, Or.inr (Or.inl rfl), _, rfl⟩) hd hQ hk hs
theorem oRetN (X : Stand p l e R s m args below meth c T locs cells slots) (hx : p.tables.exec = Jvm.exec) (hlk : meth.locks = false) {z : Int32} {t : FieldType} {rest : List Value} (hret : meth.sig.returnType = some t) (ht : t = .byte ∨ t = .char ∨ t = .short) (hn : narrow t (.int z) = .int z) (hd : decode c.code pc = .ok (.ireturn, 1)) (hQ : Q (some (.int z)) T.heap locs) (hk : cells ≤ k) (hs : slots ≤ n) :
    oWk p.tables e below (oDn s below Q k n) T (mkF m pc Ls (.int z :: rest)) := oRet X hx hlk hret hn (Or.inl ⟨rfl, Or.inr (Or.inr ht), _, rfl⟩) hd hQ hk hs
theorem oRetD (X : Stand p l e R s m args below meth c T locs cells slots) (hx : p.tables.exec = Jvm.exec) (hlk : meth.locks = false) {z : UInt64} {rest : List Value} (hret : meth.sig.returnType = some .double) (hd : decode c.code pc = .ok (.dreturn, 1)) (hQ : Q (some (.double z)) T.heap locs) (hk : cells ≤ k) (hs : slots ≤ n) :
    oWk p.tables e below (oDn s below Q k n) T (mkF m pc Ls (.double z :: rest)) := oRet X hx hlk hret rfl (Or.inr (Or.inr (Or.inl ⟨rfl, rfl, _, rfl⟩))) hd hQ hk hs
theorem oNarR {t : FieldType} {w : Value} (ht : t.isReference = true) (hw : w.isRef = true) : narrow t w = w := by cases t <;> cases w <;> simp_all [narrow, FieldType.isReference, Value.isRef]
theorem oRetA (X : Stand p l e R s m args below meth c T locs cells slots) (hx : p.tables.exec = Jvm.exec) (hlk : meth.locks = false) {w : Value} {t : FieldType} {rest : List Value} (hret : meth.sig.returnType = some t) (ht : t.isReference = true) (hw : w.isRef = true) (hd : decode c.code pc = .ok (.areturn, 1)) (hQ : Q (some w) T.heap locs) (hk : cells ≤ k) (hs : slots ≤ n) :
    oWk p.tables e below (oDn s below Q k n) T (mkF m pc Ls (w :: rest)) := oRet X hx hlk hret (oNarR ht hw) (Or.inr (Or.inr (Or.inr (Or.inr ⟨rfl, ht, hw⟩)))) hd hQ hk hs
theorem oRetV (X : Stand p l e R s m args below meth c T locs cells slots) (hx : p.tables.exec = Jvm.exec) (hlk : meth.locks = false) (hret : meth.sig.returnType = none) (hd : decode c.code pc = .ok (.return_, 1)) (hQ : Q none T.heap locs) (hk : cells ≤ k) (hs : slots ≤ n) :
    oWk p.tables e below (oDn s below Q k n) T (mkF m pc Ls []) := by
  obtain ⟨fs, hr, hrun, hended, hW, hsame⟩ := X.leave (v := none) (fun _ => rfl) hlk
  exact ⟨_, X.returnOut hx hret hd hr, hrun, _, _, hended, hQ, ⟨_, rfl⟩, hW, hsame.mono hk hs⟩
end OwnB
/-- the heap is kept but for ws and new cells; the places written lie there -/
def oKp (h0 h : Heap) (ws : List Addr) (L : List Loc) : Prop := Keep h0 h ws ∧ ∀ y ∈ L, y.base ∈ ws ∨ h0.size ≤ y.base
section OwnC
variable {Z : State} {h0 h h' : Heap} {ws ws' : List Addr} {L L' : List Loc} {a : Addr} {sl : Nat} {v : Value}
theorem oKp.nil (h : Heap) (ws : List Addr) : oKp h h ws [] := ⟨Keep.refl _ _, fun _ q => nomatch q⟩
theorem oKp.ext (K : oKp h0 h ws L) (E : Ext h h') : oKp h0 h' ws L := ⟨K.1.ext E, K.2⟩
theorem oKp.wr (K : oKp h0 h ws L) (W : Wr h h' a sl v) (q : a ∈ ws ∨ h0.size ≤ a) : oKp h0 h' ws (L ++ [⟨a, sl⟩]) := ⟨K.1.wr W q, fun y hy => (List.mem_append.mp hy).elim (K.2 y) fun hy => by cases List.mem_singleton.mp hy; exact q⟩
theorem oKp.call (K : oKp h0 h ws L) (K' : oKp h h' ws' L') (q : ∀ x ∈ ws', x ∈ ws ∨ h0.size ≤ x) : oKp h0 h' ws (L ++ L') := ⟨K.1.trans K'.1 q, fun y hy => (List.mem_append.mp hy).elim (K.2 y) fun hy => (K'.2 y hy).elim (q _) fun z => Or.inr (Nat.le_trans K.1.1 z)⟩
theorem oKp.le (K : oKp h0 h ws L) : h0.size ≤ h.size := K.1.1
theorem oKp.old (K : oKp h0 h ws L) (O : Ext Z.heap h0) (q : ∀ x ∈ ws, Z.heap.size ≤ x) : Ext Z.heap h := ⟨Nat.le_trans O.1 K.1.1, fun x c hc => K.1.2.1 x c (O.2 x c hc) fun hx => absurd (Array.getElem?_eq_some_iff.mp hc).1 (Nat.not_lt.mpr (q x hx))⟩
theorem oKp.fr (K : oKp h0 h [] L) : Fr h0.size L := fun y hy => (K.2 y hy).elim (fun q => nomatch q) id
theorem oExtRefl (h : Heap) : Ext h h := ⟨Nat.le_refl _, fun _ _ q => q⟩
theorem Ext.keep0 (E : Ext h h') : Keep h h' [] := ⟨E.1, fun x c q _ => E.2 x c q, fun x c q => ⟨c, E.2 x c q, rfl, rfl, rfl⟩⟩
end OwnC
/-- a truth as an int -/
def oBi (P : Prop) [Decidable P] : Int32 := if P then 1 else 0
theorem oBi_t {P : Prop} [Decidable P] (h : P) : oBi P = 1 := if_pos h
theorem oBi_f {P : Prop} [Decidable P] (h : ¬ P) : oBi P = 0 := if_neg h
theorem oBi_ne {P : Prop} [Decidable P] (h : P) : ¬ oBi P = 0 := by rw [oBi_t h]; decide
theorem oBi_01 (P : Prop) [Decidable P] : oBi P = 0 ∨ oBi P = 1 := by by_cases h : P; exact Or.inr (if_pos h); exact Or.inl (if_neg h)
theorem oBi_0 {P : Prop} [Decidable P] (h : oBi P = 0) : ¬ P := fun q => oBi_ne q h
theorem oBi_1 {P : Prop} [Decidable P] (h : ¬ oBi P = 0) : P := Decidable.byContradiction fun q => h (oBi_f q)
section OwnD
variable {args : Array Value} {Z : State} {t u : Term} {C n d K : String} {a b : Addr} {k : Int32}
theorem oFldR (ht : t.eval args Z none [] Z = some (.ref a)) (hu : u.eval args Z none [] Z = some (.ref b)) (h : (Jvm.Cond.eq (.field t C n d) u).value args Z none Z [] = some true) : Fld Z Z.heap a C n d (.ref b) := by
  obtain ⟨x, y, e1, e2, k1, k2⟩ := cmp_v (Or.inl h)
  cases hu.symm.trans e2
  have hx : x.isRef = true := k2.2
  have q := gotT (eq_R e1 e2 hx rfl) h
  subst q
  exact Fld.start ((fld_at ht).symm.trans e1)
theorem oFldI (ht : t.eval args Z none [] Z = some (.ref a)) (h : (Jvm.Cond.eq (.field t C n d) (.int k)).value args Z none Z [] = some true) : Fld Z Z.heap a C n d (.int k) := by
  obtain ⟨x, y, e1, e2, k1, k2⟩ := cmp_v (Or.inl h)
  cases (Option.some.inj e2 : Value.int k = y)
  obtain ⟨z, rfl⟩ := (k2 : ∃ z, x = .int z)
  have q : z = k := by
    have h' := h
    simp only [Cond.value, e1, e2] at h'
    simpa using h'
  subst q
  exact Fld.start ((fld_at ht).symm.trans e1)
theorem oFldX (ht : t.eval args Z none [] Z = some (.ref a)) (h : (Jvm.Cond.exactly (.field t C n d) K).value args Z none Z [] = some true) : ∃ b, (Term.field t C n d).eval args Z none [] Z = some (.ref b) ∧ Fld Z Z.heap a C n d (.ref b) ∧ Exa Z Z.heap b K := by
  obtain ⟨b, e1⟩ := exa_v h
  exact ⟨b, e1, Fld.start ((fld_at ht).symm.trans e1), Exa.start e1 h⟩
theorem oNe32 {x y : Int32} (h : ¬ x = y) : x.toInt ≠ y.toInt := fun q => h (Int32.toInt_inj.mp q)
end OwnD
section OwnE
variable {Z : State} {a0 : Array Value} {C O K : String} {n : Nat} {h h' : Heap} {a : Addr} {ws : List Addr}
theorem oNSroot (wo : (Jvm.Cond.noSuperclass O).before a0 Z = true) (wk : (Jvm.Cond.instantiable K n).before a0 Z = true) (h2 : O ≠ K) : NS Z O K := by
  obtain ⟨t, kt, g1, -⟩ := Cond.instantiable_spec wk
  obtain ⟨c, k, a1, a2, a3, -, -⟩ := Cond.noSuperclass_spec wo
  have ne := ids_ne a1 g1 h2
  refine ⟨c, t, a1, g1, fun fuel => ?_⟩
  cases fuel with
  | zero => rfl
  | succ f => simp [Vm.isSubclassAux, ne, a2, a3]
theorem oNSno (w : (Jvm.Cond.superclass C O).before a0 Z = true) (wk : (Jvm.Cond.instantiable K n).before a0 Z = true) (N : NS Z C K) (h1 : C ≠ K) : ∃ c t, Z.vm.findClass C = some c ∧ Z.vm.findClass K = some t ∧ Z.vm.assignable c t = false := by
  obtain ⟨t, kt, g1, g2, g3, g4, -⟩ := Cond.instantiable_spec wk
  obtain ⟨c, t', b0, b1, b2⟩ := N
  cases g1.symm.trans b1
  obtain ⟨p, k, kp, e1, e2, e3, e4, e5, -, e7⟩ := Cond.superclass_spec b0 w
  have ne := ids_ne b0 g1 h1
  have gi : kt.isInterface = false := by simp only [Bool.or_eq_false_iff] at g4; exact g4.1
  refine ⟨c, t, b0, g1, ?_⟩
  show Z.vm.assignableAux (255 + 1) c t = false
  simp [Vm.assignableAux, ne, e2, g2, e5, g3, gi, Vm.isSubclass, b2]
theorem oNotInst (w : (Jvm.Cond.superclass C O).before a0 Z = true) (wo : (Jvm.Cond.noSuperclass O).before a0 Z = true) (wk : (Jvm.Cond.instantiable K n).before a0 Z = true) (h1 : C ≠ K) (h2 : O ≠ K) : ∃ c t, Z.vm.findClass C = some c ∧ Z.vm.findClass K = some t ∧ Z.vm.assignable c t = false :=
  oNSno w wk (NS.step w (oNSroot wo wk h2) h1) h1
theorem oInsKeep {b : Bool} (F : Ins Z h a K b) (H : Keep h h' ws) : Ins Z h' a K b := by
  obtain ⟨cell, cT, h1, h2, h3⟩ := F
  obtain ⟨c', e1, e2, e3, -⟩ := H.2.2 _ _ h1
  exact ⟨c', cT, e1, h2, by rw [e2, e3]; exact h3⟩
end OwnE
theorem oNot0 {args : Array Value} {Z : State} {t : Term} {x : Int32} (h : t.eval args Z none [] Z = some (.int x)) (hn : (Jvm.Cond.not (.eq t (.int 0))).value args Z none Z [] = some true) : ¬ x = (0 : Int32) := fun q => by
  subst q
  have e : (Jvm.Cond.eq t (.int 0)).value args Z none Z [] = some true := eq_i h (Term.int_eval 0) rfl
  simp [Cond.value] at hn e
  rw [e] at hn
  simp at hn
theorem oFldD {args : Array Value} {Z : State} {t : Term} {C n d : String} {a : Addr} {k : Int64} (ht : t.eval args Z none [] Z = some (.ref a)) (h : (Jvm.Cond.eq (.field t C n d) (.op1 .bitsD (.long k))).value args Z none Z [] = some true) : Fld Z Z.heap a C n d (.double k.toUInt64) := by
  obtain ⟨x, y, e1, e2, k1, k2⟩ := cmp_v (Or.inl h)
  have e3 : (Term.op1 .bitsD (.long k)).eval args Z none [] Z = some (.double k.toUInt64) := rfl
  cases e3.symm.trans e2
  obtain ⟨z, rfl⟩ := (k2 : ∃ z, x = .double z)
  have q : z = k.toUInt64 := by
    have h' := h
    simp only [Cond.value, e1, e2] at h'
    simpa using h'
  subst q
  exact Fld.start ((fld_at ht).symm.trans e1)
section OwnF
variable {p : Program} {l : Launch} {e : Env} {R : Room} {s : State} {m : MethodId} {args : Array Value} {below : List Frame} {meth : Method} {c : Code} {T : State} {locs : List Loc} {cells slots : Nat} {Z : State} {a0 : Array Value} {h : Heap} {own C : String} {index : Nat} {a mr : Addr}
/-- the Class object of C has been made: mr -/
def oMir (Z : State) (C : String) (mr : Addr) : Prop := ∃ (c : ClassId) (k : Class), Z.vm.findClass C = some c ∧ Z.vm.classes[c]? = some k ∧ k.mirror = some mr
abbrev oGc : MethodName := ⟨"java/lang/Object", "getClass", "()Ljava/lang/Class;"⟩
theorem oGcls (X : Stand p l e R s m args below meth c T locs cells slots) (hx : p.tables.exec = Jvm.exec) (hZ : Z.Warmed39 s.vm) (hown : s.vm.findClass own = some m.cls) (w1 : (Jvm.Cond.methodLink own index oGc).before a0 Z = true) (w2 : (Jvm.Cond.declares oGc).before a0 Z = true) (w4 : (Jvm.Cond.selects C oGc oGc).before a0 Z = true) (w5 : (Jvm.Cond.instanceMethod oGc).before a0 Z = true) (w6 : (Jvm.Cond.native oGc).before a0 Z = true) (eT : T.heap = h) (E : Exa Z h a C) (M : oMir Z C mr)
    {g : JFrame} (hg : g.method = m) (hsize : g.locals.size = c.maxLocals) {rest : List Value} (hs : g.stack = .ref a :: rest) (hd : decode c.code g.pc = .ok (.invokevirtual index, 3)) (hf : 1 ≤ R.frames) {W : Nat} (hW : 2 * g.monitorRoom + (rest.map fun v => v.category).sum ≤ W) (hl : W + (nativeFrameWords "java/lang/Object" "getClass" 1 + 11) ≤ R.locals) :
    ∃ T', Stand p l e R s m args below meth c T' locs cells slots ∧ T'.heap = h ∧ ∀ target, Steps p.tables e below (T'.setTop { g with pc := g.pc + 3, stack := .ref mr :: rest }) target → Steps p.tables e below (T.setTop g) target := by
  obtain ⟨cB, kB, i1, i2, i3⟩ := isOf hZ eT E
  obtain ⟨cc, kc, m1, m2, m3⟩ := M
  have i0 := i1
  rw [hZ.alike.findClass] at i1
  cases i1.symm.trans m1
  obtain ⟨k', q, ek⟩ := hZ.alike.2.2 _ _ m2
  obtain ⟨vm', X', st⟩ := X.getClassOf hx hown (mvT hZ w1) (mvT hZ w2) (notFace_of_selects (args := #[]) (mvT hZ w4)) (mvT hZ w4) (mvT hZ w5) (mvT hZ w6) i0 i3 q (by rw [ek]; exact m3) hg hsize hs hd hf (by omega)
  exact ⟨_, X', eT, st⟩
theorem oLdcM (X : Stand p l e R s m args below meth c T locs cells slots) (hx : p.tables.exec = Jvm.exec) (hZ : Z.Warmed39 s.vm) (hown : s.vm.findClass own = some m.cls) (w : (Jvm.Cond.classLink own index C).before a0 Z = true) (eT : T.heap = h) (M : oMir Z C mr)
    {g : JFrame} (hg : g.method = m) (hd : decode c.code g.pc = .ok (.ldc index, 2)) : ∃ T', Stand p l e R s m args below meth c T' locs cells slots ∧ T'.heap = h ∧ ∀ target, Steps p.tables e below (T'.setTop { g with pc := g.pc + 2, stack := .ref mr :: g.stack }) target → Steps p.tables e below (T.setTop g) target := by
  obtain ⟨cc, kc, m1, m2, m3⟩ := M
  obtain ⟨k', q, ek⟩ := hZ.alike.2.2 _ _ m2
  have f1 : s.vm.findClass C = some cc := by rw [hZ.alike.findClass]; exact m1
  have f2 : k'.mirror = some mr := by rw [ek]; exact m3
  obtain ⟨vm', X', st⟩ := X.ldcMirror hx hown (mvT hZ w) (a := mr) (by simp [Term.eval, f1, q, f2]) hg hd
  exact ⟨_, X', eT, st⟩
end OwnF
theorem oArr0 {args : Array Value} {Z : State} {t : Term} {a : Addr} {ty : FieldType} {dv : Value} (hf : Fit Z) (ev : t.eval args Z none [] Z = some (.ref a)) (h1 : (Jvm.Cond.arrayOf t ty).value args Z none Z [] = some true) (h2 : (Jvm.Cond.eq (.length t) (.int 0)).value args Z none Z [] = some true) : ∃ k, Arv Z Z.heap a k ty 0 [] dv := by
  obtain ⟨cl, A⟩ := Arr.start ev h1
  have ha : Z.arrayAt? a = some cl := Arr.fin (Vm.Alike.refl _) A
  have hlt : cl.slots.size < 2 ^ 31 := by
    apply Decidable.byContradiction
    intro q
    have e : (Term.length t).eval args Z none [] Z = none := by
      cases hv : (Term.length t).eval args Z none [] Z with
      | none => rfl
      | some y =>
        simp only [Term.eval, Option.bind_eq_bind] at hv
        rw [ev] at hv
        simp [ha, q] at hv
    simp [Cond.value, e] at h2
  have e : (Term.length t).eval args Z none [] Z = some (.int cl.slots.size.toInt32) := len_f ev ha hlt
  have z : cl.slots.size.toInt32 = 0 := by
    have h' := h2
    simp only [Cond.value, e, Term.int_eval] at h'
    simpa using h'
  have z' : cl.slots.size = 0 := by
    have := len_toInt hlt
    rw [z] at this
    have r : (0 : Int32).toInt = 0 := by decide
    omega
  exact ⟨_, Arv.start hf A hlt z (by decide) rfl trivial⟩
def oMs (Z : State) (mean r : Addr) (P : Prop) : Prop := Exa Z Z.heap r "com/example/classement/classement/evaluation/Measure" ∧ ∃ k, Fld Z Z.heap r "com/example/classement/classement/evaluation/Measure" "kind" "Lcom/example/classement/classement/evaluation/Measure$Kind;" (.ref k) ∧ (k = mean ↔ ¬ P)
def Q2 (k mean : Addr) (h0 : Heap) (v : Option Value) (h : Heap) (L : List Loc) : Prop := v = some (.int (oBi (¬ k = mean))) ∧ h = h0 ∧ oKp h0 h [] L
theorem pn_0 : plainName "com/example/classement/classement/evaluation/Measure" = true := by first | (simp [plainName, overriddenIn]; done) | decide +kernel
abbrev yy0 : MethodName := ⟨"com/example/classement/classement/evaluation/Measure", "isCount", "()Z"⟩
theorem d2_0 : decode prog_19_method_6_code 0 = .ok (.aload_n 0, 1) := by decide +kernel
theorem d2_1 : decode prog_19_method_6_code 1 = .ok (.getfield 66, 3) := by decide +kernel
theorem d2_4 : decode prog_19_method_6_code 4 = .ok (.getstatic 80, 3) := by decide +kernel
theorem d2_7 : decode prog_19_method_6_code 7 = .ok (.if_acmp .eq 7, 3) := by decide +kernel
theorem d2_14 : decode prog_19_method_6_code 14 = .ok (.iconst 0, 1) := by decide +kernel
theorem d2_15 : decode prog_19_method_6_code 15 = .ok (.ireturn, 1) := by decide +kernel
theorem d2_10 : decode prog_19_method_6_code 10 = .ok (.iconst 1, 1) := by decide +kernel
theorem d2_11 : decode prog_19_method_6_code 11 = .ok (.goto 4, 3) := by decide +kernel
set_option maxRecDepth 65536 in
set_option maxHeartbeats 40000000 in
theorem rm2 (l : Launch) (Z : State) (a0 : Array Value) (hw : ∀ d ∈ tables_1, d.before a0 Z = true) (ws : List Jvm.Cond) (a k mean : Addr) (h0 : Heap) (O0 : Ext Z.heap h0) (F_kind_a : Fld Z h0 a "com/example/classement/classement/evaluation/Measure" "kind" "Lcom/example/classement/classement/evaluation/Measure$Kind;" (.ref k)) (S_MEAN : Sta Z Z.heap "com/example/classement/classement/evaluation/Measure$Kind" "MEAN" "Lcom/example/classement/classement/evaluation/Measure$Kind;" (.ref mean)) :
    oCon l Z yy0 prog_19_method_6_code 1 (some .boolean) ws ({ frames := 0, cells := 0, slots := 0, locals := 0 } : Room) #[(.ref a)] h0 (Q2 k mean h0) := by
  refine oCon.of (plainFor_of_name pn_0) ?_
  intro p e s m below meth c T X hx hby hml hown hnm hret hlk hZ e0
  have hml : c.maxLocals = 1 := hml
  have K : oKp h0 h0 [] [] := oKp.nil _ _
  refine oWk.cast (g' := (mkF m 0 #[rv a] [])) (by first | rfl | (simp [entryFrame, mkF, argsToLocals, Value.category]; done)) ?_
  refine oWk.st (fun _ kt => XS.aloadN X.here hx rfl (hb hby d2_0) rfl rfl kt) ?_
  show oWk _ _ _ _ T (mkF m 1 #[rv a] [(.ref a)])
  obtain ⟨T, X, e0, st⟩ := getF X hx hZ hown (host := "") (Or.inl (oW hw 13 rfl)) Via.refl e0 F_kind_a (g := (mkF m 1 #[rv a] [(.ref a)])) rfl rfl (hb hby d2_1)
  refine oWk.st st ?_
  show oWk _ _ _ _ T (mkF m 4 #[rv a] [(.ref k)])
  have Oh := K.old O0 all0
  obtain ⟨T, X, e0, st⟩ := getS2 X hx hZ hown (host := "") (Or.inl (oW hw 17 rfl)) Via.refl e0 (S_MEAN.ext Oh) (g := (mkF m 4 #[rv a] [(.ref k)])) rfl (hb hby d2_4)
  refine oWk.st st ?_
  show oWk _ _ _ _ T (mkF m 7 #[rv a] [(.ref mean), (.ref k)])
  by_cases hc7 : k = mean
  · refine oWk.st (fun _ kt => Jvm.RoadKit.acmp (g := (mkF m 7 #[rv a] [(.ref mean), (.ref k)])) X hx rfl rfl rfl (pc0 := 7) (pc' := 14) (same := true) rfl (hb hby d2_7) rfl (decide_eq_true (congrArg Value.ref hc7)) (by decide) (by decide) kt) ?_
    show oWk _ _ _ _ T (mkF m 14 #[rv a] [])
    refine oWk.st (fun _ kt => XS.iconst X.here hx rfl (hb hby d2_14) kt) ?_
    show oWk _ _ _ _ T (mkF m 15 #[rv a] [(.int 0)])
    exact oRetZ X hx hlk hret (hb hby d2_15) (Or.inl rfl) (⟨by rw [oBi_f (fun q => q hc7)], e0, by rw [e0]; exact K⟩) (by decide) (by decide)
  · refine oWk.st (fun _ kt => Jvm.RoadKit.acmp (g := (mkF m 7 #[rv a] [(.ref mean), (.ref k)])) X hx rfl rfl rfl (pc0 := 7) (pc' := 10) (same := false) rfl (hb hby d2_7) rfl (decide_eq_false fun q => hc7 (Value.ref.inj q)) (by decide) (by decide) kt) ?_
    show oWk _ _ _ _ T (mkF m 10 #[rv a] [])
    refine oWk.st (fun _ kt => XS.iconst X.here hx rfl (hb hby d2_10) kt) ?_
    show oWk _ _ _ _ T (mkF m 11 #[rv a] [(.int 1)])
    refine oWk.st (fun _ kt => XS.goto X.here hx rfl (pc0 := 11) (pc' := 15) rfl (hb hby d2_11) (by decide) (by decide) kt) ?_
    show oWk _ _ _ _ T (mkF m 15 #[rv a] [(.int 1)])
    exact oRetZ X hx hlk hret (hb hby d2_15) (Or.inr rfl) (⟨by rw [oBi_t hc7], e0, by rw [e0]; exact K⟩) (by decide) (by decide)
def Q1 (Z : State) (mean : Addr) (p1 : Int32) (h0 : Heap) (v : Option Value) (h : Heap) (L : List Loc) : Prop := ∃ r, v = some (.ref r) ∧ h = h0 ∧ oKp h0 h [] L ∧ oMs Z mean r (p1 < 4)
theorem oMs.to {Z : State} {mean r : Addr} {P P' : Prop} (G : oMs Z mean r P) (q : P ↔ P') : oMs Z mean r P' := by
  obtain ⟨E, k, F, h⟩ := G
  exact ⟨E, k, F, h.trans (not_congr q)⟩
theorem oLt4 {p : Int32} (h : p.toInt < 4) : True ↔ p < 4 := ⟨fun _ => Int32.lt_iff_toInt_lt.mpr h, fun _ => trivial⟩
theorem oGe4 {p : Int32} (h : ¬ p.toInt < 4) : False ↔ p < 4 := ⟨False.elim, fun q => h (Int32.lt_iff_toInt_lt.mp q)⟩
theorem pn_1 : plainName "com/example/classement/classement/evaluation/MeasureIsCountPinLaw" = true := by first | (simp [plainName, overriddenIn]; done) | decide +kernel
abbrev yy1 : MethodName := ⟨"com/example/classement/classement/evaluation/MeasureIsCountPinLaw", "measure", "(I)Lcom/example/classement/classement/evaluation/Measure;"⟩
theorem d1_0 : decode method_3_code 0 = .ok (.iload_n 0, 1) := by decide +kernel
theorem d1_1 : decode method_3_code 1 = .ok (.ifCond .ne 7, 3) := by decide +kernel
theorem d1_4 : decode method_3_code 4 = .ok (.getstatic 20, 3) := by decide +kernel
theorem d1_7 : decode method_3_code 7 = .ok (.areturn, 1) := by decide +kernel
theorem d1_8 : decode method_3_code 8 = .ok (.iload_n 0, 1) := by decide +kernel
theorem d1_9 : decode method_3_code 9 = .ok (.iconst 1, 1) := by decide +kernel
theorem d1_10 : decode method_3_code 10 = .ok (.if_icmp .ne 7, 3) := by decide +kernel
theorem d1_13 : decode method_3_code 13 = .ok (.getstatic 24, 3) := by decide +kernel
theorem d1_16 : decode method_3_code 16 = .ok (.areturn, 1) := by decide +kernel
theorem d1_17 : decode method_3_code 17 = .ok (.iload_n 0, 1) := by decide +kernel
theorem d1_18 : decode method_3_code 18 = .ok (.iconst 2, 1) := by decide +kernel
theorem d1_19 : decode method_3_code 19 = .ok (.if_icmp .ne 7, 3) := by decide +kernel
theorem d1_22 : decode method_3_code 22 = .ok (.getstatic 27, 3) := by decide +kernel
theorem d1_25 : decode method_3_code 25 = .ok (.areturn, 1) := by decide +kernel
theorem d1_26 : decode method_3_code 26 = .ok (.iload_n 0, 1) := by decide +kernel
theorem d1_27 : decode method_3_code 27 = .ok (.iconst 3, 1) := by decide +kernel
theorem d1_28 : decode method_3_code 28 = .ok (.if_icmp .ne 7, 3) := by decide +kernel
theorem d1_31 : decode method_3_code 31 = .ok (.getstatic 30, 3) := by decide +kernel
theorem d1_34 : decode method_3_code 34 = .ok (.areturn, 1) := by decide +kernel
theorem d1_35 : decode method_3_code 35 = .ok (.iload_n 0, 1) := by decide +kernel
theorem d1_36 : decode method_3_code 36 = .ok (.iconst 4, 1) := by decide +kernel
theorem d1_37 : decode method_3_code 37 = .ok (.if_icmp .ne 7, 3) := by decide +kernel
theorem d1_40 : decode method_3_code 40 = .ok (.getstatic 33, 3) := by decide +kernel
theorem d1_43 : decode method_3_code 43 = .ok (.areturn, 1) := by decide +kernel
theorem d1_44 : decode method_3_code 44 = .ok (.iload_n 0, 1) := by decide +kernel
theorem d1_45 : decode method_3_code 45 = .ok (.iconst 5, 1) := by decide +kernel
theorem d1_46 : decode method_3_code 46 = .ok (.if_icmp .ne 7, 3) := by decide +kernel
theorem d1_49 : decode method_3_code 49 = .ok (.getstatic 36, 3) := by decide +kernel
theorem d1_52 : decode method_3_code 52 = .ok (.areturn, 1) := by decide +kernel
theorem d1_53 : decode method_3_code 53 = .ok (.iload_n 0, 1) := by decide +kernel
theorem d1_54 : decode method_3_code 54 = .ok (.bipush 6, 2) := by decide +kernel
theorem d1_56 : decode method_3_code 56 = .ok (.if_icmp .ne 7, 3) := by decide +kernel
theorem d1_59 : decode method_3_code 59 = .ok (.getstatic 39, 3) := by decide +kernel
theorem d1_62 : decode method_3_code 62 = .ok (.areturn, 1) := by decide +kernel
theorem d1_63 : decode method_3_code 63 = .ok (.iload_n 0, 1) := by decide +kernel
theorem d1_64 : decode method_3_code 64 = .ok (.bipush 7, 2) := by decide +kernel
theorem d1_66 : decode method_3_code 66 = .ok (.if_icmp .ne 7, 3) := by decide +kernel
theorem d1_69 : decode method_3_code 69 = .ok (.getstatic 42, 3) := by decide +kernel
theorem d1_72 : decode method_3_code 72 = .ok (.areturn, 1) := by decide +kernel
theorem d1_73 : decode method_3_code 73 = .ok (.iload_n 0, 1) := by decide +kernel
theorem d1_74 : decode method_3_code 74 = .ok (.bipush 8, 2) := by decide +kernel
theorem d1_76 : decode method_3_code 76 = .ok (.if_icmp .ne 7, 3) := by decide +kernel
theorem d1_79 : decode method_3_code 79 = .ok (.getstatic 45, 3) := by decide +kernel
theorem d1_82 : decode method_3_code 82 = .ok (.areturn, 1) := by decide +kernel
theorem d1_83 : decode method_3_code 83 = .ok (.iload_n 0, 1) := by decide +kernel
theorem d1_84 : decode method_3_code 84 = .ok (.bipush 9, 2) := by decide +kernel
theorem d1_86 : decode method_3_code 86 = .ok (.if_icmp .ne 7, 3) := by decide +kernel
theorem d1_89 : decode method_3_code 89 = .ok (.getstatic 48, 3) := by decide +kernel
theorem d1_92 : decode method_3_code 92 = .ok (.areturn, 1) := by decide +kernel
theorem d1_93 : decode method_3_code 93 = .ok (.iload_n 0, 1) := by decide +kernel
theorem d1_94 : decode method_3_code 94 = .ok (.bipush 10, 2) := by decide +kernel
theorem d1_96 : decode method_3_code 96 = .ok (.if_icmp .ne 7, 3) := by decide +kernel
theorem d1_99 : decode method_3_code 99 = .ok (.getstatic 51, 3) := by decide +kernel
theorem d1_102 : decode method_3_code 102 = .ok (.areturn, 1) := by decide +kernel
theorem d1_103 : decode method_3_code 103 = .ok (.iload_n 0, 1) := by decide +kernel
theorem d1_104 : decode method_3_code 104 = .ok (.bipush 11, 2) := by decide +kernel
theorem d1_106 : decode method_3_code 106 = .ok (.if_icmp .ne 7, 3) := by decide +kernel
theorem d1_109 : decode method_3_code 109 = .ok (.getstatic 54, 3) := by decide +kernel
theorem d1_112 : decode method_3_code 112 = .ok (.areturn, 1) := by decide +kernel
theorem d1_113 : decode method_3_code 113 = .ok (.getstatic 57, 3) := by decide +kernel
theorem d1_116 : decode method_3_code 116 = .ok (.areturn, 1) := by decide +kernel
set_option maxRecDepth 65536 in
set_option maxHeartbeats 40000000 in
theorem rm1 (l : Launch) (Z : State) (a0 : Array Value) (hw : ∀ d ∈ tables_1, d.before a0 Z = true) (ws : List Jvm.Cond) (p1 : Int32) (mean : Addr) (m0 : Addr) (m1 : Addr) (m2 : Addr) (m3 : Addr) (m4 : Addr) (m5 : Addr) (m6 : Addr) (m7 : Addr) (m8 : Addr) (m9 : Addr) (m10 : Addr) (m11 : Addr) (m12 : Addr) (h0 : Heap) (O0 : Ext Z.heap h0) (S0 : Sta Z Z.heap "com/example/classement/classement/evaluation/Measure" "NUM_Q" "Lcom/example/classement/classement/evaluation/Measure;" (.ref m0)) (G0 : oMs Z mean m0 True) (S1 : Sta Z Z.heap "com/example/classement/classement/evaluation/Measure" "NUM_RET" "Lcom/example/classement/classement/evaluation/Measure;" (.ref m1)) (G1 : oMs Z mean m1 True) (S2 : Sta Z Z.heap "com/example/classement/classement/evaluation/Measure" "NUM_REL" "Lcom/example/classement/classement/evaluation/Measure;" (.ref m2)) (G2 : oMs Z mean m2 True) (S3 : Sta Z Z.heap "com/example/classement/classement/evaluation/Measure" "NUM_REL_RET" "Lcom/example/classement/classement/evaluation/Measure;" (.ref m3)) (G3 : oMs Z mean m3 True) (S4 : Sta Z Z.heap "com/example/classement/classement/evaluation/Measure" "MAP" "Lcom/example/classement/classement/evaluation/Measure;" (.ref m4)) (G4 : oMs Z mean m4 False) (S5 : Sta Z Z.heap "com/example/classement/classement/evaluation/Measure" "RECIP_RANK" "Lcom/example/classement/classement/evaluation/Measure;" (.ref m5)) (G5 : oMs Z mean m5 False) (S6 : Sta Z Z.heap "com/example/classement/classement/evaluation/Measure" "P_5" "Lcom/example/classement/classement/evaluation/Measure;" (.ref m6)) (G6 : oMs Z mean m6 False) (S7 : Sta Z Z.heap "com/example/classement/classement/evaluation/Measure" "P_10" "Lcom/example/classement/classement/evaluation/Measure;" (.ref m7)) (G7 : oMs Z mean m7 False) (S8 : Sta Z Z.heap "com/example/classement/classement/evaluation/Measure" "RECALL_10" "Lcom/example/classement/classement/evaluation/Measure;" (.ref m8)) (G8 : oMs Z mean m8 False) (S9 : Sta Z Z.heap "com/example/classement/classement/evaluation/Measure" "NDCG_CUT_10" "Lcom/example/classement/classement/evaluation/Measure;" (.ref m9)) (G9 : oMs Z mean m9 False) (S10 : Sta Z Z.heap "com/example/classement/classement/evaluation/Measure" "SUCCESS_1" "Lcom/example/classement/classement/evaluation/Measure;" (.ref m10)) (G10 : oMs Z mean m10 False) (S11 : Sta Z Z.heap "com/example/classement/classement/evaluation/Measure" "SUCCESS_5" "Lcom/example/classement/classement/evaluation/Measure;" (.ref m11)) (G11 : oMs Z mean m11 False) (S12 : Sta Z Z.heap "com/example/classement/classement/evaluation/Measure" "SUCCESS_10" "Lcom/example/classement/classement/evaluation/Measure;" (.ref m12)) (G12 : oMs Z mean m12 False) (hr : 0 ≤ p1.toInt ∧ p1.toInt < 13) :
    oCon l Z yy1 method_3_code 1 (some (.object "com/example/classement/classement/evaluation/Measure")) ws ({ frames := 0, cells := 0, slots := 0, locals := 0 } : Room) #[(.int p1)] h0 (Q1 Z mean p1 h0) := by
  refine oCon.of (plainFor_of_name pn_1) ?_
  intro p e s m below meth c T X hx hby hml hown hnm hret hlk hZ e0
  have hml : c.maxLocals = 1 := hml
  have K : oKp h0 h0 [] [] := oKp.nil _ _
  refine oWk.cast (g' := (mkF m 0 #[iv p1] [])) (by first | rfl | (simp [entryFrame, mkF, argsToLocals, Value.category]; done)) ?_
  refine oWk.st (fun _ kt => XS.iloadN X.here hx rfl (hb hby d1_0) rfl kt) ?_
  show oWk _ _ _ _ T (mkF m 1 #[iv p1] [(.int p1)])
  by_cases hc1 : p1 = (0 : Int32)
  · refine oWk.st (fun _ kt => XS.ifNo X.here hx rfl (hb hby d1_1) rfl ((if0 _ _).trans (teq hc1).2) kt) ?_
    show oWk _ _ _ _ T (mkF m 4 #[iv p1] [])
    have Oh := K.old O0 all0
    obtain ⟨T, X, e0, st⟩ := getS2 X hx hZ hown (host := "") (Or.inl (oW hw 5 rfl)) Via.refl e0 (S0.ext Oh) (g := (mkF m 4 #[iv p1] [])) rfl (hb hby d1_4)
    refine oWk.st st ?_
    show oWk _ _ _ _ T (mkF m 7 #[iv p1] [(.ref m0)])
    exact oRetA X hx hlk hret rfl rfl (hb hby d1_7) (⟨_, rfl, e0, by rw [e0]; exact K, G0.to (oLt4 (by rw [hc1]; decide))⟩) (by decide) (by decide)
  · refine oWk.st (fun _ kt => XS.ifYes X.here hx rfl (pc0 := 1) (pc' := 8) rfl (hb hby d1_1) rfl ((if0 _ _).trans (feq hc1).2) (by decide) (by decide) kt) ?_
    show oWk _ _ _ _ T (mkF m 8 #[iv p1] [])
    refine oWk.st (fun _ kt => XS.iloadN X.here hx rfl (hb hby d1_8) rfl kt) ?_
    show oWk _ _ _ _ T (mkF m 9 #[iv p1] [(.int p1)])
    refine oWk.st (fun _ kt => XS.iconst X.here hx rfl (hb hby d1_9) kt) ?_
    show oWk _ _ _ _ T (mkF m 10 #[iv p1] [(.int 1), (.int p1)])
    by_cases hc10 : p1 = (1 : Int32)
    · refine oWk.st (fun _ kt => XS.icmpNo X.here hx rfl (hb hby d1_10) rfl (teq hc10).2 kt) ?_
      show oWk _ _ _ _ T (mkF m 13 #[iv p1] [])
      have Oh := K.old O0 all0
      obtain ⟨T, X, e0, st⟩ := getS2 X hx hZ hown (host := "") (Or.inl (oW hw 34 rfl)) Via.refl e0 (S1.ext Oh) (g := (mkF m 13 #[iv p1] [])) rfl (hb hby d1_13)
      refine oWk.st st ?_
      show oWk _ _ _ _ T (mkF m 16 #[iv p1] [(.ref m1)])
      exact oRetA X hx hlk hret rfl rfl (hb hby d1_16) (⟨_, rfl, e0, by rw [e0]; exact K, G1.to (oLt4 (by rw [hc10]; decide))⟩) (by decide) (by decide)
    · refine oWk.st (fun _ kt => XS.icmpYes X.here hx rfl (pc0 := 10) (pc' := 17) rfl (hb hby d1_10) rfl (feq hc10).2 (by decide) (by decide) kt) ?_
      show oWk _ _ _ _ T (mkF m 17 #[iv p1] [])
      refine oWk.st (fun _ kt => XS.iloadN X.here hx rfl (hb hby d1_17) rfl kt) ?_
      show oWk _ _ _ _ T (mkF m 18 #[iv p1] [(.int p1)])
      refine oWk.st (fun _ kt => XS.iconst X.here hx rfl (hb hby d1_18) kt) ?_
      show oWk _ _ _ _ T (mkF m 19 #[iv p1] [(.int 2), (.int p1)])
      by_cases hc19 : p1 = (2 : Int32)
      · refine oWk.st (fun _ kt => XS.icmpNo X.here hx rfl (hb hby d1_19) rfl (teq hc19).2 kt) ?_
        show oWk _ _ _ _ T (mkF m 22 #[iv p1] [])
        have Oh := K.old O0 all0
        obtain ⟨T, X, e0, st⟩ := getS2 X hx hZ hown (host := "") (Or.inl (oW hw 30 rfl)) Via.refl e0 (S2.ext Oh) (g := (mkF m 22 #[iv p1] [])) rfl (hb hby d1_22)
        refine oWk.st st ?_
        show oWk _ _ _ _ T (mkF m 25 #[iv p1] [(.ref m2)])
        exact oRetA X hx hlk hret rfl rfl (hb hby d1_25) (⟨_, rfl, e0, by rw [e0]; exact K, G2.to (oLt4 (by rw [hc19]; decide))⟩) (by decide) (by decide)
      · refine oWk.st (fun _ kt => XS.icmpYes X.here hx rfl (pc0 := 19) (pc' := 26) rfl (hb hby d1_19) rfl (feq hc19).2 (by decide) (by decide) kt) ?_
        show oWk _ _ _ _ T (mkF m 26 #[iv p1] [])
        refine oWk.st (fun _ kt => XS.iloadN X.here hx rfl (hb hby d1_26) rfl kt) ?_
        show oWk _ _ _ _ T (mkF m 27 #[iv p1] [(.int p1)])
        refine oWk.st (fun _ kt => XS.iconst X.here hx rfl (hb hby d1_27) kt) ?_
        show oWk _ _ _ _ T (mkF m 28 #[iv p1] [(.int 3), (.int p1)])
        by_cases hc28 : p1 = (3 : Int32)
        · refine oWk.st (fun _ kt => XS.icmpNo X.here hx rfl (hb hby d1_28) rfl (teq hc28).2 kt) ?_
          show oWk _ _ _ _ T (mkF m 31 #[iv p1] [])
          have Oh := K.old O0 all0
          obtain ⟨T, X, e0, st⟩ := getS2 X hx hZ hown (host := "") (Or.inl (oW hw 19 rfl)) Via.refl e0 (S3.ext Oh) (g := (mkF m 31 #[iv p1] [])) rfl (hb hby d1_31)
          refine oWk.st st ?_
          show oWk _ _ _ _ T (mkF m 34 #[iv p1] [(.ref m3)])
          exact oRetA X hx hlk hret rfl rfl (hb hby d1_34) (⟨_, rfl, e0, by rw [e0]; exact K, G3.to (oLt4 (by rw [hc28]; decide))⟩) (by decide) (by decide)
        · refine oWk.st (fun _ kt => XS.icmpYes X.here hx rfl (pc0 := 28) (pc' := 35) rfl (hb hby d1_28) rfl (feq hc28).2 (by decide) (by decide) kt) ?_
          show oWk _ _ _ _ T (mkF m 35 #[iv p1] [])
          refine oWk.st (fun _ kt => XS.iloadN X.here hx rfl (hb hby d1_35) rfl kt) ?_
          show oWk _ _ _ _ T (mkF m 36 #[iv p1] [(.int p1)])
          refine oWk.st (fun _ kt => XS.iconst X.here hx rfl (hb hby d1_36) kt) ?_
          show oWk _ _ _ _ T (mkF m 37 #[iv p1] [(.int 4), (.int p1)])
          by_cases hc37 : p1 = (4 : Int32)
          · refine oWk.st (fun _ kt => XS.icmpNo X.here hx rfl (hb hby d1_37) rfl (teq hc37).2 kt) ?_
            show oWk _ _ _ _ T (mkF m 40 #[iv p1] [])
            have Oh := K.old O0 all0
            obtain ⟨T, X, e0, st⟩ := getS2 X hx hZ hown (host := "") (Or.inl (oW hw 42 rfl)) Via.refl e0 (S4.ext Oh) (g := (mkF m 40 #[iv p1] [])) rfl (hb hby d1_40)
            refine oWk.st st ?_
            show oWk _ _ _ _ T (mkF m 43 #[iv p1] [(.ref m4)])
            exact oRetA X hx hlk hret rfl rfl (hb hby d1_43) (⟨_, rfl, e0, by rw [e0]; exact K, G4.to (oGe4 (by rw [hc37]; decide))⟩) (by decide) (by decide)
          · refine oWk.st (fun _ kt => XS.icmpYes X.here hx rfl (pc0 := 37) (pc' := 44) rfl (hb hby d1_37) rfl (feq hc37).2 (by decide) (by decide) kt) ?_
            show oWk _ _ _ _ T (mkF m 44 #[iv p1] [])
            refine oWk.st (fun _ kt => XS.iloadN X.here hx rfl (hb hby d1_44) rfl kt) ?_
            show oWk _ _ _ _ T (mkF m 45 #[iv p1] [(.int p1)])
            refine oWk.st (fun _ kt => XS.iconst X.here hx rfl (hb hby d1_45) kt) ?_
            show oWk _ _ _ _ T (mkF m 46 #[iv p1] [(.int 5), (.int p1)])
            by_cases hc46 : p1 = (5 : Int32)
            · refine oWk.st (fun _ kt => XS.icmpNo X.here hx rfl (hb hby d1_46) rfl (teq hc46).2 kt) ?_
              show oWk _ _ _ _ T (mkF m 49 #[iv p1] [])
              have Oh := K.old O0 all0
              obtain ⟨T, X, e0, st⟩ := getS2 X hx hZ hown (host := "") (Or.inl (oW hw 24 rfl)) Via.refl e0 (S5.ext Oh) (g := (mkF m 49 #[iv p1] [])) rfl (hb hby d1_49)
              refine oWk.st st ?_
              show oWk _ _ _ _ T (mkF m 52 #[iv p1] [(.ref m5)])
              exact oRetA X hx hlk hret rfl rfl (hb hby d1_52) (⟨_, rfl, e0, by rw [e0]; exact K, G5.to (oGe4 (by rw [hc46]; decide))⟩) (by decide) (by decide)
            · refine oWk.st (fun _ kt => XS.icmpYes X.here hx rfl (pc0 := 46) (pc' := 53) rfl (hb hby d1_46) rfl (feq hc46).2 (by decide) (by decide) kt) ?_
              show oWk _ _ _ _ T (mkF m 53 #[iv p1] [])
              refine oWk.st (fun _ kt => XS.iloadN X.here hx rfl (hb hby d1_53) rfl kt) ?_
              show oWk _ _ _ _ T (mkF m 54 #[iv p1] [(.int p1)])
              refine oWk.st (fun _ kt => XS.bipush X.here hx rfl (hb hby d1_54) kt) ?_
              show oWk _ _ _ _ T (mkF m 56 #[iv p1] [(.int 6), (.int p1)])
              by_cases hc56 : p1 = (6 : Int32)
              · refine oWk.st (fun _ kt => XS.icmpNo X.here hx rfl (hb hby d1_56) rfl (teq hc56).2 kt) ?_
                show oWk _ _ _ _ T (mkF m 59 #[iv p1] [])
                have Oh := K.old O0 all0
                obtain ⟨T, X, e0, st⟩ := getS2 X hx hZ hown (host := "") (Or.inl (oW hw 22 rfl)) Via.refl e0 (S6.ext Oh) (g := (mkF m 59 #[iv p1] [])) rfl (hb hby d1_59)
                refine oWk.st st ?_
                show oWk _ _ _ _ T (mkF m 62 #[iv p1] [(.ref m6)])
                exact oRetA X hx hlk hret rfl rfl (hb hby d1_62) (⟨_, rfl, e0, by rw [e0]; exact K, G6.to (oGe4 (by rw [hc56]; decide))⟩) (by decide) (by decide)
              · refine oWk.st (fun _ kt => XS.icmpYes X.here hx rfl (pc0 := 56) (pc' := 63) rfl (hb hby d1_56) rfl (feq hc56).2 (by decide) (by decide) kt) ?_
                show oWk _ _ _ _ T (mkF m 63 #[iv p1] [])
                refine oWk.st (fun _ kt => XS.iloadN X.here hx rfl (hb hby d1_63) rfl kt) ?_
                show oWk _ _ _ _ T (mkF m 64 #[iv p1] [(.int p1)])
                refine oWk.st (fun _ kt => XS.bipush X.here hx rfl (hb hby d1_64) kt) ?_
                show oWk _ _ _ _ T (mkF m 66 #[iv p1] [(.int 7), (.int p1)])
                by_cases hc66 : p1 = (7 : Int32)
                · refine oWk.st (fun _ kt => XS.icmpNo X.here hx rfl (hb hby d1_66) rfl (teq hc66).2 kt) ?_
                  show oWk _ _ _ _ T (mkF m 69 #[iv p1] [])
                  have Oh := K.old O0 all0
                  obtain ⟨T, X, e0, st⟩ := getS2 X hx hZ hown (host := "") (Or.inl (oW hw 26 rfl)) Via.refl e0 (S7.ext Oh) (g := (mkF m 69 #[iv p1] [])) rfl (hb hby d1_69)
                  refine oWk.st st ?_
                  show oWk _ _ _ _ T (mkF m 72 #[iv p1] [(.ref m7)])
                  exact oRetA X hx hlk hret rfl rfl (hb hby d1_72) (⟨_, rfl, e0, by rw [e0]; exact K, G7.to (oGe4 (by rw [hc66]; decide))⟩) (by decide) (by decide)
                · refine oWk.st (fun _ kt => XS.icmpYes X.here hx rfl (pc0 := 66) (pc' := 73) rfl (hb hby d1_66) rfl (feq hc66).2 (by decide) (by decide) kt) ?_
                  show oWk _ _ _ _ T (mkF m 73 #[iv p1] [])
                  refine oWk.st (fun _ kt => XS.iloadN X.here hx rfl (hb hby d1_73) rfl kt) ?_
                  show oWk _ _ _ _ T (mkF m 74 #[iv p1] [(.int p1)])
                  refine oWk.st (fun _ kt => XS.bipush X.here hx rfl (hb hby d1_74) kt) ?_
                  show oWk _ _ _ _ T (mkF m 76 #[iv p1] [(.int 8), (.int p1)])
                  by_cases hc76 : p1 = (8 : Int32)
                  · refine oWk.st (fun _ kt => XS.icmpNo X.here hx rfl (hb hby d1_76) rfl (teq hc76).2 kt) ?_
                    show oWk _ _ _ _ T (mkF m 79 #[iv p1] [])
                    have Oh := K.old O0 all0
                    obtain ⟨T, X, e0, st⟩ := getS2 X hx hZ hown (host := "") (Or.inl (oW hw 36 rfl)) Via.refl e0 (S8.ext Oh) (g := (mkF m 79 #[iv p1] [])) rfl (hb hby d1_79)
                    refine oWk.st st ?_
                    show oWk _ _ _ _ T (mkF m 82 #[iv p1] [(.ref m8)])
                    exact oRetA X hx hlk hret rfl rfl (hb hby d1_82) (⟨_, rfl, e0, by rw [e0]; exact K, G8.to (oGe4 (by rw [hc76]; decide))⟩) (by decide) (by decide)
                  · refine oWk.st (fun _ kt => XS.icmpYes X.here hx rfl (pc0 := 76) (pc' := 83) rfl (hb hby d1_76) rfl (feq hc76).2 (by decide) (by decide) kt) ?_
                    show oWk _ _ _ _ T (mkF m 83 #[iv p1] [])
                    refine oWk.st (fun _ kt => XS.iloadN X.here hx rfl (hb hby d1_83) rfl kt) ?_
                    show oWk _ _ _ _ T (mkF m 84 #[iv p1] [(.int p1)])
                    refine oWk.st (fun _ kt => XS.bipush X.here hx rfl (hb hby d1_84) kt) ?_
                    show oWk _ _ _ _ T (mkF m 86 #[iv p1] [(.int 9), (.int p1)])
                    by_cases hc86 : p1 = (9 : Int32)
                    · refine oWk.st (fun _ kt => XS.icmpNo X.here hx rfl (hb hby d1_86) rfl (teq hc86).2 kt) ?_
                      show oWk _ _ _ _ T (mkF m 89 #[iv p1] [])
                      have Oh := K.old O0 all0
                      obtain ⟨T, X, e0, st⟩ := getS2 X hx hZ hown (host := "") (Or.inl (oW hw 28 rfl)) Via.refl e0 (S9.ext Oh) (g := (mkF m 89 #[iv p1] [])) rfl (hb hby d1_89)
                      refine oWk.st st ?_
                      show oWk _ _ _ _ T (mkF m 92 #[iv p1] [(.ref m9)])
                      exact oRetA X hx hlk hret rfl rfl (hb hby d1_92) (⟨_, rfl, e0, by rw [e0]; exact K, G9.to (oGe4 (by rw [hc86]; decide))⟩) (by decide) (by decide)
                    · refine oWk.st (fun _ kt => XS.icmpYes X.here hx rfl (pc0 := 86) (pc' := 93) rfl (hb hby d1_86) rfl (feq hc86).2 (by decide) (by decide) kt) ?_
                      show oWk _ _ _ _ T (mkF m 93 #[iv p1] [])
                      refine oWk.st (fun _ kt => XS.iloadN X.here hx rfl (hb hby d1_93) rfl kt) ?_
                      show oWk _ _ _ _ T (mkF m 94 #[iv p1] [(.int p1)])
                      refine oWk.st (fun _ kt => XS.bipush X.here hx rfl (hb hby d1_94) kt) ?_
                      show oWk _ _ _ _ T (mkF m 96 #[iv p1] [(.int 10), (.int p1)])
                      by_cases hc96 : p1 = (10 : Int32)
                      · refine oWk.st (fun _ kt => XS.icmpNo X.here hx rfl (hb hby d1_96) rfl (teq hc96).2 kt) ?_
                        show oWk _ _ _ _ T (mkF m 99 #[iv p1] [])
                        have Oh := K.old O0 all0
                        obtain ⟨T, X, e0, st⟩ := getS2 X hx hZ hown (host := "") (Or.inl (oW hw 38 rfl)) Via.refl e0 (S10.ext Oh) (g := (mkF m 99 #[iv p1] [])) rfl (hb hby d1_99)
                        refine oWk.st st ?_
                        show oWk _ _ _ _ T (mkF m 102 #[iv p1] [(.ref m10)])
                        exact oRetA X hx hlk hret rfl rfl (hb hby d1_102) (⟨_, rfl, e0, by rw [e0]; exact K, G10.to (oGe4 (by rw [hc96]; decide))⟩) (by decide) (by decide)
                      · refine oWk.st (fun _ kt => XS.icmpYes X.here hx rfl (pc0 := 96) (pc' := 103) rfl (hb hby d1_96) rfl (feq hc96).2 (by decide) (by decide) kt) ?_
                        show oWk _ _ _ _ T (mkF m 103 #[iv p1] [])
                        refine oWk.st (fun _ kt => XS.iloadN X.here hx rfl (hb hby d1_103) rfl kt) ?_
                        show oWk _ _ _ _ T (mkF m 104 #[iv p1] [(.int p1)])
                        refine oWk.st (fun _ kt => XS.bipush X.here hx rfl (hb hby d1_104) kt) ?_
                        show oWk _ _ _ _ T (mkF m 106 #[iv p1] [(.int 11), (.int p1)])
                        by_cases hc106 : p1 = (11 : Int32)
                        · refine oWk.st (fun _ kt => XS.icmpNo X.here hx rfl (hb hby d1_106) rfl (teq hc106).2 kt) ?_
                          show oWk _ _ _ _ T (mkF m 109 #[iv p1] [])
                          have Oh := K.old O0 all0
                          obtain ⟨T, X, e0, st⟩ := getS2 X hx hZ hown (host := "") (Or.inl (oW hw 32 rfl)) Via.refl e0 (S11.ext Oh) (g := (mkF m 109 #[iv p1] [])) rfl (hb hby d1_109)
                          refine oWk.st st ?_
                          show oWk _ _ _ _ T (mkF m 112 #[iv p1] [(.ref m11)])
                          exact oRetA X hx hlk hret rfl rfl (hb hby d1_112) (⟨_, rfl, e0, by rw [e0]; exact K, G11.to (oGe4 (by rw [hc106]; decide))⟩) (by decide) (by decide)
                        · refine oWk.st (fun _ kt => XS.icmpYes X.here hx rfl (pc0 := 106) (pc' := 113) rfl (hb hby d1_106) rfl (feq hc106).2 (by decide) (by decide) kt) ?_
                          show oWk _ _ _ _ T (mkF m 113 #[iv p1] [])
                          have Oh := K.old O0 all0
                          obtain ⟨T, X, e0, st⟩ := getS2 X hx hZ hown (host := "") (Or.inl (oW hw 40 rfl)) Via.refl e0 (S12.ext Oh) (g := (mkF m 113 #[iv p1] [])) rfl (hb hby d1_113)
                          refine oWk.st st ?_
                          show oWk _ _ _ _ T (mkF m 116 #[iv p1] [(.ref m12)])
                          have hge : ¬ p1.toInt < 4 := by
                            have q0 : p1.toInt ≠ 0 := oNe32 hc1
                            have q1 : p1.toInt ≠ 1 := oNe32 hc10
                            have q2 : p1.toInt ≠ 2 := oNe32 hc19
                            have q3 : p1.toInt ≠ 3 := oNe32 hc28
                            omega
                          exact oRetA X hx hlk hret rfl rfl (hb hby d1_116) (⟨_, rfl, e0, by rw [e0]; exact K, G12.to (oGe4 hge)⟩) (by decide) (by decide)
def Q0 (h0 : Heap) (v : Option Value) (h : Heap) (L : List Loc) : Prop := v = some (.int 1) ∧ Fr h0.size L
theorem pd_0 : parseMethodDescriptor "(I)Lcom/example/classement/classement/evaluation/Measure;" = some ⟨[.int], some (.object "com/example/classement/classement/evaluation/Measure")⟩ := by decide +kernel
theorem pd_1 : parseMethodDescriptor "()Z" = some ⟨[], some .boolean⟩ := by decide +kernel
set_option maxRecDepth 65536 in
set_option maxHeartbeats 40000000 in
theorem rm0 (l : Launch) (Z : State) (a0 : Array Value) (hw : ∀ d ∈ tables_1, d.before a0 Z = true) (ws : List Jvm.Cond) (p0 : Int32) (mean : Addr) (m0 : Addr) (m1 : Addr) (m2 : Addr) (m3 : Addr) (m4 : Addr) (m5 : Addr) (m6 : Addr) (m7 : Addr) (m8 : Addr) (m9 : Addr) (m10 : Addr) (m11 : Addr) (m12 : Addr) (h0 : Heap) (O0 : Ext Z.heap h0) (S_MEAN : Sta Z Z.heap "com/example/classement/classement/evaluation/Measure$Kind" "MEAN" "Lcom/example/classement/classement/evaluation/Measure$Kind;" (.ref mean)) (S0 : Sta Z Z.heap "com/example/classement/classement/evaluation/Measure" "NUM_Q" "Lcom/example/classement/classement/evaluation/Measure;" (.ref m0)) (G0 : oMs Z mean m0 True) (S1 : Sta Z Z.heap "com/example/classement/classement/evaluation/Measure" "NUM_RET" "Lcom/example/classement/classement/evaluation/Measure;" (.ref m1)) (G1 : oMs Z mean m1 True) (S2 : Sta Z Z.heap "com/example/classement/classement/evaluation/Measure" "NUM_REL" "Lcom/example/classement/classement/evaluation/Measure;" (.ref m2)) (G2 : oMs Z mean m2 True) (S3 : Sta Z Z.heap "com/example/classement/classement/evaluation/Measure" "NUM_REL_RET" "Lcom/example/classement/classement/evaluation/Measure;" (.ref m3)) (G3 : oMs Z mean m3 True) (S4 : Sta Z Z.heap "com/example/classement/classement/evaluation/Measure" "MAP" "Lcom/example/classement/classement/evaluation/Measure;" (.ref m4)) (G4 : oMs Z mean m4 False) (S5 : Sta Z Z.heap "com/example/classement/classement/evaluation/Measure" "RECIP_RANK" "Lcom/example/classement/classement/evaluation/Measure;" (.ref m5)) (G5 : oMs Z mean m5 False) (S6 : Sta Z Z.heap "com/example/classement/classement/evaluation/Measure" "P_5" "Lcom/example/classement/classement/evaluation/Measure;" (.ref m6)) (G6 : oMs Z mean m6 False) (S7 : Sta Z Z.heap "com/example/classement/classement/evaluation/Measure" "P_10" "Lcom/example/classement/classement/evaluation/Measure;" (.ref m7)) (G7 : oMs Z mean m7 False) (S8 : Sta Z Z.heap "com/example/classement/classement/evaluation/Measure" "RECALL_10" "Lcom/example/classement/classement/evaluation/Measure;" (.ref m8)) (G8 : oMs Z mean m8 False) (S9 : Sta Z Z.heap "com/example/classement/classement/evaluation/Measure" "NDCG_CUT_10" "Lcom/example/classement/classement/evaluation/Measure;" (.ref m9)) (G9 : oMs Z mean m9 False) (S10 : Sta Z Z.heap "com/example/classement/classement/evaluation/Measure" "SUCCESS_1" "Lcom/example/classement/classement/evaluation/Measure;" (.ref m10)) (G10 : oMs Z mean m10 False) (S11 : Sta Z Z.heap "com/example/classement/classement/evaluation/Measure" "SUCCESS_5" "Lcom/example/classement/classement/evaluation/Measure;" (.ref m11)) (G11 : oMs Z mean m11 False) (S12 : Sta Z Z.heap "com/example/classement/classement/evaluation/Measure" "SUCCESS_10" "Lcom/example/classement/classement/evaluation/Measure;" (.ref m12)) (G12 : oMs Z mean m12 False) :
    oCon l Z x code maxLocals ret ws room_1 #[(.int p0)] h0 (Q0 h0) := by
  refine oCon.of (plainFor_of_name pn_1) ?_
  intro p e s m below meth c T X hx hby hml hown hnm hret hlk hZ e0
  have hml : c.maxLocals = 4 := hml
  have K : oKp h0 h0 [] [] := oKp.nil _ _
  refine oWk.cast (g' := (mkF m 0 #[iv p0, uu, uu, uu] [])) (by first | rfl | (simp [entryFrame, mkF, argsToLocals, Value.category, maxLocals]; done)) ?_
  refine oWk.st (fun _ kt => XS.iloadN X.here hx rfl (hb hby at_0) rfl kt) ?_
  show oWk _ _ _ _ T (mkF m 1 #[iv p0, uu, uu, uu] [(.int p0)])
  refine oWk.st (fun _ kt => X.ldcI hx hown (mvT hZ (oW hw 0 rfl)) rfl (hb hby at_1) kt) ?_
  show oWk _ _ _ _ T (mkF m 3 #[iv p0, uu, uu, uu] [(.int 2147483647), (.int p0)])
  refine oWk.st (fun _ kt => XS.iand X.here hx rfl (hb hby at_3) rfl kt) ?_
  show oWk _ _ _ _ T (mkF m 4 #[iv p0, uu, uu, uu] [(.int (p0 &&& (2147483647 : Int32)))])
  refine oWk.st (fun _ kt => XS.bipush X.here hx rfl (hb hby at_4) kt) ?_
  show oWk _ _ _ _ T (mkF m 6 #[iv p0, uu, uu, uu] [(.int 13), (.int (p0 &&& (2147483647 : Int32)))])
  refine oWk.st (fun _ kt => iremM X hx rfl (hb hby at_6) rfl (by decide) kt) ?_
  show oWk _ _ _ _ T (mkF m 7 #[iv p0, uu, uu, uu] [(.int ((p0 &&& (2147483647 : Int32)) % (13 : Int32)))])
  generalize hi : ((p0 &&& (2147483647 : Int32)) % (13 : Int32)) = i
  show oWk _ _ _ _ T (mkF m 7 #[iv p0, uu, uu, uu] [(.int i)])
  refine oWk.st (fun _ kt => XS.istoreN X.here hx rfl (hb hby at_7) rfl (l' := #[iv p0, iv i, uu, uu]) rfl kt) ?_
  show oWk _ _ _ _ T (mkF m 8 #[iv p0, iv i, uu, uu] [])
  refine oWk.st (fun _ kt => XS.iloadN X.here hx rfl (hb hby at_8) rfl kt) ?_
  show oWk _ _ _ _ T (mkF m 9 #[iv p0, iv i, uu, uu] [(.int i)])
  have Oh := K.old O0 all0
  have hr : 0 ≤ i.toInt ∧ i.toInt < 13 := by
    have q1 := (c_irem (p0 &&& 2147483647) 13 13 rfl).1
    have q2 := c_mask p0 2147483647 31 (by decide) (by decide)
    rw [hi] at q1
    omega
  obtain ⟨_, _, ⟨T, L1, k1, n1⟩, -, X, ⟨Lc1, hQ, l1, y1, z1⟩, st⟩ := Jvm.LawKit.callS X hx (y := yy1) hown (mvT hZ (oW hw 1 rfl)) (mvT hZ (oW hw 2 rfl)) (mvT hZ (oW hw 3 rfl)) (mvT hZ (oW hw 4 rfl)) (by decide) (backOf (W := 0) (rm1 l Z a0 hw [] i mean m0 m1 m2 m3 m4 m5 m6 m7 m8 m9 m10 m11 m12 h0 Oh S0 G0 S1 G1 S2 G2 S3 G3 S4 G4 S5 G5 S6 G6 S7 G7 S8 G8 S9 G9 S10 G10 S11 G11 S12 G12 hr) hZ (oW hw 4 rfl) (oW hw 3 rfl) (by decide) (by decide)) (g := (mkF m 9 #[iv p0, iv i, uu, uu] [(.int i)])) rfl (by rw [hml]; rfl) (argsL := [(.int i)]) (rest := []) (lenOf pd_0 rfl) rfl (by show 2 * 0 + _ ≤ _; exact Nat.le_of_eq rfl) (hb hby at_9) (fun _ _ => ⟨rfl, e0, (by decide : 0 + 0 ≤ _), (by decide : 0 + 0 ≤ _)⟩)
  dsimp only [Pt.U, Pt.locs, Pt.cells, Pt.slots] at X l1 y1 z1 st hQ
  subst l1 y1 z1
  obtain ⟨r, rfl, e0, K1, E_r, k, F_kind_r, hk⟩ := hQ
  have K := K.call K1 all0
  rw [e0] at K
  have Oh := K.old O0 all0
  have E_r := E_r.ext Oh
  have F_kind_r := F_kind_r.ext Oh
  refine oWk.st st ?_
  show oWk _ _ _ _ T (mkF m 12 #[iv p0, iv i, uu, uu] [(.ref r)])
  refine oWk.st (fun _ kt => XS.astoreN X.here hx rfl (hb hby at_12) rfl rfl (l' := #[iv p0, iv i, rv r, uu]) rfl kt) ?_
  show oWk _ _ _ _ T (mkF m 13 #[iv p0, iv i, rv r, uu] [])
  refine oWk.st (fun _ kt => XS.iloadN X.here hx rfl (hb hby at_13) rfl kt) ?_
  show oWk _ _ _ _ T (mkF m 14 #[iv p0, iv i, rv r, uu] [(.int i)])
  refine oWk.st (fun _ kt => XS.iconst X.here hx rfl (hb hby at_14) kt) ?_
  show oWk _ _ _ _ T (mkF m 15 #[iv p0, iv i, rv r, uu] [(.int 4), (.int i)])
  by_cases hc15 : i < (4 : Int32)
  · refine oWk.st (fun _ kt => XS.icmpNo X.here hx rfl (hb hby at_15) rfl (tlt hc15).2.1 kt) ?_
    show oWk _ _ _ _ T (mkF m 18 #[iv p0, iv i, rv r, uu] [])
    refine oWk.st (fun _ kt => XS.iconst X.here hx rfl (hb hby at_18) kt) ?_
    show oWk _ _ _ _ T (mkF m 19 #[iv p0, iv i, rv r, uu] [(.int 1)])
    refine oWk.st (fun _ kt => XS.goto X.here hx rfl (pc0 := 19) (pc' := 23) rfl (hb hby at_19) (by decide) (by decide) kt) ?_
    show oWk _ _ _ _ T (mkF m 23 #[iv p0, iv i, rv r, uu] [(.int 1)])
    refine oWk.st (fun _ kt => XS.istoreN X.here hx rfl (hb hby at_23) rfl (l' := #[iv p0, iv i, rv r, iv 1]) rfl kt) ?_
    show oWk _ _ _ _ T (mkF m 24 #[iv p0, iv i, rv r, iv 1] [])
    refine oWk.st (fun _ kt => XS.aloadN X.here hx rfl (hb hby at_24) rfl rfl kt) ?_
    show oWk _ _ _ _ T (mkF m 25 #[iv p0, iv i, rv r, iv 1] [(.ref r)])
    have Oh := K.old O0 all0
    obtain ⟨cq2, kq2, q2a, q2b, q2c⟩ := isOf hZ e0 E_r
    obtain ⟨_, _, ⟨T, L2, k2, n2⟩, -, X, ⟨Lc2, hQ, l2, y2, z2⟩, st⟩ := X.virtualBack hx (y := yy0) (z := yy0) hown (mvT hZ (oW hw 8 rfl)) (mvT hZ (oW hw 9 rfl)) (notFace_of_selects (args := #[]) (mvT hZ (oW hw 11 rfl))) (mvT hZ (oW hw 11 rfl)) (mvT hZ (oW hw 10 rfl)) (by decide) (backOf (W := 0) (rm2 l Z a0 hw [] r k mean h0 Oh F_kind_r S_MEAN) hZ (oW hw 12 rfl) (oW hw 6 rfl) (by decide) (by decide)) q2a q2c (g := (mkF m 25 #[iv p0, iv i, rv r, iv 1] [(.ref r)])) rfl (by rw [hml]; rfl) (Steps.refl _) (argsL := []) (rest := []) (lenOf pd_1 rfl) rfl (by show 2 * 0 + _ ≤ _; exact Nat.le_of_eq rfl) (hb hby at_25) (fun _ _ => ⟨rfl, e0, (by decide : 0 + 0 ≤ _), (by decide : 0 + 0 ≤ _)⟩)
    dsimp only [Pt.U, Pt.locs, Pt.cells, Pt.slots] at X l2 y2 z2 st hQ
    subst l2 y2 z2
    obtain ⟨rfl, e0, K1⟩ := hQ
    have K := K.call K1 all0
    rw [e0] at K
    refine oWk.tr st ?_
    show oWk _ _ _ _ T (mkF m 28 #[iv p0, iv i, rv r, iv 1] [(.int (oBi (¬ k = mean)))])
    refine oWk.st (fun _ kt => XS.iloadN X.here hx rfl (hb hby at_28) rfl kt) ?_
    show oWk _ _ _ _ T (mkF m 29 #[iv p0, iv i, rv r, iv 1] [(.int 1), (.int (oBi (¬ k = mean)))])
    refine oWk.st (fun _ kt => XS.icmpNo X.here hx rfl (hb hby at_29) rfl (teq (oBi_t (P := ¬ k = mean) (fun q => hk.mp q hc15))).2 kt) ?_
    show oWk _ _ _ _ T (mkF m 32 #[iv p0, iv i, rv r, iv 1] [])
    refine oWk.st (fun _ kt => XS.iconst X.here hx rfl (hb hby at_32) kt) ?_
    show oWk _ _ _ _ T (mkF m 33 #[iv p0, iv i, rv r, iv 1] [(.int 1)])
    refine oWk.st (fun _ kt => XS.goto X.here hx rfl (pc0 := 33) (pc' := 37) rfl (hb hby at_33) (by decide) (by decide) kt) ?_
    show oWk _ _ _ _ T (mkF m 37 #[iv p0, iv i, rv r, iv 1] [(.int 1)])
    exact oRetZ X hx hlk hret (hb hby at_37) (Or.inr rfl) (⟨rfl, K.fr⟩) (by decide) (by decide)
  · refine oWk.st (fun _ kt => XS.icmpYes X.here hx rfl (pc0 := 15) (pc' := 22) rfl (hb hby at_15) rfl (flt hc15).2.1 (by decide) (by decide) kt) ?_
    show oWk _ _ _ _ T (mkF m 22 #[iv p0, iv i, rv r, uu] [])
    refine oWk.st (fun _ kt => XS.iconst X.here hx rfl (hb hby at_22) kt) ?_
    show oWk _ _ _ _ T (mkF m 23 #[iv p0, iv i, rv r, uu] [(.int 0)])
    refine oWk.st (fun _ kt => XS.istoreN X.here hx rfl (hb hby at_23) rfl (l' := #[iv p0, iv i, rv r, iv 0]) rfl kt) ?_
    show oWk _ _ _ _ T (mkF m 24 #[iv p0, iv i, rv r, iv 0] [])
    refine oWk.st (fun _ kt => XS.aloadN X.here hx rfl (hb hby at_24) rfl rfl kt) ?_
    show oWk _ _ _ _ T (mkF m 25 #[iv p0, iv i, rv r, iv 0] [(.ref r)])
    have Oh := K.old O0 all0
    obtain ⟨cq3, kq3, q3a, q3b, q3c⟩ := isOf hZ e0 E_r
    obtain ⟨_, _, ⟨T, L3, k3, n3⟩, -, X, ⟨Lc3, hQ, l3, y3, z3⟩, st⟩ := X.virtualBack hx (y := yy0) (z := yy0) hown (mvT hZ (oW hw 8 rfl)) (mvT hZ (oW hw 9 rfl)) (notFace_of_selects (args := #[]) (mvT hZ (oW hw 11 rfl))) (mvT hZ (oW hw 11 rfl)) (mvT hZ (oW hw 10 rfl)) (by decide) (backOf (W := 0) (rm2 l Z a0 hw [] r k mean h0 Oh F_kind_r S_MEAN) hZ (oW hw 12 rfl) (oW hw 6 rfl) (by decide) (by decide)) q3a q3c (g := (mkF m 25 #[iv p0, iv i, rv r, iv 0] [(.ref r)])) rfl (by rw [hml]; rfl) (Steps.refl _) (argsL := []) (rest := []) (lenOf pd_1 rfl) rfl (by show 2 * 0 + _ ≤ _; exact Nat.le_of_eq rfl) (hb hby at_25) (fun _ _ => ⟨rfl, e0, (by decide : 0 + 0 ≤ _), (by decide : 0 + 0 ≤ _)⟩)
    dsimp only [Pt.U, Pt.locs, Pt.cells, Pt.slots] at X l3 y3 z3 st hQ
    subst l3 y3 z3
    obtain ⟨rfl, e0, K1⟩ := hQ
    have K := K.call K1 all0
    rw [e0] at K
    refine oWk.tr st ?_
    show oWk _ _ _ _ T (mkF m 28 #[iv p0, iv i, rv r, iv 0] [(.int (oBi (¬ k = mean)))])
    refine oWk.st (fun _ kt => XS.iloadN X.here hx rfl (hb hby at_28) rfl kt) ?_
    show oWk _ _ _ _ T (mkF m 29 #[iv p0, iv i, rv r, iv 0] [(.int 0), (.int (oBi (¬ k = mean)))])
    refine oWk.st (fun _ kt => XS.icmpNo X.here hx rfl (hb hby at_29) rfl (teq (oBi_f (fun (q : ¬ k = mean) => q (hk.mpr hc15)))).2 kt) ?_
    show oWk _ _ _ _ T (mkF m 32 #[iv p0, iv i, rv r, iv 0] [])
    refine oWk.st (fun _ kt => XS.iconst X.here hx rfl (hb hby at_32) kt) ?_
    show oWk _ _ _ _ T (mkF m 33 #[iv p0, iv i, rv r, iv 0] [(.int 1)])
    refine oWk.st (fun _ kt => XS.goto X.here hx rfl (pc0 := 33) (pc' := 37) rfl (hb hby at_33) (by decide) (by decide) kt) ?_
    show oWk _ _ _ _ T (mkF m 37 #[iv p0, iv i, rv r, iv 0] [(.int 1)])
    exact oRetZ X hx hlk hret (hb hby at_37) (Or.inr rfl) (⟨rfl, K.fr⟩) (by decide) (by decide)
set_option maxRecDepth 65536 in
set_option maxHeartbeats 40000000 in
theorem comes_1 {Post : Tables → Env → Array Value → State → Outcome → State → Prop} (hpost : ∀ tb e args s v u, (limb_1_1.after args s (.returned v) u = true ∧ limb_1_2.after args s (.returned v) u = true ∧ True) → FrameEnd s (.returned v) u (Jvm.fieldLocs frame_1_writes args s ++ Jvm.arrayLocs frame_1_arrays args s ++ Jvm.staticLocs frame_1_statics s) 0 0 → Post tb e args s (.returned v) u) :
    ArmFor flags0 classFile x code maxLocals ret World_1 tables_1 room_1 Calls_1 rest_1 Pre_1 Post := by
  intro l hfl _ _ p e ha hc hk s m args below hf hA hF happ hP
  obtain ⟨hcalls, hrest, hpre⟩ := hP
  obtain ⟨-, -, -, hnamed, -, -, -, hat⟩ := (Spec.applies_iff hf).mp happ
  obtain ⟨hg, hn⟩ := and_e (Cond.before_iff.mp (show (Jvm.Cond.and given_1 narrow_1).before args s = true from hpre))
  obtain ⟨n1, n2⟩ := and_e hg
  obtain ⟨w0, rfl⟩ : ∃ w0 : Value, args = #[w0] := by
    have hs : args.size = 1 := by simpa [Cond.value, given_1] using n1
    obtain ⟨L⟩ := args
    match L, hs with
    | [w0], _ => exact ⟨w0, rfl⟩
  have hw := fun d (hd : d ∈ tables_1) => atoms_spec (ws := Jvm.Cond.code x code maxLocals ret :: tables_1) hat d (List.mem_cons_of_mem _ hd)
  have hfit : Fit s := fun {y c} hc i hi => by
    obtain ⟨ha, rfl⟩ := Array.getElem?_eq_some_iff.mp hc
    have q := List.all_eq_true.mp ((Array.all_eq_true_iff_forall_mem.mp hF) _ (Array.getElem_mem ha)) i (List.mem_range.mpr hi)
    simpa [Array.getElem?_eq_getElem hi] using q
  obtain ⟨i0, ei0⟩ := is_v n2
  obtain rfl : w0 = (.int i0) := Option.some.inj ei0
  obtain ⟨n3, n4⟩ := and_e hn
  obtain ⟨n5, n6⟩ := and_e n4
  obtain ⟨n7, n8⟩ := and_e n6
  obtain ⟨n9, n10⟩ := and_e n8
  obtain ⟨n11, n12⟩ := and_e n10
  obtain ⟨n13, n14⟩ := and_e n12
  obtain ⟨n15, n16⟩ := and_e n14
  obtain ⟨n17, n18⟩ := and_e n16
  obtain ⟨n19, n20⟩ := and_e n18
  obtain ⟨n21, n22⟩ := and_e n20
  obtain ⟨n23, n24⟩ := and_e n22
  obtain ⟨n25, n26⟩ := and_e n24
  obtain ⟨n27, n28⟩ := and_e n26
  obtain ⟨n29, n30⟩ := and_e n28
  obtain ⟨n31, n32⟩ := and_e n30
  obtain ⟨n33, n34⟩ := and_e n32
  obtain ⟨n35, n36⟩ := and_e n34
  obtain ⟨n37, n38⟩ := and_e n36
  obtain ⟨n39, n40⟩ := and_e n38
  obtain ⟨n41, n42⟩ := and_e n40
  obtain ⟨n43, n44⟩ := and_e n42
  obtain ⟨n45, n46⟩ := and_e n44
  obtain ⟨n47, n48⟩ := and_e n46
  obtain ⟨n49, n50⟩ := and_e n48
  obtain ⟨n51, n52⟩ := and_e n50
  obtain ⟨n53, n54⟩ := and_e n52
  obtain ⟨n55, n56⟩ := and_e n54
  obtain ⟨n57, n58⟩ := and_e n56
  obtain ⟨n59, n60⟩ := and_e n58
  obtain ⟨n61, n62⟩ := and_e n60
  obtain ⟨n63, n64⟩ := and_e n62
  obtain ⟨m_NUM_Q_65, v_m_NUM_Q_65⟩ := exa_v n3
  have E_m_NUM_Q_65 := Exa.start v_m_NUM_Q_65 n3
  have S_m_NUM_Q_65 := Sta.start v_m_NUM_Q_65 (Or.inr ⟨(oW hw 6 rfl), (oW hw 7 rfl)⟩)
  obtain ⟨m_TOPICS_66, v_m_TOPICS_66⟩ := exa_v n5
  have E_m_TOPICS_66 := Exa.start v_m_TOPICS_66 n5
  have S_m_TOPICS_66 := Sta.start v_m_TOPICS_66 (Or.inr ⟨(oW hw 15 rfl), (oW hw 16 rfl)⟩)
  have F_kind_67 := oFldR v_m_NUM_Q_65 v_m_TOPICS_66 n7
  obtain ⟨m_MEAN_68, v_m_MEAN_68⟩ := exa_v n9
  have E_m_MEAN_68 := Exa.start v_m_MEAN_68 n9
  have S_m_MEAN_68 := Sta.start v_m_MEAN_68 (Or.inr ⟨(oW hw 15 rfl), (oW hw 18 rfl)⟩)
  have F_ordinal_69 := oFldI v_m_TOPICS_66 n11
  have F_ordinal_70 := oFldI v_m_MEAN_68 n13
  obtain ⟨m_NUM_REL_RET_71, v_m_NUM_REL_RET_71⟩ := exa_v n15
  have E_m_NUM_REL_RET_71 := Exa.start v_m_NUM_REL_RET_71 n15
  have S_m_NUM_REL_RET_71 := Sta.start v_m_NUM_REL_RET_71 (Or.inr ⟨(oW hw 6 rfl), (oW hw 20 rfl)⟩)
  obtain ⟨m_COUNT_72, v_m_COUNT_72⟩ := exa_v n17
  have E_m_COUNT_72 := Exa.start v_m_COUNT_72 n17
  have S_m_COUNT_72 := Sta.start v_m_COUNT_72 (Or.inr ⟨(oW hw 15 rfl), (oW hw 21 rfl)⟩)
  have F_kind_73 := oFldR v_m_NUM_REL_RET_71 v_m_COUNT_72 n19
  have F_ordinal_74 := oFldI v_m_COUNT_72 n21
  obtain ⟨m_P_5_75, v_m_P_5_75⟩ := exa_v n23
  have E_m_P_5_75 := Exa.start v_m_P_5_75 n23
  have S_m_P_5_75 := Sta.start v_m_P_5_75 (Or.inr ⟨(oW hw 6 rfl), (oW hw 23 rfl)⟩)
  have F_kind_76 := oFldR v_m_P_5_75 v_m_MEAN_68 n25
  obtain ⟨m_RECIP_RANK_77, v_m_RECIP_RANK_77⟩ := exa_v n27
  have E_m_RECIP_RANK_77 := Exa.start v_m_RECIP_RANK_77 n27
  have S_m_RECIP_RANK_77 := Sta.start v_m_RECIP_RANK_77 (Or.inr ⟨(oW hw 6 rfl), (oW hw 25 rfl)⟩)
  have F_kind_78 := oFldR v_m_RECIP_RANK_77 v_m_MEAN_68 n29
  obtain ⟨m_P_10_79, v_m_P_10_79⟩ := exa_v n31
  have E_m_P_10_79 := Exa.start v_m_P_10_79 n31
  have S_m_P_10_79 := Sta.start v_m_P_10_79 (Or.inr ⟨(oW hw 6 rfl), (oW hw 27 rfl)⟩)
  have F_kind_80 := oFldR v_m_P_10_79 v_m_MEAN_68 n33
  obtain ⟨m_NDCG_CUT_10_81, v_m_NDCG_CUT_10_81⟩ := exa_v n35
  have E_m_NDCG_CUT_10_81 := Exa.start v_m_NDCG_CUT_10_81 n35
  have S_m_NDCG_CUT_10_81 := Sta.start v_m_NDCG_CUT_10_81 (Or.inr ⟨(oW hw 6 rfl), (oW hw 29 rfl)⟩)
  have F_kind_82 := oFldR v_m_NDCG_CUT_10_81 v_m_MEAN_68 n37
  obtain ⟨m_NUM_REL_83, v_m_NUM_REL_83⟩ := exa_v n39
  have E_m_NUM_REL_83 := Exa.start v_m_NUM_REL_83 n39
  have S_m_NUM_REL_83 := Sta.start v_m_NUM_REL_83 (Or.inr ⟨(oW hw 6 rfl), (oW hw 31 rfl)⟩)
  have F_kind_84 := oFldR v_m_NUM_REL_83 v_m_COUNT_72 n41
  obtain ⟨m_SUCCESS_5_85, v_m_SUCCESS_5_85⟩ := exa_v n43
  have E_m_SUCCESS_5_85 := Exa.start v_m_SUCCESS_5_85 n43
  have S_m_SUCCESS_5_85 := Sta.start v_m_SUCCESS_5_85 (Or.inr ⟨(oW hw 6 rfl), (oW hw 33 rfl)⟩)
  have F_kind_86 := oFldR v_m_SUCCESS_5_85 v_m_MEAN_68 n45
  obtain ⟨m_NUM_RET_87, v_m_NUM_RET_87⟩ := exa_v n47
  have E_m_NUM_RET_87 := Exa.start v_m_NUM_RET_87 n47
  have S_m_NUM_RET_87 := Sta.start v_m_NUM_RET_87 (Or.inr ⟨(oW hw 6 rfl), (oW hw 35 rfl)⟩)
  have F_kind_88 := oFldR v_m_NUM_RET_87 v_m_COUNT_72 n49
  obtain ⟨m_RECALL_10_89, v_m_RECALL_10_89⟩ := exa_v n51
  have E_m_RECALL_10_89 := Exa.start v_m_RECALL_10_89 n51
  have S_m_RECALL_10_89 := Sta.start v_m_RECALL_10_89 (Or.inr ⟨(oW hw 6 rfl), (oW hw 37 rfl)⟩)
  have F_kind_90 := oFldR v_m_RECALL_10_89 v_m_MEAN_68 n53
  obtain ⟨m_SUCCESS_1_91, v_m_SUCCESS_1_91⟩ := exa_v n55
  have E_m_SUCCESS_1_91 := Exa.start v_m_SUCCESS_1_91 n55
  have S_m_SUCCESS_1_91 := Sta.start v_m_SUCCESS_1_91 (Or.inr ⟨(oW hw 6 rfl), (oW hw 39 rfl)⟩)
  have F_kind_92 := oFldR v_m_SUCCESS_1_91 v_m_MEAN_68 n57
  obtain ⟨m_SUCCESS_10_93, v_m_SUCCESS_10_93⟩ := exa_v n59
  have E_m_SUCCESS_10_93 := Exa.start v_m_SUCCESS_10_93 n59
  have S_m_SUCCESS_10_93 := Sta.start v_m_SUCCESS_10_93 (Or.inr ⟨(oW hw 6 rfl), (oW hw 41 rfl)⟩)
  have F_kind_94 := oFldR v_m_SUCCESS_10_93 v_m_MEAN_68 n61
  obtain ⟨m_MAP_95, v_m_MAP_95⟩ := exa_v n63
  have E_m_MAP_95 := Exa.start v_m_MAP_95 n63
  have S_m_MAP_95 := Sta.start v_m_MAP_95 (Or.inr ⟨(oW hw 6 rfl), (oW hw 43 rfl)⟩)
  have F_kind_96 := oFldR v_m_MAP_95 v_m_MEAN_68 n64
  have ne_TOPICS : ¬ m_TOPICS_66 = m_MEAN_68 := Fld.ne F_ordinal_69 F_ordinal_70 (fun q => absurd (Value.int.inj q) (by decide))
  have ne_COUNT : ¬ m_COUNT_72 = m_MEAN_68 := Fld.ne F_ordinal_74 F_ordinal_70 (fun q => absurd (Value.int.inj q) (by decide))
  obtain ⟨n, o, h1, h2, h3, _, L, rfl, ⟨rfl, N⟩, hq⟩ := rm0 l s _ hw tables_1 i0 m_MEAN_68 m_NUM_Q_65 m_NUM_RET_87 m_NUM_REL_83 m_NUM_REL_RET_71 m_MAP_95 m_RECIP_RANK_77 m_P_5_75 m_P_10_79 m_RECALL_10_89 m_NDCG_CUT_10_81 m_SUCCESS_1_91 m_SUCCESS_5_85 m_SUCCESS_10_93 s.heap (oExtRefl _) S_m_MEAN_68 S_m_NUM_Q_65 ⟨E_m_NUM_Q_65, _, F_kind_67, ⟨fun q => absurd q ne_TOPICS, fun q => absurd trivial q⟩⟩ S_m_NUM_RET_87 ⟨E_m_NUM_RET_87, _, F_kind_88, ⟨fun q => absurd q ne_COUNT, fun q => absurd trivial q⟩⟩ S_m_NUM_REL_83 ⟨E_m_NUM_REL_83, _, F_kind_84, ⟨fun q => absurd q ne_COUNT, fun q => absurd trivial q⟩⟩ S_m_NUM_REL_RET_71 ⟨E_m_NUM_REL_RET_71, _, F_kind_73, ⟨fun q => absurd q ne_COUNT, fun q => absurd trivial q⟩⟩ S_m_MAP_95 ⟨E_m_MAP_95, _, F_kind_96, ⟨fun _ => id, fun _ => rfl⟩⟩ S_m_RECIP_RANK_77 ⟨E_m_RECIP_RANK_77, _, F_kind_78, ⟨fun _ => id, fun _ => rfl⟩⟩ S_m_P_5_75 ⟨E_m_P_5_75, _, F_kind_76, ⟨fun _ => id, fun _ => rfl⟩⟩ S_m_P_10_79 ⟨E_m_P_10_79, _, F_kind_80, ⟨fun _ => id, fun _ => rfl⟩⟩ S_m_RECALL_10_89 ⟨E_m_RECALL_10_89, _, F_kind_90, ⟨fun _ => id, fun _ => rfl⟩⟩ S_m_NDCG_CUT_10_81 ⟨E_m_NDCG_CUT_10_81, _, F_kind_82, ⟨fun _ => id, fun _ => rfl⟩⟩ S_m_SUCCESS_1_91 ⟨E_m_SUCCESS_1_91, _, F_kind_92, ⟨fun _ => id, fun _ => rfl⟩⟩ S_m_SUCCESS_5_85 ⟨E_m_SUCCESS_5_85, _, F_kind_86, ⟨fun _ => id, fun _ => rfl⟩⟩ S_m_SUCCESS_10_93 ⟨E_m_SUCCESS_10_93, _, F_kind_94, ⟨fun _ => id, fun _ => rfl⟩⟩ p e ha hc hk s m _ below hf ((Spec.applies_iff_loose hf).mp happ).1 ⟨rfl, State.Warmed39.refl s, rfl⟩ trivial
  refine ⟨n, _, h1, h2, h3, hpost _ _ _ _ _ _ ⟨Cond.after_iff.mpr rfl, Cond.after_iff.mpr (eq_i res_at (Term.int_eval (1)) rfl), trivial⟩ ⟨hq.1, hq.2.1, (hq.2.2.sift fun y hy => Or.inr (N y hy)).mono (by decide) (by decide)⟩⟩
theorem main_1_1 : Claimed_1_1 := comes_1 fun _ _ _ _ _ _ h hF => ⟨h.1, hF⟩
theorem main_1_2 : Claimed_1_2 := comes_1 fun _ _ _ _ _ _ h hF => ⟨h.2.1, hF⟩
end Jvm.Pilot.@@N@@
namespace Jvm.Pilot.@@N@@
open Jvm Jvm.ClassFile Sem Op Lib Jvm.Free Jvm.Stand Jvm.Pilot.@@N@@.Jvm.D
/-! MADE BY PROGRAM (witnessworld.py) out of the Statement's table words and the real class files: 13 classes; the members and pool entries that the words name. The judged class is class 1, her method 1. -/
namespace start1
open Jvm.ClassFile
def u (s : String) : CpInfo := .utf8 (stringToUtf16 s)
/-- a pool by its gaps: so many unusable entries, then the entry; so many at the end -/
def gap : Nat → List CpInfo → List CpInfo
  | 0, r => r
  | n + 1, r => .unusable :: gap n r
def poolList (es : List (Nat × CpInfo)) (last : Nat) : List CpInfo := es.foldr (fun e r => gap e.1 (e.2 :: r)) (gap last [])
def pool (es : List (Nat × CpInfo)) (last : Nat) : Array CpInfo := ⟨poolList es last⟩
def fileOf (pool : Array CpInfo) (this : Nat) (attrs : Array Attribute := #[]) (ms : Array MethodInfo := #[]) (fl : Nat := 33) (sup : Nat := 0) (ifs : Array Nat := #[]) (fds : Array FieldInfo := #[]) : ClassFile where
  minorVersion := 0
  majorVersion := 65
  constantPool := pool
  accessFlags := fl
  thisClass := this
  superClass := sup
  interfaces := ifs
  fields := fds
  methods := ms
  attributes := attrs
def plain (name : String) (sup : Option ClassId) : Class where
  name := name
  kind := .ordinary
  loader := none
  accessFlags := 33
  super := sup
  interfaces := #[]
  cf := none
  fields := #[]
  methods := #[]
  instanceTypes := #[]
  staticTypes := #[]
  resolved := #[]
  callSites := []
  init := .initialized
  statics := none
  mirror := none

def pool0 : Array CpInfo := pool [(5, u "<init>"), (0, u "()V"), (1, .class_ 10), (1, u "java/lang/Object")] 113

def k0m0 : Method := { name := "<init>", desc := "()V", sig := { parameters := [], returnType := none }, accessFlags := 1, code := none }
/-- java/lang/Object -/
def k0 : Class := { plain "java/lang/Object" none with
  accessFlags := 33
  interfaces := #[]
  cf := some (fileOf pool0 8 #[] #[{ accessFlags := 1, nameIndex := 5, descriptorIndex := 6, attributes := #[] }] 33 0 #[] #[])
  fields := #[]
  methods := #[k0m0]
  instanceTypes := #[]
  staticTypes := #[]
  resolved := Array.replicate 124 none
  statics := none }

def pool1 : Array CpInfo := pool [(2, .class_ 4), (1, u "java/lang/Object"), (0, u "<init>"), (0, u "()V"), (0, .integer 2147483647), (0, .methodref 9 10), (0, .class_ 11), (0, .nameAndType 12 13), (0, u "com/example/classement/classement/evaluation/MeasureIsCountPinLaw"), (0, u "measure"), (0, u "(I)Lcom/example/classement/classement/evaluation/Measure;"), (0, .methodref 15 16), (0, .class_ 17), (0, .nameAndType 18 19), (0, u "com/example/classement/classement/evaluation/Measure"), (0, u "isCount"), (0, u "()Z"), (0, .fieldref 15 21), (0, .nameAndType 22 23), (0, u "NUM_Q"), (0, u "Lcom/example/classement/classement/evaluation/Measure;"), (0, .fieldref 15 25), (0, .nameAndType 26 23), (0, u "NUM_RET"), (0, .fieldref 15 28), (0, .nameAndType 29 23), (0, u "NUM_REL"), (0, .fieldref 15 31), (0, .nameAndType 32 23), (0, u "NUM_REL_RET"), (0, .fieldref 15 34), (0, .nameAndType 35 23), (0, u "MAP"), (0, .fieldref 15 37), (0, .nameAndType 38 23), (0, u "RECIP_RANK"), (0, .fieldref 15 40), (0, .nameAndType 41 23), (0, u "P_5"), (0, .fieldref 15 43), (0, .nameAndType 44 23), (0, u "P_10"), (0, .fieldref 15 46), (0, .nameAndType 47 23), (0, u "RECALL_10"), (0, .fieldref 15 49), (0, .nameAndType 50 23), (0, u "NDCG_CUT_10"), (0, .fieldref 15 52), (0, .nameAndType 53 23), (0, u "SUCCESS_1"), (0, .fieldref 15 55), (0, .nameAndType 56 23), (0, u "SUCCESS_5"), (0, .fieldref 15 58), (0, .nameAndType 59 23), (0, u "SUCCESS_10"), (2, u "law"), (0, u "(I)Z")] 3

def k1m0 : Method := { name := "<init>", desc := "()V", sig := { parameters := [], returnType := none }, accessFlags := 1, code := none }
def k1c1 : Code := { maxStack := 2, maxLocals := 4, code := code, exceptionTable := #[], attributes := #[] }
def k1m1 : Method := { name := "law", desc := "(I)Z", sig := { parameters := [.int], returnType := some .boolean }, accessFlags := 9, code := some k1c1 }
def k1c2 : Code := { maxStack := 2, maxLocals := 1, code := method_3_code, exceptionTable := #[], attributes := #[] }
def k1m2 : Method := { name := "measure", desc := "(I)Lcom/example/classement/classement/evaluation/Measure;", sig := { parameters := [.int], returnType := some (.object "com/example/classement/classement/evaluation/Measure") }, accessFlags := 10, code := some k1c2 }
/-- com/example/classement/classement/evaluation/MeasureIsCountPinLaw -/
def k1 : Class := { plain "com/example/classement/classement/evaluation/MeasureIsCountPinLaw" (some 0) with
  accessFlags := 49
  interfaces := #[]
  cf := some (fileOf pool1 9 #[] #[{ accessFlags := 1, nameIndex := 5, descriptorIndex := 6, attributes := #[] }, { accessFlags := 9, nameIndex := 62, descriptorIndex := 63, attributes := #[] }, { accessFlags := 10, nameIndex := 12, descriptorIndex := 13, attributes := #[] }] 49 2 #[] #[])
  fields := #[]
  methods := #[k1m0, k1m1, k1m2]
  instanceTypes := #[]
  staticTypes := #[]
  resolved := Array.replicate 67 none
  statics := none }

def pool2 : Array CpInfo := pool [(1, .class_ 2), (0, u "java/lang/constant/Constable"), (0, .class_ 4), (0, u "java/lang/Object")] 6

/-- java/lang/constant/Constable -/
def k2 : Class := { plain "java/lang/constant/Constable" (some 0) with
  accessFlags := 1537
  interfaces := #[]
  cf := some (fileOf pool2 1 #[] #[] 1537 3 #[] #[])
  fields := #[]
  methods := #[]
  instanceTypes := #[]
  staticTypes := #[]
  resolved := Array.replicate 11 none
  statics := none }

def pool3 : Array CpInfo := pool [(1, .class_ 2), (0, u "java/lang/Comparable"), (0, .class_ 4), (0, u "java/lang/Object")] 7

/-- java/lang/Comparable -/
def k3 : Class := { plain "java/lang/Comparable" (some 0) with
  accessFlags := 1537
  interfaces := #[]
  cf := some (fileOf pool3 1 #[] #[] 1537 3 #[] #[])
  fields := #[]
  methods := #[]
  instanceTypes := #[]
  staticTypes := #[]
  resolved := Array.replicate 12 none
  statics := none }

def pool4 : Array CpInfo := pool [(1, .class_ 2), (0, u "java/io/Serializable"), (0, .class_ 4), (0, u "java/lang/Object")] 2

/-- java/io/Serializable -/
def k4 : Class := { plain "java/io/Serializable" (some 0) with
  accessFlags := 1537
  interfaces := #[]
  cf := some (fileOf pool4 1 #[] #[] 1537 3 #[] #[])
  fields := #[]
  methods := #[]
  instanceTypes := #[]
  staticTypes := #[]
  resolved := Array.replicate 7 none
  statics := none }

def pool5 : Array CpInfo := pool [(2, .class_ 4), (1, u "java/lang/Enum"), (0, u "name"), (0, u "Ljava/lang/String;"), (2, u "ordinal"), (0, u "I"), (1, .class_ 14), (1, u "java/lang/Object"), (4, u "hash"), (86, .class_ 108), (1, u "java/lang/Enum$EnumDesc"), (2, .class_ 112), (0, u "java/lang/constant/Constable"), (0, .class_ 114), (0, u "java/lang/Comparable"), (0, .class_ 116), (0, u "java/io/Serializable")] 87

/-- java/lang/Enum -/
def k5 : Class := { plain "java/lang/Enum" (some 0) with
  accessFlags := 1057
  interfaces := #[2, 3, 4]
  cf := some (fileOf pool5 2 #[.nestMembers #[106]] #[] 1057 12 #[111, 113, 115] #[{ accessFlags := 18, nameIndex := 5, descriptorIndex := 6, attributes := #[] }, { accessFlags := 18, nameIndex := 9, descriptorIndex := 10, attributes := #[] }, { accessFlags := 2, nameIndex := 19, descriptorIndex := 10, attributes := #[] }])
  fields := #[{ name := "name", type := (.object "java/lang/String"), accessFlags := 18, slot := 0, constantValue := 0 }, { name := "ordinal", type := .int, accessFlags := 18, slot := 1, constantValue := 0 }, { name := "hash", type := .int, accessFlags := 2, slot := 2, constantValue := 0 }]
  methods := #[]
  instanceTypes := #[(.object "java/lang/String"), .int, .int]
  staticTypes := #[]
  resolved := Array.replicate 204 none
  statics := none }

def pool6 : Array CpInfo := pool [(1, .class_ 2), (0, u "com/example/classement/classement/evaluation/Measure"), (2, u "NUM_Q"), (0, u "Lcom/example/classement/classement/evaluation/Measure;"), (2, u "NUM_RET"), (2, u "NUM_REL"), (2, u "NUM_REL_RET"), (2, u "MAP"), (2, u "RECIP_RANK"), (2, u "P_5"), (2, u "P_10"), (2, u "RECALL_10"), (2, u "NDCG_CUT_10"), (2, u "SUCCESS_1"), (2, u "SUCCESS_5"), (2, u "SUCCESS_10"), (2, u "$VALUES"), (0, u "[Lcom/example/classement/classement/evaluation/Measure;"), (6, .class_ 55), (1, u "java/lang/Enum"), (8, u "id"), (0, u "Ljava/lang/String;"), (0, .fieldref 1 67), (0, .nameAndType 68 69), (0, u "kind"), (0, u "Lcom/example/classement/classement/evaluation/Measure$Kind;"), (2, u "value"), (0, u "Ljava/util/function/ToDoubleFunction;"), (6, .fieldref 81 82), (0, .class_ 83), (0, .nameAndType 84 69), (0, u "com/example/classement/classement/evaluation/Measure$Kind"), (0, u "MEAN"), (5, u "isCount"), (0, u "()Z"), (67, u "LN_2"), (0, u "D")] 164

def k6c0 : Code := { maxStack := 2, maxLocals := 1, code := prog_19_method_6_code, exceptionTable := #[], attributes := #[] }
def k6m0 : Method := { name := "isCount", desc := "()Z", sig := { parameters := [], returnType := some .boolean }, accessFlags := 1, code := some k6c0 }
/-- com/example/classement/classement/evaluation/Measure -/
def k6 : Class := { plain "com/example/classement/classement/evaluation/Measure" (some 5) with
  accessFlags := 16433
  interfaces := #[]
  cf := some (fileOf pool6 1 #[.nestMembers #[81]] #[{ accessFlags := 1, nameIndex := 90, descriptorIndex := 91, attributes := #[] }] 16433 53 #[] #[{ accessFlags := 16409, nameIndex := 5, descriptorIndex := 6, attributes := #[] }, { accessFlags := 16409, nameIndex := 9, descriptorIndex := 6, attributes := #[] }, { accessFlags := 16409, nameIndex := 12, descriptorIndex := 6, attributes := #[] }, { accessFlags := 16409, nameIndex := 15, descriptorIndex := 6, attributes := #[] }, { accessFlags := 16409, nameIndex := 18, descriptorIndex := 6, attributes := #[] }, { accessFlags := 16409, nameIndex := 21, descriptorIndex := 6, attributes := #[] }, { accessFlags := 16409, nameIndex := 24, descriptorIndex := 6, attributes := #[] }, { accessFlags := 16409, nameIndex := 27, descriptorIndex := 6, attributes := #[] }, { accessFlags := 16409, nameIndex := 30, descriptorIndex := 6, attributes := #[] }, { accessFlags := 16409, nameIndex := 33, descriptorIndex := 6, attributes := #[] }, { accessFlags := 16409, nameIndex := 36, descriptorIndex := 6, attributes := #[] }, { accessFlags := 16409, nameIndex := 39, descriptorIndex := 6, attributes := #[] }, { accessFlags := 16409, nameIndex := 42, descriptorIndex := 6, attributes := #[] }, { accessFlags := 26, nameIndex := 159, descriptorIndex := 160, attributes := #[] }, { accessFlags := 18, nameIndex := 64, descriptorIndex := 65, attributes := #[] }, { accessFlags := 18, nameIndex := 68, descriptorIndex := 69, attributes := #[] }, { accessFlags := 18, nameIndex := 72, descriptorIndex := 73, attributes := #[] }, { accessFlags := 4122, nameIndex := 45, descriptorIndex := 46, attributes := #[] }])
  fields := #[{ name := "NUM_Q", type := (.object "com/example/classement/classement/evaluation/Measure"), accessFlags := 16409, slot := 0, constantValue := 0 }, { name := "NUM_RET", type := (.object "com/example/classement/classement/evaluation/Measure"), accessFlags := 16409, slot := 1, constantValue := 0 }, { name := "NUM_REL", type := (.object "com/example/classement/classement/evaluation/Measure"), accessFlags := 16409, slot := 2, constantValue := 0 }, { name := "NUM_REL_RET", type := (.object "com/example/classement/classement/evaluation/Measure"), accessFlags := 16409, slot := 3, constantValue := 0 }, { name := "MAP", type := (.object "com/example/classement/classement/evaluation/Measure"), accessFlags := 16409, slot := 4, constantValue := 0 }, { name := "RECIP_RANK", type := (.object "com/example/classement/classement/evaluation/Measure"), accessFlags := 16409, slot := 5, constantValue := 0 }, { name := "P_5", type := (.object "com/example/classement/classement/evaluation/Measure"), accessFlags := 16409, slot := 6, constantValue := 0 }, { name := "P_10", type := (.object "com/example/classement/classement/evaluation/Measure"), accessFlags := 16409, slot := 7, constantValue := 0 }, { name := "RECALL_10", type := (.object "com/example/classement/classement/evaluation/Measure"), accessFlags := 16409, slot := 8, constantValue := 0 }, { name := "NDCG_CUT_10", type := (.object "com/example/classement/classement/evaluation/Measure"), accessFlags := 16409, slot := 9, constantValue := 0 }, { name := "SUCCESS_1", type := (.object "com/example/classement/classement/evaluation/Measure"), accessFlags := 16409, slot := 10, constantValue := 0 }, { name := "SUCCESS_5", type := (.object "com/example/classement/classement/evaluation/Measure"), accessFlags := 16409, slot := 11, constantValue := 0 }, { name := "SUCCESS_10", type := (.object "com/example/classement/classement/evaluation/Measure"), accessFlags := 16409, slot := 12, constantValue := 0 }, { name := "LN_2", type := .double, accessFlags := 26, slot := 13, constantValue := 0 }, { name := "id", type := (.object "java/lang/String"), accessFlags := 18, slot := 3, constantValue := 0 }, { name := "kind", type := (.object "com/example/classement/classement/evaluation/Measure$Kind"), accessFlags := 18, slot := 4, constantValue := 0 }, { name := "value", type := (.object "java/util/function/ToDoubleFunction"), accessFlags := 18, slot := 5, constantValue := 0 }, { name := "$VALUES", type := (.array (.object "com/example/classement/classement/evaluation/Measure")), accessFlags := 4122, slot := 14, constantValue := 0 }]
  methods := #[k6m0]
  instanceTypes := #[(.object "java/lang/String"), .int, .int, (.object "java/lang/String"), (.object "com/example/classement/classement/evaluation/Measure$Kind"), (.object "java/util/function/ToDoubleFunction")]
  staticTypes := #[(.object "com/example/classement/classement/evaluation/Measure"), (.object "com/example/classement/classement/evaluation/Measure"), (.object "com/example/classement/classement/evaluation/Measure"), (.object "com/example/classement/classement/evaluation/Measure"), (.object "com/example/classement/classement/evaluation/Measure"), (.object "com/example/classement/classement/evaluation/Measure"), (.object "com/example/classement/classement/evaluation/Measure"), (.object "com/example/classement/classement/evaluation/Measure"), (.object "com/example/classement/classement/evaluation/Measure"), (.object "com/example/classement/classement/evaluation/Measure"), (.object "com/example/classement/classement/evaluation/Measure"), (.object "com/example/classement/classement/evaluation/Measure"), (.object "com/example/classement/classement/evaluation/Measure"), .double, (.array (.object "com/example/classement/classement/evaluation/Measure"))]
  resolved := Array.replicate 325 none
  statics := some 0 }

def pool7 : Array CpInfo := pool [(1, .class_ 2), (0, u "com/example/classement/classement/evaluation/Measure$Kind"), (2, u "TOPICS"), (0, u "Lcom/example/classement/classement/evaluation/Measure$Kind;"), (2, u "COUNT"), (2, u "MEAN"), (2, u "$VALUES"), (0, u "[Lcom/example/classement/classement/evaluation/Measure$Kind;"), (6, .class_ 25), (1, u "java/lang/Enum"), (26, .class_ 53), (0, u "com/example/classement/classement/evaluation/Measure")] 2

/-- com/example/classement/classement/evaluation/Measure$Kind -/
def k7 : Class := { plain "com/example/classement/classement/evaluation/Measure$Kind" (some 5) with
  accessFlags := 16432
  interfaces := #[]
  cf := some (fileOf pool7 1 #[.nestHost 52] #[] 16432 23 #[] #[{ accessFlags := 16409, nameIndex := 5, descriptorIndex := 6, attributes := #[] }, { accessFlags := 16409, nameIndex := 9, descriptorIndex := 6, attributes := #[] }, { accessFlags := 16409, nameIndex := 12, descriptorIndex := 6, attributes := #[] }, { accessFlags := 4122, nameIndex := 15, descriptorIndex := 16, attributes := #[] }])
  fields := #[{ name := "TOPICS", type := (.object "com/example/classement/classement/evaluation/Measure$Kind"), accessFlags := 16409, slot := 0, constantValue := 0 }, { name := "COUNT", type := (.object "com/example/classement/classement/evaluation/Measure$Kind"), accessFlags := 16409, slot := 1, constantValue := 0 }, { name := "MEAN", type := (.object "com/example/classement/classement/evaluation/Measure$Kind"), accessFlags := 16409, slot := 2, constantValue := 0 }, { name := "$VALUES", type := (.array (.object "com/example/classement/classement/evaluation/Measure$Kind")), accessFlags := 4122, slot := 3, constantValue := 0 }]
  methods := #[]
  instanceTypes := #[(.object "java/lang/String"), .int, .int]
  staticTypes := #[(.object "com/example/classement/classement/evaluation/Measure$Kind"), (.object "com/example/classement/classement/evaluation/Measure$Kind"), (.object "com/example/classement/classement/evaluation/Measure$Kind"), (.array (.object "com/example/classement/classement/evaluation/Measure$Kind"))]
  resolved := Array.replicate 56 none
  statics := some 1 }

def pool8 : Array CpInfo := pool [(1, u "java/lang/Cloneable"), (0, .class_ 1), (0, u "java/lang/Object"), (0, .class_ 3)] 3

/-- java/lang/Cloneable -/
def k8 : Class := { plain "java/lang/Cloneable" (some 0) with
  accessFlags := 1537
  interfaces := #[]
  cf := some (fileOf pool8 2 #[] #[] 1537 4 #[] #[])
  fields := #[]
  methods := #[]
  instanceTypes := #[]
  staticTypes := #[]
  resolved := Array.replicate 8 none
  statics := none }

/-- the primitive byte -/
def k9 : Class := { plain "byte" none with kind := .primitive 'B', accessFlags := 0x411 }
/-- [B -/
def k10 : Class := { plain "[B" (some 0) with kind := .array 9 .byte, interfaces := #[8, 4], accessFlags := 1041 }

/-- the primitive int -/
def k11 : Class := { plain "int" none with kind := .primitive 'I', accessFlags := 0x411 }
/-- [I -/
def k12 : Class := { plain "[I" (some 0) with kind := .array 11 .int, interfaces := #[8, 4], accessFlags := 1041 }

def heap : Heap := #[{ cls := 6, slots := #[.ref 5, .ref 6, .ref 7, .ref 8, .ref 9, .ref 10, .ref 11, .ref 12, .ref 13, .ref 14, .ref 15, .ref 16, .ref 17, .double 0, .null], vm := .statics 6 },
  { cls := 7, slots := #[.ref 2, .ref 3, .ref 4, .null], vm := .statics 7 },
  { cls := 7, slots := #[.null, .int 0, .int 0], vm := .none },
  { cls := 7, slots := #[.null, .int 1, .int 0], vm := .none },
  { cls := 7, slots := #[.null, .int 2, .int 0], vm := .none },
  { cls := 6, slots := #[.null, .int 0, .int 0, .null, .ref 2, .null], vm := .none },
  { cls := 6, slots := #[.null, .int 1, .int 0, .null, .ref 3, .null], vm := .none },
  { cls := 6, slots := #[.null, .int 2, .int 0, .null, .ref 3, .null], vm := .none },
  { cls := 6, slots := #[.null, .int 3, .int 0, .null, .ref 3, .null], vm := .none },
  { cls := 6, slots := #[.null, .int 4, .int 0, .null, .ref 4, .null], vm := .none },
  { cls := 6, slots := #[.null, .int 5, .int 0, .null, .ref 4, .null], vm := .none },
  { cls := 6, slots := #[.null, .int 6, .int 0, .null, .ref 4, .null], vm := .none },
  { cls := 6, slots := #[.null, .int 7, .int 0, .null, .ref 4, .null], vm := .none },
  { cls := 6, slots := #[.null, .int 8, .int 0, .null, .ref 4, .null], vm := .none },
  { cls := 6, slots := #[.null, .int 9, .int 0, .null, .ref 4, .null], vm := .none },
  { cls := 6, slots := #[.null, .int 10, .int 0, .null, .ref 4, .null], vm := .none },
  { cls := 6, slots := #[.null, .int 11, .int 0, .null, .ref 4, .null], vm := .none },
  { cls := 6, slots := #[.null, .int 12, .int 0, .null, .ref 4, .null], vm := .none }]
def classes : Array Class := #[k0, k1, k2, k3, k4, k5, k6, k7, k8, k9, k10, k11, k12]
def interned : List (Array UInt16 × Addr) := []
def slotsUsed : Nat := 106
def theMethod : MethodId := ⟨1, 1⟩
def args0 : Array Value := #[.int 5]
def aboutOver (below : List Frame) : State where
  vm := { classes := classes, interned := interned.toArray }
  heap := heap
  slotsUsed := slotsUsed
  threads := #[{ frames := .invoking theMethod args0 :: below }]
def below0 : List Frame := [.native { method := ⟨0, 0⟩, args := #[] }]
def about1 : State := aboutOver below0
def p0 : Program := .bare "" "" ""
def e0 : Env := launch0.env 0 0 0
theorem w_frames : about1.frames = Frame.invoking theMethod args0 :: below0 := rfl
set_option maxRecDepth 65536 in
theorem w_args : argsFit about1.vm theMethod args0 = true := by decide +kernel
set_option maxRecDepth 65536 in
theorem w_heap : heapFits about1 = true := by decide +kernel
set_option maxRecDepth 65536 in
theorem w_runnable : about1.curStatus? = some .runnable := by decide +kernel
set_option maxRecDepth 65536 in
theorem w_alone : about1.alone = true := by decide +kernel
set_option maxRecDepth 65536 in
theorem w_named : about1.methodNamed? x = some theMethod := by decide +kernel
set_option maxRecDepth 65536 in
theorem w_hears : about1.hears theMethod below0 = true := by decide +kernel
set_option maxRecDepth 65536 in
theorem w_ripe : about1.ripe theMethod args0 below0 = true := by decide +kernel
theorem w_running : about1.status = .running := rfl
set_option maxRecDepth 65536 in
theorem w_room : about1.hasRoom e0.platform room_1 = true :=
  launch0.hasRoom_least _ room_1 (by decide +kernel) (by decide +kernel) (by decide +kernel) (by decide +kernel) (by decide +kernel) (by decide +kernel)
theorem allAtoms_all (ts : List Jvm.Cond) (a : Array Jvm.Value) (st : Jvm.State) : (allAtoms ts).before a st = ts.all (fun c => c.before a st) := by
  induction ts with
  | nil => rfl
  | cons c t ih =>
    show (Jvm.Cond.and c (allAtoms t)).before a st = _
    rw [Jvm.Cond.before_and, ih, List.all_cons]
def words1 : List Jvm.Cond := Jvm.Cond.code x code maxLocals ret :: tables_1
/-- a 'code' word, met by the world's own term for the bytes: nothing is compared byte by byte -/
theorem code_word {y : MethodName} {bytes : ByteArray} {mx : Nat} {rt : Option FieldType} {a : Array Value} {s : State} {m : MethodId} {meth : Method} {c : Code} (h1 : s.methodNamed? y = some m) (h2 : s.vm.method? m = some meth) (h3 : meth.code = some c) (h4 : c.code = bytes)
    (h5 : (c.maxLocals == mx && c.exceptionTable.isEmpty && decide (c.maxStack ≤ mostOperands) && decide (meth.sig.returnType = rt) && !meth.locks && decide (parseMethodDescriptor y.desc = some meth.sig)) = true) : (Jvm.Cond.code y bytes mx rt).before a s = true := by
  simp only [Bool.and_eq_true, beq_iff_eq, Bool.not_eq_true', decide_eq_true_eq] at h5
  obtain ⟨⟨⟨⟨⟨g1, g2⟩, g3⟩, g4⟩, g5⟩, g6⟩ := h5
  simp [Cond.before, Cond.holds, Cond.value, h1, h2, h3, h4, g1, g2, g3, g4, g5, g6]
def isCode : Jvm.Cond → Bool
  | .code _ _ _ _ => true
  | _ => false
theorem all_split {L : List Jvm.Cond} {P : Jvm.Cond → Bool} (h1 : L.all (fun c => isCode c || P c) = true) (h2 : ∀ c ∈ L.filter isCode, P c = true) : L.all P = true := by
  refine List.all_eq_true.mpr fun c hc => ?_
  have h := List.all_eq_true.mp h1 c hc
  rcases Bool.eq_false_or_eq_true (isCode c) with hi | hi
  · exact h2 c (List.mem_filter.mpr ⟨hc, hi⟩)
  · simpa [hi] using h
set_option maxRecDepth 65536 in
theorem w_c0 : (Jvm.Cond.code x code maxLocals ret).before args0 about1 = true := code_word (m := ⟨1, 1⟩) (meth := k1m1) (c := k1c1) (by decide +kernel) rfl rfl rfl (by decide +kernel)
set_option maxRecDepth 65536 in
theorem w_c1 : (Jvm.Cond.code ({ cls := "com/example/classement/classement/evaluation/MeasureIsCountPinLaw", name := "measure", desc := "(I)Lcom/example/classement/classement/evaluation/Measure;" } : Jvm.MethodName) method_3_code (1 : Nat) (Option.some (Jvm.ClassFile.FieldType.object "com/example/classement/classement/evaluation/Measure"))).before args0 about1 = true := code_word (m := ⟨1, 2⟩) (meth := k1m2) (c := k1c2) (by decide +kernel) rfl rfl rfl (by decide +kernel)
set_option maxRecDepth 65536 in
theorem w_c2 : (Jvm.Cond.code ({ cls := "com/example/classement/classement/evaluation/Measure", name := "isCount", desc := "()Z" } : Jvm.MethodName) prog_19_method_6_code (1 : Nat) (Option.some Jvm.ClassFile.FieldType.boolean)).before args0 about1 = true := code_word (m := ⟨6, 0⟩) (meth := k6m0) (c := k6c0) (by decide +kernel) rfl rfl rfl (by decide +kernel)
def codes1 : List Jvm.Cond := [Jvm.Cond.code x code maxLocals ret, Jvm.Cond.code ({ cls := "com/example/classement/classement/evaluation/MeasureIsCountPinLaw", name := "measure", desc := "(I)Lcom/example/classement/classement/evaluation/Measure;" } : Jvm.MethodName) method_3_code (1 : Nat) (Option.some (Jvm.ClassFile.FieldType.object "com/example/classement/classement/evaluation/Measure")), Jvm.Cond.code ({ cls := "com/example/classement/classement/evaluation/Measure", name := "isCount", desc := "()Z" } : Jvm.MethodName) prog_19_method_6_code (1 : Nat) (Option.some Jvm.ClassFile.FieldType.boolean)]
set_option maxRecDepth 65536 in
theorem codes_eq : words1.filter isCode = codes1 := rfl
theorem w_codes : ∀ c ∈ words1.filter isCode, c.before args0 about1 = true := by
  rw [codes_eq]
  intro c hc
  simp only [codes1, List.mem_cons, List.not_mem_nil, or_false] at hc
  rcases hc with rfl | rfl | rfl
  · exact w_c0
  · exact w_c1
  · exact w_c2
set_option maxRecDepth 65536 in
theorem w_t1 : (words1.take 24).all (fun c => isCode c || c.before args0 about1) = true := by decide +kernel
set_option maxRecDepth 65536 in
theorem w_t2 : (words1.drop 24).all (fun c => isCode c || c.before args0 about1) = true := by decide +kernel
theorem w_tables : (allAtoms (Jvm.Cond.code x code maxLocals ret :: tables_1)).before args0 about1 = true := by
  rw [allAtoms_all]
  show words1.all (fun c => c.before args0 about1) = true
  refine all_split ?_ w_codes
  rw [← List.take_append_drop 24 words1, List.all_append, w_t1, w_t2]
  rfl
set_option maxRecDepth 65536 in
theorem w_case : (Jvm.Cond.and given_1 narrow_1).before args0 about1 = true := by decide +kernel
theorem w_applies : (headSpec (Jvm.Cond.code x code maxLocals ret :: tables_1) room_1).applies x e0.platform about1 = true :=
  (Spec.applies_iff w_frames).mpr ⟨w_running, w_runnable, w_alone, w_named, w_hears, w_ripe, w_room, w_tables⟩
theorem atStart : AtStart classFile x code maxLocals ret World_1 tables_1 room_1 Calls_1 rest_1 Pre_1 launch0 p0 e0 about1 theMethod args0 below0 :=
  ⟨lists_1, trivial, launch0.admits_env _ _ _, launch0.least_env, fairChoices_fair.cas, fairChoices_fair.clock, w_frames, w_args, w_heap, w_applies, trivial, trivial, w_case⟩
end start1
theorem witness_1 : WitnessClaimed_1 := ⟨start1.p0, start1.e0, start1.about1, start1.theMethod, start1.args0, start1.below0, start1.atStart⟩
end Jvm.Pilot.@@N@@
