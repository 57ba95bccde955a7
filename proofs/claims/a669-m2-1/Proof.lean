import JvmDerived
import JvmDerived.Pilot.@@N@@Statement
import JvmDerived.Pilot.@@N@@Code
set_option linter.unusedVariables false
set_option linter.unusedSimpArgs false
namespace Jvm.Pilot.@@N@@
open Jvm Jvm.ClassFile Sem Op Lib Jvm.Free Jvm.Stand Jvm.LawKit Jvm.RoadKit Bundle Jvm.Pilot.@@N@@.Jvm.D
theorem oW {a0 : Array Value} {Z : State} (hw : ∀ d ∈ tables_1, d.before a0 Z = true) {d : Jvm.Cond} (i : Nat) (h : tables_1[i]? = some d) : d.before a0 Z = true := hw _ (List.mem_of_getElem? h)
abbrev uu : Slot := .unset
abbrev ss : Slot := .second
/-- the run from T with g on top comes to a state of which P holds -/
def oWk (tb : Tables) (e : Env) (below : List Frame) (P : State → Prop) (T : State) (g : JFrame) : Prop := ∃ t, Steps tb e below (T.setTop g) t ∧ P t
section OwnA
variable {tb : Tables} {e : Env} {below : List Frame} {P : State → Prop} {T T' : State} {g g' : JFrame}
theorem oWk.st (f : ∀ t, Steps tb e below (T'.setTop g') t → Steps tb e below (T.setTop g) t) (k : oWk tb e below P T' g') : oWk tb e below P T g := k.elim fun t q => ⟨t, f t q.1, q.2⟩
theorem oWk.tr (f : Steps tb e below (T.setTop g) (T'.setTop g')) (k : oWk tb e below P T' g') : oWk tb e below P T g := k.elim fun t q => ⟨t, f.trans q.1, q.2⟩
theorem oWk.cast (q : g = g') (k : oWk tb e below P T g') : oWk tb e below P T g := q ▸ k
end OwnA
/-- the invocation has ended: a value, the heap, the places written -/
def oDn (s : State) (below : List Frame) (Q : Option Value → Heap → List Loc → Prop) (k n : Nat) (t : State) : Prop := t.status = .running ∧ ∃ v L, Ended t below (.returned v) ∧ Q v t.heap L ∧ FrameEnd s (.returned v) t L k n
/-- a contract: called with these arguments on this heap the body returns and Q holds -/
abbrev oCon (l : Launch) (Z : State) (y : MethodName) (bytes : ByteArray) (maxL : Nat) (ret : Option FieldType) (ws : List Jvm.Cond) (rm : Room) (as' : Array Value) (h0 : Heap) (Q : Option Value → Heap → List Loc → Prop) : Prop :=
  MetFree l y (head1 (Jvm.Cond.code y bytes maxL ret :: ws) rm) (fun a U => a = as' ∧ Z.Warmed39 U.vm ∧ U.heap = h0) (fun _ _ _ _ _ => True) (fun _ U o U' => ∃ v L, o = .returned v ∧ Q v U'.heap L ∧ FrameEnd U o U' L rm.cells rm.slots)
theorem oCon.of {l : Launch} {Z : State} {y : MethodName} {bytes : ByteArray} {maxL : Nat} {ret : Option FieldType} {ws : List Jvm.Cond} {rm : Room} {as' : Array Value} {h0 : Heap} {Q : Option Value → Heap → List Loc → Prop} (hp : plainFor y = true)
    (body : ∀ (p : Program) (e : Env) (s : State) (m : MethodId) (below : List Frame) (meth : Method) (c : Code) (T : State), Stand p l e rm s m as' below meth c T [] 0 0 → p.tables.exec = Jvm.exec → c.code = bytes → c.maxLocals = maxL → s.vm.findClass y.cls = some m.cls → meth.name = y.name → meth.sig.returnType = ret → meth.locks = false → Z.Warmed39 s.vm → T.heap = h0 → oWk p.tables e below (oDn s below Q rm.cells rm.slots) T (entryFrame m as' maxL)) :
    oCon l Z y bytes maxL ret ws rm as' h0 Q := by
  refine MetFree.of_bodySF hp hisR ?_
  intro p e s m args below meth c s₁ Bd hml0 hP hK
  obtain ⟨rfl, hZ, hh⟩ := hP
  have e0 : s₁.heap = h0 := by rw [← hh, Bd.state]; rfl
  obtain ⟨t, h1, h2, v, L, h3, h4, h5⟩ := body p e s m below meth c s₁ (Stand.of_body Bd) Bd.exec Bd.bytes hml0 (findClass_of_methodNamed Bd.named) (name_of_methodNamed Bd.named Bd.method).1 Bd.returns Bd.notSynchronized hZ e0
  exact ⟨t, _, h1, h2, h3, v, L, rfl, h4, h5⟩
section OwnB
variable {p : Program} {l : Launch} {e : Env} {R : Room} {s : State} {m : MethodId} {args : Array Value} {below : List Frame} {meth : Method} {c : Code} {T : State} {locs : List Loc} {cells slots : Nat} {Q : Option Value → Heap → List Loc → Prop} {k n pc : Nat} {Ls : Array Slot}
theorem oRet (X : Stand p l e R s m args below meth c T locs cells slots) (hx : p.tables.exec = Jvm.exec) (hlk : meth.locks = false) {w : Value} {t : FieldType} {i : Instr} {rest : List Value} (hret : meth.sig.returnType = some t) (hn : narrow t w = w)
    (hi : (i = .ireturn ∧ (t = .int ∨ t = .boolean ∨ t = .byte ∨ t = .char ∨ t = .short) ∧ ∃ z, w = .int z) ∨ (i = .lreturn ∧ t = .long ∧ ∃ z, w = .long z) ∨ (i = .dreturn ∧ t = .double ∧ ∃ z, w = .double z) ∨ (i = .freturn ∧ t = .float ∧ ∃ z, w = .float z) ∨ (i = .areturn ∧ t.isReference = true ∧ w.isRef = true))
    (hd : decode c.code pc = .ok (i, 1)) (hQ : Q (some w) T.heap locs) (hk : cells ≤ k) (hs : slots ≤ n) : oWk p.tables e below (oDn s below Q k n) T (mkF m pc Ls (w :: rest)) := by
  obtain ⟨fs, hr, hrun, hended, hW, hsame⟩ := X.leave (v := some w) (fun h => by rw [hret] at h; cases h) hlk
  exact ⟨_, retOut X hx hret hn hi hd hr, hrun, _, _, hended, hQ, ⟨_, rfl⟩, hW, hsame.mono hk hs⟩
theorem oRetI (X : Stand p l e R s m args below meth c T locs cells slots) (hx : p.tables.exec = Jvm.exec) (hlk : meth.locks = false) {z : Int32} {rest : List Value} (hret : meth.sig.returnType = some .int) (hd : decode c.code pc = .ok (.ireturn, 1)) (hQ : Q (some (.int z)) T.heap locs) (hk : cells ≤ k) (hs : slots ≤ n) :
    oWk p.tables e below (oDn s below Q k n) T (mkF m pc Ls (.int z :: rest)) := oRet X hx hlk hret rfl (Or.inl ⟨rfl, Or.inl rfl, _, rfl⟩) hd hQ hk hs
theorem oRetZ (X : Stand p l e R s m args below meth c T locs cells slots) (hx : p.tables.exec = Jvm.exec) (hlk : meth.locks = false) {z : Int32} {rest : List Value} (hret : meth.sig.returnType = some .boolean) (hd : decode c.code pc = .ok (.ireturn, 1)) (hz : z = 0 ∨ z = 1) (hQ : Q (some (.int z)) T.heap locs) (hk : cells ≤ k) (hs : slots ≤ n) :
    oWk p.tables e below (oDn s below Q k n) T (mkF m pc Ls (.int z :: rest)) := oRet X hx hlk hret (by rcases hz with rfl | rfl <;> rfl) (Or.inl ⟨rfl, Or.inr (Or.inl rfl), _, rfl⟩) hd hQ hk hs
theorem oRetN (X : Stand p l e R s m args below meth c T locs cells slots) (hx : p.tables.exec = Jvm.exec) (hlk : meth.locks = false) {z : Int32} {t : FieldType} {rest : List Value} (hret : meth.sig.returnType = some t) (ht : t = .byte ∨ t = .char ∨ t = .short) (hn : narrow t (.int z) = .int z) (hd : decode c.code pc = .ok (.ireturn, 1)) (hQ : Q (some (.int z)) T.heap locs) (hk : cells ≤ k) (hs : slots ≤ n) :
    oWk p.tables e below (oDn s below Q k n) T (mkF m pc Ls (.int z :: rest)) := oRet X hx hlk hret hn (Or.inl ⟨rfl, Or.inr (Or.inr ht), _, rfl⟩) hd hQ hk hs
theorem oRetD (X : Stand p l e R s m args below meth c T locs cells slots) (hx : p.tables.exec = Jvm.exec) (hlk : meth.locks = false) {z : UInt64} {rest : List Value} (hret : meth.sig.returnType = some .double) (hd : decode c.code pc = .ok (.dreturn, 1)) (hQ : Q (some (.double z)) T.heap locs) (hk : cells ≤ k) (hs : slots ≤ n) :
    oWk p.tables e below (oDn s below Q k n) T (mkF m pc Ls (.double z :: rest)) := oRet X hx hlk hret rfl (Or.inr (Or.inr (Or.inl ⟨rfl, rfl, _, rfl⟩))) hd hQ hk hs
theorem oNarR {t : FieldType} {w : Value} (ht : t.isReference = true) (hw : w.isRef = true) : narrow t w = w := by cases t <;> cases w <;> simp_all [narrow, FieldType.isReference, Value.isRef]
theorem oRetA (X : Stand p l e R s m args below meth c T locs cells slots) (hx : p.tables.exec = Jvm.exec) (hlk : meth.locks = false) {w : Value} {t : FieldType} {rest : List Value} (hret : meth.sig.returnType = some t) (ht : t.isReference = true) (hw : w.isRef = true) (hd : decode c.code pc = .ok (.areturn, 1)) (hQ : Q (some w) T.heap locs) (hk : cells ≤ k) (hs : slots ≤ n) :
    oWk p.tables e below (oDn s below Q k n) T (mkF m pc Ls (w :: rest)) := oRet X hx hlk hret (oNarR ht hw) (Or.inr (Or.inr (Or.inr (Or.inr ⟨rfl, ht, hw⟩)))) hd hQ hk hs
theorem oRetV (X : Stand p l e R s m args below meth c T locs cells slots) (hx : p.tables.exec = Jvm.exec) (hlk : meth.locks = false) (hret : meth.sig.returnType = none) (hd : decode c.code pc = .ok (.return_, 1)) (hQ : Q none T.heap locs) (hk : cells ≤ k) (hs : slots ≤ n) :
    oWk p.tables e below (oDn s below Q k n) T (mkF m pc Ls []) := by
  obtain ⟨fs, hr, hrun, hended, hW, hsame⟩ := X.leave (v := none) (fun _ => rfl) hlk
  exact ⟨_, X.returnOut hx hret hd hr, hrun, _, _, hended, hQ, ⟨_, rfl⟩, hW, hsame.mono hk hs⟩
end OwnB
/-- the heap is kept but for ws and new cells; the places written lie there -/
def oKp (h0 h : Heap) (ws : List Addr) (L : List Loc) : Prop := Keep h0 h ws ∧ ∀ y ∈ L, y.base ∈ ws ∨ h0.size ≤ y.base
section OwnC
variable {Z : State} {h0 h h' : Heap} {ws ws' : List Addr} {L L' : List Loc} {a : Addr} {sl : Nat} {v : Value}
theorem oKp.nil (h : Heap) (ws : List Addr) : oKp h h ws [] := ⟨Keep.refl _ _, fun _ q => nomatch q⟩
theorem oKp.ext (K : oKp h0 h ws L) (E : Ext h h') : oKp h0 h' ws L := ⟨K.1.ext E, K.2⟩
theorem oKp.wr (K : oKp h0 h ws L) (W : Wr h h' a sl v) (q : a ∈ ws ∨ h0.size ≤ a) : oKp h0 h' ws (L ++ [⟨a, sl⟩]) := ⟨K.1.wr W q, fun y hy => (List.mem_append.mp hy).elim (K.2 y) fun hy => by cases List.mem_singleton.mp hy; exact q⟩
theorem oKp.call (K : oKp h0 h ws L) (K' : oKp h h' ws' L') (q : ∀ x ∈ ws', x ∈ ws ∨ h0.size ≤ x) : oKp h0 h' ws (L ++ L') := ⟨K.1.trans K'.1 q, fun y hy => (List.mem_append.mp hy).elim (K.2 y) fun hy => (K'.2 y hy).elim (q _) fun z => Or.inr (Nat.le_trans K.1.1 z)⟩
theorem oKp.le (K : oKp h0 h ws L) : h0.size ≤ h.size := K.1.1
theorem oKp.old (K : oKp h0 h ws L) (O : Ext Z.heap h0) (q : ∀ x ∈ ws, Z.heap.size ≤ x) : Ext Z.heap h := ⟨Nat.le_trans O.1 K.1.1, fun x c hc => K.1.2.1 x c (O.2 x c hc) fun hx => absurd (Array.getElem?_eq_some_iff.mp hc).1 (Nat.not_lt.mpr (q x hx))⟩
theorem oKp.fr (K : oKp h0 h [] L) : Fr h0.size L := fun y hy => (K.2 y hy).elim (fun q => nomatch q) id
theorem oExtRefl (h : Heap) : Ext h h := ⟨Nat.le_refl _, fun _ _ q => q⟩
theorem Ext.keep0 (E : Ext h h') : Keep h h' [] := ⟨E.1, fun x c q _ => E.2 x c q, fun x c q => ⟨c, E.2 x c q, rfl, rfl, rfl⟩⟩
end OwnC
/-- a truth as an int -/
def oBi (P : Prop) [Decidable P] : Int32 := if P then 1 else 0
theorem oBi_t {P : Prop} [Decidable P] (h : P) : oBi P = 1 := if_pos h
theorem oBi_f {P : Prop} [Decidable P] (h : ¬ P) : oBi P = 0 := if_neg h
theorem oBi_ne {P : Prop} [Decidable P] (h : P) : ¬ oBi P = 0 := by rw [oBi_t h]; decide
theorem oBi_01 (P : Prop) [Decidable P] : oBi P = 0 ∨ oBi P = 1 := by by_cases h : P; exact Or.inr (if_pos h); exact Or.inl (if_neg h)
theorem oBi_0 {P : Prop} [Decidable P] (h : oBi P = 0) : ¬ P := fun q => oBi_ne q h
theorem oBi_1 {P : Prop} [Decidable P] (h : ¬ oBi P = 0) : P := Decidable.byContradiction fun q => h (oBi_f q)
section OwnD
variable {args : Array Value} {Z : State} {t u : Term} {C n d K : String} {a b : Addr} {k : Int32}
theorem oFldR (ht : t.eval args Z none [] Z = some (.ref a)) (hu : u.eval args Z none [] Z = some (.ref b)) (h : (Jvm.Cond.eq (.field t C n d) u).value args Z none Z [] = some true) : Fld Z Z.heap a C n d (.ref b) := by
  obtain ⟨x, y, e1, e2, k1, k2⟩ := cmp_v (Or.inl h)
  cases hu.symm.trans e2
  have hx : x.isRef = true := k2.2
  have q := gotT (eq_R e1 e2 hx rfl) h
  subst q
  exact Fld.start ((fld_at ht).symm.trans e1)
theorem oFldI (ht : t.eval args Z none [] Z = some (.ref a)) (h : (Jvm.Cond.eq (.field t C n d) (.int k)).value args Z none Z [] = some true) : Fld Z Z.heap a C n d (.int k) := by
  obtain ⟨x, y, e1, e2, k1, k2⟩ := cmp_v (Or.inl h)
  cases (Option.some.inj e2 : Value.int k = y)
  obtain ⟨z, rfl⟩ := (k2 : ∃ z, x = .int z)
  have q : z = k := by
    have h' := h
    simp only [Cond.value, e1, e2] at h'
    simpa using h'
  subst q
  exact Fld.start ((fld_at ht).symm.trans e1)
theorem oFldX (ht : t.eval args Z none [] Z = some (.ref a)) (h : (Jvm.Cond.exactly (.field t C n d) K).value args Z none Z [] = some true) : ∃ b, (Term.field t C n d).eval args Z none [] Z = some (.ref b) ∧ Fld Z Z.heap a C n d (.ref b) ∧ Exa Z Z.heap b K := by
  obtain ⟨b, e1⟩ := exa_v h
  exact ⟨b, e1, Fld.start ((fld_at ht).symm.trans e1), Exa.start e1 h⟩
theorem oNe32 {x y : Int32} (h : ¬ x = y) : x.toInt ≠ y.toInt := fun q => h (Int32.toInt_inj.mp q)
end OwnD
section OwnE
variable {Z : State} {a0 : Array Value} {C O K : String} {n : Nat} {h h' : Heap} {a : Addr} {ws : List Addr}
theorem oNSroot (wo : (Jvm.Cond.noSuperclass O).before a0 Z = true) (wk : (Jvm.Cond.instantiable K n).before a0 Z = true) (h2 : O ≠ K) : NS Z O K := by
  obtain ⟨t, kt, g1, -⟩ := Cond.instantiable_spec wk
  obtain ⟨c, k, a1, a2, a3, -, -⟩ := Cond.noSuperclass_spec wo
  have ne := ids_ne a1 g1 h2
  refine ⟨c, t, a1, g1, fun fuel => ?_⟩
  cases fuel with
  | zero => rfl
  | succ f => simp [Vm.isSubclassAux, ne, a2, a3]
theorem oNSno (w : (Jvm.Cond.superclass C O).before a0 Z = true) (wk : (Jvm.Cond.instantiable K n).before a0 Z = true) (N : NS Z C K) (h1 : C ≠ K) : ∃ c t, Z.vm.findClass C = some c ∧ Z.vm.findClass K = some t ∧ Z.vm.assignable c t = false := by
  obtain ⟨t, kt, g1, g2, g3, g4, -⟩ := Cond.instantiable_spec wk
  obtain ⟨c, t', b0, b1, b2⟩ := N
  cases g1.symm.trans b1
  obtain ⟨p, k, kp, e1, e2, e3, e4, e5, -, e7⟩ := Cond.superclass_spec b0 w
  have ne := ids_ne b0 g1 h1
  have gi : kt.isInterface = false := by simp only [Bool.or_eq_false_iff] at g4; exact g4.1
  refine ⟨c, t, b0, g1, ?_⟩
  show Z.vm.assignableAux (255 + 1) c t = false
  simp [Vm.assignableAux, ne, e2, g2, e5, g3, gi, Vm.isSubclass, b2]
theorem oNotInst (w : (Jvm.Cond.superclass C O).before a0 Z = true) (wo : (Jvm.Cond.noSuperclass O).before a0 Z = true) (wk : (Jvm.Cond.instantiable K n).before a0 Z = true) (h1 : C ≠ K) (h2 : O ≠ K) : ∃ c t, Z.vm.findClass C = some c ∧ Z.vm.findClass K = some t ∧ Z.vm.assignable c t = false :=
  oNSno w wk (NS.step w (oNSroot wo wk h2) h1) h1
theorem oInsKeep {b : Bool} (F : Ins Z h a K b) (H : Keep h h' ws) : Ins Z h' a K b := by
  obtain ⟨cell, cT, h1, h2, h3⟩ := F
  obtain ⟨c', e1, e2, e3, -⟩ := H.2.2 _ _ h1
  exact ⟨c', cT, e1, h2, by rw [e2, e3]; exact h3⟩
end OwnE
theorem oNot0 {args : Array Value} {Z : State} {t : Term} {x : Int32} (h : t.eval args Z none [] Z = some (.int x)) (hn : (Jvm.Cond.not (.eq t (.int 0))).value args Z none Z [] = some true) : ¬ x = (0 : Int32) := fun q => by
  subst q
  have e : (Jvm.Cond.eq t (.int 0)).value args Z none Z [] = some true := eq_i h (Term.int_eval 0) rfl
  simp [Cond.value] at hn e
  rw [e] at hn
  simp at hn
theorem oFldD {args : Array Value} {Z : State} {t : Term} {C n d : String} {a : Addr} {k : Int64} (ht : t.eval args Z none [] Z = some (.ref a)) (h : (Jvm.Cond.eq (.field t C n d) (.op1 .bitsD (.long k))).value args Z none Z [] = some true) : Fld Z Z.heap a C n d (.double k.toUInt64) := by
  obtain ⟨x, y, e1, e2, k1, k2⟩ := cmp_v (Or.inl h)
  have e3 : (Term.op1 .bitsD (.long k)).eval args Z none [] Z = some (.double k.toUInt64) := rfl
  cases e3.symm.trans e2
  obtain ⟨z, rfl⟩ := (k2 : ∃ z, x = .double z)
  have q : z = k.toUInt64 := by
    have h' := h
    simp only [Cond.value, e1, e2] at h'
    simpa using h'
  subst q
  exact Fld.start ((fld_at ht).symm.trans e1)
section OwnF
variable {p : Program} {l : Launch} {e : Env} {R : Room} {s : State} {m : MethodId} {args : Array Value} {below : List Frame} {meth : Method} {c : Code} {T : State} {locs : List Loc} {cells slots : Nat} {Z : State} {a0 : Array Value} {h : Heap} {own C : String} {index : Nat} {a mr : Addr}
/-- the Class object of C has been made: mr -/
def oMir (Z : State) (C : String) (mr : Addr) : Prop := ∃ (c : ClassId) (k : Class), Z.vm.findClass C = some c ∧ Z.vm.classes[c]? = some k ∧ k.mirror = some mr
abbrev oGc : MethodName := ⟨"java/lang/Object", "getClass", "()Ljava/lang/Class;"⟩
theorem oGcls (X : Stand p l e R s m args below meth c T locs cells slots) (hx : p.tables.exec = Jvm.exec) (hZ : Z.Warmed39 s.vm) (hown : s.vm.findClass own = some m.cls) (w1 : (Jvm.Cond.methodLink own index oGc).before a0 Z = true) (w2 : (Jvm.Cond.declares oGc).before a0 Z = true) (w4 : (Jvm.Cond.selects C oGc oGc).before a0 Z = true) (w5 : (Jvm.Cond.instanceMethod oGc).before a0 Z = true) (w6 : (Jvm.Cond.native oGc).before a0 Z = true) (eT : T.heap = h) (E : Exa Z h a C) (M : oMir Z C mr)
    {g : JFrame} (hg : g.method = m) (hsize : g.locals.size = c.maxLocals) {rest : List Value} (hs : g.stack = .ref a :: rest) (hd : decode c.code g.pc = .ok (.invokevirtual index, 3)) (hf : 1 ≤ R.frames) {W : Nat} (hW : 2 * g.monitorRoom + (rest.map fun v => v.category).sum ≤ W) (hl : W + (nativeFrameWords "java/lang/Object" "getClass" 1 + 11) ≤ R.locals) :
    ∃ T', Stand p l e R s m args below meth c T' locs cells slots ∧ T'.heap = h ∧ ∀ target, Steps p.tables e below (T'.setTop { g with pc := g.pc + 3, stack := .ref mr :: rest }) target → Steps p.tables e below (T.setTop g) target := by
  obtain ⟨cB, kB, i1, i2, i3⟩ := isOf hZ eT E
  obtain ⟨cc, kc, m1, m2, m3⟩ := M
  have i0 := i1
  rw [hZ.alike.findClass] at i1
  cases i1.symm.trans m1
  obtain ⟨k', q, ek⟩ := hZ.alike.2.2 _ _ m2
  obtain ⟨vm', X', st⟩ := X.getClassOf hx hown (mvT hZ w1) (mvT hZ w2) (notFace_of_selects (args := #[]) (mvT hZ w4)) (mvT hZ w4) (mvT hZ w5) (mvT hZ w6) i0 i3 q (by rw [ek]; exact m3) hg hsize hs hd hf (by omega)
  exact ⟨_, X', eT, st⟩
theorem oLdcM (X : Stand p l e R s m args below meth c T locs cells slots) (hx : p.tables.exec = Jvm.exec) (hZ : Z.Warmed39 s.vm) (hown : s.vm.findClass own = some m.cls) (w : (Jvm.Cond.classLink own index C).before a0 Z = true) (eT : T.heap = h) (M : oMir Z C mr)
    {g : JFrame} (hg : g.method = m) (hd : decode c.code g.pc = .ok (.ldc index, 2)) : ∃ T', Stand p l e R s m args below meth c T' locs cells slots ∧ T'.heap = h ∧ ∀ target, Steps p.tables e below (T'.setTop { g with pc := g.pc + 2, stack := .ref mr :: g.stack }) target → Steps p.tables e below (T.setTop g) target := by
  obtain ⟨cc, kc, m1, m2, m3⟩ := M
  obtain ⟨k', q, ek⟩ := hZ.alike.2.2 _ _ m2
  have f1 : s.vm.findClass C = some cc := by rw [hZ.alike.findClass]; exact m1
  have f2 : k'.mirror = some mr := by rw [ek]; exact m3
  obtain ⟨vm', X', st⟩ := X.ldcMirror hx hown (mvT hZ w) (a := mr) (by simp [Term.eval, f1, q, f2]) hg hd
  exact ⟨_, X', eT, st⟩
end OwnF
theorem oArr0 {args : Array Value} {Z : State} {t : Term} {a : Addr} {ty : FieldType} {dv : Value} (hf : Fit Z) (ev : t.eval args Z none [] Z = some (.ref a)) (h1 : (Jvm.Cond.arrayOf t ty).value args Z none Z [] = some true) (h2 : (Jvm.Cond.eq (.length t) (.int 0)).value args Z none Z [] = some true) : ∃ k, Arv Z Z.heap a k ty 0 [] dv := by
  obtain ⟨cl, A⟩ := Arr.start ev h1
  have ha : Z.arrayAt? a = some cl := Arr.fin (Vm.Alike.refl _) A
  have hlt : cl.slots.size < 2 ^ 31 := by
    apply Decidable.byContradiction
    intro q
    have e : (Term.length t).eval args Z none [] Z = none := by
      cases hv : (Term.length t).eval args Z none [] Z with
      | none => rfl
      | some y =>
        simp only [Term.eval, Option.bind_eq_bind] at hv
        rw [ev] at hv
        simp [ha, q] at hv
    simp [Cond.value, e] at h2
  have e : (Term.length t).eval args Z none [] Z = some (.int cl.slots.size.toInt32) := len_f ev ha hlt
  have z : cl.slots.size.toInt32 = 0 := by
    have h' := h2
    simp only [Cond.value, e, Term.int_eval] at h'
    simpa using h'
  have z' : cl.slots.size = 0 := by
    have := len_toInt hlt
    rw [z] at this
    have r : (0 : Int32).toInt = 0 := by decide
    omega
  exact ⟨_, Arv.start hf A hlt z (by decide) rfl trivial⟩
theorem oB8 (x : Int32) : x.toInt8.toInt32.toInt8.toInt32 = x.toInt8.toInt32 := by rw [Int8.toInt8_toInt32]
theorem oB8inj {x y : Int32} (hx : 0 ≤ x.toInt ∧ x.toInt < 256) (hy : 0 ≤ y.toInt ∧ y.toInt < 256) (h : x.toInt8.toInt32 = y.toInt8.toInt32) : x = y := by
  have a := c_i2b x
  have b := c_i2b y
  rw [h] at a
  apply Int32.toInt_inj.mp
  omega
theorem oCmp {P R : Prop} [Decidable P] [Decidable R] (h : P ↔ R) : oBi P = oBi R := by
  by_cases q : P
  · rw [oBi_t q, oBi_t (h.mp q)]
  · rw [oBi_f q, oBi_f (fun r => q (h.mpr r))]
theorem oM255 (x : Int32) : 0 ≤ (x &&& 255).toInt ∧ (x &&& 255).toInt < 256 := by
  have q := c_mask x 255 8 (by decide) (by decide)
  omega
theorem oChr {x : Int32} (h : 0 ≤ x.toInt ∧ x.toInt < 256) : x.toUInt32.toUInt16.toUInt32.toInt32 = x := by
  have a := c_i2c x
  apply Int32.toInt_inj.mp
  omega
theorem oLe255 {x : Int32} (h : 0 ≤ x.toInt ∧ x.toInt < 256) : ¬ (255 : Int32) < x := fun q => by
  have r : (255 : Int32).toInt < x.toInt := Int32.lt_iff_toInt_lt.mp q
  have s : (255 : Int32).toInt = 255 := by decide
  omega

def Q_rC5_2 (Z : State) (xa : Addr) (xd : Addr) (xk : ClassId) (xl : ClassId) (xc0 : Int32) (xc1 : Int32) (h0 : Heap) (v : Option Value) (h : Heap) (L : List Loc) : Prop := v = some (.int (2 : Int32)) ∧ oKp h0 h [xd] L ∧ (Arv Z h xd xl .byte (2 : Int32) [(.int (xc0.toInt8.toInt32)), (.int (xc1.toInt8.toInt32))] (.int (0 : Int32)))
theorem pn_0 : plainName "java/lang/StringUTF16" = true := by first | (simp [plainName, overriddenIn]; done) | decide +kernel
abbrev yy0 : MethodName := ⟨"java/lang/StringUTF16", "compress", "([CI[BII)I"⟩
theorem d5_0 : decode jdk_52_method_21_code 0 = .ok (.iconst 0, 1) := by decide +kernel
theorem d5_1 : decode jdk_52_method_21_code 1 = .ok (.istore 5, 2) := by decide +kernel
theorem d5_3 : decode jdk_52_method_21_code 3 = .ok (.iload 5, 2) := by decide +kernel
theorem d5_5 : decode jdk_52_method_21_code 5 = .ok (.iload 4, 2) := by decide +kernel
theorem d5_7 : decode jdk_52_method_21_code 7 = .ok (.if_icmp .ge 37, 3) := by decide +kernel
theorem d5_10 : decode jdk_52_method_21_code 10 = .ok (.aload_n 0, 1) := by decide +kernel
theorem d5_11 : decode jdk_52_method_21_code 11 = .ok (.iload_n 1, 1) := by decide +kernel
theorem d5_12 : decode jdk_52_method_21_code 12 = .ok (.caload, 1) := by decide +kernel
theorem d5_13 : decode jdk_52_method_21_code 13 = .ok (.istore 6, 2) := by decide +kernel
theorem d5_15 : decode jdk_52_method_21_code 15 = .ok (.iload 6, 2) := by decide +kernel
theorem d5_17 : decode jdk_52_method_21_code 17 = .ok (.sipush 255, 3) := by decide +kernel
theorem d5_20 : decode jdk_52_method_21_code 20 = .ok (.if_icmp .le 6, 3) := by decide +kernel
theorem d5_26 : decode jdk_52_method_21_code 26 = .ok (.aload_n 2, 1) := by decide +kernel
theorem d5_27 : decode jdk_52_method_21_code 27 = .ok (.iload_n 3, 1) := by decide +kernel
theorem d5_28 : decode jdk_52_method_21_code 28 = .ok (.iload 6, 2) := by decide +kernel
theorem d5_30 : decode jdk_52_method_21_code 30 = .ok (.i2b, 1) := by decide +kernel
theorem d5_31 : decode jdk_52_method_21_code 31 = .ok (.bastore, 1) := by decide +kernel
theorem d5_32 : decode jdk_52_method_21_code 32 = .ok (.iinc 1 1, 3) := by decide +kernel
theorem d5_35 : decode jdk_52_method_21_code 35 = .ok (.iinc 3 1, 3) := by decide +kernel
theorem d5_38 : decode jdk_52_method_21_code 38 = .ok (.iinc 5 1, 3) := by decide +kernel
theorem d5_41 : decode jdk_52_method_21_code 41 = .ok (.goto (-38), 3) := by decide +kernel
theorem d5_44 : decode jdk_52_method_21_code 44 = .ok (.iload 4, 2) := by decide +kernel
theorem d5_46 : decode jdk_52_method_21_code 46 = .ok (.ireturn, 1) := by decide +kernel
set_option maxRecDepth 65536 in
set_option maxHeartbeats 40000000 in
theorem rC5_2 (l : Launch) (Z : State) (a0 : Array Value) (hw : ∀ d ∈ tables_1, d.before a0 Z = true) (ws : List Jvm.Cond) (xa : Addr) (xd : Addr) (xk : ClassId) (xl : ClassId) (xc0 : Int32) (xc1 : Int32) (h0 : Heap) (O0 : Ext Z.heap h0) (og_xd : Z.heap.size ≤ xd) (ne_xa_xd : xa ≠ xd) (V_xa : Arv Z h0 xa xk .char (2 : Int32) [(.int xc0), (.int xc1)] (.int (0 : Int32))) (V_xd : Arv Z h0 xd xl .byte (2 : Int32) [(.int (0 : Int32)), (.int (0 : Int32))] (.int (0 : Int32))) (hc0_ : ¬ (255 : Int32) < xc0) (hc1_ : ¬ (255 : Int32) < xc1) :
    oCon l Z yy0 jdk_52_method_21_code 7 (some .int) ws ({ frames := 0, cells := 0, slots := 0, locals := 0 } : Room) #[(.ref xa), (.int (0 : Int32)), (.ref xd), (.int (0 : Int32)), (.int (2 : Int32))] h0 (Q_rC5_2 Z xa xd xk xl xc0 xc1 h0) := by
  refine oCon.of (plainFor_of_name pn_0) ?_
  intro p e s m below meth c T X hx hby hml hown hnm hret hlk hZ e0
  have hml : c.maxLocals = 7 := hml
  have K : oKp h0 h0 [xd] [] := oKp.nil _ _
  refine oWk.cast (g' := (mkF m 0 #[rv xa, iv 0, rv xd, iv 0, iv 2, uu, uu] [])) (by first | rfl | (simp [entryFrame, mkF, argsToLocals, Value.category]; done)) ?_
  refine oWk.st (fun _ kt => XS.iconst X.here hx rfl (hb hby d5_0) kt) ?_
  show oWk _ _ _ _ T (mkF m 1 #[rv xa, iv 0, rv xd, iv 0, iv 2, uu, uu] [(.int 0)])
  refine oWk.st (fun _ kt => XS.istore X.here hx rfl (hb hby d5_1) rfl (l' := #[rv xa, iv 0, rv xd, iv 0, iv 2, iv 0, uu]) rfl kt) ?_
  show oWk _ _ _ _ T (mkF m 3 #[rv xa, iv 0, rv xd, iv 0, iv 2, iv 0, uu] [])
  refine oWk.st (fun _ kt => XS.iload X.here hx rfl (hb hby d5_3) rfl kt) ?_
  show oWk _ _ _ _ T (mkF m 5 #[rv xa, iv 0, rv xd, iv 0, iv 2, iv 0, uu] [(.int 0)])
  refine oWk.st (fun _ kt => XS.iload X.here hx rfl (hb hby d5_5) rfl kt) ?_
  show oWk _ _ _ _ T (mkF m 7 #[rv xa, iv 0, rv xd, iv 0, iv 2, iv 0, uu] [(.int 2), (.int 0)])
  refine oWk.st (fun _ kt => XS.icmpNo X.here hx rfl (hb hby d5_7) rfl (tlt (by decide)).2.1 kt) ?_
  show oWk _ _ _ _ T (mkF m 10 #[rv xa, iv 0, rv xd, iv 0, iv 2, iv 0, uu] [])
  refine oWk.st (fun _ kt => XS.aloadN X.here hx rfl (hb hby d5_10) rfl rfl kt) ?_
  show oWk _ _ _ _ T (mkF m 11 #[rv xa, iv 0, rv xd, iv 0, iv 2, iv 0, uu] [(.ref xa)])
  refine oWk.st (fun _ kt => XS.iloadN X.here hx rfl (hb hby d5_11) rfl kt) ?_
  show oWk _ _ _ _ T (mkF m 12 #[rv xa, iv 0, rv xd, iv 0, iv 2, iv 0, uu] [(.int 0), (.ref xa)])
  obtain ⟨cl1, Ar1, q1, Sz1, Nn1, Hs1, Ft1⟩ := id V_xa
  have hin1 : ¬ ((0 : Int32) < 0 ∨ cl1.slots.size ≤ ((0 : Int32)).toNatClampNeg) := inb_of Sz1 ⟨by decide, by decide⟩
  have hat1 : cl1.slots[((0 : Int32)).toNatClampNeg]? = some (.int xc0) := Hs1.at hin1 rfl
  refine oWk.st (fun _ kt => X.caload hx (j := (0 : Int32)) (v := (.int xc0)) (by rw [e0]; exact Ar1.1) (State.isArrayOf_alike hZ.alike Ar1.2.1) Ar1.2.2 hin1 hat1 (g := (mkF m 12 #[rv xa, iv 0, rv xd, iv 0, iv 2, iv 0, uu] [(.int 0), (.ref xa)])) rfl rfl (hb hby d5_12) _ kt) ?_
  show oWk _ _ _ _ T (mkF m 13 #[rv xa, iv 0, rv xd, iv 0, iv 2, iv 0, uu] [(.int xc0)])
  refine oWk.st (fun _ kt => XS.istore X.here hx rfl (hb hby d5_13) rfl (l' := #[rv xa, iv 0, rv xd, iv 0, iv 2, iv 0, iv xc0]) rfl kt) ?_
  show oWk _ _ _ _ T (mkF m 15 #[rv xa, iv 0, rv xd, iv 0, iv 2, iv 0, iv xc0] [])
  refine oWk.st (fun _ kt => XS.iload X.here hx rfl (hb hby d5_15) rfl kt) ?_
  show oWk _ _ _ _ T (mkF m 17 #[rv xa, iv 0, rv xd, iv 0, iv 2, iv 0, iv xc0] [(.int xc0)])
  refine oWk.st (fun _ kt => XS.sipush X.here hx rfl (hb hby d5_17) kt) ?_
  show oWk _ _ _ _ T (mkF m 20 #[rv xa, iv 0, rv xd, iv 0, iv 2, iv 0, iv xc0] [(.int 255), (.int xc0)])
  refine oWk.st (fun _ kt => XS.icmpYes X.here hx rfl (pc0 := 20) (pc' := 26) rfl (hb hby d5_20) rfl (flt hc0_).2.2.2 (by decide) (by decide) kt) ?_
  show oWk _ _ _ _ T (mkF m 26 #[rv xa, iv 0, rv xd, iv 0, iv 2, iv 0, iv xc0] [])
  refine oWk.st (fun _ kt => XS.aloadN X.here hx rfl (hb hby d5_26) rfl rfl kt) ?_
  show oWk _ _ _ _ T (mkF m 27 #[rv xa, iv 0, rv xd, iv 0, iv 2, iv 0, iv xc0] [(.ref xd)])
  refine oWk.st (fun _ kt => XS.iloadN X.here hx rfl (hb hby d5_27) rfl kt) ?_
  show oWk _ _ _ _ T (mkF m 28 #[rv xa, iv 0, rv xd, iv 0, iv 2, iv 0, iv xc0] [(.int 0), (.ref xd)])
  refine oWk.st (fun _ kt => XS.iload X.here hx rfl (hb hby d5_28) rfl kt) ?_
  show oWk _ _ _ _ T (mkF m 30 #[rv xa, iv 0, rv xd, iv 0, iv 2, iv 0, iv xc0] [(.int xc0), (.int 0), (.ref xd)])
  refine oWk.st (fun _ kt => XS.i2b X.here hx rfl (hb hby d5_30) rfl kt) ?_
  show oWk _ _ _ _ T (mkF m 31 #[rv xa, iv 0, rv xd, iv 0, iv 2, iv 0, iv xc0] [(.int (xc0.toInt8.toInt32)), (.int 0), (.ref xd)])
  obtain ⟨cl2, Ar2, q2, Sz2, Nn2, Hs2, Ft2⟩ := id V_xd
  have hin2 : ¬ ((0 : Int32) < 0 ∨ cl2.slots.size ≤ ((0 : Int32)).toNatClampNeg) := inb_of Sz2 ⟨by decide, by decide⟩
  obtain ⟨T, h, X, e0, W2, st⟩ := stB X hx hZ e0 Ar2 (j := (0 : Int32)) hin2 (g := (mkF m 31 #[rv xa, iv 0, rv xd, iv 0, iv 2, iv 0, iv xc0] [(.int (xc0.toInt8.toInt32)), (.int 0), (.ref xd)])) rfl rfl (hb hby d5_31)
  refine oWk.st st ?_
  have K := K.wr W2 (Or.inl (List.mem_of_getElem? (i := 0) rfl))
  have V_xd := Arv.set Ar2 q2 Sz2 Nn2 Hs2 Ft2 (fits_nar_byte _) W2 0 rfl (Nat.le_of_ble_eq_true rfl)
  rw [oB8 xc0] at V_xd
  replace V_xd : Arv Z h xd xl .byte (2 : Int32) [(.int (xc0.toInt8.toInt32)), (.int (0 : Int32))] (.int (0 : Int32)) := V_xd
  show oWk _ _ _ _ T (mkF m 32 #[rv xa, iv 0, rv xd, iv 0, iv 2, iv 0, iv xc0] [])
  refine oWk.st (fun _ kt => XS.iinc X.here hx rfl (hb hby d5_32) rfl (l' := #[rv xa, iv ((0 : Int32) + (1 : Int32)), rv xd, iv 0, iv 2, iv 0, iv xc0]) rfl kt) ?_
  show oWk _ _ _ _ T (mkF m 35 #[rv xa, iv ((0 : Int32) + (1 : Int32)), rv xd, iv 0, iv 2, iv 0, iv xc0] [])
  rw [show ((0 : Int32) + (1 : Int32)) = (1 : Int32) from by decide]
  show oWk _ _ _ _ T (mkF m 35 #[rv xa, iv 1, rv xd, iv 0, iv 2, iv 0, iv xc0] [])
  refine oWk.st (fun _ kt => XS.iinc X.here hx rfl (hb hby d5_35) rfl (l' := #[rv xa, iv 1, rv xd, iv ((0 : Int32) + (1 : Int32)), iv 2, iv 0, iv xc0]) rfl kt) ?_
  show oWk _ _ _ _ T (mkF m 38 #[rv xa, iv 1, rv xd, iv ((0 : Int32) + (1 : Int32)), iv 2, iv 0, iv xc0] [])
  rw [show ((0 : Int32) + (1 : Int32)) = (1 : Int32) from by decide]
  show oWk _ _ _ _ T (mkF m 38 #[rv xa, iv 1, rv xd, iv 1, iv 2, iv 0, iv xc0] [])
  refine oWk.st (fun _ kt => XS.iinc X.here hx rfl (hb hby d5_38) rfl (l' := #[rv xa, iv 1, rv xd, iv 1, iv 2, iv ((0 : Int32) + (1 : Int32)), iv xc0]) rfl kt) ?_
  show oWk _ _ _ _ T (mkF m 41 #[rv xa, iv 1, rv xd, iv 1, iv 2, iv ((0 : Int32) + (1 : Int32)), iv xc0] [])
  rw [show ((0 : Int32) + (1 : Int32)) = (1 : Int32) from by decide]
  show oWk _ _ _ _ T (mkF m 41 #[rv xa, iv 1, rv xd, iv 1, iv 2, iv 1, iv xc0] [])
  refine oWk.st (fun _ kt => XS.goto X.here hx rfl (pc0 := 41) (pc' := 3) rfl (hb hby d5_41) (by decide) (by decide) kt) ?_
  show oWk _ _ _ _ T (mkF m 3 #[rv xa, iv 1, rv xd, iv 1, iv 2, iv 1, iv xc0] [])
  refine oWk.st (fun _ kt => XS.iload X.here hx rfl (hb hby d5_3) rfl kt) ?_
  show oWk _ _ _ _ T (mkF m 5 #[rv xa, iv 1, rv xd, iv 1, iv 2, iv 1, iv xc0] [(.int 1)])
  refine oWk.st (fun _ kt => XS.iload X.here hx rfl (hb hby d5_5) rfl kt) ?_
  show oWk _ _ _ _ T (mkF m 7 #[rv xa, iv 1, rv xd, iv 1, iv 2, iv 1, iv xc0] [(.int 2), (.int 1)])
  refine oWk.st (fun _ kt => XS.icmpNo X.here hx rfl (hb hby d5_7) rfl (tlt (by decide)).2.1 kt) ?_
  show oWk _ _ _ _ T (mkF m 10 #[rv xa, iv 1, rv xd, iv 1, iv 2, iv 1, iv xc0] [])
  refine oWk.st (fun _ kt => XS.aloadN X.here hx rfl (hb hby d5_10) rfl rfl kt) ?_
  show oWk _ _ _ _ T (mkF m 11 #[rv xa, iv 1, rv xd, iv 1, iv 2, iv 1, iv xc0] [(.ref xa)])
  refine oWk.st (fun _ kt => XS.iloadN X.here hx rfl (hb hby d5_11) rfl kt) ?_
  show oWk _ _ _ _ T (mkF m 12 #[rv xa, iv 1, rv xd, iv 1, iv 2, iv 1, iv xc0] [(.int 1), (.ref xa)])
  have V_xa := (V_xa.other W2 ne_xa_xd)
  obtain ⟨cl3, Ar3, q3, Sz3, Nn3, Hs3, Ft3⟩ := id V_xa
  have hin3 : ¬ ((1 : Int32) < 0 ∨ cl3.slots.size ≤ ((1 : Int32)).toNatClampNeg) := inb_of Sz3 ⟨by decide, by decide⟩
  have hat3 : cl3.slots[((1 : Int32)).toNatClampNeg]? = some (.int xc1) := Hs3.at hin3 rfl
  refine oWk.st (fun _ kt => X.caload hx (j := (1 : Int32)) (v := (.int xc1)) (by rw [e0]; exact Ar3.1) (State.isArrayOf_alike hZ.alike Ar3.2.1) Ar3.2.2 hin3 hat3 (g := (mkF m 12 #[rv xa, iv 1, rv xd, iv 1, iv 2, iv 1, iv xc0] [(.int 1), (.ref xa)])) rfl rfl (hb hby d5_12) _ kt) ?_
  show oWk _ _ _ _ T (mkF m 13 #[rv xa, iv 1, rv xd, iv 1, iv 2, iv 1, iv xc0] [(.int xc1)])
  refine oWk.st (fun _ kt => XS.istore X.here hx rfl (hb hby d5_13) rfl (l' := #[rv xa, iv 1, rv xd, iv 1, iv 2, iv 1, iv xc1]) rfl kt) ?_
  show oWk _ _ _ _ T (mkF m 15 #[rv xa, iv 1, rv xd, iv 1, iv 2, iv 1, iv xc1] [])
  refine oWk.st (fun _ kt => XS.iload X.here hx rfl (hb hby d5_15) rfl kt) ?_
  show oWk _ _ _ _ T (mkF m 17 #[rv xa, iv 1, rv xd, iv 1, iv 2, iv 1, iv xc1] [(.int xc1)])
  refine oWk.st (fun _ kt => XS.sipush X.here hx rfl (hb hby d5_17) kt) ?_
  show oWk _ _ _ _ T (mkF m 20 #[rv xa, iv 1, rv xd, iv 1, iv 2, iv 1, iv xc1] [(.int 255), (.int xc1)])
  refine oWk.st (fun _ kt => XS.icmpYes X.here hx rfl (pc0 := 20) (pc' := 26) rfl (hb hby d5_20) rfl (flt hc1_).2.2.2 (by decide) (by decide) kt) ?_
  show oWk _ _ _ _ T (mkF m 26 #[rv xa, iv 1, rv xd, iv 1, iv 2, iv 1, iv xc1] [])
  refine oWk.st (fun _ kt => XS.aloadN X.here hx rfl (hb hby d5_26) rfl rfl kt) ?_
  show oWk _ _ _ _ T (mkF m 27 #[rv xa, iv 1, rv xd, iv 1, iv 2, iv 1, iv xc1] [(.ref xd)])
  refine oWk.st (fun _ kt => XS.iloadN X.here hx rfl (hb hby d5_27) rfl kt) ?_
  show oWk _ _ _ _ T (mkF m 28 #[rv xa, iv 1, rv xd, iv 1, iv 2, iv 1, iv xc1] [(.int 1), (.ref xd)])
  refine oWk.st (fun _ kt => XS.iload X.here hx rfl (hb hby d5_28) rfl kt) ?_
  show oWk _ _ _ _ T (mkF m 30 #[rv xa, iv 1, rv xd, iv 1, iv 2, iv 1, iv xc1] [(.int xc1), (.int 1), (.ref xd)])
  refine oWk.st (fun _ kt => XS.i2b X.here hx rfl (hb hby d5_30) rfl kt) ?_
  show oWk _ _ _ _ T (mkF m 31 #[rv xa, iv 1, rv xd, iv 1, iv 2, iv 1, iv xc1] [(.int (xc1.toInt8.toInt32)), (.int 1), (.ref xd)])
  obtain ⟨cl4, Ar4, q4, Sz4, Nn4, Hs4, Ft4⟩ := id V_xd
  have hin4 : ¬ ((1 : Int32) < 0 ∨ cl4.slots.size ≤ ((1 : Int32)).toNatClampNeg) := inb_of Sz4 ⟨by decide, by decide⟩
  obtain ⟨T, h, X, e0, W4, st⟩ := stB X hx hZ e0 Ar4 (j := (1 : Int32)) hin4 (g := (mkF m 31 #[rv xa, iv 1, rv xd, iv 1, iv 2, iv 1, iv xc1] [(.int (xc1.toInt8.toInt32)), (.int 1), (.ref xd)])) rfl rfl (hb hby d5_31)
  refine oWk.st st ?_
  have K := K.wr W4 (Or.inl (List.mem_of_getElem? (i := 0) rfl))
  have V_xd := Arv.set Ar4 q4 Sz4 Nn4 Hs4 Ft4 (fits_nar_byte _) W4 1 rfl (Nat.le_of_ble_eq_true rfl)
  rw [oB8 xc1] at V_xd
  replace V_xd : Arv Z h xd xl .byte (2 : Int32) [(.int (xc0.toInt8.toInt32)), (.int (xc1.toInt8.toInt32))] (.int (0 : Int32)) := V_xd
  show oWk _ _ _ _ T (mkF m 32 #[rv xa, iv 1, rv xd, iv 1, iv 2, iv 1, iv xc1] [])
  refine oWk.st (fun _ kt => XS.iinc X.here hx rfl (hb hby d5_32) rfl (l' := #[rv xa, iv ((1 : Int32) + (1 : Int32)), rv xd, iv 1, iv 2, iv 1, iv xc1]) rfl kt) ?_
  show oWk _ _ _ _ T (mkF m 35 #[rv xa, iv ((1 : Int32) + (1 : Int32)), rv xd, iv 1, iv 2, iv 1, iv xc1] [])
  rw [show ((1 : Int32) + (1 : Int32)) = (2 : Int32) from by decide]
  show oWk _ _ _ _ T (mkF m 35 #[rv xa, iv 2, rv xd, iv 1, iv 2, iv 1, iv xc1] [])
  refine oWk.st (fun _ kt => XS.iinc X.here hx rfl (hb hby d5_35) rfl (l' := #[rv xa, iv 2, rv xd, iv ((1 : Int32) + (1 : Int32)), iv 2, iv 1, iv xc1]) rfl kt) ?_
  show oWk _ _ _ _ T (mkF m 38 #[rv xa, iv 2, rv xd, iv ((1 : Int32) + (1 : Int32)), iv 2, iv 1, iv xc1] [])
  rw [show ((1 : Int32) + (1 : Int32)) = (2 : Int32) from by decide]
  show oWk _ _ _ _ T (mkF m 38 #[rv xa, iv 2, rv xd, iv 2, iv 2, iv 1, iv xc1] [])
  refine oWk.st (fun _ kt => XS.iinc X.here hx rfl (hb hby d5_38) rfl (l' := #[rv xa, iv 2, rv xd, iv 2, iv 2, iv ((1 : Int32) + (1 : Int32)), iv xc1]) rfl kt) ?_
  show oWk _ _ _ _ T (mkF m 41 #[rv xa, iv 2, rv xd, iv 2, iv 2, iv ((1 : Int32) + (1 : Int32)), iv xc1] [])
  rw [show ((1 : Int32) + (1 : Int32)) = (2 : Int32) from by decide]
  show oWk _ _ _ _ T (mkF m 41 #[rv xa, iv 2, rv xd, iv 2, iv 2, iv 2, iv xc1] [])
  refine oWk.st (fun _ kt => XS.goto X.here hx rfl (pc0 := 41) (pc' := 3) rfl (hb hby d5_41) (by decide) (by decide) kt) ?_
  show oWk _ _ _ _ T (mkF m 3 #[rv xa, iv 2, rv xd, iv 2, iv 2, iv 2, iv xc1] [])
  refine oWk.st (fun _ kt => XS.iload X.here hx rfl (hb hby d5_3) rfl kt) ?_
  show oWk _ _ _ _ T (mkF m 5 #[rv xa, iv 2, rv xd, iv 2, iv 2, iv 2, iv xc1] [(.int 2)])
  refine oWk.st (fun _ kt => XS.iload X.here hx rfl (hb hby d5_5) rfl kt) ?_
  show oWk _ _ _ _ T (mkF m 7 #[rv xa, iv 2, rv xd, iv 2, iv 2, iv 2, iv xc1] [(.int 2), (.int 2)])
  refine oWk.st (fun _ kt => XS.icmpYes X.here hx rfl (pc0 := 7) (pc' := 44) rfl (hb hby d5_7) rfl (flt (by decide)).2.1 (by decide) (by decide) kt) ?_
  show oWk _ _ _ _ T (mkF m 44 #[rv xa, iv 2, rv xd, iv 2, iv 2, iv 2, iv xc1] [])
  refine oWk.st (fun _ kt => XS.iload X.here hx rfl (hb hby d5_44) rfl kt) ?_
  show oWk _ _ _ _ T (mkF m 46 #[rv xa, iv 2, rv xd, iv 2, iv 2, iv 2, iv xc1] [(.int 2)])
  exact oRetI X hx hlk hret (hb hby d5_46) (by rw [e0]; exact ⟨rfl, K, V_xd⟩) (by decide) (by decide)
def Q_rC3_2 (Z : State) (xa : Addr) (xk : ClassId) (xc0 : Int32) (xc1 : Int32) (h0 : Heap) (v : Option Value) (h : Heap) (L : List Loc) : Prop := ∃ (nb : Addr) (nk : ClassId), v = some (.ref nb) ∧ oKp h0 h [] L ∧ (h0.size ≤ nb) ∧ (Arv Z h nb nk .byte (2 : Int32) [(.int (xc0.toInt8.toInt32)), (.int (xc1.toInt8.toInt32))] (.int (0 : Int32)))
abbrev yy1 : MethodName := ⟨"java/lang/StringUTF16", "compress", "([CII)[B"⟩
theorem d4_0 : decode jdk_52_method_16_code 0 = .ok (.iload_n 2, 1) := by decide +kernel
theorem d4_1 : decode jdk_52_method_16_code 1 = .ok (.newarray .byte, 2) := by decide +kernel
theorem d4_3 : decode jdk_52_method_16_code 3 = .ok (.astore_n 3, 1) := by decide +kernel
theorem d4_4 : decode jdk_52_method_16_code 4 = .ok (.aload_n 0, 1) := by decide +kernel
theorem d4_5 : decode jdk_52_method_16_code 5 = .ok (.iload_n 1, 1) := by decide +kernel
theorem d4_6 : decode jdk_52_method_16_code 6 = .ok (.aload_n 3, 1) := by decide +kernel
theorem d4_7 : decode jdk_52_method_16_code 7 = .ok (.iconst 0, 1) := by decide +kernel
theorem d4_8 : decode jdk_52_method_16_code 8 = .ok (.iload_n 2, 1) := by decide +kernel
theorem d4_9 : decode jdk_52_method_16_code 9 = .ok (.invokestatic 115, 3) := by decide +kernel
theorem pd_0 : parseMethodDescriptor "([CI[BII)I" = some ⟨[(.array .char), .int, (.array .byte), .int, .int], some .int⟩ := by decide +kernel
theorem d4_12 : decode jdk_52_method_16_code 12 = .ok (.istore 4, 2) := by decide +kernel
theorem d4_14 : decode jdk_52_method_16_code 14 = .ok (.iload 4, 2) := by decide +kernel
theorem d4_16 : decode jdk_52_method_16_code 16 = .ok (.iload_n 2, 1) := by decide +kernel
theorem d4_17 : decode jdk_52_method_16_code 17 = .ok (.if_icmp .eq 40, 3) := by decide +kernel
theorem d4_57 : decode jdk_52_method_16_code 57 = .ok (.aload_n 3, 1) := by decide +kernel
theorem d4_58 : decode jdk_52_method_16_code 58 = .ok (.areturn, 1) := by decide +kernel
set_option maxRecDepth 65536 in
set_option maxHeartbeats 40000000 in
theorem rC3_2 (l : Launch) (Z : State) (a0 : Array Value) (hw : ∀ d ∈ tables_1, d.before a0 Z = true) (ws : List Jvm.Cond) (xa : Addr) (xk : ClassId) (xc0 : Int32) (xc1 : Int32) (h0 : Heap) (O0 : Ext Z.heap h0) (V_xa : Arv Z h0 xa xk .char (2 : Int32) [(.int xc0), (.int xc1)] (.int (0 : Int32))) (hc0_ : ¬ (255 : Int32) < xc0) (hc1_ : ¬ (255 : Int32) < xc1) :
    oCon l Z yy1 jdk_52_method_16_code 6 (some (.array .byte)) ws ({ frames := 1, cells := 1, slots := 2, locals := 18 } : Room) #[(.ref xa), (.int (0 : Int32)), (.int (2 : Int32))] h0 (Q_rC3_2 Z xa xk xc0 xc1 h0) := by
  refine oCon.of (plainFor_of_name pn_0) ?_
  intro p e s m below meth c T X hx hby hml hown hnm hret hlk hZ e0
  have hml : c.maxLocals = 6 := hml
  have K : oKp h0 h0 [] [] := oKp.nil _ _
  refine oWk.cast (g' := (mkF m 0 #[rv xa, iv 0, iv 2, uu, uu, uu] [])) (by first | rfl | (simp [entryFrame, mkF, argsToLocals, Value.category]; done)) ?_
  refine oWk.st (fun _ kt => XS.iloadN X.here hx rfl (hb hby d4_0) rfl kt) ?_
  show oWk _ _ _ _ T (mkF m 1 #[rv xa, iv 0, iv 2, uu, uu, uu] [(.int 2)])
  obtain ⟨o1, g1⟩ : ∃ z, z = h0.size := ⟨_, rfl⟩
  have ne_xa_o1 : xa ≠ o1 := Nat.ne_of_lt (Nat.lt_of_lt_of_le V_xa.lt (Nat.le_of_eq g1.symm))
  have ge_o1 : h0.size ≤ o1 := Nat.le_trans K.le (Nat.le_of_eq g1.symm)
  obtain ⟨T, h, k1, X, e0, E1, A1, st⟩ := newP X hx hZ (oW hw 22 rfl) e0 (g := (mkF m 1 #[rv xa, iv 0, iv 2, uu, uu, uu] [(.int 2)])) rfl (hb hby d4_1) rfl (by decide) (cap := 2) (by decide) (by decide) (by decide) (by decide)
  rw [← g1] at A1 st
  refine oWk.st st ?_
  have K := K.ext E1
  have V_o1 : Arv Z h o1 k1 .byte (2 : Int32) [(.int (0 : Int32)), (.int (0 : Int32))] (.int (0 : Int32)) := (Arv.new A1 (by decide)).pad (pad_rep [] (.int (0 : Int32)) 2)
  show oWk _ _ _ _ T (mkF m 3 #[rv xa, iv 0, iv 2, uu, uu, uu] [(.ref o1)])
  refine oWk.st (fun _ kt => XS.astoreN X.here hx rfl (hb hby d4_3) rfl rfl (l' := #[rv xa, iv 0, iv 2, rv o1, uu, uu]) rfl kt) ?_
  show oWk _ _ _ _ T (mkF m 4 #[rv xa, iv 0, iv 2, rv o1, uu, uu] [])
  refine oWk.st (fun _ kt => XS.aloadN X.here hx rfl (hb hby d4_4) rfl rfl kt) ?_
  show oWk _ _ _ _ T (mkF m 5 #[rv xa, iv 0, iv 2, rv o1, uu, uu] [(.ref xa)])
  refine oWk.st (fun _ kt => XS.iloadN X.here hx rfl (hb hby d4_5) rfl kt) ?_
  show oWk _ _ _ _ T (mkF m 6 #[rv xa, iv 0, iv 2, rv o1, uu, uu] [(.int 0), (.ref xa)])
  refine oWk.st (fun _ kt => XS.aloadN X.here hx rfl (hb hby d4_6) rfl rfl kt) ?_
  show oWk _ _ _ _ T (mkF m 7 #[rv xa, iv 0, iv 2, rv o1, uu, uu] [(.ref o1), (.int 0), (.ref xa)])
  refine oWk.st (fun _ kt => XS.iconst X.here hx rfl (hb hby d4_7) kt) ?_
  show oWk _ _ _ _ T (mkF m 8 #[rv xa, iv 0, iv 2, rv o1, uu, uu] [(.int 0), (.ref o1), (.int 0), (.ref xa)])
  refine oWk.st (fun _ kt => XS.iloadN X.here hx rfl (hb hby d4_8) rfl kt) ?_
  show oWk _ _ _ _ T (mkF m 9 #[rv xa, iv 0, iv 2, rv o1, uu, uu] [(.int 2), (.int 0), (.ref o1), (.int 0), (.ref xa)])
  have V_xa := (V_xa.ext E1)
  have Oh := K.old O0 all0
  obtain ⟨_, _, ⟨T, L3, k3, n3⟩, -, X, ⟨Lc3, hQ, l3, y3, z3⟩, st⟩ := Jvm.LawKit.callS X hx (y := yy0) hown (mvT hZ (oW hw 23 rfl)) (mvT hZ (oW hw 24 rfl)) (mvT hZ (oW hw 20 rfl)) (mvT hZ (oW hw 25 rfl)) (by decide) (backOf (W := 0) (rC5_2 l Z a0 hw [] xa o1 xk k1 xc0 xc1 h Oh (Nat.le_trans O0.1 ge_o1) ne_xa_o1 V_xa V_o1 hc0_ hc1_) hZ (oW hw 25 rfl) (oW hw 20 rfl) (by decide) (by decide)) (g := (mkF m 9 #[rv xa, iv 0, iv 2, rv o1, uu, uu] [(.int 2), (.int 0), (.ref o1), (.int 0), (.ref xa)])) rfl (by rw [hml]; rfl) (argsL := [(.ref xa), (.int (0 : Int32)), (.ref o1), (.int (0 : Int32)), (.int (2 : Int32))]) (rest := []) (lenOf pd_0 rfl) rfl (by show 2 * 0 + _ ≤ _; exact Nat.le_of_eq rfl) (hb hby d4_9) (fun _ _ => ⟨rfl, e0, (by decide : 1 + 0 ≤ _), (by decide : 2 + 0 ≤ _)⟩)
  dsimp only [Pt.U, Pt.locs, Pt.cells, Pt.slots] at X l3 y3 z3 st hQ
  subst l3 y3 z3
  obtain ⟨h, e0⟩ : ∃ z, T.heap = z := ⟨_, rfl⟩
  rw [e0] at hQ
  obtain ⟨rfl, K2, V_o1⟩ := hQ
  have K := K.call K2 (allS (Or.inr ge_o1) all0)
  refine oWk.st st ?_
  show oWk _ _ _ _ T (mkF m 12 #[rv xa, iv 0, iv 2, rv o1, uu, uu] [(.int 2)])
  refine oWk.st (fun _ kt => XS.istore X.here hx rfl (hb hby d4_12) rfl (l' := #[rv xa, iv 0, iv 2, rv o1, iv 2, uu]) rfl kt) ?_
  show oWk _ _ _ _ T (mkF m 14 #[rv xa, iv 0, iv 2, rv o1, iv 2, uu] [])
  refine oWk.st (fun _ kt => XS.iload X.here hx rfl (hb hby d4_14) rfl kt) ?_
  show oWk _ _ _ _ T (mkF m 16 #[rv xa, iv 0, iv 2, rv o1, iv 2, uu] [(.int 2)])
  refine oWk.st (fun _ kt => XS.iloadN X.here hx rfl (hb hby d4_16) rfl kt) ?_
  show oWk _ _ _ _ T (mkF m 17 #[rv xa, iv 0, iv 2, rv o1, iv 2, uu] [(.int 2), (.int 2)])
  refine oWk.st (fun _ kt => XS.icmpYes X.here hx rfl (pc0 := 17) (pc' := 57) rfl (hb hby d4_17) rfl (teq (by decide)).1 (by decide) (by decide) kt) ?_
  show oWk _ _ _ _ T (mkF m 57 #[rv xa, iv 0, iv 2, rv o1, iv 2, uu] [])
  refine oWk.st (fun _ kt => XS.aloadN X.here hx rfl (hb hby d4_57) rfl rfl kt) ?_
  show oWk _ _ _ _ T (mkF m 58 #[rv xa, iv 0, iv 2, rv o1, iv 2, uu] [(.ref o1)])
  exact oRetA X hx hlk hret rfl rfl (hb hby d4_58) (by rw [e0]; exact ⟨o1, k1, rfl, K, ge_o1, V_o1⟩) (by decide) (by decide)
def Q_rCo_2 (Z : State) (xb : Addr) (xk : ClassId) (xy0 : Int32) (xy1 : Int32) (h0 : Heap) (v : Option Value) (h : Heap) (L : List Loc) : Prop := v = some (.int (0 : Int32)) ∧ h = h0 ∧ oKp h0 h [] L
abbrev yy2 : MethodName := ⟨"java/lang/StringUTF16", "coderFromArrayLen", "([BI)B"⟩
theorem d6_0 : decode jdk_52_method_15_code 0 = .ok (.iload_n 1, 1) := by decide +kernel
theorem d6_1 : decode jdk_52_method_15_code 1 = .ok (.aload_n 0, 1) := by decide +kernel
theorem d6_2 : decode jdk_52_method_15_code 2 = .ok (.arraylength, 1) := by decide +kernel
theorem d6_3 : decode jdk_52_method_15_code 3 = .ok (.isub, 1) := by decide +kernel
theorem d6_4 : decode jdk_52_method_15_code 4 = .ok (.bipush 31, 2) := by decide +kernel
theorem d6_6 : decode jdk_52_method_15_code 6 = .ok (.iushr, 1) := by decide +kernel
theorem d6_7 : decode jdk_52_method_15_code 7 = .ok (.i2b, 1) := by decide +kernel
theorem d6_8 : decode jdk_52_method_15_code 8 = .ok (.ireturn, 1) := by decide +kernel
set_option maxRecDepth 65536 in
set_option maxHeartbeats 40000000 in
theorem rCo_2 (l : Launch) (Z : State) (a0 : Array Value) (hw : ∀ d ∈ tables_1, d.before a0 Z = true) (ws : List Jvm.Cond) (xb : Addr) (xk : ClassId) (xy0 : Int32) (xy1 : Int32) (h0 : Heap) (O0 : Ext Z.heap h0) (V_xb : Arv Z h0 xb xk .byte (2 : Int32) [(.int xy0), (.int xy1)] (.int (0 : Int32))) :
    oCon l Z yy2 jdk_52_method_15_code 2 (some .byte) ws ({ frames := 0, cells := 0, slots := 0, locals := 0 } : Room) #[(.ref xb), (.int (2 : Int32))] h0 (Q_rCo_2 Z xb xk xy0 xy1 h0) := by
  refine oCon.of (plainFor_of_name pn_0) ?_
  intro p e s m below meth c T X hx hby hml hown hnm hret hlk hZ e0
  have hml : c.maxLocals = 2 := hml
  have K : oKp h0 h0 [] [] := oKp.nil _ _
  refine oWk.cast (g' := (mkF m 0 #[rv xb, iv 2] [])) (by first | rfl | (simp [entryFrame, mkF, argsToLocals, Value.category]; done)) ?_
  refine oWk.st (fun _ kt => XS.iloadN X.here hx rfl (hb hby d6_0) rfl kt) ?_
  show oWk _ _ _ _ T (mkF m 1 #[rv xb, iv 2] [(.int 2)])
  refine oWk.st (fun _ kt => XS.aloadN X.here hx rfl (hb hby d6_1) rfl rfl kt) ?_
  show oWk _ _ _ _ T (mkF m 2 #[rv xb, iv 2] [(.ref xb), (.int 2)])
  obtain ⟨cl1, Ar1, q1, Sz1, Nn1, Hs1, Ft1⟩ := id V_xb
  refine oWk.st (fun _ kt => X.arraylength hx (by rw [e0]; exact Ar1.1) (State.isArrayOf_alike hZ.alike Ar1.2.1) (g := (mkF m 2 #[rv xb, iv 2] [(.ref xb), (.int 2)])) rfl rfl (hb hby d6_2) _ kt) ?_
  rw [len_of Sz1 Nn1]
  show oWk _ _ _ _ T (mkF m 3 #[rv xb, iv 2] [(.int 2), (.int 2)])
  refine oWk.st (fun _ kt => XS.isub X.here hx rfl (hb hby d6_3) rfl kt) ?_
  show oWk _ _ _ _ T (mkF m 4 #[rv xb, iv 2] [(.int ((2 : Int32) - (2 : Int32)))])
  rw [show ((2 : Int32) - (2 : Int32)) = (0 : Int32) from by decide]
  show oWk _ _ _ _ T (mkF m 4 #[rv xb, iv 2] [(.int 0)])
  refine oWk.st (fun _ kt => XS.bipush X.here hx rfl (hb hby d6_4) kt) ?_
  show oWk _ _ _ _ T (mkF m 6 #[rv xb, iv 2] [(.int 31), (.int 0)])
  refine oWk.st (fun _ kt => XS.iushr X.here hx rfl (hb hby d6_6) rfl kt) ?_
  show oWk _ _ _ _ T (mkF m 7 #[rv xb, iv 2] [(.int (((0 : Int32).toUInt32 >>> ((31 : Int32) &&& 31).toUInt32).toInt32))])
  rw [show (((0 : Int32).toUInt32 >>> ((31 : Int32) &&& 31).toUInt32).toInt32) = (0 : Int32) from by decide]
  show oWk _ _ _ _ T (mkF m 7 #[rv xb, iv 2] [(.int 0)])
  refine oWk.st (fun _ kt => XS.i2b X.here hx rfl (hb hby d6_7) rfl kt) ?_
  show oWk _ _ _ _ T (mkF m 8 #[rv xb, iv 2] [(.int ((0 : Int32).toInt8.toInt32))])
  rw [show ((0 : Int32).toInt8.toInt32) = (0 : Int32) from by decide]
  show oWk _ _ _ _ T (mkF m 8 #[rv xb, iv 2] [(.int 0)])
  exact oRetN X hx hlk hret (Or.inl rfl) rfl (hb hby d6_8) (by rw [e0]; exact ⟨rfl, rfl, K⟩) (by decide) (by decide)
def Q_rI4_2 (Z : State) (xs : Addr) (xa : Addr) (xk : ClassId) (xz : Int32) (xu : Value) (xv : Value) (xc0 : Int32) (xc1 : Int32) (h0 : Heap) (v : Option Value) (h : Heap) (L : List Loc) : Prop := ∃ (nb : Addr) (nk : ClassId), v = none ∧ oKp h0 h [xs] L ∧ (Exa Z h xs "java/lang/String") ∧ (Fld Z h xs "java/lang/String" "coder" "B" (.int (0 : Int32))) ∧ (Fld Z h xs "java/lang/String" "value" "[B" (.ref nb)) ∧ (h0.size ≤ nb) ∧ (Arv Z h nb nk .byte (2 : Int32) [(.int (xc0.toInt8.toInt32)), (.int (xc1.toInt8.toInt32))] (.int (0 : Int32)))
theorem pn_1 : plainName "java/lang/String" = true := by first | (simp [plainName, overriddenIn]; done) | decide +kernel
abbrev yy3 : MethodName := ⟨"java/lang/String", "<init>", "([CIILjava/lang/Void;)V"⟩
theorem d2_0 : decode jdk_42_method_149_code 0 = .ok (.aload_n 0, 1) := by decide +kernel
theorem d2_1 : decode jdk_42_method_149_code 1 = .ok (.invokespecial 1, 3) := by decide +kernel
theorem d2_4 : decode jdk_42_method_149_code 4 = .ok (.iload_n 3, 1) := by decide +kernel
theorem d2_5 : decode jdk_42_method_149_code 5 = .ok (.ifCond .ne 22, 3) := by decide +kernel
theorem d2_27 : decode jdk_42_method_149_code 27 = .ok (.getstatic 38, 3) := by decide +kernel
theorem d2_30 : decode jdk_42_method_149_code 30 = .ok (.ifCond .eq 28, 3) := by decide +kernel
theorem d2_33 : decode jdk_42_method_149_code 33 = .ok (.aload_n 1, 1) := by decide +kernel
theorem d2_34 : decode jdk_42_method_149_code 34 = .ok (.iload_n 2, 1) := by decide +kernel
theorem d2_35 : decode jdk_42_method_149_code 35 = .ok (.iload_n 3, 1) := by decide +kernel
theorem d2_36 : decode jdk_42_method_149_code 36 = .ok (.invokestatic 177, 3) := by decide +kernel
theorem pd_1 : parseMethodDescriptor "([CII)[B" = some ⟨[(.array .char), .int, .int], some (.array .byte)⟩ := by decide +kernel
theorem d2_39 : decode jdk_42_method_149_code 39 = .ok (.astore 5, 2) := by decide +kernel
theorem d2_41 : decode jdk_42_method_149_code 41 = .ok (.aload_n 0, 1) := by decide +kernel
theorem d2_42 : decode jdk_42_method_149_code 42 = .ok (.aload 5, 2) := by decide +kernel
theorem d2_44 : decode jdk_42_method_149_code 44 = .ok (.iload_n 3, 1) := by decide +kernel
theorem d2_45 : decode jdk_42_method_149_code 45 = .ok (.invokestatic 47, 3) := by decide +kernel
theorem pd_2 : parseMethodDescriptor "([BI)B" = some ⟨[(.array .byte), .int], some .byte⟩ := by decide +kernel
theorem d2_48 : decode jdk_42_method_149_code 48 = .ok (.putfield 15, 3) := by decide +kernel
theorem d2_51 : decode jdk_42_method_149_code 51 = .ok (.aload_n 0, 1) := by decide +kernel
theorem d2_52 : decode jdk_42_method_149_code 52 = .ok (.aload 5, 2) := by decide +kernel
theorem d2_54 : decode jdk_42_method_149_code 54 = .ok (.putfield 9, 3) := by decide +kernel
theorem d2_57 : decode jdk_42_method_149_code 57 = .ok (.return_, 1) := by decide +kernel
set_option maxRecDepth 65536 in
set_option maxHeartbeats 40000000 in
theorem rI4_2 (l : Launch) (Z : State) (a0 : Array Value) (hw : ∀ d ∈ tables_1, d.before a0 Z = true) (ws : List Jvm.Cond) (xs : Addr) (xa : Addr) (xk : ClassId) (xz : Int32) (xu : Value) (xv : Value) (xc0 : Int32) (xc1 : Int32) (h0 : Heap) (O0 : Ext Z.heap h0) (S_COMPACT_STRINGS : Sta Z Z.heap "java/lang/String" "COMPACT_STRINGS" "Z" (.int xz)) (hz : ¬ xz = (0 : Int32)) (og_xs : Z.heap.size ≤ xs) (E_xs : Exa Z h0 xs "java/lang/String") (F_value_xs : Fld Z h0 xs "java/lang/String" "value" "[B" xu) (F_coder_xs : Fld Z h0 xs "java/lang/String" "coder" "B" xv) (V_xa : Arv Z h0 xa xk .char (2 : Int32) [(.int xc0), (.int xc1)] (.int (0 : Int32))) (hc0_ : ¬ (255 : Int32) < xc0) (hc1_ : ¬ (255 : Int32) < xc1) :
    oCon l Z yy3 jdk_42_method_149_code 6 none ws ({ frames := 2, cells := 1, slots := 2, locals := 35 } : Room) #[(.ref xs), (.ref xa), (.int (0 : Int32)), (.int (2 : Int32)), .null] h0 (Q_rI4_2 Z xs xa xk xz xu xv xc0 xc1 h0) := by
  refine oCon.of (plainFor_of_name pn_1) ?_
  intro p e s m below meth c T X hx hby hml hown hnm hret hlk hZ e0
  have hml : c.maxLocals = 6 := hml
  have K : oKp h0 h0 [xs] [] := oKp.nil _ _
  refine oWk.cast (g' := (mkF m 0 #[rv xs, rv xa, iv 0, iv 2, .val .null, uu] [])) (by first | rfl | (simp [entryFrame, mkF, argsToLocals, Value.category]; done)) ?_
  refine oWk.st (fun _ kt => XS.aloadN X.here hx rfl (hb hby d2_0) rfl rfl kt) ?_
  show oWk _ _ _ _ T (mkF m 1 #[rv xs, rv xa, iv 0, iv 2, .val .null, uu] [(.ref xs)])
  obtain ⟨T, X, e0, st⟩ := initO X hx hZ hown (oW hw 14 rfl) (oW hw 15 rfl) (oW hw 16 rfl) e0 (g := (mkF m 1 #[rv xs, rv xa, iv 0, iv 2, .val .null, uu] [(.ref xs)])) rfl (by rw [hml]; rfl) rfl (hb hby d2_1) (by decide) (W := 0) (by show 2 * 0 + _ ≤ _; exact Nat.le_of_eq rfl) (by decide)
  refine oWk.st st ?_
  show oWk _ _ _ _ T (mkF m 4 #[rv xs, rv xa, iv 0, iv 2, .val .null, uu] [])
  refine oWk.st (fun _ kt => XS.iloadN X.here hx rfl (hb hby d2_4) rfl kt) ?_
  show oWk _ _ _ _ T (mkF m 5 #[rv xs, rv xa, iv 0, iv 2, .val .null, uu] [(.int 2)])
  refine oWk.st (fun _ kt => XS.ifYes X.here hx rfl (pc0 := 5) (pc' := 27) rfl (hb hby d2_5) rfl ((if0 _ _).trans (feq (by decide)).2) (by decide) (by decide) kt) ?_
  show oWk _ _ _ _ T (mkF m 27 #[rv xs, rv xa, iv 0, iv 2, .val .null, uu] [])
  have Oh := K.old O0 (allS og_xs all0)
  obtain ⟨T, X, e0, st⟩ := getS2 X hx hZ hown (host := "") (Or.inl (oW hw 17 rfl)) Via.refl e0 (S_COMPACT_STRINGS.ext Oh) (g := (mkF m 27 #[rv xs, rv xa, iv 0, iv 2, .val .null, uu] [])) rfl (hb hby d2_27)
  refine oWk.st st ?_
  show oWk _ _ _ _ T (mkF m 30 #[rv xs, rv xa, iv 0, iv 2, .val .null, uu] [(.int xz)])
  refine oWk.st (fun _ kt => XS.ifNo X.here hx rfl (hb hby d2_30) rfl ((if0 _ _).trans (feq hz).1) kt) ?_
  show oWk _ _ _ _ T (mkF m 33 #[rv xs, rv xa, iv 0, iv 2, .val .null, uu] [])
  refine oWk.st (fun _ kt => XS.aloadN X.here hx rfl (hb hby d2_33) rfl rfl kt) ?_
  show oWk _ _ _ _ T (mkF m 34 #[rv xs, rv xa, iv 0, iv 2, .val .null, uu] [(.ref xa)])
  refine oWk.st (fun _ kt => XS.iloadN X.here hx rfl (hb hby d2_34) rfl kt) ?_
  show oWk _ _ _ _ T (mkF m 35 #[rv xs, rv xa, iv 0, iv 2, .val .null, uu] [(.int 0), (.ref xa)])
  refine oWk.st (fun _ kt => XS.iloadN X.here hx rfl (hb hby d2_35) rfl kt) ?_
  show oWk _ _ _ _ T (mkF m 36 #[rv xs, rv xa, iv 0, iv 2, .val .null, uu] [(.int 2), (.int 0), (.ref xa)])
  have lt_xs := E_xs.lt
  have lt_xa := V_xa.lt
  have Oh := K.old O0 (allS og_xs all0)
  obtain ⟨_, _, ⟨T, L2, k2, n2⟩, -, X, ⟨Lc2, hQ, l2, y2, z2⟩, st⟩ := Jvm.LawKit.callS X hx (y := yy1) hown (mvT hZ (oW hw 18 rfl)) (mvT hZ (oW hw 19 rfl)) (mvT hZ (oW hw 20 rfl)) (mvT hZ (oW hw 21 rfl)) (by decide) (backOf (W := 0) (rC3_2 l Z a0 hw [] xa xk xc0 xc1 h0 Oh V_xa hc0_ hc1_) hZ (oW hw 21 rfl) (oW hw 20 rfl) (by decide) (by decide)) (g := (mkF m 36 #[rv xs, rv xa, iv 0, iv 2, .val .null, uu] [(.int 2), (.int 0), (.ref xa)])) rfl (by rw [hml]; rfl) (argsL := [(.ref xa), (.int (0 : Int32)), (.int (2 : Int32))]) (rest := []) (lenOf pd_1 rfl) rfl (by show 2 * 0 + _ ≤ _; exact Nat.le_of_eq rfl) (hb hby d2_36) (fun _ _ => ⟨rfl, e0, (by decide : 0 + 1 ≤ _), (by decide : 0 + 2 ≤ _)⟩)
  dsimp only [Pt.U, Pt.locs, Pt.cells, Pt.slots] at X l2 y2 z2 st hQ
  subst l2 y2 z2
  obtain ⟨h, e0⟩ : ∃ z, T.heap = z := ⟨_, rfl⟩
  rw [e0] at hQ
  obtain ⟨nb1, nk1, rfl, K1, gn_nb1, V_nb1⟩ := hQ
  have ge_nb1 := Nat.le_trans K.le gn_nb1
  have ne_xs_nb1 : xs ≠ nb1 := Nat.ne_of_lt (Nat.lt_of_lt_of_le lt_xs gn_nb1)
  have ne_xa_nb1 : xa ≠ nb1 := Nat.ne_of_lt (Nat.lt_of_lt_of_le lt_xa gn_nb1)
  have K := K.call K1 all0
  refine oWk.st st ?_
  show oWk _ _ _ _ T (mkF m 39 #[rv xs, rv xa, iv 0, iv 2, .val .null, uu] [(.ref nb1)])
  refine oWk.st (fun _ kt => XS.astore X.here hx rfl (hb hby d2_39) rfl rfl (l' := #[rv xs, rv xa, iv 0, iv 2, .val .null, rv nb1]) rfl kt) ?_
  show oWk _ _ _ _ T (mkF m 41 #[rv xs, rv xa, iv 0, iv 2, .val .null, rv nb1] [])
  refine oWk.st (fun _ kt => XS.aloadN X.here hx rfl (hb hby d2_41) rfl rfl kt) ?_
  show oWk _ _ _ _ T (mkF m 42 #[rv xs, rv xa, iv 0, iv 2, .val .null, rv nb1] [(.ref xs)])
  refine oWk.st (fun _ kt => XS.aload X.here hx rfl (hb hby d2_42) rfl rfl kt) ?_
  show oWk _ _ _ _ T (mkF m 44 #[rv xs, rv xa, iv 0, iv 2, .val .null, rv nb1] [(.ref nb1), (.ref xs)])
  refine oWk.st (fun _ kt => XS.iloadN X.here hx rfl (hb hby d2_44) rfl kt) ?_
  show oWk _ _ _ _ T (mkF m 45 #[rv xs, rv xa, iv 0, iv 2, .val .null, rv nb1] [(.int 2), (.ref nb1), (.ref xs)])
  have Oh := K.old O0 (allS og_xs all0)
  obtain ⟨_, _, ⟨T, L4, k4, n4⟩, -, X, ⟨Lc4, hQ, l4, y4, z4⟩, st⟩ := Jvm.LawKit.callS X hx (y := yy2) hown (mvT hZ (oW hw 26 rfl)) (mvT hZ (oW hw 27 rfl)) (mvT hZ (oW hw 20 rfl)) (mvT hZ (oW hw 28 rfl)) (by decide) (backOf (W := 1) (rCo_2 l Z a0 hw [] nb1 nk1 (xc0.toInt8.toInt32) (xc1.toInt8.toInt32) h Oh V_nb1) hZ (oW hw 28 rfl) (oW hw 20 rfl) (by decide) (by decide)) (g := (mkF m 45 #[rv xs, rv xa, iv 0, iv 2, .val .null, rv nb1] [(.int 2), (.ref nb1), (.ref xs)])) rfl (by rw [hml]; rfl) (argsL := [(.ref nb1), (.int (2 : Int32))]) (rest := [(.ref xs)]) (lenOf pd_2 rfl) rfl (by show 2 * 0 + _ ≤ _; exact Nat.le_of_eq rfl) (hb hby d2_45) (fun _ _ => ⟨rfl, e0, (by decide : 1 + 0 ≤ _), (by decide : 2 + 0 ≤ _)⟩)
  dsimp only [Pt.U, Pt.locs, Pt.cells, Pt.slots] at X l4 y4 z4 st hQ
  subst l4 y4 z4
  obtain ⟨rfl, e0, K3⟩ := hQ
  have K := K.call K3 all0
  rw [e0] at K
  refine oWk.st st ?_
  show oWk _ _ _ _ T (mkF m 48 #[rv xs, rv xa, iv 0, iv 2, .val .null, rv nb1] [(.int 0), (.ref xs)])
  have E_xs := (E_xs.keep K1.1)
  have F_coder_xs := (F_coder_xs.keep K1.1 nin0)
  obtain ⟨T, h, X, e0, W5, st⟩ := putFN X hx hZ hown (oW hw 29 rfl) Via.refl e0 F_coder_xs E_xs (Or.inr ⟨(oW hw 30 rfl), rfl, hnm⟩) (oW hw 5 rfl) (ty := .byte) (v' := .int (0 : Int32)) (by decide) rfl (by decide) (g := (mkF m 48 #[rv xs, rv xa, iv 0, iv 2, .val .null, rv nb1] [(.int 0), (.ref xs)])) rfl rfl (hb hby d2_48)
  refine oWk.st st ?_
  have K := K.wr W5 (Or.inl (List.mem_of_getElem? (i := 0) rfl))
  have F_coder_xs := F_coder_xs.same W5
  show oWk _ _ _ _ T (mkF m 51 #[rv xs, rv xa, iv 0, iv 2, .val .null, rv nb1] [])
  refine oWk.st (fun _ kt => XS.aloadN X.here hx rfl (hb hby d2_51) rfl rfl kt) ?_
  show oWk _ _ _ _ T (mkF m 52 #[rv xs, rv xa, iv 0, iv 2, .val .null, rv nb1] [(.ref xs)])
  refine oWk.st (fun _ kt => XS.aload X.here hx rfl (hb hby d2_52) rfl rfl kt) ?_
  show oWk _ _ _ _ T (mkF m 54 #[rv xs, rv xa, iv 0, iv 2, .val .null, rv nb1] [(.ref nb1), (.ref xs)])
  have E_xs := (E_xs.wr W5)
  have F_value_xs := ((F_value_xs.keep K1.1 nin0).other W5 (Or.inr (slot_ne (Or.inr (oW hw 32 rfl)) (Or.inr (oW hw 30 rfl)) (by decide) (t := (.array .byte)) (t' := .byte) (by decide) (by decide))))
  obtain ⟨T, h, X, e0, W6, st⟩ := putF X hx hZ hown (host := "") (Or.inl (oW hw 31 rfl)) Via.refl e0 F_value_xs E_xs (Or.inr ⟨(oW hw 32 rfl), rfl, hnm⟩) (oW hw 5 rfl) (ty := (.array .byte)) (by decide) rfl rfl (g := (mkF m 54 #[rv xs, rv xa, iv 0, iv 2, .val .null, rv nb1] [(.ref nb1), (.ref xs)])) rfl rfl (hb hby d2_54)
  refine oWk.st st ?_
  have K := K.wr W6 (Or.inl (List.mem_of_getElem? (i := 0) rfl))
  have F_value_xs := F_value_xs.same W6
  show oWk _ _ _ _ T (mkF m 57 #[rv xs, rv xa, iv 0, iv 2, .val .null, rv nb1] [])
  have E_xs := (E_xs.wr W6)
  have F_coder_xs := (F_coder_xs.other W6 (Or.inr (slot_ne (Or.inr (oW hw 30 rfl)) (Or.inr (oW hw 32 rfl)) (by decide) (t := .byte) (t' := (.array .byte)) (by decide) (by decide))))
  have V_nb1 := ((V_nb1.other W5 (Ne.symm ne_xs_nb1)).other W6 (Ne.symm ne_xs_nb1))
  exact oRetV X hx hlk hret (hb hby d2_57) (by rw [e0]; exact ⟨nb1, nk1, rfl, K, E_xs, F_coder_xs, F_value_xs, ge_nb1, V_nb1⟩) (by decide) (by decide)
def Q_rI1_2 (Z : State) (xs : Addr) (xa : Addr) (xk : ClassId) (xz : Int32) (xu : Value) (xv : Value) (xc0 : Int32) (xc1 : Int32) (h0 : Heap) (v : Option Value) (h : Heap) (L : List Loc) : Prop := ∃ (nb : Addr) (nk : ClassId), v = none ∧ oKp h0 h [xs] L ∧ (Exa Z h xs "java/lang/String") ∧ (Fld Z h xs "java/lang/String" "coder" "B" (.int (0 : Int32))) ∧ (Fld Z h xs "java/lang/String" "value" "[B" (.ref nb)) ∧ (h0.size ≤ nb) ∧ (Arv Z h nb nk .byte (2 : Int32) [(.int (xc0.toInt8.toInt32)), (.int (xc1.toInt8.toInt32))] (.int (0 : Int32)))
abbrev yy4 : MethodName := ⟨"java/lang/String", "<init>", "([C)V"⟩
theorem d1_0 : decode jdk_42_method_3_code 0 = .ok (.aload_n 0, 1) := by decide +kernel
theorem d1_1 : decode jdk_42_method_3_code 1 = .ok (.aload_n 1, 1) := by decide +kernel
theorem d1_2 : decode jdk_42_method_3_code 2 = .ok (.iconst 0, 1) := by decide +kernel
theorem d1_3 : decode jdk_42_method_3_code 3 = .ok (.aload_n 1, 1) := by decide +kernel
theorem d1_4 : decode jdk_42_method_3_code 4 = .ok (.arraylength, 1) := by decide +kernel
theorem d1_5 : decode jdk_42_method_3_code 5 = .ok (.aconst_null, 1) := by decide +kernel
theorem d1_6 : decode jdk_42_method_3_code 6 = .ok (.invokespecial 27, 3) := by decide +kernel
theorem pd_3 : parseMethodDescriptor "([CIILjava/lang/Void;)V" = some ⟨[(.array .char), .int, .int, (.object "java/lang/Void")], none⟩ := by decide +kernel
theorem d1_9 : decode jdk_42_method_3_code 9 = .ok (.return_, 1) := by decide +kernel
set_option maxRecDepth 65536 in
set_option maxHeartbeats 40000000 in
theorem rI1_2 (l : Launch) (Z : State) (a0 : Array Value) (hw : ∀ d ∈ tables_1, d.before a0 Z = true) (ws : List Jvm.Cond) (xs : Addr) (xa : Addr) (xk : ClassId) (xz : Int32) (xu : Value) (xv : Value) (xc0 : Int32) (xc1 : Int32) (h0 : Heap) (O0 : Ext Z.heap h0) (S_COMPACT_STRINGS : Sta Z Z.heap "java/lang/String" "COMPACT_STRINGS" "Z" (.int xz)) (hz : ¬ xz = (0 : Int32)) (og_xs : Z.heap.size ≤ xs) (E_xs : Exa Z h0 xs "java/lang/String") (F_value_xs : Fld Z h0 xs "java/lang/String" "value" "[B" xu) (F_coder_xs : Fld Z h0 xs "java/lang/String" "coder" "B" xv) (V_xa : Arv Z h0 xa xk .char (2 : Int32) [(.int xc0), (.int xc1)] (.int (0 : Int32))) (hc0_ : ¬ (255 : Int32) < xc0) (hc1_ : ¬ (255 : Int32) < xc1) :
    oCon l Z yy4 jdk_42_method_3_code 2 none ws ({ frames := 3, cells := 1, slots := 2, locals := 52 } : Room) #[(.ref xs), (.ref xa)] h0 (Q_rI1_2 Z xs xa xk xz xu xv xc0 xc1 h0) := by
  refine oCon.of (plainFor_of_name pn_1) ?_
  intro p e s m below meth c T X hx hby hml hown hnm hret hlk hZ e0
  have hml : c.maxLocals = 2 := hml
  have K : oKp h0 h0 [xs] [] := oKp.nil _ _
  refine oWk.cast (g' := (mkF m 0 #[rv xs, rv xa] [])) (by first | rfl | (simp [entryFrame, mkF, argsToLocals, Value.category]; done)) ?_
  refine oWk.st (fun _ kt => XS.aloadN X.here hx rfl (hb hby d1_0) rfl rfl kt) ?_
  show oWk _ _ _ _ T (mkF m 1 #[rv xs, rv xa] [(.ref xs)])
  refine oWk.st (fun _ kt => XS.aloadN X.here hx rfl (hb hby d1_1) rfl rfl kt) ?_
  show oWk _ _ _ _ T (mkF m 2 #[rv xs, rv xa] [(.ref xa), (.ref xs)])
  refine oWk.st (fun _ kt => XS.iconst X.here hx rfl (hb hby d1_2) kt) ?_
  show oWk _ _ _ _ T (mkF m 3 #[rv xs, rv xa] [(.int 0), (.ref xa), (.ref xs)])
  refine oWk.st (fun _ kt => XS.aloadN X.here hx rfl (hb hby d1_3) rfl rfl kt) ?_
  show oWk _ _ _ _ T (mkF m 4 #[rv xs, rv xa] [(.ref xa), (.int 0), (.ref xa), (.ref xs)])
  obtain ⟨cl1, Ar1, q1, Sz1, Nn1, Hs1, Ft1⟩ := id V_xa
  refine oWk.st (fun _ kt => X.arraylength hx (by rw [e0]; exact Ar1.1) (State.isArrayOf_alike hZ.alike Ar1.2.1) (g := (mkF m 4 #[rv xs, rv xa] [(.ref xa), (.int 0), (.ref xa), (.ref xs)])) rfl rfl (hb hby d1_4) _ kt) ?_
  rw [len_of Sz1 Nn1]
  show oWk _ _ _ _ T (mkF m 5 #[rv xs, rv xa] [(.int 2), (.int 0), (.ref xa), (.ref xs)])
  refine oWk.st (fun _ kt => XS.aconstNull X.here hx rfl (hb hby d1_5) kt) ?_
  show oWk _ _ _ _ T (mkF m 6 #[rv xs, rv xa] [.null, (.int 2), (.int 0), (.ref xa), (.ref xs)])
  have lt_xs := E_xs.lt
  have lt_xa := V_xa.lt
  have Oh := K.old O0 (allS og_xs all0)
  obtain ⟨_, _, ⟨T, L3, k3, n3⟩, -, X, ⟨Lc3, hQ, l3, y3, z3⟩, st⟩ := X.specialBack hx (y := yy3) rfl hown (mvT hZ (oW hw 10 rfl)) (mvT hZ (oW hw 11 rfl)) (mvT hZ (oW hw 13 rfl)) (by decide) (backOf (W := 0) (rI4_2 l Z a0 hw [] xs xa xk xz xu xv xc0 xc1 h0 Oh S_COMPACT_STRINGS hz og_xs E_xs F_value_xs F_coder_xs V_xa hc0_ hc1_) hZ (oW hw 13 rfl) (oW hw 6 rfl) (by decide) (by decide)) (g := (mkF m 6 #[rv xs, rv xa] [.null, (.int 2), (.int 0), (.ref xa), (.ref xs)])) rfl (by rw [hml]; rfl) (Steps.refl _) (a := xs) (argsL := [(.ref xa), (.int (0 : Int32)), (.int (2 : Int32)), .null]) (rest := []) (lenOf pd_3 rfl) rfl (by show 2 * 0 + _ ≤ _; exact Nat.le_of_eq rfl) (hb hby d1_6) (fun _ _ => ⟨rfl, e0, (by decide : 0 + 1 ≤ _), (by decide : 0 + 2 ≤ _)⟩)
  dsimp only [Pt.U, Pt.locs, Pt.cells, Pt.slots] at X l3 y3 z3 st hQ
  subst l3 y3 z3
  obtain ⟨h, e0⟩ : ∃ z, T.heap = z := ⟨_, rfl⟩
  rw [e0] at hQ
  obtain ⟨nb2, nk2, rfl, K2, E_xs, F_coder_xs, F_value_xs, gn_nb2, V_nb2⟩ := hQ
  have ge_nb2 := Nat.le_trans K.le gn_nb2
  have ne_xs_nb2 : xs ≠ nb2 := Nat.ne_of_lt (Nat.lt_of_lt_of_le lt_xs gn_nb2)
  have ne_xa_nb2 : xa ≠ nb2 := Nat.ne_of_lt (Nat.lt_of_lt_of_le lt_xa gn_nb2)
  have K := K.call K2 (allS (Or.inl (List.mem_of_getElem? (i := 0) rfl)) all0)
  refine oWk.tr st ?_
  show oWk _ _ _ _ T (mkF m 9 #[rv xs, rv xa] [])
  exact oRetV X hx hlk hret (hb hby d1_9) (by rw [e0]; exact ⟨nb2, nk2, rfl, K, E_xs, F_coder_xs, F_value_xs, ge_nb2, V_nb2⟩) (by decide) (by decide)
def Q_rRec (Z : State) (xa : Addr) (h0 : Heap) (v : Option Value) (h : Heap) (L : List Loc) : Prop := v = none ∧ h = h0 ∧ oKp h0 h [] L
theorem pn_2 : plainName "java/lang/Record" = true := by first | (simp [plainName, overriddenIn]; done) | decide +kernel
abbrev yy5 : MethodName := ⟨"java/lang/Record", "<init>", "()V"⟩
theorem d8_0 : decode jdk_30_method_1_code 0 = .ok (.aload_n 0, 1) := by decide +kernel
theorem d8_1 : decode jdk_30_method_1_code 1 = .ok (.invokespecial 1, 3) := by decide +kernel
theorem d8_4 : decode jdk_30_method_1_code 4 = .ok (.return_, 1) := by decide +kernel
set_option maxRecDepth 65536 in
set_option maxHeartbeats 40000000 in
theorem rRec (l : Launch) (Z : State) (a0 : Array Value) (hw : ∀ d ∈ tables_1, d.before a0 Z = true) (ws : List Jvm.Cond) (xa : Addr) (h0 : Heap) (O0 : Ext Z.heap h0)  :
    oCon l Z yy5 jdk_30_method_1_code 1 none ws ({ frames := 1, cells := 0, slots := 0, locals := 12 } : Room) #[(.ref xa)] h0 (Q_rRec Z xa h0) := by
  refine oCon.of (plainFor_of_name pn_2) ?_
  intro p e s m below meth c T X hx hby hml hown hnm hret hlk hZ e0
  have hml : c.maxLocals = 1 := hml
  have K : oKp h0 h0 [] [] := oKp.nil _ _
  refine oWk.cast (g' := (mkF m 0 #[rv xa] [])) (by first | rfl | (simp [entryFrame, mkF, argsToLocals, Value.category]; done)) ?_
  refine oWk.st (fun _ kt => XS.aloadN X.here hx rfl (hb hby d8_0) rfl rfl kt) ?_
  show oWk _ _ _ _ T (mkF m 1 #[rv xa] [(.ref xa)])
  obtain ⟨T, X, e0, st⟩ := initO X hx hZ hown (oW hw 45 rfl) (oW hw 15 rfl) (oW hw 16 rfl) e0 (g := (mkF m 1 #[rv xa] [(.ref xa)])) rfl (by rw [hml]; rfl) rfl (hb hby d8_1) (by decide) (W := 0) (by show 2 * 0 + _ ≤ _; exact Nat.le_of_eq rfl) (by decide)
  refine oWk.st st ?_
  show oWk _ _ _ _ T (mkF m 4 #[rv xa] [])
  exact oRetV X hx hlk hret (hb hby d8_4) (by rw [e0]; exact ⟨rfl, rfl, K⟩) (by decide) (by decide)
def Q_rPI (Z : State) (xa : Addr) (xs : Addr) (xl : Int32) (xv : Addr) (xm : Addr) (u1 : Value) (u2 : Value) (u3 : Value) (u4 : Value) (h0 : Heap) (v : Option Value) (h : Heap) (L : List Loc) : Prop := v = none ∧ oKp h0 h [xa] L ∧ (Exa Z h xa "com/example/modwright/modwright/packages/PackageProblem") ∧ (Fld Z h xa "com/example/modwright/modwright/packages/PackageProblem" "source" "Ljava/lang/String;" (.ref xs)) ∧ (Fld Z h xa "com/example/modwright/modwright/packages/PackageProblem" "line" "I" (.int xl)) ∧ (Fld Z h xa "com/example/modwright/modwright/packages/PackageProblem" "severity" "Lcom/example/modwright/modwright/packages/PackageProblem$Severity;" (.ref xv)) ∧ (Fld Z h xa "com/example/modwright/modwright/packages/PackageProblem" "message" "Ljava/lang/String;" (.ref xm))
theorem pn_3 : plainName "com/example/modwright/modwright/packages/PackageProblem" = true := by first | (simp [plainName, overriddenIn]; done) | decide +kernel
abbrev yy6 : MethodName := ⟨"com/example/modwright/modwright/packages/PackageProblem", "<init>", "(Ljava/lang/String;ILcom/example/modwright/modwright/packages/PackageProblem$Severity;Ljava/lang/String;)V"⟩
theorem d7_0 : decode prog_29_method_1_code 0 = .ok (.aload_n 0, 1) := by decide +kernel
theorem d7_1 : decode prog_29_method_1_code 1 = .ok (.invokespecial 1, 3) := by decide +kernel
theorem pd_4 : parseMethodDescriptor "()V" = some ⟨[], none⟩ := by decide +kernel
theorem d7_4 : decode prog_29_method_1_code 4 = .ok (.aconst_null, 1) := by decide +kernel
theorem d7_5 : decode prog_29_method_1_code 5 = .ok (.aload_n 1, 1) := by decide +kernel
theorem d7_6 : decode prog_29_method_1_code 6 = .ok (.if_acmp .eq 14, 3) := by decide +kernel
theorem d7_9 : decode prog_29_method_1_code 9 = .ok (.aconst_null, 1) := by decide +kernel
theorem d7_10 : decode prog_29_method_1_code 10 = .ok (.aload_n 3, 1) := by decide +kernel
theorem d7_11 : decode prog_29_method_1_code 11 = .ok (.if_acmp .eq 9, 3) := by decide +kernel
theorem d7_14 : decode prog_29_method_1_code 14 = .ok (.aconst_null, 1) := by decide +kernel
theorem d7_15 : decode prog_29_method_1_code 15 = .ok (.aload 4, 2) := by decide +kernel
theorem d7_17 : decode prog_29_method_1_code 17 = .ok (.if_acmp .ne 24, 3) := by decide +kernel
theorem d7_41 : decode prog_29_method_1_code 41 = .ok (.iconst 0, 1) := by decide +kernel
theorem d7_42 : decode prog_29_method_1_code 42 = .ok (.iload_n 2, 1) := by decide +kernel
theorem d7_43 : decode prog_29_method_1_code 43 = .ok (.if_icmp .le 17, 3) := by decide +kernel
theorem d7_60 : decode prog_29_method_1_code 60 = .ok (.aload_n 0, 1) := by decide +kernel
theorem d7_61 : decode prog_29_method_1_code 61 = .ok (.aload_n 1, 1) := by decide +kernel
theorem d7_62 : decode prog_29_method_1_code 62 = .ok (.putfield 28, 3) := by decide +kernel
theorem d7_65 : decode prog_29_method_1_code 65 = .ok (.aload_n 0, 1) := by decide +kernel
theorem d7_66 : decode prog_29_method_1_code 66 = .ok (.iload_n 2, 1) := by decide +kernel
theorem d7_67 : decode prog_29_method_1_code 67 = .ok (.putfield 34, 3) := by decide +kernel
theorem d7_70 : decode prog_29_method_1_code 70 = .ok (.aload_n 0, 1) := by decide +kernel
theorem d7_71 : decode prog_29_method_1_code 71 = .ok (.aload_n 3, 1) := by decide +kernel
theorem d7_72 : decode prog_29_method_1_code 72 = .ok (.putfield 38, 3) := by decide +kernel
theorem d7_75 : decode prog_29_method_1_code 75 = .ok (.aload_n 0, 1) := by decide +kernel
theorem d7_76 : decode prog_29_method_1_code 76 = .ok (.aload 4, 2) := by decide +kernel
theorem d7_78 : decode prog_29_method_1_code 78 = .ok (.putfield 42, 3) := by decide +kernel
theorem d7_81 : decode prog_29_method_1_code 81 = .ok (.return_, 1) := by decide +kernel
set_option maxRecDepth 65536 in
set_option maxHeartbeats 40000000 in
theorem rPI (l : Launch) (Z : State) (a0 : Array Value) (hw : ∀ d ∈ tables_1, d.before a0 Z = true) (ws : List Jvm.Cond) (xa : Addr) (xs : Addr) (xl : Int32) (xv : Addr) (xm : Addr) (u1 : Value) (u2 : Value) (u3 : Value) (u4 : Value) (h0 : Heap) (O0 : Ext Z.heap h0) (og_xa : Z.heap.size ≤ xa) (E_xa : Exa Z h0 xa "com/example/modwright/modwright/packages/PackageProblem") (F_source_xa : Fld Z h0 xa "com/example/modwright/modwright/packages/PackageProblem" "source" "Ljava/lang/String;" u1) (F_line_xa : Fld Z h0 xa "com/example/modwright/modwright/packages/PackageProblem" "line" "I" u2) (F_severity_xa : Fld Z h0 xa "com/example/modwright/modwright/packages/PackageProblem" "severity" "Lcom/example/modwright/modwright/packages/PackageProblem$Severity;" u3) (F_message_xa : Fld Z h0 xa "com/example/modwright/modwright/packages/PackageProblem" "message" "Ljava/lang/String;" u4) (hl : ¬ xl < (0 : Int32)) :
    oCon l Z yy6 prog_29_method_1_code 5 none ws ({ frames := 2, cells := 0, slots := 0, locals := 24 } : Room) #[(.ref xa), (.ref xs), (.int xl), (.ref xv), (.ref xm)] h0 (Q_rPI Z xa xs xl xv xm u1 u2 u3 u4 h0) := by
  refine oCon.of (plainFor_of_name pn_3) ?_
  intro p e s m below meth c T X hx hby hml hown hnm hret hlk hZ e0
  have hml : c.maxLocals = 5 := hml
  have K : oKp h0 h0 [xa] [] := oKp.nil _ _
  refine oWk.cast (g' := (mkF m 0 #[rv xa, rv xs, iv xl, rv xv, rv xm] [])) (by first | rfl | (simp [entryFrame, mkF, argsToLocals, Value.category]; done)) ?_
  refine oWk.st (fun _ kt => XS.aloadN X.here hx rfl (hb hby d7_0) rfl rfl kt) ?_
  show oWk _ _ _ _ T (mkF m 1 #[rv xa, rv xs, iv xl, rv xv, rv xm] [(.ref xa)])
  have Oh := K.old O0 (allS og_xa all0)
  obtain ⟨_, _, ⟨T, L2, k2, n2⟩, -, X, ⟨Lc2, hQ, l2, y2, z2⟩, st⟩ := X.specialBack hx (y := yy5) rfl hown (mvT hZ (oW hw 40 rfl)) (mvT hZ (oW hw 41 rfl)) (mvT hZ (oW hw 44 rfl)) (by decide) (backOf (W := 0) (rRec l Z a0 hw [] xa h0 Oh ) hZ (oW hw 44 rfl) (oW hw 43 rfl) (by decide) (by decide)) (g := (mkF m 1 #[rv xa, rv xs, iv xl, rv xv, rv xm] [(.ref xa)])) rfl (by rw [hml]; rfl) (Steps.refl _) (a := xa) (argsL := []) (rest := []) (lenOf pd_4 rfl) rfl (by show 2 * 0 + _ ≤ _; exact Nat.le_of_eq rfl) (hb hby d7_1) (fun _ _ => ⟨rfl, e0, (by decide : 0 + 0 ≤ _), (by decide : 0 + 0 ≤ _)⟩)
  dsimp only [Pt.U, Pt.locs, Pt.cells, Pt.slots] at X l2 y2 z2 st hQ
  subst l2 y2 z2
  obtain ⟨rfl, e0, K1⟩ := hQ
  have K := K.call K1 all0
  rw [e0] at K
  refine oWk.tr st ?_
  show oWk _ _ _ _ T (mkF m 4 #[rv xa, rv xs, iv xl, rv xv, rv xm] [])
  refine oWk.st (fun _ kt => XS.aconstNull X.here hx rfl (hb hby d7_4) kt) ?_
  show oWk _ _ _ _ T (mkF m 5 #[rv xa, rv xs, iv xl, rv xv, rv xm] [.null])
  refine oWk.st (fun _ kt => XS.aloadN X.here hx rfl (hb hby d7_5) rfl rfl kt) ?_
  show oWk _ _ _ _ T (mkF m 6 #[rv xa, rv xs, iv xl, rv xv, rv xm] [(.ref xs), .null])
  refine oWk.st (fun _ kt => Jvm.RoadKit.acmp (g := (mkF m 6 #[rv xa, rv xs, iv xl, rv xv, rv xm] [(.ref xs), .null])) X hx rfl rfl rfl (pc0 := 6) (pc' := 9) (same := false) rfl (hb hby d7_6) rfl (decide_eq_false nofun) (by decide) (by decide) kt) ?_
  show oWk _ _ _ _ T (mkF m 9 #[rv xa, rv xs, iv xl, rv xv, rv xm] [])
  refine oWk.st (fun _ kt => XS.aconstNull X.here hx rfl (hb hby d7_9) kt) ?_
  show oWk _ _ _ _ T (mkF m 10 #[rv xa, rv xs, iv xl, rv xv, rv xm] [.null])
  refine oWk.st (fun _ kt => XS.aloadN X.here hx rfl (hb hby d7_10) rfl rfl kt) ?_
  show oWk _ _ _ _ T (mkF m 11 #[rv xa, rv xs, iv xl, rv xv, rv xm] [(.ref xv), .null])
  refine oWk.st (fun _ kt => Jvm.RoadKit.acmp (g := (mkF m 11 #[rv xa, rv xs, iv xl, rv xv, rv xm] [(.ref xv), .null])) X hx rfl rfl rfl (pc0 := 11) (pc' := 14) (same := false) rfl (hb hby d7_11) rfl (decide_eq_false nofun) (by decide) (by decide) kt) ?_
  show oWk _ _ _ _ T (mkF m 14 #[rv xa, rv xs, iv xl, rv xv, rv xm] [])
  refine oWk.st (fun _ kt => XS.aconstNull X.here hx rfl (hb hby d7_14) kt) ?_
  show oWk _ _ _ _ T (mkF m 15 #[rv xa, rv xs, iv xl, rv xv, rv xm] [.null])
  refine oWk.st (fun _ kt => XS.aload X.here hx rfl (hb hby d7_15) rfl rfl kt) ?_
  show oWk _ _ _ _ T (mkF m 17 #[rv xa, rv xs, iv xl, rv xv, rv xm] [(.ref xm), .null])
  refine oWk.st (fun _ kt => Jvm.RoadKit.acmp (g := (mkF m 17 #[rv xa, rv xs, iv xl, rv xv, rv xm] [(.ref xm), .null])) X hx rfl rfl rfl (pc0 := 17) (pc' := 41) (same := false) rfl (hb hby d7_17) rfl (decide_eq_false nofun) (by decide) (by decide) kt) ?_
  show oWk _ _ _ _ T (mkF m 41 #[rv xa, rv xs, iv xl, rv xv, rv xm] [])
  refine oWk.st (fun _ kt => XS.iconst X.here hx rfl (hb hby d7_41) kt) ?_
  show oWk _ _ _ _ T (mkF m 42 #[rv xa, rv xs, iv xl, rv xv, rv xm] [(.int 0)])
  refine oWk.st (fun _ kt => XS.iloadN X.here hx rfl (hb hby d7_42) rfl kt) ?_
  show oWk _ _ _ _ T (mkF m 43 #[rv xa, rv xs, iv xl, rv xv, rv xm] [(.int xl), (.int 0)])
  refine oWk.st (fun _ kt => XS.icmpYes X.here hx rfl (pc0 := 43) (pc' := 60) rfl (hb hby d7_43) rfl (flt hl).2.2.2 (by decide) (by decide) kt) ?_
  show oWk _ _ _ _ T (mkF m 60 #[rv xa, rv xs, iv xl, rv xv, rv xm] [])
  refine oWk.st (fun _ kt => XS.aloadN X.here hx rfl (hb hby d7_60) rfl rfl kt) ?_
  show oWk _ _ _ _ T (mkF m 61 #[rv xa, rv xs, iv xl, rv xv, rv xm] [(.ref xa)])
  refine oWk.st (fun _ kt => XS.aloadN X.here hx rfl (hb hby d7_61) rfl rfl kt) ?_
  show oWk _ _ _ _ T (mkF m 62 #[rv xa, rv xs, iv xl, rv xv, rv xm] [(.ref xs), (.ref xa)])
  obtain ⟨T, h, X, e0, W3, st⟩ := putF X hx hZ hown (host := "") (Or.inl (oW hw 46 rfl)) Via.refl e0 F_source_xa E_xa (Or.inr ⟨(oW hw 47 rfl), rfl, hnm⟩) (oW hw 35 rfl) (ty := (.object "java/lang/String")) (by decide) rfl rfl (g := (mkF m 62 #[rv xa, rv xs, iv xl, rv xv, rv xm] [(.ref xs), (.ref xa)])) rfl rfl (hb hby d7_62)
  refine oWk.st st ?_
  have K := K.wr W3 (Or.inl (List.mem_of_getElem? (i := 0) rfl))
  have F_source_xa := F_source_xa.same W3
  show oWk _ _ _ _ T (mkF m 65 #[rv xa, rv xs, iv xl, rv xv, rv xm] [])
  refine oWk.st (fun _ kt => XS.aloadN X.here hx rfl (hb hby d7_65) rfl rfl kt) ?_
  show oWk _ _ _ _ T (mkF m 66 #[rv xa, rv xs, iv xl, rv xv, rv xm] [(.ref xa)])
  refine oWk.st (fun _ kt => XS.iloadN X.here hx rfl (hb hby d7_66) rfl kt) ?_
  show oWk _ _ _ _ T (mkF m 67 #[rv xa, rv xs, iv xl, rv xv, rv xm] [(.int xl), (.ref xa)])
  have E_xa := (E_xa.wr W3)
  have F_line_xa := (F_line_xa.other W3 (Or.inr (slot_ne (Or.inr (oW hw 49 rfl)) (Or.inr (oW hw 47 rfl)) (by decide) (t := .int) (t' := (.object "java/lang/String")) (by decide) (by decide))))
  obtain ⟨T, h, X, e0, W4, st⟩ := putF X hx hZ hown (host := "") (Or.inl (oW hw 48 rfl)) Via.refl e0 F_line_xa E_xa (Or.inr ⟨(oW hw 49 rfl), rfl, hnm⟩) (oW hw 35 rfl) (ty := .int) (by decide) rfl rfl (g := (mkF m 67 #[rv xa, rv xs, iv xl, rv xv, rv xm] [(.int xl), (.ref xa)])) rfl rfl (hb hby d7_67)
  refine oWk.st st ?_
  have K := K.wr W4 (Or.inl (List.mem_of_getElem? (i := 0) rfl))
  have F_line_xa := F_line_xa.same W4
  show oWk _ _ _ _ T (mkF m 70 #[rv xa, rv xs, iv xl, rv xv, rv xm] [])
  refine oWk.st (fun _ kt => XS.aloadN X.here hx rfl (hb hby d7_70) rfl rfl kt) ?_
  show oWk _ _ _ _ T (mkF m 71 #[rv xa, rv xs, iv xl, rv xv, rv xm] [(.ref xa)])
  refine oWk.st (fun _ kt => XS.aloadN X.here hx rfl (hb hby d7_71) rfl rfl kt) ?_
  show oWk _ _ _ _ T (mkF m 72 #[rv xa, rv xs, iv xl, rv xv, rv xm] [(.ref xv), (.ref xa)])
  have E_xa := (E_xa.wr W4)
  have F_severity_xa := ((F_severity_xa.other W3 (Or.inr (slot_ne (Or.inr (oW hw 51 rfl)) (Or.inr (oW hw 47 rfl)) (by decide) (t := (.object "com/example/modwright/modwright/packages/PackageProblem$Severity")) (t' := (.object "java/lang/String")) (by decide) (by decide)))).other W4 (Or.inr (slot_ne (Or.inr (oW hw 51 rfl)) (Or.inr (oW hw 49 rfl)) (by decide) (t := (.object "com/example/modwright/modwright/packages/PackageProblem$Severity")) (t' := .int) (by decide) (by decide))))
  obtain ⟨T, h, X, e0, W5, st⟩ := putF X hx hZ hown (host := "") (Or.inl (oW hw 50 rfl)) Via.refl e0 F_severity_xa E_xa (Or.inr ⟨(oW hw 51 rfl), rfl, hnm⟩) (oW hw 35 rfl) (ty := (.object "com/example/modwright/modwright/packages/PackageProblem$Severity")) (by decide) rfl rfl (g := (mkF m 72 #[rv xa, rv xs, iv xl, rv xv, rv xm] [(.ref xv), (.ref xa)])) rfl rfl (hb hby d7_72)
  refine oWk.st st ?_
  have K := K.wr W5 (Or.inl (List.mem_of_getElem? (i := 0) rfl))
  have F_severity_xa := F_severity_xa.same W5
  show oWk _ _ _ _ T (mkF m 75 #[rv xa, rv xs, iv xl, rv xv, rv xm] [])
  refine oWk.st (fun _ kt => XS.aloadN X.here hx rfl (hb hby d7_75) rfl rfl kt) ?_
  show oWk _ _ _ _ T (mkF m 76 #[rv xa, rv xs, iv xl, rv xv, rv xm] [(.ref xa)])
  refine oWk.st (fun _ kt => XS.aload X.here hx rfl (hb hby d7_76) rfl rfl kt) ?_
  show oWk _ _ _ _ T (mkF m 78 #[rv xa, rv xs, iv xl, rv xv, rv xm] [(.ref xm), (.ref xa)])
  have E_xa := (E_xa.wr W5)
  have F_message_xa := (((F_message_xa.other W3 (Or.inr (slot_ne (Or.inr (oW hw 53 rfl)) (Or.inr (oW hw 47 rfl)) (by decide) (t := (.object "java/lang/String")) (t' := (.object "java/lang/String")) (by decide) (by decide)))).other W4 (Or.inr (slot_ne (Or.inr (oW hw 53 rfl)) (Or.inr (oW hw 49 rfl)) (by decide) (t := (.object "java/lang/String")) (t' := .int) (by decide) (by decide)))).other W5 (Or.inr (slot_ne (Or.inr (oW hw 53 rfl)) (Or.inr (oW hw 51 rfl)) (by decide) (t := (.object "java/lang/String")) (t' := (.object "com/example/modwright/modwright/packages/PackageProblem$Severity")) (by decide) (by decide))))
  obtain ⟨T, h, X, e0, W6, st⟩ := putF X hx hZ hown (host := "") (Or.inl (oW hw 52 rfl)) Via.refl e0 F_message_xa E_xa (Or.inr ⟨(oW hw 53 rfl), rfl, hnm⟩) (oW hw 35 rfl) (ty := (.object "java/lang/String")) (by decide) rfl rfl (g := (mkF m 78 #[rv xa, rv xs, iv xl, rv xv, rv xm] [(.ref xm), (.ref xa)])) rfl rfl (hb hby d7_78)
  refine oWk.st st ?_
  have K := K.wr W6 (Or.inl (List.mem_of_getElem? (i := 0) rfl))
  have F_message_xa := F_message_xa.same W6
  show oWk _ _ _ _ T (mkF m 81 #[rv xa, rv xs, iv xl, rv xv, rv xm] [])
  have E_xa := (E_xa.wr W6)
  have F_source_xa := (((F_source_xa.other W4 (Or.inr (slot_ne (Or.inr (oW hw 47 rfl)) (Or.inr (oW hw 49 rfl)) (by decide) (t := (.object "java/lang/String")) (t' := .int) (by decide) (by decide)))).other W5 (Or.inr (slot_ne (Or.inr (oW hw 47 rfl)) (Or.inr (oW hw 51 rfl)) (by decide) (t := (.object "java/lang/String")) (t' := (.object "com/example/modwright/modwright/packages/PackageProblem$Severity")) (by decide) (by decide)))).other W6 (Or.inr (slot_ne (Or.inr (oW hw 47 rfl)) (Or.inr (oW hw 53 rfl)) (by decide) (t := (.object "java/lang/String")) (t' := (.object "java/lang/String")) (by decide) (by decide))))
  have F_line_xa := ((F_line_xa.other W5 (Or.inr (slot_ne (Or.inr (oW hw 49 rfl)) (Or.inr (oW hw 51 rfl)) (by decide) (t := .int) (t' := (.object "com/example/modwright/modwright/packages/PackageProblem$Severity")) (by decide) (by decide)))).other W6 (Or.inr (slot_ne (Or.inr (oW hw 49 rfl)) (Or.inr (oW hw 53 rfl)) (by decide) (t := .int) (t' := (.object "java/lang/String")) (by decide) (by decide))))
  have F_severity_xa := (F_severity_xa.other W6 (Or.inr (slot_ne (Or.inr (oW hw 51 rfl)) (Or.inr (oW hw 53 rfl)) (by decide) (t := (.object "com/example/modwright/modwright/packages/PackageProblem$Severity")) (t' := (.object "java/lang/String")) (by decide) (by decide))))
  exact oRetV X hx hlk hret (hb hby d7_81) (by rw [e0]; exact ⟨rfl, K, E_xa, F_source_xa, F_line_xa, F_severity_xa, F_message_xa⟩) (by decide) (by decide)
def Q_rIE (Z : State) (xa : Addr) (xe : Addr) (xv : Addr) (h0 : Heap) (v : Option Value) (h : Heap) (L : List Loc) : Prop := v = some (.int (oBi (xe = xv))) ∧ h = h0 ∧ oKp h0 h [] L
abbrev yy7 : MethodName := ⟨"com/example/modwright/modwright/packages/PackageProblem", "isError", "()Z"⟩
theorem d9_0 : decode prog_29_method_2_code 0 = .ok (.getstatic 45, 3) := by decide +kernel
theorem d9_3 : decode prog_29_method_2_code 3 = .ok (.aload_n 0, 1) := by decide +kernel
theorem d9_4 : decode prog_29_method_2_code 4 = .ok (.getfield 38, 3) := by decide +kernel
theorem d9_7 : decode prog_29_method_2_code 7 = .ok (.if_acmp .ne 7, 3) := by decide +kernel
theorem d9_10 : decode prog_29_method_2_code 10 = .ok (.iconst 1, 1) := by decide +kernel
theorem d9_11 : decode prog_29_method_2_code 11 = .ok (.goto 4, 3) := by decide +kernel
theorem d9_15 : decode prog_29_method_2_code 15 = .ok (.ireturn, 1) := by decide +kernel
theorem d9_14 : decode prog_29_method_2_code 14 = .ok (.iconst 0, 1) := by decide +kernel
set_option maxRecDepth 65536 in
set_option maxHeartbeats 40000000 in
theorem rIE (l : Launch) (Z : State) (a0 : Array Value) (hw : ∀ d ∈ tables_1, d.before a0 Z = true) (ws : List Jvm.Cond) (xa : Addr) (xe : Addr) (xv : Addr) (h0 : Heap) (O0 : Ext Z.heap h0) (S_ERROR : Sta Z Z.heap "com/example/modwright/modwright/packages/PackageProblem$Severity" "ERROR" "Lcom/example/modwright/modwright/packages/PackageProblem$Severity;" (.ref xe)) (F_severity_xa : Fld Z h0 xa "com/example/modwright/modwright/packages/PackageProblem" "severity" "Lcom/example/modwright/modwright/packages/PackageProblem$Severity;" (.ref xv)) :
    oCon l Z yy7 prog_29_method_2_code 1 (some .boolean) ws ({ frames := 0, cells := 0, slots := 0, locals := 0 } : Room) #[(.ref xa)] h0 (Q_rIE Z xa xe xv h0) := by
  refine oCon.of (plainFor_of_name pn_3) ?_
  intro p e s m below meth c T X hx hby hml hown hnm hret hlk hZ e0
  have hml : c.maxLocals = 1 := hml
  have K : oKp h0 h0 [] [] := oKp.nil _ _
  refine oWk.cast (g' := (mkF m 0 #[rv xa] [])) (by first | rfl | (simp [entryFrame, mkF, argsToLocals, Value.category]; done)) ?_
  have Oh := K.old O0 all0
  obtain ⟨T, X, e0, st⟩ := getS2 X hx hZ hown (host := "") (Or.inl (oW hw 59 rfl)) Via.refl e0 (S_ERROR.ext Oh) (g := (mkF m 0 #[rv xa] [])) rfl (hb hby d9_0)
  refine oWk.st st ?_
  show oWk _ _ _ _ T (mkF m 3 #[rv xa] [(.ref xe)])
  refine oWk.st (fun _ kt => XS.aloadN X.here hx rfl (hb hby d9_3) rfl rfl kt) ?_
  show oWk _ _ _ _ T (mkF m 4 #[rv xa] [(.ref xa), (.ref xe)])
  obtain ⟨T, X, e0, st⟩ := getF X hx hZ hown (host := "") (Or.inl (oW hw 50 rfl)) Via.refl e0 F_severity_xa (g := (mkF m 4 #[rv xa] [(.ref xa), (.ref xe)])) rfl rfl (hb hby d9_4)
  refine oWk.st st ?_
  show oWk _ _ _ _ T (mkF m 7 #[rv xa] [(.ref xv), (.ref xe)])
  by_cases hc7 : xe = xv
  · refine oWk.st (fun _ kt => Jvm.RoadKit.acmp (g := (mkF m 7 #[rv xa] [(.ref xv), (.ref xe)])) X hx rfl rfl rfl (pc0 := 7) (pc' := 10) (same := true) rfl (hb hby d9_7) rfl (decide_eq_true (congrArg Value.ref hc7)) (by decide) (by decide) kt) ?_
    show oWk _ _ _ _ T (mkF m 10 #[rv xa] [])
    refine oWk.st (fun _ kt => XS.iconst X.here hx rfl (hb hby d9_10) kt) ?_
    show oWk _ _ _ _ T (mkF m 11 #[rv xa] [(.int 1)])
    refine oWk.st (fun _ kt => XS.goto X.here hx rfl (pc0 := 11) (pc' := 15) rfl (hb hby d9_11) (by decide) (by decide) kt) ?_
    show oWk _ _ _ _ T (mkF m 15 #[rv xa] [(.int 1)])
    exact oRetZ X hx hlk hret (hb hby d9_15) (Or.inr rfl) (by rw [e0]; exact ⟨(by rw [oBi_t hc7]), rfl, K⟩) (by decide) (by decide)
  · refine oWk.st (fun _ kt => Jvm.RoadKit.acmp (g := (mkF m 7 #[rv xa] [(.ref xv), (.ref xe)])) X hx rfl rfl rfl (pc0 := 7) (pc' := 14) (same := false) rfl (hb hby d9_7) rfl (decide_eq_false fun q => hc7 (Value.ref.inj q)) (by decide) (by decide) kt) ?_
    show oWk _ _ _ _ T (mkF m 14 #[rv xa] [])
    refine oWk.st (fun _ kt => XS.iconst X.here hx rfl (hb hby d9_14) kt) ?_
    show oWk _ _ _ _ T (mkF m 15 #[rv xa] [(.int 0)])
    exact oRetZ X hx hlk hret (hb hby d9_15) (Or.inl rfl) (by rw [e0]; exact ⟨(by rw [oBi_f (fun q => hc7 q)]), rfl, K⟩) (by decide) (by decide)
theorem oPos (x : Int32) : ¬ (x &&& 2147483647) < (0 : Int32) := fun q => by
  have r : (x &&& 2147483647).toInt < (0 : Int32).toInt := Int32.lt_iff_toInt_lt.mp q
  have s : (0 : Int32).toInt = 0 := by decide
  have t := c_mask x 2147483647 31 (by decide) (by decide)
  omega
def Q_rLaw (Z : State) (p0 : Int32) (p1 : Int32) (p2 : Int32) (p3 : Int32) (er : Addr) (wa : Addr) (xz : Int32) (h0 : Heap) (v : Option Value) (h : Heap) (L : List Loc) : Prop := v = some (.int (1 : Int32)) ∧ Fr h0.size L
theorem pn_4 : plainName "com/example/modwright/modwright/packages/PackageProblemIsErrorPinLaw" = true := by first | (simp [plainName, overriddenIn]; done) | decide +kernel
theorem pd_5 : parseMethodDescriptor "([C)V" = some ⟨[(.array .char)], none⟩ := by decide +kernel
theorem pd_6 : parseMethodDescriptor "(Ljava/lang/String;ILcom/example/modwright/modwright/packages/PackageProblem$Severity;Ljava/lang/String;)V" = some ⟨[(.object "java/lang/String"), .int, (.object "com/example/modwright/modwright/packages/PackageProblem$Severity"), (.object "java/lang/String")], none⟩ := by decide +kernel
theorem pd_7 : parseMethodDescriptor "()Z" = some ⟨[], some .boolean⟩ := by decide +kernel
set_option maxRecDepth 65536 in
set_option maxHeartbeats 40000000 in
theorem rLaw (l : Launch) (Z : State) (a0 : Array Value) (hw : ∀ d ∈ tables_1, d.before a0 Z = true) (ws : List Jvm.Cond) (p0 : Int32) (p1 : Int32) (p2 : Int32) (p3 : Int32) (er : Addr) (wa : Addr) (xz : Int32) (h0 : Heap) (O0 : Ext Z.heap h0) (S_ERROR : Sta Z Z.heap "com/example/modwright/modwright/packages/PackageProblem$Severity" "ERROR" "Lcom/example/modwright/modwright/packages/PackageProblem$Severity;" (.ref er)) (S_WARNING : Sta Z Z.heap "com/example/modwright/modwright/packages/PackageProblem$Severity" "WARNING" "Lcom/example/modwright/modwright/packages/PackageProblem$Severity;" (.ref wa)) (ne_er_wa : er ≠ wa) (S_COMPACT_STRINGS : Sta Z Z.heap "java/lang/String" "COMPACT_STRINGS" "Z" (.int xz)) (hz : ¬ xz = (0 : Int32)) :
    oCon l Z x code maxLocals ret ws room_1 #[(.int p0), (.int p1), (.int p2), (.int p3)] h0 (Q_rLaw Z p0 p1 p2 p3 er wa xz h0) := by
  refine oCon.of (plainFor_of_name pn_4) ?_
  intro p e s m below meth c T X hx hby hml hown hnm hret hlk hZ e0
  have hml : c.maxLocals = 12 := hml
  have K : oKp h0 h0 [] [] := oKp.nil _ _
  refine oWk.cast (g' := (mkF m 0 #[iv p0, iv p1, iv p2, iv p3, uu, uu, uu, uu, uu, uu, uu, uu] [])) (by first | rfl | (simp [entryFrame, mkF, argsToLocals, Value.category, maxLocals]; done)) ?_
  refine oWk.st (fun _ kt => XS.iloadN X.here hx rfl (hb hby at_0) rfl kt) ?_
  show oWk _ _ _ _ T (mkF m 1 #[iv p0, iv p1, iv p2, iv p3, uu, uu, uu, uu, uu, uu, uu, uu] [(.int p0)])
  refine oWk.st (fun _ kt => XS.iconst X.here hx rfl (hb hby at_1) kt) ?_
  show oWk _ _ _ _ T (mkF m 2 #[iv p0, iv p1, iv p2, iv p3, uu, uu, uu, uu, uu, uu, uu, uu] [(.int 1), (.int p0)])
  refine oWk.st (fun _ kt => XS.iand X.here hx rfl (hb hby at_2) rfl kt) ?_
  show oWk _ _ _ _ T (mkF m 3 #[iv p0, iv p1, iv p2, iv p3, uu, uu, uu, uu, uu, uu, uu, uu] [(.int (p0 &&& (1 : Int32)))])
  by_cases hc3 : (p0 &&& (1 : Int32)) = (0 : Int32)
  · refine oWk.st (fun _ kt => XS.ifYes X.here hx rfl (pc0 := 3) (pc' := 10) rfl (hb hby at_3) rfl ((if0 _ _).trans (teq hc3).1) (by decide) (by decide) kt) ?_
    show oWk _ _ _ _ T (mkF m 10 #[iv p0, iv p1, iv p2, iv p3, uu, uu, uu, uu, uu, uu, uu, uu] [])
    refine oWk.st (fun _ kt => XS.iconst X.here hx rfl (hb hby at_10) kt) ?_
    show oWk _ _ _ _ T (mkF m 11 #[iv p0, iv p1, iv p2, iv p3, uu, uu, uu, uu, uu, uu, uu, uu] [(.int 0)])
    refine oWk.st (fun _ kt => XS.istore X.here hx rfl (hb hby at_11) rfl (l' := #[iv p0, iv p1, iv p2, iv p3, iv 0, uu, uu, uu, uu, uu, uu, uu]) rfl kt) ?_
    show oWk _ _ _ _ T (mkF m 13 #[iv p0, iv p1, iv p2, iv p3, iv 0, uu, uu, uu, uu, uu, uu, uu] [])
    refine oWk.st (fun _ kt => XS.iload X.here hx rfl (hb hby at_13) rfl kt) ?_
    show oWk _ _ _ _ T (mkF m 15 #[iv p0, iv p1, iv p2, iv p3, iv 0, uu, uu, uu, uu, uu, uu, uu] [(.int 0)])
    refine oWk.st (fun _ kt => XS.ifYes X.here hx rfl (pc0 := 15) (pc' := 24) rfl (hb hby at_15) rfl ((if0 _ _).trans (teq (by decide)).1) (by decide) (by decide) kt) ?_
    show oWk _ _ _ _ T (mkF m 24 #[iv p0, iv p1, iv p2, iv p3, iv 0, uu, uu, uu, uu, uu, uu, uu] [])
    have Oh := K.old O0 all0
    obtain ⟨T, X, e0, st⟩ := getS2 X hx hZ hown (host := "") (Or.inl (oW hw 0 rfl)) Via.refl e0 (S_WARNING.ext Oh) (g := (mkF m 24 #[iv p0, iv p1, iv p2, iv p3, iv 0, uu, uu, uu, uu, uu, uu, uu] [])) rfl (hb hby at_24)
    refine oWk.st st ?_
    show oWk _ _ _ _ T (mkF m 27 #[iv p0, iv p1, iv p2, iv p3, iv 0, uu, uu, uu, uu, uu, uu, uu] [(.ref wa)])
    refine oWk.st (fun _ kt => XS.astore X.here hx rfl (hb hby at_27) rfl rfl (l' := #[iv p0, iv p1, iv p2, iv p3, iv 0, rv wa, uu, uu, uu, uu, uu, uu]) rfl kt) ?_
    show oWk _ _ _ _ T (mkF m 29 #[iv p0, iv p1, iv p2, iv p3, iv 0, rv wa, uu, uu, uu, uu, uu, uu] [])
    refine oWk.st (fun _ kt => XS.iconst X.here hx rfl (hb hby at_29) kt) ?_
    show oWk _ _ _ _ T (mkF m 30 #[iv p0, iv p1, iv p2, iv p3, iv 0, rv wa, uu, uu, uu, uu, uu, uu] [(.int 2)])
    obtain ⟨sc, g1⟩ : ∃ z, z = h0.size := ⟨_, rfl⟩
    have ge_sc : h0.size ≤ sc := Nat.le_trans K.le (Nat.le_of_eq g1.symm)
    obtain ⟨T, h, k1, X, e0, E1, A1, st⟩ := newP X hx hZ (oW hw 3 rfl) e0 (g := (mkF m 30 #[iv p0, iv p1, iv p2, iv p3, iv 0, rv wa, uu, uu, uu, uu, uu, uu] [(.int 2)])) rfl (hb hby at_30) rfl (by decide) (cap := 2) (by decide) (by decide) (by decide) (by decide)
    rw [← g1] at A1 st
    refine oWk.st st ?_
    have K := K.ext E1
    have V_sc : Arv Z h sc k1 .char (2 : Int32) [(.int (0 : Int32)), (.int (0 : Int32))] (.int (0 : Int32)) := (Arv.new A1 (by decide)).pad (pad_rep [] (.int (0 : Int32)) 2)
    show oWk _ _ _ _ T (mkF m 32 #[iv p0, iv p1, iv p2, iv p3, iv 0, rv wa, uu, uu, uu, uu, uu, uu] [(.ref sc)])
    refine oWk.st (fun _ kt => XS.astore X.here hx rfl (hb hby at_32) rfl rfl (l' := #[iv p0, iv p1, iv p2, iv p3, iv 0, rv wa, rv sc, uu, uu, uu, uu, uu]) rfl kt) ?_
    show oWk _ _ _ _ T (mkF m 34 #[iv p0, iv p1, iv p2, iv p3, iv 0, rv wa, rv sc, uu, uu, uu, uu, uu] [])
    refine oWk.st (fun _ kt => XS.aload X.here hx rfl (hb hby at_34) rfl rfl kt) ?_
    show oWk _ _ _ _ T (mkF m 36 #[iv p0, iv p1, iv p2, iv p3, iv 0, rv wa, rv sc, uu, uu, uu, uu, uu] [(.ref sc)])
    refine oWk.st (fun _ kt => XS.iconst X.here hx rfl (hb hby at_36) kt) ?_
    show oWk _ _ _ _ T (mkF m 37 #[iv p0, iv p1, iv p2, iv p3, iv 0, rv wa, rv sc, uu, uu, uu, uu, uu] [(.int 0), (.ref sc)])
    refine oWk.st (fun _ kt => XS.iloadN X.here hx rfl (hb hby at_37) rfl kt) ?_
    show oWk _ _ _ _ T (mkF m 38 #[iv p0, iv p1, iv p2, iv p3, iv 0, rv wa, rv sc, uu, uu, uu, uu, uu] [(.int p2), (.int 0), (.ref sc)])
    refine oWk.st (fun _ kt => XS.sipush X.here hx rfl (hb hby at_38) kt) ?_
    show oWk _ _ _ _ T (mkF m 41 #[iv p0, iv p1, iv p2, iv p3, iv 0, rv wa, rv sc, uu, uu, uu, uu, uu] [(.int 255), (.int p2), (.int 0), (.ref sc)])
    refine oWk.st (fun _ kt => XS.iand X.here hx rfl (hb hby at_41) rfl kt) ?_
    show oWk _ _ _ _ T (mkF m 42 #[iv p0, iv p1, iv p2, iv p3, iv 0, rv wa, rv sc, uu, uu, uu, uu, uu] [(.int (p2 &&& (255 : Int32))), (.int 0), (.ref sc)])
    refine oWk.st (fun _ kt => XS.i2c X.here hx rfl (hb hby at_42) rfl kt) ?_
    show oWk _ _ _ _ T (mkF m 43 #[iv p0, iv p1, iv p2, iv p3, iv 0, rv wa, rv sc, uu, uu, uu, uu, uu] [(.int ((p2 &&& (255 : Int32)).toUInt32.toUInt16.toUInt32.toInt32)), (.int 0), (.ref sc)])
    rw [oChr (oM255 _)]
    show oWk _ _ _ _ T (mkF m 43 #[iv p0, iv p1, iv p2, iv p3, iv 0, rv wa, rv sc, uu, uu, uu, uu, uu] [(.int (p2 &&& (255 : Int32))), (.int 0), (.ref sc)])
    generalize hg43 : (p2 &&& (255 : Int32)) = ch43
    have hr43 := oM255 p2
    rw [hg43] at hr43
    show oWk _ _ _ _ T (mkF m 43 #[iv p0, iv p1, iv p2, iv p3, iv 0, rv wa, rv sc, uu, uu, uu, uu, uu] [(.int ch43), (.int 0), (.ref sc)])
    obtain ⟨cl2, Ar2, q2, Sz2, Nn2, Hs2, Ft2⟩ := id V_sc
    have hin2 : ¬ ((0 : Int32) < 0 ∨ cl2.slots.size ≤ ((0 : Int32)).toNatClampNeg) := inb_of Sz2 ⟨by decide, by decide⟩
    obtain ⟨T, h, X, e0, W2, st⟩ := stC X hx hZ e0 Ar2 (j := (0 : Int32)) hin2 (g := (mkF m 43 #[iv p0, iv p1, iv p2, iv p3, iv 0, rv wa, rv sc, uu, uu, uu, uu, uu] [(.int ch43), (.int 0), (.ref sc)])) rfl rfl (hb hby at_43)
    refine oWk.st st ?_
    have K := K.wr W2 (Or.inr ge_sc)
    have V_sc := Arv.set Ar2 q2 Sz2 Nn2 Hs2 Ft2 (fits_nar_char _) W2 0 rfl (Nat.le_of_ble_eq_true rfl)
    rw [show nar .char ch43 = ch43 from oChr hr43] at V_sc
    replace V_sc : Arv Z h sc k1 .char (2 : Int32) [(.int ch43), (.int (0 : Int32))] (.int (0 : Int32)) := V_sc
    show oWk _ _ _ _ T (mkF m 44 #[iv p0, iv p1, iv p2, iv p3, iv 0, rv wa, rv sc, uu, uu, uu, uu, uu] [])
    refine oWk.st (fun _ kt => XS.aload X.here hx rfl (hb hby at_44) rfl rfl kt) ?_
    show oWk _ _ _ _ T (mkF m 46 #[iv p0, iv p1, iv p2, iv p3, iv 0, rv wa, rv sc, uu, uu, uu, uu, uu] [(.ref sc)])
    refine oWk.st (fun _ kt => XS.iconst X.here hx rfl (hb hby at_46) kt) ?_
    show oWk _ _ _ _ T (mkF m 47 #[iv p0, iv p1, iv p2, iv p3, iv 0, rv wa, rv sc, uu, uu, uu, uu, uu] [(.int 1), (.ref sc)])
    refine oWk.st (fun _ kt => XS.iloadN X.here hx rfl (hb hby at_47) rfl kt) ?_
    show oWk _ _ _ _ T (mkF m 48 #[iv p0, iv p1, iv p2, iv p3, iv 0, rv wa, rv sc, uu, uu, uu, uu, uu] [(.int p2), (.int 1), (.ref sc)])
    refine oWk.st (fun _ kt => XS.bipush X.here hx rfl (hb hby at_48) kt) ?_
    show oWk _ _ _ _ T (mkF m 50 #[iv p0, iv p1, iv p2, iv p3, iv 0, rv wa, rv sc, uu, uu, uu, uu, uu] [(.int 8), (.int p2), (.int 1), (.ref sc)])
    refine oWk.st (fun _ kt => XS.iushr X.here hx rfl (hb hby at_50) rfl kt) ?_
    show oWk _ _ _ _ T (mkF m 51 #[iv p0, iv p1, iv p2, iv p3, iv 0, rv wa, rv sc, uu, uu, uu, uu, uu] [(.int ((p2.toUInt32 >>> ((8 : Int32) &&& 31).toUInt32).toInt32)), (.int 1), (.ref sc)])
    refine oWk.st (fun _ kt => XS.sipush X.here hx rfl (hb hby at_51) kt) ?_
    show oWk _ _ _ _ T (mkF m 54 #[iv p0, iv p1, iv p2, iv p3, iv 0, rv wa, rv sc, uu, uu, uu, uu, uu] [(.int 255), (.int ((p2.toUInt32 >>> ((8 : Int32) &&& 31).toUInt32).toInt32)), (.int 1), (.ref sc)])
    refine oWk.st (fun _ kt => XS.iand X.here hx rfl (hb hby at_54) rfl kt) ?_
    show oWk _ _ _ _ T (mkF m 55 #[iv p0, iv p1, iv p2, iv p3, iv 0, rv wa, rv sc, uu, uu, uu, uu, uu] [(.int (((p2.toUInt32 >>> ((8 : Int32) &&& 31).toUInt32).toInt32) &&& (255 : Int32))), (.int 1), (.ref sc)])
    refine oWk.st (fun _ kt => XS.i2c X.here hx rfl (hb hby at_55) rfl kt) ?_
    show oWk _ _ _ _ T (mkF m 56 #[iv p0, iv p1, iv p2, iv p3, iv 0, rv wa, rv sc, uu, uu, uu, uu, uu] [(.int ((((p2.toUInt32 >>> ((8 : Int32) &&& 31).toUInt32).toInt32) &&& (255 : Int32)).toUInt32.toUInt16.toUInt32.toInt32)), (.int 1), (.ref sc)])
    rw [oChr (oM255 _)]
    show oWk _ _ _ _ T (mkF m 56 #[iv p0, iv p1, iv p2, iv p3, iv 0, rv wa, rv sc, uu, uu, uu, uu, uu] [(.int (((p2.toUInt32 >>> ((8 : Int32) &&& 31).toUInt32).toInt32) &&& (255 : Int32))), (.int 1), (.ref sc)])
    generalize hg56 : (((p2.toUInt32 >>> ((8 : Int32) &&& 31).toUInt32).toInt32) &&& (255 : Int32)) = ch56
    have hr56 := oM255 ((p2.toUInt32 >>> ((8 : Int32) &&& 31).toUInt32).toInt32)
    rw [hg56] at hr56
    show oWk _ _ _ _ T (mkF m 56 #[iv p0, iv p1, iv p2, iv p3, iv 0, rv wa, rv sc, uu, uu, uu, uu, uu] [(.int ch56), (.int 1), (.ref sc)])
    obtain ⟨cl3, Ar3, q3, Sz3, Nn3, Hs3, Ft3⟩ := id V_sc
    have hin3 : ¬ ((1 : Int32) < 0 ∨ cl3.slots.size ≤ ((1 : Int32)).toNatClampNeg) := inb_of Sz3 ⟨by decide, by decide⟩
    obtain ⟨T, h, X, e0, W3, st⟩ := stC X hx hZ e0 Ar3 (j := (1 : Int32)) hin3 (g := (mkF m 56 #[iv p0, iv p1, iv p2, iv p3, iv 0, rv wa, rv sc, uu, uu, uu, uu, uu] [(.int ch56), (.int 1), (.ref sc)])) rfl rfl (hb hby at_56)
    refine oWk.st st ?_
    have K := K.wr W3 (Or.inr ge_sc)
    have V_sc := Arv.set Ar3 q3 Sz3 Nn3 Hs3 Ft3 (fits_nar_char _) W3 1 rfl (Nat.le_of_ble_eq_true rfl)
    rw [show nar .char ch56 = ch56 from oChr hr56] at V_sc
    replace V_sc : Arv Z h sc k1 .char (2 : Int32) [(.int ch43), (.int ch56)] (.int (0 : Int32)) := V_sc
    show oWk _ _ _ _ T (mkF m 57 #[iv p0, iv p1, iv p2, iv p3, iv 0, rv wa, rv sc, uu, uu, uu, uu, uu] [])
    refine oWk.st (fun _ kt => XS.iconst X.here hx rfl (hb hby at_57) kt) ?_
    show oWk _ _ _ _ T (mkF m 58 #[iv p0, iv p1, iv p2, iv p3, iv 0, rv wa, rv sc, uu, uu, uu, uu, uu] [(.int 2)])
    obtain ⟨mc, g4⟩ : ∃ z, z = h.size := ⟨_, rfl⟩
    have ne_sc_mc : sc ≠ mc := Nat.ne_of_lt (Nat.lt_of_lt_of_le V_sc.lt (Nat.le_of_eq g4.symm))
    have ge_mc : h0.size ≤ mc := Nat.le_trans K.le (Nat.le_of_eq g4.symm)
    obtain ⟨T, h, k4, X, e0, E4, A4, st⟩ := newP X hx hZ (oW hw 3 rfl) e0 (g := (mkF m 58 #[iv p0, iv p1, iv p2, iv p3, iv 0, rv wa, rv sc, uu, uu, uu, uu, uu] [(.int 2)])) rfl (hb hby at_58) rfl (by decide) (cap := 2) (by decide) (by decide) (by decide) (by decide)
    rw [← g4] at A4 st
    refine oWk.st st ?_
    have K := K.ext E4
    have V_mc : Arv Z h mc k4 .char (2 : Int32) [(.int (0 : Int32)), (.int (0 : Int32))] (.int (0 : Int32)) := (Arv.new A4 (by decide)).pad (pad_rep [] (.int (0 : Int32)) 2)
    show oWk _ _ _ _ T (mkF m 60 #[iv p0, iv p1, iv p2, iv p3, iv 0, rv wa, rv sc, uu, uu, uu, uu, uu] [(.ref mc)])
    refine oWk.st (fun _ kt => XS.astore X.here hx rfl (hb hby at_60) rfl rfl (l' := #[iv p0, iv p1, iv p2, iv p3, iv 0, rv wa, rv sc, rv mc, uu, uu, uu, uu]) rfl kt) ?_
    show oWk _ _ _ _ T (mkF m 62 #[iv p0, iv p1, iv p2, iv p3, iv 0, rv wa, rv sc, rv mc, uu, uu, uu, uu] [])
    refine oWk.st (fun _ kt => XS.aload X.here hx rfl (hb hby at_62) rfl rfl kt) ?_
    show oWk _ _ _ _ T (mkF m 64 #[iv p0, iv p1, iv p2, iv p3, iv 0, rv wa, rv sc, rv mc, uu, uu, uu, uu] [(.ref mc)])
    refine oWk.st (fun _ kt => XS.iconst X.here hx rfl (hb hby at_64) kt) ?_
    show oWk _ _ _ _ T (mkF m 65 #[iv p0, iv p1, iv p2, iv p3, iv 0, rv wa, rv sc, rv mc, uu, uu, uu, uu] [(.int 0), (.ref mc)])
    refine oWk.st (fun _ kt => XS.iloadN X.here hx rfl (hb hby at_65) rfl kt) ?_
    show oWk _ _ _ _ T (mkF m 66 #[iv p0, iv p1, iv p2, iv p3, iv 0, rv wa, rv sc, rv mc, uu, uu, uu, uu] [(.int p3), (.int 0), (.ref mc)])
    refine oWk.st (fun _ kt => XS.sipush X.here hx rfl (hb hby at_66) kt) ?_
    show oWk _ _ _ _ T (mkF m 69 #[iv p0, iv p1, iv p2, iv p3, iv 0, rv wa, rv sc, rv mc, uu, uu, uu, uu] [(.int 255), (.int p3), (.int 0), (.ref mc)])
    refine oWk.st (fun _ kt => XS.iand X.here hx rfl (hb hby at_69) rfl kt) ?_
    show oWk _ _ _ _ T (mkF m 70 #[iv p0, iv p1, iv p2, iv p3, iv 0, rv wa, rv sc, rv mc, uu, uu, uu, uu] [(.int (p3 &&& (255 : Int32))), (.int 0), (.ref mc)])
    refine oWk.st (fun _ kt => XS.i2c X.here hx rfl (hb hby at_70) rfl kt) ?_
    show oWk _ _ _ _ T (mkF m 71 #[iv p0, iv p1, iv p2, iv p3, iv 0, rv wa, rv sc, rv mc, uu, uu, uu, uu] [(.int ((p3 &&& (255 : Int32)).toUInt32.toUInt16.toUInt32.toInt32)), (.int 0), (.ref mc)])
    rw [oChr (oM255 _)]
    show oWk _ _ _ _ T (mkF m 71 #[iv p0, iv p1, iv p2, iv p3, iv 0, rv wa, rv sc, rv mc, uu, uu, uu, uu] [(.int (p3 &&& (255 : Int32))), (.int 0), (.ref mc)])
    generalize hg71 : (p3 &&& (255 : Int32)) = ch71
    have hr71 := oM255 p3
    rw [hg71] at hr71
    show oWk _ _ _ _ T (mkF m 71 #[iv p0, iv p1, iv p2, iv p3, iv 0, rv wa, rv sc, rv mc, uu, uu, uu, uu] [(.int ch71), (.int 0), (.ref mc)])
    obtain ⟨cl5, Ar5, q5, Sz5, Nn5, Hs5, Ft5⟩ := id V_mc
    have hin5 : ¬ ((0 : Int32) < 0 ∨ cl5.slots.size ≤ ((0 : Int32)).toNatClampNeg) := inb_of Sz5 ⟨by decide, by decide⟩
    obtain ⟨T, h, X, e0, W5, st⟩ := stC X hx hZ e0 Ar5 (j := (0 : Int32)) hin5 (g := (mkF m 71 #[iv p0, iv p1, iv p2, iv p3, iv 0, rv wa, rv sc, rv mc, uu, uu, uu, uu] [(.int ch71), (.int 0), (.ref mc)])) rfl rfl (hb hby at_71)
    refine oWk.st st ?_
    have K := K.wr W5 (Or.inr ge_mc)
    have V_mc := Arv.set Ar5 q5 Sz5 Nn5 Hs5 Ft5 (fits_nar_char _) W5 0 rfl (Nat.le_of_ble_eq_true rfl)
    rw [show nar .char ch71 = ch71 from oChr hr71] at V_mc
    replace V_mc : Arv Z h mc k4 .char (2 : Int32) [(.int ch71), (.int (0 : Int32))] (.int (0 : Int32)) := V_mc
    show oWk _ _ _ _ T (mkF m 72 #[iv p0, iv p1, iv p2, iv p3, iv 0, rv wa, rv sc, rv mc, uu, uu, uu, uu] [])
    refine oWk.st (fun _ kt => XS.aload X.here hx rfl (hb hby at_72) rfl rfl kt) ?_
    show oWk _ _ _ _ T (mkF m 74 #[iv p0, iv p1, iv p2, iv p3, iv 0, rv wa, rv sc, rv mc, uu, uu, uu, uu] [(.ref mc)])
    refine oWk.st (fun _ kt => XS.iconst X.here hx rfl (hb hby at_74) kt) ?_
    show oWk _ _ _ _ T (mkF m 75 #[iv p0, iv p1, iv p2, iv p3, iv 0, rv wa, rv sc, rv mc, uu, uu, uu, uu] [(.int 1), (.ref mc)])
    refine oWk.st (fun _ kt => XS.iloadN X.here hx rfl (hb hby at_75) rfl kt) ?_
    show oWk _ _ _ _ T (mkF m 76 #[iv p0, iv p1, iv p2, iv p3, iv 0, rv wa, rv sc, rv mc, uu, uu, uu, uu] [(.int p3), (.int 1), (.ref mc)])
    refine oWk.st (fun _ kt => XS.bipush X.here hx rfl (hb hby at_76) kt) ?_
    show oWk _ _ _ _ T (mkF m 78 #[iv p0, iv p1, iv p2, iv p3, iv 0, rv wa, rv sc, rv mc, uu, uu, uu, uu] [(.int 8), (.int p3), (.int 1), (.ref mc)])
    refine oWk.st (fun _ kt => XS.iushr X.here hx rfl (hb hby at_78) rfl kt) ?_
    show oWk _ _ _ _ T (mkF m 79 #[iv p0, iv p1, iv p2, iv p3, iv 0, rv wa, rv sc, rv mc, uu, uu, uu, uu] [(.int ((p3.toUInt32 >>> ((8 : Int32) &&& 31).toUInt32).toInt32)), (.int 1), (.ref mc)])
    refine oWk.st (fun _ kt => XS.sipush X.here hx rfl (hb hby at_79) kt) ?_
    show oWk _ _ _ _ T (mkF m 82 #[iv p0, iv p1, iv p2, iv p3, iv 0, rv wa, rv sc, rv mc, uu, uu, uu, uu] [(.int 255), (.int ((p3.toUInt32 >>> ((8 : Int32) &&& 31).toUInt32).toInt32)), (.int 1), (.ref mc)])
    refine oWk.st (fun _ kt => XS.iand X.here hx rfl (hb hby at_82) rfl kt) ?_
    show oWk _ _ _ _ T (mkF m 83 #[iv p0, iv p1, iv p2, iv p3, iv 0, rv wa, rv sc, rv mc, uu, uu, uu, uu] [(.int (((p3.toUInt32 >>> ((8 : Int32) &&& 31).toUInt32).toInt32) &&& (255 : Int32))), (.int 1), (.ref mc)])
    refine oWk.st (fun _ kt => XS.i2c X.here hx rfl (hb hby at_83) rfl kt) ?_
    show oWk _ _ _ _ T (mkF m 84 #[iv p0, iv p1, iv p2, iv p3, iv 0, rv wa, rv sc, rv mc, uu, uu, uu, uu] [(.int ((((p3.toUInt32 >>> ((8 : Int32) &&& 31).toUInt32).toInt32) &&& (255 : Int32)).toUInt32.toUInt16.toUInt32.toInt32)), (.int 1), (.ref mc)])
    rw [oChr (oM255 _)]
    show oWk _ _ _ _ T (mkF m 84 #[iv p0, iv p1, iv p2, iv p3, iv 0, rv wa, rv sc, rv mc, uu, uu, uu, uu] [(.int (((p3.toUInt32 >>> ((8 : Int32) &&& 31).toUInt32).toInt32) &&& (255 : Int32))), (.int 1), (.ref mc)])
    generalize hg84 : (((p3.toUInt32 >>> ((8 : Int32) &&& 31).toUInt32).toInt32) &&& (255 : Int32)) = ch84
    have hr84 := oM255 ((p3.toUInt32 >>> ((8 : Int32) &&& 31).toUInt32).toInt32)
    rw [hg84] at hr84
    show oWk _ _ _ _ T (mkF m 84 #[iv p0, iv p1, iv p2, iv p3, iv 0, rv wa, rv sc, rv mc, uu, uu, uu, uu] [(.int ch84), (.int 1), (.ref mc)])
    obtain ⟨cl6, Ar6, q6, Sz6, Nn6, Hs6, Ft6⟩ := id V_mc
    have hin6 : ¬ ((1 : Int32) < 0 ∨ cl6.slots.size ≤ ((1 : Int32)).toNatClampNeg) := inb_of Sz6 ⟨by decide, by decide⟩
    obtain ⟨T, h, X, e0, W6, st⟩ := stC X hx hZ e0 Ar6 (j := (1 : Int32)) hin6 (g := (mkF m 84 #[iv p0, iv p1, iv p2, iv p3, iv 0, rv wa, rv sc, rv mc, uu, uu, uu, uu] [(.int ch84), (.int 1), (.ref mc)])) rfl rfl (hb hby at_84)
    refine oWk.st st ?_
    have K := K.wr W6 (Or.inr ge_mc)
    have V_mc := Arv.set Ar6 q6 Sz6 Nn6 Hs6 Ft6 (fits_nar_char _) W6 1 rfl (Nat.le_of_ble_eq_true rfl)
    rw [show nar .char ch84 = ch84 from oChr hr84] at V_mc
    replace V_mc : Arv Z h mc k4 .char (2 : Int32) [(.int ch71), (.int ch84)] (.int (0 : Int32)) := V_mc
    show oWk _ _ _ _ T (mkF m 85 #[iv p0, iv p1, iv p2, iv p3, iv 0, rv wa, rv sc, rv mc, uu, uu, uu, uu] [])
    obtain ⟨so, g7⟩ : ∃ z, z = h.size := ⟨_, rfl⟩
    have V_sc := (((V_sc.ext E4).other W5 ne_sc_mc).other W6 ne_sc_mc)
    have ne_sc_so : sc ≠ so := Nat.ne_of_lt (Nat.lt_of_lt_of_le V_sc.lt (Nat.le_of_eq g7.symm))
    have ne_mc_so : mc ≠ so := Nat.ne_of_lt (Nat.lt_of_lt_of_le V_mc.lt (Nat.le_of_eq g7.symm))
    have ge_so : h0.size ≤ so := Nat.le_trans K.le (Nat.le_of_eq g7.symm)
    obtain ⟨T, h, X, e0, E7, A7, D7, -, st⟩ := newO X hx hZ hown (oW hw 4 rfl) (oW hw 5 rfl) (oW hw 6 rfl) e0 (g := (mkF m 85 #[iv p0, iv p1, iv p2, iv p3, iv 0, rv wa, rv sc, rv mc, uu, uu, uu, uu] [])) rfl (hb hby at_85) (by decide) (by decide)
    rw [← g7] at A7 D7 st
    refine oWk.st st ?_
    have K := K.ext E7
    have E_so := A7
    have F_coder_so : Fld Z h so "java/lang/String" "coder" "B" (.int (0 : Int32)) := D7 (Or.inr (oW hw 30 rfl)) (ty := .byte) (by decide)
    have F_value_so : Fld Z h so "java/lang/String" "value" "[B" .null := D7 (Or.inr (oW hw 32 rfl)) (ty := (.array .byte)) (by decide)
    show oWk _ _ _ _ T (mkF m 88 #[iv p0, iv p1, iv p2, iv p3, iv 0, rv wa, rv sc, rv mc, uu, uu, uu, uu] [(.ref so)])
    refine oWk.st (fun _ kt => XS.dup X.here hx rfl (hb hby at_88) rfl rfl kt) ?_
    show oWk _ _ _ _ T (mkF m 89 #[iv p0, iv p1, iv p2, iv p3, iv 0, rv wa, rv sc, rv mc, uu, uu, uu, uu] [(.ref so), (.ref so)])
    refine oWk.st (fun _ kt => XS.aload X.here hx rfl (hb hby at_89) rfl rfl kt) ?_
    show oWk _ _ _ _ T (mkF m 91 #[iv p0, iv p1, iv p2, iv p3, iv 0, rv wa, rv sc, rv mc, uu, uu, uu, uu] [(.ref sc), (.ref so), (.ref so)])
    have V_sc := (V_sc.ext E7)
    have lt_sc := V_sc.lt
    have V_mc := (V_mc.ext E7)
    have lt_mc := V_mc.lt
    have lt_so := E_so.lt
    have Oh := K.old O0 all0
    obtain ⟨_, _, ⟨T, L9, k9, n9⟩, -, X, ⟨Lc9, hQ, l9, y9, z9⟩, st⟩ := X.specialBack hx (y := yy4) rfl hown (mvT hZ (oW hw 7 rfl)) (mvT hZ (oW hw 8 rfl)) (mvT hZ (oW hw 9 rfl)) (by decide) (backOf (W := 1) (rI1_2 l Z a0 hw [] so sc k1 xz .null (.int (0 : Int32)) ch43 ch56 h Oh S_COMPACT_STRINGS hz (Nat.le_trans O0.1 ge_so) E_so F_value_so F_coder_so V_sc (oLe255 hr43) (oLe255 hr56)) hZ (oW hw 9 rfl) (oW hw 6 rfl) (by decide) (by decide)) (g := (mkF m 91 #[iv p0, iv p1, iv p2, iv p3, iv 0, rv wa, rv sc, rv mc, uu, uu, uu, uu] [(.ref sc), (.ref so), (.ref so)])) rfl (by rw [hml]; rfl) (Steps.refl _) (a := so) (argsL := [(.ref sc)]) (rest := [(.ref so)]) (lenOf pd_5 rfl) rfl (by show 2 * 0 + _ ≤ _; exact Nat.le_of_eq rfl) (hb hby at_91) (fun _ _ => ⟨rfl, e0, (by decide : 3 + 1 ≤ _), (by decide : 8 + 2 ≤ _)⟩)
    dsimp only [Pt.U, Pt.locs, Pt.cells, Pt.slots] at X l9 y9 z9 st hQ
    subst l9 y9 z9
    obtain ⟨h, e0⟩ : ∃ z, T.heap = z := ⟨_, rfl⟩
    rw [e0] at hQ
    obtain ⟨sob, sobk, rfl, K8, E_so, F_coder_so, F_value_so, gn_sob, V_sob⟩ := hQ
    have ge_sob := Nat.le_trans K.le gn_sob
    have ne_sc_sob : sc ≠ sob := Nat.ne_of_lt (Nat.lt_of_lt_of_le lt_sc gn_sob)
    have ne_mc_sob : mc ≠ sob := Nat.ne_of_lt (Nat.lt_of_lt_of_le lt_mc gn_sob)
    have ne_so_sob : so ≠ sob := Nat.ne_of_lt (Nat.lt_of_lt_of_le lt_so gn_sob)
    have K := K.call K8 (allS (Or.inr ge_so) all0)
    refine oWk.tr st ?_
    show oWk _ _ _ _ T (mkF m 94 #[iv p0, iv p1, iv p2, iv p3, iv 0, rv wa, rv sc, rv mc, uu, uu, uu, uu] [(.ref so)])
    refine oWk.st (fun _ kt => XS.astore X.here hx rfl (hb hby at_94) rfl rfl (l' := #[iv p0, iv p1, iv p2, iv p3, iv 0, rv wa, rv sc, rv mc, rv so, uu, uu, uu]) rfl kt) ?_
    show oWk _ _ _ _ T (mkF m 96 #[iv p0, iv p1, iv p2, iv p3, iv 0, rv wa, rv sc, rv mc, rv so, uu, uu, uu] [])
    obtain ⟨me, g10⟩ : ∃ z, z = h.size := ⟨_, rfl⟩
    have V_sc := (V_sc.keep K8.1 (ninS ne_sc_so nin0))
    have ne_sc_me : sc ≠ me := Nat.ne_of_lt (Nat.lt_of_lt_of_le V_sc.lt (Nat.le_of_eq g10.symm))
    have V_mc := (V_mc.keep K8.1 (ninS ne_mc_so nin0))
    have ne_mc_me : mc ≠ me := Nat.ne_of_lt (Nat.lt_of_lt_of_le V_mc.lt (Nat.le_of_eq g10.symm))
    have ne_so_me : so ≠ me := Nat.ne_of_lt (Nat.lt_of_lt_of_le E_so.lt (Nat.le_of_eq g10.symm))
    have ne_sob_me : sob ≠ me := Nat.ne_of_lt (Nat.lt_of_lt_of_le V_sob.lt (Nat.le_of_eq g10.symm))
    have ge_me : h0.size ≤ me := Nat.le_trans K.le (Nat.le_of_eq g10.symm)
    obtain ⟨T, h, X, e0, E10, A10, D10, -, st⟩ := newO X hx hZ hown (oW hw 4 rfl) (oW hw 5 rfl) (oW hw 6 rfl) e0 (g := (mkF m 96 #[iv p0, iv p1, iv p2, iv p3, iv 0, rv wa, rv sc, rv mc, rv so, uu, uu, uu] [])) rfl (hb hby at_96) (by decide) (by decide)
    rw [← g10] at A10 D10 st
    refine oWk.st st ?_
    have K := K.ext E10
    have E_me := A10
    have F_coder_me : Fld Z h me "java/lang/String" "coder" "B" (.int (0 : Int32)) := D10 (Or.inr (oW hw 30 rfl)) (ty := .byte) (by decide)
    have F_value_me : Fld Z h me "java/lang/String" "value" "[B" .null := D10 (Or.inr (oW hw 32 rfl)) (ty := (.array .byte)) (by decide)
    show oWk _ _ _ _ T (mkF m 99 #[iv p0, iv p1, iv p2, iv p3, iv 0, rv wa, rv sc, rv mc, rv so, uu, uu, uu] [(.ref me)])
    refine oWk.st (fun _ kt => XS.dup X.here hx rfl (hb hby at_99) rfl rfl kt) ?_
    show oWk _ _ _ _ T (mkF m 100 #[iv p0, iv p1, iv p2, iv p3, iv 0, rv wa, rv sc, rv mc, rv so, uu, uu, uu] [(.ref me), (.ref me)])
    refine oWk.st (fun _ kt => XS.aload X.here hx rfl (hb hby at_100) rfl rfl kt) ?_
    show oWk _ _ _ _ T (mkF m 102 #[iv p0, iv p1, iv p2, iv p3, iv 0, rv wa, rv sc, rv mc, rv so, uu, uu, uu] [(.ref mc), (.ref me), (.ref me)])
    have V_mc := (V_mc.ext E10)
    have V_sc := (V_sc.ext E10)
    have lt_sc := V_sc.lt
    have lt_mc := V_mc.lt
    have E_so := (E_so.ext E10)
    have lt_so := E_so.lt
    have V_sob := (V_sob.ext E10)
    have lt_sob := V_sob.lt
    have lt_me := E_me.lt
    have Oh := K.old O0 all0
    obtain ⟨_, _, ⟨T, L12, k12, n12⟩, -, X, ⟨Lc12, hQ, l12, y12, z12⟩, st⟩ := X.specialBack hx (y := yy4) rfl hown (mvT hZ (oW hw 7 rfl)) (mvT hZ (oW hw 8 rfl)) (mvT hZ (oW hw 9 rfl)) (by decide) (backOf (W := 1) (rI1_2 l Z a0 hw [] me mc k4 xz .null (.int (0 : Int32)) ch71 ch84 h Oh S_COMPACT_STRINGS hz (Nat.le_trans O0.1 ge_me) E_me F_value_me F_coder_me V_mc (oLe255 hr71) (oLe255 hr84)) hZ (oW hw 9 rfl) (oW hw 6 rfl) (by decide) (by decide)) (g := (mkF m 102 #[iv p0, iv p1, iv p2, iv p3, iv 0, rv wa, rv sc, rv mc, rv so, uu, uu, uu] [(.ref mc), (.ref me), (.ref me)])) rfl (by rw [hml]; rfl) (Steps.refl _) (a := me) (argsL := [(.ref mc)]) (rest := [(.ref me)]) (lenOf pd_5 rfl) rfl (by show 2 * 0 + _ ≤ _; exact Nat.le_of_eq rfl) (hb hby at_102) (fun _ _ => ⟨rfl, e0, (by decide : 5 + 1 ≤ _), (by decide : 14 + 2 ≤ _)⟩)
    dsimp only [Pt.U, Pt.locs, Pt.cells, Pt.slots] at X l12 y12 z12 st hQ
    subst l12 y12 z12
    obtain ⟨h, e0⟩ : ∃ z, T.heap = z := ⟨_, rfl⟩
    rw [e0] at hQ
    obtain ⟨meb, mebk, rfl, K11, E_me, F_coder_me, F_value_me, gn_meb, V_meb⟩ := hQ
    have ge_meb := Nat.le_trans K.le gn_meb
    have ne_sc_meb : sc ≠ meb := Nat.ne_of_lt (Nat.lt_of_lt_of_le lt_sc gn_meb)
    have ne_mc_meb : mc ≠ meb := Nat.ne_of_lt (Nat.lt_of_lt_of_le lt_mc gn_meb)
    have ne_so_meb : so ≠ meb := Nat.ne_of_lt (Nat.lt_of_lt_of_le lt_so gn_meb)
    have ne_sob_meb : sob ≠ meb := Nat.ne_of_lt (Nat.lt_of_lt_of_le lt_sob gn_meb)
    have ne_me_meb : me ≠ meb := Nat.ne_of_lt (Nat.lt_of_lt_of_le lt_me gn_meb)
    have K := K.call K11 (allS (Or.inr ge_me) all0)
    refine oWk.tr st ?_
    show oWk _ _ _ _ T (mkF m 105 #[iv p0, iv p1, iv p2, iv p3, iv 0, rv wa, rv sc, rv mc, rv so, uu, uu, uu] [(.ref me)])
    refine oWk.st (fun _ kt => XS.astore X.here hx rfl (hb hby at_105) rfl rfl (l' := #[iv p0, iv p1, iv p2, iv p3, iv 0, rv wa, rv sc, rv mc, rv so, rv me, uu, uu]) rfl kt) ?_
    show oWk _ _ _ _ T (mkF m 107 #[iv p0, iv p1, iv p2, iv p3, iv 0, rv wa, rv sc, rv mc, rv so, rv me, uu, uu] [])
    refine oWk.st (fun _ kt => XS.iloadN X.here hx rfl (hb hby at_107) rfl kt) ?_
    show oWk _ _ _ _ T (mkF m 108 #[iv p0, iv p1, iv p2, iv p3, iv 0, rv wa, rv sc, rv mc, rv so, rv me, uu, uu] [(.int p1)])
    refine oWk.st (fun _ kt => X.ldcI hx hown (mvT hZ (oW hw 33 rfl)) rfl (hb hby at_108) kt) ?_
    show oWk _ _ _ _ T (mkF m 110 #[iv p0, iv p1, iv p2, iv p3, iv 0, rv wa, rv sc, rv mc, rv so, rv me, uu, uu] [(.int 2147483647), (.int p1)])
    refine oWk.st (fun _ kt => XS.iand X.here hx rfl (hb hby at_110) rfl kt) ?_
    show oWk _ _ _ _ T (mkF m 111 #[iv p0, iv p1, iv p2, iv p3, iv 0, rv wa, rv sc, rv mc, rv so, rv me, uu, uu] [(.int (p1 &&& (2147483647 : Int32)))])
    refine oWk.st (fun _ kt => XS.istore X.here hx rfl (hb hby at_111) rfl (l' := #[iv p0, iv p1, iv p2, iv p3, iv 0, rv wa, rv sc, rv mc, rv so, rv me, iv (p1 &&& (2147483647 : Int32)), uu]) rfl kt) ?_
    show oWk _ _ _ _ T (mkF m 113 #[iv p0, iv p1, iv p2, iv p3, iv 0, rv wa, rv sc, rv mc, rv so, rv me, iv (p1 &&& (2147483647 : Int32)), uu] [])
    obtain ⟨pp, g13⟩ : ∃ z, z = h.size := ⟨_, rfl⟩
    have V_sc := (V_sc.keep K11.1 (ninS ne_sc_me nin0))
    have ne_sc_pp : sc ≠ pp := Nat.ne_of_lt (Nat.lt_of_lt_of_le V_sc.lt (Nat.le_of_eq g13.symm))
    have V_mc := (V_mc.keep K11.1 (ninS ne_mc_me nin0))
    have ne_mc_pp : mc ≠ pp := Nat.ne_of_lt (Nat.lt_of_lt_of_le V_mc.lt (Nat.le_of_eq g13.symm))
    have E_so := (E_so.keep K11.1)
    have ne_so_pp : so ≠ pp := Nat.ne_of_lt (Nat.lt_of_lt_of_le E_so.lt (Nat.le_of_eq g13.symm))
    have V_sob := (V_sob.keep K11.1 (ninS ne_sob_me nin0))
    have ne_sob_pp : sob ≠ pp := Nat.ne_of_lt (Nat.lt_of_lt_of_le V_sob.lt (Nat.le_of_eq g13.symm))
    have ne_me_pp : me ≠ pp := Nat.ne_of_lt (Nat.lt_of_lt_of_le E_me.lt (Nat.le_of_eq g13.symm))
    have ne_meb_pp : meb ≠ pp := Nat.ne_of_lt (Nat.lt_of_lt_of_le V_meb.lt (Nat.le_of_eq g13.symm))
    have ge_pp : h0.size ≤ pp := Nat.le_trans K.le (Nat.le_of_eq g13.symm)
    obtain ⟨T, h, X, e0, E13, A13, D13, -, st⟩ := newO X hx hZ hown (oW hw 34 rfl) (oW hw 35 rfl) (oW hw 36 rfl) e0 (g := (mkF m 113 #[iv p0, iv p1, iv p2, iv p3, iv 0, rv wa, rv sc, rv mc, rv so, rv me, iv (p1 &&& (2147483647 : Int32)), uu] [])) rfl (hb hby at_113) (by decide) (by decide)
    rw [← g13] at A13 D13 st
    refine oWk.st st ?_
    have K := K.ext E13
    have E_pp := A13
    have F_source_pp : Fld Z h pp "com/example/modwright/modwright/packages/PackageProblem" "source" "Ljava/lang/String;" .null := D13 (Or.inr (oW hw 47 rfl)) (ty := (.object "java/lang/String")) (by decide)
    have F_line_pp : Fld Z h pp "com/example/modwright/modwright/packages/PackageProblem" "line" "I" (.int (0 : Int32)) := D13 (Or.inr (oW hw 49 rfl)) (ty := .int) (by decide)
    have F_severity_pp : Fld Z h pp "com/example/modwright/modwright/packages/PackageProblem" "severity" "Lcom/example/modwright/modwright/packages/PackageProblem$Severity;" .null := D13 (Or.inr (oW hw 51 rfl)) (ty := (.object "com/example/modwright/modwright/packages/PackageProblem$Severity")) (by decide)
    have F_message_pp : Fld Z h pp "com/example/modwright/modwright/packages/PackageProblem" "message" "Ljava/lang/String;" .null := D13 (Or.inr (oW hw 53 rfl)) (ty := (.object "java/lang/String")) (by decide)
    show oWk _ _ _ _ T (mkF m 116 #[iv p0, iv p1, iv p2, iv p3, iv 0, rv wa, rv sc, rv mc, rv so, rv me, iv (p1 &&& (2147483647 : Int32)), uu] [(.ref pp)])
    refine oWk.st (fun _ kt => XS.dup X.here hx rfl (hb hby at_116) rfl rfl kt) ?_
    show oWk _ _ _ _ T (mkF m 117 #[iv p0, iv p1, iv p2, iv p3, iv 0, rv wa, rv sc, rv mc, rv so, rv me, iv (p1 &&& (2147483647 : Int32)), uu] [(.ref pp), (.ref pp)])
    refine oWk.st (fun _ kt => XS.aload X.here hx rfl (hb hby at_117) rfl rfl kt) ?_
    show oWk _ _ _ _ T (mkF m 119 #[iv p0, iv p1, iv p2, iv p3, iv 0, rv wa, rv sc, rv mc, rv so, rv me, iv (p1 &&& (2147483647 : Int32)), uu] [(.ref so), (.ref pp), (.ref pp)])
    refine oWk.st (fun _ kt => XS.iload X.here hx rfl (hb hby at_119) rfl kt) ?_
    show oWk _ _ _ _ T (mkF m 121 #[iv p0, iv p1, iv p2, iv p3, iv 0, rv wa, rv sc, rv mc, rv so, rv me, iv (p1 &&& (2147483647 : Int32)), uu] [(.int (p1 &&& (2147483647 : Int32))), (.ref so), (.ref pp), (.ref pp)])
    refine oWk.st (fun _ kt => XS.aload X.here hx rfl (hb hby at_121) rfl rfl kt) ?_
    show oWk _ _ _ _ T (mkF m 123 #[iv p0, iv p1, iv p2, iv p3, iv 0, rv wa, rv sc, rv mc, rv so, rv me, iv (p1 &&& (2147483647 : Int32)), uu] [(.ref wa), (.int (p1 &&& (2147483647 : Int32))), (.ref so), (.ref pp), (.ref pp)])
    refine oWk.st (fun _ kt => XS.aload X.here hx rfl (hb hby at_123) rfl rfl kt) ?_
    show oWk _ _ _ _ T (mkF m 125 #[iv p0, iv p1, iv p2, iv p3, iv 0, rv wa, rv sc, rv mc, rv so, rv me, iv (p1 &&& (2147483647 : Int32)), uu] [(.ref me), (.ref wa), (.int (p1 &&& (2147483647 : Int32))), (.ref so), (.ref pp), (.ref pp)])
    have Oh := K.old O0 all0
    obtain ⟨_, _, ⟨T, L15, k15, n15⟩, -, X, ⟨Lc15, hQ, l15, y15, z15⟩, st⟩ := X.specialBack hx (y := yy6) rfl hown (mvT hZ (oW hw 37 rfl)) (mvT hZ (oW hw 38 rfl)) (mvT hZ (oW hw 39 rfl)) (by decide) (backOf (W := 1) (rPI l Z a0 hw [] pp so (p1 &&& (2147483647 : Int32)) wa me .null (.int (0 : Int32)) .null .null h Oh (Nat.le_trans O0.1 ge_pp) E_pp F_source_pp F_line_pp F_severity_pp F_message_pp (oPos p1)) hZ (oW hw 39 rfl) (oW hw 36 rfl) (by decide) (by decide)) (g := (mkF m 125 #[iv p0, iv p1, iv p2, iv p3, iv 0, rv wa, rv sc, rv mc, rv so, rv me, iv (p1 &&& (2147483647 : Int32)), uu] [(.ref me), (.ref wa), (.int (p1 &&& (2147483647 : Int32))), (.ref so), (.ref pp), (.ref pp)])) rfl (by rw [hml]; rfl) (Steps.refl _) (a := pp) (argsL := [(.ref so), (.int (p1 &&& (2147483647 : Int32))), (.ref wa), (.ref me)]) (rest := [(.ref pp)]) (lenOf pd_6 rfl) rfl (by show 2 * 0 + _ ≤ _; exact Nat.le_of_eq rfl) (hb hby at_125) (fun _ _ => ⟨rfl, e0, (by decide : 7 + 0 ≤ _), (by decide : 20 + 0 ≤ _)⟩)
    dsimp only [Pt.U, Pt.locs, Pt.cells, Pt.slots] at X l15 y15 z15 st hQ
    subst l15 y15 z15
    obtain ⟨h, e0⟩ : ∃ z, T.heap = z := ⟨_, rfl⟩
    rw [e0] at hQ
    obtain ⟨rfl, K14, E_pp, F_source_pp, F_line_pp, F_severity_pp, F_message_pp⟩ := hQ
    have K := K.call K14 (allS (Or.inr ge_pp) all0)
    refine oWk.tr st ?_
    show oWk _ _ _ _ T (mkF m 128 #[iv p0, iv p1, iv p2, iv p3, iv 0, rv wa, rv sc, rv mc, rv so, rv me, iv (p1 &&& (2147483647 : Int32)), uu] [(.ref pp)])
    refine oWk.st (fun _ kt => XS.astore X.here hx rfl (hb hby at_128) rfl rfl (l' := #[iv p0, iv p1, iv p2, iv p3, iv 0, rv wa, rv sc, rv mc, rv so, rv me, iv (p1 &&& (2147483647 : Int32)), rv pp]) rfl kt) ?_
    show oWk _ _ _ _ T (mkF m 130 #[iv p0, iv p1, iv p2, iv p3, iv 0, rv wa, rv sc, rv mc, rv so, rv me, iv (p1 &&& (2147483647 : Int32)), rv pp] [])
    refine oWk.st (fun _ kt => XS.aload X.here hx rfl (hb hby at_130) rfl rfl kt) ?_
    show oWk _ _ _ _ T (mkF m 132 #[iv p0, iv p1, iv p2, iv p3, iv 0, rv wa, rv sc, rv mc, rv so, rv me, iv (p1 &&& (2147483647 : Int32)), rv pp] [(.ref pp)])
    have Oh := K.old O0 all0
    obtain ⟨cq17, kq17, q17a, q17b, q17c⟩ := isOf hZ e0 E_pp
    obtain ⟨_, _, ⟨T, L17, k17, n17⟩, -, X, ⟨Lc17, hQ, l17, y17, z17⟩, st⟩ := X.virtualBack hx (y := yy7) (z := yy7) hown (mvT hZ (oW hw 54 rfl)) (mvT hZ (oW hw 55 rfl)) (notFace_of_selects (args := #[]) (mvT hZ (oW hw 57 rfl))) (mvT hZ (oW hw 57 rfl)) (mvT hZ (oW hw 56 rfl)) (by decide) (backOf (W := 0) (rIE l Z a0 hw [] pp er wa h Oh S_ERROR F_severity_pp) hZ (oW hw 58 rfl) (oW hw 36 rfl) (by decide) (by decide)) q17a q17c (g := (mkF m 132 #[iv p0, iv p1, iv p2, iv p3, iv 0, rv wa, rv sc, rv mc, rv so, rv me, iv (p1 &&& (2147483647 : Int32)), rv pp] [(.ref pp)])) rfl (by rw [hml]; rfl) (Steps.refl _) (argsL := []) (rest := []) (lenOf pd_7 rfl) rfl (by show 2 * 0 + _ ≤ _; exact Nat.le_of_eq rfl) (hb hby at_132) (fun _ _ => ⟨rfl, e0, (by decide : 7 + 0 ≤ _), (by decide : 20 + 0 ≤ _)⟩)
    dsimp only [Pt.U, Pt.locs, Pt.cells, Pt.slots] at X l17 y17 z17 st hQ
    subst l17 y17 z17
    obtain ⟨rfl, e0, K16⟩ := hQ
    have K := K.call K16 all0
    rw [e0] at K
    refine oWk.tr st ?_
    show oWk _ _ _ _ T (mkF m 135 #[iv p0, iv p1, iv p2, iv p3, iv 0, rv wa, rv sc, rv mc, rv so, rv me, iv (p1 &&& (2147483647 : Int32)), rv pp] [(.int (oBi (er = wa)))])
    refine oWk.st (fun _ kt => XS.iload X.here hx rfl (hb hby at_135) rfl kt) ?_
    show oWk _ _ _ _ T (mkF m 137 #[iv p0, iv p1, iv p2, iv p3, iv 0, rv wa, rv sc, rv mc, rv so, rv me, iv (p1 &&& (2147483647 : Int32)), rv pp] [(.int 0), (.int (oBi (er = wa)))])
    refine oWk.st (fun _ kt => XS.icmpNo X.here hx rfl (hb hby at_137) rfl (teq (oBi_f ne_er_wa)).2 kt) ?_
    show oWk _ _ _ _ T (mkF m 140 #[iv p0, iv p1, iv p2, iv p3, iv 0, rv wa, rv sc, rv mc, rv so, rv me, iv (p1 &&& (2147483647 : Int32)), rv pp] [])
    refine oWk.st (fun _ kt => XS.iconst X.here hx rfl (hb hby at_140) kt) ?_
    show oWk _ _ _ _ T (mkF m 141 #[iv p0, iv p1, iv p2, iv p3, iv 0, rv wa, rv sc, rv mc, rv so, rv me, iv (p1 &&& (2147483647 : Int32)), rv pp] [(.int 1)])
    refine oWk.st (fun _ kt => XS.goto X.here hx rfl (pc0 := 141) (pc' := 145) rfl (hb hby at_141) (by decide) (by decide) kt) ?_
    show oWk _ _ _ _ T (mkF m 145 #[iv p0, iv p1, iv p2, iv p3, iv 0, rv wa, rv sc, rv mc, rv so, rv me, iv (p1 &&& (2147483647 : Int32)), rv pp] [(.int 1)])
    exact oRetZ X hx hlk hret (hb hby at_145) (Or.inr rfl) (by rw [e0]; exact ⟨rfl, K.fr⟩) (by decide) (by decide)
  · refine oWk.st (fun _ kt => XS.ifNo X.here hx rfl (hb hby at_3) rfl ((if0 _ _).trans (feq hc3).1) kt) ?_
    show oWk _ _ _ _ T (mkF m 6 #[iv p0, iv p1, iv p2, iv p3, uu, uu, uu, uu, uu, uu, uu, uu] [])
    refine oWk.st (fun _ kt => XS.iconst X.here hx rfl (hb hby at_6) kt) ?_
    show oWk _ _ _ _ T (mkF m 7 #[iv p0, iv p1, iv p2, iv p3, uu, uu, uu, uu, uu, uu, uu, uu] [(.int 1)])
    refine oWk.st (fun _ kt => XS.goto X.here hx rfl (pc0 := 7) (pc' := 11) rfl (hb hby at_7) (by decide) (by decide) kt) ?_
    show oWk _ _ _ _ T (mkF m 11 #[iv p0, iv p1, iv p2, iv p3, uu, uu, uu, uu, uu, uu, uu, uu] [(.int 1)])
    refine oWk.st (fun _ kt => XS.istore X.here hx rfl (hb hby at_11) rfl (l' := #[iv p0, iv p1, iv p2, iv p3, iv 1, uu, uu, uu, uu, uu, uu, uu]) rfl kt) ?_
    show oWk _ _ _ _ T (mkF m 13 #[iv p0, iv p1, iv p2, iv p3, iv 1, uu, uu, uu, uu, uu, uu, uu] [])
    refine oWk.st (fun _ kt => XS.iload X.here hx rfl (hb hby at_13) rfl kt) ?_
    show oWk _ _ _ _ T (mkF m 15 #[iv p0, iv p1, iv p2, iv p3, iv 1, uu, uu, uu, uu, uu, uu, uu] [(.int 1)])
    refine oWk.st (fun _ kt => XS.ifNo X.here hx rfl (hb hby at_15) rfl ((if0 _ _).trans (feq (by decide)).1) kt) ?_
    show oWk _ _ _ _ T (mkF m 18 #[iv p0, iv p1, iv p2, iv p3, iv 1, uu, uu, uu, uu, uu, uu, uu] [])
    have Oh := K.old O0 all0
    obtain ⟨T, X, e0, st⟩ := getS2 X hx hZ hown (host := "") (Or.inl (oW hw 61 rfl)) Via.refl e0 (S_ERROR.ext Oh) (g := (mkF m 18 #[iv p0, iv p1, iv p2, iv p3, iv 1, uu, uu, uu, uu, uu, uu, uu] [])) rfl (hb hby at_18)
    refine oWk.st st ?_
    show oWk _ _ _ _ T (mkF m 21 #[iv p0, iv p1, iv p2, iv p3, iv 1, uu, uu, uu, uu, uu, uu, uu] [(.ref er)])
    refine oWk.st (fun _ kt => XS.goto X.here hx rfl (pc0 := 21) (pc' := 27) rfl (hb hby at_21) (by decide) (by decide) kt) ?_
    show oWk _ _ _ _ T (mkF m 27 #[iv p0, iv p1, iv p2, iv p3, iv 1, uu, uu, uu, uu, uu, uu, uu] [(.ref er)])
    refine oWk.st (fun _ kt => XS.astore X.here hx rfl (hb hby at_27) rfl rfl (l' := #[iv p0, iv p1, iv p2, iv p3, iv 1, rv er, uu, uu, uu, uu, uu, uu]) rfl kt) ?_
    show oWk _ _ _ _ T (mkF m 29 #[iv p0, iv p1, iv p2, iv p3, iv 1, rv er, uu, uu, uu, uu, uu, uu] [])
    refine oWk.st (fun _ kt => XS.iconst X.here hx rfl (hb hby at_29) kt) ?_
    show oWk _ _ _ _ T (mkF m 30 #[iv p0, iv p1, iv p2, iv p3, iv 1, rv er, uu, uu, uu, uu, uu, uu] [(.int 2)])
    obtain ⟨sc, g18⟩ : ∃ z, z = h0.size := ⟨_, rfl⟩
    have ge_sc : h0.size ≤ sc := Nat.le_trans K.le (Nat.le_of_eq g18.symm)
    obtain ⟨T, h, k18, X, e0, E18, A18, st⟩ := newP X hx hZ (oW hw 3 rfl) e0 (g := (mkF m 30 #[iv p0, iv p1, iv p2, iv p3, iv 1, rv er, uu, uu, uu, uu, uu, uu] [(.int 2)])) rfl (hb hby at_30) rfl (by decide) (cap := 2) (by decide) (by decide) (by decide) (by decide)
    rw [← g18] at A18 st
    refine oWk.st st ?_
    have K := K.ext E18
    have V_sc : Arv Z h sc k18 .char (2 : Int32) [(.int (0 : Int32)), (.int (0 : Int32))] (.int (0 : Int32)) := (Arv.new A18 (by decide)).pad (pad_rep [] (.int (0 : Int32)) 2)
    show oWk _ _ _ _ T (mkF m 32 #[iv p0, iv p1, iv p2, iv p3, iv 1, rv er, uu, uu, uu, uu, uu, uu] [(.ref sc)])
    refine oWk.st (fun _ kt => XS.astore X.here hx rfl (hb hby at_32) rfl rfl (l' := #[iv p0, iv p1, iv p2, iv p3, iv 1, rv er, rv sc, uu, uu, uu, uu, uu]) rfl kt) ?_
    show oWk _ _ _ _ T (mkF m 34 #[iv p0, iv p1, iv p2, iv p3, iv 1, rv er, rv sc, uu, uu, uu, uu, uu] [])
    refine oWk.st (fun _ kt => XS.aload X.here hx rfl (hb hby at_34) rfl rfl kt) ?_
    show oWk _ _ _ _ T (mkF m 36 #[iv p0, iv p1, iv p2, iv p3, iv 1, rv er, rv sc, uu, uu, uu, uu, uu] [(.ref sc)])
    refine oWk.st (fun _ kt => XS.iconst X.here hx rfl (hb hby at_36) kt) ?_
    show oWk _ _ _ _ T (mkF m 37 #[iv p0, iv p1, iv p2, iv p3, iv 1, rv er, rv sc, uu, uu, uu, uu, uu] [(.int 0), (.ref sc)])
    refine oWk.st (fun _ kt => XS.iloadN X.here hx rfl (hb hby at_37) rfl kt) ?_
    show oWk _ _ _ _ T (mkF m 38 #[iv p0, iv p1, iv p2, iv p3, iv 1, rv er, rv sc, uu, uu, uu, uu, uu] [(.int p2), (.int 0), (.ref sc)])
    refine oWk.st (fun _ kt => XS.sipush X.here hx rfl (hb hby at_38) kt) ?_
    show oWk _ _ _ _ T (mkF m 41 #[iv p0, iv p1, iv p2, iv p3, iv 1, rv er, rv sc, uu, uu, uu, uu, uu] [(.int 255), (.int p2), (.int 0), (.ref sc)])
    refine oWk.st (fun _ kt => XS.iand X.here hx rfl (hb hby at_41) rfl kt) ?_
    show oWk _ _ _ _ T (mkF m 42 #[iv p0, iv p1, iv p2, iv p3, iv 1, rv er, rv sc, uu, uu, uu, uu, uu] [(.int (p2 &&& (255 : Int32))), (.int 0), (.ref sc)])
    refine oWk.st (fun _ kt => XS.i2c X.here hx rfl (hb hby at_42) rfl kt) ?_
    show oWk _ _ _ _ T (mkF m 43 #[iv p0, iv p1, iv p2, iv p3, iv 1, rv er, rv sc, uu, uu, uu, uu, uu] [(.int ((p2 &&& (255 : Int32)).toUInt32.toUInt16.toUInt32.toInt32)), (.int 0), (.ref sc)])
    rw [oChr (oM255 _)]
    show oWk _ _ _ _ T (mkF m 43 #[iv p0, iv p1, iv p2, iv p3, iv 1, rv er, rv sc, uu, uu, uu, uu, uu] [(.int (p2 &&& (255 : Int32))), (.int 0), (.ref sc)])
    generalize hg43 : (p2 &&& (255 : Int32)) = ch43
    have hr43 := oM255 p2
    rw [hg43] at hr43
    show oWk _ _ _ _ T (mkF m 43 #[iv p0, iv p1, iv p2, iv p3, iv 1, rv er, rv sc, uu, uu, uu, uu, uu] [(.int ch43), (.int 0), (.ref sc)])
    obtain ⟨cl19, Ar19, q19, Sz19, Nn19, Hs19, Ft19⟩ := id V_sc
    have hin19 : ¬ ((0 : Int32) < 0 ∨ cl19.slots.size ≤ ((0 : Int32)).toNatClampNeg) := inb_of Sz19 ⟨by decide, by decide⟩
    obtain ⟨T, h, X, e0, W19, st⟩ := stC X hx hZ e0 Ar19 (j := (0 : Int32)) hin19 (g := (mkF m 43 #[iv p0, iv p1, iv p2, iv p3, iv 1, rv er, rv sc, uu, uu, uu, uu, uu] [(.int ch43), (.int 0), (.ref sc)])) rfl rfl (hb hby at_43)
    refine oWk.st st ?_
    have K := K.wr W19 (Or.inr ge_sc)
    have V_sc := Arv.set Ar19 q19 Sz19 Nn19 Hs19 Ft19 (fits_nar_char _) W19 0 rfl (Nat.le_of_ble_eq_true rfl)
    rw [show nar .char ch43 = ch43 from oChr hr43] at V_sc
    replace V_sc : Arv Z h sc k18 .char (2 : Int32) [(.int ch43), (.int (0 : Int32))] (.int (0 : Int32)) := V_sc
    show oWk _ _ _ _ T (mkF m 44 #[iv p0, iv p1, iv p2, iv p3, iv 1, rv er, rv sc, uu, uu, uu, uu, uu] [])
    refine oWk.st (fun _ kt => XS.aload X.here hx rfl (hb hby at_44) rfl rfl kt) ?_
    show oWk _ _ _ _ T (mkF m 46 #[iv p0, iv p1, iv p2, iv p3, iv 1, rv er, rv sc, uu, uu, uu, uu, uu] [(.ref sc)])
    refine oWk.st (fun _ kt => XS.iconst X.here hx rfl (hb hby at_46) kt) ?_
    show oWk _ _ _ _ T (mkF m 47 #[iv p0, iv p1, iv p2, iv p3, iv 1, rv er, rv sc, uu, uu, uu, uu, uu] [(.int 1), (.ref sc)])
    refine oWk.st (fun _ kt => XS.iloadN X.here hx rfl (hb hby at_47) rfl kt) ?_
    show oWk _ _ _ _ T (mkF m 48 #[iv p0, iv p1, iv p2, iv p3, iv 1, rv er, rv sc, uu, uu, uu, uu, uu] [(.int p2), (.int 1), (.ref sc)])
    refine oWk.st (fun _ kt => XS.bipush X.here hx rfl (hb hby at_48) kt) ?_
    show oWk _ _ _ _ T (mkF m 50 #[iv p0, iv p1, iv p2, iv p3, iv 1, rv er, rv sc, uu, uu, uu, uu, uu] [(.int 8), (.int p2), (.int 1), (.ref sc)])
    refine oWk.st (fun _ kt => XS.iushr X.here hx rfl (hb hby at_50) rfl kt) ?_
    show oWk _ _ _ _ T (mkF m 51 #[iv p0, iv p1, iv p2, iv p3, iv 1, rv er, rv sc, uu, uu, uu, uu, uu] [(.int ((p2.toUInt32 >>> ((8 : Int32) &&& 31).toUInt32).toInt32)), (.int 1), (.ref sc)])
    refine oWk.st (fun _ kt => XS.sipush X.here hx rfl (hb hby at_51) kt) ?_
    show oWk _ _ _ _ T (mkF m 54 #[iv p0, iv p1, iv p2, iv p3, iv 1, rv er, rv sc, uu, uu, uu, uu, uu] [(.int 255), (.int ((p2.toUInt32 >>> ((8 : Int32) &&& 31).toUInt32).toInt32)), (.int 1), (.ref sc)])
    refine oWk.st (fun _ kt => XS.iand X.here hx rfl (hb hby at_54) rfl kt) ?_
    show oWk _ _ _ _ T (mkF m 55 #[iv p0, iv p1, iv p2, iv p3, iv 1, rv er, rv sc, uu, uu, uu, uu, uu] [(.int (((p2.toUInt32 >>> ((8 : Int32) &&& 31).toUInt32).toInt32) &&& (255 : Int32))), (.int 1), (.ref sc)])
    refine oWk.st (fun _ kt => XS.i2c X.here hx rfl (hb hby at_55) rfl kt) ?_
    show oWk _ _ _ _ T (mkF m 56 #[iv p0, iv p1, iv p2, iv p3, iv 1, rv er, rv sc, uu, uu, uu, uu, uu] [(.int ((((p2.toUInt32 >>> ((8 : Int32) &&& 31).toUInt32).toInt32) &&& (255 : Int32)).toUInt32.toUInt16.toUInt32.toInt32)), (.int 1), (.ref sc)])
    rw [oChr (oM255 _)]
    show oWk _ _ _ _ T (mkF m 56 #[iv p0, iv p1, iv p2, iv p3, iv 1, rv er, rv sc, uu, uu, uu, uu, uu] [(.int (((p2.toUInt32 >>> ((8 : Int32) &&& 31).toUInt32).toInt32) &&& (255 : Int32))), (.int 1), (.ref sc)])
    generalize hg56 : (((p2.toUInt32 >>> ((8 : Int32) &&& 31).toUInt32).toInt32) &&& (255 : Int32)) = ch56
    have hr56 := oM255 ((p2.toUInt32 >>> ((8 : Int32) &&& 31).toUInt32).toInt32)
    rw [hg56] at hr56
    show oWk _ _ _ _ T (mkF m 56 #[iv p0, iv p1, iv p2, iv p3, iv 1, rv er, rv sc, uu, uu, uu, uu, uu] [(.int ch56), (.int 1), (.ref sc)])
    obtain ⟨cl20, Ar20, q20, Sz20, Nn20, Hs20, Ft20⟩ := id V_sc
    have hin20 : ¬ ((1 : Int32) < 0 ∨ cl20.slots.size ≤ ((1 : Int32)).toNatClampNeg) := inb_of Sz20 ⟨by decide, by decide⟩
    obtain ⟨T, h, X, e0, W20, st⟩ := stC X hx hZ e0 Ar20 (j := (1 : Int32)) hin20 (g := (mkF m 56 #[iv p0, iv p1, iv p2, iv p3, iv 1, rv er, rv sc, uu, uu, uu, uu, uu] [(.int ch56), (.int 1), (.ref sc)])) rfl rfl (hb hby at_56)
    refine oWk.st st ?_
    have K := K.wr W20 (Or.inr ge_sc)
    have V_sc := Arv.set Ar20 q20 Sz20 Nn20 Hs20 Ft20 (fits_nar_char _) W20 1 rfl (Nat.le_of_ble_eq_true rfl)
    rw [show nar .char ch56 = ch56 from oChr hr56] at V_sc
    replace V_sc : Arv Z h sc k18 .char (2 : Int32) [(.int ch43), (.int ch56)] (.int (0 : Int32)) := V_sc
    show oWk _ _ _ _ T (mkF m 57 #[iv p0, iv p1, iv p2, iv p3, iv 1, rv er, rv sc, uu, uu, uu, uu, uu] [])
    refine oWk.st (fun _ kt => XS.iconst X.here hx rfl (hb hby at_57) kt) ?_
    show oWk _ _ _ _ T (mkF m 58 #[iv p0, iv p1, iv p2, iv p3, iv 1, rv er, rv sc, uu, uu, uu, uu, uu] [(.int 2)])
    obtain ⟨mc, g21⟩ : ∃ z, z = h.size := ⟨_, rfl⟩
    have ne_sc_mc : sc ≠ mc := Nat.ne_of_lt (Nat.lt_of_lt_of_le V_sc.lt (Nat.le_of_eq g21.symm))
    have ge_mc : h0.size ≤ mc := Nat.le_trans K.le (Nat.le_of_eq g21.symm)
    obtain ⟨T, h, k21, X, e0, E21, A21, st⟩ := newP X hx hZ (oW hw 3 rfl) e0 (g := (mkF m 58 #[iv p0, iv p1, iv p2, iv p3, iv 1, rv er, rv sc, uu, uu, uu, uu, uu] [(.int 2)])) rfl (hb hby at_58) rfl (by decide) (cap := 2) (by decide) (by decide) (by decide) (by decide)
    rw [← g21] at A21 st
    refine oWk.st st ?_
    have K := K.ext E21
    have V_mc : Arv Z h mc k21 .char (2 : Int32) [(.int (0 : Int32)), (.int (0 : Int32))] (.int (0 : Int32)) := (Arv.new A21 (by decide)).pad (pad_rep [] (.int (0 : Int32)) 2)
    show oWk _ _ _ _ T (mkF m 60 #[iv p0, iv p1, iv p2, iv p3, iv 1, rv er, rv sc, uu, uu, uu, uu, uu] [(.ref mc)])
    refine oWk.st (fun _ kt => XS.astore X.here hx rfl (hb hby at_60) rfl rfl (l' := #[iv p0, iv p1, iv p2, iv p3, iv 1, rv er, rv sc, rv mc, uu, uu, uu, uu]) rfl kt) ?_
    show oWk _ _ _ _ T (mkF m 62 #[iv p0, iv p1, iv p2, iv p3, iv 1, rv er, rv sc, rv mc, uu, uu, uu, uu] [])
    refine oWk.st (fun _ kt => XS.aload X.here hx rfl (hb hby at_62) rfl rfl kt) ?_
    show oWk _ _ _ _ T (mkF m 64 #[iv p0, iv p1, iv p2, iv p3, iv 1, rv er, rv sc, rv mc, uu, uu, uu, uu] [(.ref mc)])
    refine oWk.st (fun _ kt => XS.iconst X.here hx rfl (hb hby at_64) kt) ?_
    show oWk _ _ _ _ T (mkF m 65 #[iv p0, iv p1, iv p2, iv p3, iv 1, rv er, rv sc, rv mc, uu, uu, uu, uu] [(.int 0), (.ref mc)])
    refine oWk.st (fun _ kt => XS.iloadN X.here hx rfl (hb hby at_65) rfl kt) ?_
    show oWk _ _ _ _ T (mkF m 66 #[iv p0, iv p1, iv p2, iv p3, iv 1, rv er, rv sc, rv mc, uu, uu, uu, uu] [(.int p3), (.int 0), (.ref mc)])
    refine oWk.st (fun _ kt => XS.sipush X.here hx rfl (hb hby at_66) kt) ?_
    show oWk _ _ _ _ T (mkF m 69 #[iv p0, iv p1, iv p2, iv p3, iv 1, rv er, rv sc, rv mc, uu, uu, uu, uu] [(.int 255), (.int p3), (.int 0), (.ref mc)])
    refine oWk.st (fun _ kt => XS.iand X.here hx rfl (hb hby at_69) rfl kt) ?_
    show oWk _ _ _ _ T (mkF m 70 #[iv p0, iv p1, iv p2, iv p3, iv 1, rv er, rv sc, rv mc, uu, uu, uu, uu] [(.int (p3 &&& (255 : Int32))), (.int 0), (.ref mc)])
    refine oWk.st (fun _ kt => XS.i2c X.here hx rfl (hb hby at_70) rfl kt) ?_
    show oWk _ _ _ _ T (mkF m 71 #[iv p0, iv p1, iv p2, iv p3, iv 1, rv er, rv sc, rv mc, uu, uu, uu, uu] [(.int ((p3 &&& (255 : Int32)).toUInt32.toUInt16.toUInt32.toInt32)), (.int 0), (.ref mc)])
    rw [oChr (oM255 _)]
    show oWk _ _ _ _ T (mkF m 71 #[iv p0, iv p1, iv p2, iv p3, iv 1, rv er, rv sc, rv mc, uu, uu, uu, uu] [(.int (p3 &&& (255 : Int32))), (.int 0), (.ref mc)])
    generalize hg71 : (p3 &&& (255 : Int32)) = ch71
    have hr71 := oM255 p3
    rw [hg71] at hr71
    show oWk _ _ _ _ T (mkF m 71 #[iv p0, iv p1, iv p2, iv p3, iv 1, rv er, rv sc, rv mc, uu, uu, uu, uu] [(.int ch71), (.int 0), (.ref mc)])
    obtain ⟨cl22, Ar22, q22, Sz22, Nn22, Hs22, Ft22⟩ := id V_mc
    have hin22 : ¬ ((0 : Int32) < 0 ∨ cl22.slots.size ≤ ((0 : Int32)).toNatClampNeg) := inb_of Sz22 ⟨by decide, by decide⟩
    obtain ⟨T, h, X, e0, W22, st⟩ := stC X hx hZ e0 Ar22 (j := (0 : Int32)) hin22 (g := (mkF m 71 #[iv p0, iv p1, iv p2, iv p3, iv 1, rv er, rv sc, rv mc, uu, uu, uu, uu] [(.int ch71), (.int 0), (.ref mc)])) rfl rfl (hb hby at_71)
    refine oWk.st st ?_
    have K := K.wr W22 (Or.inr ge_mc)
    have V_mc := Arv.set Ar22 q22 Sz22 Nn22 Hs22 Ft22 (fits_nar_char _) W22 0 rfl (Nat.le_of_ble_eq_true rfl)
    rw [show nar .char ch71 = ch71 from oChr hr71] at V_mc
    replace V_mc : Arv Z h mc k21 .char (2 : Int32) [(.int ch71), (.int (0 : Int32))] (.int (0 : Int32)) := V_mc
    show oWk _ _ _ _ T (mkF m 72 #[iv p0, iv p1, iv p2, iv p3, iv 1, rv er, rv sc, rv mc, uu, uu, uu, uu] [])
    refine oWk.st (fun _ kt => XS.aload X.here hx rfl (hb hby at_72) rfl rfl kt) ?_
    show oWk _ _ _ _ T (mkF m 74 #[iv p0, iv p1, iv p2, iv p3, iv 1, rv er, rv sc, rv mc, uu, uu, uu, uu] [(.ref mc)])
    refine oWk.st (fun _ kt => XS.iconst X.here hx rfl (hb hby at_74) kt) ?_
    show oWk _ _ _ _ T (mkF m 75 #[iv p0, iv p1, iv p2, iv p3, iv 1, rv er, rv sc, rv mc, uu, uu, uu, uu] [(.int 1), (.ref mc)])
    refine oWk.st (fun _ kt => XS.iloadN X.here hx rfl (hb hby at_75) rfl kt) ?_
    show oWk _ _ _ _ T (mkF m 76 #[iv p0, iv p1, iv p2, iv p3, iv 1, rv er, rv sc, rv mc, uu, uu, uu, uu] [(.int p3), (.int 1), (.ref mc)])
    refine oWk.st (fun _ kt => XS.bipush X.here hx rfl (hb hby at_76) kt) ?_
    show oWk _ _ _ _ T (mkF m 78 #[iv p0, iv p1, iv p2, iv p3, iv 1, rv er, rv sc, rv mc, uu, uu, uu, uu] [(.int 8), (.int p3), (.int 1), (.ref mc)])
    refine oWk.st (fun _ kt => XS.iushr X.here hx rfl (hb hby at_78) rfl kt) ?_
    show oWk _ _ _ _ T (mkF m 79 #[iv p0, iv p1, iv p2, iv p3, iv 1, rv er, rv sc, rv mc, uu, uu, uu, uu] [(.int ((p3.toUInt32 >>> ((8 : Int32) &&& 31).toUInt32).toInt32)), (.int 1), (.ref mc)])
    refine oWk.st (fun _ kt => XS.sipush X.here hx rfl (hb hby at_79) kt) ?_
    show oWk _ _ _ _ T (mkF m 82 #[iv p0, iv p1, iv p2, iv p3, iv 1, rv er, rv sc, rv mc, uu, uu, uu, uu] [(.int 255), (.int ((p3.toUInt32 >>> ((8 : Int32) &&& 31).toUInt32).toInt32)), (.int 1), (.ref mc)])
    refine oWk.st (fun _ kt => XS.iand X.here hx rfl (hb hby at_82) rfl kt) ?_
    show oWk _ _ _ _ T (mkF m 83 #[iv p0, iv p1, iv p2, iv p3, iv 1, rv er, rv sc, rv mc, uu, uu, uu, uu] [(.int (((p3.toUInt32 >>> ((8 : Int32) &&& 31).toUInt32).toInt32) &&& (255 : Int32))), (.int 1), (.ref mc)])
    refine oWk.st (fun _ kt => XS.i2c X.here hx rfl (hb hby at_83) rfl kt) ?_
    show oWk _ _ _ _ T (mkF m 84 #[iv p0, iv p1, iv p2, iv p3, iv 1, rv er, rv sc, rv mc, uu, uu, uu, uu] [(.int ((((p3.toUInt32 >>> ((8 : Int32) &&& 31).toUInt32).toInt32) &&& (255 : Int32)).toUInt32.toUInt16.toUInt32.toInt32)), (.int 1), (.ref mc)])
    rw [oChr (oM255 _)]
    show oWk _ _ _ _ T (mkF m 84 #[iv p0, iv p1, iv p2, iv p3, iv 1, rv er, rv sc, rv mc, uu, uu, uu, uu] [(.int (((p3.toUInt32 >>> ((8 : Int32) &&& 31).toUInt32).toInt32) &&& (255 : Int32))), (.int 1), (.ref mc)])
    generalize hg84 : (((p3.toUInt32 >>> ((8 : Int32) &&& 31).toUInt32).toInt32) &&& (255 : Int32)) = ch84
    have hr84 := oM255 ((p3.toUInt32 >>> ((8 : Int32) &&& 31).toUInt32).toInt32)
    rw [hg84] at hr84
    show oWk _ _ _ _ T (mkF m 84 #[iv p0, iv p1, iv p2, iv p3, iv 1, rv er, rv sc, rv mc, uu, uu, uu, uu] [(.int ch84), (.int 1), (.ref mc)])
    obtain ⟨cl23, Ar23, q23, Sz23, Nn23, Hs23, Ft23⟩ := id V_mc
    have hin23 : ¬ ((1 : Int32) < 0 ∨ cl23.slots.size ≤ ((1 : Int32)).toNatClampNeg) := inb_of Sz23 ⟨by decide, by decide⟩
    obtain ⟨T, h, X, e0, W23, st⟩ := stC X hx hZ e0 Ar23 (j := (1 : Int32)) hin23 (g := (mkF m 84 #[iv p0, iv p1, iv p2, iv p3, iv 1, rv er, rv sc, rv mc, uu, uu, uu, uu] [(.int ch84), (.int 1), (.ref mc)])) rfl rfl (hb hby at_84)
    refine oWk.st st ?_
    have K := K.wr W23 (Or.inr ge_mc)
    have V_mc := Arv.set Ar23 q23 Sz23 Nn23 Hs23 Ft23 (fits_nar_char _) W23 1 rfl (Nat.le_of_ble_eq_true rfl)
    rw [show nar .char ch84 = ch84 from oChr hr84] at V_mc
    replace V_mc : Arv Z h mc k21 .char (2 : Int32) [(.int ch71), (.int ch84)] (.int (0 : Int32)) := V_mc
    show oWk _ _ _ _ T (mkF m 85 #[iv p0, iv p1, iv p2, iv p3, iv 1, rv er, rv sc, rv mc, uu, uu, uu, uu] [])
    obtain ⟨so, g24⟩ : ∃ z, z = h.size := ⟨_, rfl⟩
    have V_sc := (((V_sc.ext E21).other W22 ne_sc_mc).other W23 ne_sc_mc)
    have ne_sc_so : sc ≠ so := Nat.ne_of_lt (Nat.lt_of_lt_of_le V_sc.lt (Nat.le_of_eq g24.symm))
    have ne_mc_so : mc ≠ so := Nat.ne_of_lt (Nat.lt_of_lt_of_le V_mc.lt (Nat.le_of_eq g24.symm))
    have ge_so : h0.size ≤ so := Nat.le_trans K.le (Nat.le_of_eq g24.symm)
    obtain ⟨T, h, X, e0, E24, A24, D24, -, st⟩ := newO X hx hZ hown (oW hw 4 rfl) (oW hw 5 rfl) (oW hw 6 rfl) e0 (g := (mkF m 85 #[iv p0, iv p1, iv p2, iv p3, iv 1, rv er, rv sc, rv mc, uu, uu, uu, uu] [])) rfl (hb hby at_85) (by decide) (by decide)
    rw [← g24] at A24 D24 st
    refine oWk.st st ?_
    have K := K.ext E24
    have E_so := A24
    have F_coder_so : Fld Z h so "java/lang/String" "coder" "B" (.int (0 : Int32)) := D24 (Or.inr (oW hw 30 rfl)) (ty := .byte) (by decide)
    have F_value_so : Fld Z h so "java/lang/String" "value" "[B" .null := D24 (Or.inr (oW hw 32 rfl)) (ty := (.array .byte)) (by decide)
    show oWk _ _ _ _ T (mkF m 88 #[iv p0, iv p1, iv p2, iv p3, iv 1, rv er, rv sc, rv mc, uu, uu, uu, uu] [(.ref so)])
    refine oWk.st (fun _ kt => XS.dup X.here hx rfl (hb hby at_88) rfl rfl kt) ?_
    show oWk _ _ _ _ T (mkF m 89 #[iv p0, iv p1, iv p2, iv p3, iv 1, rv er, rv sc, rv mc, uu, uu, uu, uu] [(.ref so), (.ref so)])
    refine oWk.st (fun _ kt => XS.aload X.here hx rfl (hb hby at_89) rfl rfl kt) ?_
    show oWk _ _ _ _ T (mkF m 91 #[iv p0, iv p1, iv p2, iv p3, iv 1, rv er, rv sc, rv mc, uu, uu, uu, uu] [(.ref sc), (.ref so), (.ref so)])
    have V_sc := (V_sc.ext E24)
    have lt_sc := V_sc.lt
    have V_mc := (V_mc.ext E24)
    have lt_mc := V_mc.lt
    have lt_so := E_so.lt
    have Oh := K.old O0 all0
    obtain ⟨_, _, ⟨T, L26, k26, n26⟩, -, X, ⟨Lc26, hQ, l26, y26, z26⟩, st⟩ := X.specialBack hx (y := yy4) rfl hown (mvT hZ (oW hw 7 rfl)) (mvT hZ (oW hw 8 rfl)) (mvT hZ (oW hw 9 rfl)) (by decide) (backOf (W := 1) (rI1_2 l Z a0 hw [] so sc k18 xz .null (.int (0 : Int32)) ch43 ch56 h Oh S_COMPACT_STRINGS hz (Nat.le_trans O0.1 ge_so) E_so F_value_so F_coder_so V_sc (oLe255 hr43) (oLe255 hr56)) hZ (oW hw 9 rfl) (oW hw 6 rfl) (by decide) (by decide)) (g := (mkF m 91 #[iv p0, iv p1, iv p2, iv p3, iv 1, rv er, rv sc, rv mc, uu, uu, uu, uu] [(.ref sc), (.ref so), (.ref so)])) rfl (by rw [hml]; rfl) (Steps.refl _) (a := so) (argsL := [(.ref sc)]) (rest := [(.ref so)]) (lenOf pd_5 rfl) rfl (by show 2 * 0 + _ ≤ _; exact Nat.le_of_eq rfl) (hb hby at_91) (fun _ _ => ⟨rfl, e0, (by decide : 3 + 1 ≤ _), (by decide : 8 + 2 ≤ _)⟩)
    dsimp only [Pt.U, Pt.locs, Pt.cells, Pt.slots] at X l26 y26 z26 st hQ
    subst l26 y26 z26
    obtain ⟨h, e0⟩ : ∃ z, T.heap = z := ⟨_, rfl⟩
    rw [e0] at hQ
    obtain ⟨sob, sobk, rfl, K25, E_so, F_coder_so, F_value_so, gn_sob, V_sob⟩ := hQ
    have ge_sob := Nat.le_trans K.le gn_sob
    have ne_sc_sob : sc ≠ sob := Nat.ne_of_lt (Nat.lt_of_lt_of_le lt_sc gn_sob)
    have ne_mc_sob : mc ≠ sob := Nat.ne_of_lt (Nat.lt_of_lt_of_le lt_mc gn_sob)
    have ne_so_sob : so ≠ sob := Nat.ne_of_lt (Nat.lt_of_lt_of_le lt_so gn_sob)
    have K := K.call K25 (allS (Or.inr ge_so) all0)
    refine oWk.tr st ?_
    show oWk _ _ _ _ T (mkF m 94 #[iv p0, iv p1, iv p2, iv p3, iv 1, rv er, rv sc, rv mc, uu, uu, uu, uu] [(.ref so)])
    refine oWk.st (fun _ kt => XS.astore X.here hx rfl (hb hby at_94) rfl rfl (l' := #[iv p0, iv p1, iv p2, iv p3, iv 1, rv er, rv sc, rv mc, rv so, uu, uu, uu]) rfl kt) ?_
    show oWk _ _ _ _ T (mkF m 96 #[iv p0, iv p1, iv p2, iv p3, iv 1, rv er, rv sc, rv mc, rv so, uu, uu, uu] [])
    obtain ⟨me, g27⟩ : ∃ z, z = h.size := ⟨_, rfl⟩
    have V_sc := (V_sc.keep K25.1 (ninS ne_sc_so nin0))
    have ne_sc_me : sc ≠ me := Nat.ne_of_lt (Nat.lt_of_lt_of_le V_sc.lt (Nat.le_of_eq g27.symm))
    have V_mc := (V_mc.keep K25.1 (ninS ne_mc_so nin0))
    have ne_mc_me : mc ≠ me := Nat.ne_of_lt (Nat.lt_of_lt_of_le V_mc.lt (Nat.le_of_eq g27.symm))
    have ne_so_me : so ≠ me := Nat.ne_of_lt (Nat.lt_of_lt_of_le E_so.lt (Nat.le_of_eq g27.symm))
    have ne_sob_me : sob ≠ me := Nat.ne_of_lt (Nat.lt_of_lt_of_le V_sob.lt (Nat.le_of_eq g27.symm))
    have ge_me : h0.size ≤ me := Nat.le_trans K.le (Nat.le_of_eq g27.symm)
    obtain ⟨T, h, X, e0, E27, A27, D27, -, st⟩ := newO X hx hZ hown (oW hw 4 rfl) (oW hw 5 rfl) (oW hw 6 rfl) e0 (g := (mkF m 96 #[iv p0, iv p1, iv p2, iv p3, iv 1, rv er, rv sc, rv mc, rv so, uu, uu, uu] [])) rfl (hb hby at_96) (by decide) (by decide)
    rw [← g27] at A27 D27 st
    refine oWk.st st ?_
    have K := K.ext E27
    have E_me := A27
    have F_coder_me : Fld Z h me "java/lang/String" "coder" "B" (.int (0 : Int32)) := D27 (Or.inr (oW hw 30 rfl)) (ty := .byte) (by decide)
    have F_value_me : Fld Z h me "java/lang/String" "value" "[B" .null := D27 (Or.inr (oW hw 32 rfl)) (ty := (.array .byte)) (by decide)
    show oWk _ _ _ _ T (mkF m 99 #[iv p0, iv p1, iv p2, iv p3, iv 1, rv er, rv sc, rv mc, rv so, uu, uu, uu] [(.ref me)])
    refine oWk.st (fun _ kt => XS.dup X.here hx rfl (hb hby at_99) rfl rfl kt) ?_
    show oWk _ _ _ _ T (mkF m 100 #[iv p0, iv p1, iv p2, iv p3, iv 1, rv er, rv sc, rv mc, rv so, uu, uu, uu] [(.ref me), (.ref me)])
    refine oWk.st (fun _ kt => XS.aload X.here hx rfl (hb hby at_100) rfl rfl kt) ?_
    show oWk _ _ _ _ T (mkF m 102 #[iv p0, iv p1, iv p2, iv p3, iv 1, rv er, rv sc, rv mc, rv so, uu, uu, uu] [(.ref mc), (.ref me), (.ref me)])
    have V_mc := (V_mc.ext E27)
    have V_sc := (V_sc.ext E27)
    have lt_sc := V_sc.lt
    have lt_mc := V_mc.lt
    have E_so := (E_so.ext E27)
    have lt_so := E_so.lt
    have V_sob := (V_sob.ext E27)
    have lt_sob := V_sob.lt
    have lt_me := E_me.lt
    have Oh := K.old O0 all0
    obtain ⟨_, _, ⟨T, L29, k29, n29⟩, -, X, ⟨Lc29, hQ, l29, y29, z29⟩, st⟩ := X.specialBack hx (y := yy4) rfl hown (mvT hZ (oW hw 7 rfl)) (mvT hZ (oW hw 8 rfl)) (mvT hZ (oW hw 9 rfl)) (by decide) (backOf (W := 1) (rI1_2 l Z a0 hw [] me mc k21 xz .null (.int (0 : Int32)) ch71 ch84 h Oh S_COMPACT_STRINGS hz (Nat.le_trans O0.1 ge_me) E_me F_value_me F_coder_me V_mc (oLe255 hr71) (oLe255 hr84)) hZ (oW hw 9 rfl) (oW hw 6 rfl) (by decide) (by decide)) (g := (mkF m 102 #[iv p0, iv p1, iv p2, iv p3, iv 1, rv er, rv sc, rv mc, rv so, uu, uu, uu] [(.ref mc), (.ref me), (.ref me)])) rfl (by rw [hml]; rfl) (Steps.refl _) (a := me) (argsL := [(.ref mc)]) (rest := [(.ref me)]) (lenOf pd_5 rfl) rfl (by show 2 * 0 + _ ≤ _; exact Nat.le_of_eq rfl) (hb hby at_102) (fun _ _ => ⟨rfl, e0, (by decide : 5 + 1 ≤ _), (by decide : 14 + 2 ≤ _)⟩)
    dsimp only [Pt.U, Pt.locs, Pt.cells, Pt.slots] at X l29 y29 z29 st hQ
    subst l29 y29 z29
    obtain ⟨h, e0⟩ : ∃ z, T.heap = z := ⟨_, rfl⟩
    rw [e0] at hQ
    obtain ⟨meb, mebk, rfl, K28, E_me, F_coder_me, F_value_me, gn_meb, V_meb⟩ := hQ
    have ge_meb := Nat.le_trans K.le gn_meb
    have ne_sc_meb : sc ≠ meb := Nat.ne_of_lt (Nat.lt_of_lt_of_le lt_sc gn_meb)
    have ne_mc_meb : mc ≠ meb := Nat.ne_of_lt (Nat.lt_of_lt_of_le lt_mc gn_meb)
    have ne_so_meb : so ≠ meb := Nat.ne_of_lt (Nat.lt_of_lt_of_le lt_so gn_meb)
    have ne_sob_meb : sob ≠ meb := Nat.ne_of_lt (Nat.lt_of_lt_of_le lt_sob gn_meb)
    have ne_me_meb : me ≠ meb := Nat.ne_of_lt (Nat.lt_of_lt_of_le lt_me gn_meb)
    have K := K.call K28 (allS (Or.inr ge_me) all0)
    refine oWk.tr st ?_
    show oWk _ _ _ _ T (mkF m 105 #[iv p0, iv p1, iv p2, iv p3, iv 1, rv er, rv sc, rv mc, rv so, uu, uu, uu] [(.ref me)])
    refine oWk.st (fun _ kt => XS.astore X.here hx rfl (hb hby at_105) rfl rfl (l' := #[iv p0, iv p1, iv p2, iv p3, iv 1, rv er, rv sc, rv mc, rv so, rv me, uu, uu]) rfl kt) ?_
    show oWk _ _ _ _ T (mkF m 107 #[iv p0, iv p1, iv p2, iv p3, iv 1, rv er, rv sc, rv mc, rv so, rv me, uu, uu] [])
    refine oWk.st (fun _ kt => XS.iloadN X.here hx rfl (hb hby at_107) rfl kt) ?_
    show oWk _ _ _ _ T (mkF m 108 #[iv p0, iv p1, iv p2, iv p3, iv 1, rv er, rv sc, rv mc, rv so, rv me, uu, uu] [(.int p1)])
    refine oWk.st (fun _ kt => X.ldcI hx hown (mvT hZ (oW hw 33 rfl)) rfl (hb hby at_108) kt) ?_
    show oWk _ _ _ _ T (mkF m 110 #[iv p0, iv p1, iv p2, iv p3, iv 1, rv er, rv sc, rv mc, rv so, rv me, uu, uu] [(.int 2147483647), (.int p1)])
    refine oWk.st (fun _ kt => XS.iand X.here hx rfl (hb hby at_110) rfl kt) ?_
    show oWk _ _ _ _ T (mkF m 111 #[iv p0, iv p1, iv p2, iv p3, iv 1, rv er, rv sc, rv mc, rv so, rv me, uu, uu] [(.int (p1 &&& (2147483647 : Int32)))])
    refine oWk.st (fun _ kt => XS.istore X.here hx rfl (hb hby at_111) rfl (l' := #[iv p0, iv p1, iv p2, iv p3, iv 1, rv er, rv sc, rv mc, rv so, rv me, iv (p1 &&& (2147483647 : Int32)), uu]) rfl kt) ?_
    show oWk _ _ _ _ T (mkF m 113 #[iv p0, iv p1, iv p2, iv p3, iv 1, rv er, rv sc, rv mc, rv so, rv me, iv (p1 &&& (2147483647 : Int32)), uu] [])
    obtain ⟨pp, g30⟩ : ∃ z, z = h.size := ⟨_, rfl⟩
    have V_sc := (V_sc.keep K28.1 (ninS ne_sc_me nin0))
    have ne_sc_pp : sc ≠ pp := Nat.ne_of_lt (Nat.lt_of_lt_of_le V_sc.lt (Nat.le_of_eq g30.symm))
    have V_mc := (V_mc.keep K28.1 (ninS ne_mc_me nin0))
    have ne_mc_pp : mc ≠ pp := Nat.ne_of_lt (Nat.lt_of_lt_of_le V_mc.lt (Nat.le_of_eq g30.symm))
    have E_so := (E_so.keep K28.1)
    have ne_so_pp : so ≠ pp := Nat.ne_of_lt (Nat.lt_of_lt_of_le E_so.lt (Nat.le_of_eq g30.symm))
    have V_sob := (V_sob.keep K28.1 (ninS ne_sob_me nin0))
    have ne_sob_pp : sob ≠ pp := Nat.ne_of_lt (Nat.lt_of_lt_of_le V_sob.lt (Nat.le_of_eq g30.symm))
    have ne_me_pp : me ≠ pp := Nat.ne_of_lt (Nat.lt_of_lt_of_le E_me.lt (Nat.le_of_eq g30.symm))
    have ne_meb_pp : meb ≠ pp := Nat.ne_of_lt (Nat.lt_of_lt_of_le V_meb.lt (Nat.le_of_eq g30.symm))
    have ge_pp : h0.size ≤ pp := Nat.le_trans K.le (Nat.le_of_eq g30.symm)
    obtain ⟨T, h, X, e0, E30, A30, D30, -, st⟩ := newO X hx hZ hown (oW hw 34 rfl) (oW hw 35 rfl) (oW hw 36 rfl) e0 (g := (mkF m 113 #[iv p0, iv p1, iv p2, iv p3, iv 1, rv er, rv sc, rv mc, rv so, rv me, iv (p1 &&& (2147483647 : Int32)), uu] [])) rfl (hb hby at_113) (by decide) (by decide)
    rw [← g30] at A30 D30 st
    refine oWk.st st ?_
    have K := K.ext E30
    have E_pp := A30
    have F_source_pp : Fld Z h pp "com/example/modwright/modwright/packages/PackageProblem" "source" "Ljava/lang/String;" .null := D30 (Or.inr (oW hw 47 rfl)) (ty := (.object "java/lang/String")) (by decide)
    have F_line_pp : Fld Z h pp "com/example/modwright/modwright/packages/PackageProblem" "line" "I" (.int (0 : Int32)) := D30 (Or.inr (oW hw 49 rfl)) (ty := .int) (by decide)
    have F_severity_pp : Fld Z h pp "com/example/modwright/modwright/packages/PackageProblem" "severity" "Lcom/example/modwright/modwright/packages/PackageProblem$Severity;" .null := D30 (Or.inr (oW hw 51 rfl)) (ty := (.object "com/example/modwright/modwright/packages/PackageProblem$Severity")) (by decide)
    have F_message_pp : Fld Z h pp "com/example/modwright/modwright/packages/PackageProblem" "message" "Ljava/lang/String;" .null := D30 (Or.inr (oW hw 53 rfl)) (ty := (.object "java/lang/String")) (by decide)
    show oWk _ _ _ _ T (mkF m 116 #[iv p0, iv p1, iv p2, iv p3, iv 1, rv er, rv sc, rv mc, rv so, rv me, iv (p1 &&& (2147483647 : Int32)), uu] [(.ref pp)])
    refine oWk.st (fun _ kt => XS.dup X.here hx rfl (hb hby at_116) rfl rfl kt) ?_
    show oWk _ _ _ _ T (mkF m 117 #[iv p0, iv p1, iv p2, iv p3, iv 1, rv er, rv sc, rv mc, rv so, rv me, iv (p1 &&& (2147483647 : Int32)), uu] [(.ref pp), (.ref pp)])
    refine oWk.st (fun _ kt => XS.aload X.here hx rfl (hb hby at_117) rfl rfl kt) ?_
    show oWk _ _ _ _ T (mkF m 119 #[iv p0, iv p1, iv p2, iv p3, iv 1, rv er, rv sc, rv mc, rv so, rv me, iv (p1 &&& (2147483647 : Int32)), uu] [(.ref so), (.ref pp), (.ref pp)])
    refine oWk.st (fun _ kt => XS.iload X.here hx rfl (hb hby at_119) rfl kt) ?_
    show oWk _ _ _ _ T (mkF m 121 #[iv p0, iv p1, iv p2, iv p3, iv 1, rv er, rv sc, rv mc, rv so, rv me, iv (p1 &&& (2147483647 : Int32)), uu] [(.int (p1 &&& (2147483647 : Int32))), (.ref so), (.ref pp), (.ref pp)])
    refine oWk.st (fun _ kt => XS.aload X.here hx rfl (hb hby at_121) rfl rfl kt) ?_
    show oWk _ _ _ _ T (mkF m 123 #[iv p0, iv p1, iv p2, iv p3, iv 1, rv er, rv sc, rv mc, rv so, rv me, iv (p1 &&& (2147483647 : Int32)), uu] [(.ref er), (.int (p1 &&& (2147483647 : Int32))), (.ref so), (.ref pp), (.ref pp)])
    refine oWk.st (fun _ kt => XS.aload X.here hx rfl (hb hby at_123) rfl rfl kt) ?_
    show oWk _ _ _ _ T (mkF m 125 #[iv p0, iv p1, iv p2, iv p3, iv 1, rv er, rv sc, rv mc, rv so, rv me, iv (p1 &&& (2147483647 : Int32)), uu] [(.ref me), (.ref er), (.int (p1 &&& (2147483647 : Int32))), (.ref so), (.ref pp), (.ref pp)])
    have Oh := K.old O0 all0
    obtain ⟨_, _, ⟨T, L32, k32, n32⟩, -, X, ⟨Lc32, hQ, l32, y32, z32⟩, st⟩ := X.specialBack hx (y := yy6) rfl hown (mvT hZ (oW hw 37 rfl)) (mvT hZ (oW hw 38 rfl)) (mvT hZ (oW hw 39 rfl)) (by decide) (backOf (W := 1) (rPI l Z a0 hw [] pp so (p1 &&& (2147483647 : Int32)) er me .null (.int (0 : Int32)) .null .null h Oh (Nat.le_trans O0.1 ge_pp) E_pp F_source_pp F_line_pp F_severity_pp F_message_pp (oPos p1)) hZ (oW hw 39 rfl) (oW hw 36 rfl) (by decide) (by decide)) (g := (mkF m 125 #[iv p0, iv p1, iv p2, iv p3, iv 1, rv er, rv sc, rv mc, rv so, rv me, iv (p1 &&& (2147483647 : Int32)), uu] [(.ref me), (.ref er), (.int (p1 &&& (2147483647 : Int32))), (.ref so), (.ref pp), (.ref pp)])) rfl (by rw [hml]; rfl) (Steps.refl _) (a := pp) (argsL := [(.ref so), (.int (p1 &&& (2147483647 : Int32))), (.ref er), (.ref me)]) (rest := [(.ref pp)]) (lenOf pd_6 rfl) rfl (by show 2 * 0 + _ ≤ _; exact Nat.le_of_eq rfl) (hb hby at_125) (fun _ _ => ⟨rfl, e0, (by decide : 7 + 0 ≤ _), (by decide : 20 + 0 ≤ _)⟩)
    dsimp only [Pt.U, Pt.locs, Pt.cells, Pt.slots] at X l32 y32 z32 st hQ
    subst l32 y32 z32
    obtain ⟨h, e0⟩ : ∃ z, T.heap = z := ⟨_, rfl⟩
    rw [e0] at hQ
    obtain ⟨rfl, K31, E_pp, F_source_pp, F_line_pp, F_severity_pp, F_message_pp⟩ := hQ
    have K := K.call K31 (allS (Or.inr ge_pp) all0)
    refine oWk.tr st ?_
    show oWk _ _ _ _ T (mkF m 128 #[iv p0, iv p1, iv p2, iv p3, iv 1, rv er, rv sc, rv mc, rv so, rv me, iv (p1 &&& (2147483647 : Int32)), uu] [(.ref pp)])
    refine oWk.st (fun _ kt => XS.astore X.here hx rfl (hb hby at_128) rfl rfl (l' := #[iv p0, iv p1, iv p2, iv p3, iv 1, rv er, rv sc, rv mc, rv so, rv me, iv (p1 &&& (2147483647 : Int32)), rv pp]) rfl kt) ?_
    show oWk _ _ _ _ T (mkF m 130 #[iv p0, iv p1, iv p2, iv p3, iv 1, rv er, rv sc, rv mc, rv so, rv me, iv (p1 &&& (2147483647 : Int32)), rv pp] [])
    refine oWk.st (fun _ kt => XS.aload X.here hx rfl (hb hby at_130) rfl rfl kt) ?_
    show oWk _ _ _ _ T (mkF m 132 #[iv p0, iv p1, iv p2, iv p3, iv 1, rv er, rv sc, rv mc, rv so, rv me, iv (p1 &&& (2147483647 : Int32)), rv pp] [(.ref pp)])
    have Oh := K.old O0 all0
    obtain ⟨cq34, kq34, q34a, q34b, q34c⟩ := isOf hZ e0 E_pp
    obtain ⟨_, _, ⟨T, L34, k34, n34⟩, -, X, ⟨Lc34, hQ, l34, y34, z34⟩, st⟩ := X.virtualBack hx (y := yy7) (z := yy7) hown (mvT hZ (oW hw 54 rfl)) (mvT hZ (oW hw 55 rfl)) (notFace_of_selects (args := #[]) (mvT hZ (oW hw 57 rfl))) (mvT hZ (oW hw 57 rfl)) (mvT hZ (oW hw 56 rfl)) (by decide) (backOf (W := 0) (rIE l Z a0 hw [] pp er er h Oh S_ERROR F_severity_pp) hZ (oW hw 58 rfl) (oW hw 36 rfl) (by decide) (by decide)) q34a q34c (g := (mkF m 132 #[iv p0, iv p1, iv p2, iv p3, iv 1, rv er, rv sc, rv mc, rv so, rv me, iv (p1 &&& (2147483647 : Int32)), rv pp] [(.ref pp)])) rfl (by rw [hml]; rfl) (Steps.refl _) (argsL := []) (rest := []) (lenOf pd_7 rfl) rfl (by show 2 * 0 + _ ≤ _; exact Nat.le_of_eq rfl) (hb hby at_132) (fun _ _ => ⟨rfl, e0, (by decide : 7 + 0 ≤ _), (by decide : 20 + 0 ≤ _)⟩)
    dsimp only [Pt.U, Pt.locs, Pt.cells, Pt.slots] at X l34 y34 z34 st hQ
    subst l34 y34 z34
    obtain ⟨rfl, e0, K33⟩ := hQ
    have K := K.call K33 all0
    rw [e0] at K
    refine oWk.tr st ?_
    show oWk _ _ _ _ T (mkF m 135 #[iv p0, iv p1, iv p2, iv p3, iv 1, rv er, rv sc, rv mc, rv so, rv me, iv (p1 &&& (2147483647 : Int32)), rv pp] [(.int (oBi (er = er)))])
    refine oWk.st (fun _ kt => XS.iload X.here hx rfl (hb hby at_135) rfl kt) ?_
    show oWk _ _ _ _ T (mkF m 137 #[iv p0, iv p1, iv p2, iv p3, iv 1, rv er, rv sc, rv mc, rv so, rv me, iv (p1 &&& (2147483647 : Int32)), rv pp] [(.int 1), (.int (oBi (er = er)))])
    refine oWk.st (fun _ kt => XS.icmpNo X.here hx rfl (hb hby at_137) rfl (teq (oBi_t rfl)).2 kt) ?_
    show oWk _ _ _ _ T (mkF m 140 #[iv p0, iv p1, iv p2, iv p3, iv 1, rv er, rv sc, rv mc, rv so, rv me, iv (p1 &&& (2147483647 : Int32)), rv pp] [])
    refine oWk.st (fun _ kt => XS.iconst X.here hx rfl (hb hby at_140) kt) ?_
    show oWk _ _ _ _ T (mkF m 141 #[iv p0, iv p1, iv p2, iv p3, iv 1, rv er, rv sc, rv mc, rv so, rv me, iv (p1 &&& (2147483647 : Int32)), rv pp] [(.int 1)])
    refine oWk.st (fun _ kt => XS.goto X.here hx rfl (pc0 := 141) (pc' := 145) rfl (hb hby at_141) (by decide) (by decide) kt) ?_
    show oWk _ _ _ _ T (mkF m 145 #[iv p0, iv p1, iv p2, iv p3, iv 1, rv er, rv sc, rv mc, rv so, rv me, iv (p1 &&& (2147483647 : Int32)), rv pp] [(.int 1)])
    exact oRetZ X hx hlk hret (hb hby at_145) (Or.inr rfl) (by rw [e0]; exact ⟨rfl, K.fr⟩) (by decide) (by decide)
set_option maxRecDepth 65536 in
set_option maxHeartbeats 40000000 in
theorem comes_1 {Post : Tables → Env → Array Value → State → Outcome → State → Prop} (hpost : ∀ tb e args s v u, (limb_1_1.after args s (.returned v) u = true ∧ limb_1_2.after args s (.returned v) u = true ∧ True) → FrameEnd s (.returned v) u (Jvm.fieldLocs frame_1_writes args s ++ Jvm.arrayLocs frame_1_arrays args s ++ Jvm.staticLocs frame_1_statics s) 24 128 → Post tb e args s (.returned v) u) :
    ArmFor flags0 classFile x code maxLocals ret World_1 tables_1 room_1 Calls_1 rest_1 Pre_1 Post := by
  intro l hfl _ _ p e ha hc hk s m args below hf hA hF happ hP
  obtain ⟨hcalls, hrest, hpre⟩ := hP
  obtain ⟨-, -, -, hnamed, -, -, -, hat⟩ := (Spec.applies_iff hf).mp happ
  obtain ⟨hg, hn⟩ := and_e (Cond.before_iff.mp (show (Jvm.Cond.and given_1 narrow_1).before args s = true from hpre))
  obtain ⟨n1, n2⟩ := and_e hg
  obtain ⟨n3, n4⟩ := and_e n2
  obtain ⟨n5, n6⟩ := and_e n4
  obtain ⟨n7, n8⟩ := and_e n6
  obtain ⟨w0, w1, w2, w3, rfl⟩ : ∃ w0 w1 w2 w3 : Value, args = #[w0, w1, w2, w3] := by
    have hs : args.size = 4 := by simpa [Cond.value, given_1] using n1
    obtain ⟨L⟩ := args
    match L, hs with
    | [w0, w1, w2, w3], _ => exact ⟨w0, w1, w2, w3, rfl⟩
  have hw := fun d (hd : d ∈ tables_1) => atoms_spec (ws := Jvm.Cond.code x code maxLocals ret :: tables_1) hat d (List.mem_cons_of_mem _ hd)
  have hfit : Fit s := fun {y c} hc i hi => by
    obtain ⟨ha, rfl⟩ := Array.getElem?_eq_some_iff.mp hc
    have q := List.all_eq_true.mp ((Array.all_eq_true_iff_forall_mem.mp hF) _ (Array.getElem_mem ha)) i (List.mem_range.mpr hi)
    simpa [Array.getElem?_eq_getElem hi] using q
  obtain ⟨hsets, hown0⟩ := atoms_of _ (rest_1_c_eq ▸ (show rest_1_c.before _ s = true from hrest))
  have hr0 := Cond.before_iff.mp hown0
  obtain ⟨i0, ei0⟩ := is_v n3
  obtain rfl : w0 = (.int i0) := Option.some.inj ei0
  obtain ⟨i1, ei1⟩ := is_v n5
  obtain rfl : w1 = (.int i1) := Option.some.inj ei1
  obtain ⟨i2, ei2⟩ := is_v n7
  obtain rfl : w2 = (.int i2) := Option.some.inj ei2
  obtain ⟨i3, ei3⟩ := is_v n8
  obtain rfl : w3 = (.int i3) := Option.some.inj ei3
  obtain ⟨n9, n10⟩ := and_e hn
  obtain ⟨n11, n12⟩ := and_e n10
  obtain ⟨n13, n14⟩ := and_e n12
  obtain ⟨m_WARNING_15, v_m_WARNING_15⟩ := exa_v n9
  have E_m_WARNING_15 := Exa.start v_m_WARNING_15 n9
  have S_m_WARNING_15 := Sta.start v_m_WARNING_15 (Or.inr ⟨(oW hw 1 rfl), (oW hw 2 rfl)⟩)
  obtain ⟨m_ERROR_16, v_m_ERROR_16⟩ := exa_v n11
  have E_m_ERROR_16 := Exa.start v_m_ERROR_16 n11
  have S_m_ERROR_16 := Sta.start v_m_ERROR_16 (Or.inr ⟨(oW hw 1 rfl), (oW hw 60 rfl)⟩)
  have F_ordinal_17 := oFldI v_m_ERROR_16 n13
  have F_ordinal_18 := oFldI v_m_WARNING_15 n14
  have ne_er_wa : m_ERROR_16 ≠ m_WARNING_15 := Fld.ne F_ordinal_17 F_ordinal_18 (fun q => absurd (Value.int.inj q) (by decide))
  obtain ⟨xz, vz⟩ := is_v (Cond.before_iff.mp (hsets _ (List.mem_of_getElem? (i := 1) rfl)))
  have S_Z := Sta.start vz (Or.inl (hsets _ (List.mem_of_getElem? (i := 0) rfl)))
  have hz : ¬ xz = (0 : Int32) := oNot0 vz (Cond.before_iff.mp (hsets _ (List.mem_of_getElem? (i := 2) rfl)))
  obtain ⟨n, o, h1, h2, h3, _, L, rfl, ⟨rfl, N⟩, hq⟩ := rLaw l s _ hw tables_1 i0 i1 i2 i3 m_ERROR_16 m_WARNING_15 xz s.heap (oExtRefl _) S_m_ERROR_16 S_m_WARNING_15 ne_er_wa S_Z hz p e ha hc hk s m _ below hf ((Spec.applies_iff_loose hf).mp happ).1 ⟨rfl, State.Warmed39.refl s, rfl⟩ trivial
  refine ⟨n, _, h1, h2, h3, hpost _ _ _ _ _ _ ⟨Cond.after_iff.mpr rfl, Cond.after_iff.mpr (eq_i res_at (Term.int_eval (1)) rfl), trivial⟩ ⟨hq.1, hq.2.1, (hq.2.2.sift fun y hy => Or.inr (N y hy)).mono (by decide) (by decide)⟩⟩
theorem main_1_1 : Claimed_1_1 := comes_1 fun _ _ _ _ _ _ h hF => ⟨h.1, hF⟩
theorem main_1_2 : Claimed_1_2 := comes_1 fun _ _ _ _ _ _ h hF => ⟨h.2.1, hF⟩
end Jvm.Pilot.@@N@@
namespace Jvm.Pilot.@@N@@
open Jvm Jvm.ClassFile Sem Op Lib Jvm.Free Jvm.Stand Jvm.Pilot.@@N@@.Jvm.D
/-! MADE BY PROGRAM (witnessworld.py) out of the Statement's table words and the real class files: 23 classes; the members and pool entries that the words name. The judged class is class 1, her method 1. -/
namespace start1
open Jvm.ClassFile
def u (s : String) : CpInfo := .utf8 (stringToUtf16 s)
/-- a pool by its gaps: so many unusable entries, then the entry; so many at the end -/
def gap : Nat → List CpInfo → List CpInfo
  | 0, r => r
  | n + 1, r => .unusable :: gap n r
def poolList (es : List (Nat × CpInfo)) (last : Nat) : List CpInfo := es.foldr (fun e r => gap e.1 (e.2 :: r)) (gap last [])
def pool (es : List (Nat × CpInfo)) (last : Nat) : Array CpInfo := ⟨poolList es last⟩
def fileOf (pool : Array CpInfo) (this : Nat) (attrs : Array Attribute := #[]) (ms : Array MethodInfo := #[]) (fl : Nat := 33) (sup : Nat := 0) (ifs : Array Nat := #[]) (fds : Array FieldInfo := #[]) : ClassFile where
  minorVersion := 0
  majorVersion := 65
  constantPool := pool
  accessFlags := fl
  thisClass := this
  superClass := sup
  interfaces := ifs
  fields := fds
  methods := ms
  attributes := attrs
def plain (name : String) (sup : Option ClassId) : Class where
  name := name
  kind := .ordinary
  loader := none
  accessFlags := 33
  super := sup
  interfaces := #[]
  cf := none
  fields := #[]
  methods := #[]
  instanceTypes := #[]
  staticTypes := #[]
  resolved := #[]
  callSites := []
  init := .initialized
  statics := none
  mirror := none

def pool0 : Array CpInfo := pool [(5, u "<init>"), (0, u "()V"), (1, .class_ 10), (1, u "java/lang/Object")] 113

def k0c0 : Code := { maxStack := 0, maxLocals := 1, code := object_method_1_code, exceptionTable := #[], attributes := #[] }
def k0m0 : Method := { name := "<init>", desc := "()V", sig := { parameters := [], returnType := none }, accessFlags := 1, code := some k0c0 }
/-- java/lang/Object -/
def k0 : Class := { plain "java/lang/Object" none with
  accessFlags := 33
  interfaces := #[]
  cf := some (fileOf pool0 8 #[] #[{ accessFlags := 1, nameIndex := 5, descriptorIndex := 6, attributes := #[] }] 33 0 #[] #[])
  fields := #[]
  methods := #[k0m0]
  instanceTypes := #[]
  staticTypes := #[]
  resolved := Array.replicate 124 none
  statics := none }

def pool1 : Array CpInfo := pool [(2, .class_ 4), (1, u "java/lang/Object"), (0, u "<init>"), (0, u "()V"), (0, .fieldref 8 9), (0, .class_ 10), (0, .nameAndType 11 12), (0, u "com/example/modwright/modwright/packages/PackageProblem$Severity"), (0, u "ERROR"), (0, u "Lcom/example/modwright/modwright/packages/PackageProblem$Severity;"), (0, .fieldref 8 14), (0, .nameAndType 15 12), (0, u "WARNING"), (0, .class_ 17), (0, u "java/lang/String"), (0, .methodref 16 19), (0, .nameAndType 5 20), (0, u "([C)V"), (0, .integer 2147483647), (0, .class_ 23), (0, u "com/example/modwright/modwright/packages/PackageProblem"), (0, .methodref 22 25), (0, .nameAndType 5 26), (0, u "(Ljava/lang/String;ILcom/example/modwright/modwright/packages/PackageProblem$Severity;Ljava/lang/String;)V"), (0, .methodref 22 28), (0, .nameAndType 29 30), (0, u "isError"), (0, u "()Z"), (0, .class_ 32), (0, u "com/example/modwright/modwright/packages/PackageProblemIsErrorPinLaw"), (2, u "law"), (0, u "(IIII)Z")] 7

def k1m0 : Method := { name := "<init>", desc := "()V", sig := { parameters := [], returnType := none }, accessFlags := 1, code := none }
def k1c1 : Code := { maxStack := 6, maxLocals := 12, code := code, exceptionTable := #[], attributes := #[] }
def k1m1 : Method := { name := "law", desc := "(IIII)Z", sig := { parameters := [.int, .int, .int, .int], returnType := some .boolean }, accessFlags := 9, code := some k1c1 }
/-- com/example/modwright/modwright/packages/PackageProblemIsErrorPinLaw -/
def k1 : Class := { plain "com/example/modwright/modwright/packages/PackageProblemIsErrorPinLaw" (some 0) with
  accessFlags := 49
  interfaces := #[]
  cf := some (fileOf pool1 31 #[] #[{ accessFlags := 1, nameIndex := 5, descriptorIndex := 6, attributes := #[] }, { accessFlags := 9, nameIndex := 35, descriptorIndex := 36, attributes := #[] }] 49 2 #[] #[])
  fields := #[]
  methods := #[k1m0, k1m1]
  instanceTypes := #[]
  staticTypes := #[]
  resolved := Array.replicate 44 none
  statics := none }

def pool2 : Array CpInfo := pool [(1, .class_ 2), (0, u "java/lang/constant/Constable"), (0, .class_ 4), (0, u "java/lang/Object")] 6

/-- java/lang/constant/Constable -/
def k2 : Class := { plain "java/lang/constant/Constable" (some 0) with
  accessFlags := 1537
  interfaces := #[]
  cf := some (fileOf pool2 1 #[] #[] 1537 3 #[] #[])
  fields := #[]
  methods := #[]
  instanceTypes := #[]
  staticTypes := #[]
  resolved := Array.replicate 11 none
  statics := none }

def pool3 : Array CpInfo := pool [(1, .class_ 2), (0, u "java/lang/Comparable"), (0, .class_ 4), (0, u "java/lang/Object")] 7

/-- java/lang/Comparable -/
def k3 : Class := { plain "java/lang/Comparable" (some 0) with
  accessFlags := 1537
  interfaces := #[]
  cf := some (fileOf pool3 1 #[] #[] 1537 3 #[] #[])
  fields := #[]
  methods := #[]
  instanceTypes := #[]
  staticTypes := #[]
  resolved := Array.replicate 12 none
  statics := none }

def pool4 : Array CpInfo := pool [(1, .class_ 2), (0, u "java/io/Serializable"), (0, .class_ 4), (0, u "java/lang/Object")] 2

/-- java/io/Serializable -/
def k4 : Class := { plain "java/io/Serializable" (some 0) with
  accessFlags := 1537
  interfaces := #[]
  cf := some (fileOf pool4 1 #[] #[] 1537 3 #[] #[])
  fields := #[]
  methods := #[]
  instanceTypes := #[]
  staticTypes := #[]
  resolved := Array.replicate 7 none
  statics := none }

def pool5 : Array CpInfo := pool [(2, .class_ 4), (1, u "java/lang/Enum"), (0, u "name"), (0, u "Ljava/lang/String;"), (2, u "ordinal"), (0, u "I"), (1, .class_ 14), (1, u "java/lang/Object"), (4, u "hash"), (86, .class_ 108), (1, u "java/lang/Enum$EnumDesc"), (2, .class_ 112), (0, u "java/lang/constant/Constable"), (0, .class_ 114), (0, u "java/lang/Comparable"), (0, .class_ 116), (0, u "java/io/Serializable")] 87

/-- java/lang/Enum -/
def k5 : Class := { plain "java/lang/Enum" (some 0) with
  accessFlags := 1057
  interfaces := #[2, 3, 4]
  cf := some (fileOf pool5 2 #[.nestMembers #[106]] #[] 1057 12 #[111, 113, 115] #[{ accessFlags := 18, nameIndex := 5, descriptorIndex := 6, attributes := #[] }, { accessFlags := 18, nameIndex := 9, descriptorIndex := 10, attributes := #[] }, { accessFlags := 2, nameIndex := 19, descriptorIndex := 10, attributes := #[] }])
  fields := #[{ name := "name", type := (.object "java/lang/String"), accessFlags := 18, slot := 0, constantValue := 0 }, { name := "ordinal", type := .int, accessFlags := 18, slot := 1, constantValue := 0 }, { name := "hash", type := .int, accessFlags := 2, slot := 2, constantValue := 0 }]
  methods := #[]
  instanceTypes := #[(.object "java/lang/String"), .int, .int]
  staticTypes := #[]
  resolved := Array.replicate 204 none
  statics := none }

def pool6 : Array CpInfo := pool [(1, .class_ 2), (0, u "com/example/modwright/modwright/packages/PackageProblem$Severity"), (2, u "ERROR"), (0, u "Lcom/example/modwright/modwright/packages/PackageProblem$Severity;"), (2, u "WARNING"), (2, u "$VALUES"), (0, u "[Lcom/example/modwright/modwright/packages/PackageProblem$Severity;"), (6, .class_ 22), (1, u "java/lang/Enum"), (33, .class_ 57), (0, u "com/example/modwright/modwright/packages/PackageProblem")] 2

/-- com/example/modwright/modwright/packages/PackageProblem$Severity -/
def k6 : Class := { plain "com/example/modwright/modwright/packages/PackageProblem$Severity" (some 5) with
  accessFlags := 16433
  interfaces := #[]
  cf := some (fileOf pool6 1 #[.nestHost 56] #[] 16433 20 #[] #[{ accessFlags := 16409, nameIndex := 5, descriptorIndex := 6, attributes := #[] }, { accessFlags := 16409, nameIndex := 9, descriptorIndex := 6, attributes := #[] }, { accessFlags := 4122, nameIndex := 12, descriptorIndex := 13, attributes := #[] }])
  fields := #[{ name := "ERROR", type := (.object "com/example/modwright/modwright/packages/PackageProblem$Severity"), accessFlags := 16409, slot := 0, constantValue := 0 }, { name := "WARNING", type := (.object "com/example/modwright/modwright/packages/PackageProblem$Severity"), accessFlags := 16409, slot := 1, constantValue := 0 }, { name := "$VALUES", type := (.array (.object "com/example/modwright/modwright/packages/PackageProblem$Severity")), accessFlags := 4122, slot := 2, constantValue := 0 }]
  methods := #[]
  instanceTypes := #[(.object "java/lang/String"), .int, .int]
  staticTypes := #[(.object "com/example/modwright/modwright/packages/PackageProblem$Severity"), (.object "com/example/modwright/modwright/packages/PackageProblem$Severity"), (.array (.object "com/example/modwright/modwright/packages/PackageProblem$Severity"))]
  resolved := Array.replicate 60 none
  statics := some 0 }

def pool7 : Array CpInfo := pool [(2, .class_ 4), (1, u "java/lang/CharSequence"), (42, .class_ 48), (0, u "java/lang/CharSequence$1CodePointIterator"), (10, .class_ 60), (0, u "java/lang/CharSequence$1CharIterator"), (5, .class_ 67), (0, u "java/lang/Object")] 63

/-- java/lang/CharSequence -/
def k7 : Class := { plain "java/lang/CharSequence" (some 0) with
  accessFlags := 1537
  interfaces := #[]
  cf := some (fileOf pool7 2 #[.nestMembers #[47, 59]] #[] 1537 66 #[] #[])
  fields := #[]
  methods := #[]
  instanceTypes := #[]
  staticTypes := #[]
  resolved := Array.replicate 131 none
  statics := none }

def pool8 : Array CpInfo := pool [(1, .class_ 2), (0, u "java/lang/constant/ConstantDesc"), (0, .class_ 4), (0, u "java/lang/Object")] 32

/-- java/lang/constant/ConstantDesc -/
def k8 : Class := { plain "java/lang/constant/ConstantDesc" (some 0) with
  accessFlags := 1537
  interfaces := #[]
  cf := some (fileOf pool8 1 #[] #[] 1537 3 #[] #[])
  fields := #[]
  methods := #[]
  instanceTypes := #[]
  staticTypes := #[]
  resolved := Array.replicate 37 none
  statics := none }

def pool9 : Array CpInfo := pool [(1, .methodref 2 3), (0, .class_ 4), (0, .nameAndType 5 6), (0, u "java/lang/Object"), (0, u "<init>"), (0, u "()V"), (2, .fieldref 10 11), (0, .class_ 12), (0, .nameAndType 13 14), (0, u "java/lang/String"), (0, u "value"), (0, u "[B"), (0, .fieldref 10 16), (0, .nameAndType 17 18), (0, u "coder"), (0, u "B"), (2, u "hash"), (0, u "I"), (2, u "hashIsZero"), (0, u "Z"), (0, .methodref 10 28), (0, .nameAndType 5 29), (0, u "([CIILjava/lang/Void;)V"), (8, .fieldref 10 39), (0, .nameAndType 40 26), (0, u "COMPACT_STRINGS"), (1, .class_ 44), (1, u "java/lang/StringUTF16"), (0, u "compress"), (1, .methodref 42 48), (0, .nameAndType 49 50), (0, u "coderFromArrayLen"), (0, u "([BI)B"), (126, .methodref 42 178), (0, .nameAndType 45 179), (0, u "([CII)[B"), (395, .class_ 576), (0, u "java/lang/CharSequence"), (22, u "CASE_INSENSITIVE_ORDER"), (0, u "Ljava/util/Comparator;"), (409, u "([C)V"), (90, u "serialPersistentFields"), (0, u "[Ljava/io/ObjectStreamField;"), (0, .class_ 1104), (0, u "java/lang/String$CaseInsensitiveComparator"), (1, .class_ 1107), (0, u "java/io/Serializable"), (0, .class_ 1109), (0, u "java/lang/Comparable"), (0, .class_ 1111), (0, u "java/lang/constant/Constable"), (0, .class_ 1113), (0, u "java/lang/constant/ConstantDesc"), (2, u "serialVersionUID"), (0, u "J"), (3, u "REPL"), (0, u "C"), (2, u "LATIN1"), (1, u "UTF16")] 323

def k9m0 : Method := { name := "<init>", desc := "()V", sig := { parameters := [], returnType := none }, accessFlags := 1, code := none }
def k9c1 : Code := { maxStack := 5, maxLocals := 2, code := jdk_42_method_3_code, exceptionTable := #[], attributes := #[] }
def k9m1 : Method := { name := "<init>", desc := "([C)V", sig := { parameters := [(.array .char)], returnType := none }, accessFlags := 1, code := some k9c1 }
def k9c2 : Code := { maxStack := 4, maxLocals := 6, code := jdk_42_method_149_code, exceptionTable := #[], attributes := #[] }
def k9m2 : Method := { name := "<init>", desc := "([CIILjava/lang/Void;)V", sig := { parameters := [(.array .char), .int, .int, (.object "java/lang/Void")], returnType := none }, accessFlags := 2, code := some k9c2 }
/-- java/lang/String -/
def k9 : Class := { plain "java/lang/String" (some 0) with
  accessFlags := 49
  interfaces := #[4, 3, 7, 2, 8]
  cf := some (fileOf pool9 10 #[.nestMembers #[1103]] #[{ accessFlags := 1, nameIndex := 5, descriptorIndex := 6, attributes := #[] }, { accessFlags := 1, nameIndex := 5, descriptorIndex := 1010, attributes := #[] }, { accessFlags := 2, nameIndex := 5, descriptorIndex := 29, attributes := #[] }] 49 2 #[1106, 1108, 575, 1110, 1112] #[{ accessFlags := 18, nameIndex := 13, descriptorIndex := 14, attributes := #[] }, { accessFlags := 18, nameIndex := 17, descriptorIndex := 18, attributes := #[] }, { accessFlags := 2, nameIndex := 21, descriptorIndex := 22, attributes := #[] }, { accessFlags := 2, nameIndex := 25, descriptorIndex := 26, attributes := #[] }, { accessFlags := 26, nameIndex := 1116, descriptorIndex := 1117, attributes := #[] }, { accessFlags := 24, nameIndex := 40, descriptorIndex := 26, attributes := #[] }, { accessFlags := 26, nameIndex := 1101, descriptorIndex := 1102, attributes := #[] }, { accessFlags := 26, nameIndex := 1121, descriptorIndex := 1122, attributes := #[] }, { accessFlags := 25, nameIndex := 599, descriptorIndex := 600, attributes := #[] }, { accessFlags := 24, nameIndex := 1125, descriptorIndex := 18, attributes := #[] }, { accessFlags := 24, nameIndex := 1127, descriptorIndex := 18, attributes := #[] }])
  fields := #[{ name := "value", type := (.array .byte), accessFlags := 18, slot := 0, constantValue := 0 }, { name := "coder", type := .byte, accessFlags := 18, slot := 1, constantValue := 0 }, { name := "hash", type := .int, accessFlags := 2, slot := 2, constantValue := 0 }, { name := "hashIsZero", type := .boolean, accessFlags := 2, slot := 3, constantValue := 0 }, { name := "serialVersionUID", type := .long, accessFlags := 26, slot := 0, constantValue := 0 }, { name := "COMPACT_STRINGS", type := .boolean, accessFlags := 24, slot := 1, constantValue := 0 }, { name := "serialPersistentFields", type := (.array (.object "java/io/ObjectStreamField")), accessFlags := 26, slot := 2, constantValue := 0 }, { name := "REPL", type := .char, accessFlags := 26, slot := 3, constantValue := 0 }, { name := "CASE_INSENSITIVE_ORDER", type := (.object "java/util/Comparator"), accessFlags := 25, slot := 4, constantValue := 0 }, { name := "LATIN1", type := .byte, accessFlags := 24, slot := 5, constantValue := 0 }, { name := "UTF16", type := .byte, accessFlags := 24, slot := 6, constantValue := 0 }]
  methods := #[k9m0, k9m1, k9m2]
  instanceTypes := #[(.array .byte), .byte, .int, .boolean]
  staticTypes := #[.long, .boolean, (.array (.object "java/io/ObjectStreamField")), .char, (.object "java/util/Comparator"), .byte, .byte]
  resolved := Array.replicate 1451 none
  statics := some 1 }

def pool10 : Array CpInfo := pool [(6, .class_ 8), (1, u "java/lang/Object"), (0, u "<init>"), (0, u "()V"), (1, .class_ 14), (1, u "java/lang/StringUTF16"), (31, u "$assertionsDisabled"), (0, u "Z"), (13, u "HI_BYTE_SHIFT"), (0, u "I"), (2, u "LO_BYTE_SHIFT"), (49, .methodref 12 116), (0, .nameAndType 117 118), (0, u "compress"), (0, u "([CI[BII)I"), (3, u "([CII)[B"), (138, u "coderFromArrayLen"), (0, u "([BI)B"), (106, .class_ 371), (1, u "java/lang/StringUTF16$LinesSpliterator"), (58, u "MAX_LENGTH"), (196, .class_ 628), (0, u "java/lang/StringUTF16$CodePointsSpliterator"), (0, .class_ 630), (0, u "java/lang/StringUTF16$CharsSpliterator")] 4

def k10m0 : Method := { name := "<init>", desc := "()V", sig := { parameters := [], returnType := none }, accessFlags := 0, code := none }
def k10c1 : Code := { maxStack := 2, maxLocals := 2, code := jdk_52_method_15_code, exceptionTable := #[], attributes := #[] }
def k10m1 : Method := { name := "coderFromArrayLen", desc := "([BI)B", sig := { parameters := [(.array .byte), .int], returnType := some .byte }, accessFlags := 8, code := some k10c1 }
def k10c2 : Code := { maxStack := 5, maxLocals := 6, code := jdk_52_method_16_code, exceptionTable := #[], attributes := #[] }
def k10m2 : Method := { name := "compress", desc := "([CII)[B", sig := { parameters := [(.array .char), .int, .int], returnType := some (.array .byte) }, accessFlags := 9, code := some k10c2 }
def k10c3 : Code := { maxStack := 3, maxLocals := 7, code := jdk_52_method_21_code, exceptionTable := #[], attributes := #[] }
def k10m3 : Method := { name := "compress", desc := "([CI[BII)I", sig := { parameters := [(.array .char), .int, (.array .byte), .int, .int], returnType := some .int }, accessFlags := 9, code := some k10c3 }
/-- java/lang/StringUTF16 -/
def k10 : Class := { plain "java/lang/StringUTF16" (some 0) with
  accessFlags := 48
  interfaces := #[]
  cf := some (fileOf pool10 12 #[.nestMembers #[627, 629, 369]] #[{ accessFlags := 0, nameIndex := 9, descriptorIndex := 10, attributes := #[] }, { accessFlags := 8, nameIndex := 261, descriptorIndex := 262, attributes := #[] }, { accessFlags := 9, nameIndex := 117, descriptorIndex := 122, attributes := #[] }, { accessFlags := 9, nameIndex := 117, descriptorIndex := 118, attributes := #[] }] 48 6 #[] #[{ accessFlags := 26, nameIndex := 61, descriptorIndex := 62, attributes := #[] }, { accessFlags := 26, nameIndex := 65, descriptorIndex := 62, attributes := #[] }, { accessFlags := 24, nameIndex := 430, descriptorIndex := 62, attributes := #[] }, { accessFlags := 4120, nameIndex := 46, descriptorIndex := 47, attributes := #[] }])
  fields := #[{ name := "HI_BYTE_SHIFT", type := .int, accessFlags := 26, slot := 0, constantValue := 0 }, { name := "LO_BYTE_SHIFT", type := .int, accessFlags := 26, slot := 1, constantValue := 0 }, { name := "MAX_LENGTH", type := .int, accessFlags := 24, slot := 2, constantValue := 0 }, { name := "$assertionsDisabled", type := .boolean, accessFlags := 4120, slot := 3, constantValue := 0 }]
  methods := #[k10m0, k10m1, k10m2, k10m3]
  instanceTypes := #[]
  staticTypes := #[.int, .int, .int, .boolean]
  resolved := Array.replicate 635 none
  statics := none }

def pool11 : Array CpInfo := pool [(1, .methodref 2 3), (0, .class_ 4), (0, .nameAndType 5 6), (0, u "java/lang/Object"), (0, u "<init>"), (0, u "()V"), (0, .class_ 8), (0, u "java/lang/Record")] 13

def k11c0 : Code := { maxStack := 1, maxLocals := 1, code := jdk_30_method_1_code, exceptionTable := #[], attributes := #[] }
def k11m0 : Method := { name := "<init>", desc := "()V", sig := { parameters := [], returnType := none }, accessFlags := 4, code := some k11c0 }
/-- java/lang/Record -/
def k11 : Class := { plain "java/lang/Record" (some 0) with
  accessFlags := 1057
  interfaces := #[]
  cf := some (fileOf pool11 7 #[] #[{ accessFlags := 4, nameIndex := 5, descriptorIndex := 6, attributes := #[] }] 1057 2 #[] #[])
  fields := #[]
  methods := #[k11m0]
  instanceTypes := #[]
  staticTypes := #[]
  resolved := Array.replicate 22 none
  statics := none }

def pool12 : Array CpInfo := pool [(1, .methodref 2 3), (0, .class_ 4), (0, .nameAndType 5 6), (0, u "java/lang/Record"), (0, u "<init>"), (0, u "()V"), (21, .fieldref 29 30), (0, .class_ 31), (0, .nameAndType 32 33), (0, u "com/example/modwright/modwright/packages/PackageProblem"), (0, u "source"), (0, u "Ljava/lang/String;"), (0, .fieldref 29 35), (0, .nameAndType 36 37), (0, u "line"), (0, u "I"), (0, .fieldref 29 39), (0, .nameAndType 40 41), (0, u "severity"), (0, u "Lcom/example/modwright/modwright/packages/PackageProblem$Severity;"), (0, .fieldref 29 43), (0, .nameAndType 44 33), (0, u "message"), (0, .fieldref 46 47), (0, .class_ 48), (0, .nameAndType 49 41), (0, u "com/example/modwright/modwright/packages/PackageProblem$Severity"), (0, u "ERROR"), (56, u "ORDER"), (0, u "Ljava/util/Comparator;"), (2, u "(Ljava/lang/String;ILcom/example/modwright/modwright/packages/PackageProblem$Severity;Ljava/lang/String;)V"), (4, u "isError"), (0, u "()Z")] 67

def k12c0 : Code := { maxStack := 6, maxLocals := 5, code := prog_29_method_1_code, exceptionTable := #[], attributes := #[] }
def k12m0 : Method := { name := "<init>", desc := "(Ljava/lang/String;ILcom/example/modwright/modwright/packages/PackageProblem$Severity;Ljava/lang/String;)V", sig := { parameters := [(.object "java/lang/String"), .int, (.object "com/example/modwright/modwright/packages/PackageProblem$Severity"), (.object "java/lang/String")], returnType := none }, accessFlags := 1, code := some k12c0 }
def k12c1 : Code := { maxStack := 2, maxLocals := 1, code := prog_29_method_2_code, exceptionTable := #[], attributes := #[] }
def k12m1 : Method := { name := "isError", desc := "()Z", sig := { parameters := [], returnType := some .boolean }, accessFlags := 1, code := some k12c1 }
/-- com/example/modwright/modwright/packages/PackageProblem -/
def k12 : Class := { plain "com/example/modwright/modwright/packages/PackageProblem" (some 11) with
  accessFlags := 49
  interfaces := #[]
  cf := some (fileOf pool12 29 #[.nestMembers #[46]] #[{ accessFlags := 1, nameIndex := 5, descriptorIndex := 110, attributes := #[] }, { accessFlags := 1, nameIndex := 115, descriptorIndex := 116, attributes := #[] }] 49 2 #[] #[{ accessFlags := 18, nameIndex := 32, descriptorIndex := 33, attributes := #[] }, { accessFlags := 18, nameIndex := 36, descriptorIndex := 37, attributes := #[] }, { accessFlags := 18, nameIndex := 40, descriptorIndex := 41, attributes := #[] }, { accessFlags := 18, nameIndex := 44, descriptorIndex := 33, attributes := #[] }, { accessFlags := 25, nameIndex := 106, descriptorIndex := 107, attributes := #[] }])
  fields := #[{ name := "source", type := (.object "java/lang/String"), accessFlags := 18, slot := 0, constantValue := 0 }, { name := "line", type := .int, accessFlags := 18, slot := 1, constantValue := 0 }, { name := "severity", type := (.object "com/example/modwright/modwright/packages/PackageProblem$Severity"), accessFlags := 18, slot := 2, constantValue := 0 }, { name := "message", type := (.object "java/lang/String"), accessFlags := 18, slot := 3, constantValue := 0 }, { name := "ORDER", type := (.object "java/util/Comparator"), accessFlags := 25, slot := 0, constantValue := 0 }]
  methods := #[k12m0, k12m1]
  instanceTypes := #[(.object "java/lang/String"), .int, (.object "com/example/modwright/modwright/packages/PackageProblem$Severity"), (.object "java/lang/String")]
  staticTypes := #[(.object "java/util/Comparator")]
  resolved := Array.replicate 184 none
  statics := none }

def pool13 : Array CpInfo := pool [(4, .class_ 6), (1, u "java/lang/Object"), (0, u "<init>"), (0, u "()V"), (5, .class_ 16), (1, u "java/lang/StringLatin1"), (104, u "$assertionsDisabled"), (0, u "Z"), (98, .class_ 223), (1, u "java/lang/StringLatin1$LinesSpliterator"), (166, .class_ 391), (0, u "java/lang/StringLatin1$CharsSpliterator")] 3

def k13m0 : Method := { name := "<init>", desc := "()V", sig := { parameters := [], returnType := none }, accessFlags := 0, code := none }
/-- java/lang/StringLatin1 -/
def k13 : Class := { plain "java/lang/StringLatin1" (some 0) with
  accessFlags := 48
  interfaces := #[]
  cf := some (fileOf pool13 14 #[.nestMembers #[390, 221]] #[{ accessFlags := 0, nameIndex := 7, descriptorIndex := 8, attributes := #[] }] 48 4 #[] #[{ accessFlags := 4120, nameIndex := 121, descriptorIndex := 122, attributes := #[] }])
  fields := #[{ name := "$assertionsDisabled", type := .boolean, accessFlags := 4120, slot := 0, constantValue := 0 }]
  methods := #[k13m0]
  instanceTypes := #[]
  staticTypes := #[.boolean]
  resolved := Array.replicate 395 none
  statics := none }

def pool14 : Array CpInfo := pool [(2, .class_ 4), (1, u "java/lang/Object"), (0, u "<init>"), (0, u "()V"), (17, .class_ 26), (1, u "jdk/internal/util/Preconditions"), (28, .class_ 56), (0, u "jdk/internal/util/Preconditions$4"), (57, .class_ 115), (0, u "jdk/internal/util/Preconditions$1"), (7, u "SIOOBE_FORMATTER"), (0, u "Ljava/util/function/BiFunction;"), (0, .class_ 126), (0, u "jdk/internal/util/Preconditions$2"), (3, u "AIOOBE_FORMATTER"), (0, .class_ 132), (0, u "jdk/internal/util/Preconditions$3"), (3, u "IOOBE_FORMATTER")] 57

def k14m0 : Method := { name := "<init>", desc := "()V", sig := { parameters := [], returnType := none }, accessFlags := 1, code := none }
/-- jdk/internal/util/Preconditions -/
def k14 : Class := { plain "jdk/internal/util/Preconditions" (some 0) with
  accessFlags := 33
  interfaces := #[]
  cf := some (fileOf pool14 24 #[.nestMembers #[55, 131, 125, 114]] #[{ accessFlags := 1, nameIndex := 5, descriptorIndex := 6, attributes := #[] }] 33 2 #[] #[{ accessFlags := 25, nameIndex := 123, descriptorIndex := 124, attributes := #[] }, { accessFlags := 25, nameIndex := 130, descriptorIndex := 124, attributes := #[] }, { accessFlags := 25, nameIndex := 136, descriptorIndex := 124, attributes := #[] }])
  fields := #[{ name := "SIOOBE_FORMATTER", type := (.object "java/util/function/BiFunction"), accessFlags := 25, slot := 0, constantValue := 0 }, { name := "AIOOBE_FORMATTER", type := (.object "java/util/function/BiFunction"), accessFlags := 25, slot := 1, constantValue := 0 }, { name := "IOOBE_FORMATTER", type := (.object "java/util/function/BiFunction"), accessFlags := 25, slot := 2, constantValue := 0 }]
  methods := #[k14m0]
  instanceTypes := #[]
  staticTypes := #[(.object "java/util/function/BiFunction"), (.object "java/util/function/BiFunction"), (.object "java/util/function/BiFunction")]
  resolved := Array.replicate 194 none
  statics := some 2 }

def pool15 : Array CpInfo := pool [(9, u "<init>"), (6, .class_ 18), (1, u "java/lang/Object"), (0, u "()V"), (1, .class_ 23), (1, u "jdk/internal/util/ArraysSupport"), (0, u "LOG2_ARRAY_LONG_INDEX_SCALE"), (0, u "I"), (2, u "U"), (0, u "Ljdk/internal/misc/Unsafe;"), (8, u "BIG_ENDIAN"), (0, u "Z"), (8, u "LOG2_BYTE_BIT_SIZE"), (4, u "LOG2_ARRAY_INT_INDEX_SCALE"), (54, u "JLA"), (0, u "Ljdk/internal/access/JavaLangAccess;"), (11, u "LOG2_ARRAY_BOOLEAN_INDEX_SCALE"), (9, u "LOG2_ARRAY_BYTE_INDEX_SCALE"), (5, u "LOG2_ARRAY_CHAR_INDEX_SCALE"), (5, u "LOG2_ARRAY_SHORT_INDEX_SCALE"), (18, u "LOG2_ARRAY_FLOAT_INDEX_SCALE"), (24, u "LOG2_ARRAY_DOUBLE_INDEX_SCALE"), (89, u "T_BOOLEAN"), (2, u "T_CHAR"), (1, u "T_FLOAT"), (1, u "T_DOUBLE"), (1, u "T_BYTE"), (1, u "T_SHORT"), (1, u "T_INT"), (1, u "T_LONG"), (1, u "SOFT_MAX_ARRAY_LENGTH")] 83

def k15m0 : Method := { name := "<init>", desc := "()V", sig := { parameters := [], returnType := none }, accessFlags := 2, code := none }
/-- jdk/internal/util/ArraysSupport -/
def k15 : Class := { plain "jdk/internal/util/ArraysSupport" (some 0) with
  accessFlags := 33
  interfaces := #[]
  cf := some (fileOf pool15 21 #[] #[{ accessFlags := 2, nameIndex := 9, descriptorIndex := 19, attributes := #[] }] 33 16 #[] #[{ accessFlags := 24, nameIndex := 28, descriptorIndex := 29, attributes := #[] }, { accessFlags := 26, nameIndex := 38, descriptorIndex := 39, attributes := #[] }, { accessFlags := 25, nameIndex := 121, descriptorIndex := 25, attributes := #[] }, { accessFlags := 25, nameIndex := 131, descriptorIndex := 25, attributes := #[] }, { accessFlags := 25, nameIndex := 137, descriptorIndex := 25, attributes := #[] }, { accessFlags := 25, nameIndex := 143, descriptorIndex := 25, attributes := #[] }, { accessFlags := 25, nameIndex := 53, descriptorIndex := 25, attributes := #[] }, { accessFlags := 25, nameIndex := 24, descriptorIndex := 25, attributes := #[] }, { accessFlags := 25, nameIndex := 162, descriptorIndex := 25, attributes := #[] }, { accessFlags := 25, nameIndex := 187, descriptorIndex := 25, attributes := #[] }, { accessFlags := 26, nameIndex := 48, descriptorIndex := 25, attributes := #[] }, { accessFlags := 25, nameIndex := 277, descriptorIndex := 25, attributes := #[] }, { accessFlags := 25, nameIndex := 280, descriptorIndex := 25, attributes := #[] }, { accessFlags := 25, nameIndex := 282, descriptorIndex := 25, attributes := #[] }, { accessFlags := 25, nameIndex := 284, descriptorIndex := 25, attributes := #[] }, { accessFlags := 25, nameIndex := 286, descriptorIndex := 25, attributes := #[] }, { accessFlags := 25, nameIndex := 288, descriptorIndex := 25, attributes := #[] }, { accessFlags := 25, nameIndex := 290, descriptorIndex := 25, attributes := #[] }, { accessFlags := 25, nameIndex := 292, descriptorIndex := 25, attributes := #[] }, { accessFlags := 26, nameIndex := 108, descriptorIndex := 109, attributes := #[] }, { accessFlags := 25, nameIndex := 294, descriptorIndex := 25, attributes := #[] }])
  fields := #[{ name := "U", type := (.object "jdk/internal/misc/Unsafe"), accessFlags := 24, slot := 0, constantValue := 0 }, { name := "BIG_ENDIAN", type := .boolean, accessFlags := 26, slot := 1, constantValue := 0 }, { name := "LOG2_ARRAY_BOOLEAN_INDEX_SCALE", type := .int, accessFlags := 25, slot := 2, constantValue := 0 }, { name := "LOG2_ARRAY_BYTE_INDEX_SCALE", type := .int, accessFlags := 25, slot := 3, constantValue := 0 }, { name := "LOG2_ARRAY_CHAR_INDEX_SCALE", type := .int, accessFlags := 25, slot := 4, constantValue := 0 }, { name := "LOG2_ARRAY_SHORT_INDEX_SCALE", type := .int, accessFlags := 25, slot := 5, constantValue := 0 }, { name := "LOG2_ARRAY_INT_INDEX_SCALE", type := .int, accessFlags := 25, slot := 6, constantValue := 0 }, { name := "LOG2_ARRAY_LONG_INDEX_SCALE", type := .int, accessFlags := 25, slot := 7, constantValue := 0 }, { name := "LOG2_ARRAY_FLOAT_INDEX_SCALE", type := .int, accessFlags := 25, slot := 8, constantValue := 0 }, { name := "LOG2_ARRAY_DOUBLE_INDEX_SCALE", type := .int, accessFlags := 25, slot := 9, constantValue := 0 }, { name := "LOG2_BYTE_BIT_SIZE", type := .int, accessFlags := 26, slot := 10, constantValue := 0 }, { name := "T_BOOLEAN", type := .int, accessFlags := 25, slot := 11, constantValue := 0 }, { name := "T_CHAR", type := .int, accessFlags := 25, slot := 12, constantValue := 0 }, { name := "T_FLOAT", type := .int, accessFlags := 25, slot := 13, constantValue := 0 }, { name := "T_DOUBLE", type := .int, accessFlags := 25, slot := 14, constantValue := 0 }, { name := "T_BYTE", type := .int, accessFlags := 25, slot := 15, constantValue := 0 }, { name := "T_SHORT", type := .int, accessFlags := 25, slot := 16, constantValue := 0 }, { name := "T_INT", type := .int, accessFlags := 25, slot := 17, constantValue := 0 }, { name := "T_LONG", type := .int, accessFlags := 25, slot := 18, constantValue := 0 }, { name := "JLA", type := (.object "jdk/internal/access/JavaLangAccess"), accessFlags := 26, slot := 19, constantValue := 0 }, { name := "SOFT_MAX_ARRAY_LENGTH", type := .int, accessFlags := 25, slot := 20, constantValue := 0 }]
  methods := #[k15m0]
  instanceTypes := #[]
  staticTypes := #[(.object "jdk/internal/misc/Unsafe"), .boolean, .int, .int, .int, .int, .int, .int, .int, .int, .int, .int, .int, .int, .int, .int, .int, .int, .int, (.object "jdk/internal/access/JavaLangAccess"), .int]
  resolved := Array.replicate 378 none
  statics := none }

def pool16 : Array CpInfo := pool [(1, u "java/lang/Cloneable"), (0, .class_ 1), (0, u "java/lang/Object"), (0, .class_ 3)] 3

/-- java/lang/Cloneable -/
def k16 : Class := { plain "java/lang/Cloneable" (some 0) with
  accessFlags := 1537
  interfaces := #[]
  cf := some (fileOf pool16 2 #[] #[] 1537 4 #[] #[])
  fields := #[]
  methods := #[]
  instanceTypes := #[]
  staticTypes := #[]
  resolved := Array.replicate 8 none
  statics := none }

/-- the primitive byte -/
def k17 : Class := { plain "byte" none with kind := .primitive 'B', accessFlags := 0x411 }
/-- [B -/
def k18 : Class := { plain "[B" (some 0) with kind := .array 17 .byte, interfaces := #[16, 4], accessFlags := 1041 }

/-- the primitive char -/
def k19 : Class := { plain "char" none with kind := .primitive 'C', accessFlags := 0x411 }
/-- [C -/
def k20 : Class := { plain "[C" (some 0) with kind := .array 19 .char, interfaces := #[16, 4], accessFlags := 1041 }

/-- the primitive int -/
def k21 : Class := { plain "int" none with kind := .primitive 'I', accessFlags := 0x411 }
/-- [I -/
def k22 : Class := { plain "[I" (some 0) with kind := .array 21 .int, interfaces := #[16, 4], accessFlags := 1041 }

def heap : Heap := #[{ cls := 6, slots := #[.ref 3, .ref 4, .null], vm := .statics 6 },
  { cls := 9, slots := #[.long 0, .int 1, .null, .int 0, .null, .int 0, .int 0], vm := .statics 9 },
  { cls := 14, slots := #[.null, .null, .null], vm := .statics 14 },
  { cls := 6, slots := #[.null, .int 0, .int 0], vm := .none },
  { cls := 6, slots := #[.null, .int 1, .int 0], vm := .none }]
def classes : Array Class := #[k0, k1, k2, k3, k4, k5, k6, k7, k8, k9, k10, k11, k12, k13, k14, k15, k16, k17, k18, k19, k20, k21, k22]
def interned : List (Array UInt16 × Addr) := []
def slotsUsed : Nat := 19
def theMethod : MethodId := ⟨1, 1⟩
def args0 : Array Value := #[.int 1, .int 5, .int 77, .int 99]
def aboutOver (below : List Frame) : State where
  vm := { classes := classes, interned := interned.toArray }
  heap := heap
  slotsUsed := slotsUsed
  threads := #[{ frames := .invoking theMethod args0 :: below }]
def below0 : List Frame := [.native { method := ⟨0, 0⟩, args := #[] }]
def about1 : State := aboutOver below0
def p0 : Program := .bare "" "" ""
def e0 : Env := launch0.env 0 0 0
theorem w_frames : about1.frames = Frame.invoking theMethod args0 :: below0 := rfl
set_option maxRecDepth 65536 in
theorem w_args : argsFit about1.vm theMethod args0 = true := by decide +kernel
set_option maxRecDepth 65536 in
theorem w_heap : heapFits about1 = true := by decide +kernel
set_option maxRecDepth 65536 in
theorem w_runnable : about1.curStatus? = some .runnable := by decide +kernel
set_option maxRecDepth 65536 in
theorem w_alone : about1.alone = true := by decide +kernel
set_option maxRecDepth 65536 in
theorem w_named : about1.methodNamed? x = some theMethod := by decide +kernel
set_option maxRecDepth 65536 in
theorem w_hears : about1.hears theMethod below0 = true := by decide +kernel
set_option maxRecDepth 65536 in
theorem w_ripe : about1.ripe theMethod args0 below0 = true := by decide +kernel
theorem w_running : about1.status = .running := rfl
set_option maxRecDepth 65536 in
theorem w_room : about1.hasRoom e0.platform room_1 = true :=
  launch0.hasRoom_least _ room_1 (by decide +kernel) (by decide +kernel) (by decide +kernel) (by decide +kernel) (by decide +kernel) (by decide +kernel)
theorem allAtoms_all (ts : List Jvm.Cond) (a : Array Jvm.Value) (st : Jvm.State) : (allAtoms ts).before a st = ts.all (fun c => c.before a st) := by
  induction ts with
  | nil => rfl
  | cons c t ih =>
    show (Jvm.Cond.and c (allAtoms t)).before a st = _
    rw [Jvm.Cond.before_and, ih, List.all_cons]
def words1 : List Jvm.Cond := Jvm.Cond.code x code maxLocals ret :: tables_1
/-- a 'code' word, met by the world's own term for the bytes: nothing is compared byte by byte -/
theorem code_word {y : MethodName} {bytes : ByteArray} {mx : Nat} {rt : Option FieldType} {a : Array Value} {s : State} {m : MethodId} {meth : Method} {c : Code} (h1 : s.methodNamed? y = some m) (h2 : s.vm.method? m = some meth) (h3 : meth.code = some c) (h4 : c.code = bytes)
    (h5 : (c.maxLocals == mx && c.exceptionTable.isEmpty && decide (c.maxStack ≤ mostOperands) && decide (meth.sig.returnType = rt) && !meth.locks && decide (parseMethodDescriptor y.desc = some meth.sig)) = true) : (Jvm.Cond.code y bytes mx rt).before a s = true := by
  simp only [Bool.and_eq_true, beq_iff_eq, Bool.not_eq_true', decide_eq_true_eq] at h5
  obtain ⟨⟨⟨⟨⟨g1, g2⟩, g3⟩, g4⟩, g5⟩, g6⟩ := h5
  simp [Cond.before, Cond.holds, Cond.value, h1, h2, h3, h4, g1, g2, g3, g4, g5, g6]
def isCode : Jvm.Cond → Bool
  | .code _ _ _ _ => true
  | _ => false
theorem all_split {L : List Jvm.Cond} {P : Jvm.Cond → Bool} (h1 : L.all (fun c => isCode c || P c) = true) (h2 : ∀ c ∈ L.filter isCode, P c = true) : L.all P = true := by
  refine List.all_eq_true.mpr fun c hc => ?_
  have h := List.all_eq_true.mp h1 c hc
  rcases Bool.eq_false_or_eq_true (isCode c) with hi | hi
  · exact h2 c (List.mem_filter.mpr ⟨hc, hi⟩)
  · simpa [hi] using h
set_option maxRecDepth 65536 in
theorem w_c0 : (Jvm.Cond.code x code maxLocals ret).before args0 about1 = true := code_word (m := ⟨1, 1⟩) (meth := k1m1) (c := k1c1) (by decide +kernel) rfl rfl rfl (by decide +kernel)
set_option maxRecDepth 65536 in
theorem w_c1 : (Jvm.Cond.code ({ cls := "java/lang/String", name := "<init>", desc := "([C)V" } : Jvm.MethodName) jdk_42_method_3_code (2 : Nat) (Option.none : Option Jvm.ClassFile.FieldType)).before args0 about1 = true := code_word (m := ⟨9, 1⟩) (meth := k9m1) (c := k9c1) (by decide +kernel) rfl rfl rfl (by decide +kernel)
set_option maxRecDepth 65536 in
theorem w_c2 : (Jvm.Cond.code ({ cls := "java/lang/String", name := "<init>", desc := "([CIILjava/lang/Void;)V" } : Jvm.MethodName) jdk_42_method_149_code (6 : Nat) (Option.none : Option Jvm.ClassFile.FieldType)).before args0 about1 = true := code_word (m := ⟨9, 2⟩) (meth := k9m2) (c := k9c2) (by decide +kernel) rfl rfl rfl (by decide +kernel)
set_option maxRecDepth 65536 in
theorem w_c3 : (Jvm.Cond.code ({ cls := "java/lang/Object", name := "<init>", desc := "()V" } : Jvm.MethodName) object_method_1_code (1 : Nat) (Option.none : Option Jvm.ClassFile.FieldType)).before args0 about1 = true := code_word (m := ⟨0, 0⟩) (meth := k0m0) (c := k0c0) (by decide +kernel) rfl rfl rfl (by decide +kernel)
set_option maxRecDepth 65536 in
theorem w_c4 : (Jvm.Cond.code ({ cls := "java/lang/StringUTF16", name := "compress", desc := "([CII)[B" } : Jvm.MethodName) jdk_52_method_16_code (6 : Nat) (Option.some (Jvm.ClassFile.FieldType.array Jvm.ClassFile.FieldType.byte))).before args0 about1 = true := code_word (m := ⟨10, 2⟩) (meth := k10m2) (c := k10c2) (by decide +kernel) rfl rfl rfl (by decide +kernel)
set_option maxRecDepth 65536 in
theorem w_c5 : (Jvm.Cond.code ({ cls := "java/lang/StringUTF16", name := "compress", desc := "([CI[BII)I" } : Jvm.MethodName) jdk_52_method_21_code (7 : Nat) (Option.some Jvm.ClassFile.FieldType.int)).before args0 about1 = true := code_word (m := ⟨10, 3⟩) (meth := k10m3) (c := k10c3) (by decide +kernel) rfl rfl rfl (by decide +kernel)
set_option maxRecDepth 65536 in
theorem w_c6 : (Jvm.Cond.code ({ cls := "java/lang/StringUTF16", name := "coderFromArrayLen", desc := "([BI)B" } : Jvm.MethodName) jdk_52_method_15_code (2 : Nat) (Option.some Jvm.ClassFile.FieldType.byte)).before args0 about1 = true := code_word (m := ⟨10, 1⟩) (meth := k10m1) (c := k10c1) (by decide +kernel) rfl rfl rfl (by decide +kernel)
set_option maxRecDepth 65536 in
theorem w_c7 : (Jvm.Cond.code ({ cls := "com/example/modwright/modwright/packages/PackageProblem", name := "<init>", desc := "(Ljava/lang/String;ILcom/example/modwright/modwright/packages/PackageProblem$Severity;Ljava/lang/String;)V" } : Jvm.MethodName) prog_29_method_1_code (5 : Nat) (Option.none : Option Jvm.ClassFile.FieldType)).before args0 about1 = true := code_word (m := ⟨12, 0⟩) (meth := k12m0) (c := k12c0) (by decide +kernel) rfl rfl rfl (by decide +kernel)
set_option maxRecDepth 65536 in
theorem w_c8 : (Jvm.Cond.code ({ cls := "java/lang/Record", name := "<init>", desc := "()V" } : Jvm.MethodName) jdk_30_method_1_code (1 : Nat) (Option.none : Option Jvm.ClassFile.FieldType)).before args0 about1 = true := code_word (m := ⟨11, 0⟩) (meth := k11m0) (c := k11c0) (by decide +kernel) rfl rfl rfl (by decide +kernel)
set_option maxRecDepth 65536 in
theorem w_c9 : (Jvm.Cond.code ({ cls := "com/example/modwright/modwright/packages/PackageProblem", name := "isError", desc := "()Z" } : Jvm.MethodName) prog_29_method_2_code (1 : Nat) (Option.some Jvm.ClassFile.FieldType.boolean)).before args0 about1 = true := code_word (m := ⟨12, 1⟩) (meth := k12m1) (c := k12c1) (by decide +kernel) rfl rfl rfl (by decide +kernel)
def codes1 : List Jvm.Cond := [Jvm.Cond.code x code maxLocals ret, Jvm.Cond.code ({ cls := "java/lang/String", name := "<init>", desc := "([C)V" } : Jvm.MethodName) jdk_42_method_3_code (2 : Nat) (Option.none : Option Jvm.ClassFile.FieldType), Jvm.Cond.code ({ cls := "java/lang/String", name := "<init>", desc := "([CIILjava/lang/Void;)V" } : Jvm.MethodName) jdk_42_method_149_code (6 : Nat) (Option.none : Option Jvm.ClassFile.FieldType), Jvm.Cond.code ({ cls := "java/lang/Object", name := "<init>", desc := "()V" } : Jvm.MethodName) object_method_1_code (1 : Nat) (Option.none : Option Jvm.ClassFile.FieldType), Jvm.Cond.code ({ cls := "java/lang/StringUTF16", name := "compress", desc := "([CII)[B" } : Jvm.MethodName) jdk_52_method_16_code (6 : Nat) (Option.some (Jvm.ClassFile.FieldType.array Jvm.ClassFile.FieldType.byte)), Jvm.Cond.code ({ cls := "java/lang/StringUTF16", name := "compress", desc := "([CI[BII)I" } : Jvm.MethodName) jdk_52_method_21_code (7 : Nat) (Option.some Jvm.ClassFile.FieldType.int), Jvm.Cond.code ({ cls := "java/lang/StringUTF16", name := "coderFromArrayLen", desc := "([BI)B" } : Jvm.MethodName) jdk_52_method_15_code (2 : Nat) (Option.some Jvm.ClassFile.FieldType.byte), Jvm.Cond.code ({ cls := "com/example/modwright/modwright/packages/PackageProblem", name := "<init>", desc := "(Ljava/lang/String;ILcom/example/modwright/modwright/packages/PackageProblem$Severity;Ljava/lang/String;)V" } : Jvm.MethodName) prog_29_method_1_code (5 : Nat) (Option.none : Option Jvm.ClassFile.FieldType), Jvm.Cond.code ({ cls := "java/lang/Record", name := "<init>", desc := "()V" } : Jvm.MethodName) jdk_30_method_1_code (1 : Nat) (Option.none : Option Jvm.ClassFile.FieldType), Jvm.Cond.code ({ cls := "com/example/modwright/modwright/packages/PackageProblem", name := "isError", desc := "()Z" } : Jvm.MethodName) prog_29_method_2_code (1 : Nat) (Option.some Jvm.ClassFile.FieldType.boolean)]
set_option maxRecDepth 65536 in
theorem codes_eq : words1.filter isCode = codes1 := rfl
theorem w_codes : ∀ c ∈ words1.filter isCode, c.before args0 about1 = true := by
  rw [codes_eq]
  intro c hc
  simp only [codes1, List.mem_cons, List.not_mem_nil, or_false] at hc
  rcases hc with rfl | rfl | rfl | rfl | rfl | rfl | rfl | rfl | rfl | rfl
  · exact w_c0
  · exact w_c1
  · exact w_c2
  · exact w_c3
  · exact w_c4
  · exact w_c5
  · exact w_c6
  · exact w_c7
  · exact w_c8
  · exact w_c9
set_option maxRecDepth 65536 in
theorem w_t1 : (words1.take 24).all (fun c => isCode c || c.before args0 about1) = true := by decide +kernel
set_option maxRecDepth 65536 in
theorem w_t2 : ((words1.drop 24).take 24).all (fun c => isCode c || c.before args0 about1) = true := by decide +kernel
set_option maxRecDepth 65536 in
theorem w_t3 : ((words1.drop 24).drop 24).all (fun c => isCode c || c.before args0 about1) = true := by decide +kernel
theorem w_tables : (allAtoms (Jvm.Cond.code x code maxLocals ret :: tables_1)).before args0 about1 = true := by
  rw [allAtoms_all]
  show words1.all (fun c => c.before args0 about1) = true
  refine all_split ?_ w_codes
  rw [← List.take_append_drop 24 words1, List.all_append, w_t1, ← List.take_append_drop 24 (words1.drop 24), List.all_append, w_t2, w_t3]
  rfl
set_option maxRecDepth 65536 in
theorem w_rest : rest_1_c.before args0 about1 = true := by decide +kernel
set_option maxRecDepth 65536 in
theorem w_case : (Jvm.Cond.and given_1 narrow_1).before args0 about1 = true := by decide +kernel
theorem w_applies : (headSpec (Jvm.Cond.code x code maxLocals ret :: tables_1) room_1).applies x e0.platform about1 = true :=
  (Spec.applies_iff w_frames).mpr ⟨w_running, w_runnable, w_alone, w_named, w_hears, w_ripe, w_room, w_tables⟩
theorem atStart : AtStart classFile x code maxLocals ret World_1 tables_1 room_1 Calls_1 rest_1 Pre_1 launch0 p0 e0 about1 theMethod args0 below0 :=
  ⟨lists_1, trivial, launch0.admits_env _ _ _, launch0.least_env, fairChoices_fair.cas, fairChoices_fair.clock, w_frames, w_args, w_heap, w_applies, trivial, w_rest, w_case⟩
end start1
theorem witness_1 : WitnessClaimed_1 := ⟨start1.p0, start1.e0, start1.about1, start1.theMethod, start1.args0, start1.below0, start1.atStart⟩
end Jvm.Pilot.@@N@@
