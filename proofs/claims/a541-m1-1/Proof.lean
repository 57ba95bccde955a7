import JvmDerived
import JvmDerived.Pilot.@@N@@Statement
import JvmDerived.Pilot.@@N@@Code
set_option linter.unusedVariables false
set_option linter.unusedSimpArgs false
set_option maxRecDepth 65536
set_option maxHeartbeats 40000000
namespace Jvm.Pilot.@@N@@
open Jvm Jvm.ClassFile Sem Op Lib Jvm.Free Jvm.Stand Jvm.LawKit Jvm.RoadKit Bundle Jvm.Pilot.@@N@@.Jvm.D
theorem oW {a0 : Array Value} {Z : State} (hw : ∀ d ∈ tables_1, d.before a0 Z = true) {d : Jvm.Cond} (i : Nat) (h : tables_1[i]? = some d) : d.before a0 Z = true := hw _ (List.mem_of_getElem? h)
abbrev uu : Slot := .unset
abbrev ss : Slot := .second
/-- the run from T with g on top comes to a state of which P holds -/
def oWk (tb : Tables) (e : Env) (below : List Frame) (P : State → Prop) (T : State) (g : JFrame) : Prop := ∃ t, Steps tb e below (T.setTop g) t ∧ P t
section OwnA
variable {tb : Tables} {e : Env} {below : List Frame} {P : State → Prop} {T T' : State} {g g' : JFrame}
theorem oWk.st (f : ∀ t, Steps tb e below (T'.setTop g') t → Steps tb e below (T.setTop g) t) (k : oWk tb e below P T' g') : oWk tb e below P T g := k.elim fun t q => ⟨t, f t q.1, q.2⟩
theorem oWk.tr (f : Steps tb e below (T.setTop g) (T'.setTop g')) (k : oWk tb e below P T' g') : oWk tb e below P T g := k.elim fun t q => ⟨t, f.trans q.1, q.2⟩
theorem oWk.cast (q : g = g') (k : oWk tb e below P T g') : oWk tb e below P T g := q ▸ k
end OwnA
/-- the invocation has ended: a value, the heap, the places written -/
def oDn (s : State) (below : List Frame) (Q : Option Value → Heap → List Loc → Prop) (k n : Nat) (t : State) : Prop := t.status = .running ∧ ∃ v L, Ended t below (.returned v) ∧ Q v t.heap L ∧ FrameEnd s (.returned v) t L k n
/-- a contract: called with these arguments on this heap the body returns and Q holds -/
abbrev oCon (l : Launch) (Z : State) (y : MethodName) (bytes : ByteArray) (maxL : Nat) (ret : Option FieldType) (ws : List Jvm.Cond) (rm : Room) (as' : Array Value) (h0 : Heap) (Q : Option Value → Heap → List Loc → Prop) : Prop :=
  MetFree l y (head1 (Jvm.Cond.code y bytes maxL ret :: ws) rm) (fun a U => a = as' ∧ Z.Warmed39 U.vm ∧ U.heap = h0) (fun _ _ _ _ _ => True) (fun _ U o U' => ∃ v L, o = .returned v ∧ Q v U'.heap L ∧ FrameEnd U o U' L rm.cells rm.slots)
theorem oCon.of {l : Launch} {Z : State} {y : MethodName} {bytes : ByteArray} {maxL : Nat} {ret : Option FieldType} {ws : List Jvm.Cond} {rm : Room} {as' : Array Value} {h0 : Heap} {Q : Option Value → Heap → List Loc → Prop} (hp : plainFor y = true)
    (body : ∀ (p : Program) (e : Env) (s : State) (m : MethodId) (below : List Frame) (meth : Method) (c : Code) (T : State), Stand p l e rm s m as' below meth c T [] 0 0 → p.tables.exec = Jvm.exec → c.code = bytes → c.maxLocals = maxL → s.vm.findClass y.cls = some m.cls → meth.name = y.name → meth.sig.returnType = ret → meth.locks = false → Z.Warmed39 s.vm → T.heap = h0 → oWk p.tables e below (oDn s below Q rm.cells rm.slots) T (entryFrame m as' maxL)) :
    oCon l Z y bytes maxL ret ws rm as' h0 Q := by
  refine MetFree.of_bodySF hp hisR ?_
  intro p e s m args below meth c s₁ Bd hml0 hP hK
  obtain ⟨rfl, hZ, hh⟩ := hP
  have e0 : s₁.heap = h0 := by rw [← hh, Bd.state]; rfl
  obtain ⟨t, h1, h2, v, L, h3, h4, h5⟩ := body p e s m below meth c s₁ (Stand.of_body Bd) Bd.exec Bd.bytes hml0 (findClass_of_methodNamed Bd.named) (name_of_methodNamed Bd.named Bd.method).1 Bd.returns Bd.notSynchronized hZ e0
  exact ⟨t, _, h1, h2, h3, v, L, rfl, h4, h5⟩
section OwnB
variable {p : Program} {l : Launch} {e : Env} {R : Room} {s : State} {m : MethodId} {args : Array Value} {below : List Frame} {meth : Method} {c : Code} {T : State} {locs : List Loc} {cells slots : Nat} {Q : Option Value → Heap → List Loc → Prop} {k n pc : Nat} {Ls : Array Slot}
theorem oRet (X : Stand p l e R s m args below meth c T locs cells slots) (hx : p.tables.exec = Jvm.exec) (hlk : meth.locks = false) {w : Value} {t : FieldType} {i : Instr} {rest : List Value} (hret : meth.sig.returnType = some t) (hn : narrow t w = w)
    (hi : (i = .ireturn ∧ (t = .int ∨ t = .boolean ∨ t = .byte ∨ t = .char ∨ t = .short) ∧ ∃ z, w = .int z) ∨ (i = .lreturn ∧ t = .long ∧ ∃ z, w = .long z) ∨ (i = .dreturn ∧ t = .double ∧ ∃ z, w = .double z) ∨ (i = .freturn ∧ t = .float ∧ ∃ z, w = .float z) ∨ (i = .areturn ∧ t.isReference = true ∧ w.isRef = true))
    (hd : decode c.code pc = .ok (i, 1)) (hQ : Q (some w) T.heap locs) (hk : cells ≤ k) (hs : slots ≤ n) : oWk p.tables e below (oDn s below Q k n) T (mkF m pc Ls (w :: rest)) := by
  obtain ⟨fs, hr, hrun, hended, hW, hsame⟩ := X.leave (v := some w) (fun h => by rw [hret] at h; cases h) hlk
  exact ⟨_, retOut X hx hret hn hi hd hr, hrun, _, _, hended, hQ, ⟨_, rfl⟩, hW, hsame.mono hk hs⟩
theorem oRetI (X : Stand p l e R s m args below meth c T locs cells slots) (hx : p.tables.exec = Jvm.exec) (hlk : meth.locks = false) {z : Int32} {rest : List Value} (hret : meth.sig.returnType = some .int) (hd : decode c.code pc = .ok (.ireturn, 1)) (hQ : Q (some (.int z)) T.heap locs) (hk : cells ≤ k) (hs : slots ≤ n) :
    oWk p.tables e below (oDn s below Q k n) T (mkF m pc Ls (.int z :: rest)) := oRet X hx hlk hret rfl (Or.inl ⟨rfl, Or.inl rfl, _, rfl⟩) hd hQ hk hs
theorem oRetZ (X : Stand p l e R s m args below meth c T locs cells slots) (hx : p.tables.exec = Jvm.exec) (hlk : meth.locks = false) {z : Int32} {rest : List Value} (hret : meth.sig.returnType = some .boolean) (hd : decode c.code pc = .ok (.ireturn, 1)) (hz : z = 0 ∨ z = 1) (hQ : Q (some (.int z)) T.heap locs) (hk : cells ≤ k) (hs : slots ≤ n) :
    oWk p.tables e below (oDn s below Q k n) T (mkF m pc Ls (.int z :: rest)) := oRet X hx hlk hret (by rcases hz with rfl | rfl <;> rfl) (Or.inl ⟨rfl, Or.inr (Or.inl rfl), _, rfl⟩) hd hQ hk hs
theorem oRetN (X : Stand p l e R s m args below meth c T locs cells slots) (hx : p.tables.exec = Jvm.exec) (hlk : meth.locks = false) {z : Int32} {t : FieldType} {rest : List Value} (hret : meth.sig.returnType = some t) (ht : t = .byte ∨ t = .char ∨ t = .short) (hn : narrow t (.int z) = .int z) (hd : decode c.code pc = .ok (.ireturn, 1)) (hQ : Q (some (.int z)) T.heap locs) (hk : cells ≤ k) (hs : slots ≤ n) :
    oWk p.tables e below (oDn s below Q k n) T (mkF m pc Ls (.int z :: rest)) := oRet X hx hlk hret hn (Or.inl ⟨rfl, Or.inr (Or.inr ht), _, rfl⟩) hd hQ hk hs
theorem oRetD (X : Stand p l e R s m args below meth c T locs cells slots) (hx : p.tables.exec = Jvm.exec) (hlk : meth.locks = false) {z : UInt64} {rest : List Value} (hret : meth.sig.returnType = some .double) (hd : decode c.code pc = .ok (.dreturn, 1)) (hQ : Q (some (.double z)) T.heap locs) (hk : cells ≤ k) (hs : slots ≤ n) :
    oWk p.tables e below (oDn s below Q k n) T (mkF m pc Ls (.double z :: rest)) := oRet X hx hlk hret rfl (Or.inr (Or.inr (Or.inl ⟨rfl, rfl, _, rfl⟩))) hd hQ hk hs
theorem oNarR {t : FieldType} {w : Value} (ht : t.isReference = true) (hw : w.isRef = true) : narrow t w = w := by cases t <;> cases w <;> simp_all [narrow, FieldType.isReference, Value.isRef]
theorem oRetA (X : Stand p l e R s m args below meth c T locs cells slots) (hx : p.tables.exec = Jvm.exec) (hlk : meth.locks = false) {w : Value} {t : FieldType} {rest : List Value} (hret : meth.sig.returnType = some t) (ht : t.isReference = true) (hw : w.isRef = true) (hd : decode c.code pc = .ok (.areturn, 1)) (hQ : Q (some w) T.heap locs) (hk : cells ≤ k) (hs : slots ≤ n) :
    oWk p.tables e below (oDn s below Q k n) T (mkF m pc Ls (w :: rest)) := oRet X hx hlk hret (oNarR ht hw) (Or.inr (Or.inr (Or.inr (Or.inr ⟨rfl, ht, hw⟩)))) hd hQ hk hs
theorem oRetV (X : Stand p l e R s m args below meth c T locs cells slots) (hx : p.tables.exec = Jvm.exec) (hlk : meth.locks = false) (hret : meth.sig.returnType = none) (hd : decode c.code pc = .ok (.return_, 1)) (hQ : Q none T.heap locs) (hk : cells ≤ k) (hs : slots ≤ n) :
    oWk p.tables e below (oDn s below Q k n) T (mkF m pc Ls []) := by
  obtain ⟨fs, hr, hrun, hended, hW, hsame⟩ := X.leave (v := none) (fun _ => rfl) hlk
  exact ⟨_, X.returnOut hx hret hd hr, hrun, _, _, hended, hQ, ⟨_, rfl⟩, hW, hsame.mono hk hs⟩
end OwnB
/-- the heap is kept but for ws and new cells; the places written lie there -/
def oKp (h0 h : Heap) (ws : List Addr) (L : List Loc) : Prop := Keep h0 h ws ∧ ∀ y ∈ L, y.base ∈ ws ∨ h0.size ≤ y.base
section OwnC
variable {Z : State} {h0 h h' : Heap} {ws ws' : List Addr} {L L' : List Loc} {a : Addr} {sl : Nat} {v : Value}
theorem oKp.nil (h : Heap) (ws : List Addr) : oKp h h ws [] := ⟨Keep.refl _ _, fun _ q => nomatch q⟩
theorem oKp.ext (K : oKp h0 h ws L) (E : Ext h h') : oKp h0 h' ws L := ⟨K.1.ext E, K.2⟩
theorem oKp.wr (K : oKp h0 h ws L) (W : Wr h h' a sl v) (q : a ∈ ws ∨ h0.size ≤ a) : oKp h0 h' ws (L ++ [⟨a, sl⟩]) := ⟨K.1.wr W q, fun y hy => (List.mem_append.mp hy).elim (K.2 y) fun hy => by cases List.mem_singleton.mp hy; exact q⟩
theorem oKp.call (K : oKp h0 h ws L) (K' : oKp h h' ws' L') (q : ∀ x ∈ ws', x ∈ ws ∨ h0.size ≤ x) : oKp h0 h' ws (L ++ L') := ⟨K.1.trans K'.1 q, fun y hy => (List.mem_append.mp hy).elim (K.2 y) fun hy => (K'.2 y hy).elim (q _) fun z => Or.inr (Nat.le_trans K.1.1 z)⟩
theorem oKp.le (K : oKp h0 h ws L) : h0.size ≤ h.size := K.1.1
theorem oKp.old (K : oKp h0 h ws L) (O : Ext Z.heap h0) (q : ∀ x ∈ ws, Z.heap.size ≤ x) : Ext Z.heap h := ⟨Nat.le_trans O.1 K.1.1, fun x c hc => K.1.2.1 x c (O.2 x c hc) fun hx => absurd (Array.getElem?_eq_some_iff.mp hc).1 (Nat.not_lt.mpr (q x hx))⟩
theorem oKp.fr (K : oKp h0 h [] L) : Fr h0.size L := fun y hy => (K.2 y hy).elim (fun q => nomatch q) id
theorem oExtRefl (h : Heap) : Ext h h := ⟨Nat.le_refl _, fun _ _ q => q⟩
theorem Ext.keep0 (E : Ext h h') : Keep h h' [] := ⟨E.1, fun x c q _ => E.2 x c q, fun x c q => ⟨c, E.2 x c q, rfl, rfl, rfl⟩⟩
end OwnC
/-- a truth as an int -/
def oBi (P : Prop) [Decidable P] : Int32 := if P then 1 else 0
theorem oBi_t {P : Prop} [Decidable P] (h : P) : oBi P = 1 := if_pos h
theorem oBi_f {P : Prop} [Decidable P] (h : ¬ P) : oBi P = 0 := if_neg h
theorem oBi_ne {P : Prop} [Decidable P] (h : P) : ¬ oBi P = 0 := by rw [oBi_t h]; decide
theorem oBi_01 (P : Prop) [Decidable P] : oBi P = 0 ∨ oBi P = 1 := by by_cases h : P; exact Or.inr (if_pos h); exact Or.inl (if_neg h)
theorem oBi_0 {P : Prop} [Decidable P] (h : oBi P = 0) : ¬ P := fun q => oBi_ne q h
theorem oBi_1 {P : Prop} [Decidable P] (h : ¬ oBi P = 0) : P := Decidable.byContradiction fun q => h (oBi_f q)
section OwnD
variable {args : Array Value} {Z : State} {t u : Term} {C n d K : String} {a b : Addr} {k : Int32}
theorem oFldR (ht : t.eval args Z none [] Z = some (.ref a)) (hu : u.eval args Z none [] Z = some (.ref b)) (h : (Jvm.Cond.eq (.field t C n d) u).value args Z none Z [] = some true) : Fld Z Z.heap a C n d (.ref b) := by
  obtain ⟨x, y, e1, e2, k1, k2⟩ := cmp_v (Or.inl h)
  cases hu.symm.trans e2
  have hx : x.isRef = true := k2.2
  have q := gotT (eq_R e1 e2 hx rfl) h
  subst q
  exact Fld.start ((fld_at ht).symm.trans e1)
theorem oFldI (ht : t.eval args Z none [] Z = some (.ref a)) (h : (Jvm.Cond.eq (.field t C n d) (.int k)).value args Z none Z [] = some true) : Fld Z Z.heap a C n d (.int k) := by
  obtain ⟨x, y, e1, e2, k1, k2⟩ := cmp_v (Or.inl h)
  cases (Option.some.inj e2 : Value.int k = y)
  obtain ⟨z, rfl⟩ := (k2 : ∃ z, x = .int z)
  have q : z = k := by
    have h' := h
    simp only [Cond.value, e1, e2] at h'
    simpa using h'
  subst q
  exact Fld.start ((fld_at ht).symm.trans e1)
theorem oFldX (ht : t.eval args Z none [] Z = some (.ref a)) (h : (Jvm.Cond.exactly (.field t C n d) K).value args Z none Z [] = some true) : ∃ b, (Term.field t C n d).eval args Z none [] Z = some (.ref b) ∧ Fld Z Z.heap a C n d (.ref b) ∧ Exa Z Z.heap b K := by
  obtain ⟨b, e1⟩ := exa_v h
  exact ⟨b, e1, Fld.start ((fld_at ht).symm.trans e1), Exa.start e1 h⟩
theorem oNe32 {x y : Int32} (h : ¬ x = y) : x.toInt ≠ y.toInt := fun q => h (Int32.toInt_inj.mp q)
end OwnD
section OwnE
variable {Z : State} {a0 : Array Value} {C O K : String} {n : Nat} {h h' : Heap} {a : Addr} {ws : List Addr}
theorem oNSroot (wo : (Jvm.Cond.noSuperclass O).before a0 Z = true) (wk : (Jvm.Cond.instantiable K n).before a0 Z = true) (h2 : O ≠ K) : NS Z O K := by
  obtain ⟨t, kt, g1, -⟩ := Cond.instantiable_spec wk
  obtain ⟨c, k, a1, a2, a3, -, -⟩ := Cond.noSuperclass_spec wo
  have ne := ids_ne a1 g1 h2
  refine ⟨c, t, a1, g1, fun fuel => ?_⟩
  cases fuel with
  | zero => rfl
  | succ f => simp [Vm.isSubclassAux, ne, a2, a3]
theorem oNSno (w : (Jvm.Cond.superclass C O).before a0 Z = true) (wk : (Jvm.Cond.instantiable K n).before a0 Z = true) (N : NS Z C K) (h1 : C ≠ K) : ∃ c t, Z.vm.findClass C = some c ∧ Z.vm.findClass K = some t ∧ Z.vm.assignable c t = false := by
  obtain ⟨t, kt, g1, g2, g3, g4, -⟩ := Cond.instantiable_spec wk
  obtain ⟨c, t', b0, b1, b2⟩ := N
  cases g1.symm.trans b1
  obtain ⟨p, k, kp, e1, e2, e3, e4, e5, -, e7⟩ := Cond.superclass_spec b0 w
  have ne := ids_ne b0 g1 h1
  have gi : kt.isInterface = false := by simp only [Bool.or_eq_false_iff] at g4; exact g4.1
  refine ⟨c, t, b0, g1, ?_⟩
  show Z.vm.assignableAux (255 + 1) c t = false
  simp [Vm.assignableAux, ne, e2, g2, e5, g3, gi, Vm.isSubclass, b2]
theorem oNotInst (w : (Jvm.Cond.superclass C O).before a0 Z = true) (wo : (Jvm.Cond.noSuperclass O).before a0 Z = true) (wk : (Jvm.Cond.instantiable K n).before a0 Z = true) (h1 : C ≠ K) (h2 : O ≠ K) : ∃ c t, Z.vm.findClass C = some c ∧ Z.vm.findClass K = some t ∧ Z.vm.assignable c t = false :=
  oNSno w wk (NS.step w (oNSroot wo wk h2) h1) h1
theorem oInsKeep {b : Bool} (F : Ins Z h a K b) (H : Keep h h' ws) : Ins Z h' a K b := by
  obtain ⟨cell, cT, h1, h2, h3⟩ := F
  obtain ⟨c', e1, e2, e3, -⟩ := H.2.2 _ _ h1
  exact ⟨c', cT, e1, h2, by rw [e2, e3]; exact h3⟩
end OwnE
theorem oNot0 {args : Array Value} {Z : State} {t : Term} {x : Int32} (h : t.eval args Z none [] Z = some (.int x)) (hn : (Jvm.Cond.not (.eq t (.int 0))).value args Z none Z [] = some true) : ¬ x = (0 : Int32) := fun q => by
  subst q
  have e : (Jvm.Cond.eq t (.int 0)).value args Z none Z [] = some true := eq_i h (Term.int_eval 0) rfl
  simp [Cond.value] at hn e
  rw [e] at hn
  simp at hn
theorem oFldD {args : Array Value} {Z : State} {t : Term} {C n d : String} {a : Addr} {k : Int64} (ht : t.eval args Z none [] Z = some (.ref a)) (h : (Jvm.Cond.eq (.field t C n d) (.op1 .bitsD (.long k))).value args Z none Z [] = some true) : Fld Z Z.heap a C n d (.double k.toUInt64) := by
  obtain ⟨x, y, e1, e2, k1, k2⟩ := cmp_v (Or.inl h)
  have e3 : (Term.op1 .bitsD (.long k)).eval args Z none [] Z = some (.double k.toUInt64) := rfl
  cases e3.symm.trans e2
  obtain ⟨z, rfl⟩ := (k2 : ∃ z, x = .double z)
  have q : z = k.toUInt64 := by
    have h' := h
    simp only [Cond.value, e1, e2] at h'
    simpa using h'
  subst q
  exact Fld.start ((fld_at ht).symm.trans e1)
section OwnF
variable {p : Program} {l : Launch} {e : Env} {R : Room} {s : State} {m : MethodId} {args : Array Value} {below : List Frame} {meth : Method} {c : Code} {T : State} {locs : List Loc} {cells slots : Nat} {Z : State} {a0 : Array Value} {h : Heap} {own C : String} {index : Nat} {a mr : Addr}
/-- the Class object of C has been made: mr -/
def oMir (Z : State) (C : String) (mr : Addr) : Prop := ∃ (c : ClassId) (k : Class), Z.vm.findClass C = some c ∧ Z.vm.classes[c]? = some k ∧ k.mirror = some mr
abbrev oGc : MethodName := ⟨"java/lang/Object", "getClass", "()Ljava/lang/Class;"⟩
theorem oGcls (X : Stand p l e R s m args below meth c T locs cells slots) (hx : p.tables.exec = Jvm.exec) (hZ : Z.Warmed39 s.vm) (hown : s.vm.findClass own = some m.cls) (w1 : (Jvm.Cond.methodLink own index oGc).before a0 Z = true) (w2 : (Jvm.Cond.declares oGc).before a0 Z = true) (w4 : (Jvm.Cond.selects C oGc oGc).before a0 Z = true) (w5 : (Jvm.Cond.instanceMethod oGc).before a0 Z = true) (w6 : (Jvm.Cond.native oGc).before a0 Z = true) (eT : T.heap = h) (E : Exa Z h a C) (M : oMir Z C mr)
    {g : JFrame} (hg : g.method = m) (hsize : g.locals.size = c.maxLocals) {rest : List Value} (hs : g.stack = .ref a :: rest) (hd : decode c.code g.pc = .ok (.invokevirtual index, 3)) (hf : 1 ≤ R.frames) {W : Nat} (hW : 2 * g.monitorRoom + (rest.map fun v => v.category).sum ≤ W) (hl : W + (nativeFrameWords "java/lang/Object" "getClass" 1 + 11) ≤ R.locals) :
    ∃ T', Stand p l e R s m args below meth c T' locs cells slots ∧ T'.heap = h ∧ ∀ target, Steps p.tables e below (T'.setTop { g with pc := g.pc + 3, stack := .ref mr :: rest }) target → Steps p.tables e below (T.setTop g) target := by
  obtain ⟨cB, kB, i1, i2, i3⟩ := isOf hZ eT E
  obtain ⟨cc, kc, m1, m2, m3⟩ := M
  have i0 := i1
  rw [hZ.alike.findClass] at i1
  cases i1.symm.trans m1
  obtain ⟨k', q, ek⟩ := hZ.alike.2.2 _ _ m2
  obtain ⟨vm', X', st⟩ := X.getClassOf hx hown (mvT hZ w1) (mvT hZ w2) (notFace_of_selects (args := #[]) (mvT hZ w4)) (mvT hZ w4) (mvT hZ w5) (mvT hZ w6) i0 i3 q (by rw [ek]; exact m3) hg hsize hs hd hf (by omega)
  exact ⟨_, X', eT, st⟩
theorem oLdcM (X : Stand p l e R s m args below meth c T locs cells slots) (hx : p.tables.exec = Jvm.exec) (hZ : Z.Warmed39 s.vm) (hown : s.vm.findClass own = some m.cls) (w : (Jvm.Cond.classLink own index C).before a0 Z = true) (eT : T.heap = h) (M : oMir Z C mr)
    {g : JFrame} (hg : g.method = m) (hd : decode c.code g.pc = .ok (.ldc index, 2)) : ∃ T', Stand p l e R s m args below meth c T' locs cells slots ∧ T'.heap = h ∧ ∀ target, Steps p.tables e below (T'.setTop { g with pc := g.pc + 2, stack := .ref mr :: g.stack }) target → Steps p.tables e below (T.setTop g) target := by
  obtain ⟨cc, kc, m1, m2, m3⟩ := M
  obtain ⟨k', q, ek⟩ := hZ.alike.2.2 _ _ m2
  have f1 : s.vm.findClass C = some cc := by rw [hZ.alike.findClass]; exact m1
  have f2 : k'.mirror = some mr := by rw [ek]; exact m3
  obtain ⟨vm', X', st⟩ := X.ldcMirror hx hown (mvT hZ w) (a := mr) (by simp [Term.eval, f1, q, f2]) hg hd
  exact ⟨_, X', eT, st⟩
end OwnF
theorem oArr0 {args : Array Value} {Z : State} {t : Term} {a : Addr} {ty : FieldType} {dv : Value} (hf : Fit Z) (ev : t.eval args Z none [] Z = some (.ref a)) (h1 : (Jvm.Cond.arrayOf t ty).value args Z none Z [] = some true) (h2 : (Jvm.Cond.eq (.length t) (.int 0)).value args Z none Z [] = some true) : ∃ k, Arv Z Z.heap a k ty 0 [] dv := by
  obtain ⟨cl, A⟩ := Arr.start ev h1
  have ha : Z.arrayAt? a = some cl := Arr.fin (Vm.Alike.refl _) A
  have hlt : cl.slots.size < 2 ^ 31 := by
    apply Decidable.byContradiction
    intro q
    have e : (Term.length t).eval args Z none [] Z = none := by
      cases hv : (Term.length t).eval args Z none [] Z with
      | none => rfl
      | some y =>
        simp only [Term.eval, Option.bind_eq_bind] at hv
        rw [ev] at hv
        simp [ha, q] at hv
    simp [Cond.value, e] at h2
  have e : (Term.length t).eval args Z none [] Z = some (.int cl.slots.size.toInt32) := len_f ev ha hlt
  have z : cl.slots.size.toInt32 = 0 := by
    have h' := h2
    simp only [Cond.value, e, Term.int_eval] at h'
    simpa using h'
  have z' : cl.slots.size = 0 := by
    have := len_toInt hlt
    rw [z] at this
    have r : (0 : Int32).toInt = 0 := by decide
    omega
  exact ⟨_, Arv.start hf A hlt z (by decide) rfl trivial⟩
theorem oNar01 {z : Int32} (hz : z = 0 ∨ z = 1) : narrow .boolean (.int z) = .int z := by rcases hz with rfl | rfl <;> rfl
theorem oFitC {x : Int32} (h : 0 ≤ x.toInt ∧ x.toInt < 256) : fits .char (.int x) = true := by
  have e : x.toUInt32.toUInt16.toUInt32.toInt32 = x := by
    have a := c_i2c x
    apply Int32.toInt_inj.mp
    omega
  have q := fits_nar_char x
  have r : nar .char x = x := e
  rw [r] at q; exact q
theorem oB8 (x : Int32) : x.toInt8.toInt32.toInt8.toInt32 = x.toInt8.toInt32 := by rw [Int8.toInt8_toInt32]
theorem oB8inj {x y : Int32} (hx : 0 ≤ x.toInt ∧ x.toInt < 256) (hy : 0 ≤ y.toInt ∧ y.toInt < 256) (h : x.toInt8.toInt32 = y.toInt8.toInt32) : x = y := by
  have a := c_i2b x
  have b := c_i2b y
  rw [h] at a
  apply Int32.toInt_inj.mp
  omega
theorem oCmp {P R : Prop} [Decidable P] [Decidable R] (h : P ↔ R) : oBi P = oBi R := by
  by_cases q : P
  · rw [oBi_t q, oBi_t (h.mp q)]
  · rw [oBi_f q, oBi_f (fun r => q (h.mpr r))]

def Q_rCan (Z : State) (xp : Int32) (h0 : Heap) (v : Option Value) (h : Heap) (L : List Loc) : Prop := v = some (.int (1 : Int32)) ∧ h = h0 ∧ oKp h0 h [] L
theorem pn_0 : plainName "java/lang/StringLatin1" = true := by first | (simp [plainName, overriddenIn]; done) | decide +kernel
abbrev yy0 : MethodName := ⟨"java/lang/StringLatin1", "canEncode", "(C)Z"⟩
theorem d4_0 : decode jdk_43_method_3_code 0 = .ok (.iload_n 0, 1) := by decide +kernel
theorem d4_1 : decode jdk_43_method_3_code 1 = .ok (.sipush 255, 3) := by decide +kernel
theorem d4_4 : decode jdk_43_method_3_code 4 = .ok (.if_icmp .gt 7, 3) := by decide +kernel
theorem d4_7 : decode jdk_43_method_3_code 7 = .ok (.iconst 1, 1) := by decide +kernel
theorem d4_8 : decode jdk_43_method_3_code 8 = .ok (.goto 4, 3) := by decide +kernel
theorem d4_12 : decode jdk_43_method_3_code 12 = .ok (.ireturn, 1) := by decide +kernel
theorem rCan (l : Launch) (Z : State) (a0 : Array Value) (hw : ∀ d ∈ tables_1, d.before a0 Z = true) (ws : List Jvm.Cond) (xp : Int32) (h0 : Heap) (O0 : Ext Z.heap h0) (hle : ¬ (255 : Int32) < xp) :
    oCon l Z yy0 jdk_43_method_3_code 1 (some .boolean) ws ({ frames := 0, cells := 0, slots := 0, locals := 0 } : Room) #[(.int xp)] h0 (Q_rCan Z xp h0) := by
  refine oCon.of (plainFor_of_name pn_0) ?_
  intro p e s m below meth c T X hx hby hml hown hnm hret hlk hZ e0
  have hml : c.maxLocals = 1 := hml
  have K : oKp h0 h0 [] [] := oKp.nil _ _
  refine oWk.cast (g' := (mkF m 0 #[iv xp] [])) (by first | rfl | (simp [entryFrame, mkF, argsToLocals, Value.category]; done)) ?_
  refine oWk.st (fun _ kt => XS.iloadN X.here hx rfl (hb hby d4_0) rfl (XS.sipush X.here hx rfl (hb hby d4_1) (XS.icmpNo X.here hx rfl (hb hby d4_4) rfl (flt hle).2.2.1 (XS.iconst X.here hx rfl (hb hby d4_7) (XS.goto X.here hx rfl (pc0 := 8) (pc' := 12) rfl (hb hby d4_8) (by decide) (by decide) kt))))) ?_
  show oWk _ _ _ _ T (mkF m 12 #[iv xp] [(.int 1)])
  exact oRetZ X hx hlk hret (hb hby d4_12) (Or.inr rfl) (by rw [e0]; exact ⟨rfl, rfl, K⟩) (by decide) (by decide)
def Q_rToB (Z : State) (xp : Int32) (h0 : Heap) (v : Option Value) (h : Heap) (L : List Loc) : Prop := ∃ (nb : Addr) (nk : ClassId), v = some (.ref nb) ∧ oKp h0 h [] L ∧ (h0.size ≤ nb) ∧ (Arv Z h nb nk .byte (1 : Int32) [(.int (xp.toInt8.toInt32))] (.int (0 : Int32)))
abbrev yy1 : MethodName := ⟨"java/lang/StringLatin1", "toBytes", "(C)[B"⟩
theorem d5_0 : decode jdk_43_method_46_code 0 = .ok (.iconst 1, 1) := by decide +kernel
theorem d5_1 : decode jdk_43_method_46_code 1 = .ok (.newarray .byte, 2) := by decide +kernel
theorem d5_3 : decode jdk_43_method_46_code 3 = .ok (.dup, 1) := by decide +kernel
theorem d5_4 : decode jdk_43_method_46_code 4 = .ok (.iconst 0, 1) := by decide +kernel
theorem d5_5 : decode jdk_43_method_46_code 5 = .ok (.iload_n 0, 1) := by decide +kernel
theorem d5_6 : decode jdk_43_method_46_code 6 = .ok (.i2b, 1) := by decide +kernel
theorem d5_7 : decode jdk_43_method_46_code 7 = .ok (.bastore, 1) := by decide +kernel
theorem d5_8 : decode jdk_43_method_46_code 8 = .ok (.areturn, 1) := by decide +kernel
theorem rToB (l : Launch) (Z : State) (a0 : Array Value) (hw : ∀ d ∈ tables_1, d.before a0 Z = true) (ws : List Jvm.Cond) (xp : Int32) (h0 : Heap) (O0 : Ext Z.heap h0)  :
    oCon l Z yy1 jdk_43_method_46_code 1 (some (.array .byte)) ws ({ frames := 0, cells := 1, slots := 1, locals := 0 } : Room) #[(.int xp)] h0 (Q_rToB Z xp h0) := by
  refine oCon.of (plainFor_of_name pn_0) ?_
  intro p e s m below meth c T X hx hby hml hown hnm hret hlk hZ e0
  have hml : c.maxLocals = 1 := hml
  have K : oKp h0 h0 [] [] := oKp.nil _ _
  refine oWk.cast (g' := (mkF m 0 #[iv xp] [])) (by first | rfl | (simp [entryFrame, mkF, argsToLocals, Value.category]; done)) ?_
  refine oWk.st (fun _ kt => XS.iconst X.here hx rfl (hb hby d5_0) kt) ?_
  obtain ⟨o1, g1⟩ : ∃ z, z = h0.size := ⟨_, rfl⟩
  have ge_o1 : h0.size ≤ o1 := Nat.le_trans K.le (Nat.le_of_eq g1.symm)
  obtain ⟨T, h, k1, X, e0, E1, A1, st⟩ := newP X hx hZ (oW hw 28 rfl) e0 (g := (mkF m 1 #[iv xp] [(.int 1)])) rfl (hb hby d5_1) rfl (by decide) (cap := 1) (by decide) (by decide) (by decide) (by decide)
  rw [← g1] at A1 st
  refine oWk.st st ?_
  have K := K.ext E1
  have V_o1 : Arv Z h o1 k1 .byte (1 : Int32) [(.int (0 : Int32))] (.int (0 : Int32)) := (Arv.new A1 (by decide)).pad (pad_rep [] (.int (0 : Int32)) 1)
  refine oWk.st (fun _ kt => XS.dup X.here hx rfl (hb hby d5_3) rfl rfl (XS.iconst X.here hx rfl (hb hby d5_4) (XS.iloadN X.here hx rfl (hb hby d5_5) rfl (XS.i2b X.here hx rfl (hb hby d5_6) rfl kt)))) ?_
  obtain ⟨cl2, Ar2, q2, Sz2, Nn2, Hs2, Ft2⟩ := id V_o1
  have hin2 : ¬ ((0 : Int32) < 0 ∨ cl2.slots.size ≤ ((0 : Int32)).toNatClampNeg) := inb_of Sz2 ⟨by decide, by decide⟩
  obtain ⟨T, h, X, e0, W2, st⟩ := stB X hx hZ e0 Ar2 (j := (0 : Int32)) hin2 (g := (mkF m 7 #[iv xp] [(.int (xp.toInt8.toInt32)), (.int 0), (.ref o1), (.ref o1)])) rfl rfl (hb hby d5_7)
  refine oWk.st st ?_
  have K := K.wr W2 (Or.inr ge_o1)
  have V_o1 := Arv.set Ar2 q2 Sz2 Nn2 Hs2 Ft2 (fits_nar_byte _) W2 0 rfl (Nat.le_of_ble_eq_true rfl)
  rw [oB8 xp] at V_o1
  replace V_o1 : Arv Z h o1 k1 .byte (1 : Int32) [(.int (xp.toInt8.toInt32))] (.int (0 : Int32)) := V_o1
  exact oRetA X hx hlk hret rfl rfl (hb hby d5_8) (by rw [e0]; exact ⟨o1, k1, rfl, K, ge_o1, V_o1⟩) (by decide) (by decide)
def Q_rSIn (Z : State) (xa : Addr) (xb : Addr) (xu : Value) (xv : Value) (h0 : Heap) (v : Option Value) (h : Heap) (L : List Loc) : Prop := v = none ∧ oKp h0 h [xa] L ∧ (Exa Z h xa "java/lang/String") ∧ (Fld Z h xa "java/lang/String" "value" "[B" (.ref xb)) ∧ (Fld Z h xa "java/lang/String" "coder" "B" (.int (0 : Int32)))
theorem pn_1 : plainName "java/lang/String" = true := by first | (simp [plainName, overriddenIn]; done) | decide +kernel
abbrev yy2 : MethodName := ⟨"java/lang/String", "<init>", "([BB)V"⟩
theorem d6_0 : decode jdk_42_method_151_code 0 = .ok (.aload_n 0, 1) := by decide +kernel
theorem d6_1 : decode jdk_42_method_151_code 1 = .ok (.invokespecial 1, 3) := by decide +kernel
theorem d6_4 : decode jdk_42_method_151_code 4 = .ok (.aload_n 0, 1) := by decide +kernel
theorem d6_5 : decode jdk_42_method_151_code 5 = .ok (.aload_n 1, 1) := by decide +kernel
theorem d6_6 : decode jdk_42_method_151_code 6 = .ok (.putfield 9, 3) := by decide +kernel
theorem d6_9 : decode jdk_42_method_151_code 9 = .ok (.aload_n 0, 1) := by decide +kernel
theorem d6_10 : decode jdk_42_method_151_code 10 = .ok (.iload_n 2, 1) := by decide +kernel
theorem d6_11 : decode jdk_42_method_151_code 11 = .ok (.putfield 15, 3) := by decide +kernel
theorem d6_14 : decode jdk_42_method_151_code 14 = .ok (.return_, 1) := by decide +kernel
theorem rSIn (l : Launch) (Z : State) (a0 : Array Value) (hw : ∀ d ∈ tables_1, d.before a0 Z = true) (ws : List Jvm.Cond) (xa : Addr) (xb : Addr) (xu : Value) (xv : Value) (h0 : Heap) (O0 : Ext Z.heap h0) (og_xa : Z.heap.size ≤ xa) (E_xa : Exa Z h0 xa "java/lang/String") (F_value_xa : Fld Z h0 xa "java/lang/String" "value" "[B" xu) (F_coder_xa : Fld Z h0 xa "java/lang/String" "coder" "B" xv) :
    oCon l Z yy2 jdk_42_method_151_code 3 none ws ({ frames := 1, cells := 0, slots := 0, locals := 12 } : Room) #[(.ref xa), (.ref xb), (.int (0 : Int32))] h0 (Q_rSIn Z xa xb xu xv h0) := by
  refine oCon.of (plainFor_of_name pn_1) ?_
  intro p e s m below meth c T X hx hby hml hown hnm hret hlk hZ e0
  have hml : c.maxLocals = 3 := hml
  have K : oKp h0 h0 [xa] [] := oKp.nil _ _
  refine oWk.cast (g' := (mkF m 0 #[rv xa, rv xb, iv 0] [])) (by first | rfl | (simp [entryFrame, mkF, argsToLocals, Value.category]; done)) ?_
  refine oWk.st (fun _ kt => XS.aloadN X.here hx rfl (hb hby d6_0) rfl rfl kt) ?_
  obtain ⟨T, X, e0, st⟩ := initO X hx hZ hown (oW hw 33 rfl) (oW hw 34 rfl) (oW hw 35 rfl) e0 (g := (mkF m 1 #[rv xa, rv xb, iv 0] [(.ref xa)])) rfl (by rw [hml]; rfl) rfl (hb hby d6_1) (by decide) (W := 0) (Nat.le_of_eq rfl) (by decide)
  refine oWk.st st ?_
  refine oWk.st (fun _ kt => XS.aloadN X.here hx rfl (hb hby d6_4) rfl rfl (XS.aloadN X.here hx rfl (hb hby d6_5) rfl rfl kt)) ?_
  obtain ⟨T, h, X, e0, W1, st⟩ := putF X hx hZ hown (host := "") (Or.inl (oW hw 36 rfl)) Via.refl e0 F_value_xa E_xa (Or.inr ⟨(oW hw 37 rfl), rfl, hnm⟩) (oW hw 24 rfl) (ty := (.array .byte)) (by decide) rfl rfl (g := (mkF m 6 #[rv xa, rv xb, iv 0] [(.ref xb), (.ref xa)])) rfl rfl (hb hby d6_6)
  refine oWk.st st ?_
  have K := K.wr W1 (Or.inl (List.mem_of_getElem? (i := 0) rfl))
  have F_value_xa := F_value_xa.same W1
  refine oWk.st (fun _ kt => XS.aloadN X.here hx rfl (hb hby d6_9) rfl rfl (XS.iloadN X.here hx rfl (hb hby d6_10) rfl kt)) ?_
  have E_xa := (E_xa.wr W1)
  have F_coder_xa := (F_coder_xa.other W1 (Or.inr (slot_ne (Or.inr (oW hw 39 rfl)) (Or.inr (oW hw 37 rfl)) (by decide) (t := .byte) (t' := (.array .byte)) (by decide) (by decide))))
  obtain ⟨T, h, X, e0, W2, st⟩ := putFN X hx hZ hown (oW hw 38 rfl) Via.refl e0 F_coder_xa E_xa (Or.inr ⟨(oW hw 39 rfl), rfl, hnm⟩) (oW hw 24 rfl) (ty := .byte) (v' := .int (0 : Int32)) (by decide) rfl (by decide) (g := (mkF m 11 #[rv xa, rv xb, iv 0] [(.int 0), (.ref xa)])) rfl rfl (hb hby d6_11)
  refine oWk.st st ?_
  have K := K.wr W2 (Or.inl (List.mem_of_getElem? (i := 0) rfl))
  have F_coder_xa := F_coder_xa.same W2
  have E_xa := (E_xa.wr W2)
  have F_value_xa := (F_value_xa.other W2 (Or.inr (slot_ne (Or.inr (oW hw 37 rfl)) (Or.inr (oW hw 39 rfl)) (by decide) (t := (.array .byte)) (t' := .byte) (by decide) (by decide))))
  exact oRetV X hx hlk hret (hb hby d6_14) (by rw [e0]; exact ⟨rfl, K, E_xa, F_value_xa, F_coder_xa⟩) (by decide) (by decide)
def Q_rVal (Z : State) (xp : Int32) (xz : Int32) (h0 : Heap) (v : Option Value) (h : Heap) (L : List Loc) : Prop := ∃ (nr : Addr) (nb : Addr) (nk : ClassId), v = some (.ref nr) ∧ oKp h0 h [] L ∧ (h0.size ≤ nr) ∧ (h0.size ≤ nb) ∧ (Exa Z h nr "java/lang/String") ∧ (Fld Z h nr "java/lang/String" "value" "[B" (.ref nb)) ∧ (Fld Z h nr "java/lang/String" "coder" "B" (.int (0 : Int32))) ∧ (Arv Z h nb nk .byte (1 : Int32) [(.int (xp.toInt8.toInt32))] (.int (0 : Int32))) ∧ (nr ≠ nb)
abbrev yy3 : MethodName := ⟨"java/lang/String", "valueOf", "(C)Ljava/lang/String;"⟩
theorem d3_0 : decode jdk_42_method_139_code 0 = .ok (.getstatic 38, 3) := by decide +kernel
theorem d3_3 : decode jdk_42_method_139_code 3 = .ok (.ifCond .eq 23, 3) := by decide +kernel
theorem d3_6 : decode jdk_42_method_139_code 6 = .ok (.iload_n 0, 1) := by decide +kernel
theorem d3_7 : decode jdk_42_method_139_code 7 = .ok (.invokestatic 1015, 3) := by decide +kernel
theorem pd_0 : parseMethodDescriptor "(C)Z" = some ⟨[.char], some .boolean⟩ := by decide +kernel
theorem d3_10 : decode jdk_42_method_139_code 10 = .ok (.ifCond .eq 16, 3) := by decide +kernel
theorem d3_13 : decode jdk_42_method_139_code 13 = .ok (.new 10, 3) := by decide +kernel
theorem d3_16 : decode jdk_42_method_139_code 16 = .ok (.dup, 1) := by decide +kernel
theorem d3_17 : decode jdk_42_method_139_code 17 = .ok (.iload_n 0, 1) := by decide +kernel
theorem d3_18 : decode jdk_42_method_139_code 18 = .ok (.invokestatic 1018, 3) := by decide +kernel
theorem pd_1 : parseMethodDescriptor "(C)[B" = some ⟨[.char], some (.array .byte)⟩ := by decide +kernel
theorem d3_21 : decode jdk_42_method_139_code 21 = .ok (.iconst 0, 1) := by decide +kernel
theorem d3_22 : decode jdk_42_method_139_code 22 = .ok (.invokespecial 209, 3) := by decide +kernel
theorem pd_2 : parseMethodDescriptor "([BB)V" = some ⟨[(.array .byte), .byte], none⟩ := by decide +kernel
theorem d3_25 : decode jdk_42_method_139_code 25 = .ok (.areturn, 1) := by decide +kernel
theorem rVal (l : Launch) (Z : State) (a0 : Array Value) (hw : ∀ d ∈ tables_1, d.before a0 Z = true) (ws : List Jvm.Cond) (xp : Int32) (xz : Int32) (h0 : Heap) (O0 : Ext Z.heap h0) (S_COMPACT_STRINGS : Sta Z Z.heap "java/lang/String" "COMPACT_STRINGS" "Z" (.int xz)) (hz : ¬ xz = (0 : Int32)) (hle : ¬ (255 : Int32) < xp) :
    oCon l Z yy3 jdk_42_method_139_code 1 (some (.object "java/lang/String")) ws ({ frames := 2, cells := 2, slots := 5, locals := 27 } : Room) #[(.int xp)] h0 (Q_rVal Z xp xz h0) := by
  refine oCon.of (plainFor_of_name pn_1) ?_
  intro p e s m below meth c T X hx hby hml hown hnm hret hlk hZ e0
  have hml : c.maxLocals = 1 := hml
  have K : oKp h0 h0 [] [] := oKp.nil _ _
  refine oWk.cast (g' := (mkF m 0 #[iv xp] [])) (by first | rfl | (simp [entryFrame, mkF, argsToLocals, Value.category]; done)) ?_
  have Oh := K.old O0 all0
  obtain ⟨T, X, e0, st⟩ := getS2 X hx hZ hown (host := "") (Or.inl (oW hw 18 rfl)) Via.refl e0 (S_COMPACT_STRINGS.ext Oh) (g := (mkF m 0 #[iv xp] [])) rfl (hb hby d3_0)
  refine oWk.st st ?_
  refine oWk.st (fun _ kt => XS.ifNo X.here hx rfl (hb hby d3_3) rfl ((if0 _ _).trans (feq hz).1) (XS.iloadN X.here hx rfl (hb hby d3_6) rfl kt)) ?_
  have Oh := K.old O0 all0
  obtain ⟨_, _, ⟨T, L2, k2, n2⟩, -, X, ⟨Lc2, hQ, l2, y2, z2⟩, st⟩ := Jvm.LawKit.callS X hx (y := yy0) hown (mvT hZ (oW hw 19 rfl)) (mvT hZ (oW hw 20 rfl)) (mvT hZ (oW hw 21 rfl)) (mvT hZ (oW hw 22 rfl)) (by decide) (backOf (W := 0) (rCan l Z a0 hw [] xp h0 Oh hle) hZ (oW hw 22 rfl) (oW hw 21 rfl) (by decide) (by decide)) (g := (mkF m 7 #[iv xp] [(.int xp)])) rfl (by rw [hml]; rfl) (argsL := [(.int xp)]) (rest := []) (lenOf pd_0 rfl) rfl (Nat.le_of_eq rfl) (hb hby d3_7) (fun _ _ => ⟨rfl, e0, (by decide : 0 + 0 ≤ _), (by decide : 0 + 0 ≤ _)⟩)
  dsimp only [Pt.U, Pt.locs, Pt.cells, Pt.slots] at X l2 y2 z2 st hQ
  subst l2 y2 z2
  obtain ⟨rfl, e0, K1⟩ := hQ
  have K := K.call K1 all0
  rw [e0] at K
  refine oWk.st st ?_
  refine oWk.st (fun _ kt => XS.ifNo X.here hx rfl (hb hby d3_10) rfl ((if0 _ _).trans (feq (by decide)).1) kt) ?_
  obtain ⟨o3, g3⟩ : ∃ z, z = h0.size := ⟨_, rfl⟩
  have ge_o3 : h0.size ≤ o3 := Nat.le_trans K.le (Nat.le_of_eq g3.symm)
  obtain ⟨T, h, X, e0, E3, A3, D3, -, st⟩ := newO X hx hZ hown (oW hw 23 rfl) (oW hw 24 rfl) (oW hw 16 rfl) e0 (g := (mkF m 13 #[iv xp] [])) rfl (hb hby d3_13) (by decide) (by decide)
  rw [← g3] at A3 D3 st
  refine oWk.st st ?_
  have K := K.ext E3
  have E_o3 := A3
  have F_value_o3 : Fld Z h o3 "java/lang/String" "value" "[B" .null := D3 (Or.inr (oW hw 37 rfl)) (ty := (.array .byte)) (by decide)
  have F_coder_o3 : Fld Z h o3 "java/lang/String" "coder" "B" (.int (0 : Int32)) := D3 (Or.inr (oW hw 39 rfl)) (ty := .byte) (by decide)
  refine oWk.st (fun _ kt => XS.dup X.here hx rfl (hb hby d3_16) rfl rfl (XS.iloadN X.here hx rfl (hb hby d3_17) rfl kt)) ?_
  have lt_o3 := E_o3.lt
  have Oh := K.old O0 all0
  obtain ⟨_, _, ⟨T, L5, k5, n5⟩, -, X, ⟨Lc5, hQ, l5, y5, z5⟩, st⟩ := Jvm.LawKit.callS X hx (y := yy1) hown (mvT hZ (oW hw 25 rfl)) (mvT hZ (oW hw 26 rfl)) (mvT hZ (oW hw 21 rfl)) (mvT hZ (oW hw 27 rfl)) (by decide) (backOf (W := 2) (rToB l Z a0 hw [] xp h Oh ) hZ (oW hw 27 rfl) (oW hw 21 rfl) (by decide) (by decide)) (g := (mkF m 18 #[iv xp] [(.int xp), (.ref o3), (.ref o3)])) rfl (by rw [hml]; rfl) (argsL := [(.int xp)]) (rest := [(.ref o3), (.ref o3)]) (lenOf pd_1 rfl) rfl (Nat.le_of_eq rfl) (hb hby d3_18) (fun _ _ => ⟨rfl, e0, (by decide : 1 + 1 ≤ _), (by decide : 4 + 1 ≤ _)⟩)
  dsimp only [Pt.U, Pt.locs, Pt.cells, Pt.slots] at X l5 y5 z5 st hQ
  subst l5 y5 z5
  obtain ⟨h, e0⟩ : ∃ z, T.heap = z := ⟨_, rfl⟩
  rw [e0] at hQ
  obtain ⟨nb4, nk4, rfl, K4, gn_nb4, V_nb4⟩ := hQ
  have ge_nb4 := Nat.le_trans K.le gn_nb4
  have ne_o3_nb4 : o3 ≠ nb4 := Nat.ne_of_lt (Nat.lt_of_lt_of_le lt_o3 gn_nb4)
  have K := K.call K4 all0
  refine oWk.st st ?_
  refine oWk.st (fun _ kt => XS.iconst X.here hx rfl (hb hby d3_21) kt) ?_
  have E_o3 := (E_o3.keep K4.1)
  have F_value_o3 := (F_value_o3.keep K4.1 nin0)
  have F_coder_o3 := (F_coder_o3.keep K4.1 nin0)
  have Oh := K.old O0 all0
  obtain ⟨_, _, ⟨T, L7, k7, n7⟩, -, X, ⟨Lc7, hQ, l7, y7, z7⟩, st⟩ := X.specialBack hx (y := yy2) rfl hown (mvT hZ (oW hw 29 rfl)) (mvT hZ (oW hw 30 rfl)) (mvT hZ (oW hw 32 rfl)) (by decide) (backOf (W := 1) (rSIn l Z a0 hw [] o3 nb4 .null (.int (0 : Int32)) h Oh (Nat.le_trans O0.1 ge_o3) E_o3 F_value_o3 F_coder_o3) hZ (oW hw 32 rfl) (oW hw 16 rfl) (by decide) (by decide)) (g := (mkF m 22 #[iv xp] [(.int 0), (.ref nb4), (.ref o3), (.ref o3)])) rfl (by rw [hml]; rfl) (Steps.refl _) (a := o3) (argsL := [(.ref nb4), (.int (0 : Int32))]) (rest := [(.ref o3)]) (lenOf pd_2 rfl) rfl (Nat.le_of_eq rfl) (hb hby d3_22) (fun _ _ => ⟨rfl, e0, (by decide : 2 + 0 ≤ _), (by decide : 5 + 0 ≤ _)⟩)
  dsimp only [Pt.U, Pt.locs, Pt.cells, Pt.slots] at X l7 y7 z7 st hQ
  subst l7 y7 z7
  obtain ⟨h, e0⟩ : ∃ z, T.heap = z := ⟨_, rfl⟩
  rw [e0] at hQ
  obtain ⟨rfl, K6, E_o3, F_value_o3, F_coder_o3⟩ := hQ
  have K := K.call K6 (allS (Or.inr ge_o3) all0)
  refine oWk.tr st ?_
  have V_nb4 := (V_nb4.keep K6.1 (ninS (Ne.symm ne_o3_nb4) nin0))
  exact oRetA X hx hlk hret rfl rfl (hb hby d3_25) (by rw [e0]; exact ⟨o3, nb4, nk4, rfl, K, ge_o3, ge_nb4, E_o3, F_value_o3, F_coder_o3, V_nb4, (ne_o3_nb4)⟩) (by decide) (by decide)
def Q_rLE (Z : State) (xa : Addr) (xb : Addr) (xk : ClassId) (xl : ClassId) (xu : Int32) (xv : Int32) (h0 : Heap) (v : Option Value) (h : Heap) (L : List Loc) : Prop := v = some (.int (oBi (xu = xv))) ∧ h = h0 ∧ oKp h0 h [] L
abbrev yy4 : MethodName := ⟨"java/lang/StringLatin1", "equals", "([B[B)Z"⟩
theorem d11_0 : decode jdk_43_method_13_code 0 = .ok (.aload_n 0, 1) := by decide +kernel
theorem d11_1 : decode jdk_43_method_13_code 1 = .ok (.arraylength, 1) := by decide +kernel
theorem d11_2 : decode jdk_43_method_13_code 2 = .ok (.aload_n 1, 1) := by decide +kernel
theorem d11_3 : decode jdk_43_method_13_code 3 = .ok (.arraylength, 1) := by decide +kernel
theorem d11_4 : decode jdk_43_method_13_code 4 = .ok (.if_icmp .ne 30, 3) := by decide +kernel
theorem d11_7 : decode jdk_43_method_13_code 7 = .ok (.iconst 0, 1) := by decide +kernel
theorem d11_8 : decode jdk_43_method_13_code 8 = .ok (.istore_n 2, 1) := by decide +kernel
theorem d11_9 : decode jdk_43_method_13_code 9 = .ok (.iload_n 2, 1) := by decide +kernel
theorem d11_10 : decode jdk_43_method_13_code 10 = .ok (.aload_n 0, 1) := by decide +kernel
theorem d11_11 : decode jdk_43_method_13_code 11 = .ok (.arraylength, 1) := by decide +kernel
theorem d11_12 : decode jdk_43_method_13_code 12 = .ok (.if_icmp .ge 20, 3) := by decide +kernel
theorem d11_15 : decode jdk_43_method_13_code 15 = .ok (.aload_n 0, 1) := by decide +kernel
theorem d11_16 : decode jdk_43_method_13_code 16 = .ok (.iload_n 2, 1) := by decide +kernel
theorem d11_17 : decode jdk_43_method_13_code 17 = .ok (.baload, 1) := by decide +kernel
theorem d11_18 : decode jdk_43_method_13_code 18 = .ok (.aload_n 1, 1) := by decide +kernel
theorem d11_19 : decode jdk_43_method_13_code 19 = .ok (.iload_n 2, 1) := by decide +kernel
theorem d11_20 : decode jdk_43_method_13_code 20 = .ok (.baload, 1) := by decide +kernel
theorem d11_21 : decode jdk_43_method_13_code 21 = .ok (.if_icmp .eq 5, 3) := by decide +kernel
theorem d11_26 : decode jdk_43_method_13_code 26 = .ok (.iinc 2 1, 3) := by decide +kernel
theorem d11_29 : decode jdk_43_method_13_code 29 = .ok (.goto (-20), 3) := by decide +kernel
theorem d11_32 : decode jdk_43_method_13_code 32 = .ok (.iconst 1, 1) := by decide +kernel
theorem d11_33 : decode jdk_43_method_13_code 33 = .ok (.ireturn, 1) := by decide +kernel
theorem d11_24 : decode jdk_43_method_13_code 24 = .ok (.iconst 0, 1) := by decide +kernel
theorem d11_25 : decode jdk_43_method_13_code 25 = .ok (.ireturn, 1) := by decide +kernel
theorem rLE (l : Launch) (Z : State) (a0 : Array Value) (hw : ∀ d ∈ tables_1, d.before a0 Z = true) (ws : List Jvm.Cond) (xa : Addr) (xb : Addr) (xk : ClassId) (xl : ClassId) (xu : Int32) (xv : Int32) (h0 : Heap) (O0 : Ext Z.heap h0) (V_xa : Arv Z h0 xa xk .byte (1 : Int32) [(.int xu)] (.int (0 : Int32))) (V_xb : Arv Z h0 xb xl .byte (1 : Int32) [(.int xv)] (.int (0 : Int32))) :
    oCon l Z yy4 jdk_43_method_13_code 3 (some .boolean) ws ({ frames := 0, cells := 0, slots := 0, locals := 0 } : Room) #[(.ref xa), (.ref xb)] h0 (Q_rLE Z xa xb xk xl xu xv h0) := by
  refine oCon.of (plainFor_of_name pn_0) ?_
  intro p e s m below meth c T X hx hby hml hown hnm hret hlk hZ e0
  have hml : c.maxLocals = 3 := hml
  have K : oKp h0 h0 [] [] := oKp.nil _ _
  refine oWk.cast (g' := (mkF m 0 #[rv xa, rv xb, uu] [])) (by first | rfl | (simp [entryFrame, mkF, argsToLocals, Value.category]; done)) ?_
  refine oWk.st (fun _ kt => XS.aloadN X.here hx rfl (hb hby d11_0) rfl rfl kt) ?_
  obtain ⟨cl1, Ar1, q1, Sz1, Nn1, Hs1, Ft1⟩ := id V_xa
  refine oWk.st (fun _ kt => X.arraylength hx (by rw [e0]; exact Ar1.1) (State.isArrayOf_alike hZ.alike Ar1.2.1) (g := (mkF m 1 #[rv xa, rv xb, uu] [(.ref xa)])) rfl rfl (hb hby d11_1) _ kt) ?_
  rw [len_of Sz1 Nn1]
  refine oWk.st (fun _ kt => XS.aloadN X.here hx rfl (hb hby d11_2) rfl rfl kt) ?_
  obtain ⟨cl2, Ar2, q2, Sz2, Nn2, Hs2, Ft2⟩ := id V_xb
  refine oWk.st (fun _ kt => X.arraylength hx (by rw [e0]; exact Ar2.1) (State.isArrayOf_alike hZ.alike Ar2.2.1) (g := (mkF m 3 #[rv xa, rv xb, uu] [(.ref xb), (.int 1)])) rfl rfl (hb hby d11_3) _ kt) ?_
  rw [len_of Sz2 Nn2]
  refine oWk.st (fun _ kt => XS.icmpNo X.here hx rfl (hb hby d11_4) rfl (teq (by decide)).2 (XS.iconst X.here hx rfl (hb hby d11_7) (XS.istoreN X.here hx rfl (hb hby d11_8) rfl (l' := #[rv xa, rv xb, iv 0]) rfl (XS.iloadN X.here hx rfl (hb hby d11_9) rfl (XS.aloadN X.here hx rfl (hb hby d11_10) rfl rfl kt))))) ?_
  obtain ⟨cl3, Ar3, q3, Sz3, Nn3, Hs3, Ft3⟩ := id V_xa
  refine oWk.st (fun _ kt => X.arraylength hx (by rw [e0]; exact Ar3.1) (State.isArrayOf_alike hZ.alike Ar3.2.1) (g := (mkF m 11 #[rv xa, rv xb, iv 0] [(.ref xa), (.int 0)])) rfl rfl (hb hby d11_11) _ kt) ?_
  rw [len_of Sz3 Nn3]
  refine oWk.st (fun _ kt => XS.icmpNo X.here hx rfl (hb hby d11_12) rfl (tlt (by decide)).2.1 (XS.aloadN X.here hx rfl (hb hby d11_15) rfl rfl (XS.iloadN X.here hx rfl (hb hby d11_16) rfl kt))) ?_
  obtain ⟨cl4, Ar4, q4, Sz4, Nn4, Hs4, Ft4⟩ := id V_xa
  have hin4 : ¬ ((0 : Int32) < 0 ∨ cl4.slots.size ≤ ((0 : Int32)).toNatClampNeg) := inb_of Sz4 ⟨by decide, by decide⟩
  have hat4 : cl4.slots[((0 : Int32)).toNatClampNeg]? = some (.int xu) := Hs4.at hin4 rfl
  refine oWk.st (fun _ kt => X.baloadBytes hx (j := (0 : Int32)) (v := (.int xu)) (by rw [e0]; exact Ar4.1) (State.isArrayOf_alike hZ.alike Ar4.2.1) Ar4.2.2 hin4 hat4 (g := (mkF m 17 #[rv xa, rv xb, iv 0] [(.int 0), (.ref xa)])) rfl rfl (hb hby d11_17) _ kt) ?_
  refine oWk.st (fun _ kt => XS.aloadN X.here hx rfl (hb hby d11_18) rfl rfl (XS.iloadN X.here hx rfl (hb hby d11_19) rfl kt)) ?_
  obtain ⟨cl5, Ar5, q5, Sz5, Nn5, Hs5, Ft5⟩ := id V_xb
  have hin5 : ¬ ((0 : Int32) < 0 ∨ cl5.slots.size ≤ ((0 : Int32)).toNatClampNeg) := inb_of Sz5 ⟨by decide, by decide⟩
  have hat5 : cl5.slots[((0 : Int32)).toNatClampNeg]? = some (.int xv) := Hs5.at hin5 rfl
  refine oWk.st (fun _ kt => X.baloadBytes hx (j := (0 : Int32)) (v := (.int xv)) (by rw [e0]; exact Ar5.1) (State.isArrayOf_alike hZ.alike Ar5.2.1) Ar5.2.2 hin5 hat5 (g := (mkF m 20 #[rv xa, rv xb, iv 0] [(.int 0), (.ref xb), (.int xu)])) rfl rfl (hb hby d11_20) _ kt) ?_
  by_cases hc21 : xu = xv
  · refine oWk.st (fun _ kt => XS.icmpYes X.here hx rfl (pc0 := 21) (pc' := 26) rfl (hb hby d11_21) rfl (teq hc21).1 (by decide) (by decide) kt) ?_
    show oWk _ _ _ _ T (mkF m 26 #[rv xa, rv xb, iv 0] [])
    refine oWk.st (fun _ kt => XS.iinc X.here hx rfl (hb hby d11_26) rfl (l' := #[rv xa, rv xb, iv ((0 : Int32) + (1 : Int32))]) rfl kt) ?_
    show oWk _ _ _ _ T (mkF m 29 #[rv xa, rv xb, iv ((0 : Int32) + (1 : Int32))] [])
    rw [show ((0 : Int32) + (1 : Int32)) = (1 : Int32) from by decide]
    show oWk _ _ _ _ T (mkF m 29 #[rv xa, rv xb, iv 1] [])
    refine oWk.st (fun _ kt => XS.goto X.here hx rfl (pc0 := 29) (pc' := 9) rfl (hb hby d11_29) (by decide) (by decide) (XS.iloadN X.here hx rfl (hb hby d11_9) rfl (XS.aloadN X.here hx rfl (hb hby d11_10) rfl rfl kt))) ?_
    obtain ⟨cl6, Ar6, q6, Sz6, Nn6, Hs6, Ft6⟩ := id V_xa
    refine oWk.st (fun _ kt => X.arraylength hx (by rw [e0]; exact Ar6.1) (State.isArrayOf_alike hZ.alike Ar6.2.1) (g := (mkF m 11 #[rv xa, rv xb, iv 1] [(.ref xa), (.int 1)])) rfl rfl (hb hby d11_11) _ kt) ?_
    rw [len_of Sz6 Nn6]
    refine oWk.st (fun _ kt => XS.icmpYes X.here hx rfl (pc0 := 12) (pc' := 32) rfl (hb hby d11_12) rfl (flt (by decide)).2.1 (by decide) (by decide) (XS.iconst X.here hx rfl (hb hby d11_32) kt)) ?_
    show oWk _ _ _ _ T (mkF m 33 #[rv xa, rv xb, iv 1] [(.int 1)])
    exact oRetZ X hx hlk hret (hb hby d11_33) (Or.inr rfl) (by rw [e0]; exact ⟨(by rw [oBi_t hc21]), rfl, K⟩) (by decide) (by decide)
  · refine oWk.st (fun _ kt => XS.icmpNo X.here hx rfl (hb hby d11_21) rfl (feq hc21).1 kt) ?_
    show oWk _ _ _ _ T (mkF m 24 #[rv xa, rv xb, iv 0] [])
    refine oWk.st (fun _ kt => XS.iconst X.here hx rfl (hb hby d11_24) kt) ?_
    show oWk _ _ _ _ T (mkF m 25 #[rv xa, rv xb, iv 0] [(.int 0)])
    exact oRetZ X hx hlk hret (hb hby d11_25) (Or.inl rfl) (by rw [e0]; exact ⟨(by rw [oBi_f (fun q => hc21 q)]), rfl, K⟩) (by decide) (by decide)
def Q_rSE (Z : State) (xa : Addr) (xb : Addr) (xc : Addr) (xd : Addr) (xk : ClassId) (xl : ClassId) (xu : Int32) (xv : Int32) (xz : Int32) (h0 : Heap) (v : Option Value) (h : Heap) (L : List Loc) : Prop := v = some (.int (oBi (xu = xv))) ∧ h = h0 ∧ oKp h0 h [] L
abbrev yy5 : MethodName := ⟨"java/lang/String", "equals", "(Ljava/lang/Object;)Z"⟩
theorem d10_0 : decode jdk_42_method_66_code 0 = .ok (.aload_n 0, 1) := by decide +kernel
theorem d10_1 : decode jdk_42_method_66_code 1 = .ok (.aload_n 1, 1) := by decide +kernel
theorem d10_2 : decode jdk_42_method_66_code 2 = .ok (.if_acmp .ne 5, 3) := by decide +kernel
theorem d10_7 : decode jdk_42_method_66_code 7 = .ok (.aload_n 1, 1) := by decide +kernel
theorem d10_8 : decode jdk_42_method_66_code 8 = .ok (.instanceof 10, 3) := by decide +kernel
theorem d10_11 : decode jdk_42_method_66_code 11 = .ok (.ifCond .eq 43, 3) := by decide +kernel
theorem d10_14 : decode jdk_42_method_66_code 14 = .ok (.aload_n 1, 1) := by decide +kernel
theorem d10_15 : decode jdk_42_method_66_code 15 = .ok (.checkcast 10, 3) := by decide +kernel
theorem d10_18 : decode jdk_42_method_66_code 18 = .ok (.astore_n 2, 1) := by decide +kernel
theorem d10_19 : decode jdk_42_method_66_code 19 = .ok (.getstatic 38, 3) := by decide +kernel
theorem d10_22 : decode jdk_42_method_66_code 22 = .ok (.ifCond .eq 14, 3) := by decide +kernel
theorem d10_25 : decode jdk_42_method_66_code 25 = .ok (.aload_n 0, 1) := by decide +kernel
theorem d10_26 : decode jdk_42_method_66_code 26 = .ok (.getfield 15, 3) := by decide +kernel
theorem d10_29 : decode jdk_42_method_66_code 29 = .ok (.aload_n 2, 1) := by decide +kernel
theorem d10_30 : decode jdk_42_method_66_code 30 = .ok (.getfield 15, 3) := by decide +kernel
theorem d10_33 : decode jdk_42_method_66_code 33 = .ok (.if_icmp .ne 21, 3) := by decide +kernel
theorem d10_36 : decode jdk_42_method_66_code 36 = .ok (.aload_n 0, 1) := by decide +kernel
theorem d10_37 : decode jdk_42_method_66_code 37 = .ok (.getfield 9, 3) := by decide +kernel
theorem d10_40 : decode jdk_42_method_66_code 40 = .ok (.aload_n 2, 1) := by decide +kernel
theorem d10_41 : decode jdk_42_method_66_code 41 = .ok (.getfield 9, 3) := by decide +kernel
theorem d10_44 : decode jdk_42_method_66_code 44 = .ok (.invokestatic 541, 3) := by decide +kernel
theorem pd_3 : parseMethodDescriptor "([B[B)Z" = some ⟨[(.array .byte), (.array .byte)], some .boolean⟩ := by decide +kernel
theorem d10_47 : decode jdk_42_method_66_code 47 = .ok (.ifCond .eq 7, 3) := by decide +kernel
theorem d10_50 : decode jdk_42_method_66_code 50 = .ok (.iconst 1, 1) := by decide +kernel
theorem d10_51 : decode jdk_42_method_66_code 51 = .ok (.goto 4, 3) := by decide +kernel
theorem d10_55 : decode jdk_42_method_66_code 55 = .ok (.ireturn, 1) := by decide +kernel
theorem d10_54 : decode jdk_42_method_66_code 54 = .ok (.iconst 0, 1) := by decide +kernel
theorem rSE (l : Launch) (Z : State) (a0 : Array Value) (hw : ∀ d ∈ tables_1, d.before a0 Z = true) (ws : List Jvm.Cond) (xa : Addr) (xb : Addr) (xc : Addr) (xd : Addr) (xk : ClassId) (xl : ClassId) (xu : Int32) (xv : Int32) (xz : Int32) (h0 : Heap) (O0 : Ext Z.heap h0) (S_COMPACT_STRINGS : Sta Z Z.heap "java/lang/String" "COMPACT_STRINGS" "Z" (.int xz)) (hz : ¬ xz = (0 : Int32)) (ne_xa_xb : xa ≠ xb) (E_xa : Exa Z h0 xa "java/lang/String") (F_coder_xa : Fld Z h0 xa "java/lang/String" "coder" "B" (.int (0 : Int32))) (F_value_xa : Fld Z h0 xa "java/lang/String" "value" "[B" (.ref xc)) (V_xc : Arv Z h0 xc xk .byte (1 : Int32) [(.int xu)] (.int (0 : Int32))) (E_xb : Exa Z h0 xb "java/lang/String") (F_coder_xb : Fld Z h0 xb "java/lang/String" "coder" "B" (.int (0 : Int32))) (F_value_xb : Fld Z h0 xb "java/lang/String" "value" "[B" (.ref xd)) (V_xd : Arv Z h0 xd xl .byte (1 : Int32) [(.int xv)] (.int (0 : Int32))) :
    oCon l Z yy5 jdk_42_method_66_code 3 (some .boolean) ws ({ frames := 1, cells := 0, slots := 0, locals := 14 } : Room) #[(.ref xa), (.ref xb)] h0 (Q_rSE Z xa xb xc xd xk xl xu xv xz h0) := by
  refine oCon.of (plainFor_of_name pn_1) ?_
  intro p e s m below meth c T X hx hby hml hown hnm hret hlk hZ e0
  have hml : c.maxLocals = 3 := hml
  have K : oKp h0 h0 [] [] := oKp.nil _ _
  refine oWk.cast (g' := (mkF m 0 #[rv xa, rv xb, uu] [])) (by first | rfl | (simp [entryFrame, mkF, argsToLocals, Value.category]; done)) ?_
  refine oWk.st (fun _ kt => XS.aloadN X.here hx rfl (hb hby d10_0) rfl rfl (XS.aloadN X.here hx rfl (hb hby d10_1) rfl rfl kt)) ?_
  refine oWk.st (fun _ kt => Jvm.RoadKit.acmp (g := (mkF m 2 #[rv xa, rv xb, uu] [(.ref xb), (.ref xa)])) X hx rfl rfl rfl (pc0 := 2) (pc' := 7) (same := false) rfl (hb hby d10_2) rfl (decide_eq_false fun q => ne_xa_xb (Value.ref.inj q)) (by decide) (by decide) kt) ?_
  show oWk _ _ _ _ T (mkF m 7 #[rv xa, rv xb, uu] [])
  refine oWk.st (fun _ kt => XS.aloadN X.here hx rfl (hb hby d10_7) rfl rfl kt) ?_
  obtain ⟨T, X, e0, st⟩ := instY X hx hZ hown (oW hw 23 rfl) e0 (Ins.self E_xb) (g := (mkF m 8 #[rv xa, rv xb, uu] [(.ref xb)])) rfl rfl (hb hby d10_8)
  refine oWk.st st ?_
  refine oWk.st (fun _ kt => XS.ifNo X.here hx rfl (hb hby d10_11) rfl ((if0 _ _).trans (feq (by decide)).1) (XS.aloadN X.here hx rfl (hb hby d10_14) rfl rfl kt)) ?_
  obtain ⟨T, X, e0, st⟩ := castY X hx hZ hown (oW hw 23 rfl) e0 (Ins.self E_xb) (g := (mkF m 15 #[rv xa, rv xb, uu] [(.ref xb)])) rfl rfl (hb hby d10_15)
  refine oWk.st st ?_
  refine oWk.st (fun _ kt => XS.astoreN X.here hx rfl (hb hby d10_18) rfl rfl (l' := #[rv xa, rv xb, rv xb]) rfl kt) ?_
  have Oh := K.old O0 all0
  obtain ⟨T, X, e0, st⟩ := getS2 X hx hZ hown (host := "") (Or.inl (oW hw 18 rfl)) Via.refl e0 (S_COMPACT_STRINGS.ext Oh) (g := (mkF m 19 #[rv xa, rv xb, rv xb] [])) rfl (hb hby d10_19)
  refine oWk.st st ?_
  refine oWk.st (fun _ kt => XS.ifNo X.here hx rfl (hb hby d10_22) rfl ((if0 _ _).trans (feq hz).1) (XS.aloadN X.here hx rfl (hb hby d10_25) rfl rfl kt)) ?_
  obtain ⟨T, X, e0, st⟩ := getF X hx hZ hown (host := "") (Or.inl (oW hw 38 rfl)) Via.refl e0 F_coder_xa (g := (mkF m 26 #[rv xa, rv xb, rv xb] [(.ref xa)])) rfl rfl (hb hby d10_26)
  refine oWk.st st ?_
  refine oWk.st (fun _ kt => XS.aloadN X.here hx rfl (hb hby d10_29) rfl rfl kt) ?_
  obtain ⟨T, X, e0, st⟩ := getF X hx hZ hown (host := "") (Or.inl (oW hw 38 rfl)) Via.refl e0 F_coder_xb (g := (mkF m 30 #[rv xa, rv xb, rv xb] [(.ref xb), (.int 0)])) rfl rfl (hb hby d10_30)
  refine oWk.st st ?_
  refine oWk.st (fun _ kt => XS.icmpNo X.here hx rfl (hb hby d10_33) rfl (teq (by decide)).2 (XS.aloadN X.here hx rfl (hb hby d10_36) rfl rfl kt)) ?_
  obtain ⟨T, X, e0, st⟩ := getF X hx hZ hown (host := "") (Or.inl (oW hw 36 rfl)) Via.refl e0 F_value_xa (g := (mkF m 37 #[rv xa, rv xb, rv xb] [(.ref xa)])) rfl rfl (hb hby d10_37)
  refine oWk.st st ?_
  refine oWk.st (fun _ kt => XS.aloadN X.here hx rfl (hb hby d10_40) rfl rfl kt) ?_
  obtain ⟨T, X, e0, st⟩ := getF X hx hZ hown (host := "") (Or.inl (oW hw 36 rfl)) Via.refl e0 F_value_xb (g := (mkF m 41 #[rv xa, rv xb, rv xb] [(.ref xb), (.ref xc)])) rfl rfl (hb hby d10_41)
  refine oWk.st st ?_
  have Oh := K.old O0 all0
  obtain ⟨_, _, ⟨T, L2, k2, n2⟩, -, X, ⟨Lc2, hQ, l2, y2, z2⟩, st⟩ := Jvm.LawKit.callS X hx (y := yy4) hown (mvT hZ (oW hw 64 rfl)) (mvT hZ (oW hw 65 rfl)) (mvT hZ (oW hw 21 rfl)) (mvT hZ (oW hw 66 rfl)) (by decide) (backOf (W := 0) (rLE l Z a0 hw [] xc xd xk xl xu xv h0 Oh V_xc V_xd) hZ (oW hw 66 rfl) (oW hw 21 rfl) (by decide) (by decide)) (g := (mkF m 44 #[rv xa, rv xb, rv xb] [(.ref xd), (.ref xc)])) rfl (by rw [hml]; rfl) (argsL := [(.ref xc), (.ref xd)]) (rest := []) (lenOf pd_3 rfl) rfl (Nat.le_of_eq rfl) (hb hby d10_44) (fun _ _ => ⟨rfl, e0, (by decide : 0 + 0 ≤ _), (by decide : 0 + 0 ≤ _)⟩)
  dsimp only [Pt.U, Pt.locs, Pt.cells, Pt.slots] at X l2 y2 z2 st hQ
  subst l2 y2 z2
  obtain ⟨rfl, e0, K1⟩ := hQ
  have K := K.call K1 all0
  rw [e0] at K
  refine oWk.st st ?_
  by_cases hc47 : xu = xv
  · refine oWk.st (fun _ kt => XS.ifNo X.here hx rfl (hb hby d10_47) rfl ((if0 _ _).trans (feq (oBi_ne hc47)).1) kt) ?_
    show oWk _ _ _ _ T (mkF m 50 #[rv xa, rv xb, rv xb] [])
    refine oWk.st (fun _ kt => XS.iconst X.here hx rfl (hb hby d10_50) (XS.goto X.here hx rfl (pc0 := 51) (pc' := 55) rfl (hb hby d10_51) (by decide) (by decide) kt)) ?_
    show oWk _ _ _ _ T (mkF m 55 #[rv xa, rv xb, rv xb] [(.int 1)])
    exact oRetZ X hx hlk hret (hb hby d10_55) (Or.inr rfl) (by rw [e0]; exact ⟨(by rw [oBi_t hc47]), rfl, K⟩) (by decide) (by decide)
  · refine oWk.st (fun _ kt => XS.ifYes X.here hx rfl (pc0 := 47) (pc' := 54) rfl (hb hby d10_47) rfl ((if0 _ _).trans (teq (oBi_f hc47)).1) (by decide) (by decide) kt) ?_
    show oWk _ _ _ _ T (mkF m 54 #[rv xa, rv xb, rv xb] [])
    refine oWk.st (fun _ kt => XS.iconst X.here hx rfl (hb hby d10_54) kt) ?_
    show oWk _ _ _ _ T (mkF m 55 #[rv xa, rv xb, rv xb] [(.int 0)])
    exact oRetZ X hx hlk hret (hb hby d10_55) (Or.inl rfl) (by rw [e0]; exact ⟨(by rw [oBi_f (fun q => hc47 q)]), rfl, K⟩) (by decide) (by decide)
def Q_rSS (Z : State) (xa : Addr) (h0 : Heap) (v : Option Value) (h : Heap) (L : List Loc) : Prop := v = some (.int (1 : Int32)) ∧ h = h0 ∧ oKp h0 h [] L
theorem d10_5 : decode jdk_42_method_66_code 5 = .ok (.iconst 1, 1) := by decide +kernel
theorem d10_6 : decode jdk_42_method_66_code 6 = .ok (.ireturn, 1) := by decide +kernel
theorem rSS (l : Launch) (Z : State) (a0 : Array Value) (hw : ∀ d ∈ tables_1, d.before a0 Z = true) (ws : List Jvm.Cond) (xa : Addr) (h0 : Heap) (O0 : Ext Z.heap h0)  :
    oCon l Z yy5 jdk_42_method_66_code 3 (some .boolean) ws ({ frames := 0, cells := 0, slots := 0, locals := 0 } : Room) #[(.ref xa), (.ref xa)] h0 (Q_rSS Z xa h0) := by
  refine oCon.of (plainFor_of_name pn_1) ?_
  intro p e s m below meth c T X hx hby hml hown hnm hret hlk hZ e0
  have hml : c.maxLocals = 3 := hml
  have K : oKp h0 h0 [] [] := oKp.nil _ _
  refine oWk.cast (g' := (mkF m 0 #[rv xa, rv xa, uu] [])) (by first | rfl | (simp [entryFrame, mkF, argsToLocals, Value.category]; done)) ?_
  refine oWk.st (fun _ kt => XS.aloadN X.here hx rfl (hb hby d10_0) rfl rfl (XS.aloadN X.here hx rfl (hb hby d10_1) rfl rfl kt)) ?_
  refine oWk.st (fun _ kt => Jvm.RoadKit.acmp (g := (mkF m 2 #[rv xa, rv xa, uu] [(.ref xa), (.ref xa)])) X hx rfl rfl rfl (pc0 := 2) (pc' := 5) (same := true) rfl (hb hby d10_2) rfl (decide_eq_true rfl) (by decide) (by decide) kt) ?_
  show oWk _ _ _ _ T (mkF m 5 #[rv xa, rv xa, uu] [])
  refine oWk.st (fun _ kt => XS.iconst X.here hx rfl (hb hby d10_5) kt) ?_
  show oWk _ _ _ _ T (mkF m 6 #[rv xa, rv xa, uu] [(.int 1)])
  exact oRetZ X hx hlk hret (hb hby d10_6) (Or.inr rfl) (by rw [e0]; exact ⟨rfl, rfl, K⟩) (by decide) (by decide)
theorem oChr {x : Int32} (h : 0 ≤ x.toInt ∧ x.toInt < 256) : x.toUInt32.toUInt16.toUInt32.toInt32 = x := by
  have a := c_i2c x
  apply Int32.toInt_inj.mp
  omega
theorem oLe255 {x : Int32} (h : 0 ≤ x.toInt ∧ x.toInt < 256) : ¬ (255 : Int32) < x := fun q => by
  have r : (255 : Int32).toInt < x.toInt := Int32.lt_iff_toInt_lt.mp q
  have s : (255 : Int32).toInt = 255 := by decide
  omega
theorem oM255 (x : Int32) : 0 ≤ (x &&& 255).toInt ∧ (x &&& 255).toInt < 256 := by
  have q := c_mask x 255 8 (by decide) (by decide)
  omega
theorem oR10 (x : Int32) : 0 ≤ ((x &&& 2147483647) % 10).toInt ∧ ((x &&& 2147483647) % 10).toInt < 10 := by
  have q1 := (c_irem (x &&& 2147483647) 10 10 rfl).1
  have q2 := c_mask x 2147483647 31 (by decide) (by decide)
  omega
def Q_rStr (Z : State) (xp : Int32) (xz : Int32) (h0 : Heap) (v : Option Value) (h : Heap) (L : List Loc) : Prop := ∃ (nr : Addr) (nb : Addr) (nk : ClassId), v = some (.ref nr) ∧ oKp h0 h [] L ∧ (h0.size ≤ nr) ∧ (h0.size ≤ nb) ∧ (Exa Z h nr "java/lang/String") ∧ (Fld Z h nr "java/lang/String" "value" "[B" (.ref nb)) ∧ (Fld Z h nr "java/lang/String" "coder" "B" (.int (0 : Int32))) ∧ (Arv Z h nb nk .byte (1 : Int32) [(.int (xp.toInt8.toInt32))] (.int (0 : Int32))) ∧ (nr ≠ nb)
theorem pn_2 : plainName "com/example/tributary/tributary/flow/FlowEventEqualsPinLaw" = true := by first | (simp [plainName, overriddenIn]; done) | decide +kernel
abbrev yy6 : MethodName := ⟨"com/example/tributary/tributary/flow/FlowEventEqualsPinLaw", "str", "(I)Ljava/lang/String;"⟩
theorem d2_0 : decode method_3_code 0 = .ok (.iload_n 0, 1) := by decide +kernel
theorem d2_1 : decode method_3_code 1 = .ok (.i2c, 1) := by decide +kernel
theorem d2_2 : decode method_3_code 2 = .ok (.invokestatic 40, 3) := by decide +kernel
theorem pd_4 : parseMethodDescriptor "(C)Ljava/lang/String;" = some ⟨[.char], some (.object "java/lang/String")⟩ := by decide +kernel
theorem d2_5 : decode method_3_code 5 = .ok (.areturn, 1) := by decide +kernel
theorem rStr (l : Launch) (Z : State) (a0 : Array Value) (hw : ∀ d ∈ tables_1, d.before a0 Z = true) (ws : List Jvm.Cond) (xp : Int32) (xz : Int32) (h0 : Heap) (O0 : Ext Z.heap h0) (S_COMPACT_STRINGS : Sta Z Z.heap "java/lang/String" "COMPACT_STRINGS" "Z" (.int xz)) (hz : ¬ xz = (0 : Int32)) (hr : 0 ≤ xp.toInt ∧ xp.toInt < 256) :
    oCon l Z yy6 method_3_code 1 (some (.object "java/lang/String")) ws ({ frames := 3, cells := 2, slots := 5, locals := 39 } : Room) #[(.int xp)] h0 (Q_rStr Z xp xz h0) := by
  refine oCon.of (plainFor_of_name pn_2) ?_
  intro p e s m below meth c T X hx hby hml hown hnm hret hlk hZ e0
  have hml : c.maxLocals = 1 := hml
  have K : oKp h0 h0 [] [] := oKp.nil _ _
  refine oWk.cast (g' := (mkF m 0 #[iv xp] [])) (by first | rfl | (simp [entryFrame, mkF, argsToLocals, Value.category]; done)) ?_
  refine oWk.st (fun _ kt => XS.iloadN X.here hx rfl (hb hby d2_0) rfl (XS.i2c X.here hx rfl (hb hby d2_1) rfl kt)) ?_
  show oWk _ _ _ _ T (mkF m 2 #[iv xp] [(.int (xp.toUInt32.toUInt16.toUInt32.toInt32))])
  rw [oChr hr]
  show oWk _ _ _ _ T (mkF m 2 #[iv xp] [(.int xp)])
  have Oh := K.old O0 all0
  obtain ⟨_, _, ⟨T, L2, k2, n2⟩, -, X, ⟨Lc2, hQ, l2, y2, z2⟩, st⟩ := Jvm.LawKit.callS X hx (y := yy3) hown (mvT hZ (oW hw 14 rfl)) (mvT hZ (oW hw 15 rfl)) (mvT hZ (oW hw 16 rfl)) (mvT hZ (oW hw 17 rfl)) (by decide) (backOf (W := 0) (rVal l Z a0 hw [] xp xz h0 Oh S_COMPACT_STRINGS hz (oLe255 hr)) hZ (oW hw 17 rfl) (oW hw 16 rfl) (by decide) (by decide)) (g := (mkF m 2 #[iv xp] [(.int xp)])) rfl (by rw [hml]; rfl) (argsL := [(.int xp)]) (rest := []) (lenOf pd_4 rfl) rfl (Nat.le_of_eq rfl) (hb hby d2_2) (fun _ _ => ⟨rfl, e0, (by decide : 0 + 2 ≤ _), (by decide : 0 + 5 ≤ _)⟩)
  dsimp only [Pt.U, Pt.locs, Pt.cells, Pt.slots] at X l2 y2 z2 st hQ
  subst l2 y2 z2
  obtain ⟨h, e0⟩ : ∃ z, T.heap = z := ⟨_, rfl⟩
  rw [e0] at hQ
  obtain ⟨nr1, nb1, nk1, rfl, K1, gn_nr1, gn_nb1, E_nr1, F_value_nr1, F_coder_nr1, V_nb1, hnn1⟩ := hQ
  have ge_nr1 := Nat.le_trans K.le gn_nr1
  have ge_nb1 := Nat.le_trans K.le gn_nb1
  have K := K.call K1 all0
  have ne_nr1_nb1 := hnn1
  refine oWk.st st ?_
  exact oRetA X hx hlk hret rfl rfl (hb hby d2_5) (by rw [e0]; exact ⟨nr1, nb1, nk1, rfl, K, ge_nr1, ge_nb1, E_nr1, F_value_nr1, F_coder_nr1, V_nb1, (ne_nr1_nb1)⟩) (by decide) (by decide)
def Q_rKo (Z : State) (xp : Int32) (kd : (Int32→Addr)) (h0 : Heap) (v : Option Value) (h : Heap) (L : List Loc) : Prop := v = some (.ref (kd xp)) ∧ h = h0 ∧ oKp h0 h [] L
abbrev yy7 : MethodName := ⟨"com/example/tributary/tributary/flow/FlowEventEqualsPinLaw", "kindOf", "(I)Lcom/example/tributary/tributary/flow/FlowEvent$Kind;"⟩
theorem d1_0 : decode method_2_code 0 = .ok (.iload_n 0, 1) := by decide +kernel
theorem d1_1 : decode method_2_code 1 = .ok (.ifCond .ne 7, 3) := by decide +kernel
theorem d1_4 : decode method_2_code 4 = .ok (.getstatic 7, 3) := by decide +kernel
theorem d1_7 : decode method_2_code 7 = .ok (.areturn, 1) := by decide +kernel
theorem d1_8 : decode method_2_code 8 = .ok (.iload_n 0, 1) := by decide +kernel
theorem d1_9 : decode method_2_code 9 = .ok (.iconst 1, 1) := by decide +kernel
theorem d1_10 : decode method_2_code 10 = .ok (.if_icmp .ne 7, 3) := by decide +kernel
theorem d1_13 : decode method_2_code 13 = .ok (.getstatic 13, 3) := by decide +kernel
theorem d1_16 : decode method_2_code 16 = .ok (.areturn, 1) := by decide +kernel
theorem d1_17 : decode method_2_code 17 = .ok (.iload_n 0, 1) := by decide +kernel
theorem d1_18 : decode method_2_code 18 = .ok (.iconst 2, 1) := by decide +kernel
theorem d1_19 : decode method_2_code 19 = .ok (.if_icmp .ne 7, 3) := by decide +kernel
theorem d1_22 : decode method_2_code 22 = .ok (.getstatic 16, 3) := by decide +kernel
theorem d1_25 : decode method_2_code 25 = .ok (.areturn, 1) := by decide +kernel
theorem d1_26 : decode method_2_code 26 = .ok (.iload_n 0, 1) := by decide +kernel
theorem d1_27 : decode method_2_code 27 = .ok (.iconst 3, 1) := by decide +kernel
theorem d1_28 : decode method_2_code 28 = .ok (.if_icmp .ne 7, 3) := by decide +kernel
theorem d1_31 : decode method_2_code 31 = .ok (.getstatic 19, 3) := by decide +kernel
theorem d1_34 : decode method_2_code 34 = .ok (.areturn, 1) := by decide +kernel
theorem d1_35 : decode method_2_code 35 = .ok (.iload_n 0, 1) := by decide +kernel
theorem d1_36 : decode method_2_code 36 = .ok (.iconst 4, 1) := by decide +kernel
theorem d1_37 : decode method_2_code 37 = .ok (.if_icmp .ne 7, 3) := by decide +kernel
theorem d1_40 : decode method_2_code 40 = .ok (.getstatic 22, 3) := by decide +kernel
theorem d1_43 : decode method_2_code 43 = .ok (.areturn, 1) := by decide +kernel
theorem d1_44 : decode method_2_code 44 = .ok (.iload_n 0, 1) := by decide +kernel
theorem d1_45 : decode method_2_code 45 = .ok (.iconst 5, 1) := by decide +kernel
theorem d1_46 : decode method_2_code 46 = .ok (.if_icmp .ne 7, 3) := by decide +kernel
theorem d1_49 : decode method_2_code 49 = .ok (.getstatic 25, 3) := by decide +kernel
theorem d1_52 : decode method_2_code 52 = .ok (.areturn, 1) := by decide +kernel
theorem d1_53 : decode method_2_code 53 = .ok (.iload_n 0, 1) := by decide +kernel
theorem d1_54 : decode method_2_code 54 = .ok (.bipush 6, 2) := by decide +kernel
theorem d1_56 : decode method_2_code 56 = .ok (.if_icmp .ne 7, 3) := by decide +kernel
theorem d1_59 : decode method_2_code 59 = .ok (.getstatic 28, 3) := by decide +kernel
theorem d1_62 : decode method_2_code 62 = .ok (.areturn, 1) := by decide +kernel
theorem d1_63 : decode method_2_code 63 = .ok (.iload_n 0, 1) := by decide +kernel
theorem d1_64 : decode method_2_code 64 = .ok (.bipush 7, 2) := by decide +kernel
theorem d1_66 : decode method_2_code 66 = .ok (.if_icmp .ne 7, 3) := by decide +kernel
theorem d1_69 : decode method_2_code 69 = .ok (.getstatic 31, 3) := by decide +kernel
theorem d1_72 : decode method_2_code 72 = .ok (.areturn, 1) := by decide +kernel
theorem d1_73 : decode method_2_code 73 = .ok (.iload_n 0, 1) := by decide +kernel
theorem d1_74 : decode method_2_code 74 = .ok (.bipush 8, 2) := by decide +kernel
theorem d1_76 : decode method_2_code 76 = .ok (.if_icmp .ne 7, 3) := by decide +kernel
theorem d1_79 : decode method_2_code 79 = .ok (.getstatic 34, 3) := by decide +kernel
theorem d1_82 : decode method_2_code 82 = .ok (.areturn, 1) := by decide +kernel
theorem d1_83 : decode method_2_code 83 = .ok (.getstatic 37, 3) := by decide +kernel
theorem d1_86 : decode method_2_code 86 = .ok (.areturn, 1) := by decide +kernel
theorem rKo (l : Launch) (Z : State) (a0 : Array Value) (hw : ∀ d ∈ tables_1, d.before a0 Z = true) (ws : List Jvm.Cond) (xp : Int32) (kd : (Int32→Addr)) (h0 : Heap) (O0 : Ext Z.heap h0) (S_NEW : Sta Z Z.heap "com/example/tributary/tributary/flow/FlowEvent$Kind" "NEW" "Lcom/example/tributary/tributary/flow/FlowEvent$Kind;" (.ref (kd 0))) (S_ASSIGN : Sta Z Z.heap "com/example/tributary/tributary/flow/FlowEvent$Kind" "ASSIGN" "Lcom/example/tributary/tributary/flow/FlowEvent$Kind;" (.ref (kd 1))) (S_CALL : Sta Z Z.heap "com/example/tributary/tributary/flow/FlowEvent$Kind" "CALL" "Lcom/example/tributary/tributary/flow/FlowEvent$Kind;" (.ref (kd 2))) (S_RETURN : Sta Z Z.heap "com/example/tributary/tributary/flow/FlowEvent$Kind" "RETURN" "Lcom/example/tributary/tributary/flow/FlowEvent$Kind;" (.ref (kd 3))) (S_PUTFIELD : Sta Z Z.heap "com/example/tributary/tributary/flow/FlowEvent$Kind" "PUTFIELD" "Lcom/example/tributary/tributary/flow/FlowEvent$Kind;" (.ref (kd 4))) (S_GETFIELD : Sta Z Z.heap "com/example/tributary/tributary/flow/FlowEvent$Kind" "GETFIELD" "Lcom/example/tributary/tributary/flow/FlowEvent$Kind;" (.ref (kd 5))) (S_PUTSTATIC : Sta Z Z.heap "com/example/tributary/tributary/flow/FlowEvent$Kind" "PUTSTATIC" "Lcom/example/tributary/tributary/flow/FlowEvent$Kind;" (.ref (kd 6))) (S_GETSTATIC : Sta Z Z.heap "com/example/tributary/tributary/flow/FlowEvent$Kind" "GETSTATIC" "Lcom/example/tributary/tributary/flow/FlowEvent$Kind;" (.ref (kd 7))) (S_ESCAPE : Sta Z Z.heap "com/example/tributary/tributary/flow/FlowEvent$Kind" "ESCAPE" "Lcom/example/tributary/tributary/flow/FlowEvent$Kind;" (.ref (kd 8))) (S_INCOMING : Sta Z Z.heap "com/example/tributary/tributary/flow/FlowEvent$Kind" "INCOMING" "Lcom/example/tributary/tributary/flow/FlowEvent$Kind;" (.ref (kd 9))) (hk : 0 ≤ xp.toInt ∧ xp.toInt < 10) :
    oCon l Z yy7 method_2_code 1 (some (.object "com/example/tributary/tributary/flow/FlowEvent$Kind")) ws ({ frames := 0, cells := 0, slots := 0, locals := 0 } : Room) #[(.int xp)] h0 (Q_rKo Z xp kd h0) := by
  refine oCon.of (plainFor_of_name pn_2) ?_
  intro p e s m below meth c T X hx hby hml hown hnm hret hlk hZ e0
  have hml : c.maxLocals = 1 := hml
  have K : oKp h0 h0 [] [] := oKp.nil _ _
  refine oWk.cast (g' := (mkF m 0 #[iv xp] [])) (by first | rfl | (simp [entryFrame, mkF, argsToLocals, Value.category]; done)) ?_
  refine oWk.st (fun _ kt => XS.iloadN X.here hx rfl (hb hby d1_0) rfl kt) ?_
  show oWk _ _ _ _ T (mkF m 1 #[iv xp] [(.int xp)])
  by_cases hc1 : xp = (0 : Int32)
  · refine oWk.st (fun _ kt => XS.ifNo X.here hx rfl (hb hby d1_1) rfl ((if0 _ _).trans (teq hc1).2) kt) ?_
    show oWk _ _ _ _ T (mkF m 4 #[iv xp] [])
    have Oh := K.old O0 all0
    obtain ⟨T, X, e0, st⟩ := getS2 X hx hZ hown (host := "") (Or.inl (oW hw 8 rfl)) Via.refl e0 (S_NEW.ext Oh) (g := (mkF m 4 #[iv xp] [])) rfl (hb hby d1_4)
    refine oWk.st st ?_
    exact oRetA X hx hlk hret rfl rfl (hb hby d1_7) (by rw [e0]; exact ⟨(by rw [hc1]), rfl, K⟩) (by decide) (by decide)
  · refine oWk.st (fun _ kt => XS.ifYes X.here hx rfl (pc0 := 1) (pc' := 8) rfl (hb hby d1_1) rfl ((if0 _ _).trans (feq hc1).2) (by decide) (by decide) kt) ?_
    show oWk _ _ _ _ T (mkF m 8 #[iv xp] [])
    refine oWk.st (fun _ kt => XS.iloadN X.here hx rfl (hb hby d1_8) rfl (XS.iconst X.here hx rfl (hb hby d1_9) kt)) ?_
    show oWk _ _ _ _ T (mkF m 10 #[iv xp] [(.int 1), (.int xp)])
    by_cases hc10 : xp = (1 : Int32)
    · refine oWk.st (fun _ kt => XS.icmpNo X.here hx rfl (hb hby d1_10) rfl (teq hc10).2 kt) ?_
      show oWk _ _ _ _ T (mkF m 13 #[iv xp] [])
      have Oh := K.old O0 all0
      obtain ⟨T, X, e0, st⟩ := getS2 X hx hZ hown (host := "") (Or.inl (oW hw 77 rfl)) Via.refl e0 (S_ASSIGN.ext Oh) (g := (mkF m 13 #[iv xp] [])) rfl (hb hby d1_13)
      refine oWk.st st ?_
      exact oRetA X hx hlk hret rfl rfl (hb hby d1_16) (by rw [e0]; exact ⟨(by rw [hc10]), rfl, K⟩) (by decide) (by decide)
    · refine oWk.st (fun _ kt => XS.icmpYes X.here hx rfl (pc0 := 10) (pc' := 17) rfl (hb hby d1_10) rfl (feq hc10).2 (by decide) (by decide) kt) ?_
      show oWk _ _ _ _ T (mkF m 17 #[iv xp] [])
      refine oWk.st (fun _ kt => XS.iloadN X.here hx rfl (hb hby d1_17) rfl (XS.iconst X.here hx rfl (hb hby d1_18) kt)) ?_
      show oWk _ _ _ _ T (mkF m 19 #[iv xp] [(.int 2), (.int xp)])
      by_cases hc19 : xp = (2 : Int32)
      · refine oWk.st (fun _ kt => XS.icmpNo X.here hx rfl (hb hby d1_19) rfl (teq hc19).2 kt) ?_
        show oWk _ _ _ _ T (mkF m 22 #[iv xp] [])
        have Oh := K.old O0 all0
        obtain ⟨T, X, e0, st⟩ := getS2 X hx hZ hown (host := "") (Or.inl (oW hw 73 rfl)) Via.refl e0 (S_CALL.ext Oh) (g := (mkF m 22 #[iv xp] [])) rfl (hb hby d1_22)
        refine oWk.st st ?_
        exact oRetA X hx hlk hret rfl rfl (hb hby d1_25) (by rw [e0]; exact ⟨(by rw [hc19]), rfl, K⟩) (by decide) (by decide)
      · refine oWk.st (fun _ kt => XS.icmpYes X.here hx rfl (pc0 := 19) (pc' := 26) rfl (hb hby d1_19) rfl (feq hc19).2 (by decide) (by decide) kt) ?_
        show oWk _ _ _ _ T (mkF m 26 #[iv xp] [])
        refine oWk.st (fun _ kt => XS.iloadN X.here hx rfl (hb hby d1_26) rfl (XS.iconst X.here hx rfl (hb hby d1_27) kt)) ?_
        show oWk _ _ _ _ T (mkF m 28 #[iv xp] [(.int 3), (.int xp)])
        by_cases hc28 : xp = (3 : Int32)
        · refine oWk.st (fun _ kt => XS.icmpNo X.here hx rfl (hb hby d1_28) rfl (teq hc28).2 kt) ?_
          show oWk _ _ _ _ T (mkF m 31 #[iv xp] [])
          have Oh := K.old O0 all0
          obtain ⟨T, X, e0, st⟩ := getS2 X hx hZ hown (host := "") (Or.inl (oW hw 69 rfl)) Via.refl e0 (S_RETURN.ext Oh) (g := (mkF m 31 #[iv xp] [])) rfl (hb hby d1_31)
          refine oWk.st st ?_
          exact oRetA X hx hlk hret rfl rfl (hb hby d1_34) (by rw [e0]; exact ⟨(by rw [hc28]), rfl, K⟩) (by decide) (by decide)
        · refine oWk.st (fun _ kt => XS.icmpYes X.here hx rfl (pc0 := 28) (pc' := 35) rfl (hb hby d1_28) rfl (feq hc28).2 (by decide) (by decide) kt) ?_
          show oWk _ _ _ _ T (mkF m 35 #[iv xp] [])
          refine oWk.st (fun _ kt => XS.iloadN X.here hx rfl (hb hby d1_35) rfl (XS.iconst X.here hx rfl (hb hby d1_36) kt)) ?_
          show oWk _ _ _ _ T (mkF m 37 #[iv xp] [(.int 4), (.int xp)])
          by_cases hc37 : xp = (4 : Int32)
          · refine oWk.st (fun _ kt => XS.icmpNo X.here hx rfl (hb hby d1_37) rfl (teq hc37).2 kt) ?_
            show oWk _ _ _ _ T (mkF m 40 #[iv xp] [])
            have Oh := K.old O0 all0
            obtain ⟨T, X, e0, st⟩ := getS2 X hx hZ hown (host := "") (Or.inl (oW hw 71 rfl)) Via.refl e0 (S_PUTFIELD.ext Oh) (g := (mkF m 40 #[iv xp] [])) rfl (hb hby d1_40)
            refine oWk.st st ?_
            exact oRetA X hx hlk hret rfl rfl (hb hby d1_43) (by rw [e0]; exact ⟨(by rw [hc37]), rfl, K⟩) (by decide) (by decide)
          · refine oWk.st (fun _ kt => XS.icmpYes X.here hx rfl (pc0 := 37) (pc' := 44) rfl (hb hby d1_37) rfl (feq hc37).2 (by decide) (by decide) kt) ?_
            show oWk _ _ _ _ T (mkF m 44 #[iv xp] [])
            refine oWk.st (fun _ kt => XS.iloadN X.here hx rfl (hb hby d1_44) rfl (XS.iconst X.here hx rfl (hb hby d1_45) kt)) ?_
            show oWk _ _ _ _ T (mkF m 46 #[iv xp] [(.int 5), (.int xp)])
            by_cases hc46 : xp = (5 : Int32)
            · refine oWk.st (fun _ kt => XS.icmpNo X.here hx rfl (hb hby d1_46) rfl (teq hc46).2 kt) ?_
              show oWk _ _ _ _ T (mkF m 49 #[iv xp] [])
              have Oh := K.old O0 all0
              obtain ⟨T, X, e0, st⟩ := getS2 X hx hZ hown (host := "") (Or.inl (oW hw 79 rfl)) Via.refl e0 (S_GETFIELD.ext Oh) (g := (mkF m 49 #[iv xp] [])) rfl (hb hby d1_49)
              refine oWk.st st ?_
              exact oRetA X hx hlk hret rfl rfl (hb hby d1_52) (by rw [e0]; exact ⟨(by rw [hc46]), rfl, K⟩) (by decide) (by decide)
            · refine oWk.st (fun _ kt => XS.icmpYes X.here hx rfl (pc0 := 46) (pc' := 53) rfl (hb hby d1_46) rfl (feq hc46).2 (by decide) (by decide) kt) ?_
              show oWk _ _ _ _ T (mkF m 53 #[iv xp] [])
              refine oWk.st (fun _ kt => XS.iloadN X.here hx rfl (hb hby d1_53) rfl (XS.bipush X.here hx rfl (hb hby d1_54) kt)) ?_
              show oWk _ _ _ _ T (mkF m 56 #[iv xp] [(.int 6), (.int xp)])
              by_cases hc56 : xp = (6 : Int32)
              · refine oWk.st (fun _ kt => XS.icmpNo X.here hx rfl (hb hby d1_56) rfl (teq hc56).2 kt) ?_
                show oWk _ _ _ _ T (mkF m 59 #[iv xp] [])
                have Oh := K.old O0 all0
                obtain ⟨T, X, e0, st⟩ := getS2 X hx hZ hown (host := "") (Or.inl (oW hw 75 rfl)) Via.refl e0 (S_PUTSTATIC.ext Oh) (g := (mkF m 59 #[iv xp] [])) rfl (hb hby d1_59)
                refine oWk.st st ?_
                exact oRetA X hx hlk hret rfl rfl (hb hby d1_62) (by rw [e0]; exact ⟨(by rw [hc56]), rfl, K⟩) (by decide) (by decide)
              · refine oWk.st (fun _ kt => XS.icmpYes X.here hx rfl (pc0 := 56) (pc' := 63) rfl (hb hby d1_56) rfl (feq hc56).2 (by decide) (by decide) kt) ?_
                show oWk _ _ _ _ T (mkF m 63 #[iv xp] [])
                refine oWk.st (fun _ kt => XS.iloadN X.here hx rfl (hb hby d1_63) rfl (XS.bipush X.here hx rfl (hb hby d1_64) kt)) ?_
                show oWk _ _ _ _ T (mkF m 66 #[iv xp] [(.int 7), (.int xp)])
                by_cases hc66 : xp = (7 : Int32)
                · refine oWk.st (fun _ kt => XS.icmpNo X.here hx rfl (hb hby d1_66) rfl (teq hc66).2 kt) ?_
                  show oWk _ _ _ _ T (mkF m 69 #[iv xp] [])
                  have Oh := K.old O0 all0
                  obtain ⟨T, X, e0, st⟩ := getS2 X hx hZ hown (host := "") (Or.inl (oW hw 81 rfl)) Via.refl e0 (S_GETSTATIC.ext Oh) (g := (mkF m 69 #[iv xp] [])) rfl (hb hby d1_69)
                  refine oWk.st st ?_
                  exact oRetA X hx hlk hret rfl rfl (hb hby d1_72) (by rw [e0]; exact ⟨(by rw [hc66]), rfl, K⟩) (by decide) (by decide)
                · refine oWk.st (fun _ kt => XS.icmpYes X.here hx rfl (pc0 := 66) (pc' := 73) rfl (hb hby d1_66) rfl (feq hc66).2 (by decide) (by decide) kt) ?_
                  show oWk _ _ _ _ T (mkF m 73 #[iv xp] [])
                  refine oWk.st (fun _ kt => XS.iloadN X.here hx rfl (hb hby d1_73) rfl (XS.bipush X.here hx rfl (hb hby d1_74) kt)) ?_
                  show oWk _ _ _ _ T (mkF m 76 #[iv xp] [(.int 8), (.int xp)])
                  by_cases hc76 : xp = (8 : Int32)
                  · refine oWk.st (fun _ kt => XS.icmpNo X.here hx rfl (hb hby d1_76) rfl (teq hc76).2 kt) ?_
                    show oWk _ _ _ _ T (mkF m 79 #[iv xp] [])
                    have Oh := K.old O0 all0
                    obtain ⟨T, X, e0, st⟩ := getS2 X hx hZ hown (host := "") (Or.inl (oW hw 85 rfl)) Via.refl e0 (S_ESCAPE.ext Oh) (g := (mkF m 79 #[iv xp] [])) rfl (hb hby d1_79)
                    refine oWk.st st ?_
                    exact oRetA X hx hlk hret rfl rfl (hb hby d1_82) (by rw [e0]; exact ⟨(by rw [hc76]), rfl, K⟩) (by decide) (by decide)
                  · refine oWk.st (fun _ kt => XS.icmpYes X.here hx rfl (pc0 := 76) (pc' := 83) rfl (hb hby d1_76) rfl (feq hc76).2 (by decide) (by decide) kt) ?_
                    show oWk _ _ _ _ T (mkF m 83 #[iv xp] [])
                    have Oh := K.old O0 all0
                    obtain ⟨T, X, e0, st⟩ := getS2 X hx hZ hown (host := "") (Or.inl (oW hw 83 rfl)) Via.refl e0 (S_INCOMING.ext Oh) (g := (mkF m 83 #[iv xp] [])) rfl (hb hby d1_83)
                    refine oWk.st st ?_
                    have h9 : xp = 9 := by
                      apply Int32.toInt_inj.mp
                      show xp.toInt = 9
                      have q0 : xp.toInt ≠ 0 := oNe32 hc1
                      have q1 : xp.toInt ≠ 1 := oNe32 hc10
                      have q2 : xp.toInt ≠ 2 := oNe32 hc19
                      have q3 : xp.toInt ≠ 3 := oNe32 hc28
                      have q4 : xp.toInt ≠ 4 := oNe32 hc37
                      have q5 : xp.toInt ≠ 5 := oNe32 hc46
                      have q6 : xp.toInt ≠ 6 := oNe32 hc56
                      have q7 : xp.toInt ≠ 7 := oNe32 hc66
                      have q8 : xp.toInt ≠ 8 := oNe32 hc76
                      omega
                    exact oRetA X hx hlk hret rfl rfl (hb hby d1_86) (by rw [e0]; exact ⟨(by rw [h9]), rfl, K⟩) (by decide) (by decide)
def Q_rFI (Z : State) (xa : Addr) (xk : Addr) (xl : Addr) (xf : Addr) (xt : Addr) (xu : Value) (xv : Value) (xw : Value) (xy : Value) (h0 : Heap) (v : Option Value) (h : Heap) (L : List Loc) : Prop := v = none ∧ oKp h0 h [xa] L ∧ (Exa Z h xa "com/example/tributary/tributary/flow/FlowEvent") ∧ (Fld Z h xa "com/example/tributary/tributary/flow/FlowEvent" "kind" "Lcom/example/tributary/tributary/flow/FlowEvent$Kind;" (.ref xk)) ∧ (Fld Z h xa "com/example/tributary/tributary/flow/FlowEvent" "location" "Ljava/lang/String;" (.ref xl)) ∧ (Fld Z h xa "com/example/tributary/tributary/flow/FlowEvent" "from" "Ljava/lang/String;" (.ref xf)) ∧ (Fld Z h xa "com/example/tributary/tributary/flow/FlowEvent" "to" "Ljava/lang/String;" (.ref xt))
theorem pn_3 : plainName "com/example/tributary/tributary/flow/FlowEvent" = true := by first | (simp [plainName, overriddenIn]; done) | decide +kernel
abbrev yy8 : MethodName := ⟨"com/example/tributary/tributary/flow/FlowEvent", "<init>", "(Lcom/example/tributary/tributary/flow/FlowEvent$Kind;Ljava/lang/String;Ljava/lang/String;Ljava/lang/String;)V"⟩
theorem d8_0 : decode prog_5_method_1_code 0 = .ok (.aload_n 0, 1) := by decide +kernel
theorem d8_1 : decode prog_5_method_1_code 1 = .ok (.invokespecial 1, 3) := by decide +kernel
theorem d8_4 : decode prog_5_method_1_code 4 = .ok (.aload_n 0, 1) := by decide +kernel
theorem d8_5 : decode prog_5_method_1_code 5 = .ok (.aload_n 1, 1) := by decide +kernel
theorem d8_6 : decode prog_5_method_1_code 6 = .ok (.putfield 7, 3) := by decide +kernel
theorem d8_9 : decode prog_5_method_1_code 9 = .ok (.aload_n 0, 1) := by decide +kernel
theorem d8_10 : decode prog_5_method_1_code 10 = .ok (.aload_n 2, 1) := by decide +kernel
theorem d8_11 : decode prog_5_method_1_code 11 = .ok (.putfield 13, 3) := by decide +kernel
theorem d8_14 : decode prog_5_method_1_code 14 = .ok (.aload_n 0, 1) := by decide +kernel
theorem d8_15 : decode prog_5_method_1_code 15 = .ok (.aload_n 3, 1) := by decide +kernel
theorem d8_16 : decode prog_5_method_1_code 16 = .ok (.putfield 17, 3) := by decide +kernel
theorem d8_19 : decode prog_5_method_1_code 19 = .ok (.aload_n 0, 1) := by decide +kernel
theorem d8_20 : decode prog_5_method_1_code 20 = .ok (.aload 4, 2) := by decide +kernel
theorem d8_22 : decode prog_5_method_1_code 22 = .ok (.putfield 20, 3) := by decide +kernel
theorem d8_25 : decode prog_5_method_1_code 25 = .ok (.return_, 1) := by decide +kernel
theorem rFI (l : Launch) (Z : State) (a0 : Array Value) (hw : ∀ d ∈ tables_1, d.before a0 Z = true) (ws : List Jvm.Cond) (xa : Addr) (xk : Addr) (xl : Addr) (xf : Addr) (xt : Addr) (xu : Value) (xv : Value) (xw : Value) (xy : Value) (h0 : Heap) (O0 : Ext Z.heap h0) (og_xa : Z.heap.size ≤ xa) (E_xa : Exa Z h0 xa "com/example/tributary/tributary/flow/FlowEvent") (F_kind_xa : Fld Z h0 xa "com/example/tributary/tributary/flow/FlowEvent" "kind" "Lcom/example/tributary/tributary/flow/FlowEvent$Kind;" xu) (F_location_xa : Fld Z h0 xa "com/example/tributary/tributary/flow/FlowEvent" "location" "Ljava/lang/String;" xv) (F_from_xa : Fld Z h0 xa "com/example/tributary/tributary/flow/FlowEvent" "from" "Ljava/lang/String;" xw) (F_to_xa : Fld Z h0 xa "com/example/tributary/tributary/flow/FlowEvent" "to" "Ljava/lang/String;" xy) :
    oCon l Z yy8 prog_5_method_1_code 5 none ws ({ frames := 1, cells := 0, slots := 0, locals := 12 } : Room) #[(.ref xa), (.ref xk), (.ref xl), (.ref xf), (.ref xt)] h0 (Q_rFI Z xa xk xl xf xt xu xv xw xy h0) := by
  refine oCon.of (plainFor_of_name pn_3) ?_
  intro p e s m below meth c T X hx hby hml hown hnm hret hlk hZ e0
  have hml : c.maxLocals = 5 := hml
  have K : oKp h0 h0 [xa] [] := oKp.nil _ _
  refine oWk.cast (g' := (mkF m 0 #[rv xa, rv xk, rv xl, rv xf, rv xt] [])) (by first | rfl | (simp [entryFrame, mkF, argsToLocals, Value.category]; done)) ?_
  refine oWk.st (fun _ kt => XS.aloadN X.here hx rfl (hb hby d8_0) rfl rfl kt) ?_
  obtain ⟨T, X, e0, st⟩ := initO X hx hZ hown (oW hw 43 rfl) (oW hw 34 rfl) (oW hw 35 rfl) e0 (g := (mkF m 1 #[rv xa, rv xk, rv xl, rv xf, rv xt] [(.ref xa)])) rfl (by rw [hml]; rfl) rfl (hb hby d8_1) (by decide) (W := 0) (Nat.le_of_eq rfl) (by decide)
  refine oWk.st st ?_
  refine oWk.st (fun _ kt => XS.aloadN X.here hx rfl (hb hby d8_4) rfl rfl (XS.aloadN X.here hx rfl (hb hby d8_5) rfl rfl kt)) ?_
  obtain ⟨T, h, X, e0, W1, st⟩ := putF X hx hZ hown (host := "") (Or.inl (oW hw 44 rfl)) Via.refl e0 F_kind_xa E_xa (Or.inr ⟨(oW hw 45 rfl), rfl, hnm⟩) (oW hw 2 rfl) (ty := (.object "com/example/tributary/tributary/flow/FlowEvent$Kind")) (by decide) rfl rfl (g := (mkF m 6 #[rv xa, rv xk, rv xl, rv xf, rv xt] [(.ref xk), (.ref xa)])) rfl rfl (hb hby d8_6)
  refine oWk.st st ?_
  have K := K.wr W1 (Or.inl (List.mem_of_getElem? (i := 0) rfl))
  have F_kind_xa := F_kind_xa.same W1
  refine oWk.st (fun _ kt => XS.aloadN X.here hx rfl (hb hby d8_9) rfl rfl (XS.aloadN X.here hx rfl (hb hby d8_10) rfl rfl kt)) ?_
  have E_xa := (E_xa.wr W1)
  have F_location_xa := (F_location_xa.other W1 (Or.inr (slot_ne (Or.inr (oW hw 47 rfl)) (Or.inr (oW hw 45 rfl)) (by decide) (t := (.object "java/lang/String")) (t' := (.object "com/example/tributary/tributary/flow/FlowEvent$Kind")) (by decide) (by decide))))
  obtain ⟨T, h, X, e0, W2, st⟩ := putF X hx hZ hown (host := "") (Or.inl (oW hw 46 rfl)) Via.refl e0 F_location_xa E_xa (Or.inr ⟨(oW hw 47 rfl), rfl, hnm⟩) (oW hw 2 rfl) (ty := (.object "java/lang/String")) (by decide) rfl rfl (g := (mkF m 11 #[rv xa, rv xk, rv xl, rv xf, rv xt] [(.ref xl), (.ref xa)])) rfl rfl (hb hby d8_11)
  refine oWk.st st ?_
  have K := K.wr W2 (Or.inl (List.mem_of_getElem? (i := 0) rfl))
  have F_location_xa := F_location_xa.same W2
  refine oWk.st (fun _ kt => XS.aloadN X.here hx rfl (hb hby d8_14) rfl rfl (XS.aloadN X.here hx rfl (hb hby d8_15) rfl rfl kt)) ?_
  have E_xa := (E_xa.wr W2)
  have F_from_xa := ((F_from_xa.other W1 (Or.inr (slot_ne (Or.inr (oW hw 49 rfl)) (Or.inr (oW hw 45 rfl)) (by decide) (t := (.object "java/lang/String")) (t' := (.object "com/example/tributary/tributary/flow/FlowEvent$Kind")) (by decide) (by decide)))).other W2 (Or.inr (slot_ne (Or.inr (oW hw 49 rfl)) (Or.inr (oW hw 47 rfl)) (by decide) (t := (.object "java/lang/String")) (t' := (.object "java/lang/String")) (by decide) (by decide))))
  obtain ⟨T, h, X, e0, W3, st⟩ := putF X hx hZ hown (host := "") (Or.inl (oW hw 48 rfl)) Via.refl e0 F_from_xa E_xa (Or.inr ⟨(oW hw 49 rfl), rfl, hnm⟩) (oW hw 2 rfl) (ty := (.object "java/lang/String")) (by decide) rfl rfl (g := (mkF m 16 #[rv xa, rv xk, rv xl, rv xf, rv xt] [(.ref xf), (.ref xa)])) rfl rfl (hb hby d8_16)
  refine oWk.st st ?_
  have K := K.wr W3 (Or.inl (List.mem_of_getElem? (i := 0) rfl))
  have F_from_xa := F_from_xa.same W3
  refine oWk.st (fun _ kt => XS.aloadN X.here hx rfl (hb hby d8_19) rfl rfl (XS.aload X.here hx rfl (hb hby d8_20) rfl rfl kt)) ?_
  have E_xa := (E_xa.wr W3)
  have F_to_xa := (((F_to_xa.other W1 (Or.inr (slot_ne (Or.inr (oW hw 51 rfl)) (Or.inr (oW hw 45 rfl)) (by decide) (t := (.object "java/lang/String")) (t' := (.object "com/example/tributary/tributary/flow/FlowEvent$Kind")) (by decide) (by decide)))).other W2 (Or.inr (slot_ne (Or.inr (oW hw 51 rfl)) (Or.inr (oW hw 47 rfl)) (by decide) (t := (.object "java/lang/String")) (t' := (.object "java/lang/String")) (by decide) (by decide)))).other W3 (Or.inr (slot_ne (Or.inr (oW hw 51 rfl)) (Or.inr (oW hw 49 rfl)) (by decide) (t := (.object "java/lang/String")) (t' := (.object "java/lang/String")) (by decide) (by decide))))
  obtain ⟨T, h, X, e0, W4, st⟩ := putF X hx hZ hown (host := "") (Or.inl (oW hw 50 rfl)) Via.refl e0 F_to_xa E_xa (Or.inr ⟨(oW hw 51 rfl), rfl, hnm⟩) (oW hw 2 rfl) (ty := (.object "java/lang/String")) (by decide) rfl rfl (g := (mkF m 22 #[rv xa, rv xk, rv xl, rv xf, rv xt] [(.ref xt), (.ref xa)])) rfl rfl (hb hby d8_22)
  refine oWk.st st ?_
  have K := K.wr W4 (Or.inl (List.mem_of_getElem? (i := 0) rfl))
  have F_to_xa := F_to_xa.same W4
  have E_xa := (E_xa.wr W4)
  have F_kind_xa := (((F_kind_xa.other W2 (Or.inr (slot_ne (Or.inr (oW hw 45 rfl)) (Or.inr (oW hw 47 rfl)) (by decide) (t := (.object "com/example/tributary/tributary/flow/FlowEvent$Kind")) (t' := (.object "java/lang/String")) (by decide) (by decide)))).other W3 (Or.inr (slot_ne (Or.inr (oW hw 45 rfl)) (Or.inr (oW hw 49 rfl)) (by decide) (t := (.object "com/example/tributary/tributary/flow/FlowEvent$Kind")) (t' := (.object "java/lang/String")) (by decide) (by decide)))).other W4 (Or.inr (slot_ne (Or.inr (oW hw 45 rfl)) (Or.inr (oW hw 51 rfl)) (by decide) (t := (.object "com/example/tributary/tributary/flow/FlowEvent$Kind")) (t' := (.object "java/lang/String")) (by decide) (by decide))))
  have F_location_xa := ((F_location_xa.other W3 (Or.inr (slot_ne (Or.inr (oW hw 47 rfl)) (Or.inr (oW hw 49 rfl)) (by decide) (t := (.object "java/lang/String")) (t' := (.object "java/lang/String")) (by decide) (by decide)))).other W4 (Or.inr (slot_ne (Or.inr (oW hw 47 rfl)) (Or.inr (oW hw 51 rfl)) (by decide) (t := (.object "java/lang/String")) (t' := (.object "java/lang/String")) (by decide) (by decide))))
  have F_from_xa := (F_from_xa.other W4 (Or.inr (slot_ne (Or.inr (oW hw 49 rfl)) (Or.inr (oW hw 51 rfl)) (by decide) (t := (.object "java/lang/String")) (t' := (.object "java/lang/String")) (by decide) (by decide))))
  exact oRetV X hx hlk hret (hb hby d8_25) (by rw [e0]; exact ⟨rfl, K, E_xa, F_kind_xa, F_location_xa, F_from_xa, F_to_xa⟩) (by decide) (by decide)
def Q_rFE (Z : State) (xa : Addr) (kA : Addr) (lA : Addr) (lAb : Addr) (lAk : ClassId) (lAu : Int32) (fA : Addr) (fAb : Addr) (fAk : ClassId) (fAu : Int32) (tA : Addr) (tAb : Addr) (tAk : ClassId) (tAu : Int32) (xb : Addr) (kB : Addr) (lB : Addr) (lBb : Addr) (lBk : ClassId) (lBu : Int32) (fB : Addr) (fBb : Addr) (fBk : ClassId) (fBu : Int32) (tB : Addr) (tBb : Addr) (tBk : ClassId) (tBu : Int32) (xz : Int32) (h0 : Heap) (v : Option Value) (h : Heap) (L : List Loc) : Prop := v = some (.int (oBi (kA = kB ∧ lAu = lBu ∧ fAu = fBu ∧ tAu = tBu))) ∧ h = h0 ∧ oKp h0 h [] L
abbrev yy9 : MethodName := ⟨"com/example/tributary/tributary/flow/FlowEvent", "equals", "(Ljava/lang/Object;)Z"⟩
theorem d9_0 : decode prog_5_method_6_code 0 = .ok (.aload_n 1, 1) := by decide +kernel
theorem d9_1 : decode prog_5_method_6_code 1 = .ok (.instanceof 8, 3) := by decide +kernel
theorem d9_4 : decode prog_5_method_6_code 4 = .ok (.ifCond .eq 65, 3) := by decide +kernel
theorem d9_7 : decode prog_5_method_6_code 7 = .ok (.aload_n 1, 1) := by decide +kernel
theorem d9_8 : decode prog_5_method_6_code 8 = .ok (.checkcast 8, 3) := by decide +kernel
theorem d9_11 : decode prog_5_method_6_code 11 = .ok (.astore_n 2, 1) := by decide +kernel
theorem d9_12 : decode prog_5_method_6_code 12 = .ok (.aload_n 0, 1) := by decide +kernel
theorem d9_13 : decode prog_5_method_6_code 13 = .ok (.getfield 7, 3) := by decide +kernel
theorem d9_16 : decode prog_5_method_6_code 16 = .ok (.aload_n 2, 1) := by decide +kernel
theorem d9_17 : decode prog_5_method_6_code 17 = .ok (.getfield 7, 3) := by decide +kernel
theorem d9_20 : decode prog_5_method_6_code 20 = .ok (.if_acmp .ne 49, 3) := by decide +kernel
theorem d9_23 : decode prog_5_method_6_code 23 = .ok (.aload_n 0, 1) := by decide +kernel
theorem d9_24 : decode prog_5_method_6_code 24 = .ok (.getfield 13, 3) := by decide +kernel
theorem d9_27 : decode prog_5_method_6_code 27 = .ok (.aload_n 2, 1) := by decide +kernel
theorem d9_28 : decode prog_5_method_6_code 28 = .ok (.getfield 13, 3) := by decide +kernel
theorem d9_31 : decode prog_5_method_6_code 31 = .ok (.invokevirtual 23, 3) := by decide +kernel
theorem pd_5 : parseMethodDescriptor "(Ljava/lang/Object;)Z" = some ⟨[(.object "java/lang/Object")], some .boolean⟩ := by decide +kernel
theorem d9_34 : decode prog_5_method_6_code 34 = .ok (.ifCond .eq 35, 3) := by decide +kernel
theorem d9_37 : decode prog_5_method_6_code 37 = .ok (.aload_n 0, 1) := by decide +kernel
theorem d9_38 : decode prog_5_method_6_code 38 = .ok (.getfield 17, 3) := by decide +kernel
theorem d9_41 : decode prog_5_method_6_code 41 = .ok (.aload_n 2, 1) := by decide +kernel
theorem d9_42 : decode prog_5_method_6_code 42 = .ok (.getfield 17, 3) := by decide +kernel
theorem d9_45 : decode prog_5_method_6_code 45 = .ok (.invokevirtual 23, 3) := by decide +kernel
theorem d9_48 : decode prog_5_method_6_code 48 = .ok (.ifCond .eq 21, 3) := by decide +kernel
theorem d9_51 : decode prog_5_method_6_code 51 = .ok (.aload_n 0, 1) := by decide +kernel
theorem d9_52 : decode prog_5_method_6_code 52 = .ok (.getfield 20, 3) := by decide +kernel
theorem d9_55 : decode prog_5_method_6_code 55 = .ok (.aload_n 2, 1) := by decide +kernel
theorem d9_56 : decode prog_5_method_6_code 56 = .ok (.getfield 20, 3) := by decide +kernel
theorem d9_59 : decode prog_5_method_6_code 59 = .ok (.invokevirtual 23, 3) := by decide +kernel
theorem d9_62 : decode prog_5_method_6_code 62 = .ok (.ifCond .eq 7, 3) := by decide +kernel
theorem d9_65 : decode prog_5_method_6_code 65 = .ok (.iconst 1, 1) := by decide +kernel
theorem d9_66 : decode prog_5_method_6_code 66 = .ok (.goto 4, 3) := by decide +kernel
theorem d9_70 : decode prog_5_method_6_code 70 = .ok (.ireturn, 1) := by decide +kernel
theorem d9_69 : decode prog_5_method_6_code 69 = .ok (.iconst 0, 1) := by decide +kernel
theorem rFE (l : Launch) (Z : State) (a0 : Array Value) (hw : ∀ d ∈ tables_1, d.before a0 Z = true) (ws : List Jvm.Cond) (xa : Addr) (kA : Addr) (lA : Addr) (lAb : Addr) (lAk : ClassId) (lAu : Int32) (fA : Addr) (fAb : Addr) (fAk : ClassId) (fAu : Int32) (tA : Addr) (tAb : Addr) (tAk : ClassId) (tAu : Int32) (xb : Addr) (kB : Addr) (lB : Addr) (lBb : Addr) (lBk : ClassId) (lBu : Int32) (fB : Addr) (fBb : Addr) (fBk : ClassId) (fBu : Int32) (tB : Addr) (tBb : Addr) (tBk : ClassId) (tBu : Int32) (xz : Int32) (h0 : Heap) (O0 : Ext Z.heap h0) (S_COMPACT_STRINGS : Sta Z Z.heap "java/lang/String" "COMPACT_STRINGS" "Z" (.int xz)) (hz : ¬ xz = (0 : Int32)) (E_xa : Exa Z h0 xa "com/example/tributary/tributary/flow/FlowEvent") (F_kind_xa : Fld Z h0 xa "com/example/tributary/tributary/flow/FlowEvent" "kind" "Lcom/example/tributary/tributary/flow/FlowEvent$Kind;" (.ref kA)) (F_location_xa : Fld Z h0 xa "com/example/tributary/tributary/flow/FlowEvent" "location" "Ljava/lang/String;" (.ref lA)) (E_lA : Exa Z h0 lA "java/lang/String") (F_coder_lA : Fld Z h0 lA "java/lang/String" "coder" "B" (.int (0 : Int32))) (F_value_lA : Fld Z h0 lA "java/lang/String" "value" "[B" (.ref lAb)) (V_lAb : Arv Z h0 lAb lAk .byte (1 : Int32) [(.int lAu)] (.int (0 : Int32))) (F_from_xa : Fld Z h0 xa "com/example/tributary/tributary/flow/FlowEvent" "from" "Ljava/lang/String;" (.ref fA)) (E_fA : Exa Z h0 fA "java/lang/String") (F_coder_fA : Fld Z h0 fA "java/lang/String" "coder" "B" (.int (0 : Int32))) (F_value_fA : Fld Z h0 fA "java/lang/String" "value" "[B" (.ref fAb)) (V_fAb : Arv Z h0 fAb fAk .byte (1 : Int32) [(.int fAu)] (.int (0 : Int32))) (F_to_xa : Fld Z h0 xa "com/example/tributary/tributary/flow/FlowEvent" "to" "Ljava/lang/String;" (.ref tA)) (E_tA : Exa Z h0 tA "java/lang/String") (F_coder_tA : Fld Z h0 tA "java/lang/String" "coder" "B" (.int (0 : Int32))) (F_value_tA : Fld Z h0 tA "java/lang/String" "value" "[B" (.ref tAb)) (V_tAb : Arv Z h0 tAb tAk .byte (1 : Int32) [(.int tAu)] (.int (0 : Int32))) (E_xb : Exa Z h0 xb "com/example/tributary/tributary/flow/FlowEvent") (F_kind_xb : Fld Z h0 xb "com/example/tributary/tributary/flow/FlowEvent" "kind" "Lcom/example/tributary/tributary/flow/FlowEvent$Kind;" (.ref kB)) (F_location_xb : Fld Z h0 xb "com/example/tributary/tributary/flow/FlowEvent" "location" "Ljava/lang/String;" (.ref lB)) (E_lB : Exa Z h0 lB "java/lang/String") (F_coder_lB : Fld Z h0 lB "java/lang/String" "coder" "B" (.int (0 : Int32))) (F_value_lB : Fld Z h0 lB "java/lang/String" "value" "[B" (.ref lBb)) (V_lBb : Arv Z h0 lBb lBk .byte (1 : Int32) [(.int lBu)] (.int (0 : Int32))) (F_from_xb : Fld Z h0 xb "com/example/tributary/tributary/flow/FlowEvent" "from" "Ljava/lang/String;" (.ref fB)) (E_fB : Exa Z h0 fB "java/lang/String") (F_coder_fB : Fld Z h0 fB "java/lang/String" "coder" "B" (.int (0 : Int32))) (F_value_fB : Fld Z h0 fB "java/lang/String" "value" "[B" (.ref fBb)) (V_fBb : Arv Z h0 fBb fBk .byte (1 : Int32) [(.int fBu)] (.int (0 : Int32))) (F_to_xb : Fld Z h0 xb "com/example/tributary/tributary/flow/FlowEvent" "to" "Ljava/lang/String;" (.ref tB)) (E_tB : Exa Z h0 tB "java/lang/String") (F_coder_tB : Fld Z h0 tB "java/lang/String" "coder" "B" (.int (0 : Int32))) (F_value_tB : Fld Z h0 tB "java/lang/String" "value" "[B" (.ref tBb)) (V_tBb : Arv Z h0 tBb tBk .byte (1 : Int32) [(.int tBu)] (.int (0 : Int32))) (ne_lA_lB : lA ≠ lB) (ne_fA_fB : fA ≠ fB) (ne_tA_tB : tA ≠ tB) :
    oCon l Z yy9 prog_5_method_6_code 3 (some .boolean) ws ({ frames := 2, cells := 0, slots := 0, locals := 28 } : Room) #[(.ref xa), (.ref xb)] h0 (Q_rFE Z xa kA lA lAb lAk lAu fA fAb fAk fAu tA tAb tAk tAu xb kB lB lBb lBk lBu fB fBb fBk fBu tB tBb tBk tBu xz h0) := by
  refine oCon.of (plainFor_of_name pn_3) ?_
  intro p e s m below meth c T X hx hby hml hown hnm hret hlk hZ e0
  have hml : c.maxLocals = 3 := hml
  have K : oKp h0 h0 [] [] := oKp.nil _ _
  refine oWk.cast (g' := (mkF m 0 #[rv xa, rv xb, uu] [])) (by first | rfl | (simp [entryFrame, mkF, argsToLocals, Value.category]; done)) ?_
  refine oWk.st (fun _ kt => XS.aloadN X.here hx rfl (hb hby d9_0) rfl rfl kt) ?_
  obtain ⟨T, X, e0, st⟩ := instY X hx hZ hown (oW hw 57 rfl) e0 (Ins.self E_xb) (g := (mkF m 1 #[rv xa, rv xb, uu] [(.ref xb)])) rfl rfl (hb hby d9_1)
  refine oWk.st st ?_
  refine oWk.st (fun _ kt => XS.ifNo X.here hx rfl (hb hby d9_4) rfl ((if0 _ _).trans (feq (by decide)).1) (XS.aloadN X.here hx rfl (hb hby d9_7) rfl rfl kt)) ?_
  obtain ⟨T, X, e0, st⟩ := castY X hx hZ hown (oW hw 57 rfl) e0 (Ins.self E_xb) (g := (mkF m 8 #[rv xa, rv xb, uu] [(.ref xb)])) rfl rfl (hb hby d9_8)
  refine oWk.st st ?_
  refine oWk.st (fun _ kt => XS.astoreN X.here hx rfl (hb hby d9_11) rfl rfl (l' := #[rv xa, rv xb, rv xb]) rfl (XS.aloadN X.here hx rfl (hb hby d9_12) rfl rfl kt)) ?_
  obtain ⟨T, X, e0, st⟩ := getF X hx hZ hown (host := "") (Or.inl (oW hw 44 rfl)) Via.refl e0 F_kind_xa (g := (mkF m 13 #[rv xa, rv xb, rv xb] [(.ref xa)])) rfl rfl (hb hby d9_13)
  refine oWk.st st ?_
  refine oWk.st (fun _ kt => XS.aloadN X.here hx rfl (hb hby d9_16) rfl rfl kt) ?_
  obtain ⟨T, X, e0, st⟩ := getF X hx hZ hown (host := "") (Or.inl (oW hw 44 rfl)) Via.refl e0 F_kind_xb (g := (mkF m 17 #[rv xa, rv xb, rv xb] [(.ref xb), (.ref kA)])) rfl rfl (hb hby d9_17)
  refine oWk.st st ?_
  by_cases hc20 : kA = kB
  · refine oWk.st (fun _ kt => Jvm.RoadKit.acmp (g := (mkF m 20 #[rv xa, rv xb, rv xb] [(.ref kB), (.ref kA)])) X hx rfl rfl rfl (pc0 := 20) (pc' := 23) (same := true) rfl (hb hby d9_20) rfl (decide_eq_true (congrArg Value.ref hc20)) (by decide) (by decide) kt) ?_
    show oWk _ _ _ _ T (mkF m 23 #[rv xa, rv xb, rv xb] [])
    refine oWk.st (fun _ kt => XS.aloadN X.here hx rfl (hb hby d9_23) rfl rfl kt) ?_
    obtain ⟨T, X, e0, st⟩ := getF X hx hZ hown (host := "") (Or.inl (oW hw 46 rfl)) Via.refl e0 F_location_xa (g := (mkF m 24 #[rv xa, rv xb, rv xb] [(.ref xa)])) rfl rfl (hb hby d9_24)
    refine oWk.st st ?_
    refine oWk.st (fun _ kt => XS.aloadN X.here hx rfl (hb hby d9_27) rfl rfl kt) ?_
    obtain ⟨T, X, e0, st⟩ := getF X hx hZ hown (host := "") (Or.inl (oW hw 46 rfl)) Via.refl e0 F_location_xb (g := (mkF m 28 #[rv xa, rv xb, rv xb] [(.ref xb), (.ref lA)])) rfl rfl (hb hby d9_28)
    refine oWk.st st ?_
    have Oh := K.old O0 all0
    obtain ⟨cq2, kq2, q2a, q2b, q2c⟩ := isOf hZ e0 E_lA
    obtain ⟨_, _, ⟨T, L2, k2, n2⟩, -, X, ⟨Lc2, hQ, l2, y2, z2⟩, st⟩ := X.virtualBack hx (y := yy5) (z := yy5) hown (mvT hZ (oW hw 59 rfl)) (mvT hZ (oW hw 60 rfl)) (notFace_of_selects (args := #[]) (mvT hZ (oW hw 62 rfl))) (mvT hZ (oW hw 62 rfl)) (mvT hZ (oW hw 61 rfl)) (by decide) (backOf (W := 0) (rSE l Z a0 hw [] lA lB lAb lBb lAk lBk lAu lBu xz h0 Oh S_COMPACT_STRINGS hz ne_lA_lB E_lA F_coder_lA F_value_lA V_lAb E_lB F_coder_lB F_value_lB V_lBb) hZ (oW hw 63 rfl) (oW hw 16 rfl) (by decide) (by decide)) q2a q2c (g := (mkF m 31 #[rv xa, rv xb, rv xb] [(.ref lB), (.ref lA)])) rfl (by rw [hml]; rfl) (Steps.refl _) (argsL := [(.ref lB)]) (rest := []) (lenOf pd_5 rfl) rfl (Nat.le_of_eq rfl) (hb hby d9_31) (fun _ _ => ⟨rfl, e0, (by decide : 0 + 0 ≤ _), (by decide : 0 + 0 ≤ _)⟩)
    dsimp only [Pt.U, Pt.locs, Pt.cells, Pt.slots] at X l2 y2 z2 st hQ
    subst l2 y2 z2
    obtain ⟨rfl, e0, K1⟩ := hQ
    have K := K.call K1 all0
    rw [e0] at K
    refine oWk.tr st ?_
    by_cases hc34 : lAu = lBu
    · refine oWk.st (fun _ kt => XS.ifNo X.here hx rfl (hb hby d9_34) rfl ((if0 _ _).trans (feq (oBi_ne hc34)).1) kt) ?_
      show oWk _ _ _ _ T (mkF m 37 #[rv xa, rv xb, rv xb] [])
      refine oWk.st (fun _ kt => XS.aloadN X.here hx rfl (hb hby d9_37) rfl rfl kt) ?_
      obtain ⟨T, X, e0, st⟩ := getF X hx hZ hown (host := "") (Or.inl (oW hw 48 rfl)) Via.refl e0 F_from_xa (g := (mkF m 38 #[rv xa, rv xb, rv xb] [(.ref xa)])) rfl rfl (hb hby d9_38)
      refine oWk.st st ?_
      refine oWk.st (fun _ kt => XS.aloadN X.here hx rfl (hb hby d9_41) rfl rfl kt) ?_
      obtain ⟨T, X, e0, st⟩ := getF X hx hZ hown (host := "") (Or.inl (oW hw 48 rfl)) Via.refl e0 F_from_xb (g := (mkF m 42 #[rv xa, rv xb, rv xb] [(.ref xb), (.ref fA)])) rfl rfl (hb hby d9_42)
      refine oWk.st st ?_
      have Oh := K.old O0 all0
      obtain ⟨cq4, kq4, q4a, q4b, q4c⟩ := isOf hZ e0 E_fA
      obtain ⟨_, _, ⟨T, L4, k4, n4⟩, -, X, ⟨Lc4, hQ, l4, y4, z4⟩, st⟩ := X.virtualBack hx (y := yy5) (z := yy5) hown (mvT hZ (oW hw 59 rfl)) (mvT hZ (oW hw 60 rfl)) (notFace_of_selects (args := #[]) (mvT hZ (oW hw 62 rfl))) (mvT hZ (oW hw 62 rfl)) (mvT hZ (oW hw 61 rfl)) (by decide) (backOf (W := 0) (rSE l Z a0 hw [] fA fB fAb fBb fAk fBk fAu fBu xz h0 Oh S_COMPACT_STRINGS hz ne_fA_fB E_fA F_coder_fA F_value_fA V_fAb E_fB F_coder_fB F_value_fB V_fBb) hZ (oW hw 63 rfl) (oW hw 16 rfl) (by decide) (by decide)) q4a q4c (g := (mkF m 45 #[rv xa, rv xb, rv xb] [(.ref fB), (.ref fA)])) rfl (by rw [hml]; rfl) (Steps.refl _) (argsL := [(.ref fB)]) (rest := []) (lenOf pd_5 rfl) rfl (Nat.le_of_eq rfl) (hb hby d9_45) (fun _ _ => ⟨rfl, e0, (by decide : 0 + 0 ≤ _), (by decide : 0 + 0 ≤ _)⟩)
      dsimp only [Pt.U, Pt.locs, Pt.cells, Pt.slots] at X l4 y4 z4 st hQ
      subst l4 y4 z4
      obtain ⟨rfl, e0, K3⟩ := hQ
      have K := K.call K3 all0
      rw [e0] at K
      refine oWk.tr st ?_
      by_cases hc48 : fAu = fBu
      · refine oWk.st (fun _ kt => XS.ifNo X.here hx rfl (hb hby d9_48) rfl ((if0 _ _).trans (feq (oBi_ne hc48)).1) kt) ?_
        show oWk _ _ _ _ T (mkF m 51 #[rv xa, rv xb, rv xb] [])
        refine oWk.st (fun _ kt => XS.aloadN X.here hx rfl (hb hby d9_51) rfl rfl kt) ?_
        obtain ⟨T, X, e0, st⟩ := getF X hx hZ hown (host := "") (Or.inl (oW hw 50 rfl)) Via.refl e0 F_to_xa (g := (mkF m 52 #[rv xa, rv xb, rv xb] [(.ref xa)])) rfl rfl (hb hby d9_52)
        refine oWk.st st ?_
        refine oWk.st (fun _ kt => XS.aloadN X.here hx rfl (hb hby d9_55) rfl rfl kt) ?_
        obtain ⟨T, X, e0, st⟩ := getF X hx hZ hown (host := "") (Or.inl (oW hw 50 rfl)) Via.refl e0 F_to_xb (g := (mkF m 56 #[rv xa, rv xb, rv xb] [(.ref xb), (.ref tA)])) rfl rfl (hb hby d9_56)
        refine oWk.st st ?_
        have Oh := K.old O0 all0
        obtain ⟨cq6, kq6, q6a, q6b, q6c⟩ := isOf hZ e0 E_tA
        obtain ⟨_, _, ⟨T, L6, k6, n6⟩, -, X, ⟨Lc6, hQ, l6, y6, z6⟩, st⟩ := X.virtualBack hx (y := yy5) (z := yy5) hown (mvT hZ (oW hw 59 rfl)) (mvT hZ (oW hw 60 rfl)) (notFace_of_selects (args := #[]) (mvT hZ (oW hw 62 rfl))) (mvT hZ (oW hw 62 rfl)) (mvT hZ (oW hw 61 rfl)) (by decide) (backOf (W := 0) (rSE l Z a0 hw [] tA tB tAb tBb tAk tBk tAu tBu xz h0 Oh S_COMPACT_STRINGS hz ne_tA_tB E_tA F_coder_tA F_value_tA V_tAb E_tB F_coder_tB F_value_tB V_tBb) hZ (oW hw 63 rfl) (oW hw 16 rfl) (by decide) (by decide)) q6a q6c (g := (mkF m 59 #[rv xa, rv xb, rv xb] [(.ref tB), (.ref tA)])) rfl (by rw [hml]; rfl) (Steps.refl _) (argsL := [(.ref tB)]) (rest := []) (lenOf pd_5 rfl) rfl (Nat.le_of_eq rfl) (hb hby d9_59) (fun _ _ => ⟨rfl, e0, (by decide : 0 + 0 ≤ _), (by decide : 0 + 0 ≤ _)⟩)
        dsimp only [Pt.U, Pt.locs, Pt.cells, Pt.slots] at X l6 y6 z6 st hQ
        subst l6 y6 z6
        obtain ⟨rfl, e0, K5⟩ := hQ
        have K := K.call K5 all0
        rw [e0] at K
        refine oWk.tr st ?_
        by_cases hc62 : tAu = tBu
        · refine oWk.st (fun _ kt => XS.ifNo X.here hx rfl (hb hby d9_62) rfl ((if0 _ _).trans (feq (oBi_ne hc62)).1) kt) ?_
          show oWk _ _ _ _ T (mkF m 65 #[rv xa, rv xb, rv xb] [])
          refine oWk.st (fun _ kt => XS.iconst X.here hx rfl (hb hby d9_65) (XS.goto X.here hx rfl (pc0 := 66) (pc' := 70) rfl (hb hby d9_66) (by decide) (by decide) kt)) ?_
          show oWk _ _ _ _ T (mkF m 70 #[rv xa, rv xb, rv xb] [(.int 1)])
          exact oRetZ X hx hlk hret (hb hby d9_70) (Or.inr rfl) (by rw [e0]; exact ⟨(by rw [oBi_t ⟨hc20, hc34, hc48, hc62⟩]), rfl, K⟩) (by decide) (by decide)
        · refine oWk.st (fun _ kt => XS.ifYes X.here hx rfl (pc0 := 62) (pc' := 69) rfl (hb hby d9_62) rfl ((if0 _ _).trans (teq (oBi_f hc62)).1) (by decide) (by decide) kt) ?_
          show oWk _ _ _ _ T (mkF m 69 #[rv xa, rv xb, rv xb] [])
          refine oWk.st (fun _ kt => XS.iconst X.here hx rfl (hb hby d9_69) kt) ?_
          show oWk _ _ _ _ T (mkF m 70 #[rv xa, rv xb, rv xb] [(.int 0)])
          exact oRetZ X hx hlk hret (hb hby d9_70) (Or.inl rfl) (by rw [e0]; exact ⟨(by rw [oBi_f (fun q => hc62 q.2.2.2)]), rfl, K⟩) (by decide) (by decide)
      · refine oWk.st (fun _ kt => XS.ifYes X.here hx rfl (pc0 := 48) (pc' := 69) rfl (hb hby d9_48) rfl ((if0 _ _).trans (teq (oBi_f hc48)).1) (by decide) (by decide) kt) ?_
        show oWk _ _ _ _ T (mkF m 69 #[rv xa, rv xb, rv xb] [])
        refine oWk.st (fun _ kt => XS.iconst X.here hx rfl (hb hby d9_69) kt) ?_
        show oWk _ _ _ _ T (mkF m 70 #[rv xa, rv xb, rv xb] [(.int 0)])
        exact oRetZ X hx hlk hret (hb hby d9_70) (Or.inl rfl) (by rw [e0]; exact ⟨(by rw [oBi_f (fun q => hc48 q.2.2.1)]), rfl, K⟩) (by decide) (by decide)
    · refine oWk.st (fun _ kt => XS.ifYes X.here hx rfl (pc0 := 34) (pc' := 69) rfl (hb hby d9_34) rfl ((if0 _ _).trans (teq (oBi_f hc34)).1) (by decide) (by decide) kt) ?_
      show oWk _ _ _ _ T (mkF m 69 #[rv xa, rv xb, rv xb] [])
      refine oWk.st (fun _ kt => XS.iconst X.here hx rfl (hb hby d9_69) kt) ?_
      show oWk _ _ _ _ T (mkF m 70 #[rv xa, rv xb, rv xb] [(.int 0)])
      exact oRetZ X hx hlk hret (hb hby d9_70) (Or.inl rfl) (by rw [e0]; exact ⟨(by rw [oBi_f (fun q => hc34 q.2.1)]), rfl, K⟩) (by decide) (by decide)
  · refine oWk.st (fun _ kt => Jvm.RoadKit.acmp (g := (mkF m 20 #[rv xa, rv xb, rv xb] [(.ref kB), (.ref kA)])) X hx rfl rfl rfl (pc0 := 20) (pc' := 69) (same := false) rfl (hb hby d9_20) rfl (decide_eq_false fun q => hc20 (Value.ref.inj q)) (by decide) (by decide) kt) ?_
    show oWk _ _ _ _ T (mkF m 69 #[rv xa, rv xb, rv xb] [])
    refine oWk.st (fun _ kt => XS.iconst X.here hx rfl (hb hby d9_69) kt) ?_
    show oWk _ _ _ _ T (mkF m 70 #[rv xa, rv xb, rv xb] [(.int 0)])
    exact oRetZ X hx hlk hret (hb hby d9_70) (Or.inl rfl) (by rw [e0]; exact ⟨(by rw [oBi_f (fun q => hc20 q.1)]), rfl, K⟩) (by decide) (by decide)
def Q_rFS (Z : State) (xa : Addr) (kA : Addr) (lA : Addr) (lAb : Addr) (lAk : ClassId) (lAu : Int32) (fA : Addr) (fAb : Addr) (fAk : ClassId) (fAu : Int32) (tA : Addr) (tAb : Addr) (tAk : ClassId) (tAu : Int32) (h0 : Heap) (v : Option Value) (h : Heap) (L : List Loc) : Prop := v = some (.int (1 : Int32)) ∧ h = h0 ∧ oKp h0 h [] L
theorem rFS (l : Launch) (Z : State) (a0 : Array Value) (hw : ∀ d ∈ tables_1, d.before a0 Z = true) (ws : List Jvm.Cond) (xa : Addr) (kA : Addr) (lA : Addr) (lAb : Addr) (lAk : ClassId) (lAu : Int32) (fA : Addr) (fAb : Addr) (fAk : ClassId) (fAu : Int32) (tA : Addr) (tAb : Addr) (tAk : ClassId) (tAu : Int32) (h0 : Heap) (O0 : Ext Z.heap h0) (E_xa : Exa Z h0 xa "com/example/tributary/tributary/flow/FlowEvent") (F_kind_xa : Fld Z h0 xa "com/example/tributary/tributary/flow/FlowEvent" "kind" "Lcom/example/tributary/tributary/flow/FlowEvent$Kind;" (.ref kA)) (F_location_xa : Fld Z h0 xa "com/example/tributary/tributary/flow/FlowEvent" "location" "Ljava/lang/String;" (.ref lA)) (E_lA : Exa Z h0 lA "java/lang/String") (F_coder_lA : Fld Z h0 lA "java/lang/String" "coder" "B" (.int (0 : Int32))) (F_value_lA : Fld Z h0 lA "java/lang/String" "value" "[B" (.ref lAb)) (V_lAb : Arv Z h0 lAb lAk .byte (1 : Int32) [(.int lAu)] (.int (0 : Int32))) (F_from_xa : Fld Z h0 xa "com/example/tributary/tributary/flow/FlowEvent" "from" "Ljava/lang/String;" (.ref fA)) (E_fA : Exa Z h0 fA "java/lang/String") (F_coder_fA : Fld Z h0 fA "java/lang/String" "coder" "B" (.int (0 : Int32))) (F_value_fA : Fld Z h0 fA "java/lang/String" "value" "[B" (.ref fAb)) (V_fAb : Arv Z h0 fAb fAk .byte (1 : Int32) [(.int fAu)] (.int (0 : Int32))) (F_to_xa : Fld Z h0 xa "com/example/tributary/tributary/flow/FlowEvent" "to" "Ljava/lang/String;" (.ref tA)) (E_tA : Exa Z h0 tA "java/lang/String") (F_coder_tA : Fld Z h0 tA "java/lang/String" "coder" "B" (.int (0 : Int32))) (F_value_tA : Fld Z h0 tA "java/lang/String" "value" "[B" (.ref tAb)) (V_tAb : Arv Z h0 tAb tAk .byte (1 : Int32) [(.int tAu)] (.int (0 : Int32))) :
    oCon l Z yy9 prog_5_method_6_code 3 (some .boolean) ws ({ frames := 1, cells := 0, slots := 0, locals := 14 } : Room) #[(.ref xa), (.ref xa)] h0 (Q_rFS Z xa kA lA lAb lAk lAu fA fAb fAk fAu tA tAb tAk tAu h0) := by
  refine oCon.of (plainFor_of_name pn_3) ?_
  intro p e s m below meth c T X hx hby hml hown hnm hret hlk hZ e0
  have hml : c.maxLocals = 3 := hml
  have K : oKp h0 h0 [] [] := oKp.nil _ _
  refine oWk.cast (g' := (mkF m 0 #[rv xa, rv xa, uu] [])) (by first | rfl | (simp [entryFrame, mkF, argsToLocals, Value.category]; done)) ?_
  refine oWk.st (fun _ kt => XS.aloadN X.here hx rfl (hb hby d9_0) rfl rfl kt) ?_
  obtain ⟨T, X, e0, st⟩ := instY X hx hZ hown (oW hw 57 rfl) e0 (Ins.self E_xa) (g := (mkF m 1 #[rv xa, rv xa, uu] [(.ref xa)])) rfl rfl (hb hby d9_1)
  refine oWk.st st ?_
  refine oWk.st (fun _ kt => XS.ifNo X.here hx rfl (hb hby d9_4) rfl ((if0 _ _).trans (feq (by decide)).1) (XS.aloadN X.here hx rfl (hb hby d9_7) rfl rfl kt)) ?_
  obtain ⟨T, X, e0, st⟩ := castY X hx hZ hown (oW hw 57 rfl) e0 (Ins.self E_xa) (g := (mkF m 8 #[rv xa, rv xa, uu] [(.ref xa)])) rfl rfl (hb hby d9_8)
  refine oWk.st st ?_
  refine oWk.st (fun _ kt => XS.astoreN X.here hx rfl (hb hby d9_11) rfl rfl (l' := #[rv xa, rv xa, rv xa]) rfl (XS.aloadN X.here hx rfl (hb hby d9_12) rfl rfl kt)) ?_
  obtain ⟨T, X, e0, st⟩ := getF X hx hZ hown (host := "") (Or.inl (oW hw 44 rfl)) Via.refl e0 F_kind_xa (g := (mkF m 13 #[rv xa, rv xa, rv xa] [(.ref xa)])) rfl rfl (hb hby d9_13)
  refine oWk.st st ?_
  refine oWk.st (fun _ kt => XS.aloadN X.here hx rfl (hb hby d9_16) rfl rfl kt) ?_
  obtain ⟨T, X, e0, st⟩ := getF X hx hZ hown (host := "") (Or.inl (oW hw 44 rfl)) Via.refl e0 F_kind_xa (g := (mkF m 17 #[rv xa, rv xa, rv xa] [(.ref xa), (.ref kA)])) rfl rfl (hb hby d9_17)
  refine oWk.st st ?_
  refine oWk.st (fun _ kt => Jvm.RoadKit.acmp (g := (mkF m 20 #[rv xa, rv xa, rv xa] [(.ref kA), (.ref kA)])) X hx rfl rfl rfl (pc0 := 20) (pc' := 23) (same := true) rfl (hb hby d9_20) rfl (decide_eq_true rfl) (by decide) (by decide) kt) ?_
  show oWk _ _ _ _ T (mkF m 23 #[rv xa, rv xa, rv xa] [])
  refine oWk.st (fun _ kt => XS.aloadN X.here hx rfl (hb hby d9_23) rfl rfl kt) ?_
  obtain ⟨T, X, e0, st⟩ := getF X hx hZ hown (host := "") (Or.inl (oW hw 46 rfl)) Via.refl e0 F_location_xa (g := (mkF m 24 #[rv xa, rv xa, rv xa] [(.ref xa)])) rfl rfl (hb hby d9_24)
  refine oWk.st st ?_
  refine oWk.st (fun _ kt => XS.aloadN X.here hx rfl (hb hby d9_27) rfl rfl kt) ?_
  obtain ⟨T, X, e0, st⟩ := getF X hx hZ hown (host := "") (Or.inl (oW hw 46 rfl)) Via.refl e0 F_location_xa (g := (mkF m 28 #[rv xa, rv xa, rv xa] [(.ref xa), (.ref lA)])) rfl rfl (hb hby d9_28)
  refine oWk.st st ?_
  have Oh := K.old O0 all0
  obtain ⟨cq2, kq2, q2a, q2b, q2c⟩ := isOf hZ e0 E_lA
  obtain ⟨_, _, ⟨T, L2, k2, n2⟩, -, X, ⟨Lc2, hQ, l2, y2, z2⟩, st⟩ := X.virtualBack hx (y := yy5) (z := yy5) hown (mvT hZ (oW hw 59 rfl)) (mvT hZ (oW hw 60 rfl)) (notFace_of_selects (args := #[]) (mvT hZ (oW hw 62 rfl))) (mvT hZ (oW hw 62 rfl)) (mvT hZ (oW hw 61 rfl)) (by decide) (backOf (W := 0) (rSS l Z a0 hw [] lA h0 Oh ) hZ (oW hw 63 rfl) (oW hw 16 rfl) (by decide) (by decide)) q2a q2c (g := (mkF m 31 #[rv xa, rv xa, rv xa] [(.ref lA), (.ref lA)])) rfl (by rw [hml]; rfl) (Steps.refl _) (argsL := [(.ref lA)]) (rest := []) (lenOf pd_5 rfl) rfl (Nat.le_of_eq rfl) (hb hby d9_31) (fun _ _ => ⟨rfl, e0, (by decide : 0 + 0 ≤ _), (by decide : 0 + 0 ≤ _)⟩)
  dsimp only [Pt.U, Pt.locs, Pt.cells, Pt.slots] at X l2 y2 z2 st hQ
  subst l2 y2 z2
  obtain ⟨rfl, e0, K1⟩ := hQ
  have K := K.call K1 all0
  rw [e0] at K
  refine oWk.tr st ?_
  refine oWk.st (fun _ kt => XS.ifNo X.here hx rfl (hb hby d9_34) rfl ((if0 _ _).trans (feq (by decide)).1) (XS.aloadN X.here hx rfl (hb hby d9_37) rfl rfl kt)) ?_
  obtain ⟨T, X, e0, st⟩ := getF X hx hZ hown (host := "") (Or.inl (oW hw 48 rfl)) Via.refl e0 F_from_xa (g := (mkF m 38 #[rv xa, rv xa, rv xa] [(.ref xa)])) rfl rfl (hb hby d9_38)
  refine oWk.st st ?_
  refine oWk.st (fun _ kt => XS.aloadN X.here hx rfl (hb hby d9_41) rfl rfl kt) ?_
  obtain ⟨T, X, e0, st⟩ := getF X hx hZ hown (host := "") (Or.inl (oW hw 48 rfl)) Via.refl e0 F_from_xa (g := (mkF m 42 #[rv xa, rv xa, rv xa] [(.ref xa), (.ref fA)])) rfl rfl (hb hby d9_42)
  refine oWk.st st ?_
  have Oh := K.old O0 all0
  obtain ⟨cq4, kq4, q4a, q4b, q4c⟩ := isOf hZ e0 E_fA
  obtain ⟨_, _, ⟨T, L4, k4, n4⟩, -, X, ⟨Lc4, hQ, l4, y4, z4⟩, st⟩ := X.virtualBack hx (y := yy5) (z := yy5) hown (mvT hZ (oW hw 59 rfl)) (mvT hZ (oW hw 60 rfl)) (notFace_of_selects (args := #[]) (mvT hZ (oW hw 62 rfl))) (mvT hZ (oW hw 62 rfl)) (mvT hZ (oW hw 61 rfl)) (by decide) (backOf (W := 0) (rSS l Z a0 hw [] fA h0 Oh ) hZ (oW hw 63 rfl) (oW hw 16 rfl) (by decide) (by decide)) q4a q4c (g := (mkF m 45 #[rv xa, rv xa, rv xa] [(.ref fA), (.ref fA)])) rfl (by rw [hml]; rfl) (Steps.refl _) (argsL := [(.ref fA)]) (rest := []) (lenOf pd_5 rfl) rfl (Nat.le_of_eq rfl) (hb hby d9_45) (fun _ _ => ⟨rfl, e0, (by decide : 0 + 0 ≤ _), (by decide : 0 + 0 ≤ _)⟩)
  dsimp only [Pt.U, Pt.locs, Pt.cells, Pt.slots] at X l4 y4 z4 st hQ
  subst l4 y4 z4
  obtain ⟨rfl, e0, K3⟩ := hQ
  have K := K.call K3 all0
  rw [e0] at K
  refine oWk.tr st ?_
  refine oWk.st (fun _ kt => XS.ifNo X.here hx rfl (hb hby d9_48) rfl ((if0 _ _).trans (feq (by decide)).1) (XS.aloadN X.here hx rfl (hb hby d9_51) rfl rfl kt)) ?_
  obtain ⟨T, X, e0, st⟩ := getF X hx hZ hown (host := "") (Or.inl (oW hw 50 rfl)) Via.refl e0 F_to_xa (g := (mkF m 52 #[rv xa, rv xa, rv xa] [(.ref xa)])) rfl rfl (hb hby d9_52)
  refine oWk.st st ?_
  refine oWk.st (fun _ kt => XS.aloadN X.here hx rfl (hb hby d9_55) rfl rfl kt) ?_
  obtain ⟨T, X, e0, st⟩ := getF X hx hZ hown (host := "") (Or.inl (oW hw 50 rfl)) Via.refl e0 F_to_xa (g := (mkF m 56 #[rv xa, rv xa, rv xa] [(.ref xa), (.ref tA)])) rfl rfl (hb hby d9_56)
  refine oWk.st st ?_
  have Oh := K.old O0 all0
  obtain ⟨cq6, kq6, q6a, q6b, q6c⟩ := isOf hZ e0 E_tA
  obtain ⟨_, _, ⟨T, L6, k6, n6⟩, -, X, ⟨Lc6, hQ, l6, y6, z6⟩, st⟩ := X.virtualBack hx (y := yy5) (z := yy5) hown (mvT hZ (oW hw 59 rfl)) (mvT hZ (oW hw 60 rfl)) (notFace_of_selects (args := #[]) (mvT hZ (oW hw 62 rfl))) (mvT hZ (oW hw 62 rfl)) (mvT hZ (oW hw 61 rfl)) (by decide) (backOf (W := 0) (rSS l Z a0 hw [] tA h0 Oh ) hZ (oW hw 63 rfl) (oW hw 16 rfl) (by decide) (by decide)) q6a q6c (g := (mkF m 59 #[rv xa, rv xa, rv xa] [(.ref tA), (.ref tA)])) rfl (by rw [hml]; rfl) (Steps.refl _) (argsL := [(.ref tA)]) (rest := []) (lenOf pd_5 rfl) rfl (Nat.le_of_eq rfl) (hb hby d9_59) (fun _ _ => ⟨rfl, e0, (by decide : 0 + 0 ≤ _), (by decide : 0 + 0 ≤ _)⟩)
  dsimp only [Pt.U, Pt.locs, Pt.cells, Pt.slots] at X l6 y6 z6 st hQ
  subst l6 y6 z6
  obtain ⟨rfl, e0, K5⟩ := hQ
  have K := K.call K5 all0
  rw [e0] at K
  refine oWk.tr st ?_
  refine oWk.st (fun _ kt => XS.ifNo X.here hx rfl (hb hby d9_62) rfl ((if0 _ _).trans (feq (by decide)).1) (XS.iconst X.here hx rfl (hb hby d9_65) (XS.goto X.here hx rfl (pc0 := 66) (pc' := 70) rfl (hb hby d9_66) (by decide) (by decide) kt))) ?_
  show oWk _ _ _ _ T (mkF m 70 #[rv xa, rv xa, rv xa] [(.int 1)])
  exact oRetZ X hx hlk hret (hb hby d9_70) (Or.inr rfl) (by rw [e0]; exact ⟨rfl, rfl, K⟩) (by decide) (by decide)
def Q_rFN (Z : State) (xa : Addr) (h0 : Heap) (v : Option Value) (h : Heap) (L : List Loc) : Prop := v = some (.int (0 : Int32)) ∧ h = h0 ∧ oKp h0 h [] L
theorem rFN (l : Launch) (Z : State) (a0 : Array Value) (hw : ∀ d ∈ tables_1, d.before a0 Z = true) (ws : List Jvm.Cond) (xa : Addr) (h0 : Heap) (O0 : Ext Z.heap h0)  :
    oCon l Z yy9 prog_5_method_6_code 3 (some .boolean) ws ({ frames := 0, cells := 0, slots := 0, locals := 0 } : Room) #[(.ref xa), .null] h0 (Q_rFN Z xa h0) := by
  refine oCon.of (plainFor_of_name pn_3) ?_
  intro p e s m below meth c T X hx hby hml hown hnm hret hlk hZ e0
  have hml : c.maxLocals = 3 := hml
  have K : oKp h0 h0 [] [] := oKp.nil _ _
  refine oWk.cast (g' := (mkF m 0 #[rv xa, .val .null, uu] [])) (by first | rfl | (simp [entryFrame, mkF, argsToLocals, Value.category]; done)) ?_
  refine oWk.st (fun _ kt => XS.aloadN X.here hx rfl (hb hby d9_0) rfl rfl kt) ?_
  refine oWk.st (fun _ kt => X.instanceofNull hx (g := (mkF m 1 #[rv xa, .val .null, uu] [.null])) rfl rfl (hb hby d9_1) _ kt) ?_
  refine oWk.st (fun _ kt => XS.ifYes X.here hx rfl (pc0 := 4) (pc' := 69) rfl (hb hby d9_4) rfl ((if0 _ _).trans (teq (by decide)).1) (by decide) (by decide) (XS.iconst X.here hx rfl (hb hby d9_69) kt)) ?_
  show oWk _ _ _ _ T (mkF m 70 #[rv xa, .val .null, uu] [(.int 0)])
  exact oRetZ X hx hlk hret (hb hby d9_70) (Or.inl rfl) (by rw [e0]; exact ⟨rfl, rfl, K⟩) (by decide) (by decide)
def Q_rFT (Z : State) (xa : Addr) (xb : Addr) (h0 : Heap) (v : Option Value) (h : Heap) (L : List Loc) : Prop := v = some (.int (0 : Int32)) ∧ h = h0 ∧ oKp h0 h [] L
theorem rFT (l : Launch) (Z : State) (a0 : Array Value) (hw : ∀ d ∈ tables_1, d.before a0 Z = true) (ws : List Jvm.Cond) (xa : Addr) (xb : Addr) (h0 : Heap) (O0 : Ext Z.heap h0) (E_xb : Exa Z h0 xb "java/lang/String") :
    oCon l Z yy9 prog_5_method_6_code 3 (some .boolean) ws ({ frames := 0, cells := 0, slots := 0, locals := 0 } : Room) #[(.ref xa), (.ref xb)] h0 (Q_rFT Z xa xb h0) := by
  refine oCon.of (plainFor_of_name pn_3) ?_
  intro p e s m below meth c T X hx hby hml hown hnm hret hlk hZ e0
  have hml : c.maxLocals = 3 := hml
  have K : oKp h0 h0 [] [] := oKp.nil _ _
  refine oWk.cast (g' := (mkF m 0 #[rv xa, rv xb, uu] [])) (by first | rfl | (simp [entryFrame, mkF, argsToLocals, Value.category]; done)) ?_
  refine oWk.st (fun _ kt => XS.aloadN X.here hx rfl (hb hby d9_0) rfl rfl kt) ?_
  obtain ⟨T, X, e0, st⟩ := instNo X hx hZ hown (oW hw 57 rfl) e0 E_xb (oNotInst (oW hw 67 rfl) (oW hw 68 rfl) (oW hw 2 rfl) (by decide) (by decide)) (g := (mkF m 1 #[rv xa, rv xb, uu] [(.ref xb)])) rfl rfl (hb hby d9_1)
  refine oWk.st st ?_
  refine oWk.st (fun _ kt => XS.ifYes X.here hx rfl (pc0 := 4) (pc' := 69) rfl (hb hby d9_4) rfl ((if0 _ _).trans (teq (by decide)).1) (by decide) (by decide) (XS.iconst X.here hx rfl (hb hby d9_69) kt)) ?_
  show oWk _ _ _ _ T (mkF m 70 #[rv xa, rv xb, uu] [(.int 0)])
  exact oRetZ X hx hlk hret (hb hby d9_70) (Or.inl rfl) (by rw [e0]; exact ⟨rfl, rfl, K⟩) (by decide) (by decide)
theorem oEv {kd : Int32 → Addr} (ko : ∀ i j : Int32, 0 ≤ i.toInt ∧ i.toInt < 10 → 0 ≤ j.toInt ∧ j.toInt < 10 → (kd i = kd j ↔ i = j)) {i j a b c d e f : Int32} (hi : 0 ≤ i.toInt ∧ i.toInt < 10) (hj : 0 ≤ j.toInt ∧ j.toInt < 10) (ha : 0 ≤ a.toInt ∧ a.toInt < 256) (hb : 0 ≤ b.toInt ∧ b.toInt < 256) (hc : 0 ≤ c.toInt ∧ c.toInt < 256) (hd : 0 ≤ d.toInt ∧ d.toInt < 256) (he : 0 ≤ e.toInt ∧ e.toInt < 256) (hf : 0 ≤ f.toInt ∧ f.toInt < 256) :
    (kd i = kd j ∧ a.toInt8.toInt32 = b.toInt8.toInt32 ∧ c.toInt8.toInt32 = d.toInt8.toInt32 ∧ e.toInt8.toInt32 = f.toInt8.toInt32) ↔ (i = j ∧ a = b ∧ c = d ∧ e = f) :=
  ⟨fun q => ⟨(ko i j hi hj).mp q.1, oB8inj ha hb q.2.1, oB8inj hc hd q.2.2.1, oB8inj he hf q.2.2.2⟩, fun q => by obtain ⟨rfl, rfl, rfl, rfl⟩ := q; exact ⟨rfl, rfl, rfl, rfl⟩⟩
theorem oEvS {i j a b c d e f : Int32} : (i = j ∧ a = b ∧ c = d ∧ e = f) ↔ (j = i ∧ b = a ∧ d = c ∧ f = e) := ⟨fun q => ⟨q.1.symm, q.2.1.symm, q.2.2.1.symm, q.2.2.2.symm⟩, fun q => ⟨q.1.symm, q.2.1.symm, q.2.2.1.symm, q.2.2.2.symm⟩⟩
def Q_rLaw (Z : State) (p0 : Int32) (p1 : Int32) (p2 : Int32) (p3 : Int32) (p4 : Int32) (kd : (Int32→Addr)) (xz : Int32) (h0 : Heap) (v : Option Value) (h : Heap) (L : List Loc) : Prop := v = some (.int (1 : Int32)) ∧ Fr h0.size L
theorem pd_6 : parseMethodDescriptor "(I)Lcom/example/tributary/tributary/flow/FlowEvent$Kind;" = some ⟨[.int], some (.object "com/example/tributary/tributary/flow/FlowEvent$Kind")⟩ := by decide +kernel
theorem pd_7 : parseMethodDescriptor "(I)Ljava/lang/String;" = some ⟨[.int], some (.object "java/lang/String")⟩ := by decide +kernel
theorem pd_8 : parseMethodDescriptor "(Lcom/example/tributary/tributary/flow/FlowEvent$Kind;Ljava/lang/String;Ljava/lang/String;Ljava/lang/String;)V" = some ⟨[(.object "com/example/tributary/tributary/flow/FlowEvent$Kind"), (.object "java/lang/String"), (.object "java/lang/String"), (.object "java/lang/String")], none⟩ := by decide +kernel
theorem rLaw (l : Launch) (Z : State) (a0 : Array Value) (hw : ∀ d ∈ tables_1, d.before a0 Z = true) (ws : List Jvm.Cond) (p0 : Int32) (p1 : Int32) (p2 : Int32) (p3 : Int32) (p4 : Int32) (kd : (Int32→Addr)) (xz : Int32) (h0 : Heap) (O0 : Ext Z.heap h0) (S_NEW : Sta Z Z.heap "com/example/tributary/tributary/flow/FlowEvent$Kind" "NEW" "Lcom/example/tributary/tributary/flow/FlowEvent$Kind;" (.ref (kd 0))) (S_ASSIGN : Sta Z Z.heap "com/example/tributary/tributary/flow/FlowEvent$Kind" "ASSIGN" "Lcom/example/tributary/tributary/flow/FlowEvent$Kind;" (.ref (kd 1))) (S_CALL : Sta Z Z.heap "com/example/tributary/tributary/flow/FlowEvent$Kind" "CALL" "Lcom/example/tributary/tributary/flow/FlowEvent$Kind;" (.ref (kd 2))) (S_RETURN : Sta Z Z.heap "com/example/tributary/tributary/flow/FlowEvent$Kind" "RETURN" "Lcom/example/tributary/tributary/flow/FlowEvent$Kind;" (.ref (kd 3))) (S_PUTFIELD : Sta Z Z.heap "com/example/tributary/tributary/flow/FlowEvent$Kind" "PUTFIELD" "Lcom/example/tributary/tributary/flow/FlowEvent$Kind;" (.ref (kd 4))) (S_GETFIELD : Sta Z Z.heap "com/example/tributary/tributary/flow/FlowEvent$Kind" "GETFIELD" "Lcom/example/tributary/tributary/flow/FlowEvent$Kind;" (.ref (kd 5))) (S_PUTSTATIC : Sta Z Z.heap "com/example/tributary/tributary/flow/FlowEvent$Kind" "PUTSTATIC" "Lcom/example/tributary/tributary/flow/FlowEvent$Kind;" (.ref (kd 6))) (S_GETSTATIC : Sta Z Z.heap "com/example/tributary/tributary/flow/FlowEvent$Kind" "GETSTATIC" "Lcom/example/tributary/tributary/flow/FlowEvent$Kind;" (.ref (kd 7))) (S_ESCAPE : Sta Z Z.heap "com/example/tributary/tributary/flow/FlowEvent$Kind" "ESCAPE" "Lcom/example/tributary/tributary/flow/FlowEvent$Kind;" (.ref (kd 8))) (S_INCOMING : Sta Z Z.heap "com/example/tributary/tributary/flow/FlowEvent$Kind" "INCOMING" "Lcom/example/tributary/tributary/flow/FlowEvent$Kind;" (.ref (kd 9))) (ko : ∀ i j : Int32, 0 ≤ i.toInt ∧ i.toInt < 10 → 0 ≤ j.toInt ∧ j.toInt < 10 → (kd i = kd j ↔ i = j)) (S_COMPACT_STRINGS : Sta Z Z.heap "java/lang/String" "COMPACT_STRINGS" "Z" (.int xz)) (hz : ¬ xz = (0 : Int32)) :
    oCon l Z x code maxLocals ret ws room_1 #[(.int p0), (.int p1), (.int p2), (.int p3), (.int p4)] h0 (Q_rLaw Z p0 p1 p2 p3 p4 kd xz h0) := by
  refine oCon.of (plainFor_of_name pn_2) ?_
  intro p e s m below meth c T X hx hby hml hown hnm hret hlk hZ e0
  have hml : c.maxLocals = 16 := hml
  have K : oKp h0 h0 [] [] := oKp.nil _ _
  refine oWk.cast (g' := (mkF m 0 #[iv p0, iv p1, iv p2, iv p3, iv p4, uu, uu, uu, uu, uu, uu, uu, uu, uu, uu, uu] [])) (by first | rfl | (simp [entryFrame, mkF, argsToLocals, Value.category, maxLocals]; done)) ?_
  refine oWk.st (fun _ kt => XS.iloadN X.here hx rfl (hb hby at_0) rfl kt) ?_
  refine oWk.st (fun _ kt => X.ldcI hx hown (mvT hZ (oW hw 0 rfl)) rfl (hb hby at_1) (XS.iand X.here hx rfl (hb hby at_3) rfl (XS.bipush X.here hx rfl (hb hby at_4) (iremM X hx rfl (hb hby at_6) rfl (by decide) kt)))) ?_
  show oWk _ _ _ _ T (mkF m 7 #[iv p0, iv p1, iv p2, iv p3, iv p4, uu, uu, uu, uu, uu, uu, uu, uu, uu, uu, uu] [(.int ((p0 &&& (2147483647 : Int32)) % (10 : Int32)))])
  generalize hi1 : ((p0 &&& (2147483647 : Int32)) % (10 : Int32)) = i1
  show oWk _ _ _ _ T (mkF m 7 #[iv p0, iv p1, iv p2, iv p3, iv p4, uu, uu, uu, uu, uu, uu, uu, uu, uu, uu, uu] [(.int i1)])
  have hr1 := oR10 p0
  rw [hi1] at hr1
  refine oWk.st (fun _ kt => XS.istore X.here hx rfl (hb hby at_7) rfl (l' := #[iv p0, iv p1, iv p2, iv p3, iv p4, iv i1, uu, uu, uu, uu, uu, uu, uu, uu, uu, uu]) rfl (XS.iload X.here hx rfl (hb hby at_9) rfl (XS.iconst X.here hx rfl (hb hby at_11) (XS.iand X.here hx rfl (hb hby at_12) rfl kt)))) ?_
  show oWk _ _ _ _ T (mkF m 13 #[iv p0, iv p1, iv p2, iv p3, iv p4, iv i1, uu, uu, uu, uu, uu, uu, uu, uu, uu, uu] [(.int (p4 &&& (1 : Int32)))])
  have J28 : ∀ (i2 : Int32), 0 ≤ i2.toInt ∧ i2.toInt < 10 → oWk p.tables e below (oDn s below (Q_rLaw Z p0 p1 p2 p3 p4 kd xz h0) room_1.cells room_1.slots) T (mkF m 28 #[iv p0, iv p1, iv p2, iv p3, iv p4, iv i1, uu, uu, uu, uu, uu, uu, uu, uu, uu, uu] [(.int i2)]) := by
    intro i2 hr2
    refine oWk.st (fun _ kt => XS.istore X.here hx rfl (hb hby at_28) rfl (l' := #[iv p0, iv p1, iv p2, iv p3, iv p4, iv i1, iv i2, uu, uu, uu, uu, uu, uu, uu, uu, uu]) rfl (XS.iloadN X.here hx rfl (hb hby at_30) rfl (XS.sipush X.here hx rfl (hb hby at_31) (XS.iand X.here hx rfl (hb hby at_34) rfl kt)))) ?_
    show oWk _ _ _ _ T (mkF m 35 #[iv p0, iv p1, iv p2, iv p3, iv p4, iv i1, iv i2, uu, uu, uu, uu, uu, uu, uu, uu, uu] [(.int (p2 &&& (255 : Int32)))])
    generalize hl1e : (p2 &&& (255 : Int32)) = l1
    show oWk _ _ _ _ T (mkF m 35 #[iv p0, iv p1, iv p2, iv p3, iv p4, iv i1, iv i2, uu, uu, uu, uu, uu, uu, uu, uu, uu] [(.int l1)])
    have hl1 := oM255 p2
    rw [hl1e] at hl1
    refine oWk.st (fun _ kt => XS.istore X.here hx rfl (hb hby at_35) rfl (l' := #[iv p0, iv p1, iv p2, iv p3, iv p4, iv i1, iv i2, iv l1, uu, uu, uu, uu, uu, uu, uu, uu]) rfl (XS.iloadN X.here hx rfl (hb hby at_37) rfl (XS.bipush X.here hx rfl (hb hby at_38) (XS.iushr X.here hx rfl (hb hby at_40) rfl (XS.sipush X.here hx rfl (hb hby at_41) (XS.iand X.here hx rfl (hb hby at_44) rfl kt)))))) ?_
    show oWk _ _ _ _ T (mkF m 45 #[iv p0, iv p1, iv p2, iv p3, iv p4, iv i1, iv i2, iv l1, uu, uu, uu, uu, uu, uu, uu, uu] [(.int (((p2.toUInt32 >>> ((8 : Int32) &&& 31).toUInt32).toInt32) &&& (255 : Int32)))])
    generalize hf1e : (((p2.toUInt32 >>> ((8 : Int32) &&& 31).toUInt32).toInt32) &&& (255 : Int32)) = f1
    show oWk _ _ _ _ T (mkF m 45 #[iv p0, iv p1, iv p2, iv p3, iv p4, iv i1, iv i2, iv l1, uu, uu, uu, uu, uu, uu, uu, uu] [(.int f1)])
    have hf1 := oM255 ((p2.toUInt32 >>> ((8 : Int32) &&& 31).toUInt32).toInt32)
    rw [hf1e] at hf1
    refine oWk.st (fun _ kt => XS.istore X.here hx rfl (hb hby at_45) rfl (l' := #[iv p0, iv p1, iv p2, iv p3, iv p4, iv i1, iv i2, iv l1, iv f1, uu, uu, uu, uu, uu, uu, uu]) rfl (XS.iloadN X.here hx rfl (hb hby at_47) rfl (XS.bipush X.here hx rfl (hb hby at_48) (XS.iushr X.here hx rfl (hb hby at_50) rfl (XS.sipush X.here hx rfl (hb hby at_51) (XS.iand X.here hx rfl (hb hby at_54) rfl kt)))))) ?_
    show oWk _ _ _ _ T (mkF m 55 #[iv p0, iv p1, iv p2, iv p3, iv p4, iv i1, iv i2, iv l1, iv f1, uu, uu, uu, uu, uu, uu, uu] [(.int (((p2.toUInt32 >>> ((16 : Int32) &&& 31).toUInt32).toInt32) &&& (255 : Int32)))])
    generalize ht1e : (((p2.toUInt32 >>> ((16 : Int32) &&& 31).toUInt32).toInt32) &&& (255 : Int32)) = t1
    show oWk _ _ _ _ T (mkF m 55 #[iv p0, iv p1, iv p2, iv p3, iv p4, iv i1, iv i2, iv l1, iv f1, uu, uu, uu, uu, uu, uu, uu] [(.int t1)])
    have ht1 := oM255 ((p2.toUInt32 >>> ((16 : Int32) &&& 31).toUInt32).toInt32)
    rw [ht1e] at ht1
    refine oWk.st (fun _ kt => XS.istore X.here hx rfl (hb hby at_55) rfl (l' := #[iv p0, iv p1, iv p2, iv p3, iv p4, iv i1, iv i2, iv l1, iv f1, iv t1, uu, uu, uu, uu, uu, uu]) rfl (XS.iload X.here hx rfl (hb hby at_57) rfl (XS.iconst X.here hx rfl (hb hby at_59) (XS.iand X.here hx rfl (hb hby at_60) rfl kt)))) ?_
    show oWk _ _ _ _ T (mkF m 61 #[iv p0, iv p1, iv p2, iv p3, iv p4, iv i1, iv i2, iv l1, iv f1, iv t1, uu, uu, uu, uu, uu, uu] [(.int (p4 &&& (2 : Int32)))])
    have J74 : ∀ (l2 : Int32), 0 ≤ l2.toInt ∧ l2.toInt < 256 → oWk p.tables e below (oDn s below (Q_rLaw Z p0 p1 p2 p3 p4 kd xz h0) room_1.cells room_1.slots) T (mkF m 74 #[iv p0, iv p1, iv p2, iv p3, iv p4, iv i1, iv i2, iv l1, iv f1, iv t1, uu, uu, uu, uu, uu, uu] [(.int l2)]) := by
      intro l2 hl2
      refine oWk.st (fun _ kt => XS.istore X.here hx rfl (hb hby at_74) rfl (l' := #[iv p0, iv p1, iv p2, iv p3, iv p4, iv i1, iv i2, iv l1, iv f1, iv t1, iv l2, uu, uu, uu, uu, uu]) rfl (XS.iload X.here hx rfl (hb hby at_76) rfl (XS.iconst X.here hx rfl (hb hby at_78) (XS.iand X.here hx rfl (hb hby at_79) rfl kt)))) ?_
      show oWk _ _ _ _ T (mkF m 80 #[iv p0, iv p1, iv p2, iv p3, iv p4, iv i1, iv i2, iv l1, iv f1, iv t1, iv l2, uu, uu, uu, uu, uu] [(.int (p4 &&& (4 : Int32)))])
      have J96 : ∀ (f2 : Int32), 0 ≤ f2.toInt ∧ f2.toInt < 256 → oWk p.tables e below (oDn s below (Q_rLaw Z p0 p1 p2 p3 p4 kd xz h0) room_1.cells room_1.slots) T (mkF m 96 #[iv p0, iv p1, iv p2, iv p3, iv p4, iv i1, iv i2, iv l1, iv f1, iv t1, iv l2, uu, uu, uu, uu, uu] [(.int f2)]) := by
        intro f2 hf2
        refine oWk.st (fun _ kt => XS.istore X.here hx rfl (hb hby at_96) rfl (l' := #[iv p0, iv p1, iv p2, iv p3, iv p4, iv i1, iv i2, iv l1, iv f1, iv t1, iv l2, iv f2, uu, uu, uu, uu]) rfl (XS.iload X.here hx rfl (hb hby at_98) rfl (XS.bipush X.here hx rfl (hb hby at_100) (XS.iand X.here hx rfl (hb hby at_102) rfl kt)))) ?_
        show oWk _ _ _ _ T (mkF m 103 #[iv p0, iv p1, iv p2, iv p3, iv p4, iv i1, iv i2, iv l1, iv f1, iv t1, iv l2, iv f2, uu, uu, uu, uu] [(.int (p4 &&& (8 : Int32)))])
        have J119 : ∀ (t2 : Int32), 0 ≤ t2.toInt ∧ t2.toInt < 256 → oWk p.tables e below (oDn s below (Q_rLaw Z p0 p1 p2 p3 p4 kd xz h0) room_1.cells room_1.slots) T (mkF m 119 #[iv p0, iv p1, iv p2, iv p3, iv p4, iv i1, iv i2, iv l1, iv f1, iv t1, iv l2, iv f2, uu, uu, uu, uu] [(.int t2)]) := by
          intro t2 ht2
          refine oWk.st (fun _ kt => XS.istore X.here hx rfl (hb hby at_119) rfl (l' := #[iv p0, iv p1, iv p2, iv p3, iv p4, iv i1, iv i2, iv l1, iv f1, iv t1, iv l2, iv f2, iv t2, uu, uu, uu]) rfl kt) ?_
          obtain ⟨ea, g1⟩ : ∃ z, z = h0.size := ⟨_, rfl⟩
          have ge_ea : h0.size ≤ ea := Nat.le_trans K.le (Nat.le_of_eq g1.symm)
          obtain ⟨T, h, X, e0, E1, A1, D1, -, st⟩ := newO X hx hZ hown (oW hw 1 rfl) (oW hw 2 rfl) (oW hw 3 rfl) e0 (g := (mkF m 121 #[iv p0, iv p1, iv p2, iv p3, iv p4, iv i1, iv i2, iv l1, iv f1, iv t1, iv l2, iv f2, iv t2, uu, uu, uu] [])) rfl (hb hby at_121) (by decide) (by decide)
          rw [← g1] at A1 D1 st
          refine oWk.st st ?_
          have K := K.ext E1
          have E_ea := A1
          have F_kind_ea : Fld Z h ea "com/example/tributary/tributary/flow/FlowEvent" "kind" "Lcom/example/tributary/tributary/flow/FlowEvent$Kind;" .null := D1 (Or.inr (oW hw 45 rfl)) (ty := (.object "com/example/tributary/tributary/flow/FlowEvent$Kind")) (by decide)
          have F_location_ea : Fld Z h ea "com/example/tributary/tributary/flow/FlowEvent" "location" "Ljava/lang/String;" .null := D1 (Or.inr (oW hw 47 rfl)) (ty := (.object "java/lang/String")) (by decide)
          have F_from_ea : Fld Z h ea "com/example/tributary/tributary/flow/FlowEvent" "from" "Ljava/lang/String;" .null := D1 (Or.inr (oW hw 49 rfl)) (ty := (.object "java/lang/String")) (by decide)
          have F_to_ea : Fld Z h ea "com/example/tributary/tributary/flow/FlowEvent" "to" "Ljava/lang/String;" .null := D1 (Or.inr (oW hw 51 rfl)) (ty := (.object "java/lang/String")) (by decide)
          refine oWk.st (fun _ kt => XS.dup X.here hx rfl (hb hby at_124) rfl rfl (XS.iload X.here hx rfl (hb hby at_125) rfl kt)) ?_
          have Oh := K.old O0 all0
          obtain ⟨_, _, ⟨T, L3, k3, n3⟩, -, X, ⟨Lc3, hQ, l3, y3, z3⟩, st⟩ := Jvm.LawKit.callS X hx (y := yy7) hown (mvT hZ (oW hw 4 rfl)) (mvT hZ (oW hw 5 rfl)) (mvT hZ (oW hw 6 rfl)) (mvT hZ (oW hw 7 rfl)) (by decide) (backOf (W := 2) (rKo l Z a0 hw [] i1 kd h Oh S_NEW S_ASSIGN S_CALL S_RETURN S_PUTFIELD S_GETFIELD S_PUTSTATIC S_GETSTATIC S_ESCAPE S_INCOMING hr1) hZ (oW hw 7 rfl) (oW hw 6 rfl) (by decide) (by decide)) (g := (mkF m 127 #[iv p0, iv p1, iv p2, iv p3, iv p4, iv i1, iv i2, iv l1, iv f1, iv t1, iv l2, iv f2, iv t2, uu, uu, uu] [(.int i1), (.ref ea), (.ref ea)])) rfl (by rw [hml]; rfl) (argsL := [(.int i1)]) (rest := [(.ref ea), (.ref ea)]) (lenOf pd_6 rfl) rfl (Nat.le_of_eq rfl) (hb hby at_127) (fun _ _ => ⟨rfl, e0, (by decide : 1 + 0 ≤ _), (by decide : 4 + 0 ≤ _)⟩)
          dsimp only [Pt.U, Pt.locs, Pt.cells, Pt.slots] at X l3 y3 z3 st hQ
          subst l3 y3 z3
          obtain ⟨rfl, e0, K2⟩ := hQ
          have K := K.call K2 all0
          rw [e0] at K
          refine oWk.st st ?_
          refine oWk.st (fun _ kt => XS.iload X.here hx rfl (hb hby at_130) rfl kt) ?_
          have lt_ea := E_ea.lt
          have Oh := K.old O0 all0
          obtain ⟨_, _, ⟨T, L5, k5, n5⟩, -, X, ⟨Lc5, hQ, l5, y5, z5⟩, st⟩ := Jvm.LawKit.callS X hx (y := yy6) hown (mvT hZ (oW hw 11 rfl)) (mvT hZ (oW hw 12 rfl)) (mvT hZ (oW hw 6 rfl)) (mvT hZ (oW hw 13 rfl)) (by decide) (backOf (W := 3) (rStr l Z a0 hw [] l1 xz h Oh S_COMPACT_STRINGS hz hl1) hZ (oW hw 13 rfl) (oW hw 6 rfl) (by decide) (by decide)) (g := (mkF m 132 #[iv p0, iv p1, iv p2, iv p3, iv p4, iv i1, iv i2, iv l1, iv f1, iv t1, iv l2, iv f2, iv t2, uu, uu, uu] [(.int l1), (.ref (kd i1)), (.ref ea), (.ref ea)])) rfl (by rw [hml]; rfl) (argsL := [(.int l1)]) (rest := [(.ref (kd i1)), (.ref ea), (.ref ea)]) (lenOf pd_7 rfl) rfl (Nat.le_of_eq rfl) (hb hby at_132) (fun _ _ => ⟨rfl, e0, (by decide : 1 + 2 ≤ _), (by decide : 4 + 5 ≤ _)⟩)
          dsimp only [Pt.U, Pt.locs, Pt.cells, Pt.slots] at X l5 y5 z5 st hQ
          subst l5 y5 z5
          obtain ⟨h, e0⟩ : ∃ z, T.heap = z := ⟨_, rfl⟩
          rw [e0] at hQ
          obtain ⟨la, lab, lak, rfl, K4, gn_la, gn_lab, E_la, F_value_la, F_coder_la, V_lab, hnn4⟩ := hQ
          have ge_la := Nat.le_trans K.le gn_la
          have ne_ea_la : ea ≠ la := Nat.ne_of_lt (Nat.lt_of_lt_of_le lt_ea gn_la)
          have ge_lab := Nat.le_trans K.le gn_lab
          have ne_ea_lab : ea ≠ lab := Nat.ne_of_lt (Nat.lt_of_lt_of_le lt_ea gn_lab)
          have K := K.call K4 all0
          have ne_la_lab := hnn4
          refine oWk.st st ?_
          refine oWk.st (fun _ kt => XS.iload X.here hx rfl (hb hby at_135) rfl kt) ?_
          have E_ea := (E_ea.keep K4.1)
          have lt_ea := E_ea.lt
          have lt_la := E_la.lt
          have lt_lab := V_lab.lt
          have Oh := K.old O0 all0
          obtain ⟨_, _, ⟨T, L7, k7, n7⟩, -, X, ⟨Lc7, hQ, l7, y7, z7⟩, st⟩ := Jvm.LawKit.callS X hx (y := yy6) hown (mvT hZ (oW hw 11 rfl)) (mvT hZ (oW hw 12 rfl)) (mvT hZ (oW hw 6 rfl)) (mvT hZ (oW hw 13 rfl)) (by decide) (backOf (W := 4) (rStr l Z a0 hw [] f1 xz h Oh S_COMPACT_STRINGS hz hf1) hZ (oW hw 13 rfl) (oW hw 6 rfl) (by decide) (by decide)) (g := (mkF m 137 #[iv p0, iv p1, iv p2, iv p3, iv p4, iv i1, iv i2, iv l1, iv f1, iv t1, iv l2, iv f2, iv t2, uu, uu, uu] [(.int f1), (.ref la), (.ref (kd i1)), (.ref ea), (.ref ea)])) rfl (by rw [hml]; rfl) (argsL := [(.int f1)]) (rest := [(.ref la), (.ref (kd i1)), (.ref ea), (.ref ea)]) (lenOf pd_7 rfl) rfl (Nat.le_of_eq rfl) (hb hby at_137) (fun _ _ => ⟨rfl, e0, (by decide : 3 + 2 ≤ _), (by decide : 9 + 5 ≤ _)⟩)
          dsimp only [Pt.U, Pt.locs, Pt.cells, Pt.slots] at X l7 y7 z7 st hQ
          subst l7 y7 z7
          obtain ⟨h, e0⟩ : ∃ z, T.heap = z := ⟨_, rfl⟩
          rw [e0] at hQ
          obtain ⟨fa, fab, fak, rfl, K6, gn_fa, gn_fab, E_fa, F_value_fa, F_coder_fa, V_fab, hnn6⟩ := hQ
          have ge_fa := Nat.le_trans K.le gn_fa
          have ne_ea_fa : ea ≠ fa := Nat.ne_of_lt (Nat.lt_of_lt_of_le lt_ea gn_fa)
          have ne_la_fa : la ≠ fa := Nat.ne_of_lt (Nat.lt_of_lt_of_le lt_la gn_fa)
          have ne_lab_fa : lab ≠ fa := Nat.ne_of_lt (Nat.lt_of_lt_of_le lt_lab gn_fa)
          have ge_fab := Nat.le_trans K.le gn_fab
          have ne_ea_fab : ea ≠ fab := Nat.ne_of_lt (Nat.lt_of_lt_of_le lt_ea gn_fab)
          have ne_la_fab : la ≠ fab := Nat.ne_of_lt (Nat.lt_of_lt_of_le lt_la gn_fab)
          have ne_lab_fab : lab ≠ fab := Nat.ne_of_lt (Nat.lt_of_lt_of_le lt_lab gn_fab)
          have K := K.call K6 all0
          have ne_fa_fab := hnn6
          refine oWk.st st ?_
          refine oWk.st (fun _ kt => XS.iload X.here hx rfl (hb hby at_140) rfl kt) ?_
          have E_ea := (E_ea.keep K6.1)
          have lt_ea := E_ea.lt
          have E_la := (E_la.keep K6.1)
          have lt_la := E_la.lt
          have V_lab := (V_lab.keep K6.1 nin0)
          have lt_lab := V_lab.lt
          have lt_fa := E_fa.lt
          have lt_fab := V_fab.lt
          have Oh := K.old O0 all0
          obtain ⟨_, _, ⟨T, L9, k9, n9⟩, -, X, ⟨Lc9, hQ, l9, y9, z9⟩, st⟩ := Jvm.LawKit.callS X hx (y := yy6) hown (mvT hZ (oW hw 11 rfl)) (mvT hZ (oW hw 12 rfl)) (mvT hZ (oW hw 6 rfl)) (mvT hZ (oW hw 13 rfl)) (by decide) (backOf (W := 5) (rStr l Z a0 hw [] t1 xz h Oh S_COMPACT_STRINGS hz ht1) hZ (oW hw 13 rfl) (oW hw 6 rfl) (by decide) (by decide)) (g := (mkF m 142 #[iv p0, iv p1, iv p2, iv p3, iv p4, iv i1, iv i2, iv l1, iv f1, iv t1, iv l2, iv f2, iv t2, uu, uu, uu] [(.int t1), (.ref fa), (.ref la), (.ref (kd i1)), (.ref ea), (.ref ea)])) rfl (by rw [hml]; rfl) (argsL := [(.int t1)]) (rest := [(.ref fa), (.ref la), (.ref (kd i1)), (.ref ea), (.ref ea)]) (lenOf pd_7 rfl) rfl (Nat.le_of_eq rfl) (hb hby at_142) (fun _ _ => ⟨rfl, e0, (by decide : 5 + 2 ≤ _), (by decide : 14 + 5 ≤ _)⟩)
          dsimp only [Pt.U, Pt.locs, Pt.cells, Pt.slots] at X l9 y9 z9 st hQ
          subst l9 y9 z9
          obtain ⟨h, e0⟩ : ∃ z, T.heap = z := ⟨_, rfl⟩
          rw [e0] at hQ
          obtain ⟨ta, tab, tak, rfl, K8, gn_ta, gn_tab, E_ta, F_value_ta, F_coder_ta, V_tab, hnn8⟩ := hQ
          have ge_ta := Nat.le_trans K.le gn_ta
          have ne_ea_ta : ea ≠ ta := Nat.ne_of_lt (Nat.lt_of_lt_of_le lt_ea gn_ta)
          have ne_la_ta : la ≠ ta := Nat.ne_of_lt (Nat.lt_of_lt_of_le lt_la gn_ta)
          have ne_lab_ta : lab ≠ ta := Nat.ne_of_lt (Nat.lt_of_lt_of_le lt_lab gn_ta)
          have ne_fa_ta : fa ≠ ta := Nat.ne_of_lt (Nat.lt_of_lt_of_le lt_fa gn_ta)
          have ne_fab_ta : fab ≠ ta := Nat.ne_of_lt (Nat.lt_of_lt_of_le lt_fab gn_ta)
          have ge_tab := Nat.le_trans K.le gn_tab
          have ne_ea_tab : ea ≠ tab := Nat.ne_of_lt (Nat.lt_of_lt_of_le lt_ea gn_tab)
          have ne_la_tab : la ≠ tab := Nat.ne_of_lt (Nat.lt_of_lt_of_le lt_la gn_tab)
          have ne_lab_tab : lab ≠ tab := Nat.ne_of_lt (Nat.lt_of_lt_of_le lt_lab gn_tab)
          have ne_fa_tab : fa ≠ tab := Nat.ne_of_lt (Nat.lt_of_lt_of_le lt_fa gn_tab)
          have ne_fab_tab : fab ≠ tab := Nat.ne_of_lt (Nat.lt_of_lt_of_le lt_fab gn_tab)
          have K := K.call K8 all0
          have ne_ta_tab := hnn8
          refine oWk.st st ?_
          have E_ea := (E_ea.keep K8.1)
          have F_kind_ea := (((F_kind_ea.keep K4.1 nin0).keep K6.1 nin0).keep K8.1 nin0)
          have F_location_ea := (((F_location_ea.keep K4.1 nin0).keep K6.1 nin0).keep K8.1 nin0)
          have F_from_ea := (((F_from_ea.keep K4.1 nin0).keep K6.1 nin0).keep K8.1 nin0)
          have F_to_ea := (((F_to_ea.keep K4.1 nin0).keep K6.1 nin0).keep K8.1 nin0)
          have Oh := K.old O0 all0
          obtain ⟨_, _, ⟨T, L11, k11, n11⟩, -, X, ⟨Lc11, hQ, l11, y11, z11⟩, st⟩ := X.specialBack hx (y := yy8) rfl hown (mvT hZ (oW hw 40 rfl)) (mvT hZ (oW hw 41 rfl)) (mvT hZ (oW hw 42 rfl)) (by decide) (backOf (W := 1) (rFI l Z a0 hw [] ea (kd i1) la fa ta .null .null .null .null h Oh (Nat.le_trans O0.1 ge_ea) E_ea F_kind_ea F_location_ea F_from_ea F_to_ea) hZ (oW hw 42 rfl) (oW hw 3 rfl) (by decide) (by decide)) (g := (mkF m 145 #[iv p0, iv p1, iv p2, iv p3, iv p4, iv i1, iv i2, iv l1, iv f1, iv t1, iv l2, iv f2, iv t2, uu, uu, uu] [(.ref ta), (.ref fa), (.ref la), (.ref (kd i1)), (.ref ea), (.ref ea)])) rfl (by rw [hml]; rfl) (Steps.refl _) (a := ea) (argsL := [(.ref (kd i1)), (.ref la), (.ref fa), (.ref ta)]) (rest := [(.ref ea)]) (lenOf pd_8 rfl) rfl (Nat.le_of_eq rfl) (hb hby at_145) (fun _ _ => ⟨rfl, e0, (by decide : 7 + 0 ≤ _), (by decide : 19 + 0 ≤ _)⟩)
          dsimp only [Pt.U, Pt.locs, Pt.cells, Pt.slots] at X l11 y11 z11 st hQ
          subst l11 y11 z11
          obtain ⟨h, e0⟩ : ∃ z, T.heap = z := ⟨_, rfl⟩
          rw [e0] at hQ
          obtain ⟨rfl, K10, E_ea, F_kind_ea, F_location_ea, F_from_ea, F_to_ea⟩ := hQ
          have K := K.call K10 (allS (Or.inr ge_ea) all0)
          refine oWk.tr st ?_
          refine oWk.st (fun _ kt => XS.astore X.here hx rfl (hb hby at_148) rfl rfl (l' := #[iv p0, iv p1, iv p2, iv p3, iv p4, iv i1, iv i2, iv l1, iv f1, iv t1, iv l2, iv f2, iv t2, rv ea, uu, uu]) rfl kt) ?_
          obtain ⟨eb, g12⟩ : ∃ z, z = h.size := ⟨_, rfl⟩
          have ne_ea_eb : ea ≠ eb := Nat.ne_of_lt (Nat.lt_of_lt_of_le E_ea.lt (Nat.le_of_eq g12.symm))
          have E_la := ((E_la.keep K8.1).keep K10.1)
          have ne_la_eb : la ≠ eb := Nat.ne_of_lt (Nat.lt_of_lt_of_le E_la.lt (Nat.le_of_eq g12.symm))
          have V_lab := ((V_lab.keep K8.1 nin0).keep K10.1 (ninS (Ne.symm ne_ea_lab) nin0))
          have ne_lab_eb : lab ≠ eb := Nat.ne_of_lt (Nat.lt_of_lt_of_le V_lab.lt (Nat.le_of_eq g12.symm))
          have E_fa := ((E_fa.keep K8.1).keep K10.1)
          have ne_fa_eb : fa ≠ eb := Nat.ne_of_lt (Nat.lt_of_lt_of_le E_fa.lt (Nat.le_of_eq g12.symm))
          have V_fab := ((V_fab.keep K8.1 nin0).keep K10.1 (ninS (Ne.symm ne_ea_fab) nin0))
          have ne_fab_eb : fab ≠ eb := Nat.ne_of_lt (Nat.lt_of_lt_of_le V_fab.lt (Nat.le_of_eq g12.symm))
          have E_ta := (E_ta.keep K10.1)
          have ne_ta_eb : ta ≠ eb := Nat.ne_of_lt (Nat.lt_of_lt_of_le E_ta.lt (Nat.le_of_eq g12.symm))
          have V_tab := (V_tab.keep K10.1 (ninS (Ne.symm ne_ea_tab) nin0))
          have ne_tab_eb : tab ≠ eb := Nat.ne_of_lt (Nat.lt_of_lt_of_le V_tab.lt (Nat.le_of_eq g12.symm))
          have ge_eb : h0.size ≤ eb := Nat.le_trans K.le (Nat.le_of_eq g12.symm)
          obtain ⟨T, h, X, e0, E12, A12, D12, -, st⟩ := newO X hx hZ hown (oW hw 1 rfl) (oW hw 2 rfl) (oW hw 3 rfl) e0 (g := (mkF m 150 #[iv p0, iv p1, iv p2, iv p3, iv p4, iv i1, iv i2, iv l1, iv f1, iv t1, iv l2, iv f2, iv t2, rv ea, uu, uu] [])) rfl (hb hby at_150) (by decide) (by decide)
          rw [← g12] at A12 D12 st
          refine oWk.st st ?_
          have K := K.ext E12
          have E_eb := A12
          have F_kind_eb : Fld Z h eb "com/example/tributary/tributary/flow/FlowEvent" "kind" "Lcom/example/tributary/tributary/flow/FlowEvent$Kind;" .null := D12 (Or.inr (oW hw 45 rfl)) (ty := (.object "com/example/tributary/tributary/flow/FlowEvent$Kind")) (by decide)
          have F_location_eb : Fld Z h eb "com/example/tributary/tributary/flow/FlowEvent" "location" "Ljava/lang/String;" .null := D12 (Or.inr (oW hw 47 rfl)) (ty := (.object "java/lang/String")) (by decide)
          have F_from_eb : Fld Z h eb "com/example/tributary/tributary/flow/FlowEvent" "from" "Ljava/lang/String;" .null := D12 (Or.inr (oW hw 49 rfl)) (ty := (.object "java/lang/String")) (by decide)
          have F_to_eb : Fld Z h eb "com/example/tributary/tributary/flow/FlowEvent" "to" "Ljava/lang/String;" .null := D12 (Or.inr (oW hw 51 rfl)) (ty := (.object "java/lang/String")) (by decide)
          refine oWk.st (fun _ kt => XS.dup X.here hx rfl (hb hby at_153) rfl rfl (XS.iload X.here hx rfl (hb hby at_154) rfl kt)) ?_
          have Oh := K.old O0 all0
          obtain ⟨_, _, ⟨T, L14, k14, n14⟩, -, X, ⟨Lc14, hQ, l14, y14, z14⟩, st⟩ := Jvm.LawKit.callS X hx (y := yy7) hown (mvT hZ (oW hw 4 rfl)) (mvT hZ (oW hw 5 rfl)) (mvT hZ (oW hw 6 rfl)) (mvT hZ (oW hw 7 rfl)) (by decide) (backOf (W := 2) (rKo l Z a0 hw [] i2 kd h Oh S_NEW S_ASSIGN S_CALL S_RETURN S_PUTFIELD S_GETFIELD S_PUTSTATIC S_GETSTATIC S_ESCAPE S_INCOMING hr2) hZ (oW hw 7 rfl) (oW hw 6 rfl) (by decide) (by decide)) (g := (mkF m 156 #[iv p0, iv p1, iv p2, iv p3, iv p4, iv i1, iv i2, iv l1, iv f1, iv t1, iv l2, iv f2, iv t2, rv ea, uu, uu] [(.int i2), (.ref eb), (.ref eb)])) rfl (by rw [hml]; rfl) (argsL := [(.int i2)]) (rest := [(.ref eb), (.ref eb)]) (lenOf pd_6 rfl) rfl (Nat.le_of_eq rfl) (hb hby at_156) (fun _ _ => ⟨rfl, e0, (by decide : 8 + 0 ≤ _), (by decide : 23 + 0 ≤ _)⟩)
          dsimp only [Pt.U, Pt.locs, Pt.cells, Pt.slots] at X l14 y14 z14 st hQ
          subst l14 y14 z14
          obtain ⟨rfl, e0, K13⟩ := hQ
          have K := K.call K13 all0
          rw [e0] at K
          refine oWk.st st ?_
          refine oWk.st (fun _ kt => XS.iload X.here hx rfl (hb hby at_159) rfl kt) ?_
          have E_ea := (E_ea.ext E12)
          have lt_ea := E_ea.lt
          have E_la := (E_la.ext E12)
          have lt_la := E_la.lt
          have V_lab := (V_lab.ext E12)
          have lt_lab := V_lab.lt
          have E_fa := (E_fa.ext E12)
          have lt_fa := E_fa.lt
          have V_fab := (V_fab.ext E12)
          have lt_fab := V_fab.lt
          have E_ta := (E_ta.ext E12)
          have lt_ta := E_ta.lt
          have V_tab := (V_tab.ext E12)
          have lt_tab := V_tab.lt
          have lt_eb := E_eb.lt
          have Oh := K.old O0 all0
          obtain ⟨_, _, ⟨T, L16, k16, n16⟩, -, X, ⟨Lc16, hQ, l16, y16, z16⟩, st⟩ := Jvm.LawKit.callS X hx (y := yy6) hown (mvT hZ (oW hw 11 rfl)) (mvT hZ (oW hw 12 rfl)) (mvT hZ (oW hw 6 rfl)) (mvT hZ (oW hw 13 rfl)) (by decide) (backOf (W := 3) (rStr l Z a0 hw [] l2 xz h Oh S_COMPACT_STRINGS hz hl2) hZ (oW hw 13 rfl) (oW hw 6 rfl) (by decide) (by decide)) (g := (mkF m 161 #[iv p0, iv p1, iv p2, iv p3, iv p4, iv i1, iv i2, iv l1, iv f1, iv t1, iv l2, iv f2, iv t2, rv ea, uu, uu] [(.int l2), (.ref (kd i2)), (.ref eb), (.ref eb)])) rfl (by rw [hml]; rfl) (argsL := [(.int l2)]) (rest := [(.ref (kd i2)), (.ref eb), (.ref eb)]) (lenOf pd_7 rfl) rfl (Nat.le_of_eq rfl) (hb hby at_161) (fun _ _ => ⟨rfl, e0, (by decide : 8 + 2 ≤ _), (by decide : 23 + 5 ≤ _)⟩)
          dsimp only [Pt.U, Pt.locs, Pt.cells, Pt.slots] at X l16 y16 z16 st hQ
          subst l16 y16 z16
          obtain ⟨h, e0⟩ : ∃ z, T.heap = z := ⟨_, rfl⟩
          rw [e0] at hQ
          obtain ⟨lb, lbb, lbk, rfl, K15, gn_lb, gn_lbb, E_lb, F_value_lb, F_coder_lb, V_lbb, hnn15⟩ := hQ
          have ge_lb := Nat.le_trans K.le gn_lb
          have ne_ea_lb : ea ≠ lb := Nat.ne_of_lt (Nat.lt_of_lt_of_le lt_ea gn_lb)
          have ne_la_lb : la ≠ lb := Nat.ne_of_lt (Nat.lt_of_lt_of_le lt_la gn_lb)
          have ne_lab_lb : lab ≠ lb := Nat.ne_of_lt (Nat.lt_of_lt_of_le lt_lab gn_lb)
          have ne_fa_lb : fa ≠ lb := Nat.ne_of_lt (Nat.lt_of_lt_of_le lt_fa gn_lb)
          have ne_fab_lb : fab ≠ lb := Nat.ne_of_lt (Nat.lt_of_lt_of_le lt_fab gn_lb)
          have ne_ta_lb : ta ≠ lb := Nat.ne_of_lt (Nat.lt_of_lt_of_le lt_ta gn_lb)
          have ne_tab_lb : tab ≠ lb := Nat.ne_of_lt (Nat.lt_of_lt_of_le lt_tab gn_lb)
          have ne_eb_lb : eb ≠ lb := Nat.ne_of_lt (Nat.lt_of_lt_of_le lt_eb gn_lb)
          have ge_lbb := Nat.le_trans K.le gn_lbb
          have ne_ea_lbb : ea ≠ lbb := Nat.ne_of_lt (Nat.lt_of_lt_of_le lt_ea gn_lbb)
          have ne_la_lbb : la ≠ lbb := Nat.ne_of_lt (Nat.lt_of_lt_of_le lt_la gn_lbb)
          have ne_lab_lbb : lab ≠ lbb := Nat.ne_of_lt (Nat.lt_of_lt_of_le lt_lab gn_lbb)
          have ne_fa_lbb : fa ≠ lbb := Nat.ne_of_lt (Nat.lt_of_lt_of_le lt_fa gn_lbb)
          have ne_fab_lbb : fab ≠ lbb := Nat.ne_of_lt (Nat.lt_of_lt_of_le lt_fab gn_lbb)
          have ne_ta_lbb : ta ≠ lbb := Nat.ne_of_lt (Nat.lt_of_lt_of_le lt_ta gn_lbb)
          have ne_tab_lbb : tab ≠ lbb := Nat.ne_of_lt (Nat.lt_of_lt_of_le lt_tab gn_lbb)
          have ne_eb_lbb : eb ≠ lbb := Nat.ne_of_lt (Nat.lt_of_lt_of_le lt_eb gn_lbb)
          have K := K.call K15 all0
          have ne_lb_lbb := hnn15
          refine oWk.st st ?_
          refine oWk.st (fun _ kt => XS.iload X.here hx rfl (hb hby at_164) rfl kt) ?_
          have E_ea := (E_ea.keep K15.1)
          have lt_ea := E_ea.lt
          have E_la := (E_la.keep K15.1)
          have lt_la := E_la.lt
          have V_lab := (V_lab.keep K15.1 nin0)
          have lt_lab := V_lab.lt
          have E_fa := (E_fa.keep K15.1)
          have lt_fa := E_fa.lt
          have V_fab := (V_fab.keep K15.1 nin0)
          have lt_fab := V_fab.lt
          have E_ta := (E_ta.keep K15.1)
          have lt_ta := E_ta.lt
          have V_tab := (V_tab.keep K15.1 nin0)
          have lt_tab := V_tab.lt
          have E_eb := (E_eb.keep K15.1)
          have lt_eb := E_eb.lt
          have lt_lb := E_lb.lt
          have lt_lbb := V_lbb.lt
          have Oh := K.old O0 all0
          obtain ⟨_, _, ⟨T, L18, k18, n18⟩, -, X, ⟨Lc18, hQ, l18, y18, z18⟩, st⟩ := Jvm.LawKit.callS X hx (y := yy6) hown (mvT hZ (oW hw 11 rfl)) (mvT hZ (oW hw 12 rfl)) (mvT hZ (oW hw 6 rfl)) (mvT hZ (oW hw 13 rfl)) (by decide) (backOf (W := 4) (rStr l Z a0 hw [] f2 xz h Oh S_COMPACT_STRINGS hz hf2) hZ (oW hw 13 rfl) (oW hw 6 rfl) (by decide) (by decide)) (g := (mkF m 166 #[iv p0, iv p1, iv p2, iv p3, iv p4, iv i1, iv i2, iv l1, iv f1, iv t1, iv l2, iv f2, iv t2, rv ea, uu, uu] [(.int f2), (.ref lb), (.ref (kd i2)), (.ref eb), (.ref eb)])) rfl (by rw [hml]; rfl) (argsL := [(.int f2)]) (rest := [(.ref lb), (.ref (kd i2)), (.ref eb), (.ref eb)]) (lenOf pd_7 rfl) rfl (Nat.le_of_eq rfl) (hb hby at_166) (fun _ _ => ⟨rfl, e0, (by decide : 10 + 2 ≤ _), (by decide : 28 + 5 ≤ _)⟩)
          dsimp only [Pt.U, Pt.locs, Pt.cells, Pt.slots] at X l18 y18 z18 st hQ
          subst l18 y18 z18
          obtain ⟨h, e0⟩ : ∃ z, T.heap = z := ⟨_, rfl⟩
          rw [e0] at hQ
          obtain ⟨fb, fbb, fbk, rfl, K17, gn_fb, gn_fbb, E_fb, F_value_fb, F_coder_fb, V_fbb, hnn17⟩ := hQ
          have ge_fb := Nat.le_trans K.le gn_fb
          have ne_ea_fb : ea ≠ fb := Nat.ne_of_lt (Nat.lt_of_lt_of_le lt_ea gn_fb)
          have ne_la_fb : la ≠ fb := Nat.ne_of_lt (Nat.lt_of_lt_of_le lt_la gn_fb)
          have ne_lab_fb : lab ≠ fb := Nat.ne_of_lt (Nat.lt_of_lt_of_le lt_lab gn_fb)
          have ne_fa_fb : fa ≠ fb := Nat.ne_of_lt (Nat.lt_of_lt_of_le lt_fa gn_fb)
          have ne_fab_fb : fab ≠ fb := Nat.ne_of_lt (Nat.lt_of_lt_of_le lt_fab gn_fb)
          have ne_ta_fb : ta ≠ fb := Nat.ne_of_lt (Nat.lt_of_lt_of_le lt_ta gn_fb)
          have ne_tab_fb : tab ≠ fb := Nat.ne_of_lt (Nat.lt_of_lt_of_le lt_tab gn_fb)
          have ne_eb_fb : eb ≠ fb := Nat.ne_of_lt (Nat.lt_of_lt_of_le lt_eb gn_fb)
          have ne_lb_fb : lb ≠ fb := Nat.ne_of_lt (Nat.lt_of_lt_of_le lt_lb gn_fb)
          have ne_lbb_fb : lbb ≠ fb := Nat.ne_of_lt (Nat.lt_of_lt_of_le lt_lbb gn_fb)
          have ge_fbb := Nat.le_trans K.le gn_fbb
          have ne_ea_fbb : ea ≠ fbb := Nat.ne_of_lt (Nat.lt_of_lt_of_le lt_ea gn_fbb)
          have ne_la_fbb : la ≠ fbb := Nat.ne_of_lt (Nat.lt_of_lt_of_le lt_la gn_fbb)
          have ne_lab_fbb : lab ≠ fbb := Nat.ne_of_lt (Nat.lt_of_lt_of_le lt_lab gn_fbb)
          have ne_fa_fbb : fa ≠ fbb := Nat.ne_of_lt (Nat.lt_of_lt_of_le lt_fa gn_fbb)
          have ne_fab_fbb : fab ≠ fbb := Nat.ne_of_lt (Nat.lt_of_lt_of_le lt_fab gn_fbb)
          have ne_ta_fbb : ta ≠ fbb := Nat.ne_of_lt (Nat.lt_of_lt_of_le lt_ta gn_fbb)
          have ne_tab_fbb : tab ≠ fbb := Nat.ne_of_lt (Nat.lt_of_lt_of_le lt_tab gn_fbb)
          have ne_eb_fbb : eb ≠ fbb := Nat.ne_of_lt (Nat.lt_of_lt_of_le lt_eb gn_fbb)
          have ne_lb_fbb : lb ≠ fbb := Nat.ne_of_lt (Nat.lt_of_lt_of_le lt_lb gn_fbb)
          have ne_lbb_fbb : lbb ≠ fbb := Nat.ne_of_lt (Nat.lt_of_lt_of_le lt_lbb gn_fbb)
          have K := K.call K17 all0
          have ne_fb_fbb := hnn17
          refine oWk.st st ?_
          refine oWk.st (fun _ kt => XS.iload X.here hx rfl (hb hby at_169) rfl kt) ?_
          have E_ea := (E_ea.keep K17.1)
          have lt_ea := E_ea.lt
          have E_la := (E_la.keep K17.1)
          have lt_la := E_la.lt
          have V_lab := (V_lab.keep K17.1 nin0)
          have lt_lab := V_lab.lt
          have E_fa := (E_fa.keep K17.1)
          have lt_fa := E_fa.lt
          have V_fab := (V_fab.keep K17.1 nin0)
          have lt_fab := V_fab.lt
          have E_ta := (E_ta.keep K17.1)
          have lt_ta := E_ta.lt
          have V_tab := (V_tab.keep K17.1 nin0)
          have lt_tab := V_tab.lt
          have E_eb := (E_eb.keep K17.1)
          have lt_eb := E_eb.lt
          have E_lb := (E_lb.keep K17.1)
          have lt_lb := E_lb.lt
          have V_lbb := (V_lbb.keep K17.1 nin0)
          have lt_lbb := V_lbb.lt
          have lt_fb := E_fb.lt
          have lt_fbb := V_fbb.lt
          have Oh := K.old O0 all0
          obtain ⟨_, _, ⟨T, L20, k20, n20⟩, -, X, ⟨Lc20, hQ, l20, y20, z20⟩, st⟩ := Jvm.LawKit.callS X hx (y := yy6) hown (mvT hZ (oW hw 11 rfl)) (mvT hZ (oW hw 12 rfl)) (mvT hZ (oW hw 6 rfl)) (mvT hZ (oW hw 13 rfl)) (by decide) (backOf (W := 5) (rStr l Z a0 hw [] t2 xz h Oh S_COMPACT_STRINGS hz ht2) hZ (oW hw 13 rfl) (oW hw 6 rfl) (by decide) (by decide)) (g := (mkF m 171 #[iv p0, iv p1, iv p2, iv p3, iv p4, iv i1, iv i2, iv l1, iv f1, iv t1, iv l2, iv f2, iv t2, rv ea, uu, uu] [(.int t2), (.ref fb), (.ref lb), (.ref (kd i2)), (.ref eb), (.ref eb)])) rfl (by rw [hml]; rfl) (argsL := [(.int t2)]) (rest := [(.ref fb), (.ref lb), (.ref (kd i2)), (.ref eb), (.ref eb)]) (lenOf pd_7 rfl) rfl (Nat.le_of_eq rfl) (hb hby at_171) (fun _ _ => ⟨rfl, e0, (by decide : 12 + 2 ≤ _), (by decide : 33 + 5 ≤ _)⟩)
          dsimp only [Pt.U, Pt.locs, Pt.cells, Pt.slots] at X l20 y20 z20 st hQ
          subst l20 y20 z20
          obtain ⟨h, e0⟩ : ∃ z, T.heap = z := ⟨_, rfl⟩
          rw [e0] at hQ
          obtain ⟨tb, tbb, tbk, rfl, K19, gn_tb, gn_tbb, E_tb, F_value_tb, F_coder_tb, V_tbb, hnn19⟩ := hQ
          have ge_tb := Nat.le_trans K.le gn_tb
          have ne_ea_tb : ea ≠ tb := Nat.ne_of_lt (Nat.lt_of_lt_of_le lt_ea gn_tb)
          have ne_la_tb : la ≠ tb := Nat.ne_of_lt (Nat.lt_of_lt_of_le lt_la gn_tb)
          have ne_lab_tb : lab ≠ tb := Nat.ne_of_lt (Nat.lt_of_lt_of_le lt_lab gn_tb)
          have ne_fa_tb : fa ≠ tb := Nat.ne_of_lt (Nat.lt_of_lt_of_le lt_fa gn_tb)
          have ne_fab_tb : fab ≠ tb := Nat.ne_of_lt (Nat.lt_of_lt_of_le lt_fab gn_tb)
          have ne_ta_tb : ta ≠ tb := Nat.ne_of_lt (Nat.lt_of_lt_of_le lt_ta gn_tb)
          have ne_tab_tb : tab ≠ tb := Nat.ne_of_lt (Nat.lt_of_lt_of_le lt_tab gn_tb)
          have ne_eb_tb : eb ≠ tb := Nat.ne_of_lt (Nat.lt_of_lt_of_le lt_eb gn_tb)
          have ne_lb_tb : lb ≠ tb := Nat.ne_of_lt (Nat.lt_of_lt_of_le lt_lb gn_tb)
          have ne_lbb_tb : lbb ≠ tb := Nat.ne_of_lt (Nat.lt_of_lt_of_le lt_lbb gn_tb)
          have ne_fb_tb : fb ≠ tb := Nat.ne_of_lt (Nat.lt_of_lt_of_le lt_fb gn_tb)
          have ne_fbb_tb : fbb ≠ tb := Nat.ne_of_lt (Nat.lt_of_lt_of_le lt_fbb gn_tb)
          have ge_tbb := Nat.le_trans K.le gn_tbb
          have ne_ea_tbb : ea ≠ tbb := Nat.ne_of_lt (Nat.lt_of_lt_of_le lt_ea gn_tbb)
          have ne_la_tbb : la ≠ tbb := Nat.ne_of_lt (Nat.lt_of_lt_of_le lt_la gn_tbb)
          have ne_lab_tbb : lab ≠ tbb := Nat.ne_of_lt (Nat.lt_of_lt_of_le lt_lab gn_tbb)
          have ne_fa_tbb : fa ≠ tbb := Nat.ne_of_lt (Nat.lt_of_lt_of_le lt_fa gn_tbb)
          have ne_fab_tbb : fab ≠ tbb := Nat.ne_of_lt (Nat.lt_of_lt_of_le lt_fab gn_tbb)
          have ne_ta_tbb : ta ≠ tbb := Nat.ne_of_lt (Nat.lt_of_lt_of_le lt_ta gn_tbb)
          have ne_tab_tbb : tab ≠ tbb := Nat.ne_of_lt (Nat.lt_of_lt_of_le lt_tab gn_tbb)
          have ne_eb_tbb : eb ≠ tbb := Nat.ne_of_lt (Nat.lt_of_lt_of_le lt_eb gn_tbb)
          have ne_lb_tbb : lb ≠ tbb := Nat.ne_of_lt (Nat.lt_of_lt_of_le lt_lb gn_tbb)
          have ne_lbb_tbb : lbb ≠ tbb := Nat.ne_of_lt (Nat.lt_of_lt_of_le lt_lbb gn_tbb)
          have ne_fb_tbb : fb ≠ tbb := Nat.ne_of_lt (Nat.lt_of_lt_of_le lt_fb gn_tbb)
          have ne_fbb_tbb : fbb ≠ tbb := Nat.ne_of_lt (Nat.lt_of_lt_of_le lt_fbb gn_tbb)
          have K := K.call K19 all0
          have ne_tb_tbb := hnn19
          refine oWk.st st ?_
          have E_eb := (E_eb.keep K19.1)
          have F_kind_eb := (((F_kind_eb.keep K15.1 nin0).keep K17.1 nin0).keep K19.1 nin0)
          have F_location_eb := (((F_location_eb.keep K15.1 nin0).keep K17.1 nin0).keep K19.1 nin0)
          have F_from_eb := (((F_from_eb.keep K15.1 nin0).keep K17.1 nin0).keep K19.1 nin0)
          have F_to_eb := (((F_to_eb.keep K15.1 nin0).keep K17.1 nin0).keep K19.1 nin0)
          have Oh := K.old O0 all0
          obtain ⟨_, _, ⟨T, L22, k22, n22⟩, -, X, ⟨Lc22, hQ, l22, y22, z22⟩, st⟩ := X.specialBack hx (y := yy8) rfl hown (mvT hZ (oW hw 40 rfl)) (mvT hZ (oW hw 41 rfl)) (mvT hZ (oW hw 42 rfl)) (by decide) (backOf (W := 1) (rFI l Z a0 hw [] eb (kd i2) lb fb tb .null .null .null .null h Oh (Nat.le_trans O0.1 ge_eb) E_eb F_kind_eb F_location_eb F_from_eb F_to_eb) hZ (oW hw 42 rfl) (oW hw 3 rfl) (by decide) (by decide)) (g := (mkF m 174 #[iv p0, iv p1, iv p2, iv p3, iv p4, iv i1, iv i2, iv l1, iv f1, iv t1, iv l2, iv f2, iv t2, rv ea, uu, uu] [(.ref tb), (.ref fb), (.ref lb), (.ref (kd i2)), (.ref eb), (.ref eb)])) rfl (by rw [hml]; rfl) (Steps.refl _) (a := eb) (argsL := [(.ref (kd i2)), (.ref lb), (.ref fb), (.ref tb)]) (rest := [(.ref eb)]) (lenOf pd_8 rfl) rfl (Nat.le_of_eq rfl) (hb hby at_174) (fun _ _ => ⟨rfl, e0, (by decide : 14 + 0 ≤ _), (by decide : 38 + 0 ≤ _)⟩)
          dsimp only [Pt.U, Pt.locs, Pt.cells, Pt.slots] at X l22 y22 z22 st hQ
          subst l22 y22 z22
          obtain ⟨h, e0⟩ : ∃ z, T.heap = z := ⟨_, rfl⟩
          rw [e0] at hQ
          obtain ⟨rfl, K21, E_eb, F_kind_eb, F_location_eb, F_from_eb, F_to_eb⟩ := hQ
          have K := K.call K21 (allS (Or.inr ge_eb) all0)
          refine oWk.tr st ?_
          refine oWk.st (fun _ kt => XS.astore X.here hx rfl (hb hby at_177) rfl rfl (l' := #[iv p0, iv p1, iv p2, iv p3, iv p4, iv i1, iv i2, iv l1, iv f1, iv t1, iv l2, iv f2, iv t2, rv ea, rv eb, uu]) rfl (XS.iload X.here hx rfl (hb hby at_179) rfl (XS.iload X.here hx rfl (hb hby at_181) rfl kt))) ?_
          show oWk _ _ _ _ T (mkF m 183 #[iv p0, iv p1, iv p2, iv p3, iv p4, iv i1, iv i2, iv l1, iv f1, iv t1, iv l2, iv f2, iv t2, rv ea, rv eb, uu] [(.int i2), (.int i1)])
          have J212 : ∀ (ex : Int32), ex = oBi (i1 = i2 ∧ l1 = l2 ∧ f1 = f2 ∧ t1 = t2) → oWk p.tables e below (oDn s below (Q_rLaw Z p0 p1 p2 p3 p4 kd xz h0) room_1.cells room_1.slots) T (mkF m 212 #[iv p0, iv p1, iv p2, iv p3, iv p4, iv i1, iv i2, iv l1, iv f1, iv t1, iv l2, iv f2, iv t2, rv ea, rv eb, uu] [(.int ex)]) := by
            intro ex hex
            refine oWk.st (fun _ kt => XS.istore X.here hx rfl (hb hby at_212) rfl (l' := #[iv p0, iv p1, iv p2, iv p3, iv p4, iv i1, iv i2, iv l1, iv f1, iv t1, iv l2, iv f2, iv t2, rv ea, rv eb, iv ex]) rfl (XS.aload X.here hx rfl (hb hby at_214) rfl rfl (XS.aload X.here hx rfl (hb hby at_216) rfl rfl kt))) ?_
            have E_ea := ((E_ea.keep K19.1).keep K21.1)
            have F_kind_ea := (((((F_kind_ea.ext E12).keep K15.1 nin0).keep K17.1 nin0).keep K19.1 nin0).keep K21.1 (ninS ne_ea_eb nin0))
            have F_location_ea := (((((F_location_ea.ext E12).keep K15.1 nin0).keep K17.1 nin0).keep K19.1 nin0).keep K21.1 (ninS ne_ea_eb nin0))
            have E_la := ((E_la.keep K19.1).keep K21.1)
            have F_coder_la := ((((((((F_coder_la.keep K6.1 nin0).keep K8.1 nin0).keep K10.1 (ninS (Ne.symm ne_ea_la) nin0)).ext E12).keep K15.1 nin0).keep K17.1 nin0).keep K19.1 nin0).keep K21.1 (ninS ne_la_eb nin0))
            have F_value_la := ((((((((F_value_la.keep K6.1 nin0).keep K8.1 nin0).keep K10.1 (ninS (Ne.symm ne_ea_la) nin0)).ext E12).keep K15.1 nin0).keep K17.1 nin0).keep K19.1 nin0).keep K21.1 (ninS ne_la_eb nin0))
            have V_lab := ((V_lab.keep K19.1 nin0).keep K21.1 (ninS ne_lab_eb nin0))
            have F_from_ea := (((((F_from_ea.ext E12).keep K15.1 nin0).keep K17.1 nin0).keep K19.1 nin0).keep K21.1 (ninS ne_ea_eb nin0))
            have E_fa := ((E_fa.keep K19.1).keep K21.1)
            have F_coder_fa := (((((((F_coder_fa.keep K8.1 nin0).keep K10.1 (ninS (Ne.symm ne_ea_fa) nin0)).ext E12).keep K15.1 nin0).keep K17.1 nin0).keep K19.1 nin0).keep K21.1 (ninS ne_fa_eb nin0))
            have F_value_fa := (((((((F_value_fa.keep K8.1 nin0).keep K10.1 (ninS (Ne.symm ne_ea_fa) nin0)).ext E12).keep K15.1 nin0).keep K17.1 nin0).keep K19.1 nin0).keep K21.1 (ninS ne_fa_eb nin0))
            have V_fab := ((V_fab.keep K19.1 nin0).keep K21.1 (ninS ne_fab_eb nin0))
            have F_to_ea := (((((F_to_ea.ext E12).keep K15.1 nin0).keep K17.1 nin0).keep K19.1 nin0).keep K21.1 (ninS ne_ea_eb nin0))
            have E_ta := ((E_ta.keep K19.1).keep K21.1)
            have F_coder_ta := ((((((F_coder_ta.keep K10.1 (ninS (Ne.symm ne_ea_ta) nin0)).ext E12).keep K15.1 nin0).keep K17.1 nin0).keep K19.1 nin0).keep K21.1 (ninS ne_ta_eb nin0))
            have F_value_ta := ((((((F_value_ta.keep K10.1 (ninS (Ne.symm ne_ea_ta) nin0)).ext E12).keep K15.1 nin0).keep K17.1 nin0).keep K19.1 nin0).keep K21.1 (ninS ne_ta_eb nin0))
            have V_tab := ((V_tab.keep K19.1 nin0).keep K21.1 (ninS ne_tab_eb nin0))
            have E_lb := ((E_lb.keep K19.1).keep K21.1)
            have F_coder_lb := (((F_coder_lb.keep K17.1 nin0).keep K19.1 nin0).keep K21.1 (ninS (Ne.symm ne_eb_lb) nin0))
            have F_value_lb := (((F_value_lb.keep K17.1 nin0).keep K19.1 nin0).keep K21.1 (ninS (Ne.symm ne_eb_lb) nin0))
            have V_lbb := ((V_lbb.keep K19.1 nin0).keep K21.1 (ninS (Ne.symm ne_eb_lbb) nin0))
            have E_fb := ((E_fb.keep K19.1).keep K21.1)
            have F_coder_fb := ((F_coder_fb.keep K19.1 nin0).keep K21.1 (ninS (Ne.symm ne_eb_fb) nin0))
            have F_value_fb := ((F_value_fb.keep K19.1 nin0).keep K21.1 (ninS (Ne.symm ne_eb_fb) nin0))
            have V_fbb := ((V_fbb.keep K19.1 nin0).keep K21.1 (ninS (Ne.symm ne_eb_fbb) nin0))
            have E_tb := (E_tb.keep K21.1)
            have F_coder_tb := (F_coder_tb.keep K21.1 (ninS (Ne.symm ne_eb_tb) nin0))
            have F_value_tb := (F_value_tb.keep K21.1 (ninS (Ne.symm ne_eb_tb) nin0))
            have V_tbb := (V_tbb.keep K21.1 (ninS (Ne.symm ne_eb_tbb) nin0))
            have Oh := K.old O0 all0
            obtain ⟨cq24, kq24, q24a, q24b, q24c⟩ := isOf hZ e0 E_ea
            obtain ⟨_, _, ⟨T, L24, k24, n24⟩, -, X, ⟨Lc24, hQ, l24, y24, z24⟩, st⟩ := X.virtualBack hx (y := yy9) (z := yy9) hown (mvT hZ (oW hw 52 rfl)) (mvT hZ (oW hw 53 rfl)) (notFace_of_selects (args := #[]) (mvT hZ (oW hw 55 rfl))) (mvT hZ (oW hw 55 rfl)) (mvT hZ (oW hw 54 rfl)) (by decide) (backOf (W := 0) (rFE l Z a0 hw [] ea (kd i1) la lab lak (l1.toInt8.toInt32) fa fab fak (f1.toInt8.toInt32) ta tab tak (t1.toInt8.toInt32) eb (kd i2) lb lbb lbk (l2.toInt8.toInt32) fb fbb fbk (f2.toInt8.toInt32) tb tbb tbk (t2.toInt8.toInt32) xz h Oh S_COMPACT_STRINGS hz E_ea F_kind_ea F_location_ea E_la F_coder_la F_value_la V_lab F_from_ea E_fa F_coder_fa F_value_fa V_fab F_to_ea E_ta F_coder_ta F_value_ta V_tab E_eb F_kind_eb F_location_eb E_lb F_coder_lb F_value_lb V_lbb F_from_eb E_fb F_coder_fb F_value_fb V_fbb F_to_eb E_tb F_coder_tb F_value_tb V_tbb ne_la_lb ne_fa_fb ne_ta_tb) hZ (oW hw 56 rfl) (oW hw 3 rfl) (by decide) (by decide)) q24a q24c (g := (mkF m 218 #[iv p0, iv p1, iv p2, iv p3, iv p4, iv i1, iv i2, iv l1, iv f1, iv t1, iv l2, iv f2, iv t2, rv ea, rv eb, iv ex] [(.ref eb), (.ref ea)])) rfl (by rw [hml]; rfl) (Steps.refl _) (argsL := [(.ref eb)]) (rest := []) (lenOf pd_5 rfl) rfl (Nat.le_of_eq rfl) (hb hby at_218) (fun _ _ => ⟨rfl, e0, (by decide : 14 + 0 ≤ _), (by decide : 38 + 0 ≤ _)⟩)
            dsimp only [Pt.U, Pt.locs, Pt.cells, Pt.slots] at X l24 y24 z24 st hQ
            subst l24 y24 z24
            obtain ⟨rfl, e0, K23⟩ := hQ
            have K := K.call K23 all0
            rw [e0] at K
            refine oWk.tr st ?_
            refine oWk.st (fun _ kt => XS.iload X.here hx rfl (hb hby at_221) rfl (XS.icmpNo X.here hx rfl (hb hby at_223) rfl (teq (by rw [hex]; exact oCmp (oEv ko hr1 hr2 hl1 hl2 hf1 hf2 ht1 ht2))).2 (XS.aload X.here hx rfl (hb hby at_226) rfl rfl (XS.aload X.here hx rfl (hb hby at_228) rfl rfl kt)))) ?_
            have Oh := K.old O0 all0
            obtain ⟨cq26, kq26, q26a, q26b, q26c⟩ := isOf hZ e0 E_eb
            obtain ⟨_, _, ⟨T, L26, k26, n26⟩, -, X, ⟨Lc26, hQ, l26, y26, z26⟩, st⟩ := X.virtualBack hx (y := yy9) (z := yy9) hown (mvT hZ (oW hw 52 rfl)) (mvT hZ (oW hw 53 rfl)) (notFace_of_selects (args := #[]) (mvT hZ (oW hw 55 rfl))) (mvT hZ (oW hw 55 rfl)) (mvT hZ (oW hw 54 rfl)) (by decide) (backOf (W := 0) (rFE l Z a0 hw [] eb (kd i2) lb lbb lbk (l2.toInt8.toInt32) fb fbb fbk (f2.toInt8.toInt32) tb tbb tbk (t2.toInt8.toInt32) ea (kd i1) la lab lak (l1.toInt8.toInt32) fa fab fak (f1.toInt8.toInt32) ta tab tak (t1.toInt8.toInt32) xz h Oh S_COMPACT_STRINGS hz E_eb F_kind_eb F_location_eb E_lb F_coder_lb F_value_lb V_lbb F_from_eb E_fb F_coder_fb F_value_fb V_fbb F_to_eb E_tb F_coder_tb F_value_tb V_tbb E_ea F_kind_ea F_location_ea E_la F_coder_la F_value_la V_lab F_from_ea E_fa F_coder_fa F_value_fa V_fab F_to_ea E_ta F_coder_ta F_value_ta V_tab (Ne.symm ne_la_lb) (Ne.symm ne_fa_fb) (Ne.symm ne_ta_tb)) hZ (oW hw 56 rfl) (oW hw 3 rfl) (by decide) (by decide)) q26a q26c (g := (mkF m 230 #[iv p0, iv p1, iv p2, iv p3, iv p4, iv i1, iv i2, iv l1, iv f1, iv t1, iv l2, iv f2, iv t2, rv ea, rv eb, iv ex] [(.ref ea), (.ref eb)])) rfl (by rw [hml]; rfl) (Steps.refl _) (argsL := [(.ref ea)]) (rest := []) (lenOf pd_5 rfl) rfl (Nat.le_of_eq rfl) (hb hby at_230) (fun _ _ => ⟨rfl, e0, (by decide : 14 + 0 ≤ _), (by decide : 38 + 0 ≤ _)⟩)
            dsimp only [Pt.U, Pt.locs, Pt.cells, Pt.slots] at X l26 y26 z26 st hQ
            subst l26 y26 z26
            obtain ⟨rfl, e0, K25⟩ := hQ
            have K := K.call K25 all0
            rw [e0] at K
            refine oWk.tr st ?_
            refine oWk.st (fun _ kt => XS.iload X.here hx rfl (hb hby at_233) rfl (XS.icmpNo X.here hx rfl (hb hby at_235) rfl (teq (by rw [hex]; exact oCmp ((oEv ko hr2 hr1 hl2 hl1 hf2 hf1 ht2 ht1).trans oEvS))).2 (XS.aload X.here hx rfl (hb hby at_238) rfl rfl (XS.aload X.here hx rfl (hb hby at_240) rfl rfl kt)))) ?_
            have Oh := K.old O0 all0
            obtain ⟨cq28, kq28, q28a, q28b, q28c⟩ := isOf hZ e0 E_ea
            obtain ⟨_, _, ⟨T, L28, k28, n28⟩, -, X, ⟨Lc28, hQ, l28, y28, z28⟩, st⟩ := X.virtualBack hx (y := yy9) (z := yy9) hown (mvT hZ (oW hw 52 rfl)) (mvT hZ (oW hw 53 rfl)) (notFace_of_selects (args := #[]) (mvT hZ (oW hw 55 rfl))) (mvT hZ (oW hw 55 rfl)) (mvT hZ (oW hw 54 rfl)) (by decide) (backOf (W := 0) (rFS l Z a0 hw [] ea (kd i1) la lab lak (l1.toInt8.toInt32) fa fab fak (f1.toInt8.toInt32) ta tab tak (t1.toInt8.toInt32) h Oh E_ea F_kind_ea F_location_ea E_la F_coder_la F_value_la V_lab F_from_ea E_fa F_coder_fa F_value_fa V_fab F_to_ea E_ta F_coder_ta F_value_ta V_tab) hZ (oW hw 56 rfl) (oW hw 3 rfl) (by decide) (by decide)) q28a q28c (g := (mkF m 242 #[iv p0, iv p1, iv p2, iv p3, iv p4, iv i1, iv i2, iv l1, iv f1, iv t1, iv l2, iv f2, iv t2, rv ea, rv eb, iv ex] [(.ref ea), (.ref ea)])) rfl (by rw [hml]; rfl) (Steps.refl _) (argsL := [(.ref ea)]) (rest := []) (lenOf pd_5 rfl) rfl (Nat.le_of_eq rfl) (hb hby at_242) (fun _ _ => ⟨rfl, e0, (by decide : 14 + 0 ≤ _), (by decide : 38 + 0 ≤ _)⟩)
            dsimp only [Pt.U, Pt.locs, Pt.cells, Pt.slots] at X l28 y28 z28 st hQ
            subst l28 y28 z28
            obtain ⟨rfl, e0, K27⟩ := hQ
            have K := K.call K27 all0
            rw [e0] at K
            refine oWk.tr st ?_
            refine oWk.st (fun _ kt => XS.ifNo X.here hx rfl (hb hby at_245) rfl ((if0 _ _).trans (feq (by decide)).1) (XS.aload X.here hx rfl (hb hby at_248) rfl rfl (XS.aconstNull X.here hx rfl (hb hby at_250) kt))) ?_
            have Oh := K.old O0 all0
            obtain ⟨cq30, kq30, q30a, q30b, q30c⟩ := isOf hZ e0 E_ea
            obtain ⟨_, _, ⟨T, L30, k30, n30⟩, -, X, ⟨Lc30, hQ, l30, y30, z30⟩, st⟩ := X.virtualBack hx (y := yy9) (z := yy9) hown (mvT hZ (oW hw 52 rfl)) (mvT hZ (oW hw 53 rfl)) (notFace_of_selects (args := #[]) (mvT hZ (oW hw 55 rfl))) (mvT hZ (oW hw 55 rfl)) (mvT hZ (oW hw 54 rfl)) (by decide) (backOf (W := 0) (rFN l Z a0 hw [] ea h Oh ) hZ (oW hw 56 rfl) (oW hw 3 rfl) (by decide) (by decide)) q30a q30c (g := (mkF m 251 #[iv p0, iv p1, iv p2, iv p3, iv p4, iv i1, iv i2, iv l1, iv f1, iv t1, iv l2, iv f2, iv t2, rv ea, rv eb, iv ex] [.null, (.ref ea)])) rfl (by rw [hml]; rfl) (Steps.refl _) (argsL := [.null]) (rest := []) (lenOf pd_5 rfl) rfl (Nat.le_of_eq rfl) (hb hby at_251) (fun _ _ => ⟨rfl, e0, (by decide : 14 + 0 ≤ _), (by decide : 38 + 0 ≤ _)⟩)
            dsimp only [Pt.U, Pt.locs, Pt.cells, Pt.slots] at X l30 y30 z30 st hQ
            subst l30 y30 z30
            obtain ⟨rfl, e0, K29⟩ := hQ
            have K := K.call K29 all0
            rw [e0] at K
            refine oWk.tr st ?_
            refine oWk.st (fun _ kt => XS.ifNo X.here hx rfl (hb hby at_254) rfl ((if0 _ _).trans (teq (by decide)).2) (XS.aload X.here hx rfl (hb hby at_257) rfl rfl (XS.iload X.here hx rfl (hb hby at_259) rfl kt))) ?_
            have lt_ea := E_ea.lt
            have lt_la := E_la.lt
            have lt_lab := V_lab.lt
            have lt_fa := E_fa.lt
            have lt_fab := V_fab.lt
            have lt_ta := E_ta.lt
            have lt_tab := V_tab.lt
            have lt_eb := E_eb.lt
            have lt_lb := E_lb.lt
            have lt_lbb := V_lbb.lt
            have lt_fb := E_fb.lt
            have lt_fbb := V_fbb.lt
            have lt_tb := E_tb.lt
            have lt_tbb := V_tbb.lt
            have Oh := K.old O0 all0
            obtain ⟨_, _, ⟨T, L32, k32, n32⟩, -, X, ⟨Lc32, hQ, l32, y32, z32⟩, st⟩ := Jvm.LawKit.callS X hx (y := yy6) hown (mvT hZ (oW hw 11 rfl)) (mvT hZ (oW hw 12 rfl)) (mvT hZ (oW hw 6 rfl)) (mvT hZ (oW hw 13 rfl)) (by decide) (backOf (W := 1) (rStr l Z a0 hw [] l1 xz h Oh S_COMPACT_STRINGS hz hl1) hZ (oW hw 13 rfl) (oW hw 6 rfl) (by decide) (by decide)) (g := (mkF m 261 #[iv p0, iv p1, iv p2, iv p3, iv p4, iv i1, iv i2, iv l1, iv f1, iv t1, iv l2, iv f2, iv t2, rv ea, rv eb, iv ex] [(.int l1), (.ref ea)])) rfl (by rw [hml]; rfl) (argsL := [(.int l1)]) (rest := [(.ref ea)]) (lenOf pd_7 rfl) rfl (Nat.le_of_eq rfl) (hb hby at_261) (fun _ _ => ⟨rfl, e0, (by decide : 14 + 2 ≤ _), (by decide : 38 + 5 ≤ _)⟩)
            dsimp only [Pt.U, Pt.locs, Pt.cells, Pt.slots] at X l32 y32 z32 st hQ
            subst l32 y32 z32
            obtain ⟨h, e0⟩ : ∃ z, T.heap = z := ⟨_, rfl⟩
            rw [e0] at hQ
            obtain ⟨sc, scb, sck, rfl, K31, gn_sc, gn_scb, E_sc, F_value_sc, F_coder_sc, V_scb, hnn31⟩ := hQ
            have ge_sc := Nat.le_trans K.le gn_sc
            have ne_ea_sc : ea ≠ sc := Nat.ne_of_lt (Nat.lt_of_lt_of_le lt_ea gn_sc)
            have ne_la_sc : la ≠ sc := Nat.ne_of_lt (Nat.lt_of_lt_of_le lt_la gn_sc)
            have ne_lab_sc : lab ≠ sc := Nat.ne_of_lt (Nat.lt_of_lt_of_le lt_lab gn_sc)
            have ne_fa_sc : fa ≠ sc := Nat.ne_of_lt (Nat.lt_of_lt_of_le lt_fa gn_sc)
            have ne_fab_sc : fab ≠ sc := Nat.ne_of_lt (Nat.lt_of_lt_of_le lt_fab gn_sc)
            have ne_ta_sc : ta ≠ sc := Nat.ne_of_lt (Nat.lt_of_lt_of_le lt_ta gn_sc)
            have ne_tab_sc : tab ≠ sc := Nat.ne_of_lt (Nat.lt_of_lt_of_le lt_tab gn_sc)
            have ne_eb_sc : eb ≠ sc := Nat.ne_of_lt (Nat.lt_of_lt_of_le lt_eb gn_sc)
            have ne_lb_sc : lb ≠ sc := Nat.ne_of_lt (Nat.lt_of_lt_of_le lt_lb gn_sc)
            have ne_lbb_sc : lbb ≠ sc := Nat.ne_of_lt (Nat.lt_of_lt_of_le lt_lbb gn_sc)
            have ne_fb_sc : fb ≠ sc := Nat.ne_of_lt (Nat.lt_of_lt_of_le lt_fb gn_sc)
            have ne_fbb_sc : fbb ≠ sc := Nat.ne_of_lt (Nat.lt_of_lt_of_le lt_fbb gn_sc)
            have ne_tb_sc : tb ≠ sc := Nat.ne_of_lt (Nat.lt_of_lt_of_le lt_tb gn_sc)
            have ne_tbb_sc : tbb ≠ sc := Nat.ne_of_lt (Nat.lt_of_lt_of_le lt_tbb gn_sc)
            have ge_scb := Nat.le_trans K.le gn_scb
            have ne_ea_scb : ea ≠ scb := Nat.ne_of_lt (Nat.lt_of_lt_of_le lt_ea gn_scb)
            have ne_la_scb : la ≠ scb := Nat.ne_of_lt (Nat.lt_of_lt_of_le lt_la gn_scb)
            have ne_lab_scb : lab ≠ scb := Nat.ne_of_lt (Nat.lt_of_lt_of_le lt_lab gn_scb)
            have ne_fa_scb : fa ≠ scb := Nat.ne_of_lt (Nat.lt_of_lt_of_le lt_fa gn_scb)
            have ne_fab_scb : fab ≠ scb := Nat.ne_of_lt (Nat.lt_of_lt_of_le lt_fab gn_scb)
            have ne_ta_scb : ta ≠ scb := Nat.ne_of_lt (Nat.lt_of_lt_of_le lt_ta gn_scb)
            have ne_tab_scb : tab ≠ scb := Nat.ne_of_lt (Nat.lt_of_lt_of_le lt_tab gn_scb)
            have ne_eb_scb : eb ≠ scb := Nat.ne_of_lt (Nat.lt_of_lt_of_le lt_eb gn_scb)
            have ne_lb_scb : lb ≠ scb := Nat.ne_of_lt (Nat.lt_of_lt_of_le lt_lb gn_scb)
            have ne_lbb_scb : lbb ≠ scb := Nat.ne_of_lt (Nat.lt_of_lt_of_le lt_lbb gn_scb)
            have ne_fb_scb : fb ≠ scb := Nat.ne_of_lt (Nat.lt_of_lt_of_le lt_fb gn_scb)
            have ne_fbb_scb : fbb ≠ scb := Nat.ne_of_lt (Nat.lt_of_lt_of_le lt_fbb gn_scb)
            have ne_tb_scb : tb ≠ scb := Nat.ne_of_lt (Nat.lt_of_lt_of_le lt_tb gn_scb)
            have ne_tbb_scb : tbb ≠ scb := Nat.ne_of_lt (Nat.lt_of_lt_of_le lt_tbb gn_scb)
            have K := K.call K31 all0
            have ne_sc_scb := hnn31
            refine oWk.st st ?_
            have Oh := K.old O0 all0
            have E_ea := (E_ea.keep K31.1)
            obtain ⟨cq34, kq34, q34a, q34b, q34c⟩ := isOf hZ e0 E_ea
            obtain ⟨_, _, ⟨T, L34, k34, n34⟩, -, X, ⟨Lc34, hQ, l34, y34, z34⟩, st⟩ := X.virtualBack hx (y := yy9) (z := yy9) hown (mvT hZ (oW hw 52 rfl)) (mvT hZ (oW hw 53 rfl)) (notFace_of_selects (args := #[]) (mvT hZ (oW hw 55 rfl))) (mvT hZ (oW hw 55 rfl)) (mvT hZ (oW hw 54 rfl)) (by decide) (backOf (W := 0) (rFT l Z a0 hw [] ea sc h Oh E_sc) hZ (oW hw 56 rfl) (oW hw 3 rfl) (by decide) (by decide)) q34a q34c (g := (mkF m 264 #[iv p0, iv p1, iv p2, iv p3, iv p4, iv i1, iv i2, iv l1, iv f1, iv t1, iv l2, iv f2, iv t2, rv ea, rv eb, iv ex] [(.ref sc), (.ref ea)])) rfl (by rw [hml]; rfl) (Steps.refl _) (argsL := [(.ref sc)]) (rest := []) (lenOf pd_5 rfl) rfl (Nat.le_of_eq rfl) (hb hby at_264) (fun _ _ => ⟨rfl, e0, (by decide : 16 + 0 ≤ _), (by decide : 43 + 0 ≤ _)⟩)
            dsimp only [Pt.U, Pt.locs, Pt.cells, Pt.slots] at X l34 y34 z34 st hQ
            subst l34 y34 z34
            obtain ⟨rfl, e0, K33⟩ := hQ
            have K := K.call K33 all0
            rw [e0] at K
            refine oWk.tr st ?_
            refine oWk.st (fun _ kt => XS.ifNo X.here hx rfl (hb hby at_267) rfl ((if0 _ _).trans (teq (by decide)).2) (XS.iconst X.here hx rfl (hb hby at_270) (XS.goto X.here hx rfl (pc0 := 271) (pc' := 275) rfl (hb hby at_271) (by decide) (by decide) kt))) ?_
            show oWk _ _ _ _ T (mkF m 275 #[iv p0, iv p1, iv p2, iv p3, iv p4, iv i1, iv i2, iv l1, iv f1, iv t1, iv l2, iv f2, iv t2, rv ea, rv eb, iv ex] [(.int 1)])
            exact oRetZ X hx hlk hret (hb hby at_275) (Or.inr rfl) (by rw [e0]; exact ⟨rfl, K.fr⟩) (by decide) (by decide)
          by_cases hc183 : i1 = i2
          · refine oWk.st (fun _ kt => XS.icmpNo X.here hx rfl (hb hby at_183) rfl (teq hc183).2 kt) ?_
            show oWk _ _ _ _ T (mkF m 186 #[iv p0, iv p1, iv p2, iv p3, iv p4, iv i1, iv i2, iv l1, iv f1, iv t1, iv l2, iv f2, iv t2, rv ea, rv eb, uu] [])
            refine oWk.st (fun _ kt => XS.iload X.here hx rfl (hb hby at_186) rfl (XS.iload X.here hx rfl (hb hby at_188) rfl kt)) ?_
            show oWk _ _ _ _ T (mkF m 190 #[iv p0, iv p1, iv p2, iv p3, iv p4, iv i1, iv i2, iv l1, iv f1, iv t1, iv l2, iv f2, iv t2, rv ea, rv eb, uu] [(.int l2), (.int l1)])
            by_cases hc190 : l1 = l2
            · refine oWk.st (fun _ kt => XS.icmpNo X.here hx rfl (hb hby at_190) rfl (teq hc190).2 kt) ?_
              show oWk _ _ _ _ T (mkF m 193 #[iv p0, iv p1, iv p2, iv p3, iv p4, iv i1, iv i2, iv l1, iv f1, iv t1, iv l2, iv f2, iv t2, rv ea, rv eb, uu] [])
              refine oWk.st (fun _ kt => XS.iload X.here hx rfl (hb hby at_193) rfl (XS.iload X.here hx rfl (hb hby at_195) rfl kt)) ?_
              show oWk _ _ _ _ T (mkF m 197 #[iv p0, iv p1, iv p2, iv p3, iv p4, iv i1, iv i2, iv l1, iv f1, iv t1, iv l2, iv f2, iv t2, rv ea, rv eb, uu] [(.int f2), (.int f1)])
              by_cases hc197 : f1 = f2
              · refine oWk.st (fun _ kt => XS.icmpNo X.here hx rfl (hb hby at_197) rfl (teq hc197).2 kt) ?_
                show oWk _ _ _ _ T (mkF m 200 #[iv p0, iv p1, iv p2, iv p3, iv p4, iv i1, iv i2, iv l1, iv f1, iv t1, iv l2, iv f2, iv t2, rv ea, rv eb, uu] [])
                refine oWk.st (fun _ kt => XS.iload X.here hx rfl (hb hby at_200) rfl (XS.iload X.here hx rfl (hb hby at_202) rfl kt)) ?_
                show oWk _ _ _ _ T (mkF m 204 #[iv p0, iv p1, iv p2, iv p3, iv p4, iv i1, iv i2, iv l1, iv f1, iv t1, iv l2, iv f2, iv t2, rv ea, rv eb, uu] [(.int t2), (.int t1)])
                by_cases hc204 : t1 = t2
                · refine oWk.st (fun _ kt => XS.icmpNo X.here hx rfl (hb hby at_204) rfl (teq hc204).2 kt) ?_
                  show oWk _ _ _ _ T (mkF m 207 #[iv p0, iv p1, iv p2, iv p3, iv p4, iv i1, iv i2, iv l1, iv f1, iv t1, iv l2, iv f2, iv t2, rv ea, rv eb, uu] [])
                  refine oWk.st (fun _ kt => XS.iconst X.here hx rfl (hb hby at_207) (XS.goto X.here hx rfl (pc0 := 208) (pc' := 212) rfl (hb hby at_208) (by decide) (by decide) kt)) ?_
                  show oWk _ _ _ _ T (mkF m 212 #[iv p0, iv p1, iv p2, iv p3, iv p4, iv i1, iv i2, iv l1, iv f1, iv t1, iv l2, iv f2, iv t2, rv ea, rv eb, uu] [(.int 1)])
                  exact J212 _ (by rw [oBi_t ⟨hc183, hc190, hc197, hc204⟩])
                · refine oWk.st (fun _ kt => XS.icmpYes X.here hx rfl (pc0 := 204) (pc' := 211) rfl (hb hby at_204) rfl (feq hc204).2 (by decide) (by decide) kt) ?_
                  show oWk _ _ _ _ T (mkF m 211 #[iv p0, iv p1, iv p2, iv p3, iv p4, iv i1, iv i2, iv l1, iv f1, iv t1, iv l2, iv f2, iv t2, rv ea, rv eb, uu] [])
                  refine oWk.st (fun _ kt => XS.iconst X.here hx rfl (hb hby at_211) kt) ?_
                  show oWk _ _ _ _ T (mkF m 212 #[iv p0, iv p1, iv p2, iv p3, iv p4, iv i1, iv i2, iv l1, iv f1, iv t1, iv l2, iv f2, iv t2, rv ea, rv eb, uu] [(.int 0)])
                  exact J212 _ (by rw [oBi_f (fun q => hc204 q.2.2.2)])
              · refine oWk.st (fun _ kt => XS.icmpYes X.here hx rfl (pc0 := 197) (pc' := 211) rfl (hb hby at_197) rfl (feq hc197).2 (by decide) (by decide) kt) ?_
                show oWk _ _ _ _ T (mkF m 211 #[iv p0, iv p1, iv p2, iv p3, iv p4, iv i1, iv i2, iv l1, iv f1, iv t1, iv l2, iv f2, iv t2, rv ea, rv eb, uu] [])
                refine oWk.st (fun _ kt => XS.iconst X.here hx rfl (hb hby at_211) kt) ?_
                show oWk _ _ _ _ T (mkF m 212 #[iv p0, iv p1, iv p2, iv p3, iv p4, iv i1, iv i2, iv l1, iv f1, iv t1, iv l2, iv f2, iv t2, rv ea, rv eb, uu] [(.int 0)])
                exact J212 _ (by rw [oBi_f (fun q => hc197 q.2.2.1)])
            · refine oWk.st (fun _ kt => XS.icmpYes X.here hx rfl (pc0 := 190) (pc' := 211) rfl (hb hby at_190) rfl (feq hc190).2 (by decide) (by decide) kt) ?_
              show oWk _ _ _ _ T (mkF m 211 #[iv p0, iv p1, iv p2, iv p3, iv p4, iv i1, iv i2, iv l1, iv f1, iv t1, iv l2, iv f2, iv t2, rv ea, rv eb, uu] [])
              refine oWk.st (fun _ kt => XS.iconst X.here hx rfl (hb hby at_211) kt) ?_
              show oWk _ _ _ _ T (mkF m 212 #[iv p0, iv p1, iv p2, iv p3, iv p4, iv i1, iv i2, iv l1, iv f1, iv t1, iv l2, iv f2, iv t2, rv ea, rv eb, uu] [(.int 0)])
              exact J212 _ (by rw [oBi_f (fun q => hc190 q.2.1)])
          · refine oWk.st (fun _ kt => XS.icmpYes X.here hx rfl (pc0 := 183) (pc' := 211) rfl (hb hby at_183) rfl (feq hc183).2 (by decide) (by decide) kt) ?_
            show oWk _ _ _ _ T (mkF m 211 #[iv p0, iv p1, iv p2, iv p3, iv p4, iv i1, iv i2, iv l1, iv f1, iv t1, iv l2, iv f2, iv t2, rv ea, rv eb, uu] [])
            refine oWk.st (fun _ kt => XS.iconst X.here hx rfl (hb hby at_211) kt) ?_
            show oWk _ _ _ _ T (mkF m 212 #[iv p0, iv p1, iv p2, iv p3, iv p4, iv i1, iv i2, iv l1, iv f1, iv t1, iv l2, iv f2, iv t2, rv ea, rv eb, uu] [(.int 0)])
            exact J212 _ (by rw [oBi_f (fun q => hc183 q.1)])
        by_cases hc103 : (p4 &&& (8 : Int32)) = (0 : Int32)
        · refine oWk.st (fun _ kt => XS.ifYes X.here hx rfl (pc0 := 103) (pc' := 117) rfl (hb hby at_103) rfl ((if0 _ _).trans (teq hc103).1) (by decide) (by decide) kt) ?_
          show oWk _ _ _ _ T (mkF m 117 #[iv p0, iv p1, iv p2, iv p3, iv p4, iv i1, iv i2, iv l1, iv f1, iv t1, iv l2, iv f2, uu, uu, uu, uu] [])
          refine oWk.st (fun _ kt => XS.iload X.here hx rfl (hb hby at_117) rfl kt) ?_
          show oWk _ _ _ _ T (mkF m 119 #[iv p0, iv p1, iv p2, iv p3, iv p4, iv i1, iv i2, iv l1, iv f1, iv t1, iv l2, iv f2, uu, uu, uu, uu] [(.int t1)])
          exact J119 _ ht1
        · refine oWk.st (fun _ kt => XS.ifNo X.here hx rfl (hb hby at_103) rfl ((if0 _ _).trans (feq hc103).1) kt) ?_
          show oWk _ _ _ _ T (mkF m 106 #[iv p0, iv p1, iv p2, iv p3, iv p4, iv i1, iv i2, iv l1, iv f1, iv t1, iv l2, iv f2, uu, uu, uu, uu] [])
          refine oWk.st (fun _ kt => XS.iloadN X.here hx rfl (hb hby at_106) rfl (XS.bipush X.here hx rfl (hb hby at_107) (XS.iushr X.here hx rfl (hb hby at_109) rfl (XS.sipush X.here hx rfl (hb hby at_110) (XS.iand X.here hx rfl (hb hby at_113) rfl (XS.goto X.here hx rfl (pc0 := 114) (pc' := 119) rfl (hb hby at_114) (by decide) (by decide) kt)))))) ?_
          show oWk _ _ _ _ T (mkF m 119 #[iv p0, iv p1, iv p2, iv p3, iv p4, iv i1, iv i2, iv l1, iv f1, iv t1, iv l2, iv f2, uu, uu, uu, uu] [(.int (((p3.toUInt32 >>> ((16 : Int32) &&& 31).toUInt32).toInt32) &&& (255 : Int32)))])
          exact J119 _ (oM255 _)
      by_cases hc80 : (p4 &&& (4 : Int32)) = (0 : Int32)
      · refine oWk.st (fun _ kt => XS.ifYes X.here hx rfl (pc0 := 80) (pc' := 94) rfl (hb hby at_80) rfl ((if0 _ _).trans (teq hc80).1) (by decide) (by decide) kt) ?_
        show oWk _ _ _ _ T (mkF m 94 #[iv p0, iv p1, iv p2, iv p3, iv p4, iv i1, iv i2, iv l1, iv f1, iv t1, iv l2, uu, uu, uu, uu, uu] [])
        refine oWk.st (fun _ kt => XS.iload X.here hx rfl (hb hby at_94) rfl kt) ?_
        show oWk _ _ _ _ T (mkF m 96 #[iv p0, iv p1, iv p2, iv p3, iv p4, iv i1, iv i2, iv l1, iv f1, iv t1, iv l2, uu, uu, uu, uu, uu] [(.int f1)])
        exact J96 _ hf1
      · refine oWk.st (fun _ kt => XS.ifNo X.here hx rfl (hb hby at_80) rfl ((if0 _ _).trans (feq hc80).1) kt) ?_
        show oWk _ _ _ _ T (mkF m 83 #[iv p0, iv p1, iv p2, iv p3, iv p4, iv i1, iv i2, iv l1, iv f1, iv t1, iv l2, uu, uu, uu, uu, uu] [])
        refine oWk.st (fun _ kt => XS.iloadN X.here hx rfl (hb hby at_83) rfl (XS.bipush X.here hx rfl (hb hby at_84) (XS.iushr X.here hx rfl (hb hby at_86) rfl (XS.sipush X.here hx rfl (hb hby at_87) (XS.iand X.here hx rfl (hb hby at_90) rfl (XS.goto X.here hx rfl (pc0 := 91) (pc' := 96) rfl (hb hby at_91) (by decide) (by decide) kt)))))) ?_
        show oWk _ _ _ _ T (mkF m 96 #[iv p0, iv p1, iv p2, iv p3, iv p4, iv i1, iv i2, iv l1, iv f1, iv t1, iv l2, uu, uu, uu, uu, uu] [(.int (((p3.toUInt32 >>> ((8 : Int32) &&& 31).toUInt32).toInt32) &&& (255 : Int32)))])
        exact J96 _ (oM255 _)
    by_cases hc61 : (p4 &&& (2 : Int32)) = (0 : Int32)
    · refine oWk.st (fun _ kt => XS.ifYes X.here hx rfl (pc0 := 61) (pc' := 72) rfl (hb hby at_61) rfl ((if0 _ _).trans (teq hc61).1) (by decide) (by decide) kt) ?_
      show oWk _ _ _ _ T (mkF m 72 #[iv p0, iv p1, iv p2, iv p3, iv p4, iv i1, iv i2, iv l1, iv f1, iv t1, uu, uu, uu, uu, uu, uu] [])
      refine oWk.st (fun _ kt => XS.iload X.here hx rfl (hb hby at_72) rfl kt) ?_
      show oWk _ _ _ _ T (mkF m 74 #[iv p0, iv p1, iv p2, iv p3, iv p4, iv i1, iv i2, iv l1, iv f1, iv t1, uu, uu, uu, uu, uu, uu] [(.int l1)])
      exact J74 _ hl1
    · refine oWk.st (fun _ kt => XS.ifNo X.here hx rfl (hb hby at_61) rfl ((if0 _ _).trans (feq hc61).1) kt) ?_
      show oWk _ _ _ _ T (mkF m 64 #[iv p0, iv p1, iv p2, iv p3, iv p4, iv i1, iv i2, iv l1, iv f1, iv t1, uu, uu, uu, uu, uu, uu] [])
      refine oWk.st (fun _ kt => XS.iloadN X.here hx rfl (hb hby at_64) rfl (XS.sipush X.here hx rfl (hb hby at_65) (XS.iand X.here hx rfl (hb hby at_68) rfl (XS.goto X.here hx rfl (pc0 := 69) (pc' := 74) rfl (hb hby at_69) (by decide) (by decide) kt)))) ?_
      show oWk _ _ _ _ T (mkF m 74 #[iv p0, iv p1, iv p2, iv p3, iv p4, iv i1, iv i2, iv l1, iv f1, iv t1, uu, uu, uu, uu, uu, uu] [(.int (p3 &&& (255 : Int32)))])
      exact J74 _ (oM255 _)
  by_cases hc13 : (p4 &&& (1 : Int32)) = (0 : Int32)
  · refine oWk.st (fun _ kt => XS.ifYes X.here hx rfl (pc0 := 13) (pc' := 26) rfl (hb hby at_13) rfl ((if0 _ _).trans (teq hc13).1) (by decide) (by decide) kt) ?_
    show oWk _ _ _ _ T (mkF m 26 #[iv p0, iv p1, iv p2, iv p3, iv p4, iv i1, uu, uu, uu, uu, uu, uu, uu, uu, uu, uu] [])
    refine oWk.st (fun _ kt => XS.iload X.here hx rfl (hb hby at_26) rfl kt) ?_
    show oWk _ _ _ _ T (mkF m 28 #[iv p0, iv p1, iv p2, iv p3, iv p4, iv i1, uu, uu, uu, uu, uu, uu, uu, uu, uu, uu] [(.int i1)])
    exact J28 _ hr1
  · refine oWk.st (fun _ kt => XS.ifNo X.here hx rfl (hb hby at_13) rfl ((if0 _ _).trans (feq hc13).1) kt) ?_
    show oWk _ _ _ _ T (mkF m 16 #[iv p0, iv p1, iv p2, iv p3, iv p4, iv i1, uu, uu, uu, uu, uu, uu, uu, uu, uu, uu] [])
    refine oWk.st (fun _ kt => XS.iloadN X.here hx rfl (hb hby at_16) rfl kt) ?_
    refine oWk.st (fun _ kt => X.ldcI hx hown (mvT hZ (oW hw 0 rfl)) rfl (hb hby at_17) (XS.iand X.here hx rfl (hb hby at_19) rfl (XS.bipush X.here hx rfl (hb hby at_20) (iremM X hx rfl (hb hby at_22) rfl (by decide) (XS.goto X.here hx rfl (pc0 := 23) (pc' := 28) rfl (hb hby at_23) (by decide) (by decide) kt))))) ?_
    show oWk _ _ _ _ T (mkF m 28 #[iv p0, iv p1, iv p2, iv p3, iv p4, iv i1, uu, uu, uu, uu, uu, uu, uu, uu, uu, uu] [(.int ((p1 &&& (2147483647 : Int32)) % (10 : Int32)))])
    exact J28 _ (oR10 _)
theorem comes_1 {Post : Tables → Env → Array Value → State → Outcome → State → Prop} (hpost : ∀ tb e args s v u, (limb_1_1.after args s (.returned v) u = true ∧ limb_1_2.after args s (.returned v) u = true ∧ True) → FrameEnd s (.returned v) u (Jvm.fieldLocs frame_1_writes args s ++ Jvm.arrayLocs frame_1_arrays args s ++ Jvm.staticLocs frame_1_statics s) 40 192 → Post tb e args s (.returned v) u) :
    ArmFor flags0 classFile x code maxLocals ret World_1 tables_1 room_1 Calls_1 rest_1 Pre_1 Post := by
  intro l hfl _ _ p e ha hc hk s m args below hf hA hF happ hP
  obtain ⟨hcalls, hrest, hpre⟩ := hP
  obtain ⟨-, -, -, hnamed, -, -, -, hat⟩ := (Spec.applies_iff hf).mp happ
  obtain ⟨hg, hn⟩ := and_e (Cond.before_iff.mp (show (Jvm.Cond.and given_1 narrow_1).before args s = true from hpre))
  obtain ⟨n1, n2⟩ := and_e hg
  obtain ⟨n3, n4⟩ := and_e n2
  obtain ⟨n5, n6⟩ := and_e n4
  obtain ⟨n7, n8⟩ := and_e n6
  obtain ⟨n9, n10⟩ := and_e n8
  obtain ⟨w0, w1, w2, w3, w4, rfl⟩ : ∃ w0 w1 w2 w3 w4 : Value, args = #[w0, w1, w2, w3, w4] := by
    have hs : args.size = 5 := by simpa [Cond.value, given_1] using n1
    obtain ⟨L⟩ := args
    match L, hs with
    | [w0, w1, w2, w3, w4], _ => exact ⟨w0, w1, w2, w3, w4, rfl⟩
  have hw := fun d (hd : d ∈ tables_1) => atoms_spec (ws := Jvm.Cond.code x code maxLocals ret :: tables_1) hat d (List.mem_cons_of_mem _ hd)
  have hfit : Fit s := fun {y c} hc i hi => by
    obtain ⟨ha, rfl⟩ := Array.getElem?_eq_some_iff.mp hc
    have q := List.all_eq_true.mp ((Array.all_eq_true_iff_forall_mem.mp hF) _ (Array.getElem_mem ha)) i (List.mem_range.mpr hi)
    simpa [Array.getElem?_eq_getElem hi] using q
  obtain ⟨hsets, hown0⟩ := atoms_of _ (rest_1_c_eq ▸ (show rest_1_c.before _ s = true from hrest))
  have hr0 := Cond.before_iff.mp hown0
  obtain ⟨i0, ei0⟩ := is_v n3
  obtain rfl : w0 = (.int i0) := Option.some.inj ei0
  obtain ⟨i1, ei1⟩ := is_v n5
  obtain rfl : w1 = (.int i1) := Option.some.inj ei1
  obtain ⟨i2, ei2⟩ := is_v n7
  obtain rfl : w2 = (.int i2) := Option.some.inj ei2
  obtain ⟨i3, ei3⟩ := is_v n9
  obtain rfl : w3 = (.int i3) := Option.some.inj ei3
  obtain ⟨i4, ei4⟩ := is_v n10
  obtain rfl : w4 = (.int i4) := Option.some.inj ei4
  obtain ⟨n11, n12⟩ := and_e hn
  obtain ⟨n13, n14⟩ := and_e n12
  obtain ⟨n15, n16⟩ := and_e n14
  obtain ⟨n17, n18⟩ := and_e n16
  obtain ⟨n19, n20⟩ := and_e n18
  obtain ⟨n21, n22⟩ := and_e n20
  obtain ⟨n23, n24⟩ := and_e n22
  obtain ⟨n25, n26⟩ := and_e n24
  obtain ⟨n27, n28⟩ := and_e n26
  obtain ⟨n29, n30⟩ := and_e n28
  obtain ⟨n31, n32⟩ := and_e n30
  obtain ⟨n33, n34⟩ := and_e n32
  obtain ⟨n35, n36⟩ := and_e n34
  obtain ⟨n37, n38⟩ := and_e n36
  obtain ⟨n39, n40⟩ := and_e n38
  obtain ⟨n41, n42⟩ := and_e n40
  obtain ⟨n43, n44⟩ := and_e n42
  obtain ⟨n45, n46⟩ := and_e n44
  obtain ⟨n47, n48⟩ := and_e n46
  obtain ⟨m_NEW_49, v_m_NEW_49⟩ := exa_v n11
  have E_m_NEW_49 := Exa.start v_m_NEW_49 n11
  have S_m_NEW_49 := Sta.start v_m_NEW_49 (Or.inr ⟨(oW hw 9 rfl), (oW hw 10 rfl)⟩)
  obtain ⟨m_RETURN_50, v_m_RETURN_50⟩ := exa_v n13
  have E_m_RETURN_50 := Exa.start v_m_RETURN_50 n13
  have S_m_RETURN_50 := Sta.start v_m_RETURN_50 (Or.inr ⟨(oW hw 9 rfl), (oW hw 70 rfl)⟩)
  obtain ⟨m_PUTFIELD_51, v_m_PUTFIELD_51⟩ := exa_v n15
  have E_m_PUTFIELD_51 := Exa.start v_m_PUTFIELD_51 n15
  have S_m_PUTFIELD_51 := Sta.start v_m_PUTFIELD_51 (Or.inr ⟨(oW hw 9 rfl), (oW hw 72 rfl)⟩)
  have F_ordinal_52 := oFldI v_m_RETURN_50 n17
  have F_ordinal_53 := oFldI v_m_PUTFIELD_51 n19
  obtain ⟨m_CALL_54, v_m_CALL_54⟩ := exa_v n21
  have E_m_CALL_54 := Exa.start v_m_CALL_54 n21
  have S_m_CALL_54 := Sta.start v_m_CALL_54 (Or.inr ⟨(oW hw 9 rfl), (oW hw 74 rfl)⟩)
  obtain ⟨m_PUTSTATIC_55, v_m_PUTSTATIC_55⟩ := exa_v n23
  have E_m_PUTSTATIC_55 := Exa.start v_m_PUTSTATIC_55 n23
  have S_m_PUTSTATIC_55 := Sta.start v_m_PUTSTATIC_55 (Or.inr ⟨(oW hw 9 rfl), (oW hw 76 rfl)⟩)
  have F_ordinal_56 := oFldI v_m_CALL_54 n25
  have F_ordinal_57 := oFldI v_m_PUTSTATIC_55 n27
  obtain ⟨m_ASSIGN_58, v_m_ASSIGN_58⟩ := exa_v n29
  have E_m_ASSIGN_58 := Exa.start v_m_ASSIGN_58 n29
  have S_m_ASSIGN_58 := Sta.start v_m_ASSIGN_58 (Or.inr ⟨(oW hw 9 rfl), (oW hw 78 rfl)⟩)
  have F_ordinal_59 := oFldI v_m_NEW_49 n31
  have F_ordinal_60 := oFldI v_m_ASSIGN_58 n33
  obtain ⟨m_GETFIELD_61, v_m_GETFIELD_61⟩ := exa_v n35
  have E_m_GETFIELD_61 := Exa.start v_m_GETFIELD_61 n35
  have S_m_GETFIELD_61 := Sta.start v_m_GETFIELD_61 (Or.inr ⟨(oW hw 9 rfl), (oW hw 80 rfl)⟩)
  obtain ⟨m_GETSTATIC_62, v_m_GETSTATIC_62⟩ := exa_v n37
  have E_m_GETSTATIC_62 := Exa.start v_m_GETSTATIC_62 n37
  have S_m_GETSTATIC_62 := Sta.start v_m_GETSTATIC_62 (Or.inr ⟨(oW hw 9 rfl), (oW hw 82 rfl)⟩)
  have F_ordinal_63 := oFldI v_m_GETSTATIC_62 n39
  obtain ⟨m_INCOMING_64, v_m_INCOMING_64⟩ := exa_v n41
  have E_m_INCOMING_64 := Exa.start v_m_INCOMING_64 n41
  have S_m_INCOMING_64 := Sta.start v_m_INCOMING_64 (Or.inr ⟨(oW hw 9 rfl), (oW hw 84 rfl)⟩)
  have F_ordinal_65 := oFldI v_m_INCOMING_64 n43
  obtain ⟨m_ESCAPE_66, v_m_ESCAPE_66⟩ := exa_v n45
  have E_m_ESCAPE_66 := Exa.start v_m_ESCAPE_66 n45
  have S_m_ESCAPE_66 := Sta.start v_m_ESCAPE_66 (Or.inr ⟨(oW hw 9 rfl), (oW hw 86 rfl)⟩)
  have F_ordinal_67 := oFldI v_m_ESCAPE_66 n47
  have F_ordinal_68 := oFldI v_m_GETFIELD_61 n48
  obtain ⟨kd, hkd⟩ : ∃ f : Int32 → Addr, f = fun i => if i = 0 then m_NEW_49 else if i = 1 then m_ASSIGN_58 else if i = 2 then m_CALL_54 else if i = 3 then m_RETURN_50 else if i = 4 then m_PUTFIELD_51 else if i = 5 then m_GETFIELD_61 else if i = 6 then m_PUTSTATIC_55 else if i = 7 then m_GETSTATIC_62 else if i = 8 then m_ESCAPE_66 else m_INCOMING_64 := ⟨_, rfl⟩
  have kd0 : kd 0 = m_NEW_49 := by rw [hkd]; rfl
  rw [← kd0] at S_m_NEW_49 F_ordinal_59
  have kd1 : kd 1 = m_ASSIGN_58 := by rw [hkd]; rfl
  rw [← kd1] at S_m_ASSIGN_58 F_ordinal_60
  have kd2 : kd 2 = m_CALL_54 := by rw [hkd]; rfl
  rw [← kd2] at S_m_CALL_54 F_ordinal_56
  have kd3 : kd 3 = m_RETURN_50 := by rw [hkd]; rfl
  rw [← kd3] at S_m_RETURN_50 F_ordinal_52
  have kd4 : kd 4 = m_PUTFIELD_51 := by rw [hkd]; rfl
  rw [← kd4] at S_m_PUTFIELD_51 F_ordinal_53
  have kd5 : kd 5 = m_GETFIELD_61 := by rw [hkd]; rfl
  rw [← kd5] at S_m_GETFIELD_61 F_ordinal_68
  have kd6 : kd 6 = m_PUTSTATIC_55 := by rw [hkd]; rfl
  rw [← kd6] at S_m_PUTSTATIC_55 F_ordinal_57
  have kd7 : kd 7 = m_GETSTATIC_62 := by rw [hkd]; rfl
  rw [← kd7] at S_m_GETSTATIC_62 F_ordinal_63
  have kd8 : kd 8 = m_ESCAPE_66 := by rw [hkd]; rfl
  rw [← kd8] at S_m_ESCAPE_66 F_ordinal_67
  have kd9 : kd 9 = m_INCOMING_64 := by rw [hkd]; rfl
  rw [← kd9] at S_m_INCOMING_64 F_ordinal_65
  have kf : ∀ i : Int32, 0 ≤ i.toInt ∧ i.toInt < 10 → Fld s s.heap (kd i) "java/lang/Enum" "ordinal" "I" (.int i) := fun i hi => by
    have c : i = 0 ∨ i = 1 ∨ i = 2 ∨ i = 3 ∨ i = 4 ∨ i = 5 ∨ i = 6 ∨ i = 7 ∨ i = 8 ∨ i = 9 := by
      have e : ∀ j : Int32, i.toInt = j.toInt → i = j := fun j q => Int32.toInt_inj.mp q
      have d : i.toInt = 0 ∨ i.toInt = 1 ∨ i.toInt = 2 ∨ i.toInt = 3 ∨ i.toInt = 4 ∨ i.toInt = 5 ∨ i.toInt = 6 ∨ i.toInt = 7 ∨ i.toInt = 8 ∨ i.toInt = 9 := by omega
      exact d.imp (e 0) (Or.imp (e 1) (Or.imp (e 2) (Or.imp (e 3) (Or.imp (e 4) (Or.imp (e 5) (Or.imp (e 6) (Or.imp (e 7) (Or.imp (e 8) (e 9)))))))))
    rcases c with rfl | rfl | rfl | rfl | rfl | rfl | rfl | rfl | rfl | rfl
    · exact F_ordinal_59
    · exact F_ordinal_60
    · exact F_ordinal_56
    · exact F_ordinal_52
    · exact F_ordinal_53
    · exact F_ordinal_68
    · exact F_ordinal_57
    · exact F_ordinal_63
    · exact F_ordinal_67
    · exact F_ordinal_65
  have ko : ∀ i j : Int32, 0 ≤ i.toInt ∧ i.toInt < 10 → 0 ≤ j.toInt ∧ j.toInt < 10 → (kd i = kd j ↔ i = j) := fun i j hi hj => ⟨fun q => Decidable.byContradiction fun n => Fld.ne (kf i hi) (kf j hj) (fun z => n (Value.int.inj z)) q, fun q => by rw [q]⟩
  obtain ⟨xz, vz⟩ := is_v (Cond.before_iff.mp (hsets _ (List.mem_of_getElem? (i := 1) rfl)))
  have S_Z := Sta.start vz (Or.inl (hsets _ (List.mem_of_getElem? (i := 0) rfl)))
  have hz : ¬ xz = (0 : Int32) := oNot0 vz (Cond.before_iff.mp (hsets _ (List.mem_of_getElem? (i := 2) rfl)))
  obtain ⟨n, o, h1, h2, h3, _, L, rfl, ⟨rfl, N⟩, hq⟩ := rLaw l s _ hw tables_1 i0 i1 i2 i3 i4 kd xz s.heap (oExtRefl _) S_m_NEW_49 S_m_ASSIGN_58 S_m_CALL_54 S_m_RETURN_50 S_m_PUTFIELD_51 S_m_GETFIELD_61 S_m_PUTSTATIC_55 S_m_GETSTATIC_62 S_m_ESCAPE_66 S_m_INCOMING_64 ko S_Z hz p e ha hc hk s m _ below hf ((Spec.applies_iff_loose hf).mp happ).1 ⟨rfl, State.Warmed39.refl s, rfl⟩ trivial
  refine ⟨n, _, h1, h2, h3, hpost _ _ _ _ _ _ ⟨Cond.after_iff.mpr rfl, Cond.after_iff.mpr (eq_i res_at (Term.int_eval (1)) rfl), trivial⟩ ⟨hq.1, hq.2.1, (hq.2.2.sift fun y hy => Or.inr (N y hy)).mono (by decide) (by decide)⟩⟩
theorem main_1_1 : Claimed_1_1 := comes_1 fun _ _ _ _ _ _ h hF => ⟨h.1, hF⟩
theorem main_1_2 : Claimed_1_2 := comes_1 fun _ _ _ _ _ _ h hF => ⟨h.2.1, hF⟩
end Jvm.Pilot.@@N@@
namespace Jvm.Pilot.@@N@@
open Jvm Jvm.ClassFile Sem Op Lib Jvm.Free Jvm.Stand Jvm.Pilot.@@N@@.Jvm.D
/-! MADE BY PROGRAM (witnessworld.py) out of the Statement's table words and the real class files: 19 classes; the members and pool entries that the words name. The judged class is class 1, her method 3. -/
namespace start1
open Jvm.ClassFile
def u (s : String) : CpInfo := .utf8 (stringToUtf16 s)
/-- a pool by its gaps: so many unusable entries, then the entry; so many at the end -/
def gap : Nat → List CpInfo → List CpInfo
  | 0, r => r
  | n + 1, r => .unusable :: gap n r
def poolList (es : List (Nat × CpInfo)) (last : Nat) : List CpInfo := es.foldr (fun e r => gap e.1 (e.2 :: r)) (gap last [])
def pool (es : List (Nat × CpInfo)) (last : Nat) : Array CpInfo := ⟨poolList es last⟩
def fileOf (pool : Array CpInfo) (this : Nat) (attrs : Array Attribute := #[]) (ms : Array MethodInfo := #[]) (fl : Nat := 33) (sup : Nat := 0) (ifs : Array Nat := #[]) (fds : Array FieldInfo := #[]) : ClassFile where
  minorVersion := 0
  majorVersion := 65
  constantPool := pool
  accessFlags := fl
  thisClass := this
  superClass := sup
  interfaces := ifs
  fields := fds
  methods := ms
  attributes := attrs
def plain (name : String) (sup : Option ClassId) : Class where
  name := name
  kind := .ordinary
  loader := none
  accessFlags := 33
  super := sup
  interfaces := #[]
  cf := none
  fields := #[]
  methods := #[]
  instanceTypes := #[]
  staticTypes := #[]
  resolved := #[]
  callSites := []
  init := .initialized
  statics := none
  mirror := none

def pool0 : Array CpInfo := pool [(5, u "<init>"), (0, u "()V"), (1, .class_ 10), (1, u "java/lang/Object")] 113

def k0c0 : Code := { maxStack := 0, maxLocals := 1, code := object_method_1_code, exceptionTable := #[], attributes := #[] }
def k0m0 : Method := { name := "<init>", desc := "()V", sig := { parameters := [], returnType := none }, accessFlags := 1, code := some k0c0 }
/-- java/lang/Object -/
def k0 : Class := { plain "java/lang/Object" none with
  accessFlags := 33
  interfaces := #[]
  cf := some (fileOf pool0 8 #[] #[{ accessFlags := 1, nameIndex := 5, descriptorIndex := 6, attributes := #[] }] 33 0 #[] #[])
  fields := #[]
  methods := #[k0m0]
  instanceTypes := #[]
  staticTypes := #[]
  resolved := Array.replicate 124 none
  statics := none }

def pool1 : Array CpInfo := pool [(2, .class_ 4), (1, u "java/lang/Object"), (0, u "<init>"), (0, u "()V"), (0, .fieldref 8 9), (0, .class_ 10), (0, .nameAndType 11 12), (0, u "com/example/tributary/tributary/flow/FlowEvent$Kind"), (0, u "NEW"), (0, u "Lcom/example/tributary/tributary/flow/FlowEvent$Kind;"), (0, .fieldref 8 14), (0, .nameAndType 15 12), (0, u "ASSIGN"), (0, .fieldref 8 17), (0, .nameAndType 18 12), (0, u "CALL"), (0, .fieldref 8 20), (0, .nameAndType 21 12), (0, u "RETURN"), (0, .fieldref 8 23), (0, .nameAndType 24 12), (0, u "PUTFIELD"), (0, .fieldref 8 26), (0, .nameAndType 27 12), (0, u "GETFIELD"), (0, .fieldref 8 29), (0, .nameAndType 30 12), (0, u "PUTSTATIC"), (0, .fieldref 8 32), (0, .nameAndType 33 12), (0, u "GETSTATIC"), (0, .fieldref 8 35), (0, .nameAndType 36 12), (0, u "ESCAPE"), (0, .fieldref 8 38), (0, .nameAndType 39 12), (0, u "INCOMING"), (0, .methodref 41 42), (0, .class_ 43), (0, .nameAndType 44 45), (0, u "java/lang/String"), (0, u "valueOf"), (0, u "(C)Ljava/lang/String;"), (0, .integer 2147483647), (0, .class_ 48), (0, u "com/example/tributary/tributary/flow/FlowEvent"), (0, .methodref 50 51), (0, .class_ 52), (0, .nameAndType 53 54), (0, u "com/example/tributary/tributary/flow/FlowEventEqualsPinLaw"), (0, u "kindOf"), (0, u "(I)Lcom/example/tributary/tributary/flow/FlowEvent$Kind;"), (0, .methodref 50 56), (0, .nameAndType 57 58), (0, u "str"), (0, u "(I)Ljava/lang/String;"), (0, .methodref 47 60), (0, .nameAndType 5 61), (0, u "(Lcom/example/tributary/tributary/flow/FlowEvent$Kind;Ljava/lang/String;Ljava/lang/String;Ljava/lang/String;)V"), (0, .methodref 47 63), (0, .nameAndType 64 65), (0, u "equals"), (0, u "(Ljava/lang/Object;)Z"), (3, u "law"), (0, u "(IIIII)Z")] 4

def k1m0 : Method := { name := "<init>", desc := "()V", sig := { parameters := [], returnType := none }, accessFlags := 1, code := none }
def k1c1 : Code := { maxStack := 2, maxLocals := 1, code := method_2_code, exceptionTable := #[], attributes := #[] }
def k1m1 : Method := { name := "kindOf", desc := "(I)Lcom/example/tributary/tributary/flow/FlowEvent$Kind;", sig := { parameters := [.int], returnType := some (.object "com/example/tributary/tributary/flow/FlowEvent$Kind") }, accessFlags := 10, code := some k1c1 }
def k1c2 : Code := { maxStack := 1, maxLocals := 1, code := method_3_code, exceptionTable := #[], attributes := #[] }
def k1m2 : Method := { name := "str", desc := "(I)Ljava/lang/String;", sig := { parameters := [.int], returnType := some (.object "java/lang/String") }, accessFlags := 10, code := some k1c2 }
def k1c3 : Code := { maxStack := 6, maxLocals := 16, code := code, exceptionTable := #[], attributes := #[] }
def k1m3 : Method := { name := "law", desc := "(IIIII)Z", sig := { parameters := [.int, .int, .int, .int, .int], returnType := some .boolean }, accessFlags := 9, code := some k1c3 }
/-- com/example/tributary/tributary/flow/FlowEventEqualsPinLaw -/
def k1 : Class := { plain "com/example/tributary/tributary/flow/FlowEventEqualsPinLaw" (some 0) with
  accessFlags := 49
  interfaces := #[]
  cf := some (fileOf pool1 50 #[] #[{ accessFlags := 1, nameIndex := 5, descriptorIndex := 6, attributes := #[] }, { accessFlags := 10, nameIndex := 53, descriptorIndex := 54, attributes := #[] }, { accessFlags := 10, nameIndex := 57, descriptorIndex := 58, attributes := #[] }, { accessFlags := 9, nameIndex := 69, descriptorIndex := 70, attributes := #[] }] 49 2 #[] #[])
  fields := #[]
  methods := #[k1m0, k1m1, k1m2, k1m3]
  instanceTypes := #[]
  staticTypes := #[]
  resolved := Array.replicate 75 none
  statics := none }

def pool2 : Array CpInfo := pool [(1, .methodref 2 3), (0, .class_ 4), (0, .nameAndType 5 6), (0, u "java/lang/Object"), (0, u "<init>"), (0, u "()V"), (0, .fieldref 8 9), (0, .class_ 10), (0, .nameAndType 11 12), (0, u "com/example/tributary/tributary/flow/FlowEvent"), (0, u "kind"), (0, u "Lcom/example/tributary/tributary/flow/FlowEvent$Kind;"), (0, .fieldref 8 14), (0, .nameAndType 15 16), (0, u "location"), (0, u "Ljava/lang/String;"), (0, .fieldref 8 18), (0, .nameAndType 19 16), (0, u "from"), (0, .fieldref 8 21), (0, .nameAndType 22 16), (0, u "to"), (0, .methodref 24 25), (0, .class_ 26), (0, .nameAndType 27 28), (0, u "java/lang/String"), (0, u "equals"), (0, u "(Ljava/lang/Object;)Z"), (14, u "(Lcom/example/tributary/tributary/flow/FlowEvent$Kind;Ljava/lang/String;Ljava/lang/String;Ljava/lang/String;)V"), (11, .class_ 56), (0, u "com/example/tributary/tributary/flow/FlowEvent$Kind")] 16

def k2c0 : Code := { maxStack := 2, maxLocals := 5, code := prog_5_method_1_code, exceptionTable := #[], attributes := #[] }
def k2m0 : Method := { name := "<init>", desc := "(Lcom/example/tributary/tributary/flow/FlowEvent$Kind;Ljava/lang/String;Ljava/lang/String;Ljava/lang/String;)V", sig := { parameters := [(.object "com/example/tributary/tributary/flow/FlowEvent$Kind"), (.object "java/lang/String"), (.object "java/lang/String"), (.object "java/lang/String")], returnType := none }, accessFlags := 0, code := some k2c0 }
def k2c1 : Code := { maxStack := 2, maxLocals := 3, code := prog_5_method_6_code, exceptionTable := #[], attributes := #[] }
def k2m1 : Method := { name := "equals", desc := "(Ljava/lang/Object;)Z", sig := { parameters := [(.object "java/lang/Object")], returnType := some .boolean }, accessFlags := 1, code := some k2c1 }
/-- com/example/tributary/tributary/flow/FlowEvent -/
def k2 : Class := { plain "com/example/tributary/tributary/flow/FlowEvent" (some 0) with
  accessFlags := 49
  interfaces := #[]
  cf := some (fileOf pool2 8 #[.nestMembers #[55]] #[{ accessFlags := 0, nameIndex := 5, descriptorIndex := 43, attributes := #[] }, { accessFlags := 1, nameIndex := 27, descriptorIndex := 28, attributes := #[] }] 49 2 #[] #[{ accessFlags := 18, nameIndex := 11, descriptorIndex := 12, attributes := #[] }, { accessFlags := 18, nameIndex := 15, descriptorIndex := 16, attributes := #[] }, { accessFlags := 18, nameIndex := 19, descriptorIndex := 16, attributes := #[] }, { accessFlags := 18, nameIndex := 22, descriptorIndex := 16, attributes := #[] }])
  fields := #[{ name := "kind", type := (.object "com/example/tributary/tributary/flow/FlowEvent$Kind"), accessFlags := 18, slot := 0, constantValue := 0 }, { name := "location", type := (.object "java/lang/String"), accessFlags := 18, slot := 1, constantValue := 0 }, { name := "from", type := (.object "java/lang/String"), accessFlags := 18, slot := 2, constantValue := 0 }, { name := "to", type := (.object "java/lang/String"), accessFlags := 18, slot := 3, constantValue := 0 }]
  methods := #[k2m0, k2m1]
  instanceTypes := #[(.object "com/example/tributary/tributary/flow/FlowEvent$Kind"), (.object "java/lang/String"), (.object "java/lang/String"), (.object "java/lang/String")]
  staticTypes := #[]
  resolved := Array.replicate 73 none
  statics := none }

def pool3 : Array CpInfo := pool [(1, .class_ 2), (0, u "java/lang/constant/Constable"), (0, .class_ 4), (0, u "java/lang/Object")] 6

/-- java/lang/constant/Constable -/
def k3 : Class := { plain "java/lang/constant/Constable" (some 0) with
  accessFlags := 1537
  interfaces := #[]
  cf := some (fileOf pool3 1 #[] #[] 1537 3 #[] #[])
  fields := #[]
  methods := #[]
  instanceTypes := #[]
  staticTypes := #[]
  resolved := Array.replicate 11 none
  statics := none }

def pool4 : Array CpInfo := pool [(1, .class_ 2), (0, u "java/lang/Comparable"), (0, .class_ 4), (0, u "java/lang/Object")] 7

/-- java/lang/Comparable -/
def k4 : Class := { plain "java/lang/Comparable" (some 0) with
  accessFlags := 1537
  interfaces := #[]
  cf := some (fileOf pool4 1 #[] #[] 1537 3 #[] #[])
  fields := #[]
  methods := #[]
  instanceTypes := #[]
  staticTypes := #[]
  resolved := Array.replicate 12 none
  statics := none }

def pool5 : Array CpInfo := pool [(1, .class_ 2), (0, u "java/io/Serializable"), (0, .class_ 4), (0, u "java/lang/Object")] 2

/-- java/io/Serializable -/
def k5 : Class := { plain "java/io/Serializable" (some 0) with
  accessFlags := 1537
  interfaces := #[]
  cf := some (fileOf pool5 1 #[] #[] 1537 3 #[] #[])
  fields := #[]
  methods := #[]
  instanceTypes := #[]
  staticTypes := #[]
  resolved := Array.replicate 7 none
  statics := none }

def pool6 : Array CpInfo := pool [(2, .class_ 4), (1, u "java/lang/Enum"), (0, u "name"), (0, u "Ljava/lang/String;"), (2, u "ordinal"), (0, u "I"), (1, .class_ 14), (1, u "java/lang/Object"), (4, u "hash"), (86, .class_ 108), (1, u "java/lang/Enum$EnumDesc"), (2, .class_ 112), (0, u "java/lang/constant/Constable"), (0, .class_ 114), (0, u "java/lang/Comparable"), (0, .class_ 116), (0, u "java/io/Serializable")] 87

/-- java/lang/Enum -/
def k6 : Class := { plain "java/lang/Enum" (some 0) with
  accessFlags := 1057
  interfaces := #[3, 4, 5]
  cf := some (fileOf pool6 2 #[.nestMembers #[106]] #[] 1057 12 #[111, 113, 115] #[{ accessFlags := 18, nameIndex := 5, descriptorIndex := 6, attributes := #[] }, { accessFlags := 18, nameIndex := 9, descriptorIndex := 10, attributes := #[] }, { accessFlags := 2, nameIndex := 19, descriptorIndex := 10, attributes := #[] }])
  fields := #[{ name := "name", type := (.object "java/lang/String"), accessFlags := 18, slot := 0, constantValue := 0 }, { name := "ordinal", type := .int, accessFlags := 18, slot := 1, constantValue := 0 }, { name := "hash", type := .int, accessFlags := 2, slot := 2, constantValue := 0 }]
  methods := #[]
  instanceTypes := #[(.object "java/lang/String"), .int, .int]
  staticTypes := #[]
  resolved := Array.replicate 204 none
  statics := none }

def pool7 : Array CpInfo := pool [(1, .class_ 2), (0, u "com/example/tributary/tributary/flow/FlowEvent$Kind"), (2, u "NEW"), (0, u "Lcom/example/tributary/tributary/flow/FlowEvent$Kind;"), (2, u "ASSIGN"), (2, u "CALL"), (2, u "RETURN"), (2, u "PUTFIELD"), (2, u "GETFIELD"), (2, u "PUTSTATIC"), (2, u "GETSTATIC"), (2, u "ESCAPE"), (2, u "INCOMING"), (2, u "$VALUES"), (0, u "[Lcom/example/tributary/tributary/flow/FlowEvent$Kind;"), (6, .class_ 46), (1, u "java/lang/Enum"), (33, .class_ 81), (0, u "com/example/tributary/tributary/flow/FlowEvent")] 2

/-- com/example/tributary/tributary/flow/FlowEvent$Kind -/
def k7 : Class := { plain "com/example/tributary/tributary/flow/FlowEvent$Kind" (some 6) with
  accessFlags := 16433
  interfaces := #[]
  cf := some (fileOf pool7 1 #[.nestHost 80] #[] 16433 44 #[] #[{ accessFlags := 16409, nameIndex := 5, descriptorIndex := 6, attributes := #[] }, { accessFlags := 16409, nameIndex := 9, descriptorIndex := 6, attributes := #[] }, { accessFlags := 16409, nameIndex := 12, descriptorIndex := 6, attributes := #[] }, { accessFlags := 16409, nameIndex := 15, descriptorIndex := 6, attributes := #[] }, { accessFlags := 16409, nameIndex := 18, descriptorIndex := 6, attributes := #[] }, { accessFlags := 16409, nameIndex := 21, descriptorIndex := 6, attributes := #[] }, { accessFlags := 16409, nameIndex := 24, descriptorIndex := 6, attributes := #[] }, { accessFlags := 16409, nameIndex := 27, descriptorIndex := 6, attributes := #[] }, { accessFlags := 16409, nameIndex := 30, descriptorIndex := 6, attributes := #[] }, { accessFlags := 16409, nameIndex := 33, descriptorIndex := 6, attributes := #[] }, { accessFlags := 4122, nameIndex := 36, descriptorIndex := 37, attributes := #[] }])
  fields := #[{ name := "NEW", type := (.object "com/example/tributary/tributary/flow/FlowEvent$Kind"), accessFlags := 16409, slot := 0, constantValue := 0 }, { name := "ASSIGN", type := (.object "com/example/tributary/tributary/flow/FlowEvent$Kind"), accessFlags := 16409, slot := 1, constantValue := 0 }, { name := "CALL", type := (.object "com/example/tributary/tributary/flow/FlowEvent$Kind"), accessFlags := 16409, slot := 2, constantValue := 0 }, { name := "RETURN", type := (.object "com/example/tributary/tributary/flow/FlowEvent$Kind"), accessFlags := 16409, slot := 3, constantValue := 0 }, { name := "PUTFIELD", type := (.object "com/example/tributary/tributary/flow/FlowEvent$Kind"), accessFlags := 16409, slot := 4, constantValue := 0 }, { name := "GETFIELD", type := (.object "com/example/tributary/tributary/flow/FlowEvent$Kind"), accessFlags := 16409, slot := 5, constantValue := 0 }, { name := "PUTSTATIC", type := (.object "com/example/tributary/tributary/flow/FlowEvent$Kind"), accessFlags := 16409, slot := 6, constantValue := 0 }, { name := "GETSTATIC", type := (.object "com/example/tributary/tributary/flow/FlowEvent$Kind"), accessFlags := 16409, slot := 7, constantValue := 0 }, { name := "ESCAPE", type := (.object "com/example/tributary/tributary/flow/FlowEvent$Kind"), accessFlags := 16409, slot := 8, constantValue := 0 }, { name := "INCOMING", type := (.object "com/example/tributary/tributary/flow/FlowEvent$Kind"), accessFlags := 16409, slot := 9, constantValue := 0 }, { name := "$VALUES", type := (.array (.object "com/example/tributary/tributary/flow/FlowEvent$Kind")), accessFlags := 4122, slot := 10, constantValue := 0 }]
  methods := #[]
  instanceTypes := #[(.object "java/lang/String"), .int, .int]
  staticTypes := #[(.object "com/example/tributary/tributary/flow/FlowEvent$Kind"), (.object "com/example/tributary/tributary/flow/FlowEvent$Kind"), (.object "com/example/tributary/tributary/flow/FlowEvent$Kind"), (.object "com/example/tributary/tributary/flow/FlowEvent$Kind"), (.object "com/example/tributary/tributary/flow/FlowEvent$Kind"), (.object "com/example/tributary/tributary/flow/FlowEvent$Kind"), (.object "com/example/tributary/tributary/flow/FlowEvent$Kind"), (.object "com/example/tributary/tributary/flow/FlowEvent$Kind"), (.object "com/example/tributary/tributary/flow/FlowEvent$Kind"), (.object "com/example/tributary/tributary/flow/FlowEvent$Kind"), (.array (.object "com/example/tributary/tributary/flow/FlowEvent$Kind"))]
  resolved := Array.replicate 84 none
  statics := some 0 }

def pool8 : Array CpInfo := pool [(2, .class_ 4), (1, u "java/lang/CharSequence"), (42, .class_ 48), (0, u "java/lang/CharSequence$1CodePointIterator"), (10, .class_ 60), (0, u "java/lang/CharSequence$1CharIterator"), (5, .class_ 67), (0, u "java/lang/Object")] 63

/-- java/lang/CharSequence -/
def k8 : Class := { plain "java/lang/CharSequence" (some 0) with
  accessFlags := 1537
  interfaces := #[]
  cf := some (fileOf pool8 2 #[.nestMembers #[47, 59]] #[] 1537 66 #[] #[])
  fields := #[]
  methods := #[]
  instanceTypes := #[]
  staticTypes := #[]
  resolved := Array.replicate 131 none
  statics := none }

def pool9 : Array CpInfo := pool [(1, .class_ 2), (0, u "java/lang/constant/ConstantDesc"), (0, .class_ 4), (0, u "java/lang/Object")] 32

/-- java/lang/constant/ConstantDesc -/
def k9 : Class := { plain "java/lang/constant/ConstantDesc" (some 0) with
  accessFlags := 1537
  interfaces := #[]
  cf := some (fileOf pool9 1 #[] #[] 1537 3 #[] #[])
  fields := #[]
  methods := #[]
  instanceTypes := #[]
  staticTypes := #[]
  resolved := Array.replicate 37 none
  statics := none }

def pool10 : Array CpInfo := pool [(1, .methodref 2 3), (0, .class_ 4), (0, .nameAndType 5 6), (0, u "java/lang/Object"), (0, u "<init>"), (0, u "()V"), (2, .fieldref 10 11), (0, .class_ 12), (0, .nameAndType 13 14), (0, u "java/lang/String"), (0, u "value"), (0, u "[B"), (0, .fieldref 10 16), (0, .nameAndType 17 18), (0, u "coder"), (0, u "B"), (2, u "hash"), (0, u "I"), (2, u "hashIsZero"), (0, u "Z"), (11, .fieldref 10 39), (0, .nameAndType 40 26), (0, u "COMPACT_STRINGS"), (12, u "toBytes"), (53, .class_ 109), (1, u "java/lang/StringLatin1"), (99, .methodref 10 210), (0, .nameAndType 5 211), (0, u "([BB)V"), (157, u "(C)Z"), (171, .methodref 107 542), (0, .nameAndType 543 544), (0, u "equals"), (0, u "([B[B)Z"), (28, u "(Ljava/lang/Object;)Z"), (1, .class_ 576), (0, u "java/lang/CharSequence"), (22, u "CASE_INSENSITIVE_ORDER"), (0, u "Ljava/util/Comparator;"), (181, u "valueOf"), (0, u "(C)Ljava/lang/String;"), (231, .methodref 107 1016), (0, .nameAndType 1017 369), (0, u "canEncode"), (0, .methodref 107 1019), (0, .nameAndType 53 1020), (0, u "(C)[B"), (80, u "serialPersistentFields"), (0, u "[Ljava/io/ObjectStreamField;"), (0, .class_ 1104), (0, u "java/lang/String$CaseInsensitiveComparator"), (1, .class_ 1107), (0, u "java/io/Serializable"), (0, .class_ 1109), (0, u "java/lang/Comparable"), (0, .class_ 1111), (0, u "java/lang/constant/Constable"), (0, .class_ 1113), (0, u "java/lang/constant/ConstantDesc"), (2, u "serialVersionUID"), (0, u "J"), (3, u "REPL"), (0, u "C"), (2, u "LATIN1"), (1, u "UTF16")] 323

def k10m0 : Method := { name := "<init>", desc := "()V", sig := { parameters := [], returnType := none }, accessFlags := 1, code := none }
def k10c1 : Code := { maxStack := 2, maxLocals := 3, code := jdk_42_method_66_code, exceptionTable := #[], attributes := #[] }
def k10m1 : Method := { name := "equals", desc := "(Ljava/lang/Object;)Z", sig := { parameters := [(.object "java/lang/Object")], returnType := some .boolean }, accessFlags := 1, code := some k10c1 }
def k10c2 : Code := { maxStack := 4, maxLocals := 1, code := jdk_42_method_139_code, exceptionTable := #[], attributes := #[] }
def k10m2 : Method := { name := "valueOf", desc := "(C)Ljava/lang/String;", sig := { parameters := [.char], returnType := some (.object "java/lang/String") }, accessFlags := 9, code := some k10c2 }
def k10c3 : Code := { maxStack := 2, maxLocals := 3, code := jdk_42_method_151_code, exceptionTable := #[], attributes := #[] }
def k10m3 : Method := { name := "<init>", desc := "([BB)V", sig := { parameters := [(.array .byte), .byte], returnType := none }, accessFlags := 0, code := some k10c3 }
/-- java/lang/String -/
def k10 : Class := { plain "java/lang/String" (some 0) with
  accessFlags := 49
  interfaces := #[5, 4, 8, 3, 9]
  cf := some (fileOf pool10 10 #[.nestMembers #[1103]] #[{ accessFlags := 1, nameIndex := 5, descriptorIndex := 6, attributes := #[] }, { accessFlags := 1, nameIndex := 543, descriptorIndex := 573, attributes := #[] }, { accessFlags := 9, nameIndex := 782, descriptorIndex := 783, attributes := #[] }, { accessFlags := 0, nameIndex := 5, descriptorIndex := 211, attributes := #[] }] 49 2 #[1106, 1108, 575, 1110, 1112] #[{ accessFlags := 18, nameIndex := 13, descriptorIndex := 14, attributes := #[] }, { accessFlags := 18, nameIndex := 17, descriptorIndex := 18, attributes := #[] }, { accessFlags := 2, nameIndex := 21, descriptorIndex := 22, attributes := #[] }, { accessFlags := 2, nameIndex := 25, descriptorIndex := 26, attributes := #[] }, { accessFlags := 26, nameIndex := 1116, descriptorIndex := 1117, attributes := #[] }, { accessFlags := 24, nameIndex := 40, descriptorIndex := 26, attributes := #[] }, { accessFlags := 26, nameIndex := 1101, descriptorIndex := 1102, attributes := #[] }, { accessFlags := 26, nameIndex := 1121, descriptorIndex := 1122, attributes := #[] }, { accessFlags := 25, nameIndex := 599, descriptorIndex := 600, attributes := #[] }, { accessFlags := 24, nameIndex := 1125, descriptorIndex := 18, attributes := #[] }, { accessFlags := 24, nameIndex := 1127, descriptorIndex := 18, attributes := #[] }])
  fields := #[{ name := "value", type := (.array .byte), accessFlags := 18, slot := 0, constantValue := 0 }, { name := "coder", type := .byte, accessFlags := 18, slot := 1, constantValue := 0 }, { name := "hash", type := .int, accessFlags := 2, slot := 2, constantValue := 0 }, { name := "hashIsZero", type := .boolean, accessFlags := 2, slot := 3, constantValue := 0 }, { name := "serialVersionUID", type := .long, accessFlags := 26, slot := 0, constantValue := 0 }, { name := "COMPACT_STRINGS", type := .boolean, accessFlags := 24, slot := 1, constantValue := 0 }, { name := "serialPersistentFields", type := (.array (.object "java/io/ObjectStreamField")), accessFlags := 26, slot := 2, constantValue := 0 }, { name := "REPL", type := .char, accessFlags := 26, slot := 3, constantValue := 0 }, { name := "CASE_INSENSITIVE_ORDER", type := (.object "java/util/Comparator"), accessFlags := 25, slot := 4, constantValue := 0 }, { name := "LATIN1", type := .byte, accessFlags := 24, slot := 5, constantValue := 0 }, { name := "UTF16", type := .byte, accessFlags := 24, slot := 6, constantValue := 0 }]
  methods := #[k10m0, k10m1, k10m2, k10m3]
  instanceTypes := #[(.array .byte), .byte, .int, .boolean]
  staticTypes := #[.long, .boolean, (.array (.object "java/io/ObjectStreamField")), .char, (.object "java/util/Comparator"), .byte, .byte]
  resolved := Array.replicate 1451 none
  statics := some 1 }

def pool11 : Array CpInfo := pool [(4, .class_ 6), (1, u "java/lang/Object"), (0, u "<init>"), (0, u "()V"), (5, .class_ 16), (1, u "java/lang/StringLatin1"), (73, u "canEncode"), (14, u "(C)Z"), (15, u "$assertionsDisabled"), (0, u "Z"), (98, .class_ 223), (1, u "java/lang/StringLatin1$LinesSpliterator"), (57, u "equals"), (0, u "([B[B)Z"), (97, u "toBytes"), (1, u "(C)[B"), (7, .class_ 391), (0, u "java/lang/StringLatin1$CharsSpliterator")] 3

def k11m0 : Method := { name := "<init>", desc := "()V", sig := { parameters := [], returnType := none }, accessFlags := 0, code := none }
def k11c1 : Code := { maxStack := 2, maxLocals := 1, code := jdk_43_method_3_code, exceptionTable := #[], attributes := #[] }
def k11m1 : Method := { name := "canEncode", desc := "(C)Z", sig := { parameters := [.char], returnType := some .boolean }, accessFlags := 9, code := some k11c1 }
def k11c2 : Code := { maxStack := 3, maxLocals := 3, code := jdk_43_method_13_code, exceptionTable := #[], attributes := #[] }
def k11m2 : Method := { name := "equals", desc := "([B[B)Z", sig := { parameters := [(.array .byte), (.array .byte)], returnType := some .boolean }, accessFlags := 9, code := some k11c2 }
def k11c3 : Code := { maxStack := 4, maxLocals := 1, code := jdk_43_method_46_code, exceptionTable := #[], attributes := #[] }
def k11m3 : Method := { name := "toBytes", desc := "(C)[B", sig := { parameters := [.char], returnType := some (.array .byte) }, accessFlags := 9, code := some k11c3 }
/-- java/lang/StringLatin1 -/
def k11 : Class := { plain "java/lang/StringLatin1" (some 0) with
  accessFlags := 48
  interfaces := #[]
  cf := some (fileOf pool11 14 #[.nestMembers #[390, 221]] #[{ accessFlags := 0, nameIndex := 7, descriptorIndex := 8, attributes := #[] }, { accessFlags := 9, nameIndex := 90, descriptorIndex := 105, attributes := #[] }, { accessFlags := 9, nameIndex := 281, descriptorIndex := 282, attributes := #[] }, { accessFlags := 9, nameIndex := 380, descriptorIndex := 382, attributes := #[] }] 48 4 #[] #[{ accessFlags := 4120, nameIndex := 121, descriptorIndex := 122, attributes := #[] }])
  fields := #[{ name := "$assertionsDisabled", type := .boolean, accessFlags := 4120, slot := 0, constantValue := 0 }]
  methods := #[k11m0, k11m1, k11m2, k11m3]
  instanceTypes := #[]
  staticTypes := #[.boolean]
  resolved := Array.replicate 395 none
  statics := none }

def pool12 : Array CpInfo := pool [(2, .class_ 4), (1, u "java/lang/Object"), (0, u "<init>"), (0, u "()V"), (17, .class_ 26), (1, u "jdk/internal/util/Preconditions"), (28, .class_ 56), (0, u "jdk/internal/util/Preconditions$4"), (57, .class_ 115), (0, u "jdk/internal/util/Preconditions$1"), (7, u "SIOOBE_FORMATTER"), (0, u "Ljava/util/function/BiFunction;"), (0, .class_ 126), (0, u "jdk/internal/util/Preconditions$2"), (3, u "AIOOBE_FORMATTER"), (0, .class_ 132), (0, u "jdk/internal/util/Preconditions$3"), (3, u "IOOBE_FORMATTER")] 57

def k12m0 : Method := { name := "<init>", desc := "()V", sig := { parameters := [], returnType := none }, accessFlags := 1, code := none }
/-- jdk/internal/util/Preconditions -/
def k12 : Class := { plain "jdk/internal/util/Preconditions" (some 0) with
  accessFlags := 33
  interfaces := #[]
  cf := some (fileOf pool12 24 #[.nestMembers #[55, 131, 125, 114]] #[{ accessFlags := 1, nameIndex := 5, descriptorIndex := 6, attributes := #[] }] 33 2 #[] #[{ accessFlags := 25, nameIndex := 123, descriptorIndex := 124, attributes := #[] }, { accessFlags := 25, nameIndex := 130, descriptorIndex := 124, attributes := #[] }, { accessFlags := 25, nameIndex := 136, descriptorIndex := 124, attributes := #[] }])
  fields := #[{ name := "SIOOBE_FORMATTER", type := (.object "java/util/function/BiFunction"), accessFlags := 25, slot := 0, constantValue := 0 }, { name := "AIOOBE_FORMATTER", type := (.object "java/util/function/BiFunction"), accessFlags := 25, slot := 1, constantValue := 0 }, { name := "IOOBE_FORMATTER", type := (.object "java/util/function/BiFunction"), accessFlags := 25, slot := 2, constantValue := 0 }]
  methods := #[k12m0]
  instanceTypes := #[]
  staticTypes := #[(.object "java/util/function/BiFunction"), (.object "java/util/function/BiFunction"), (.object "java/util/function/BiFunction")]
  resolved := Array.replicate 194 none
  statics := some 2 }

def pool13 : Array CpInfo := pool [(9, u "<init>"), (6, .class_ 18), (1, u "java/lang/Object"), (0, u "()V"), (1, .class_ 23), (1, u "jdk/internal/util/ArraysSupport"), (0, u "LOG2_ARRAY_LONG_INDEX_SCALE"), (0, u "I"), (2, u "U"), (0, u "Ljdk/internal/misc/Unsafe;"), (8, u "BIG_ENDIAN"), (0, u "Z"), (8, u "LOG2_BYTE_BIT_SIZE"), (4, u "LOG2_ARRAY_INT_INDEX_SCALE"), (54, u "JLA"), (0, u "Ljdk/internal/access/JavaLangAccess;"), (11, u "LOG2_ARRAY_BOOLEAN_INDEX_SCALE"), (9, u "LOG2_ARRAY_BYTE_INDEX_SCALE"), (5, u "LOG2_ARRAY_CHAR_INDEX_SCALE"), (5, u "LOG2_ARRAY_SHORT_INDEX_SCALE"), (18, u "LOG2_ARRAY_FLOAT_INDEX_SCALE"), (24, u "LOG2_ARRAY_DOUBLE_INDEX_SCALE"), (89, u "T_BOOLEAN"), (2, u "T_CHAR"), (1, u "T_FLOAT"), (1, u "T_DOUBLE"), (1, u "T_BYTE"), (1, u "T_SHORT"), (1, u "T_INT"), (1, u "T_LONG"), (1, u "SOFT_MAX_ARRAY_LENGTH")] 83

def k13m0 : Method := { name := "<init>", desc := "()V", sig := { parameters := [], returnType := none }, accessFlags := 2, code := none }
/-- jdk/internal/util/ArraysSupport -/
def k13 : Class := { plain "jdk/internal/util/ArraysSupport" (some 0) with
  accessFlags := 33
  interfaces := #[]
  cf := some (fileOf pool13 21 #[] #[{ accessFlags := 2, nameIndex := 9, descriptorIndex := 19, attributes := #[] }] 33 16 #[] #[{ accessFlags := 24, nameIndex := 28, descriptorIndex := 29, attributes := #[] }, { accessFlags := 26, nameIndex := 38, descriptorIndex := 39, attributes := #[] }, { accessFlags := 25, nameIndex := 121, descriptorIndex := 25, attributes := #[] }, { accessFlags := 25, nameIndex := 131, descriptorIndex := 25, attributes := #[] }, { accessFlags := 25, nameIndex := 137, descriptorIndex := 25, attributes := #[] }, { accessFlags := 25, nameIndex := 143, descriptorIndex := 25, attributes := #[] }, { accessFlags := 25, nameIndex := 53, descriptorIndex := 25, attributes := #[] }, { accessFlags := 25, nameIndex := 24, descriptorIndex := 25, attributes := #[] }, { accessFlags := 25, nameIndex := 162, descriptorIndex := 25, attributes := #[] }, { accessFlags := 25, nameIndex := 187, descriptorIndex := 25, attributes := #[] }, { accessFlags := 26, nameIndex := 48, descriptorIndex := 25, attributes := #[] }, { accessFlags := 25, nameIndex := 277, descriptorIndex := 25, attributes := #[] }, { accessFlags := 25, nameIndex := 280, descriptorIndex := 25, attributes := #[] }, { accessFlags := 25, nameIndex := 282, descriptorIndex := 25, attributes := #[] }, { accessFlags := 25, nameIndex := 284, descriptorIndex := 25, attributes := #[] }, { accessFlags := 25, nameIndex := 286, descriptorIndex := 25, attributes := #[] }, { accessFlags := 25, nameIndex := 288, descriptorIndex := 25, attributes := #[] }, { accessFlags := 25, nameIndex := 290, descriptorIndex := 25, attributes := #[] }, { accessFlags := 25, nameIndex := 292, descriptorIndex := 25, attributes := #[] }, { accessFlags := 26, nameIndex := 108, descriptorIndex := 109, attributes := #[] }, { accessFlags := 25, nameIndex := 294, descriptorIndex := 25, attributes := #[] }])
  fields := #[{ name := "U", type := (.object "jdk/internal/misc/Unsafe"), accessFlags := 24, slot := 0, constantValue := 0 }, { name := "BIG_ENDIAN", type := .boolean, accessFlags := 26, slot := 1, constantValue := 0 }, { name := "LOG2_ARRAY_BOOLEAN_INDEX_SCALE", type := .int, accessFlags := 25, slot := 2, constantValue := 0 }, { name := "LOG2_ARRAY_BYTE_INDEX_SCALE", type := .int, accessFlags := 25, slot := 3, constantValue := 0 }, { name := "LOG2_ARRAY_CHAR_INDEX_SCALE", type := .int, accessFlags := 25, slot := 4, constantValue := 0 }, { name := "LOG2_ARRAY_SHORT_INDEX_SCALE", type := .int, accessFlags := 25, slot := 5, constantValue := 0 }, { name := "LOG2_ARRAY_INT_INDEX_SCALE", type := .int, accessFlags := 25, slot := 6, constantValue := 0 }, { name := "LOG2_ARRAY_LONG_INDEX_SCALE", type := .int, accessFlags := 25, slot := 7, constantValue := 0 }, { name := "LOG2_ARRAY_FLOAT_INDEX_SCALE", type := .int, accessFlags := 25, slot := 8, constantValue := 0 }, { name := "LOG2_ARRAY_DOUBLE_INDEX_SCALE", type := .int, accessFlags := 25, slot := 9, constantValue := 0 }, { name := "LOG2_BYTE_BIT_SIZE", type := .int, accessFlags := 26, slot := 10, constantValue := 0 }, { name := "T_BOOLEAN", type := .int, accessFlags := 25, slot := 11, constantValue := 0 }, { name := "T_CHAR", type := .int, accessFlags := 25, slot := 12, constantValue := 0 }, { name := "T_FLOAT", type := .int, accessFlags := 25, slot := 13, constantValue := 0 }, { name := "T_DOUBLE", type := .int, accessFlags := 25, slot := 14, constantValue := 0 }, { name := "T_BYTE", type := .int, accessFlags := 25, slot := 15, constantValue := 0 }, { name := "T_SHORT", type := .int, accessFlags := 25, slot := 16, constantValue := 0 }, { name := "T_INT", type := .int, accessFlags := 25, slot := 17, constantValue := 0 }, { name := "T_LONG", type := .int, accessFlags := 25, slot := 18, constantValue := 0 }, { name := "JLA", type := (.object "jdk/internal/access/JavaLangAccess"), accessFlags := 26, slot := 19, constantValue := 0 }, { name := "SOFT_MAX_ARRAY_LENGTH", type := .int, accessFlags := 25, slot := 20, constantValue := 0 }]
  methods := #[k13m0]
  instanceTypes := #[]
  staticTypes := #[(.object "jdk/internal/misc/Unsafe"), .boolean, .int, .int, .int, .int, .int, .int, .int, .int, .int, .int, .int, .int, .int, .int, .int, .int, .int, (.object "jdk/internal/access/JavaLangAccess"), .int]
  resolved := Array.replicate 378 none
  statics := none }

def pool14 : Array CpInfo := pool [(1, u "java/lang/Cloneable"), (0, .class_ 1), (0, u "java/lang/Object"), (0, .class_ 3)] 3

/-- java/lang/Cloneable -/
def k14 : Class := { plain "java/lang/Cloneable" (some 0) with
  accessFlags := 1537
  interfaces := #[]
  cf := some (fileOf pool14 2 #[] #[] 1537 4 #[] #[])
  fields := #[]
  methods := #[]
  instanceTypes := #[]
  staticTypes := #[]
  resolved := Array.replicate 8 none
  statics := none }

/-- the primitive byte -/
def k15 : Class := { plain "byte" none with kind := .primitive 'B', accessFlags := 0x411 }
/-- [B -/
def k16 : Class := { plain "[B" (some 0) with kind := .array 15 .byte, interfaces := #[14, 5], accessFlags := 1041 }

/-- the primitive int -/
def k17 : Class := { plain "int" none with kind := .primitive 'I', accessFlags := 0x411 }
/-- [I -/
def k18 : Class := { plain "[I" (some 0) with kind := .array 17 .int, interfaces := #[14, 5], accessFlags := 1041 }

def heap : Heap := #[{ cls := 7, slots := #[.ref 3, .ref 4, .ref 5, .ref 6, .ref 7, .ref 8, .ref 9, .ref 10, .ref 11, .ref 12, .null], vm := .statics 7 },
  { cls := 10, slots := #[.long 0, .int 1, .null, .int 0, .null, .int 0, .int 0], vm := .statics 10 },
  { cls := 12, slots := #[.null, .null, .null], vm := .statics 12 },
  { cls := 7, slots := #[.null, .int 0, .int 0], vm := .none },
  { cls := 7, slots := #[.null, .int 1, .int 0], vm := .none },
  { cls := 7, slots := #[.null, .int 2, .int 0], vm := .none },
  { cls := 7, slots := #[.null, .int 3, .int 0], vm := .none },
  { cls := 7, slots := #[.null, .int 4, .int 0], vm := .none },
  { cls := 7, slots := #[.null, .int 5, .int 0], vm := .none },
  { cls := 7, slots := #[.null, .int 6, .int 0], vm := .none },
  { cls := 7, slots := #[.null, .int 7, .int 0], vm := .none },
  { cls := 7, slots := #[.null, .int 8, .int 0], vm := .none },
  { cls := 7, slots := #[.null, .int 9, .int 0], vm := .none }]
def classes : Array Class := #[k0, k1, k2, k3, k4, k5, k6, k7, k8, k9, k10, k11, k12, k13, k14, k15, k16, k17, k18]
def interned : List (Array UInt16 × Addr) := []
def slotsUsed : Nat := 51
def theMethod : MethodId := ⟨1, 3⟩
def args0 : Array Value := #[.int 3, .int 5, .int 77, .int 99, .int 6]
def aboutOver (below : List Frame) : State where
  vm := { classes := classes, interned := interned.toArray }
  heap := heap
  slotsUsed := slotsUsed
  threads := #[{ frames := .invoking theMethod args0 :: below }]
def below0 : List Frame := [.native { method := ⟨0, 0⟩, args := #[] }]
def about1 : State := aboutOver below0
def p0 : Program := .bare "" "" ""
def e0 : Env := launch0.env 0 0 0
theorem w_frames : about1.frames = Frame.invoking theMethod args0 :: below0 := rfl
set_option maxRecDepth 65536 in
theorem w_args : argsFit about1.vm theMethod args0 = true := by decide +kernel
set_option maxRecDepth 65536 in
theorem w_heap : heapFits about1 = true := by decide +kernel
set_option maxRecDepth 65536 in
theorem w_runnable : about1.curStatus? = some .runnable := by decide +kernel
set_option maxRecDepth 65536 in
theorem w_alone : about1.alone = true := by decide +kernel
set_option maxRecDepth 65536 in
theorem w_named : about1.methodNamed? x = some theMethod := by decide +kernel
set_option maxRecDepth 65536 in
theorem w_hears : about1.hears theMethod below0 = true := by decide +kernel
set_option maxRecDepth 65536 in
theorem w_ripe : about1.ripe theMethod args0 below0 = true := by decide +kernel
theorem w_running : about1.status = .running := rfl
set_option maxRecDepth 65536 in
theorem w_room : about1.hasRoom e0.platform room_1 = true :=
  launch0.hasRoom_least _ room_1 (by decide +kernel) (by decide +kernel) (by decide +kernel) (by decide +kernel) (by decide +kernel) (by decide +kernel)
theorem allAtoms_all (ts : List Jvm.Cond) (a : Array Jvm.Value) (st : Jvm.State) : (allAtoms ts).before a st = ts.all (fun c => c.before a st) := by
  induction ts with
  | nil => rfl
  | cons c t ih =>
    show (Jvm.Cond.and c (allAtoms t)).before a st = _
    rw [Jvm.Cond.before_and, ih, List.all_cons]
def words1 : List Jvm.Cond := Jvm.Cond.code x code maxLocals ret :: tables_1
/-- a 'code' word, met by the world's own term for the bytes: nothing is compared byte by byte -/
theorem code_word {y : MethodName} {bytes : ByteArray} {mx : Nat} {rt : Option FieldType} {a : Array Value} {s : State} {m : MethodId} {meth : Method} {c : Code} (h1 : s.methodNamed? y = some m) (h2 : s.vm.method? m = some meth) (h3 : meth.code = some c) (h4 : c.code = bytes)
    (h5 : (c.maxLocals == mx && c.exceptionTable.isEmpty && decide (c.maxStack ≤ mostOperands) && decide (meth.sig.returnType = rt) && !meth.locks && decide (parseMethodDescriptor y.desc = some meth.sig)) = true) : (Jvm.Cond.code y bytes mx rt).before a s = true := by
  simp only [Bool.and_eq_true, beq_iff_eq, Bool.not_eq_true', decide_eq_true_eq] at h5
  obtain ⟨⟨⟨⟨⟨g1, g2⟩, g3⟩, g4⟩, g5⟩, g6⟩ := h5
  simp [Cond.before, Cond.holds, Cond.value, h1, h2, h3, h4, g1, g2, g3, g4, g5, g6]
def isCode : Jvm.Cond → Bool
  | .code _ _ _ _ => true
  | _ => false
theorem all_split {L : List Jvm.Cond} {P : Jvm.Cond → Bool} (h1 : L.all (fun c => isCode c || P c) = true) (h2 : ∀ c ∈ L.filter isCode, P c = true) : L.all P = true := by
  refine List.all_eq_true.mpr fun c hc => ?_
  have h := List.all_eq_true.mp h1 c hc
  rcases Bool.eq_false_or_eq_true (isCode c) with hi | hi
  · exact h2 c (List.mem_filter.mpr ⟨hc, hi⟩)
  · simpa [hi] using h
set_option maxRecDepth 65536 in
theorem w_c0 : (Jvm.Cond.code x code maxLocals ret).before args0 about1 = true := code_word (m := ⟨1, 3⟩) (meth := k1m3) (c := k1c3) (by decide +kernel) rfl rfl rfl (by decide +kernel)
set_option maxRecDepth 65536 in
theorem w_c1 : (Jvm.Cond.code ({ cls := "com/example/tributary/tributary/flow/FlowEventEqualsPinLaw", name := "kindOf", desc := "(I)Lcom/example/tributary/tributary/flow/FlowEvent$Kind;" } : Jvm.MethodName) method_2_code (1 : Nat) (Option.some (Jvm.ClassFile.FieldType.object "com/example/tributary/tributary/flow/FlowEvent$Kind"))).before args0 about1 = true := code_word (m := ⟨1, 1⟩) (meth := k1m1) (c := k1c1) (by decide +kernel) rfl rfl rfl (by decide +kernel)
set_option maxRecDepth 65536 in
theorem w_c2 : (Jvm.Cond.code ({ cls := "com/example/tributary/tributary/flow/FlowEventEqualsPinLaw", name := "str", desc := "(I)Ljava/lang/String;" } : Jvm.MethodName) method_3_code (1 : Nat) (Option.some (Jvm.ClassFile.FieldType.object "java/lang/String"))).before args0 about1 = true := code_word (m := ⟨1, 2⟩) (meth := k1m2) (c := k1c2) (by decide +kernel) rfl rfl rfl (by decide +kernel)
set_option maxRecDepth 65536 in
theorem w_c3 : (Jvm.Cond.code ({ cls := "java/lang/String", name := "valueOf", desc := "(C)Ljava/lang/String;" } : Jvm.MethodName) jdk_42_method_139_code (1 : Nat) (Option.some (Jvm.ClassFile.FieldType.object "java/lang/String"))).before args0 about1 = true := code_word (m := ⟨10, 2⟩) (meth := k10m2) (c := k10c2) (by decide +kernel) rfl rfl rfl (by decide +kernel)
set_option maxRecDepth 65536 in
theorem w_c4 : (Jvm.Cond.code ({ cls := "java/lang/StringLatin1", name := "canEncode", desc := "(C)Z" } : Jvm.MethodName) jdk_43_method_3_code (1 : Nat) (Option.some Jvm.ClassFile.FieldType.boolean)).before args0 about1 = true := code_word (m := ⟨11, 1⟩) (meth := k11m1) (c := k11c1) (by decide +kernel) rfl rfl rfl (by decide +kernel)
set_option maxRecDepth 65536 in
theorem w_c5 : (Jvm.Cond.code ({ cls := "java/lang/StringLatin1", name := "toBytes", desc := "(C)[B" } : Jvm.MethodName) jdk_43_method_46_code (1 : Nat) (Option.some (Jvm.ClassFile.FieldType.array Jvm.ClassFile.FieldType.byte))).before args0 about1 = true := code_word (m := ⟨11, 3⟩) (meth := k11m3) (c := k11c3) (by decide +kernel) rfl rfl rfl (by decide +kernel)
set_option maxRecDepth 65536 in
theorem w_c6 : (Jvm.Cond.code ({ cls := "java/lang/String", name := "<init>", desc := "([BB)V" } : Jvm.MethodName) jdk_42_method_151_code (3 : Nat) (Option.none : Option Jvm.ClassFile.FieldType)).before args0 about1 = true := code_word (m := ⟨10, 3⟩) (meth := k10m3) (c := k10c3) (by decide +kernel) rfl rfl rfl (by decide +kernel)
set_option maxRecDepth 65536 in
theorem w_c7 : (Jvm.Cond.code ({ cls := "java/lang/Object", name := "<init>", desc := "()V" } : Jvm.MethodName) object_method_1_code (1 : Nat) (Option.none : Option Jvm.ClassFile.FieldType)).before args0 about1 = true := code_word (m := ⟨0, 0⟩) (meth := k0m0) (c := k0c0) (by decide +kernel) rfl rfl rfl (by decide +kernel)
set_option maxRecDepth 65536 in
theorem w_c8 : (Jvm.Cond.code ({ cls := "com/example/tributary/tributary/flow/FlowEvent", name := "<init>", desc := "(Lcom/example/tributary/tributary/flow/FlowEvent$Kind;Ljava/lang/String;Ljava/lang/String;Ljava/lang/String;)V" } : Jvm.MethodName) prog_5_method_1_code (5 : Nat) (Option.none : Option Jvm.ClassFile.FieldType)).before args0 about1 = true := code_word (m := ⟨2, 0⟩) (meth := k2m0) (c := k2c0) (by decide +kernel) rfl rfl rfl (by decide +kernel)
set_option maxRecDepth 65536 in
theorem w_c9 : (Jvm.Cond.code ({ cls := "com/example/tributary/tributary/flow/FlowEvent", name := "equals", desc := "(Ljava/lang/Object;)Z" } : Jvm.MethodName) prog_5_method_6_code (3 : Nat) (Option.some Jvm.ClassFile.FieldType.boolean)).before args0 about1 = true := code_word (m := ⟨2, 1⟩) (meth := k2m1) (c := k2c1) (by decide +kernel) rfl rfl rfl (by decide +kernel)
set_option maxRecDepth 65536 in
theorem w_c10 : (Jvm.Cond.code ({ cls := "java/lang/String", name := "equals", desc := "(Ljava/lang/Object;)Z" } : Jvm.MethodName) jdk_42_method_66_code (3 : Nat) (Option.some Jvm.ClassFile.FieldType.boolean)).before args0 about1 = true := code_word (m := ⟨10, 1⟩) (meth := k10m1) (c := k10c1) (by decide +kernel) rfl rfl rfl (by decide +kernel)
set_option maxRecDepth 65536 in
theorem w_c11 : (Jvm.Cond.code ({ cls := "java/lang/StringLatin1", name := "equals", desc := "([B[B)Z" } : Jvm.MethodName) jdk_43_method_13_code (3 : Nat) (Option.some Jvm.ClassFile.FieldType.boolean)).before args0 about1 = true := code_word (m := ⟨11, 2⟩) (meth := k11m2) (c := k11c2) (by decide +kernel) rfl rfl rfl (by decide +kernel)
def codes1 : List Jvm.Cond := [Jvm.Cond.code x code maxLocals ret, Jvm.Cond.code ({ cls := "com/example/tributary/tributary/flow/FlowEventEqualsPinLaw", name := "kindOf", desc := "(I)Lcom/example/tributary/tributary/flow/FlowEvent$Kind;" } : Jvm.MethodName) method_2_code (1 : Nat) (Option.some (Jvm.ClassFile.FieldType.object "com/example/tributary/tributary/flow/FlowEvent$Kind")), Jvm.Cond.code ({ cls := "com/example/tributary/tributary/flow/FlowEventEqualsPinLaw", name := "str", desc := "(I)Ljava/lang/String;" } : Jvm.MethodName) method_3_code (1 : Nat) (Option.some (Jvm.ClassFile.FieldType.object "java/lang/String")), Jvm.Cond.code ({ cls := "java/lang/String", name := "valueOf", desc := "(C)Ljava/lang/String;" } : Jvm.MethodName) jdk_42_method_139_code (1 : Nat) (Option.some (Jvm.ClassFile.FieldType.object "java/lang/String")), Jvm.Cond.code ({ cls := "java/lang/StringLatin1", name := "canEncode", desc := "(C)Z" } : Jvm.MethodName) jdk_43_method_3_code (1 : Nat) (Option.some Jvm.ClassFile.FieldType.boolean), Jvm.Cond.code ({ cls := "java/lang/StringLatin1", name := "toBytes", desc := "(C)[B" } : Jvm.MethodName) jdk_43_method_46_code (1 : Nat) (Option.some (Jvm.ClassFile.FieldType.array Jvm.ClassFile.FieldType.byte)), Jvm.Cond.code ({ cls := "java/lang/String", name := "<init>", desc := "([BB)V" } : Jvm.MethodName) jdk_42_method_151_code (3 : Nat) (Option.none : Option Jvm.ClassFile.FieldType), Jvm.Cond.code ({ cls := "java/lang/Object", name := "<init>", desc := "()V" } : Jvm.MethodName) object_method_1_code (1 : Nat) (Option.none : Option Jvm.ClassFile.FieldType), Jvm.Cond.code ({ cls := "com/example/tributary/tributary/flow/FlowEvent", name := "<init>", desc := "(Lcom/example/tributary/tributary/flow/FlowEvent$Kind;Ljava/lang/String;Ljava/lang/String;Ljava/lang/String;)V" } : Jvm.MethodName) prog_5_method_1_code (5 : Nat) (Option.none : Option Jvm.ClassFile.FieldType), Jvm.Cond.code ({ cls := "com/example/tributary/tributary/flow/FlowEvent", name := "equals", desc := "(Ljava/lang/Object;)Z" } : Jvm.MethodName) prog_5_method_6_code (3 : Nat) (Option.some Jvm.ClassFile.FieldType.boolean), Jvm.Cond.code ({ cls := "java/lang/String", name := "equals", desc := "(Ljava/lang/Object;)Z" } : Jvm.MethodName) jdk_42_method_66_code (3 : Nat) (Option.some Jvm.ClassFile.FieldType.boolean), Jvm.Cond.code ({ cls := "java/lang/StringLatin1", name := "equals", desc := "([B[B)Z" } : Jvm.MethodName) jdk_43_method_13_code (3 : Nat) (Option.some Jvm.ClassFile.FieldType.boolean)]
set_option maxRecDepth 65536 in
theorem codes_eq : words1.filter isCode = codes1 := rfl
theorem w_codes : ∀ c ∈ words1.filter isCode, c.before args0 about1 = true := by
  rw [codes_eq]
  intro c hc
  simp only [codes1, List.mem_cons, List.not_mem_nil, or_false] at hc
  rcases hc with rfl | rfl | rfl | rfl | rfl | rfl | rfl | rfl | rfl | rfl | rfl | rfl
  · exact w_c0
  · exact w_c1
  · exact w_c2
  · exact w_c3
  · exact w_c4
  · exact w_c5
  · exact w_c6
  · exact w_c7
  · exact w_c8
  · exact w_c9
  · exact w_c10
  · exact w_c11
set_option maxRecDepth 65536 in
theorem w_t1 : (words1.take 24).all (fun c => isCode c || c.before args0 about1) = true := by decide +kernel
set_option maxRecDepth 65536 in
theorem w_t2 : ((words1.drop 24).take 24).all (fun c => isCode c || c.before args0 about1) = true := by decide +kernel
set_option maxRecDepth 65536 in
theorem w_t3 : (((words1.drop 24).drop 24).take 24).all (fun c => isCode c || c.before args0 about1) = true := by decide +kernel
set_option maxRecDepth 65536 in
theorem w_t4 : (((words1.drop 24).drop 24).drop 24).all (fun c => isCode c || c.before args0 about1) = true := by decide +kernel
theorem w_tables : (allAtoms (Jvm.Cond.code x code maxLocals ret :: tables_1)).before args0 about1 = true := by
  rw [allAtoms_all]
  show words1.all (fun c => c.before args0 about1) = true
  refine all_split ?_ w_codes
  rw [← List.take_append_drop 24 words1, List.all_append, w_t1, ← List.take_append_drop 24 (words1.drop 24), List.all_append, w_t2, ← List.take_append_drop 24 ((words1.drop 24).drop 24), List.all_append, w_t3, w_t4]
  rfl
set_option maxRecDepth 65536 in
theorem w_rest : rest_1_c.before args0 about1 = true := by decide +kernel
set_option maxRecDepth 65536 in
theorem w_case : (Jvm.Cond.and given_1 narrow_1).before args0 about1 = true := by decide +kernel
theorem w_applies : (headSpec (Jvm.Cond.code x code maxLocals ret :: tables_1) room_1).applies x e0.platform about1 = true :=
  (Spec.applies_iff w_frames).mpr ⟨w_running, w_runnable, w_alone, w_named, w_hears, w_ripe, w_room, w_tables⟩
theorem atStart : AtStart classFile x code maxLocals ret World_1 tables_1 room_1 Calls_1 rest_1 Pre_1 launch0 p0 e0 about1 theMethod args0 below0 :=
  ⟨lists_1, trivial, launch0.admits_env _ _ _, launch0.least_env, fairChoices_fair.cas, fairChoices_fair.clock, w_frames, w_args, w_heap, w_applies, trivial, w_rest, w_case⟩
end start1
theorem witness_1 : WitnessClaimed_1 := ⟨start1.p0, start1.e0, start1.about1, start1.theMethod, start1.args0, start1.below0, start1.atStart⟩
end Jvm.Pilot.@@N@@
