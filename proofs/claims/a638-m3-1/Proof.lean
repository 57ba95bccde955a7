import JvmDerived
import JvmDerived.Pilot.@@N@@Statement
import JvmDerived.Pilot.@@N@@Code
set_option linter.unusedVariables false
set_option linter.unusedSimpArgs false
set_option maxRecDepth 65536
set_option maxHeartbeats 40000000
namespace Jvm.Pilot.@@N@@
open Jvm Jvm.ClassFile Sem Op Lib Jvm.Free Jvm.Stand Jvm.LawKit Jvm.RoadKit Bundle Jvm.Pilot.@@N@@.Jvm.D
theorem oW {a0 : Array Value} {Z : State} (hw : ∀ d ∈ tables_1, d.before a0 Z = true) {d : Jvm.Cond} (i : Nat) (h : tables_1[i]? = some d) : d.before a0 Z = true := hw _ (List.mem_of_getElem? h)
theorem oMvM {Z s : State} {a0 args : Array Value} {own host : String} {index : Nat} {x : MethodName} (hZ : Z.Warmed39 s.vm) (w : (Jvm.Cond.methodLinkNest own index x host).before a0 Z = true) : (Jvm.Cond.methodLinkNest own index x host).before args s = true := (Cond.methodLinkNest_wide hZ w :)
abbrev uu : Slot := .unset
abbrev ss : Slot := .second
/-- the run from T with g on top comes to a state of which P holds -/
def oWk (tb : Tables) (e : Env) (below : List Frame) (P : State → Prop) (T : State) (g : JFrame) : Prop := ∃ t, Steps tb e below (T.setTop g) t ∧ P t
section OwnA
variable {tb : Tables} {e : Env} {below : List Frame} {P : State → Prop} {T T' : State} {g g' : JFrame}
theorem oWk.st (f : ∀ t, Steps tb e below (T'.setTop g') t → Steps tb e below (T.setTop g) t) (k : oWk tb e below P T' g') : oWk tb e below P T g := k.elim fun t q => ⟨t, f t q.1, q.2⟩
theorem oWk.tr (f : Steps tb e below (T.setTop g) (T'.setTop g')) (k : oWk tb e below P T' g') : oWk tb e below P T g := k.elim fun t q => ⟨t, f.trans q.1, q.2⟩
theorem oWk.cast (q : g = g') (k : oWk tb e below P T g') : oWk tb e below P T g := q ▸ k
end OwnA
/-- the invocation has ended: a value, the heap, the places written -/
def oDn (s : State) (below : List Frame) (Q : Option Value → Heap → List Loc → Prop) (k n : Nat) (t : State) : Prop := t.status = .running ∧ ∃ v L, Ended t below (.returned v) ∧ Q v t.heap L ∧ FrameEnd s (.returned v) t L k n
/-- a contract: called with these arguments on this heap the body returns and Q holds -/
abbrev oCon (l : Launch) (Z : State) (y : MethodName) (bytes : ByteArray) (maxL : Nat) (ret : Option FieldType) (ws : List Jvm.Cond) (rm : Room) (as' : Array Value) (h0 : Heap) (Q : Option Value → Heap → List Loc → Prop) : Prop :=
  MetFree l y (head1 (Jvm.Cond.code y bytes maxL ret :: ws) rm) (fun a U => a = as' ∧ Z.Warmed39 U.vm ∧ U.heap = h0) (fun _ _ _ _ _ => True) (fun _ U o U' => ∃ v L, o = .returned v ∧ Q v U'.heap L ∧ FrameEnd U o U' L rm.cells rm.slots)
theorem oCon.of {l : Launch} {Z : State} {y : MethodName} {bytes : ByteArray} {maxL : Nat} {ret : Option FieldType} {ws : List Jvm.Cond} {rm : Room} {as' : Array Value} {h0 : Heap} {Q : Option Value → Heap → List Loc → Prop} (hp : plainFor y = true)
    (body : ∀ (p : Program) (e : Env) (s : State) (m : MethodId) (below : List Frame) (meth : Method) (c : Code) (T : State), Stand p l e rm s m as' below meth c T [] 0 0 → p.tables.exec = Jvm.exec → c.code = bytes → c.maxLocals = maxL → s.vm.findClass y.cls = some m.cls → meth.name = y.name → meth.sig.returnType = ret → meth.locks = false → Z.Warmed39 s.vm → T.heap = h0 → oWk p.tables e below (oDn s below Q rm.cells rm.slots) T (entryFrame m as' maxL)) :
    oCon l Z y bytes maxL ret ws rm as' h0 Q := by
  refine MetFree.of_bodySF hp hisR ?_
  intro p e s m args below meth c s₁ Bd hml0 hP hK
  obtain ⟨rfl, hZ, hh⟩ := hP
  have e0 : s₁.heap = h0 := by rw [← hh, Bd.state]; rfl
  obtain ⟨t, h1, h2, v, L, h3, h4, h5⟩ := body p e s m below meth c s₁ (Stand.of_body Bd) Bd.exec Bd.bytes hml0 (findClass_of_methodNamed Bd.named) (name_of_methodNamed Bd.named Bd.method).1 Bd.returns Bd.notSynchronized hZ e0
  exact ⟨t, _, h1, h2, h3, v, L, rfl, h4, h5⟩
section OwnB
variable {p : Program} {l : Launch} {e : Env} {R : Room} {s : State} {m : MethodId} {args : Array Value} {below : List Frame} {meth : Method} {c : Code} {T : State} {locs : List Loc} {cells slots : Nat} {Q : Option Value → Heap → List Loc → Prop} {k n pc : Nat} {Ls : Array Slot}
theorem oRet (X : Stand p l e R s m args below meth c T locs cells slots) (hx : p.tables.exec = Jvm.exec) (hlk : meth.locks = false) {w : Value} {t : FieldType} {i : Instr} {rest : List Value} (hret : meth.sig.returnType = some t) (hn : narrow t w = w)
    (hi : (i = .ireturn ∧ (t = .int ∨ t = .boolean ∨ t = .byte ∨ t = .char ∨ t = .short) ∧ ∃ z, w = .int z) ∨ (i = .lreturn ∧ t = .long ∧ ∃ z, w = .long z) ∨ (i = .dreturn ∧ t = .double ∧ ∃ z, w = .double z) ∨ (i = .freturn ∧ t = .float ∧ ∃ z, w = .float z) ∨ (i = .areturn ∧ t.isReference = true ∧ w.isRef = true))
    (hd : decode c.code pc = .ok (i, 1)) (hQ : Q (some w) T.heap locs) (hk : cells ≤ k) (hs : slots ≤ n) : oWk p.tables e below (oDn s below Q k n) T (mkF m pc Ls (w :: rest)) := by
  obtain ⟨fs, hr, hrun, hended, hW, hsame⟩ := X.leave (v := some w) (fun h => by rw [hret] at h; cases h) hlk
  exact ⟨_, retOut X hx hret hn hi hd hr, hrun, _, _, hended, hQ, ⟨_, rfl⟩, hW, hsame.mono hk hs⟩
theorem oRetI (X : Stand p l e R s m args below meth c T locs cells slots) (hx : p.tables.exec = Jvm.exec) (hlk : meth.locks = false) {z : Int32} {rest : List Value} (hret : meth.sig.returnType = some .int) (hd : decode c.code pc = .ok (.ireturn, 1)) (hQ : Q (some (.int z)) T.heap locs) (hk : cells ≤ k) (hs : slots ≤ n) :
    oWk p.tables e below (oDn s below Q k n) T (mkF m pc Ls (.int z :: rest)) := oRet X hx hlk hret rfl (Or.inl ⟨rfl, Or.inl rfl, _, rfl⟩) hd hQ hk hs
theorem oRetZ (X : Stand p l e R s m args below meth c T locs cells slots) (hx : p.tables.exec = Jvm.exec) (hlk : meth.locks = false) {z : Int32} {rest : List Value} (hret : meth.sig.returnType = some .boolean) (hd : decode c.code pc = .ok (.ireturn, 1)) (hz : z = 0 ∨ z = 1) (hQ : Q (some (.int z)) T.heap locs) (hk : cells ≤ k) (hs : slots ≤ n) :
    oWk p.tables e below (oDn s below Q k n) T (mkF m pc Ls (.int z :: rest)) := oRet X hx hlk hret (by rcases hz with rfl | rfl <;> rfl) (Or.inl ⟨rfl, Or.inr (Or.inl rfl), _, rfl⟩) hd hQ hk hs
theorem oRetN (X : Stand p l e R s m args below meth c T locs cells slots) (hx : p.tables.exec = Jvm.exec) (hlk : meth.locks = false) {z : Int32} {t : FieldType} {rest : List Value} (hret : meth.sig.returnType = some t) (ht : t = .byte ∨ t = .char ∨ t = .short) (hn : narrow t (.int z) = .int z) (hd : decode c.code pc = .ok (.ireturn, 1)) (hQ : Q (some (.int z)) T.heap locs) (hk : cells ≤ k) (hs : slots ≤ n) :
    oWk p.tables e below (oDn s below Q k n) T (mkF m pc Ls (.int z :: rest)) := oRet X hx hlk hret hn (Or.inl ⟨rfl, Or.inr (Or.inr ht), _, rfl⟩) hd hQ hk hs
theorem oRetD (X : Stand p l e R s m args below meth c T locs cells slots) (hx : p.tables.exec = Jvm.exec) (hlk : meth.locks = false) {z : UInt64} {rest : List Value} (hret : meth.sig.returnType = some .double) (hd : decode c.code pc = .ok (.dreturn, 1)) (hQ : Q (some (.double z)) T.heap locs) (hk : cells ≤ k) (hs : slots ≤ n) :
    oWk p.tables e below (oDn s below Q k n) T (mkF m pc Ls (.double z :: rest)) := oRet X hx hlk hret rfl (Or.inr (Or.inr (Or.inl ⟨rfl, rfl, _, rfl⟩))) hd hQ hk hs
theorem oNarR {t : FieldType} {w : Value} (ht : t.isReference = true) (hw : w.isRef = true) : narrow t w = w := by cases t <;> cases w <;> simp_all [narrow, FieldType.isReference, Value.isRef]
theorem oRetA (X : Stand p l e R s m args below meth c T locs cells slots) (hx : p.tables.exec = Jvm.exec) (hlk : meth.locks = false) {w : Value} {t : FieldType} {rest : List Value} (hret : meth.sig.returnType = some t) (ht : t.isReference = true) (hw : w.isRef = true) (hd : decode c.code pc = .ok (.areturn, 1)) (hQ : Q (some w) T.heap locs) (hk : cells ≤ k) (hs : slots ≤ n) :
    oWk p.tables e below (oDn s below Q k n) T (mkF m pc Ls (w :: rest)) := oRet X hx hlk hret (oNarR ht hw) (Or.inr (Or.inr (Or.inr (Or.inr ⟨rfl, ht, hw⟩)))) hd hQ hk hs
theorem oRetV (X : Stand p l e R s m args below meth c T locs cells slots) (hx : p.tables.exec = Jvm.exec) (hlk : meth.locks = false) (hret : meth.sig.returnType = none) (hd : decode c.code pc = .ok (.return_, 1)) (hQ : Q none T.heap locs) (hk : cells ≤ k) (hs : slots ≤ n) :
    oWk p.tables e below (oDn s below Q k n) T (mkF m pc Ls []) := by
  obtain ⟨fs, hr, hrun, hended, hW, hsame⟩ := X.leave (v := none) (fun _ => rfl) hlk
  exact ⟨_, X.returnOut hx hret hd hr, hrun, _, _, hended, hQ, ⟨_, rfl⟩, hW, hsame.mono hk hs⟩
end OwnB
/-- the heap is kept but for ws and new cells; the places written lie there -/
def oKp (h0 h : Heap) (ws : List Addr) (L : List Loc) : Prop := Keep h0 h ws ∧ ∀ y ∈ L, y.base ∈ ws ∨ h0.size ≤ y.base
section OwnC
variable {Z : State} {h0 h h' : Heap} {ws ws' : List Addr} {L L' : List Loc} {a : Addr} {sl : Nat} {v : Value}
theorem oKp.nil (h : Heap) (ws : List Addr) : oKp h h ws [] := ⟨Keep.refl _ _, fun _ q => nomatch q⟩
theorem oKp.ext (K : oKp h0 h ws L) (E : Ext h h') : oKp h0 h' ws L := ⟨K.1.ext E, K.2⟩
theorem oKp.wr (K : oKp h0 h ws L) (W : Wr h h' a sl v) (q : a ∈ ws ∨ h0.size ≤ a) : oKp h0 h' ws (L ++ [⟨a, sl⟩]) := ⟨K.1.wr W q, fun y hy => (List.mem_append.mp hy).elim (K.2 y) fun hy => by cases List.mem_singleton.mp hy; exact q⟩
theorem oKp.call (K : oKp h0 h ws L) (K' : oKp h h' ws' L') (q : ∀ x ∈ ws', x ∈ ws ∨ h0.size ≤ x) : oKp h0 h' ws (L ++ L') := ⟨K.1.trans K'.1 q, fun y hy => (List.mem_append.mp hy).elim (K.2 y) fun hy => (K'.2 y hy).elim (q _) fun z => Or.inr (Nat.le_trans K.1.1 z)⟩
theorem oKp.le (K : oKp h0 h ws L) : h0.size ≤ h.size := K.1.1
theorem oKp.old (K : oKp h0 h ws L) (O : Ext Z.heap h0) (q : ∀ x ∈ ws, Z.heap.size ≤ x) : Ext Z.heap h := ⟨Nat.le_trans O.1 K.1.1, fun x c hc => K.1.2.1 x c (O.2 x c hc) fun hx => absurd (Array.getElem?_eq_some_iff.mp hc).1 (Nat.not_lt.mpr (q x hx))⟩
theorem oKp.fr (K : oKp h0 h [] L) : Fr h0.size L := fun y hy => (K.2 y hy).elim (fun q => nomatch q) id
theorem oExtRefl (h : Heap) : Ext h h := ⟨Nat.le_refl _, fun _ _ q => q⟩
theorem Ext.keep0 (E : Ext h h') : Keep h h' [] := ⟨E.1, fun x c q _ => E.2 x c q, fun x c q => ⟨c, E.2 x c q, rfl, rfl, rfl⟩⟩
end OwnC
/-- a truth as an int -/
def oBi (P : Prop) [Decidable P] : Int32 := if P then 1 else 0
theorem oBi_t {P : Prop} [Decidable P] (h : P) : oBi P = 1 := if_pos h
theorem oBi_f {P : Prop} [Decidable P] (h : ¬ P) : oBi P = 0 := if_neg h
theorem oBi_ne {P : Prop} [Decidable P] (h : P) : ¬ oBi P = 0 := by rw [oBi_t h]; decide
theorem oBi_01 (P : Prop) [Decidable P] : oBi P = 0 ∨ oBi P = 1 := by by_cases h : P; exact Or.inr (if_pos h); exact Or.inl (if_neg h)
theorem oBi_0 {P : Prop} [Decidable P] (h : oBi P = 0) : ¬ P := fun q => oBi_ne q h
theorem oBi_1 {P : Prop} [Decidable P] (h : ¬ oBi P = 0) : P := Decidable.byContradiction fun q => h (oBi_f q)
section OwnD
variable {args : Array Value} {Z : State} {t u : Term} {C n d K : String} {a b : Addr} {k : Int32}
theorem oFldR (ht : t.eval args Z none [] Z = some (.ref a)) (hu : u.eval args Z none [] Z = some (.ref b)) (h : (Jvm.Cond.eq (.field t C n d) u).value args Z none Z [] = some true) : Fld Z Z.heap a C n d (.ref b) := by
  obtain ⟨x, y, e1, e2, k1, k2⟩ := cmp_v (Or.inl h)
  cases hu.symm.trans e2
  have hx : x.isRef = true := k2.2
  have q := gotT (eq_R e1 e2 hx rfl) h
  subst q
  exact Fld.start ((fld_at ht).symm.trans e1)
theorem oFldI (ht : t.eval args Z none [] Z = some (.ref a)) (h : (Jvm.Cond.eq (.field t C n d) (.int k)).value args Z none Z [] = some true) : Fld Z Z.heap a C n d (.int k) := by
  obtain ⟨x, y, e1, e2, k1, k2⟩ := cmp_v (Or.inl h)
  cases (Option.some.inj e2 : Value.int k = y)
  obtain ⟨z, rfl⟩ := (k2 : ∃ z, x = .int z)
  have q : z = k := by
    have h' := h
    simp only [Cond.value, e1, e2] at h'
    simpa using h'
  subst q
  exact Fld.start ((fld_at ht).symm.trans e1)
theorem oFldX (ht : t.eval args Z none [] Z = some (.ref a)) (h : (Jvm.Cond.exactly (.field t C n d) K).value args Z none Z [] = some true) : ∃ b, (Term.field t C n d).eval args Z none [] Z = some (.ref b) ∧ Fld Z Z.heap a C n d (.ref b) ∧ Exa Z Z.heap b K := by
  obtain ⟨b, e1⟩ := exa_v h
  exact ⟨b, e1, Fld.start ((fld_at ht).symm.trans e1), Exa.start e1 h⟩
theorem oNe32 {x y : Int32} (h : ¬ x = y) : x.toInt ≠ y.toInt := fun q => h (Int32.toInt_inj.mp q)
end OwnD
section OwnE
variable {Z : State} {a0 : Array Value} {C O K : String} {n : Nat} {h h' : Heap} {a : Addr} {ws : List Addr}
theorem oNSroot (wo : (Jvm.Cond.noSuperclass O).before a0 Z = true) (wk : (Jvm.Cond.instantiable K n).before a0 Z = true) (h2 : O ≠ K) : NS Z O K := by
  obtain ⟨t, kt, g1, -⟩ := Cond.instantiable_spec wk
  obtain ⟨c, k, a1, a2, a3, -, -⟩ := Cond.noSuperclass_spec wo
  have ne := ids_ne a1 g1 h2
  refine ⟨c, t, a1, g1, fun fuel => ?_⟩
  cases fuel with
  | zero => rfl
  | succ f => simp [Vm.isSubclassAux, ne, a2, a3]
theorem oNSno (w : (Jvm.Cond.superclass C O).before a0 Z = true) (wk : (Jvm.Cond.instantiable K n).before a0 Z = true) (N : NS Z C K) (h1 : C ≠ K) : ∃ c t, Z.vm.findClass C = some c ∧ Z.vm.findClass K = some t ∧ Z.vm.assignable c t = false := by
  obtain ⟨t, kt, g1, g2, g3, g4, -⟩ := Cond.instantiable_spec wk
  obtain ⟨c, t', b0, b1, b2⟩ := N
  cases g1.symm.trans b1
  obtain ⟨p, k, kp, e1, e2, e3, e4, e5, -, e7⟩ := Cond.superclass_spec b0 w
  have ne := ids_ne b0 g1 h1
  have gi : kt.isInterface = false := by simp only [Bool.or_eq_false_iff] at g4; exact g4.1
  refine ⟨c, t, b0, g1, ?_⟩
  show Z.vm.assignableAux (255 + 1) c t = false
  simp [Vm.assignableAux, ne, e2, g2, e5, g3, gi, Vm.isSubclass, b2]
theorem oNotInst (w : (Jvm.Cond.superclass C O).before a0 Z = true) (wo : (Jvm.Cond.noSuperclass O).before a0 Z = true) (wk : (Jvm.Cond.instantiable K n).before a0 Z = true) (h1 : C ≠ K) (h2 : O ≠ K) : ∃ c t, Z.vm.findClass C = some c ∧ Z.vm.findClass K = some t ∧ Z.vm.assignable c t = false :=
  oNSno w wk (NS.step w (oNSroot wo wk h2) h1) h1
theorem oInsKeep {b : Bool} (F : Ins Z h a K b) (H : Keep h h' ws) : Ins Z h' a K b := by
  obtain ⟨cell, cT, h1, h2, h3⟩ := F
  obtain ⟨c', e1, e2, e3, -⟩ := H.2.2 _ _ h1
  exact ⟨c', cT, e1, h2, by rw [e2, e3]; exact h3⟩
end OwnE
theorem oNot0 {args : Array Value} {Z : State} {t : Term} {x : Int32} (h : t.eval args Z none [] Z = some (.int x)) (hn : (Jvm.Cond.not (.eq t (.int 0))).value args Z none Z [] = some true) : ¬ x = (0 : Int32) := fun q => by
  subst q
  have e : (Jvm.Cond.eq t (.int 0)).value args Z none Z [] = some true := eq_i h (Term.int_eval 0) rfl
  simp [Cond.value] at hn e
  rw [e] at hn
  simp at hn
theorem oFldD {args : Array Value} {Z : State} {t : Term} {C n d : String} {a : Addr} {k : Int64} (ht : t.eval args Z none [] Z = some (.ref a)) (h : (Jvm.Cond.eq (.field t C n d) (.op1 .bitsD (.long k))).value args Z none Z [] = some true) : Fld Z Z.heap a C n d (.double k.toUInt64) := by
  obtain ⟨x, y, e1, e2, k1, k2⟩ := cmp_v (Or.inl h)
  have e3 : (Term.op1 .bitsD (.long k)).eval args Z none [] Z = some (.double k.toUInt64) := rfl
  cases e3.symm.trans e2
  obtain ⟨z, rfl⟩ := (k2 : ∃ z, x = .double z)
  have q : z = k.toUInt64 := by
    have h' := h
    simp only [Cond.value, e1, e2] at h'
    simpa using h'
  subst q
  exact Fld.start ((fld_at ht).symm.trans e1)
section OwnF
variable {p : Program} {l : Launch} {e : Env} {R : Room} {s : State} {m : MethodId} {args : Array Value} {below : List Frame} {meth : Method} {c : Code} {T : State} {locs : List Loc} {cells slots : Nat} {Z : State} {a0 : Array Value} {h : Heap} {own C : String} {index : Nat} {a mr : Addr}
/-- the Class object of C has been made: mr -/
def oMir (Z : State) (C : String) (mr : Addr) : Prop := ∃ (c : ClassId) (k : Class), Z.vm.findClass C = some c ∧ Z.vm.classes[c]? = some k ∧ k.mirror = some mr
abbrev oGc : MethodName := ⟨"java/lang/Object", "getClass", "()Ljava/lang/Class;"⟩
theorem oGcls (X : Stand p l e R s m args below meth c T locs cells slots) (hx : p.tables.exec = Jvm.exec) (hZ : Z.Warmed39 s.vm) (hown : s.vm.findClass own = some m.cls) (w1 : (Jvm.Cond.methodLink own index oGc).before a0 Z = true) (w2 : (Jvm.Cond.declares oGc).before a0 Z = true) (w4 : (Jvm.Cond.selects C oGc oGc).before a0 Z = true) (w5 : (Jvm.Cond.instanceMethod oGc).before a0 Z = true) (w6 : (Jvm.Cond.native oGc).before a0 Z = true) (eT : T.heap = h) (E : Exa Z h a C) (M : oMir Z C mr)
    {g : JFrame} (hg : g.method = m) (hsize : g.locals.size = c.maxLocals) {rest : List Value} (hs : g.stack = .ref a :: rest) (hd : decode c.code g.pc = .ok (.invokevirtual index, 3)) (hf : 1 ≤ R.frames) {W : Nat} (hW : 2 * g.monitorRoom + (rest.map fun v => v.category).sum ≤ W) (hl : W + (nativeFrameWords "java/lang/Object" "getClass" 1 + 11) ≤ R.locals) :
    ∃ T', Stand p l e R s m args below meth c T' locs cells slots ∧ T'.heap = h ∧ ∀ target, Steps p.tables e below (T'.setTop { g with pc := g.pc + 3, stack := .ref mr :: rest }) target → Steps p.tables e below (T.setTop g) target := by
  obtain ⟨cB, kB, i1, i2, i3⟩ := isOf hZ eT E
  obtain ⟨cc, kc, m1, m2, m3⟩ := M
  have i0 := i1
  rw [hZ.alike.findClass] at i1
  cases i1.symm.trans m1
  obtain ⟨k', q, ek⟩ := hZ.alike.2.2 _ _ m2
  obtain ⟨vm', X', st⟩ := X.getClassOf hx hown (mvT hZ w1) (mvT hZ w2) (notFace_of_selects (args := #[]) (mvT hZ w4)) (mvT hZ w4) (mvT hZ w5) (mvT hZ w6) i0 i3 q (by rw [ek]; exact m3) hg hsize hs hd hf (by omega)
  exact ⟨_, X', eT, st⟩
theorem oLdcM (X : Stand p l e R s m args below meth c T locs cells slots) (hx : p.tables.exec = Jvm.exec) (hZ : Z.Warmed39 s.vm) (hown : s.vm.findClass own = some m.cls) (w : (Jvm.Cond.classLink own index C).before a0 Z = true) (eT : T.heap = h) (M : oMir Z C mr)
    {g : JFrame} (hg : g.method = m) (hd : decode c.code g.pc = .ok (.ldc index, 2)) : ∃ T', Stand p l e R s m args below meth c T' locs cells slots ∧ T'.heap = h ∧ ∀ target, Steps p.tables e below (T'.setTop { g with pc := g.pc + 2, stack := .ref mr :: g.stack }) target → Steps p.tables e below (T.setTop g) target := by
  obtain ⟨cc, kc, m1, m2, m3⟩ := M
  obtain ⟨k', q, ek⟩ := hZ.alike.2.2 _ _ m2
  have f1 : s.vm.findClass C = some cc := by rw [hZ.alike.findClass]; exact m1
  have f2 : k'.mirror = some mr := by rw [ek]; exact m3
  obtain ⟨vm', X', st⟩ := X.ldcMirror hx hown (mvT hZ w) (a := mr) (by simp [Term.eval, f1, q, f2]) hg hd
  exact ⟨_, X', eT, st⟩
end OwnF
theorem oArr0 {args : Array Value} {Z : State} {t : Term} {a : Addr} {ty : FieldType} {dv : Value} (hf : Fit Z) (ev : t.eval args Z none [] Z = some (.ref a)) (h1 : (Jvm.Cond.arrayOf t ty).value args Z none Z [] = some true) (h2 : (Jvm.Cond.eq (.length t) (.int 0)).value args Z none Z [] = some true) : ∃ k, Arv Z Z.heap a k ty 0 [] dv := by
  obtain ⟨cl, A⟩ := Arr.start ev h1
  have ha : Z.arrayAt? a = some cl := Arr.fin (Vm.Alike.refl _) A
  have hlt : cl.slots.size < 2 ^ 31 := by
    apply Decidable.byContradiction
    intro q
    have e : (Term.length t).eval args Z none [] Z = none := by
      cases hv : (Term.length t).eval args Z none [] Z with
      | none => rfl
      | some y =>
        simp only [Term.eval, Option.bind_eq_bind] at hv
        rw [ev] at hv
        simp [ha, q] at hv
    simp [Cond.value, e] at h2
  have e : (Term.length t).eval args Z none [] Z = some (.int cl.slots.size.toInt32) := len_f ev ha hlt
  have z : cl.slots.size.toInt32 = 0 := by
    have h' := h2
    simp only [Cond.value, e, Term.int_eval] at h'
    simpa using h'
  have z' : cl.slots.size = 0 := by
    have := len_toInt hlt
    rw [z] at this
    have r : (0 : Int32).toInt = 0 := by decide
    omega
  exact ⟨_, Arv.start hf A hlt z (by decide) rfl trivial⟩
theorem oNar01 {z : Int32} (hz : z = 0 ∨ z = 1) : narrow .boolean (.int z) = .int z := by rcases hz with rfl | rfl <;> rfl
theorem oFitC {x : Int32} (h : 0 ≤ x.toInt ∧ x.toInt < 256) : fits .char (.int x) = true := by
  have e : x.toUInt32.toUInt16.toUInt32.toInt32 = x := by
    have a := c_i2c x
    apply Int32.toInt_inj.mp
    omega
  have q := fits_nar_char x
  have r : nar .char x = x := e
  rw [r] at q; exact q
section OwnH
variable {p : Program} {l : Launch} {e : Env} {R : Room} {s : State} {m : MethodId} {args : Array Value} {below : List Frame} {meth : Method} {c : Code} {T : State} {locs : List Loc} {cells slots : Nat} {Z : State} {a0 : Array Value} {EL : List (String × Nat)} {h h' h0 : Heap} {vm : Vm} {ws : List Addr} {a : Addr} {sl : Nat} {v : Value}
/-- what is known of the tables since the start: no pair of the intern table is old; the constants held still hold their texts -/
def oB (Z : State) (EL : List (String × Nat)) (s : State) (h0 : Heap) (vm : Vm) (h : Heap) : Prop := (∃ k0, s.Since vm k0 ∧ k0 ≤ h.size) ∧ CHr Z EL s.vm h0 vm h
theorem oB.ext (B : oB Z EL s h0 vm h) (E : Ext h h') : oB Z EL s h0 vm h' := ⟨B.1.imp fun _ q => ⟨q.1, Nat.le_trans q.2 E.1⟩, B.2.trans (CHr.ext E B.2.1)⟩
theorem oB.new {o : Addr} (B : oB Z EL s h0 vm h) (q : h.size ≤ o) : Safe Z EL vm h o := Safe.new q
theorem oB.wr (B : oB Z EL s h0 vm h) (W : Wr h h' a sl v) (S : Safe Z EL vm h a) : oB Z EL s h0 vm h' := ⟨B.1.imp fun _ q => ⟨q.1, by rw [W.size]; exact q.2⟩, B.2.trans (CHr.wr W S B.2.1)⟩
theorem oB.keep (B : oB Z EL s h0 vm h) (K : Keep h h' ws) (S : ∀ x ∈ ws, Safe Z EL vm h x) : oB Z EL s h0 vm h' := ⟨B.1.imp fun _ q => ⟨q.1, Nat.le_trans q.2 K.1⟩, B.2.trans (CHr.keep K S B.2.1)⟩
def oDnH (Z : State) (EL : List (String × Nat)) (s : State) (h0 : Heap) (below : List Frame) (Q : Option Value → Heap → List Loc → Prop) (k n : Nat) (t : State) : Prop := t.status = .running ∧ ∃ v L, Ended t below (.returned v) ∧ Q v t.heap L ∧ CHr Z EL s.vm h0 t.vm t.heap ∧ ReturnedEndW s (.returned v) t L k n
/-- a contract of a body that may load String constants; sf: objects that no constant's text lies in -/
abbrev oConH (l : Launch) (Z : State) (EL : List (String × Nat)) (y : MethodName) (bytes : ByteArray) (maxL : Nat) (ret : Option FieldType) (ws : List Jvm.Cond) (rm : Room) (as' : Array Value) (h0 : Heap) (sf : List Addr) (Q : Option Value → Heap → List Loc → Prop) : Prop :=
  MetFree l y (head1 (Jvm.Cond.code y bytes maxL ret :: ws) rm) (fun a U => a = as' ∧ Z.Warmed39 U.vm ∧ U.heap = h0 ∧ CHv Z EL U.vm h0 ∧ ∀ x ∈ sf, Safe Z EL U.vm h0 x) (fun _ _ _ _ _ => True) (fun _ U o U' => ∃ v L, o = .returned v ∧ Q v U'.heap L ∧ CHr Z EL U.vm U.heap U'.vm U'.heap ∧ ReturnedEndW U o U' L rm.cells rm.slots)
theorem oConH.of {l : Launch} {Z : State} {EL : List (String × Nat)} {y : MethodName} {bytes : ByteArray} {maxL : Nat} {ret : Option FieldType} {ws : List Jvm.Cond} {rm : Room} {as' : Array Value} {h0 : Heap} {sf : List Addr} {Q : Option Value → Heap → List Loc → Prop} (hp : plainFor y = true)
    (body : ∀ (p : Program) (e : Env) (s : State) (m : MethodId) (below : List Frame) (meth : Method) (c : Code) (T : State) (vm : Vm), Stand p l e rm (s.setVm vm) m as' below meth c T [] 0 0 → p.tables.exec = Jvm.exec → c.code = bytes → c.maxLocals = maxL → (s.setVm vm).vm.findClass y.cls = some m.cls → meth.name = y.name → meth.sig.returnType = ret → meth.locks = false → Z.Warmed39 (s.setVm vm).vm → T.heap = h0 → oB Z EL s h0 vm h0 → (∀ x ∈ sf, Safe Z EL vm h0 x) → oWk p.tables e below (oDnH Z EL s h0 below Q rm.cells rm.slots) T (entryFrame m as' maxL)) :
    oConH l Z EL y bytes maxL ret ws rm as' h0 sf Q := by
  refine MetFree.of_bodySF hp hisR ?_
  intro p e s m args below meth c s₁ Bd hml0 hP hK
  obtain ⟨rfl, hZ, hh, hC, hs⟩ := hP
  have e0 : s₁.heap = h0 := by rw [← hh, Bd.state]; rfl
  obtain ⟨t, h1, h2, v, L, h3, h4, h5, h6⟩ := body p e s m below meth c s₁ s.vm (Stand.of_body Bd) Bd.exec Bd.bytes hml0 (findClass_of_methodNamed Bd.named) (name_of_methodNamed Bd.named Bd.method).1 Bd.returns Bd.notSynchronized hZ e0 ⟨⟨h0.size, (State.WarmedH.refl s).since _, Nat.le_refl _⟩, CHr.refl hC⟩ hs
  exact ⟨t, _, h1, h2, h3, v, L, rfl, h4, by rw [hh]; exact h5, h6⟩
section Rets
variable {Q : Option Value → Heap → List Loc → Prop} {k n pc : Nat} {Ls : Array Slot}
theorem oRetH (X : Stand p l e R (s.setVm vm) m args below meth c T locs cells slots) (hx : p.tables.exec = Jvm.exec) (hlk : meth.locks = false) (hZ : Z.Warmed39 (s.setVm vm).vm) (hEL : EW Z a0 EL) (e0 : T.heap = h) (B : oB Z EL s h0 vm h) {w : Value} {t : FieldType} {i : Instr} {rest : List Value} (hret : meth.sig.returnType = some t) (hn : narrow t w = w)
    (hi : (i = .ireturn ∧ (t = .int ∨ t = .boolean ∨ t = .byte ∨ t = .char ∨ t = .short) ∧ ∃ z, w = .int z) ∨ (i = .lreturn ∧ t = .long ∧ ∃ z, w = .long z) ∨ (i = .dreturn ∧ t = .double ∧ ∃ z, w = .double z) ∨ (i = .freturn ∧ t = .float ∧ ∃ z, w = .float z) ∨ (i = .areturn ∧ t.isReference = true ∧ w.isRef = true))
    (hd : decode c.code pc = .ok (i, 1)) (hQ : Q (some w) T.heap locs) (hk : cells ≤ k) (hs : slots ≤ n) : oWk p.tables e below (oDnH Z EL s h0 below Q k n) T (mkF m pc Ls (w :: rest)) := by
  obtain ⟨⟨k0, hS, hk0⟩, C⟩ := B
  obtain ⟨fs, hr, hrun, hended, hW⟩ := X.leaveW hS (by rw [e0]; exact hk0) (v := some w) (fun h => by rw [hret] at h; cases h) hlk
  have C2 := C.trans (CHv.at X hZ hEL C.1)
  refine ⟨_, retOut X hx hret hn hi hd hr, hrun, _, _, hended, hQ, ?_, hW.1, hW.2.1, hW.2.2.1, hW.2.2.2.mono hk hs⟩
  show CHr Z EL s.vm h0 T.vm T.heap
  rw [e0]; exact C2
theorem oRetHV (X : Stand p l e R (s.setVm vm) m args below meth c T locs cells slots) (hx : p.tables.exec = Jvm.exec) (hlk : meth.locks = false) (hZ : Z.Warmed39 (s.setVm vm).vm) (hEL : EW Z a0 EL) (e0 : T.heap = h) (B : oB Z EL s h0 vm h) (hret : meth.sig.returnType = none) (hd : decode c.code pc = .ok (.return_, 1)) (hQ : Q none T.heap locs) (hk : cells ≤ k) (hs : slots ≤ n) :
    oWk p.tables e below (oDnH Z EL s h0 below Q k n) T (mkF m pc Ls []) := by
  obtain ⟨⟨k0, hS, hk0⟩, C⟩ := B
  obtain ⟨fs, hr, hrun, hended, hW⟩ := X.leaveW hS (by rw [e0]; exact hk0) (v := none) (fun _ => rfl) hlk
  have C2 := C.trans (CHv.at X hZ hEL C.1)
  refine ⟨_, X.returnOut hx hret hd hr, hrun, _, _, hended, hQ, ?_, hW.1, hW.2.1, hW.2.2.1, hW.2.2.2.mono hk hs⟩
  show CHr Z EL s.vm h0 T.vm T.heap
  rw [e0]; exact C2
end Rets
/-- a callee that may load String constants, by its contract -/
theorem oBackH {y : MethodName} {bytes : ByteArray} {maxL : Nat} {ret : Option FieldType} {rm : Room} {len W : Nat} {as' : Array Value} {Q : Option Value → Heap → List Loc → Prop} {sf : List Addr}
    (hM : oConH l Z EL y bytes maxL ret [] rm as' h sf Q) (hZ : Z.Warmed39 (s.setVm vm).vm) (wc : (Jvm.Cond.code y bytes maxL ret).before a0 Z = true) (wz : (Jvm.Cond.initialized y.cls).before a0 Z = true) (hf : rm.frames + 1 ≤ R.frames) (hl : W + (maxL + 11) + rm.locals ≤ R.locals) (hEL : EW Z a0 EL) (H : CHv Z EL vm h) (hs : ∀ x ∈ sf, x < h.size ∧ Safe Z EL vm h x) :
    BackS l R p e below (s.setVm vm) args y len W (fun A a => a = as' ∧ A.U.heap = h ∧ A.cells + rm.cells ≤ R.cells ∧ A.slots + rm.slots ≤ R.slots)
      (fun A _ v B => ∃ L, Q v B.U.heap L ∧ B.locs = A.locs ++ L ∧ B.cells = A.cells + rm.cells ∧ B.slots = A.slots + rm.slots ∧ CHr Z EL vm h B.U.vm B.U.heap) := by
  refine BackS.of_freeW (bytes := bytes) (maxL := maxL) (ret := ret) (E := fun _ first o t L k n => k = rm.cells ∧ n = rm.slots ∧ (∃ v, o = .returned v ∧ Q v t.heap L) ∧ CHr Z EL first.vm first.heap t.vm t.heap) hM hf hl ?_ ?_ (fun _ _ _ _ _ _ _ _ _ => trivial) ?_ ?_
  · intro m meth c A a Y hp
    have hU : Z.Warmed39 A.U.vm := wtrans (s := s.setVm vm) hZ Y.warmed
    exact ⟨by show (Cond.and _ .tt).before a A.U = true; rw [Cond.before_and, mv hU wc]; rfl, mv hU wc, mv hU wz, hp.2.2.1, hp.2.2.2⟩
  · intro m meth c A a g mk Y hp
    have D := CHv.at Y hZ hEL H
    exact ⟨hp.1, wtrans (s := s.setVm vm) hZ Y.warmed, hp.2.1, D.1, fun x hx => D.safe (hs x hx).1 (hs x hx).2⟩
  · rintro _ _ _ _ ⟨v, L, h1, h2, h3, h4⟩
    exact ⟨L, _, _, h4, rfl, rfl, ⟨v, h1, h2⟩, h3⟩
  · rintro m meth c A a g mk v t L k n Y hp _ _ ⟨e1, e2, ⟨v', e3, e4⟩, e5⟩
    cases e3; subst e1 e2
    refine ⟨L, e4, rfl, rfl, rfl, (CHv.at Y hZ hEL H).trans ?_⟩
    rw [← hp.2.1]; exact e5
/-- the tables behind such a call -/
theorem oB.call {U : State} (B : oB Z EL s h0 vm h) (hT : T.heap = h) (h2 : (s.setVm vm).Since U.vm U.heap.size) (g : T.heap.size ≤ U.heap.size) (C : CHr Z EL vm h U.vm U.heap) (e1 : U.heap = h') : oB Z EL s h0 U.vm h' := by
  subst e1
  obtain ⟨⟨k0, hS, hk0⟩, D⟩ := B
  exact ⟨⟨_, foldS (T := T) hS (by rw [hT]; exact hk0) h2 g, Nat.le_refl _⟩, D.trans C⟩
theorem oWide {U : State} {own : String} (hZ : Z.Warmed39 (s.setVm vm).vm) (hown : (s.setVm vm).vm.findClass own = some m.cls) (h2 : (s.setVm vm).Since U.vm U.heap.size) : Z.Warmed39 (s.setVm U.vm).vm ∧ (s.setVm U.vm).vm.findClass own = some m.cls :=
  ⟨State.Warmed39.trans (t := s.setVm vm) hZ h2.1, by show U.vm.findClass own = _; rw [h2.1.alike.findClass]; exact hown⟩
/-- ldc of a String constant, opaque -/
theorem oLdcO {own text : String} {index : Nat} (X : Stand p l e R (s.setVm vm) m args below meth c T locs cells slots) (hx : p.tables.exec = Jvm.exec) (hZ : Z.Warmed39 (s.setVm vm).vm) (hown : (s.setVm vm).vm.findClass own = some m.cls) (w : (Jvm.Cond.stringLink own index text).before a0 Z = true) (wS : ∀ a ∈ Bundle.stringAtoms, a.before a0 Z = true) (eT : T.heap = h) (hEL : EW Z a0 EL) (B : oB Z EL s h0 vm h)
    {g : JFrame} (hg : g.method = m) (hd : decode c.code g.pc = .ok (.ldc index, 2)) {n : Nat} (hn : 4 * text.toList.length ≤ n) (hbig : n ≤ 536870912) (hc : cells + 2 ≤ R.cells) (hl' : slots + (n + 4) ≤ R.slots) :
    ∃ (a : Addr) (T' : State) (h' : Heap), Stand p l e R (s.setVm T'.vm) m args below meth c T' locs (cells + 2) (slots + (n + 4)) ∧ T'.heap = h' ∧ Ext h h' ∧ Z.Warmed39 (s.setVm T'.vm).vm ∧ (s.setVm T'.vm).vm.findClass own = some m.cls ∧ oB Z EL s h0 T'.vm h' ∧ CHr Z EL vm h T'.vm h' ∧
      ∀ target, Steps p.tables e below (T'.setTop { g with pc := g.pc + 2, stack := .ref a :: g.stack }) target → Steps p.tables e below (T.setTop g) target := by
  obtain ⟨⟨k0, hS, hk0⟩, C⟩ := B
  obtain ⟨a, T', h', k1, X', e1, E, hS', hk1, hZ', hown', C', -, st⟩ := ldcOH X hx hZ hown w wS eT hS hk0 hEL C.1 hg hd hn hbig hc hl'
  exact ⟨a, T', h', X', e1, E, hZ', hown', ⟨⟨k1, hS', hk1⟩, C.trans C'⟩, C', st⟩
/-- ldc of a String constant of EL, read -/
theorem oLdcR {own text : String} {index : Nat} (X : Stand p l e R (s.setVm vm) m args below meth c T locs cells slots) (hx : p.tables.exec = Jvm.exec) (hZ : Z.Warmed39 (s.setVm vm).vm) (hown : (s.setVm vm).vm.findClass own = some m.cls) (w : (Jvm.Cond.stringLink own index text).before a0 Z = true) (wS : ∀ a ∈ Bundle.stringAtoms, a.before a0 Z = true) (eT : T.heap = h) (hEL : EW Z a0 EL) (hmem : (own, index) ∈ EL) (B : oB Z EL s h0 vm h)
    {vs : List Value} {z : Int32} (ht : (∀ c ∈ text.toList, c.toNat < 256) ∧ text.toList.map (fun c => Value.int (Jvm.Lit.byteI c.toNat.toUInt16)) = vs) (hz : ¬ z < 0) (hl : z.toNatClampNeg = vs.length)
    {g : JFrame} (hg : g.method = m) (hd : decode c.code g.pc = .ok (.ldc index, 2)) {n : Nat} (hn : 4 * text.toList.length ≤ n) (hbig : n ≤ 536870912) (hc : cells + 2 ≤ R.cells) (hl' : slots + (n + 4) ≤ R.slots) :
    ∃ (a : Addr) (T' : State) (h' : Heap) (b : Addr) (k : ClassId), Stand p l e R (s.setVm T'.vm) m args below meth c T' locs (cells + 2) (slots + (n + 4)) ∧ T'.heap = h' ∧ Ext h h' ∧ Z.Warmed39 (s.setVm T'.vm).vm ∧ (s.setVm T'.vm).vm.findClass own = some m.cls ∧ oB Z EL s h0 T'.vm h' ∧ CHr Z EL vm h T'.vm h' ∧
      Exa Z h' a "java/lang/String" ∧ Fld Z h' a "java/lang/String" "coder" "B" (.int 0) ∧ Fld Z h' a "java/lang/String" "value" "[B" (.ref b) ∧ Arv Z h' b k .byte z vs (.int 0) ∧ (∀ x, Safe Z EL T'.vm h' x → x ≠ a ∧ x ≠ b) ∧
      ∀ target, Steps p.tables e below (T'.setTop { g with pc := g.pc + 2, stack := .ref a :: g.stack }) target → Steps p.tables e below (T.setTop g) target := by
  obtain ⟨⟨k0, hS, hk0⟩, C⟩ := B
  obtain ⟨a, T', h', k1, b, k, X', e1, E, hS', hk1, hZ', hown', f1, f2, f3, f4, -, -, C', -, hne, st⟩ := ldcCH X hx hZ hown w wS eT hS hk0 hEL hmem C.1 ht hz hl hg hd hn hbig hc hl'
  exact ⟨a, T', h', b, k, X', e1, E, hZ', hown', ⟨⟨k1, hS', hk1⟩, C.trans C'⟩, C', f1, f2, f3, f4, hne, st⟩
end OwnH
/-- the sheet's words -/
abbrev oHW (a0 : Array Value) (Z : State) : Prop := ∀ d ∈ tables_1, d.before a0 Z = true
/-- a byte out of a char -/
abbrev ib (x : Int32) : Value := .int x.toInt8.toInt32
/-- a call's place: whoever stands there and has the callee's contract comes out behind it -/
def oCall (Z : State) (own : String) (i : Instr) (y : MethodName) (bytes : ByteArray) (maxL : Nat) (ret : Option FieldType) (P : Heap → List Value → Prop) : Prop :=
  ∀ (p : Program) (l : Launch) (e : Env) (R : Room) (s : State) (m : MethodId) (args : Array Value) (below : List Frame) (meth : Method) (c : Code) (T : State) (locs : List Loc) (cells slots : Nat) (h : Heap) (rm : Room) (Q : Option Value → Heap → List Loc → Prop) (pc W : Nat) (Ls : Array Slot) (S rest A : List Value),
    Stand p l e R s m args below meth c T locs cells slots → p.tables.exec = Jvm.exec → Z.Warmed39 s.vm → s.vm.findClass own = some m.cls → T.heap = h → P h A → oCon l Z y bytes maxL ret [] rm A.toArray h Q →
    (rm.frames + 1 ≤ R.frames ∧ W + (maxL + 11) + rm.locals ≤ R.locals ∧ cells + rm.cells ≤ R.cells ∧ slots + rm.slots ≤ R.slots) → Ls.size = c.maxLocals → S = A.reverse ++ rest → (rest.map fun v => v.category).sum = W → decode c.code pc = .ok (i, 3) →
    ∃ (v : Option Value) (T' : State) (L : List Loc), Stand p l e R s m args below meth c T' (locs ++ L) (cells + rm.cells) (slots + rm.slots) ∧ Q v T'.heap L ∧ ∀ t, Steps p.tables e below (T'.setTop (mkF m (pc + 3) Ls (v.toList ++ rest))) t → Steps p.tables e below (T.setTop (mkF m pc Ls S)) t
section OwnK
variable {Z : State} {a0 : Array Value} {own C : String} {index : Nat} {y z : MethodName} {bytes : ByteArray} {maxL : Nat} {ret : Option FieldType} {ps : List FieldType} {r : Option FieldType}
abbrev oRv (Z : State) (n : Nat) (C : String) (h : Heap) (A : List Value) : Prop := A.length = n + 1 ∧ ∃ o B, A = .ref o :: B ∧ Exa Z h o C
abbrev oRi (n : Nat) (_ : Heap) (A : List Value) : Prop := A.length = n + 1 ∧ ∃ (o : Addr) (B : List Value), A = .ref o :: B
abbrev oRs (n : Nat) (_ : Heap) (A : List Value) : Prop := A.length = n
theorem oLenOf {d : String} (hd : parseMethodDescriptor d = some ⟨ps, r⟩) {L : List Value} (hl : L.length = ps.length) : ∀ sig, parseMethodDescriptor d = some sig → L.length = sig.parameters.length := lenOf hd hl
theorem oCall.stat (w1 : (Jvm.Cond.methodLink own index y).before a0 Z = true) (w2 : (Jvm.Cond.static y).before a0 Z = true) (w3 : (Jvm.Cond.initialized y.cls).before a0 Z = true) (w4 : (Jvm.Cond.code y bytes maxL ret).before a0 Z = true) (hy : y.cls ≠ "java/lang/invoke/MethodHandle" ∧ y.cls ≠ "java/lang/invoke/VarHandle") (hd : parseMethodDescriptor y.desc = some ⟨ps, r⟩) :
    oCall Z own (.invokestatic index) y bytes maxL ret (oRs ps.length) := by
  intro p l e R s m args below meth c T locs cells slots h rm Q pc W Ls S rest A X hx hZ hown e0 hP con hN hsz hS hW hdg
  obtain ⟨v, _, ⟨T', L', k', n'⟩, -, X', ⟨L, hQ, l1, y1, z1⟩, st⟩ := Jvm.LawKit.callS X hx (y := y) hown (mvT hZ w1) (mvT hZ w2) (mvT hZ w3) (mvT hZ w4) hy (backOf (W := W) con hZ w4 w3 hN.1 hN.2.1) (g := mkF m pc Ls S) rfl hsz (argsL := A) (rest := rest) (lenOf hd hP) hS (by show 2 * 0 + _ ≤ W; rw [hW, Nat.mul_zero, Nat.zero_add]; exact Nat.le_refl _) hdg (fun _ _ => ⟨rfl, e0, hN.2.2.1, hN.2.2.2⟩)
  dsimp only [Pt.U, Pt.locs, Pt.cells, Pt.slots] at X' l1 y1 z1 st hQ
  subst l1 y1 z1
  exact ⟨v, T', L, X', hQ, st⟩
theorem oCall.init (h1 : y.name = "<init>") (w1 : (Jvm.Cond.methodLink own index y).before a0 Z = true) (w2 : (Jvm.Cond.instanceMethod y).before a0 Z = true) (w3 : (Jvm.Cond.initialized y.cls).before a0 Z = true) (w4 : (Jvm.Cond.code y bytes maxL none).before a0 Z = true) (hy : y.cls ≠ "java/lang/invoke/MethodHandle" ∧ y.cls ≠ "java/lang/invoke/VarHandle") (hd : parseMethodDescriptor y.desc = some ⟨ps, r⟩) :
    oCall Z own (.invokespecial index) y bytes maxL none (oRi ps.length) := by
  intro p l e R s m args below meth c T locs cells slots h rm Q pc W Ls S rest A X hx hZ hown e0 hP con hN hsz hS hW hdg
  obtain ⟨hl, o, B, rfl⟩ := hP
  obtain ⟨v, _, ⟨T', L', k', n'⟩, -, X', ⟨L, hQ, l1, y1, z1⟩, st⟩ := X.specialBack hx (y := y) h1 hown (mvT hZ w1) (mvT hZ w2) (mvT hZ w4) hy (backOf (W := W) con hZ w4 w3 hN.1 hN.2.1) (g := mkF m pc Ls S) rfl hsz (Steps.refl _) (a := o) (argsL := B) (rest := rest) (lenOf hd (Nat.succ.inj hl)) (by rw [show (mkF m pc Ls S).stack = S from rfl, hS, List.reverse_cons, List.append_assoc]; rfl) (by show 2 * 0 + _ ≤ W; rw [hW, Nat.mul_zero, Nat.zero_add]; exact Nat.le_refl _) hdg (fun _ _ => ⟨rfl, e0, hN.2.2.1, hN.2.2.2⟩)
  dsimp only [Pt.U, Pt.locs, Pt.cells, Pt.slots] at X' l1 y1 z1 st hQ
  subst l1 y1 z1
  exact ⟨v, T', L, X', hQ, fun t k => st.trans k⟩
theorem oCall.initN {host : String} (h1 : y.name = "<init>") (w1 : (Jvm.Cond.methodLinkNest own index y host).before a0 Z = true) (w2 : (Jvm.Cond.instanceMethod y).before a0 Z = true) (w3 : (Jvm.Cond.initialized y.cls).before a0 Z = true) (w4 : (Jvm.Cond.code y bytes maxL none).before a0 Z = true) (hy : y.cls ≠ "java/lang/invoke/MethodHandle" ∧ y.cls ≠ "java/lang/invoke/VarHandle") (hd : parseMethodDescriptor y.desc = some ⟨ps, r⟩) :
    oCall Z own (.invokespecial index) y bytes maxL none (oRi ps.length) := by
  intro p l e R s m args below meth c T locs cells slots h rm Q pc W Ls S rest A X hx hZ hown e0 hP con hN hsz hS hW hdg
  obtain ⟨hl, o, B, rfl⟩ := hP
  obtain ⟨v, _, ⟨T', L', k', n'⟩, -, X', ⟨L, hQ, l1, y1, z1⟩, st⟩ := X.specialBackNest hx (y := y) h1 hown (oMvM hZ w1) (mvT hZ w2) (mvT hZ w4) hy (backOf (W := W) con hZ w4 w3 hN.1 hN.2.1) (g := mkF m pc Ls S) rfl hsz (Steps.refl _) (a := o) (argsL := B) (rest := rest) (lenOf hd (Nat.succ.inj hl)) (by rw [show (mkF m pc Ls S).stack = S from rfl, hS, List.reverse_cons, List.append_assoc]; rfl) (by show 2 * 0 + _ ≤ W; rw [hW, Nat.mul_zero, Nat.zero_add]; exact Nat.le_refl _) hdg (fun _ _ => ⟨rfl, e0, hN.2.2.1, hN.2.2.2⟩)
  dsimp only [Pt.U, Pt.locs, Pt.cells, Pt.slots] at X' l1 y1 z1 st hQ
  subst l1 y1 z1
  exact ⟨v, T', L, X', hQ, fun t k => st.trans k⟩
theorem oCall.virt (w1 : (Jvm.Cond.methodLink own index y).before a0 Z = true) (w2 : (Jvm.Cond.declares y).before a0 Z = true) (nf : ∀ s, Z.Warmed39 s.vm → NotFace s y) (w5 : (Jvm.Cond.selects C y z).before a0 Z = true) (w6 : (Jvm.Cond.instanceMethod z).before a0 Z = true) (w3 : (Jvm.Cond.initialized z.cls).before a0 Z = true) (w4 : (Jvm.Cond.code z bytes maxL ret).before a0 Z = true) (hy : y.cls ≠ "java/lang/invoke/MethodHandle" ∧ y.cls ≠ "java/lang/invoke/VarHandle") (hd : parseMethodDescriptor y.desc = some ⟨ps, r⟩) :
    oCall Z own (.invokevirtual index) z bytes maxL ret (oRv Z ps.length C) := by
  intro p l e R s m args below meth c T locs cells slots h rm Q pc W Ls S rest A X hx hZ hown e0 hP con hN hsz hS hW hdg
  obtain ⟨hl, o, B, rfl, E⟩ := hP
  obtain ⟨cq, kq, qa, qb, qc⟩ := isOf hZ e0 E
  obtain ⟨v, _, ⟨T', L', k', n'⟩, -, X', ⟨L, hQ, l1, y1, z1⟩, st⟩ := X.virtualBack hx (y := y) (z := z) hown (mvT hZ w1) (mvT hZ w2) (nf s hZ) (mvT hZ w5) (mvT hZ w6) hy (backOf (W := W) con hZ w4 w3 hN.1 hN.2.1) qa qc (g := mkF m pc Ls S) rfl hsz (Steps.refl _) (argsL := B) (rest := rest) (lenOf hd (Nat.succ.inj hl)) (by rw [show (mkF m pc Ls S).stack = S from rfl, hS, List.reverse_cons, List.append_assoc]; rfl) (by show 2 * 0 + _ ≤ W; rw [hW, Nat.mul_zero, Nat.zero_add]; exact Nat.le_refl _) hdg (fun _ _ => ⟨rfl, e0, hN.2.2.1, hN.2.2.2⟩)
  dsimp only [Pt.U, Pt.locs, Pt.cells, Pt.slots] at X' l1 y1 z1 st hQ
  subst l1 y1 z1
  exact ⟨v, T', L, X', hQ, fun t k => st.trans k⟩
theorem oCall.priv (w1 : (Jvm.Cond.methodLink own index y).before a0 Z = true) (w2 : (Jvm.Cond.instanceMethod y).before a0 Z = true) (w5 : (Jvm.Cond.selects y.cls y y).before a0 Z = true) (w6 : (Jvm.Cond.privateMethod y).before a0 Z = true) (w3 : (Jvm.Cond.initialized y.cls).before a0 Z = true) (w4 : (Jvm.Cond.code y bytes maxL ret).before a0 Z = true) (hy : y.cls ≠ "java/lang/invoke/MethodHandle" ∧ y.cls ≠ "java/lang/invoke/VarHandle") (hd : parseMethodDescriptor y.desc = some ⟨ps, r⟩) (C : String) :
    oCall Z own (.invokevirtual index) y bytes maxL ret (oRv Z ps.length C) := by
  intro p l e R s m args below meth c T locs cells slots h rm Q pc W Ls S rest A X hx hZ hown e0 hP con hN hsz hS hW hdg
  obtain ⟨hl, o, B, rfl, E⟩ := hP
  obtain ⟨cq, qa, qb⟩ := E.cell
  obtain ⟨v, _, ⟨T', L', k', n'⟩, -, X', ⟨L, hQ, l1, y1, z1⟩, st⟩ := X.privateBack hx (y := y) hown (mvT hZ w1) (mvT hZ w2) (mvT hZ w5) (Cond.privateMethod_at (mvP hZ w6 (args := #[]))) (mvT hZ w4) hy (backOf (W := W) con hZ w4 w3 hN.1 hN.2.1) (g := mkF m pc Ls S) rfl hsz (Steps.refl _) (a := o) (by rw [e0]; exact qa) qb (argsL := B) (rest := rest) (lenOf hd (Nat.succ.inj hl)) (by rw [show (mkF m pc Ls S).stack = S from rfl, hS, List.reverse_cons, List.append_assoc]; rfl) (by show 2 * 0 + _ ≤ W; rw [hW, Nat.mul_zero, Nat.zero_add]; exact Nat.le_refl _) hdg (fun _ _ => ⟨rfl, e0, hN.2.2.1, hN.2.2.2⟩)
  dsimp only [Pt.U, Pt.locs, Pt.cells, Pt.slots] at X' l1 y1 z1 st hQ
  subst l1 y1 z1
  exact ⟨v, T', L, X', hQ, fun t k => st.trans k⟩
variable {p : Program} {l : Launch} {e : Env} {R : Room} {s : State} {m : MethodId} {args : Array Value} {below : List Frame} {meth : Method} {c : Code} {T : State} {locs : List Loc} {cells slots : Nat} {h h0 : Heap} {rm : Room} {Q : Option Value → Heap → List Loc → Prop} {pc W ml : Nat} {Ls : Array Slot} {S rest A : List Value} {i : Instr} {P : Heap → List Value → Prop} {ws : List Addr} {w : Option Value} {bb : ByteArray}
/-- a call that leaves the heap as it is -/
theorem oCall.pure (H : oCall Z own i y bytes maxL ret P) (X : Stand p l e R s m args below meth c T locs cells slots) (hx : p.tables.exec = Jvm.exec) (hZ : Z.Warmed39 s.vm) (hown : s.vm.findClass own = some m.cls) (e0 : T.heap = h) (K : oKp h0 h ws locs) (hP : P h A) (con : oCon l Z y bytes maxL ret [] rm A.toArray h Q) (hQ : ∀ v h' L, Q v h' L → v = w ∧ h' = h ∧ oKp h h' [] L)
    (hN : rm.frames + 1 ≤ R.frames ∧ W + (maxL + 11) + rm.locals ≤ R.locals ∧ cells + rm.cells ≤ R.cells ∧ slots + rm.slots ≤ R.slots) (hml : c.maxLocals = ml) (hsz : Ls.size = ml) (hS : S = A.reverse ++ rest) (hW : (rest.map fun v => v.category).sum = W) (hby : c.code = bb) (hdg : decode bb pc = .ok (i, 3)) :
    ∃ (T' : State) (L : List Loc), Stand p l e R s m args below meth c T' (locs ++ L) (cells + rm.cells) (slots + rm.slots) ∧ T'.heap = h ∧ oKp h0 h ws (locs ++ L) ∧ ∀ t, Steps p.tables e below (T'.setTop (mkF m (pc + 3) Ls (w.toList ++ rest))) t → Steps p.tables e below (T.setTop (mkF m pc Ls S)) t := by
  obtain ⟨v, T', L, X', q, st⟩ := H _ _ _ _ _ _ _ _ _ _ _ _ _ _ _ _ _ _ _ _ _ _ _ X hx hZ hown e0 hP con hN (hsz.trans hml.symm) hS hW (hb hby hdg)
  obtain ⟨rfl, e1, K1⟩ := hQ _ _ _ q
  rw [e1] at K1
  exact ⟨T', L, X', e1, K.call K1 all0, st⟩
/-- a call that may change it -/
theorem oCall.run (H : oCall Z own i y bytes maxL ret P) (X : Stand p l e R s m args below meth c T locs cells slots) (hx : p.tables.exec = Jvm.exec) (hZ : Z.Warmed39 s.vm) (hown : s.vm.findClass own = some m.cls) (e0 : T.heap = h) (hP : P h A) (con : oCon l Z y bytes maxL ret [] rm A.toArray h Q)
    (hN : rm.frames + 1 ≤ R.frames ∧ W + (maxL + 11) + rm.locals ≤ R.locals ∧ cells + rm.cells ≤ R.cells ∧ slots + rm.slots ≤ R.slots) (hml : c.maxLocals = ml) (hsz : Ls.size = ml) (hS : S = A.reverse ++ rest) (hW : (rest.map fun v => v.category).sum = W) (hby : c.code = bb) (hdg : decode bb pc = .ok (i, 3)) :
    ∃ (v : Option Value) (T' : State) (h' : Heap) (L : List Loc), Stand p l e R s m args below meth c T' (locs ++ L) (cells + rm.cells) (slots + rm.slots) ∧ T'.heap = h' ∧ Q v h' L ∧ ∀ t, Steps p.tables e below (T'.setTop (mkF m (pc + 3) Ls (v.toList ++ rest))) t → Steps p.tables e below (T.setTop (mkF m pc Ls S)) t := by
  obtain ⟨v, T', L, X', q, st⟩ := H _ _ _ _ _ _ _ _ _ _ _ _ _ _ _ _ _ _ _ _ _ _ _ X hx hZ hown e0 hP con hN (hsz.trans hml.symm) hS hW (hb hby hdg)
  exact ⟨v, T', _, L, X', rfl, q, st⟩
end OwnK
section OwnZ
variable {p : Program} {l : Launch} {e : Env} {R : Room} {s : State} {m : MethodId} {args : Array Value} {below : List Frame} {meth : Method} {c : Code} {T t : State} {locs : List Loc} {cells slots : Nat} {b : ByteArray} {g : JFrame} {x y : Int32} {v : Value} {rest : List Value} {k : Nat} {k4 : Fin 4} {i o : Int} {l' : Array Slot} {pc' : Nat} {cd : ClassFile.Cond}
theorem zA (X : Stand p l e R s m args below meth c T locs cells slots) (hx : p.tables.exec = Jvm.exec) (hby : c.code = b) (hd : decode b g.pc = .ok (.aload_n k4, 1)) (hg : g.method = m) (h0 : g.locals[k4.val]? = some (.val v)) (h1 : v.isRef = true) (hr : Steps p.tables e below (T.setTop { g with pc := g.pc + 1, stack := v :: g.stack }) t) : Steps p.tables e below (T.setTop g) t := XS.aloadN X.here hx hg (hb hby hd) h0 h1 hr
theorem zI (X : Stand p l e R s m args below meth c T locs cells slots) (hx : p.tables.exec = Jvm.exec) (hby : c.code = b) (hd : decode b g.pc = .ok (.iload_n k4, 1)) (hg : g.method = m) (h0 : g.locals[k4.val]? = some (.val (.int x))) (hr : Steps p.tables e below (T.setTop { g with pc := g.pc + 1, stack := .int x :: g.stack }) t) : Steps p.tables e below (T.setTop g) t := XS.iloadN X.here hx hg (hb hby hd) h0 hr
theorem zB (X : Stand p l e R s m args below meth c T locs cells slots) (hx : p.tables.exec = Jvm.exec) (hby : c.code = b) (hd : decode b g.pc = .ok (.aload k, 2)) (hg : g.method = m) (h0 : g.locals[k]? = some (.val v)) (h1 : v.isRef = true) (hr : Steps p.tables e below (T.setTop { g with pc := g.pc + 2, stack := v :: g.stack }) t) : Steps p.tables e below (T.setTop g) t := XS.aload X.here hx hg (hb hby hd) h0 h1 hr
theorem zJ (X : Stand p l e R s m args below meth c T locs cells slots) (hx : p.tables.exec = Jvm.exec) (hby : c.code = b) (hd : decode b g.pc = .ok (.iload k, 2)) (hg : g.method = m) (h0 : g.locals[k]? = some (.val (.int x))) (hr : Steps p.tables e below (T.setTop { g with pc := g.pc + 2, stack := .int x :: g.stack }) t) : Steps p.tables e below (T.setTop g) t := XS.iload X.here hx hg (hb hby hd) h0 hr
theorem zK (X : Stand p l e R s m args below meth c T locs cells slots) (hx : p.tables.exec = Jvm.exec) (hby : c.code = b) (hd : decode b g.pc = .ok (.iconst i, 1)) (hg : g.method = m)  (hr : Steps p.tables e below (T.setTop { g with pc := g.pc + 1, stack := .int (Int32.ofInt i) :: g.stack }) t) : Steps p.tables e below (T.setTop g) t := XS.iconst X.here hx hg (hb hby hd) hr
theorem zL (X : Stand p l e R s m args below meth c T locs cells slots) (hx : p.tables.exec = Jvm.exec) (hby : c.code = b) (hd : decode b g.pc = .ok (.bipush i, 2)) (hg : g.method = m)  (hr : Steps p.tables e below (T.setTop { g with pc := g.pc + 2, stack := .int (Int8.ofInt i).toInt32 :: g.stack }) t) : Steps p.tables e below (T.setTop g) t := XS.bipush X.here hx hg (hb hby hd) hr
theorem zM (X : Stand p l e R s m args below meth c T locs cells slots) (hx : p.tables.exec = Jvm.exec) (hby : c.code = b) (hd : decode b g.pc = .ok (.sipush i, 3)) (hg : g.method = m)  (hr : Steps p.tables e below (T.setTop { g with pc := g.pc + 3, stack := .int (Int16.ofInt i).toInt32 :: g.stack }) t) : Steps p.tables e below (T.setTop g) t := XS.sipush X.here hx hg (hb hby hd) hr
theorem zS (X : Stand p l e R s m args below meth c T locs cells slots) (hx : p.tables.exec = Jvm.exec) (hby : c.code = b) (hd : decode b g.pc = .ok (.istore k, 2)) (hg : g.method = m) (h0 : g.stack = .int x :: rest) (h1 : storeLocals g.locals k (.int x) = some l') (hr : Steps p.tables e below (T.setTop { g with pc := g.pc + 2, locals := l', stack := rest }) t) : Steps p.tables e below (T.setTop g) t := XS.istore X.here hx hg (hb hby hd) h0 h1 hr
theorem zSn (X : Stand p l e R s m args below meth c T locs cells slots) (hx : p.tables.exec = Jvm.exec) (hby : c.code = b) (hd : decode b g.pc = .ok (.istore_n k4, 1)) (hg : g.method = m) (h0 : g.stack = .int x :: rest) (h1 : storeLocals g.locals k4.val (.int x) = some l') (hr : Steps p.tables e below (T.setTop { g with pc := g.pc + 1, locals := l', stack := rest }) t) : Steps p.tables e below (T.setTop g) t := XS.istoreN X.here hx hg (hb hby hd) h0 h1 hr
theorem zT (X : Stand p l e R s m args below meth c T locs cells slots) (hx : p.tables.exec = Jvm.exec) (hby : c.code = b) (hd : decode b g.pc = .ok (.astore k, 2)) (hg : g.method = m) (h0 : g.stack = v :: rest) (h1 : v.isRef = true) (h2 : storeLocals g.locals k v = some l') (hr : Steps p.tables e below (T.setTop { g with pc := g.pc + 2, locals := l', stack := rest }) t) : Steps p.tables e below (T.setTop g) t := XS.astore X.here hx hg (hb hby hd) h0 h1 h2 hr
theorem zTn (X : Stand p l e R s m args below meth c T locs cells slots) (hx : p.tables.exec = Jvm.exec) (hby : c.code = b) (hd : decode b g.pc = .ok (.astore_n k4, 1)) (hg : g.method = m) (h0 : g.stack = v :: rest) (h1 : v.isRef = true) (h2 : storeLocals g.locals k4.val v = some l') (hr : Steps p.tables e below (T.setTop { g with pc := g.pc + 1, locals := l', stack := rest }) t) : Steps p.tables e below (T.setTop g) t := XS.astoreN X.here hx hg (hb hby hd) h0 h1 h2 hr
theorem zG (X : Stand p l e R s m args below meth c T locs cells slots) (hx : p.tables.exec = Jvm.exec) (hby : c.code = b) (hd : decode b g.pc = .ok (.goto o, 3)) (hg : g.method = m)  (hj : (g.pc : Int) + o = (pc' : Int)) (hr : Steps p.tables e below (T.setTop { g with pc := pc' }) t) : Steps p.tables e below (T.setTop g) t := XS.goto X.here hx hg rfl (hb hby hd) (by rw [hj]; exact Int.natCast_nonneg _) (by rw [hj]; exact Int.toNat_natCast _) hr
theorem zY (X : Stand p l e R s m args below meth c T locs cells slots) (hx : p.tables.exec = Jvm.exec) (hby : c.code = b) (hd : decode b g.pc = .ok (.if_icmp cd o, 3)) (hg : g.method = m) (h0 : g.stack = .int y :: .int x :: rest) (h1 : if_icmp.holds cd x y = true) (hj : (g.pc : Int) + o = (pc' : Int)) (hr : Steps p.tables e below (T.setTop { g with pc := pc', stack := rest }) t) : Steps p.tables e below (T.setTop g) t := XS.icmpYes X.here hx hg rfl (hb hby hd) h0 h1 (by rw [hj]; exact Int.natCast_nonneg _) (by rw [hj]; exact Int.toNat_natCast _) hr
theorem zN (X : Stand p l e R s m args below meth c T locs cells slots) (hx : p.tables.exec = Jvm.exec) (hby : c.code = b) (hd : decode b g.pc = .ok (.if_icmp cd o, 3)) (hg : g.method = m) (h0 : g.stack = .int y :: .int x :: rest) (h1 : if_icmp.holds cd x y = false) (hr : Steps p.tables e below (T.setTop { g with pc := g.pc + 3, stack := rest }) t) : Steps p.tables e below (T.setTop g) t := XS.icmpNo X.here hx hg (hb hby hd) h0 h1 hr
theorem zF (X : Stand p l e R s m args below meth c T locs cells slots) (hx : p.tables.exec = Jvm.exec) (hby : c.code = b) (hd : decode b g.pc = .ok (.ifCond cd o, 3)) (hg : g.method = m) (h0 : g.stack = .int x :: rest) (h1 : ifCond.holds cd x = true) (hj : (g.pc : Int) + o = (pc' : Int)) (hr : Steps p.tables e below (T.setTop { g with pc := pc', stack := rest }) t) : Steps p.tables e below (T.setTop g) t := XS.ifYes X.here hx hg rfl (hb hby hd) h0 h1 (by rw [hj]; exact Int.natCast_nonneg _) (by rw [hj]; exact Int.toNat_natCast _) hr
theorem zH (X : Stand p l e R s m args below meth c T locs cells slots) (hx : p.tables.exec = Jvm.exec) (hby : c.code = b) (hd : decode b g.pc = .ok (.ifCond cd o, 3)) (hg : g.method = m) (h0 : g.stack = .int x :: rest) (h1 : ifCond.holds cd x = false) (hr : Steps p.tables e below (T.setTop { g with pc := g.pc + 3, stack := rest }) t) : Steps p.tables e below (T.setTop g) t := XS.ifNo X.here hx hg (hb hby hd) h0 h1 hr
theorem zC (X : Stand p l e R s m args below meth c T locs cells slots) (hx : p.tables.exec = Jvm.exec) (hby : c.code = b) (hd : decode b g.pc = .ok (.iinc k i, 3)) (hg : g.method = m) (h0 : g.locals[k]? = some (.val (.int x))) (h1 : storeLocals g.locals k (.int (x + Int32.ofInt i)) = some l') (hr : Steps p.tables e below (T.setTop { g with pc := g.pc + 3, locals := l' }) t) : Steps p.tables e below (T.setTop g) t := XS.iinc X.here hx hg (hb hby hd) h0 h1 hr
theorem zD (X : Stand p l e R s m args below meth c T locs cells slots) (hx : p.tables.exec = Jvm.exec) (hby : c.code = b) (hd : decode b g.pc = .ok (.dup, 1)) (hg : g.method = m) (h0 : g.stack = v :: rest) (h1 : v.category = 1) (hr : Steps p.tables e below (T.setTop { g with pc := g.pc + 1, stack := v :: v :: rest }) t) : Steps p.tables e below (T.setTop g) t := XS.dup X.here hx hg (hb hby hd) h0 h1 hr
end OwnZ
abbrev Y0 : String := "java/lang/Object"
abbrev Y1 : String := "java/util/ArrayList"
abbrev Y2 : String := "[Ljava/lang/Object;"
abbrev Y3 : String := "java/util/List"
abbrev Y4 : String := "com/example/congruent/congruent/core/Tree$Node"
abbrev Y5 : String := "Ljava/util/List;"
abbrev Y6 : String := "java/util/ImmutableCollections$ListN"
abbrev Y7 : String := "com/example/congruent/congruent/core/Tree$Kind"
abbrev Y8 : String := "java/util/ImmutableCollections$List12"
abbrev Y9 : String := "java/lang/String"
abbrev Y10 : String := "Ljava/lang/Object;"
abbrev Y11 : String := "java/util/AbstractList"
abbrev Y12 : String := "java/util/ImmutableCollections"
abbrev Y13 : String := "Lcom/example/congruent/congruent/core/Tree$Kind;"
abbrev Y14 : String := "Ljava/lang/String;"
abbrev Y15 : String := "Ljava/util/ImmutableCollections$ListN;"
abbrev Y16 : String := "DEFAULTCAPACITY_EMPTY_ELEMENTDATA"
abbrev Y17 : String := "com/example/congruent/congruent/core/TreeNodePinLaw"
abbrev Y18 : String := "java/util/Arrays"
abbrev Y19 : String := "()[Ljava/lang/Object;"
abbrev Y20 : String := "(I)Ljava/lang/Object;"
def oEL : List (String × Nat) := []
theorem oELw {a0 : Array Value} {Z : State} (hw : ∀ d ∈ tables_1, d.before a0 Z = true) : EW Z a0 oEL := EW.nil
theorem oSAin : ∀ a ∈ Bundle.stringAtoms, a ∈ tables_1 := by decide +kernel
theorem oSA {a0 : Array Value} {Z : State} (hw : ∀ d ∈ tables_1, d.before a0 Z = true) : ∀ a ∈ Bundle.stringAtoms, a.before a0 Z = true := fun a ha => hw a (oSAin a ha)
theorem oSf {Z : State} {vm : Vm} {h : Heap} {x : Addr} : Safe Z oEL vm h x := fun B => by
  obtain ⟨_, q, _⟩ := B
  exact nomatch q
def Q_rRec (Z : State) (xa : Addr) (h0 : Heap) (v : Option Value) (h : Heap) (L : List Loc) : Prop := v = none ∧ h = h0 ∧ oKp h0 h [] L
theorem pn_0 : plainName "java/lang/Record" = true := by first | (simp [plainName, overriddenIn]; done) | decide +kernel
abbrev yy0 : MethodName := ⟨"java/lang/Record", "<init>", "()V"⟩
theorem d7_0 : decode jdk_30_method_1_code 0 = .ok (.aload_n 0, 1) := by decide +kernel
theorem d7_1 : decode jdk_30_method_1_code 1 = .ok (.invokespecial 1, 3) := by decide +kernel
theorem d7_4 : decode jdk_30_method_1_code 4 = .ok (.return_, 1) := by decide +kernel
theorem rRec (l : Launch) (Z : State) (a0 : Array Value) (hw : oHW a0 Z) (ws : List Jvm.Cond) (xa : Addr) (h0 : Heap) (O0 : Ext Z.heap h0)  :
    oCon l Z yy0 jdk_30_method_1_code 1 none ws ({ frames := 1, cells := 0, slots := 0, locals := 12 } : Room) #[(.ref xa)] h0 (Q_rRec Z xa h0) := by
  refine oCon.of (plainFor_of_name pn_0) ?_
  intro p e s m below meth c T X hx hby hml hown hnm hret hlk hZ e0
  have hml : c.maxLocals = 1 := hml
  have K : oKp h0 h0 [] [] := oKp.nil _ _
  refine oWk.cast (g' := (mkF m 0 #[rv xa] [])) (by first | rfl | (simp [entryFrame, mkF, argsToLocals, Value.category]; done)) ?_
  refine oWk.st (fun _ kt => zA X hx hby d7_0 rfl rfl rfl kt) ?_
  obtain ⟨T, X, e0, st⟩ := initO X hx hZ hown (oW hw 52 rfl) (oW hw 37 rfl) (oW hw 38 rfl) e0 (g := (mkF m 1 #[rv xa] [(.ref xa)])) rfl (by rw [hml]; rfl) rfl (hb hby d7_1) (by decide) (W := 0) (Nat.le_of_eq rfl) (by decide)
  refine oWk.st st ?_
  exact oRetV X hx hlk hret (hb hby d7_4) (by rw [e0]; exact ⟨rfl, rfl, K⟩) (by decide) (by decide)
def Q_rRN2 (Z : State) (xx xy : Addr) (h0 : Heap) (v : Option Value) (h : Heap) (L : List Loc) : Prop := v = some (.ref xx) ∧ h = h0 ∧ oKp h0 h [] L
theorem pn_1 : plainName "java/util/Objects" = true := by first | (simp [plainName, overriddenIn]; done) | decide +kernel
abbrev yy1 : MethodName := ⟨"java/util/Objects", "requireNonNull", "(Ljava/lang/Object;Ljava/lang/String;)Ljava/lang/Object;"⟩
theorem d8_0 : decode jdk_31_method_11_code 0 = .ok (.aload_n 0, 1) := by decide +kernel
theorem d8_1 : decode jdk_31_method_11_code 1 = .ok (.ifnonnull 12, 3) := by decide +kernel
theorem d8_13 : decode jdk_31_method_11_code 13 = .ok (.aload_n 0, 1) := by decide +kernel
theorem d8_14 : decode jdk_31_method_11_code 14 = .ok (.areturn, 1) := by decide +kernel
theorem rRN2 (l : Launch) (Z : State) (a0 : Array Value) (hw : oHW a0 Z) (ws : List Jvm.Cond) (xx xy : Addr) (h0 : Heap) (O0 : Ext Z.heap h0)  :
    oCon l Z yy1 jdk_31_method_11_code 2 (some (.object Y0)) ws ({ frames := 0, cells := 0, slots := 0, locals := 0 } : Room) #[(.ref xx), (.ref xy)] h0 (Q_rRN2 Z xx xy h0) := by
  refine oCon.of (plainFor_of_name pn_1) ?_
  intro p e s m below meth c T X hx hby hml hown hnm hret hlk hZ e0
  have hml : c.maxLocals = 2 := hml
  have K : oKp h0 h0 [] [] := oKp.nil _ _
  refine oWk.cast (g' := (mkF m 0 #[rv xx, rv xy] [])) (by first | rfl | (simp [entryFrame, mkF, argsToLocals, Value.category]; done)) ?_
  refine oWk.st (fun _ kt => zA X hx hby d8_0 rfl rfl rfl (XS.ifnonnullYes X.here hx rfl (pc0 := 1) (pc' := 13) rfl (hb hby d8_1) rfl (by decide) (by decide) (zA X hx hby d8_13 rfl rfl rfl kt))) ?_
  show oWk _ _ _ _ T (mkF m 14 #[rv xx, rv xy] [(.ref xx)])
  exact oRetA X hx hlk hret rfl rfl (hb hby d8_14) (by rw [e0]; exact ⟨rfl, rfl, K⟩) (by decide) (by decide)
def Q_rEmp0 (Z : State) (xa : Addr) (h0 : Heap) (v : Option Value) (h : Heap) (L : List Loc) : Prop := v = some (.int (1 : Int32)) ∧ h = h0 ∧ oKp h0 h [] L
theorem pn_2 : plainName "java/util/ArrayList" = true := by first | (simp [plainName, overriddenIn]; done) | decide +kernel
abbrev yy2 : MethodName := ⟨"java/util/ArrayList", "isEmpty", "()Z"⟩
theorem d11_0 : decode jdk_38_method_9_code 0 = .ok (.aload_n 0, 1) := by decide +kernel
theorem d11_1 : decode jdk_38_method_9_code 1 = .ok (.getfield 48, 3) := by decide +kernel
theorem d11_4 : decode jdk_38_method_9_code 4 = .ok (.ifCond .ne 7, 3) := by decide +kernel
theorem d11_7 : decode jdk_38_method_9_code 7 = .ok (.iconst 1, 1) := by decide +kernel
theorem d11_8 : decode jdk_38_method_9_code 8 = .ok (.goto 4, 3) := by decide +kernel
theorem d11_12 : decode jdk_38_method_9_code 12 = .ok (.ireturn, 1) := by decide +kernel
theorem rEmp0 (l : Launch) (Z : State) (a0 : Array Value) (hw : oHW a0 Z) (ws : List Jvm.Cond) (xa : Addr) (h0 : Heap) (O0 : Ext Z.heap h0) (F_size_xa : Fld Z h0 xa Y1 "size" "I" (.int (0 : Int32))) :
    oCon l Z yy2 jdk_38_method_9_code 1 (some .boolean) ws ({ frames := 0, cells := 0, slots := 0, locals := 0 } : Room) #[(.ref xa)] h0 (Q_rEmp0 Z xa h0) := by
  refine oCon.of (plainFor_of_name pn_2) ?_
  intro p e s m below meth c T X hx hby hml hown hnm hret hlk hZ e0
  have hml : c.maxLocals = 1 := hml
  have K : oKp h0 h0 [] [] := oKp.nil _ _
  refine oWk.cast (g' := (mkF m 0 #[rv xa] [])) (by first | rfl | (simp [entryFrame, mkF, argsToLocals, Value.category]; done)) ?_
  refine oWk.st (fun _ kt => zA X hx hby d11_0 rfl rfl rfl kt) ?_
  obtain ⟨T, X, e0, st⟩ := getF X hx hZ hown (host := "") (Or.inl (oW hw 82 rfl)) Via.refl e0 F_size_xa (g := (mkF m 1 #[rv xa] [(.ref xa)])) rfl rfl (hb hby d11_1)
  refine oWk.st st ?_
  refine oWk.st (fun _ kt => zH X hx hby d11_4 rfl rfl ((if0 _ _).trans (teq (by decide)).2) (zK X hx hby d11_7 rfl (zG X hx hby d11_8 rfl (pc' := 12) rfl kt))) ?_
  show oWk _ _ _ _ T (mkF m 12 #[rv xa] [(.int 1)])
  exact oRetZ X hx hlk hret (hb hby d11_12) (Or.inr rfl) (by rw [e0]; exact ⟨rfl, rfl, K⟩) (by decide) (by decide)
def Q_rOf0 (Z : State) (xl : Addr) (h0 : Heap) (v : Option Value) (h : Heap) (L : List Loc) : Prop := v = some (.ref xl) ∧ h = h0 ∧ oKp h0 h [] L
theorem pn_3 : plainName "java/util/List" = true := by first | (simp [plainName, overriddenIn]; done) | decide +kernel
abbrev yy3 : MethodName := ⟨"java/util/List", "of", "()Ljava/util/List;"⟩
theorem d12_0 : decode jdk_40_method_36_code 0 = .ok (.getstatic 90, 3) := by decide +kernel
theorem d12_3 : decode jdk_40_method_36_code 3 = .ok (.areturn, 1) := by decide +kernel
theorem rOf0 (l : Launch) (Z : State) (a0 : Array Value) (hw : oHW a0 Z) (ws : List Jvm.Cond) (xl : Addr) (h0 : Heap) (O0 : Ext Z.heap h0) (S_EMPTY_LIST : Sta Z Z.heap Y12 "EMPTY_LIST" Y15 (.ref xl)) :
    oCon l Z yy3 jdk_40_method_36_code 0 (some (.object Y3)) ws ({ frames := 0, cells := 0, slots := 0, locals := 0 } : Room) #[] h0 (Q_rOf0 Z xl h0) := by
  refine oCon.of (plainFor_of_name pn_3) ?_
  intro p e s m below meth c T X hx hby hml hown hnm hret hlk hZ e0
  have hml : c.maxLocals = 0 := hml
  have K : oKp h0 h0 [] [] := oKp.nil _ _
  refine oWk.cast (g' := (mkF m 0 #[] [])) (by first | rfl | (simp [entryFrame, mkF, argsToLocals, Value.category]; done)) ?_
  have Oh := K.old O0 all0
  obtain ⟨T, X, e0, st⟩ := getS2 X hx hZ hown (host := "") (Or.inl (oW hw 87 rfl)) Via.refl e0 (S_EMPTY_LIST.ext Oh) (g := (mkF m 0 #[] [])) rfl (hb hby d12_0)
  refine oWk.st st ?_
  exact oRetA X hx hlk hret rfl rfl (hb hby d12_3) (by rw [e0]; exact ⟨rfl, rfl, K⟩) (by decide) (by decide)
def Q_rLC0 (Z : State) (xa xl : Addr) (h0 : Heap) (v : Option Value) (h : Heap) (L : List Loc) : Prop := v = some (.ref xl) ∧ h = h0 ∧ oKp h0 h [] L
theorem pn_4 : plainName "java/util/ImmutableCollections" = true := by first | (simp [plainName, overriddenIn]; done) | decide +kernel
abbrev yy4 : MethodName := ⟨"java/util/ImmutableCollections", "listCopy", "(Ljava/util/Collection;)Ljava/util/List;"⟩
theorem d10_0 : decode jdk_56_method_3_code 0 = .ok (.aload_n 0, 1) := by decide +kernel
theorem d10_1 : decode jdk_56_method_3_code 1 = .ok (.instanceof 10, 3) := by decide +kernel
theorem d10_4 : decode jdk_56_method_3_code 4 = .ok (.ifCond .ne 22, 3) := by decide +kernel
theorem d10_7 : decode jdk_56_method_3_code 7 = .ok (.aload_n 0, 1) := by decide +kernel
theorem d10_8 : decode jdk_56_method_3_code 8 = .ok (.instanceof 12, 3) := by decide +kernel
theorem d10_11 : decode jdk_56_method_3_code 11 = .ok (.ifCond .eq 20, 3) := by decide +kernel
theorem d10_31 : decode jdk_56_method_3_code 31 = .ok (.aload_n 0, 1) := by decide +kernel
theorem d10_32 : decode jdk_56_method_3_code 32 = .ok (.invokeinterface 20 1, 5) := by decide +kernel
theorem pd_0 : parseMethodDescriptor "()Z" = some ⟨[], some .boolean⟩ := by decide +kernel
abbrev yy5 : MethodName := ⟨"java/util/Collection", "isEmpty", "()Z"⟩
theorem d10_37 : decode jdk_56_method_3_code 37 = .ok (.ifCond .eq 7, 3) := by decide +kernel
theorem d10_40 : decode jdk_56_method_3_code 40 = .ok (.invokestatic 26, 3) := by decide +kernel
theorem pd_1 : parseMethodDescriptor "()Ljava/util/List;" = some ⟨[], some (.object "java/util/List")⟩ := by decide +kernel
theorem cs0 {a0 : Array Value} {Z : State} (hw : oHW a0 Z) : oCall Z Y12 (.invokestatic 26) yy3 jdk_40_method_36_code 0 (some (.object Y3)) (oRs 0) := oCall.stat (oW hw 84 rfl) (oW hw 85 rfl) (oW hw 61 rfl) (oW hw 86 rfl) (by decide) pd_1
theorem d10_43 : decode jdk_56_method_3_code 43 = .ok (.areturn, 1) := by decide +kernel
theorem rLC0 (l : Launch) (Z : State) (a0 : Array Value) (hw : oHW a0 Z) (ws : List Jvm.Cond) (xa xl : Addr) (h0 : Heap) (O0 : Ext Z.heap h0) (S_EMPTY_LIST : Sta Z Z.heap Y12 "EMPTY_LIST" Y15 (.ref xl)) (E_xa : Exa Z h0 xa Y1) (F_size_xa : Fld Z h0 xa Y1 "size" "I" (.int (0 : Int32))) :
    oCon l Z yy4 jdk_56_method_3_code 2 (some (.object Y3)) ws ({ frames := 1, cells := 0, slots := 0, locals := 12 } : Room) #[(.ref xa)] h0 (Q_rLC0 Z xa xl h0) := by
  refine oCon.of (plainFor_of_name pn_4) ?_
  intro p e s m below meth c T X hx hby hml hown hnm hret hlk hZ e0
  have hml : c.maxLocals = 2 := hml
  have K : oKp h0 h0 [] [] := oKp.nil _ _
  refine oWk.cast (g' := (mkF m 0 #[rv xa, uu] [])) (by first | rfl | (simp [entryFrame, mkF, argsToLocals, Value.category]; done)) ?_
  refine oWk.st (fun _ kt => zA X hx hby d10_0 rfl rfl rfl kt) ?_
  obtain ⟨T, X, e0, st⟩ := instNo X hx hZ hown (oW hw 67 rfl) e0 E_xa (oNSno (oW hw 68 rfl) (oW hw 164 rfl) (NS.step (oW hw 68 rfl) (NS.step (oW hw 69 rfl) (NS.step (oW hw 70 rfl) (oNSroot (oW hw 71 rfl) (oW hw 164 rfl) (by decide)) (by decide)) (by decide)) (by decide)) (by decide)) (g := (mkF m 1 #[rv xa, uu] [(.ref xa)])) rfl rfl (hb hby d10_1)
  refine oWk.st st ?_
  refine oWk.st (fun _ kt => zH X hx hby d10_4 rfl rfl ((if0 _ _).trans (teq (by decide)).2) (zA X hx hby d10_7 rfl rfl rfl kt)) ?_
  obtain ⟨T, X, e0, st⟩ := instNo X hx hZ hown (oW hw 72 rfl) e0 E_xa (oNSno (oW hw 68 rfl) (oW hw 216 rfl) (NS.step (oW hw 68 rfl) (NS.step (oW hw 69 rfl) (NS.step (oW hw 70 rfl) (oNSroot (oW hw 71 rfl) (oW hw 216 rfl) (by decide)) (by decide)) (by decide)) (by decide)) (by decide)) (g := (mkF m 8 #[rv xa, uu] [(.ref xa)])) rfl rfl (hb hby d10_8)
  refine oWk.st st ?_
  refine oWk.st (fun _ kt => zF X hx hby d10_11 rfl rfl ((if0 _ _).trans (teq (by decide)).1) (pc' := 31) rfl (zA X hx hby d10_31 rfl rfl rfl kt)) ?_
  have Oh := K.old O0 all0
  obtain ⟨cq2, kq2, q2a, q2b, q2c⟩ := isOf hZ e0 E_xa
  obtain ⟨_, _, ⟨T, L2, k2, n2⟩, -, X, ⟨Lc2, hQ, l2, y2, z2⟩, st⟩ := X.interfaceBack hx (xi := yy5) (y := yy2) hown (mvT hZ (oW hw 73 rfl)) (mvT hZ (oW hw 74 rfl)) (mvT hZ (oW hw 75 rfl)) (mvT hZ (oW hw 76 rfl)) (mvT hZ (oW hw 77 rfl)) (mvT hZ (oW hw 78 rfl)) (mvT hZ (oW hw 79 rfl)) (mvT hZ (oW hw 80 rfl)) (by decide) (backOf (W := 0) (rEmp0 l Z a0 hw [] xa h0 Oh F_size_xa) hZ (oW hw 81 rfl) (oW hw 20 rfl) (by decide) (by decide)) q2a q2b q2c (g := (mkF m 32 #[rv xa, uu] [(.ref xa)])) rfl (by rw [hml]; rfl) (Steps.refl _) (argsL := []) (rest := []) (lenOf pd_0 rfl) rfl (Nat.le_of_eq rfl) (hb hby d10_32) (fun _ _ => ⟨rfl, e0, (by decide : 0 + 0 ≤ _), (by decide : 0 + 0 ≤ _)⟩)
  dsimp only [Pt.U, Pt.locs, Pt.cells, Pt.slots] at X l2 y2 z2 st hQ
  subst l2 y2 z2
  obtain ⟨rfl, e0, K1⟩ := hQ
  have K := K.call K1 all0
  rw [e0] at K
  refine oWk.tr st ?_
  refine oWk.st (fun _ kt => zH X hx hby d10_37 rfl rfl ((if0 _ _).trans (feq (by decide)).1) kt) ?_
  obtain ⟨T, L4, X, e0, K, st⟩ := (cs0 hw).pure X hx hZ hown e0 K (A := []) rfl (rOf0 l Z a0 hw [] xl h0 Oh S_EMPTY_LIST) (fun _ _ _ q => q) (W := 0) (by decide) hml (Ls := #[rv xa, uu]) rfl (rest := []) rfl rfl hby d10_40
  refine oWk.st st ?_
  exact oRetA X hx hlk hret rfl rfl (hb hby d10_43) (by rw [e0]; exact ⟨rfl, rfl, K⟩) (by decide) (by decide)
def Q_rCO0 (Z : State) (xa xl : Addr) (h0 : Heap) (v : Option Value) (h : Heap) (L : List Loc) : Prop := v = some (.ref xl) ∧ h = h0 ∧ oKp h0 h [] L
abbrev yy6 : MethodName := ⟨"java/util/List", "copyOf", "(Ljava/util/Collection;)Ljava/util/List;"⟩
theorem d9_0 : decode jdk_40_method_48_code 0 = .ok (.aload_n 0, 1) := by decide +kernel
theorem d9_1 : decode jdk_40_method_48_code 1 = .ok (.invokestatic 112, 3) := by decide +kernel
theorem pd_2 : parseMethodDescriptor "(Ljava/util/Collection;)Ljava/util/List;" = some ⟨[(.object "java/util/Collection")], some (.object "java/util/List")⟩ := by decide +kernel
theorem cs1 {a0 : Array Value} {Z : State} (hw : oHW a0 Z) : oCall Z Y3 (.invokestatic 112) yy4 jdk_56_method_3_code 2 (some (.object Y3)) (oRs 1) := oCall.stat (oW hw 63 rfl) (oW hw 64 rfl) (oW hw 65 rfl) (oW hw 66 rfl) (by decide) pd_2
theorem d9_4 : decode jdk_40_method_48_code 4 = .ok (.areturn, 1) := by decide +kernel
theorem rCO0 (l : Launch) (Z : State) (a0 : Array Value) (hw : oHW a0 Z) (ws : List Jvm.Cond) (xa xl : Addr) (h0 : Heap) (O0 : Ext Z.heap h0) (S_EMPTY_LIST : Sta Z Z.heap Y12 "EMPTY_LIST" Y15 (.ref xl)) (E_xa : Exa Z h0 xa Y1) (F_size_xa : Fld Z h0 xa Y1 "size" "I" (.int (0 : Int32))) :
    oCon l Z yy6 jdk_40_method_48_code 1 (some (.object Y3)) ws ({ frames := 2, cells := 0, slots := 0, locals := 25 } : Room) #[(.ref xa)] h0 (Q_rCO0 Z xa xl h0) := by
  refine oCon.of (plainFor_of_name pn_3) ?_
  intro p e s m below meth c T X hx hby hml hown hnm hret hlk hZ e0
  have hml : c.maxLocals = 1 := hml
  have K : oKp h0 h0 [] [] := oKp.nil _ _
  refine oWk.cast (g' := (mkF m 0 #[rv xa] [])) (by first | rfl | (simp [entryFrame, mkF, argsToLocals, Value.category]; done)) ?_
  refine oWk.st (fun _ kt => zA X hx hby d9_0 rfl rfl rfl kt) ?_
  have Oh := K.old O0 all0
  obtain ⟨T, L2, X, e0, K, st⟩ := (cs1 hw).pure X hx hZ hown e0 K (A := [(.ref xa)]) rfl (rLC0 l Z a0 hw [] xa xl h0 Oh S_EMPTY_LIST E_xa F_size_xa) (fun _ _ _ q => q) (W := 0) (by decide) hml (Ls := #[rv xa]) rfl (rest := []) rfl rfl hby d9_1
  refine oWk.st st ?_
  exact oRetA X hx hlk hret rfl rfl (hb hby d9_4) (by rw [e0]; exact ⟨rfl, rfl, K⟩) (by decide) (by decide)
def Q_rNI_0_0 (Z : State) (xa xi xs : Addr) (u1 u2 u3 u4 : Value) (xg xh xl : Addr) (h0 : Heap) (v : Option Value) (h : Heap) (L : List Loc) : Prop := v = none ∧ oKp h0 h [xa] L ∧ (Exa Z h xa Y4)
theorem pn_5 : plainName "com/example/congruent/congruent/core/Tree$Node" = true := by first | (simp [plainName, overriddenIn]; done) | decide +kernel
abbrev yy7 : MethodName := ⟨"com/example/congruent/congruent/core/Tree$Node", "<init>", "(Lcom/example/congruent/congruent/core/Tree$Kind;Ljava/lang/String;Ljava/util/List;Ljava/util/List;)V"⟩
theorem d6_0 : decode prog_27_method_1_code 0 = .ok (.aload_n 0, 1) := by decide +kernel
theorem d6_1 : decode prog_27_method_1_code 1 = .ok (.invokespecial 1, 3) := by decide +kernel
theorem pd_3 : parseMethodDescriptor "()V" = some ⟨[], none⟩ := by decide +kernel
theorem cs2 {a0 : Array Value} {Z : State} (hw : oHW a0 Z) : oCall Z Y4 (.invokespecial 1) yy0 jdk_30_method_1_code 1 none (oRi 0) := oCall.init rfl (oW hw 47 rfl) (oW hw 48 rfl) (oW hw 50 rfl) (oW hw 51 rfl) (by decide) pd_3
theorem d6_4 : decode prog_27_method_1_code 4 = .ok (.aload_n 1, 1) := by decide +kernel
theorem d6_5 : decode prog_27_method_1_code 5 = .ok (.ldc 7, 2) := by decide +kernel
theorem d6_7 : decode prog_27_method_1_code 7 = .ok (.invokestatic 9, 3) := by decide +kernel
theorem pd_4 : parseMethodDescriptor "(Ljava/lang/Object;Ljava/lang/String;)Ljava/lang/Object;" = some ⟨[(.object "java/lang/Object"), (.object "java/lang/String")], some (.object "java/lang/Object")⟩ := by decide +kernel
theorem cs3 {a0 : Array Value} {Z : State} (hw : oHW a0 Z) : oCall Z Y4 (.invokestatic 9) yy1 jdk_31_method_11_code 2 (some (.object Y0)) (oRs 2) := oCall.stat (oW hw 54 rfl) (oW hw 55 rfl) (oW hw 56 rfl) (oW hw 57 rfl) (by decide) pd_4
theorem d6_10 : decode prog_27_method_1_code 10 = .ok (.pop, 1) := by decide +kernel
theorem d6_11 : decode prog_27_method_1_code 11 = .ok (.aload_n 2, 1) := by decide +kernel
theorem d6_12 : decode prog_27_method_1_code 12 = .ok (.ldc 15, 2) := by decide +kernel
theorem d6_14 : decode prog_27_method_1_code 14 = .ok (.invokestatic 9, 3) := by decide +kernel
theorem d6_17 : decode prog_27_method_1_code 17 = .ok (.pop, 1) := by decide +kernel
theorem d6_18 : decode prog_27_method_1_code 18 = .ok (.aload_n 3, 1) := by decide +kernel
theorem d6_19 : decode prog_27_method_1_code 19 = .ok (.invokestatic 17, 3) := by decide +kernel
theorem cs4 {a0 : Array Value} {Z : State} (hw : oHW a0 Z) : oCall Z Y4 (.invokestatic 17) yy6 jdk_40_method_48_code 1 (some (.object Y3)) (oRs 1) := oCall.stat (oW hw 59 rfl) (oW hw 60 rfl) (oW hw 61 rfl) (oW hw 62 rfl) (by decide) pd_2
theorem d6_22 : decode prog_27_method_1_code 22 = .ok (.astore_n 3, 1) := by decide +kernel
theorem d6_23 : decode prog_27_method_1_code 23 = .ok (.aload 4, 2) := by decide +kernel
theorem d6_25 : decode prog_27_method_1_code 25 = .ok (.invokestatic 17, 3) := by decide +kernel
theorem d6_28 : decode prog_27_method_1_code 28 = .ok (.astore 4, 2) := by decide +kernel
theorem d6_30 : decode prog_27_method_1_code 30 = .ok (.aload_n 0, 1) := by decide +kernel
theorem d6_31 : decode prog_27_method_1_code 31 = .ok (.aload_n 1, 1) := by decide +kernel
theorem d6_32 : decode prog_27_method_1_code 32 = .ok (.putfield 23, 3) := by decide +kernel
theorem d6_35 : decode prog_27_method_1_code 35 = .ok (.aload_n 0, 1) := by decide +kernel
theorem d6_36 : decode prog_27_method_1_code 36 = .ok (.aload_n 2, 1) := by decide +kernel
theorem d6_37 : decode prog_27_method_1_code 37 = .ok (.putfield 28, 3) := by decide +kernel
theorem d6_40 : decode prog_27_method_1_code 40 = .ok (.aload_n 0, 1) := by decide +kernel
theorem d6_41 : decode prog_27_method_1_code 41 = .ok (.aload_n 3, 1) := by decide +kernel
theorem d6_42 : decode prog_27_method_1_code 42 = .ok (.putfield 31, 3) := by decide +kernel
theorem d6_45 : decode prog_27_method_1_code 45 = .ok (.aload_n 0, 1) := by decide +kernel
theorem d6_46 : decode prog_27_method_1_code 46 = .ok (.aload 4, 2) := by decide +kernel
theorem d6_48 : decode prog_27_method_1_code 48 = .ok (.putfield 35, 3) := by decide +kernel
theorem d6_51 : decode prog_27_method_1_code 51 = .ok (.return_, 1) := by decide +kernel
theorem rNI_0_0 (l : Launch) (Z : State) (a0 : Array Value) (hw : oHW a0 Z) (ws : List Jvm.Cond) (xa xi xs : Addr) (u1 u2 u3 u4 : Value) (xg xh xl : Addr) (h0 : Heap) (O0 : Ext Z.heap h0) (S_EMPTY_LIST : Sta Z Z.heap Y12 "EMPTY_LIST" Y15 (.ref xl)) (og_xa : Z.heap.size ≤ xa) (E_xa : Exa Z h0 xa Y4) (F_kind_xa : Fld Z h0 xa Y4 "kind" Y13 u1) (F_name_xa : Fld Z h0 xa Y4 "name" Y14 u2) (F_ordered_xa : Fld Z h0 xa Y4 "ordered" Y5 u3) (F_unordered_xa : Fld Z h0 xa Y4 "unordered" Y5 u4) (E_xg : Exa Z h0 xg Y1) (F_size_xg : Fld Z h0 xg Y1 "size" "I" (.int (0 : Int32))) (E_xh : Exa Z h0 xh Y1) (F_size_xh : Fld Z h0 xh Y1 "size" "I" (.int (0 : Int32))) :
    oConH l Z oEL yy7 prog_27_method_1_code 5 none ws ({ frames := 3, cells := 4, slots := 40, locals := 37 } : Room) #[(.ref xa), (.ref xi), (.ref xs), (.ref xg), (.ref xh)] h0 [xa] (Q_rNI_0_0 Z xa xi xs u1 u2 u3 u4 xg xh xl h0) := by
  refine oConH.of (plainFor_of_name pn_5) ?_
  intro p e s m below meth c T vm X hx hby hml hown hnm hret hlk hZ e0 B hsf
  have hml : c.maxLocals = 5 := hml
  have K : oKp h0 h0 [xa] [] := oKp.nil _ _
  refine oWk.cast (g' := (mkF m 0 #[rv xa, rv xi, rv xs, rv xg, rv xh] [])) (by first | rfl | (simp [entryFrame, mkF, argsToLocals, Value.category]; done)) ?_
  refine oWk.st (fun _ kt => zA X hx hby d6_0 rfl rfl rfl kt) ?_
  have Oh := K.old O0 (allS og_xa all0)
  obtain ⟨T, L2, X, e0, K, st⟩ := (cs2 hw).pure X hx hZ hown e0 K (A := [(.ref xa)]) ⟨rfl, _, _, rfl⟩ (rRec l Z a0 hw [] xa h0 Oh ) (fun _ _ _ q => q) (W := 0) (by decide) hml (Ls := #[rv xa, rv xi, rv xs, rv xg, rv xh]) rfl (rest := []) rfl rfl hby d6_1
  refine oWk.st st ?_
  refine oWk.st (fun _ kt => zA X hx hby d6_4 rfl rfl rfl kt) ?_
  obtain ⟨lt3, T, h, X, e2, E3, hZ, hown, B, C, st⟩ := oLdcO X hx hZ hown (oW hw 53 rfl) (oSA hw) e0 (oELw hw) B (g := (mkF m 5 #[rv xa, rv xi, rv xs, rv xg, rv xh] [(.ref xi)])) rfl (hb hby d6_5) (n := 16) (by decide) (by decide) (by decide) (by decide)
  have e0 := e2
  refine oWk.st st ?_
  have K := K.ext E3
  have Oh := K.old O0 (allS og_xa all0)
  obtain ⟨T, L5, X, e0, K, st⟩ := (cs3 hw).pure X hx hZ hown e0 K (A := [(.ref xi), (.ref lt3)]) rfl (rRN2 l Z a0 hw [] xi lt3 h Oh ) (fun _ _ _ q => q) (W := 0) (by decide) hml (Ls := #[rv xa, rv xi, rv xs, rv xg, rv xh]) rfl (rest := []) rfl rfl hby d6_7
  refine oWk.st st ?_
  refine oWk.st (fun _ kt => XS.pop X.here hx rfl (hb hby d6_10) rfl rfl (zA X hx hby d6_11 rfl rfl rfl kt)) ?_
  obtain ⟨lt6, T, h, X, e2, E6, hZ, hown, B, C, st⟩ := oLdcO X hx hZ hown (oW hw 58 rfl) (oSA hw) e0 (oELw hw) B (g := (mkF m 12 #[rv xa, rv xi, rv xs, rv xg, rv xh] [(.ref xs)])) rfl (hb hby d6_12) (n := 16) (by decide) (by decide) (by decide) (by decide)
  have e0 := e2
  refine oWk.st st ?_
  have K := K.ext E6
  have Oh := K.old O0 (allS og_xa all0)
  obtain ⟨T, L8, X, e0, K, st⟩ := (cs3 hw).pure X hx hZ hown e0 K (A := [(.ref xs), (.ref lt6)]) rfl (rRN2 l Z a0 hw [] xs lt6 h Oh ) (fun _ _ _ q => q) (W := 0) (by decide) hml (Ls := #[rv xa, rv xi, rv xs, rv xg, rv xh]) rfl (rest := []) rfl rfl hby d6_14
  refine oWk.st st ?_
  refine oWk.st (fun _ kt => XS.pop X.here hx rfl (hb hby d6_17) rfl rfl (zA X hx hby d6_18 rfl rfl rfl kt)) ?_
  have E_xg := ((E_xg.ext E3).ext E6)
  have F_size_xg := ((F_size_xg.ext E3).ext E6)
  obtain ⟨T, L10, X, e0, K, st⟩ := (cs4 hw).pure X hx hZ hown e0 K (A := [(.ref xg)]) rfl (rCO0 l Z a0 hw [] xg xl h Oh S_EMPTY_LIST E_xg F_size_xg) (fun _ _ _ q => q) (W := 0) (by decide) hml (Ls := #[rv xa, rv xi, rv xs, rv xg, rv xh]) rfl (rest := []) rfl rfl hby d6_19
  refine oWk.st st ?_
  refine oWk.st (fun _ kt => zTn X hx hby d6_22 rfl rfl rfl (l' := #[rv xa, rv xi, rv xs, rv xl, rv xh]) rfl (zB X hx hby d6_23 rfl rfl rfl kt)) ?_
  have E_xh := ((E_xh.ext E3).ext E6)
  have F_size_xh := ((F_size_xh.ext E3).ext E6)
  obtain ⟨T, L12, X, e0, K, st⟩ := (cs4 hw).pure X hx hZ hown e0 K (A := [(.ref xh)]) rfl (rCO0 l Z a0 hw [] xh xl h Oh S_EMPTY_LIST E_xh F_size_xh) (fun _ _ _ q => q) (W := 0) (by decide) hml (Ls := #[rv xa, rv xi, rv xs, rv xl, rv xh]) rfl (rest := []) rfl rfl hby d6_25
  refine oWk.st st ?_
  refine oWk.st (fun _ kt => zT X hx hby d6_28 rfl rfl rfl (l' := #[rv xa, rv xi, rv xs, rv xl, rv xl]) rfl (zA X hx hby d6_30 rfl rfl rfl (zA X hx hby d6_31 rfl rfl rfl kt))) ?_
  have E_xa := ((E_xa.ext E3).ext E6)
  have F_kind_xa := ((F_kind_xa.ext E3).ext E6)
  obtain ⟨T, h, X, e0, W13, st⟩ := putF X hx hZ hown (host := "") (Or.inl (oW hw 88 rfl)) Via.refl e0 F_kind_xa E_xa (Or.inr ⟨(oW hw 89 rfl), rfl, hnm⟩) (oW hw 8 rfl) (ty := (.object Y7)) (by decide) rfl rfl (g := (mkF m 32 #[rv xa, rv xi, rv xs, rv xl, rv xl] [(.ref xi), (.ref xa)])) rfl rfl (hb hby d6_32)
  refine oWk.st st ?_
  have K := K.wr W13 (Or.inl (List.mem_of_getElem? (i := 0) rfl))
  have B := B.wr W13 oSf
  have F_kind_xa := F_kind_xa.same W13
  refine oWk.st (fun _ kt => zA X hx hby d6_35 rfl rfl rfl (zA X hx hby d6_36 rfl rfl rfl kt)) ?_
  have E_xa := (E_xa.wr W13)
  have F_name_xa := (((F_name_xa.ext E3).ext E6).other W13 (Or.inr (slot_ne (Or.inr (oW hw 91 rfl)) (Or.inr (oW hw 89 rfl)) (by decide) (t := (.object Y9)) (t' := (.object Y7)) (by decide) (by decide))))
  obtain ⟨T, h, X, e0, W14, st⟩ := putF X hx hZ hown (host := "") (Or.inl (oW hw 90 rfl)) Via.refl e0 F_name_xa E_xa (Or.inr ⟨(oW hw 91 rfl), rfl, hnm⟩) (oW hw 8 rfl) (ty := (.object Y9)) (by decide) rfl rfl (g := (mkF m 37 #[rv xa, rv xi, rv xs, rv xl, rv xl] [(.ref xs), (.ref xa)])) rfl rfl (hb hby d6_37)
  refine oWk.st st ?_
  have K := K.wr W14 (Or.inl (List.mem_of_getElem? (i := 0) rfl))
  have B := B.wr W14 oSf
  have F_name_xa := F_name_xa.same W14
  refine oWk.st (fun _ kt => zA X hx hby d6_40 rfl rfl rfl (zA X hx hby d6_41 rfl rfl rfl kt)) ?_
  have E_xa := (E_xa.wr W14)
  have F_ordered_xa := ((((F_ordered_xa.ext E3).ext E6).other W13 (Or.inr (slot_ne (Or.inr (oW hw 93 rfl)) (Or.inr (oW hw 89 rfl)) (by decide) (t := (.object Y3)) (t' := (.object Y7)) (by decide) (by decide)))).other W14 (Or.inr (slot_ne (Or.inr (oW hw 93 rfl)) (Or.inr (oW hw 91 rfl)) (by decide) (t := (.object Y3)) (t' := (.object Y9)) (by decide) (by decide))))
  obtain ⟨T, h, X, e0, W15, st⟩ := putF X hx hZ hown (host := "") (Or.inl (oW hw 92 rfl)) Via.refl e0 F_ordered_xa E_xa (Or.inr ⟨(oW hw 93 rfl), rfl, hnm⟩) (oW hw 8 rfl) (ty := (.object Y3)) (by decide) rfl rfl (g := (mkF m 42 #[rv xa, rv xi, rv xs, rv xl, rv xl] [(.ref xl), (.ref xa)])) rfl rfl (hb hby d6_42)
  refine oWk.st st ?_
  have K := K.wr W15 (Or.inl (List.mem_of_getElem? (i := 0) rfl))
  have B := B.wr W15 oSf
  have F_ordered_xa := F_ordered_xa.same W15
  refine oWk.st (fun _ kt => zA X hx hby d6_45 rfl rfl rfl (zB X hx hby d6_46 rfl rfl rfl kt)) ?_
  have E_xa := (E_xa.wr W15)
  have F_unordered_xa := (((((F_unordered_xa.ext E3).ext E6).other W13 (Or.inr (slot_ne (Or.inr (oW hw 95 rfl)) (Or.inr (oW hw 89 rfl)) (by decide) (t := (.object Y3)) (t' := (.object Y7)) (by decide) (by decide)))).other W14 (Or.inr (slot_ne (Or.inr (oW hw 95 rfl)) (Or.inr (oW hw 91 rfl)) (by decide) (t := (.object Y3)) (t' := (.object Y9)) (by decide) (by decide)))).other W15 (Or.inr (slot_ne (Or.inr (oW hw 95 rfl)) (Or.inr (oW hw 93 rfl)) (by decide) (t := (.object Y3)) (t' := (.object Y3)) (by decide) (by decide))))
  obtain ⟨T, h, X, e0, W16, st⟩ := putF X hx hZ hown (host := "") (Or.inl (oW hw 94 rfl)) Via.refl e0 F_unordered_xa E_xa (Or.inr ⟨(oW hw 95 rfl), rfl, hnm⟩) (oW hw 8 rfl) (ty := (.object Y3)) (by decide) rfl rfl (g := (mkF m 48 #[rv xa, rv xi, rv xs, rv xl, rv xl] [(.ref xl), (.ref xa)])) rfl rfl (hb hby d6_48)
  refine oWk.st st ?_
  have K := K.wr W16 (Or.inl (List.mem_of_getElem? (i := 0) rfl))
  have B := B.wr W16 oSf
  have F_unordered_xa := F_unordered_xa.same W16
  have E_xa := (E_xa.wr W16)
  exact oRetHV X hx hlk hZ (oELw hw) e0 B hret (hb hby d6_51) (by rw [e0]; exact ⟨rfl, K, E_xa⟩) (by decide) (by decide)
def Q_rABC (Z : State) (xa : Addr) (h0 : Heap) (v : Option Value) (h : Heap) (L : List Loc) : Prop := v = none ∧ h = h0 ∧ oKp h0 h [] L
theorem pn_6 : plainName "java/util/AbstractCollection" = true := by first | (simp [plainName, overriddenIn]; done) | decide +kernel
abbrev yy8 : MethodName := ⟨"java/util/AbstractCollection", "<init>", "()V"⟩
theorem d4_0 : decode jdk_22_method_1_code 0 = .ok (.aload_n 0, 1) := by decide +kernel
theorem d4_1 : decode jdk_22_method_1_code 1 = .ok (.invokespecial 1, 3) := by decide +kernel
theorem d4_4 : decode jdk_22_method_1_code 4 = .ok (.return_, 1) := by decide +kernel
theorem rABC (l : Launch) (Z : State) (a0 : Array Value) (hw : oHW a0 Z) (ws : List Jvm.Cond) (xa : Addr) (h0 : Heap) (O0 : Ext Z.heap h0)  :
    oCon l Z yy8 jdk_22_method_1_code 1 none ws ({ frames := 1, cells := 0, slots := 0, locals := 12 } : Room) #[(.ref xa)] h0 (Q_rABC Z xa h0) := by
  refine oCon.of (plainFor_of_name pn_6) ?_
  intro p e s m below meth c T X hx hby hml hown hnm hret hlk hZ e0
  have hml : c.maxLocals = 1 := hml
  have K : oKp h0 h0 [] [] := oKp.nil _ _
  refine oWk.cast (g' := (mkF m 0 #[rv xa] [])) (by first | rfl | (simp [entryFrame, mkF, argsToLocals, Value.category]; done)) ?_
  refine oWk.st (fun _ kt => zA X hx hby d4_0 rfl rfl rfl kt) ?_
  obtain ⟨T, X, e0, st⟩ := initO X hx hZ hown (oW hw 36 rfl) (oW hw 37 rfl) (oW hw 38 rfl) e0 (g := (mkF m 1 #[rv xa] [(.ref xa)])) rfl (by rw [hml]; rfl) rfl (hb hby d4_1) (by decide) (W := 0) (Nat.le_of_eq rfl) (by decide)
  refine oWk.st st ?_
  exact oRetV X hx hlk hret (hb hby d4_4) (by rw [e0]; exact ⟨rfl, rfl, K⟩) (by decide) (by decide)
def Q_rABL (Z : State) (xa : Addr) (xm xe : Value) (xn : Int32) (h0 : Heap) (v : Option Value) (h : Heap) (L : List Loc) : Prop := v = none ∧ oKp h0 h [xa] L ∧ (Exa Z h xa Y1) ∧ (Fld Z h xa Y11 "modCount" "I" (.int (0 : Int32))) ∧ (Fld Z h xa Y1 "elementData" Y2 xe) ∧ (Fld Z h xa Y1 "size" "I" (.int xn))
theorem pn_7 : plainName "java/util/AbstractList" = true := by first | (simp [plainName, overriddenIn]; done) | decide +kernel
abbrev yy9 : MethodName := ⟨"java/util/AbstractList", "<init>", "()V"⟩
theorem d3_0 : decode jdk_39_method_1_code 0 = .ok (.aload_n 0, 1) := by decide +kernel
theorem d3_1 : decode jdk_39_method_1_code 1 = .ok (.invokespecial 1, 3) := by decide +kernel
theorem cs5 {a0 : Array Value} {Z : State} (hw : oHW a0 Z) : oCall Z Y11 (.invokespecial 1) yy8 jdk_22_method_1_code 1 none (oRi 0) := oCall.init rfl (oW hw 30 rfl) (oW hw 31 rfl) (oW hw 34 rfl) (oW hw 35 rfl) (by decide) pd_3
theorem d3_4 : decode jdk_39_method_1_code 4 = .ok (.aload_n 0, 1) := by decide +kernel
theorem d3_5 : decode jdk_39_method_1_code 5 = .ok (.iconst 0, 1) := by decide +kernel
theorem d3_6 : decode jdk_39_method_1_code 6 = .ok (.putfield 7, 3) := by decide +kernel
theorem d3_9 : decode jdk_39_method_1_code 9 = .ok (.return_, 1) := by decide +kernel
theorem rABL (l : Launch) (Z : State) (a0 : Array Value) (hw : oHW a0 Z) (ws : List Jvm.Cond) (xa : Addr) (xm xe : Value) (xn : Int32) (h0 : Heap) (O0 : Ext Z.heap h0) (og_xa : Z.heap.size ≤ xa) (E_xa : Exa Z h0 xa Y1) (F_modCount_xa : Fld Z h0 xa Y11 "modCount" "I" xm) (F_elementData_xa : Fld Z h0 xa Y1 "elementData" Y2 xe) (F_size_xa : Fld Z h0 xa Y1 "size" "I" (.int xn)) :
    oCon l Z yy9 jdk_39_method_1_code 1 none ws ({ frames := 2, cells := 0, slots := 0, locals := 24 } : Room) #[(.ref xa)] h0 (Q_rABL Z xa xm xe xn h0) := by
  refine oCon.of (plainFor_of_name pn_7) ?_
  intro p e s m below meth c T X hx hby hml hown hnm hret hlk hZ e0
  have hml : c.maxLocals = 1 := hml
  have K : oKp h0 h0 [xa] [] := oKp.nil _ _
  refine oWk.cast (g' := (mkF m 0 #[rv xa] [])) (by first | rfl | (simp [entryFrame, mkF, argsToLocals, Value.category]; done)) ?_
  refine oWk.st (fun _ kt => zA X hx hby d3_0 rfl rfl rfl kt) ?_
  have Oh := K.old O0 (allS og_xa all0)
  obtain ⟨T, L2, X, e0, K, st⟩ := (cs5 hw).pure X hx hZ hown e0 K (A := [(.ref xa)]) ⟨rfl, _, _, rfl⟩ (rABC l Z a0 hw [] xa h0 Oh ) (fun _ _ _ q => q) (W := 0) (by decide) hml (Ls := #[rv xa]) rfl (rest := []) rfl rfl hby d3_1
  refine oWk.st st ?_
  refine oWk.st (fun _ kt => zA X hx hby d3_4 rfl rfl rfl (zK X hx hby d3_5 rfl kt)) ?_
  obtain ⟨T, h, X, e0, W3, st⟩ := putF X hx hZ hown (host := "") (Or.inl (oW hw 39 rfl)) Via.refl e0 F_modCount_xa E_xa (Or.inl (oW hw 40 rfl)) (oW hw 19 rfl) (ty := .int) (by decide) rfl rfl (g := (mkF m 6 #[rv xa] [(.int 0), (.ref xa)])) rfl rfl (hb hby d3_6)
  refine oWk.st st ?_
  have K := K.wr W3 (Or.inl (List.mem_of_getElem? (i := 0) rfl))
  have F_modCount_xa := F_modCount_xa.same W3
  have E_xa := (E_xa.wr W3)
  have F_elementData_xa := (F_elementData_xa.other W3 (Or.inr (slot_ne (Or.inl (oW hw 43 rfl)) (Or.inl (oW hw 40 rfl)) (by decide) (t := (.array (.object Y0))) (t' := .int) (by decide) (by decide))))
  have F_size_xa := (F_size_xa.other W3 (Or.inr (slot_ne (Or.inl (oW hw 83 rfl)) (Or.inl (oW hw 40 rfl)) (by decide) (t := .int) (t' := .int) (by decide) (by decide))))
  exact oRetV X hx hlk hret (hb hby d3_9) (by rw [e0]; exact ⟨rfl, K, E_xa, F_modCount_xa, F_elementData_xa, F_size_xa⟩) (by decide) (by decide)
def Q_rAL (Z : State) (xa xd : Addr) (xm xe : Value) (h0 : Heap) (v : Option Value) (h : Heap) (L : List Loc) : Prop := v = none ∧ oKp h0 h [xa] L ∧ (Exa Z h xa Y1) ∧ (Fld Z h xa Y1 "elementData" Y2 (.ref xd)) ∧ (Fld Z h xa Y1 "size" "I" (.int (0 : Int32))) ∧ (Fld Z h xa Y11 "modCount" "I" (.int (0 : Int32)))
abbrev yy10 : MethodName := ⟨"java/util/ArrayList", "<init>", "()V"⟩
theorem d2_0 : decode jdk_38_method_2_code 0 = .ok (.aload_n 0, 1) := by decide +kernel
theorem d2_1 : decode jdk_38_method_2_code 1 = .ok (.invokespecial 1, 3) := by decide +kernel
theorem cs6 {a0 : Array Value} {Z : State} (hw : oHW a0 Z) : oCall Z Y1 (.invokespecial 1) yy9 jdk_39_method_1_code 1 none (oRi 0) := oCall.init rfl (oW hw 24 rfl) (oW hw 25 rfl) (oW hw 28 rfl) (oW hw 29 rfl) (by decide) pd_3
theorem d2_4 : decode jdk_38_method_2_code 4 = .ok (.aload_n 0, 1) := by decide +kernel
theorem d2_5 : decode jdk_38_method_2_code 5 = .ok (.getstatic 39, 3) := by decide +kernel
theorem d2_8 : decode jdk_38_method_2_code 8 = .ok (.putfield 9, 3) := by decide +kernel
theorem d2_11 : decode jdk_38_method_2_code 11 = .ok (.return_, 1) := by decide +kernel
theorem rAL (l : Launch) (Z : State) (a0 : Array Value) (hw : oHW a0 Z) (ws : List Jvm.Cond) (xa xd : Addr) (xm xe : Value) (h0 : Heap) (O0 : Ext Z.heap h0) (S_DEFAULTCAPACITY_EMPTY_ELEMENTDATA : Sta Z Z.heap Y1 Y16 Y2 (.ref xd)) (og_xa : Z.heap.size ≤ xa) (E_xa : Exa Z h0 xa Y1) (F_elementData_xa : Fld Z h0 xa Y1 "elementData" Y2 xe) (F_size_xa : Fld Z h0 xa Y1 "size" "I" (.int (0 : Int32))) (F_modCount_xa : Fld Z h0 xa Y11 "modCount" "I" xm) :
    oCon l Z yy10 jdk_38_method_2_code 1 none ws ({ frames := 3, cells := 0, slots := 0, locals := 36 } : Room) #[(.ref xa)] h0 (Q_rAL Z xa xd xm xe h0) := by
  refine oCon.of (plainFor_of_name pn_2) ?_
  intro p e s m below meth c T X hx hby hml hown hnm hret hlk hZ e0
  have hml : c.maxLocals = 1 := hml
  have K : oKp h0 h0 [xa] [] := oKp.nil _ _
  refine oWk.cast (g' := (mkF m 0 #[rv xa] [])) (by first | rfl | (simp [entryFrame, mkF, argsToLocals, Value.category]; done)) ?_
  refine oWk.st (fun _ kt => zA X hx hby d2_0 rfl rfl rfl kt) ?_
  have Oh := K.old O0 (allS og_xa all0)
  obtain ⟨_, T, h, Lc2, X, e0, hQ, st⟩ := (cs6 hw).run X hx hZ hown e0 (A := [(.ref xa)]) ⟨rfl, _, _, rfl⟩ (rABL l Z a0 hw [] xa xm xe (0 : Int32) h0 Oh og_xa E_xa F_modCount_xa F_elementData_xa F_size_xa) (W := 0) (by decide) hml (Ls := #[rv xa]) rfl (rest := []) rfl rfl hby d2_1
  obtain ⟨rfl, K1, E_xa, F_modCount_xa, F_elementData_xa, F_size_xa⟩ := hQ
  have K := K.call K1 (allS (Or.inl (List.mem_of_getElem? (i := 0) rfl)) all0)
  refine oWk.st st ?_
  refine oWk.st (fun _ kt => zA X hx hby d2_4 rfl rfl rfl kt) ?_
  have Oh := K.old O0 (allS og_xa all0)
  obtain ⟨T, X, e0, st⟩ := getS2 X hx hZ hown (host := "") (Or.inl (oW hw 41 rfl)) Via.refl e0 (S_DEFAULTCAPACITY_EMPTY_ELEMENTDATA.ext Oh) (g := (mkF m 5 #[rv xa] [(.ref xa)])) rfl (hb hby d2_5)
  refine oWk.st st ?_
  obtain ⟨T, h, X, e0, W3, st⟩ := putF X hx hZ hown (host := "") (Or.inl (oW hw 42 rfl)) Via.refl e0 F_elementData_xa E_xa (Or.inl (oW hw 43 rfl)) (oW hw 19 rfl) (ty := (.array (.object Y0))) (by decide) rfl rfl (g := (mkF m 8 #[rv xa] [(.ref xd), (.ref xa)])) rfl rfl (hb hby d2_8)
  refine oWk.st st ?_
  have K := K.wr W3 (Or.inl (List.mem_of_getElem? (i := 0) rfl))
  have F_elementData_xa := F_elementData_xa.same W3
  have E_xa := (E_xa.wr W3)
  have F_size_xa := (F_size_xa.other W3 (Or.inr (slot_ne (Or.inl (oW hw 83 rfl)) (Or.inl (oW hw 43 rfl)) (by decide) (t := .int) (t' := (.array (.object Y0))) (by decide) (by decide))))
  have F_modCount_xa := (F_modCount_xa.other W3 (Or.inr (slot_ne (Or.inl (oW hw 40 rfl)) (Or.inl (oW hw 43 rfl)) (by decide) (t := .int) (t' := (.array (.object Y0))) (by decide) (by decide))))
  exact oRetV X hx hlk hret (hb hby d2_11) (by rw [e0]; exact ⟨rfl, K, E_xa, F_elementData_xa, F_size_xa, F_modCount_xa⟩) (by decide) (by decide)
def Q_rCh (Z : State) (xi xd xl : Addr) (h0 : Heap) (v : Option Value) (h : Heap) (L : List Loc) : Prop := ∃ (nr : Addr), v = some (.ref nr) ∧ oKp h0 h [] L ∧ (h0.size ≤ nr) ∧ (Exa Z h nr Y4)
theorem pn_8 : plainName "com/example/congruent/congruent/core/TreeNodePinLaw" = true := by first | (simp [plainName, overriddenIn]; done) | decide +kernel
abbrev yy11 : MethodName := ⟨"com/example/congruent/congruent/core/TreeNodePinLaw", "child", "(Lcom/example/congruent/congruent/core/Tree$Kind;)Lcom/example/congruent/congruent/core/Tree$Node;"⟩
theorem d1_0 : decode method_2_code 0 = .ok (.new 7, 3) := by decide +kernel
theorem d1_3 : decode method_2_code 3 = .ok (.dup, 1) := by decide +kernel
theorem d1_4 : decode method_2_code 4 = .ok (.aload_n 0, 1) := by decide +kernel
theorem d1_5 : decode method_2_code 5 = .ok (.ldc 9, 2) := by decide +kernel
theorem d1_7 : decode method_2_code 7 = .ok (.new 11, 3) := by decide +kernel
theorem d1_10 : decode method_2_code 10 = .ok (.dup, 1) := by decide +kernel
theorem d1_11 : decode method_2_code 11 = .ok (.invokespecial 13, 3) := by decide +kernel
theorem cs7 {a0 : Array Value} {Z : State} (hw : oHW a0 Z) : oCall Z Y17 (.invokespecial 13) yy10 jdk_38_method_2_code 1 none (oRi 0) := oCall.init rfl (oW hw 21 rfl) (oW hw 22 rfl) (oW hw 20 rfl) (oW hw 23 rfl) (by decide) pd_3
theorem d1_14 : decode method_2_code 14 = .ok (.new 11, 3) := by decide +kernel
theorem d1_17 : decode method_2_code 17 = .ok (.dup, 1) := by decide +kernel
theorem d1_18 : decode method_2_code 18 = .ok (.invokespecial 13, 3) := by decide +kernel
theorem d1_21 : decode method_2_code 21 = .ok (.invokespecial 14, 3) := by decide +kernel
theorem pd_5 : parseMethodDescriptor "(Lcom/example/congruent/congruent/core/Tree$Kind;Ljava/lang/String;Ljava/util/List;Ljava/util/List;)V" = some ⟨[(.object "com/example/congruent/congruent/core/Tree$Kind"), (.object "java/lang/String"), (.object "java/util/List"), (.object "java/util/List")], none⟩ := by decide +kernel
theorem d1_24 : decode method_2_code 24 = .ok (.areturn, 1) := by decide +kernel
theorem rCh (l : Launch) (Z : State) (a0 : Array Value) (hw : oHW a0 Z) (ws : List Jvm.Cond) (xi xd xl : Addr) (h0 : Heap) (O0 : Ext Z.heap h0) (S_DEFAULTCAPACITY_EMPTY_ELEMENTDATA : Sta Z Z.heap Y1 Y16 Y2 (.ref xd)) (S_EMPTY_LIST : Sta Z Z.heap Y12 "EMPTY_LIST" Y15 (.ref xl)) :
    oConH l Z oEL yy11 method_2_code 1 (some (.object Y4)) ws ({ frames := 4, cells := 9, slots := 54, locals := 54 } : Room) #[(.ref xi)] h0 [] (Q_rCh Z xi xd xl h0) := by
  refine oConH.of (plainFor_of_name pn_8) ?_
  intro p e s m below meth c T vm X hx hby hml hown hnm hret hlk hZ e0 B hsf
  have hml : c.maxLocals = 1 := hml
  have K : oKp h0 h0 [] [] := oKp.nil _ _
  refine oWk.cast (g' := (mkF m 0 #[rv xi] [])) (by first | rfl | (simp [entryFrame, mkF, argsToLocals, Value.category]; done)) ?_
  obtain ⟨o1, g1⟩ : ∃ z, z = h0.size := ⟨_, rfl⟩
  have ge_o1 : h0.size ≤ o1 := Nat.le_trans K.le (Nat.le_of_eq g1.symm)
  obtain ⟨T, h, X, e0, E1, A1, D1, -, st⟩ := newO X hx hZ hown (oW hw 7 rfl) (oW hw 8 rfl) (oW hw 9 rfl) e0 (g := (mkF m 0 #[rv xi] [])) rfl (hb hby d1_0) (by decide) (by decide)
  rw [← g1] at A1 D1 st
  refine oWk.st st ?_
  have K := K.ext E1
  have B := B.ext E1
  have E_o1 := A1
  have F_kind_o1 : Fld Z h o1 Y4 "kind" Y13 .null := D1 (Or.inr (oW hw 89 rfl)) (ty := (.object Y7)) (by decide)
  have F_name_o1 : Fld Z h o1 Y4 "name" Y14 .null := D1 (Or.inr (oW hw 91 rfl)) (ty := (.object Y9)) (by decide)
  have F_ordered_o1 : Fld Z h o1 Y4 "ordered" Y5 .null := D1 (Or.inr (oW hw 93 rfl)) (ty := (.object Y3)) (by decide)
  have F_unordered_o1 : Fld Z h o1 Y4 "unordered" Y5 .null := D1 (Or.inr (oW hw 95 rfl)) (ty := (.object Y3)) (by decide)
  refine oWk.st (fun _ kt => zD X hx hby d1_3 rfl rfl rfl (zA X hx hby d1_4 rfl rfl rfl kt)) ?_
  obtain ⟨lt2, T, h, X, e2, E2, hZ, hown, B, C, st⟩ := oLdcO X hx hZ hown (oW hw 10 rfl) (oSA hw) e0 (oELw hw) B (g := (mkF m 5 #[rv xi] [(.ref xi), (.ref o1), (.ref o1)])) rfl (hb hby d1_5) (n := 0) (by decide) (by decide) (by decide) (by decide)
  have e0 := e2
  refine oWk.st st ?_
  have K := K.ext E2
  obtain ⟨o3, g3⟩ : ∃ z, z = h.size := ⟨_, rfl⟩
  have E_o1 := (E_o1.ext E2)
  have ne_o1_o3 : o1 ≠ o3 := Nat.ne_of_lt (Nat.lt_of_lt_of_le E_o1.lt (Nat.le_of_eq g3.symm))
  have ge_o3 : h0.size ≤ o3 := Nat.le_trans K.le (Nat.le_of_eq g3.symm)
  obtain ⟨T, h, X, e0, E3, A3, D3, -, st⟩ := newO X hx hZ hown (oW hw 18 rfl) (oW hw 19 rfl) (oW hw 20 rfl) e0 (g := (mkF m 7 #[rv xi] [(.ref lt2), (.ref xi), (.ref o1), (.ref o1)])) rfl (hb hby d1_7) (by decide) (by decide)
  rw [← g3] at A3 D3 st
  refine oWk.st st ?_
  have K := K.ext E3
  have B := B.ext E3
  have E_o3 := A3
  have F_modCount_o3 : Fld Z h o3 Y11 "modCount" "I" (.int (0 : Int32)) := D3 (Or.inl (oW hw 40 rfl)) (ty := .int) (by decide)
  have F_elementData_o3 : Fld Z h o3 Y1 "elementData" Y2 .null := D3 (Or.inl (oW hw 43 rfl)) (ty := (.array (.object Y0))) (by decide)
  have F_size_o3 : Fld Z h o3 Y1 "size" "I" (.int (0 : Int32)) := D3 (Or.inl (oW hw 83 rfl)) (ty := .int) (by decide)
  refine oWk.st (fun _ kt => zD X hx hby d1_10 rfl rfl rfl kt) ?_
  have Oh := K.old O0 all0
  obtain ⟨_, T, h, Lc5, X, e0, hQ, st⟩ := (cs7 hw).run X hx hZ hown e0 (A := [(.ref o3)]) ⟨rfl, _, _, rfl⟩ (rAL l Z a0 hw [] o3 xd (.int (0 : Int32)) .null h Oh S_DEFAULTCAPACITY_EMPTY_ELEMENTDATA (Nat.le_trans O0.1 ge_o3) E_o3 F_elementData_o3 F_size_o3 F_modCount_o3) (W := 5) (by decide) hml (Ls := #[rv xi]) rfl (rest := [(.ref o3), (.ref lt2), (.ref xi), (.ref o1), (.ref o1)]) rfl rfl hby d1_11
  obtain ⟨rfl, K4, E_o3, F_elementData_o3, F_size_o3, F_modCount_o3⟩ := hQ
  have K := K.call K4 (allS (Or.inr ge_o3) all0)
  have B := B.keep K4.1 (fun _ _ => oSf)
  refine oWk.st st ?_
  obtain ⟨o6, g6⟩ : ∃ z, z = h.size := ⟨_, rfl⟩
  have E_o1 := ((E_o1.ext E3).keep K4.1)
  have ne_o1_o6 : o1 ≠ o6 := Nat.ne_of_lt (Nat.lt_of_lt_of_le E_o1.lt (Nat.le_of_eq g6.symm))
  have ne_o3_o6 : o3 ≠ o6 := Nat.ne_of_lt (Nat.lt_of_lt_of_le E_o3.lt (Nat.le_of_eq g6.symm))
  have ge_o6 : h0.size ≤ o6 := Nat.le_trans K.le (Nat.le_of_eq g6.symm)
  obtain ⟨T, h, X, e0, E6, A6, D6, -, st⟩ := newO X hx hZ hown (oW hw 18 rfl) (oW hw 19 rfl) (oW hw 20 rfl) e0 (g := (mkF m 14 #[rv xi] [(.ref o3), (.ref lt2), (.ref xi), (.ref o1), (.ref o1)])) rfl (hb hby d1_14) (by decide) (by decide)
  rw [← g6] at A6 D6 st
  refine oWk.st st ?_
  have K := K.ext E6
  have B := B.ext E6
  have E_o6 := A6
  have F_modCount_o6 : Fld Z h o6 Y11 "modCount" "I" (.int (0 : Int32)) := D6 (Or.inl (oW hw 40 rfl)) (ty := .int) (by decide)
  have F_elementData_o6 : Fld Z h o6 Y1 "elementData" Y2 .null := D6 (Or.inl (oW hw 43 rfl)) (ty := (.array (.object Y0))) (by decide)
  have F_size_o6 : Fld Z h o6 Y1 "size" "I" (.int (0 : Int32)) := D6 (Or.inl (oW hw 83 rfl)) (ty := .int) (by decide)
  refine oWk.st (fun _ kt => zD X hx hby d1_17 rfl rfl rfl kt) ?_
  have Oh := K.old O0 all0
  obtain ⟨_, T, h, Lc8, X, e0, hQ, st⟩ := (cs7 hw).run X hx hZ hown e0 (A := [(.ref o6)]) ⟨rfl, _, _, rfl⟩ (rAL l Z a0 hw [] o6 xd (.int (0 : Int32)) .null h Oh S_DEFAULTCAPACITY_EMPTY_ELEMENTDATA (Nat.le_trans O0.1 ge_o6) E_o6 F_elementData_o6 F_size_o6 F_modCount_o6) (W := 6) (by decide) hml (Ls := #[rv xi]) rfl (rest := [(.ref o6), (.ref o3), (.ref lt2), (.ref xi), (.ref o1), (.ref o1)]) rfl rfl hby d1_18
  obtain ⟨rfl, K7, E_o6, F_elementData_o6, F_size_o6, F_modCount_o6⟩ := hQ
  have K := K.call K7 (allS (Or.inr ge_o6) all0)
  have B := B.keep K7.1 (fun _ _ => oSf)
  refine oWk.st st ?_
  have E_o1 := ((E_o1.ext E6).keep K7.1)
  have F_kind_o1 := (((((F_kind_o1.ext E2).ext E3).keep K4.1 (ninS ne_o1_o3 nin0)).ext E6).keep K7.1 (ninS ne_o1_o6 nin0))
  have F_name_o1 := (((((F_name_o1.ext E2).ext E3).keep K4.1 (ninS ne_o1_o3 nin0)).ext E6).keep K7.1 (ninS ne_o1_o6 nin0))
  have F_ordered_o1 := (((((F_ordered_o1.ext E2).ext E3).keep K4.1 (ninS ne_o1_o3 nin0)).ext E6).keep K7.1 (ninS ne_o1_o6 nin0))
  have F_unordered_o1 := (((((F_unordered_o1.ext E2).ext E3).keep K4.1 (ninS ne_o1_o3 nin0)).ext E6).keep K7.1 (ninS ne_o1_o6 nin0))
  have E_o3 := ((E_o3.ext E6).keep K7.1)
  have F_size_o3 := ((F_size_o3.ext E6).keep K7.1 (ninS ne_o3_o6 nin0))
  have Oh := K.old O0 all0
  obtain ⟨_, _, ⟨T, L10, k10, n10⟩, -, X, hS, hgr, ⟨Lc10, hQ, l10, y10, z10, C⟩, st⟩ := X.specialBackS hx (y := yy7) rfl hown (mvT hZ (oW hw 44 rfl)) (mvT hZ (oW hw 45 rfl)) (mvT hZ (oW hw 46 rfl)) (by decide) (oBackH (W := 1) (rNI_0_0 l Z a0 hw [] o1 xi lt2 .null .null .null .null o3 o6 xl h Oh S_EMPTY_LIST (Nat.le_trans O0.1 ge_o1) E_o1 F_kind_o1 F_name_o1 F_ordered_o1 F_unordered_o1 E_o3 F_size_o3 E_o6 F_size_o6) hZ (oW hw 46 rfl) (oW hw 9 rfl) (by decide) (by decide) (oELw hw) B.2.1 (allS ⟨E_o1.lt, oSf⟩ all0)) (g := (mkF m 21 #[rv xi] [(.ref o6), (.ref o3), (.ref lt2), (.ref xi), (.ref o1), (.ref o1)])) rfl (by rw [hml]; rfl) (Steps.refl _) (a := o1) (argsL := [(.ref xi), (.ref lt2), (.ref o3), (.ref o6)]) (rest := [(.ref o1)]) (lenOf pd_5 rfl) rfl (Nat.le_of_eq rfl) (hb hby d1_21) (fun _ _ => ⟨rfl, e0, (by decide : 5 + 4 ≤ _), (by decide : 14 + 40 ≤ _)⟩)
  dsimp only [Pt.U, Pt.locs, Pt.cells, Pt.slots] at X l10 y10 z10 st hQ C hS hgr
  subst l10 y10 z10
  have X : Stand p l e _ (s.setVm T.vm) m _ below meth c T _ _ _ := X
  obtain ⟨h, e2⟩ : ∃ z, T.heap = z := ⟨_, rfl⟩
  have B := B.call e0 hS hgr C e2
  obtain ⟨hZ, hown⟩ := oWide hZ hown hS
  rw [e2] at hQ C
  have e0 := e2
  obtain ⟨rfl, K9, E_o1⟩ := hQ
  have K := K.call K9 (allS (Or.inr ge_o1) all0)
  refine oWk.tr st ?_
  exact oRetH X hx hlk hZ (oELw hw) e0 B hret (oNarR rfl rfl) (Or.inr (Or.inr (Or.inr (Or.inr ⟨rfl, rfl, rfl⟩)))) (hb hby d1_24) (by rw [e0]; exact ⟨o1, rfl, K, ge_o1, E_o1⟩) (by decide) (by decide)
theorem oRem1 {p a : Int32} (h : (p &&& 2147483647) % 1 = a) : a = 0 := by
  have q1 := (c_irem (p &&& 2147483647) 1 1 rfl).1
  have q2 := c_mask p 2147483647 31 (by decide) (by decide)
  rw [h] at q1
  have e : ∀ j : Int32, a.toInt = j.toInt → a = j := fun j q => Int32.toInt_inj.mp q
  have d : a.toInt = 0 := by omega
  exact e 0 d
theorem oRem2 {p a : Int32} (h : (p &&& 2147483647) % 2 = a) : a = 0 ∨ a = 1 := by
  have q1 := (c_irem (p &&& 2147483647) 2 2 rfl).1
  have q2 := c_mask p 2147483647 31 (by decide) (by decide)
  rw [h] at q1
  have e : ∀ j : Int32, a.toInt = j.toInt → a = j := fun j q => Int32.toInt_inj.mp q
  have d : a.toInt = 0 ∨ a.toInt = 1 := by omega
  exact d.imp (e 0) (e 1)
theorem oRem3 {p a : Int32} (h : (p &&& 2147483647) % 3 = a) : a = 0 ∨ a = 1 ∨ a = 2 := by
  have q1 := (c_irem (p &&& 2147483647) 3 3 rfl).1
  have q2 := c_mask p 2147483647 31 (by decide) (by decide)
  rw [h] at q1
  have e : ∀ j : Int32, a.toInt = j.toInt → a = j := fun j q => Int32.toInt_inj.mp q
  have d : a.toInt = 0 ∨ a.toInt = 1 ∨ a.toInt = 2 := by omega
  exact d.imp (e 0) (Or.imp (e 1) (e 2))
theorem oRem4 {p a : Int32} (h : (p &&& 2147483647) % 4 = a) : a = 0 ∨ a = 1 ∨ a = 2 ∨ a = 3 := by
  have q1 := (c_irem (p &&& 2147483647) 4 4 rfl).1
  have q2 := c_mask p 2147483647 31 (by decide) (by decide)
  rw [h] at q1
  have e : ∀ j : Int32, a.toInt = j.toInt → a = j := fun j q => Int32.toInt_inj.mp q
  have d : a.toInt = 0 ∨ a.toInt = 1 ∨ a.toInt = 2 ∨ a.toInt = 3 := by omega
  exact d.imp (e 0) (Or.imp (e 1) (Or.imp (e 2) (e 3)))
theorem oOne4 {p a : Int32} (h : (1 : Int32) + (p &&& 3) = a) : a = 1 ∨ a = 2 ∨ a = 3 ∨ a = 4 := by
  have q2 := c_mask p 3 2 (by decide) (by decide)
  have q3 := c_iadd 1 (p &&& 3)
  rw [h] at q3
  have q4 : (1 : Int32).toInt = 1 := by decide
  have q5 := rng32 a
  have e : ∀ j : Int32, a.toInt = j.toInt → a = j := fun j q => Int32.toInt_inj.mp q
  have d : a.toInt = 1 ∨ a.toInt = 2 ∨ a.toInt = 3 ∨ a.toInt = 4 := by omega
  exact d.imp (e 1) (Or.imp (e 2) (Or.imp (e 3) (e 4)))
def Q_rLaw (Z : State) (p0 p1 p2 : Int32) (kTRIPLE kPATH kJOIN xd : Addr) (xk : ClassId) (xl xq xmr : Addr) (h0 : Heap) (v : Option Value) (h : Heap) (L : List Loc) : Prop := v = some (.int (1 : Int32)) ∧ Fr h0.size L
theorem pd_6 : parseMethodDescriptor "(Lcom/example/congruent/congruent/core/Tree$Kind;)Lcom/example/congruent/congruent/core/Tree$Node;" = some ⟨[(.object "com/example/congruent/congruent/core/Tree$Kind")], some (.object "com/example/congruent/congruent/core/Tree$Node")⟩ := by decide +kernel
def Q_rMax (Z : State)  (h0 : Heap) (v : Option Value) (h : Heap) (L : List Loc) : Prop := v = some (.int (10 : Int32)) ∧ h = h0 ∧ oKp h0 h [] L
abbrev yy12 : MethodName := ⟨"java/lang/Math", "max", "(II)I"⟩
theorem d17_0 : decode jdk_29_method_65_code 0 = .ok (.iload_n 0, 1) := by decide +kernel
theorem d17_1 : decode jdk_29_method_65_code 1 = .ok (.iload_n 1, 1) := by decide +kernel
theorem d17_2 : decode jdk_29_method_65_code 2 = .ok (.if_icmp .lt 7, 3) := by decide +kernel
theorem d17_5 : decode jdk_29_method_65_code 5 = .ok (.iload_n 0, 1) := by decide +kernel
theorem d17_6 : decode jdk_29_method_65_code 6 = .ok (.goto 4, 3) := by decide +kernel
theorem d17_10 : decode jdk_29_method_65_code 10 = .ok (.ireturn, 1) := by decide +kernel
theorem rMax (l : Launch) (Z : State) (a0 : Array Value) (hw : oHW a0 Z) (ws : List Jvm.Cond)  (h0 : Heap) (O0 : Ext Z.heap h0)  :
    oCon l Z yy12 jdk_29_method_65_code 2 (some .int) ws ({ frames := 0, cells := 0, slots := 0, locals := 0 } : Room) #[(.int (10 : Int32)), (.int (1 : Int32))] h0 (Q_rMax Z  h0) := by
  refine oCon.of (Jvm.Free.JP.mathPlain rfl (by decide +kernel)) ?_
  intro p e s m below meth c T X hx hby hml hown hnm hret hlk hZ e0
  have hml : c.maxLocals = 2 := hml
  have K : oKp h0 h0 [] [] := oKp.nil _ _
  refine oWk.cast (g' := (mkF m 0 #[iv 10, iv 1] [])) (by first | rfl | (simp [entryFrame, mkF, argsToLocals, Value.category]; done)) ?_
  refine oWk.st (fun _ kt => zI X hx hby d17_0 rfl rfl (zI X hx hby d17_1 rfl rfl (zN X hx hby d17_2 rfl rfl (flt (by decide)).1 (zI X hx hby d17_5 rfl rfl (zG X hx hby d17_6 rfl (pc' := 10) rfl kt))))) ?_
  show oWk _ _ _ _ T (mkF m 10 #[iv 10, iv 1] [(.int 10)])
  exact oRetI X hx hlk hret (hb hby d17_10) (by rw [e0]; exact ⟨rfl, rfl, K⟩) (by decide) (by decide)
def Q_rGr1 (Z : State) (xa xd : Addr) (xk : ClassId) (xm : Int32) (h0 : Heap) (v : Option Value) (h : Heap) (L : List Loc) : Prop := ∃ (nd : Addr) (nk : ClassId), v = some (.ref nd) ∧ oKp h0 h [xa] L ∧ (Exa Z h xa Y1) ∧ (Fld Z h xa Y1 "elementData" Y2 (.ref nd)) ∧ (Fld Z h xa Y1 "size" "I" (.int (0 : Int32))) ∧ (Fld Z h xa Y11 "modCount" "I" (.int xm)) ∧ (h0.size ≤ nd) ∧ (Exa Z h nd Y2) ∧ (Arv Z h nd nk (.object Y0) (10 : Int32) [.null, .null, .null, .null, .null, .null, .null, .null, .null, .null] .null) ∧ (Ovr Z nk Y0)
abbrev yy13 : MethodName := ⟨"java/util/ArrayList", "grow", "(I)[Ljava/lang/Object;"⟩
theorem d16_0 : decode jdk_38_method_6_code 0 = .ok (.aload_n 0, 1) := by decide +kernel
theorem d16_1 : decode jdk_38_method_6_code 1 = .ok (.getfield 9, 3) := by decide +kernel
theorem d16_4 : decode jdk_38_method_6_code 4 = .ok (.arraylength, 1) := by decide +kernel
theorem d16_5 : decode jdk_38_method_6_code 5 = .ok (.istore_n 2, 1) := by decide +kernel
theorem d16_6 : decode jdk_38_method_6_code 6 = .ok (.iload_n 2, 1) := by decide +kernel
theorem d16_7 : decode jdk_38_method_6_code 7 = .ok (.ifCond .gt 13, 3) := by decide +kernel
theorem d16_10 : decode jdk_38_method_6_code 10 = .ok (.aload_n 0, 1) := by decide +kernel
theorem d16_11 : decode jdk_38_method_6_code 11 = .ok (.getfield 9, 3) := by decide +kernel
theorem d16_14 : decode jdk_38_method_6_code 14 = .ok (.getstatic 39, 3) := by decide +kernel
theorem d16_17 : decode jdk_38_method_6_code 17 = .ok (.if_acmp .eq 28, 3) := by decide +kernel
theorem d16_45 : decode jdk_38_method_6_code 45 = .ok (.aload_n 0, 1) := by decide +kernel
theorem d16_46 : decode jdk_38_method_6_code 46 = .ok (.bipush 10, 2) := by decide +kernel
theorem d16_48 : decode jdk_38_method_6_code 48 = .ok (.iload_n 1, 1) := by decide +kernel
theorem d16_49 : decode jdk_38_method_6_code 49 = .ok (.invokestatic 79, 3) := by decide +kernel
theorem pd_7 : parseMethodDescriptor "(II)I" = some ⟨[.int, .int], some .int⟩ := by decide +kernel
theorem cs8 {a0 : Array Value} {Z : State} (hw : oHW a0 Z) : oCall Z Y1 (.invokestatic 79) yy12 jdk_29_method_65_code 2 (some .int) (oRs 2) := oCall.stat (oW hw 123 rfl) (oW hw 124 rfl) (oW hw 125 rfl) (oW hw 126 rfl) (by decide) pd_7
theorem d16_52 : decode jdk_38_method_6_code 52 = .ok (.anewarray 7, 3) := by decide +kernel
theorem d16_55 : decode jdk_38_method_6_code 55 = .ok (.dup_x1, 1) := by decide +kernel
theorem d16_56 : decode jdk_38_method_6_code 56 = .ok (.putfield 9, 3) := by decide +kernel
theorem d16_59 : decode jdk_38_method_6_code 59 = .ok (.areturn, 1) := by decide +kernel
theorem rGr1 (l : Launch) (Z : State) (a0 : Array Value) (hw : oHW a0 Z) (ws : List Jvm.Cond) (xa xd : Addr) (xk : ClassId) (xm : Int32) (h0 : Heap) (O0 : Ext Z.heap h0) (S_DEFAULTCAPACITY_EMPTY_ELEMENTDATA : Sta Z Z.heap Y1 Y16 Y2 (.ref xd)) (og_xa : Z.heap.size ≤ xa) (E_xa : Exa Z h0 xa Y1) (F_elementData_xa : Fld Z h0 xa Y1 "elementData" Y2 (.ref xd)) (F_size_xa : Fld Z h0 xa Y1 "size" "I" (.int (0 : Int32))) (F_modCount_xa : Fld Z h0 xa Y11 "modCount" "I" (.int xm)) (V_xd : Arv Z h0 xd xk (.object Y0) (0 : Int32) [] .null) :
    oCon l Z yy13 jdk_38_method_6_code 4 (some (.array (.object Y0))) ws ({ frames := 1, cells := 1, slots := 10, locals := 14 } : Room) #[(.ref xa), (.int (1 : Int32))] h0 (Q_rGr1 Z xa xd xk xm h0) := by
  refine oCon.of (plainFor_of_name pn_2) ?_
  intro p e s m below meth c T X hx hby hml hown hnm hret hlk hZ e0
  have hml : c.maxLocals = 4 := hml
  have K : oKp h0 h0 [xa] [] := oKp.nil _ _
  refine oWk.cast (g' := (mkF m 0 #[rv xa, iv 1, uu, uu] [])) (by first | rfl | (simp [entryFrame, mkF, argsToLocals, Value.category]; done)) ?_
  refine oWk.st (fun _ kt => zA X hx hby d16_0 rfl rfl rfl kt) ?_
  obtain ⟨T, X, e0, st⟩ := getF X hx hZ hown (host := "") (Or.inl (oW hw 42 rfl)) Via.refl e0 F_elementData_xa (g := (mkF m 1 #[rv xa, iv 1, uu, uu] [(.ref xa)])) rfl rfl (hb hby d16_1)
  refine oWk.st st ?_
  obtain ⟨cl1, Ar1, q1, Sz1, Nn1, Hs1, Ft1⟩ := id V_xd
  refine oWk.st (fun _ kt => X.arraylength hx (by rw [e0]; exact Ar1.1) (State.isArrayOf_alike hZ.alike Ar1.2.1) (g := (mkF m 4 #[rv xa, iv 1, uu, uu] [(.ref xd)])) rfl rfl (hb hby d16_4) _ kt) ?_
  rw [len_of Sz1 Nn1]
  refine oWk.st (fun _ kt => zSn X hx hby d16_5 rfl rfl (l' := #[rv xa, iv 1, iv 0, uu]) rfl (zI X hx hby d16_6 rfl rfl (zH X hx hby d16_7 rfl rfl ((if0 _ _).trans (flt (by decide)).2.2.1) (zA X hx hby d16_10 rfl rfl rfl kt)))) ?_
  obtain ⟨T, X, e0, st⟩ := getF X hx hZ hown (host := "") (Or.inl (oW hw 42 rfl)) Via.refl e0 F_elementData_xa (g := (mkF m 11 #[rv xa, iv 1, iv 0, uu] [(.ref xa)])) rfl rfl (hb hby d16_11)
  refine oWk.st st ?_
  have Oh := K.old O0 (allS og_xa all0)
  obtain ⟨T, X, e0, st⟩ := getS2 X hx hZ hown (host := "") (Or.inl (oW hw 41 rfl)) Via.refl e0 (S_DEFAULTCAPACITY_EMPTY_ELEMENTDATA.ext Oh) (g := (mkF m 14 #[rv xa, iv 1, iv 0, uu] [(.ref xd)])) rfl (hb hby d16_14)
  refine oWk.st st ?_
  refine oWk.st (fun _ kt => Jvm.RoadKit.acmp (g := (mkF m 17 #[rv xa, iv 1, iv 0, uu] [(.ref xd), (.ref xd)])) X hx rfl rfl rfl (pc0 := 17) (pc' := 45) (same := true) rfl (hb hby d16_17) rfl (decide_eq_true rfl) (by decide) (by decide) kt) ?_
  show oWk _ _ _ _ T (mkF m 45 #[rv xa, iv 1, iv 0, uu] [])
  refine oWk.st (fun _ kt => zA X hx hby d16_45 rfl rfl rfl (zL X hx hby d16_46 rfl (zI X hx hby d16_48 rfl rfl kt))) ?_
  obtain ⟨T, L3, X, e0, K, st⟩ := (cs8 hw).pure X hx hZ hown e0 K (A := [(.int (10 : Int32)), (.int (1 : Int32))]) rfl (rMax l Z a0 hw []  h0 Oh ) (fun _ _ _ q => q) (W := 1) (by decide) hml (Ls := #[rv xa, iv 1, iv 0, uu]) rfl (rest := [(.ref xa)]) rfl rfl hby d16_49
  refine oWk.st st ?_
  obtain ⟨o4, g4⟩ : ∃ z, z = h0.size := ⟨_, rfl⟩
  have ne_xa_o4 : xa ≠ o4 := Nat.ne_of_lt (Nat.lt_of_lt_of_le E_xa.lt (Nat.le_of_eq g4.symm))
  have ne_xd_o4 : xd ≠ o4 := Nat.ne_of_lt (Nat.lt_of_lt_of_le V_xd.lt (Nat.le_of_eq g4.symm))
  have ge_o4 : h0.size ≤ o4 := Nat.le_trans K.le (Nat.le_of_eq g4.symm)
  obtain ⟨T, h, k4, X, e0, E4, A4, E_o4, O4, st⟩ := newRE X hx hZ hown (oW hw 127 rfl) (oW hw 128 rfl) e0 (g := (mkF m 52 #[rv xa, iv 1, iv 0, uu] [(.int 10), (.ref xa)])) rfl (hb hby d16_52) rfl (by decide) (cap := 10) (by decide) (by decide) (by decide) (by decide) (ad := Y2) (by decide)
  rw [← g4] at A4 E_o4 st
  refine oWk.st st ?_
  have K := K.ext E4
  have V_o4 : Arv Z h o4 k4 (.object Y0) (10 : Int32) [.null, .null, .null, .null, .null, .null, .null, .null, .null, .null] .null := (Arv.new A4 (by decide)).pad (pad_rep [] .null 10)
  refine oWk.st (fun _ kt => XS.dupX1 X.here hx rfl (hb hby d16_55) rfl rfl rfl kt) ?_
  have E_xa := (E_xa.ext E4)
  have F_elementData_xa := (F_elementData_xa.ext E4)
  obtain ⟨T, h, X, e0, W5, st⟩ := putF X hx hZ hown (host := "") (Or.inl (oW hw 42 rfl)) Via.refl e0 F_elementData_xa E_xa (Or.inl (oW hw 43 rfl)) (oW hw 19 rfl) (ty := (.array (.object Y0))) (by decide) rfl rfl (g := (mkF m 56 #[rv xa, iv 1, iv 0, uu] [(.ref o4), (.ref xa), (.ref o4)])) rfl rfl (hb hby d16_56)
  refine oWk.st st ?_
  have K := K.wr W5 (Or.inl (List.mem_of_getElem? (i := 0) rfl))
  have F_elementData_xa := F_elementData_xa.same W5
  have E_xa := (E_xa.wr W5)
  have F_size_xa := ((F_size_xa.ext E4).other W5 (Or.inr (slot_ne (Or.inl (oW hw 83 rfl)) (Or.inl (oW hw 43 rfl)) (by decide) (t := .int) (t' := (.array (.object Y0))) (by decide) (by decide))))
  have F_modCount_xa := ((F_modCount_xa.ext E4).other W5 (Or.inr (slot_ne (Or.inl (oW hw 40 rfl)) (Or.inl (oW hw 43 rfl)) (by decide) (t := .int) (t' := (.array (.object Y0))) (by decide) (by decide))))
  have E_o4 := (E_o4.wr W5)
  have V_o4 := (V_o4.other W5 (Ne.symm ne_xa_o4))
  exact oRetA X hx hlk hret rfl rfl (hb hby d16_59) (by rw [e0]; exact ⟨o4, k4, rfl, K, E_xa, F_elementData_xa, F_size_xa, F_modCount_xa, ge_o4, E_o4, V_o4, O4⟩) (by decide) (by decide)
def Q_rGr0 (Z : State) (xa xd : Addr) (xk : ClassId) (xm : Int32) (h0 : Heap) (v : Option Value) (h : Heap) (L : List Loc) : Prop := ∃ (nd : Addr) (nk : ClassId), v = some (.ref nd) ∧ oKp h0 h [xa] L ∧ (Exa Z h xa Y1) ∧ (Fld Z h xa Y1 "elementData" Y2 (.ref nd)) ∧ (Fld Z h xa Y1 "size" "I" (.int (0 : Int32))) ∧ (Fld Z h xa Y11 "modCount" "I" (.int xm)) ∧ (h0.size ≤ nd) ∧ (Exa Z h nd Y2) ∧ (Arv Z h nd nk (.object Y0) (10 : Int32) [.null, .null, .null, .null, .null, .null, .null, .null, .null, .null] .null) ∧ (Ovr Z nk Y0)
abbrev yy14 : MethodName := ⟨"java/util/ArrayList", "grow", "()[Ljava/lang/Object;"⟩
theorem d15_0 : decode jdk_38_method_7_code 0 = .ok (.aload_n 0, 1) := by decide +kernel
theorem d15_1 : decode jdk_38_method_7_code 1 = .ok (.aload_n 0, 1) := by decide +kernel
theorem d15_2 : decode jdk_38_method_7_code 2 = .ok (.getfield 48, 3) := by decide +kernel
theorem d15_5 : decode jdk_38_method_7_code 5 = .ok (.iconst 1, 1) := by decide +kernel
theorem d15_6 : decode jdk_38_method_7_code 6 = .ok (.iadd, 1) := by decide +kernel
theorem d15_7 : decode jdk_38_method_7_code 7 = .ok (.invokevirtual 69, 3) := by decide +kernel
theorem pd_8 : parseMethodDescriptor "(I)[Ljava/lang/Object;" = some ⟨[.int], some (.array (.object "java/lang/Object"))⟩ := by decide +kernel
theorem cs9 {a0 : Array Value} {Z : State} (hw : oHW a0 Z) : oCall Z Y1 (.invokevirtual 69) yy13 jdk_38_method_6_code 4 (some (.array (.object Y0))) (oRv Z 1 Y1) := oCall.priv (oW hw 118 rfl) (oW hw 119 rfl) (oW hw 121 rfl) (oW hw 120 rfl) (oW hw 20 rfl) (oW hw 122 rfl) (by decide) pd_8 _
theorem d15_10 : decode jdk_38_method_7_code 10 = .ok (.areturn, 1) := by decide +kernel
theorem rGr0 (l : Launch) (Z : State) (a0 : Array Value) (hw : oHW a0 Z) (ws : List Jvm.Cond) (xa xd : Addr) (xk : ClassId) (xm : Int32) (h0 : Heap) (O0 : Ext Z.heap h0) (S_DEFAULTCAPACITY_EMPTY_ELEMENTDATA : Sta Z Z.heap Y1 Y16 Y2 (.ref xd)) (og_xa : Z.heap.size ≤ xa) (E_xa : Exa Z h0 xa Y1) (F_elementData_xa : Fld Z h0 xa Y1 "elementData" Y2 (.ref xd)) (F_size_xa : Fld Z h0 xa Y1 "size" "I" (.int (0 : Int32))) (F_modCount_xa : Fld Z h0 xa Y11 "modCount" "I" (.int xm)) (V_xd : Arv Z h0 xd xk (.object Y0) (0 : Int32) [] .null) :
    oCon l Z yy14 jdk_38_method_7_code 1 (some (.array (.object Y0))) ws ({ frames := 2, cells := 1, slots := 10, locals := 29 } : Room) #[(.ref xa)] h0 (Q_rGr0 Z xa xd xk xm h0) := by
  refine oCon.of (plainFor_of_name pn_2) ?_
  intro p e s m below meth c T X hx hby hml hown hnm hret hlk hZ e0
  have hml : c.maxLocals = 1 := hml
  have K : oKp h0 h0 [xa] [] := oKp.nil _ _
  refine oWk.cast (g' := (mkF m 0 #[rv xa] [])) (by first | rfl | (simp [entryFrame, mkF, argsToLocals, Value.category]; done)) ?_
  refine oWk.st (fun _ kt => zA X hx hby d15_0 rfl rfl rfl (zA X hx hby d15_1 rfl rfl rfl kt)) ?_
  obtain ⟨T, X, e0, st⟩ := getF X hx hZ hown (host := "") (Or.inl (oW hw 82 rfl)) Via.refl e0 F_size_xa (g := (mkF m 2 #[rv xa] [(.ref xa), (.ref xa)])) rfl rfl (hb hby d15_2)
  refine oWk.st st ?_
  refine oWk.st (fun _ kt => zK X hx hby d15_5 rfl (XS.iadd X.here hx rfl (hb hby d15_6) rfl kt)) ?_
  show oWk _ _ _ _ T (mkF m 7 #[rv xa] [(.int ((0 : Int32) + (1 : Int32))), (.ref xa)])
  rw [show ((0 : Int32) + (1 : Int32)) = (1 : Int32) from by decide]
  show oWk _ _ _ _ T (mkF m 7 #[rv xa] [(.int 1), (.ref xa)])
  have lt_xa := E_xa.lt
  have lt_xd := V_xd.lt
  have Oh := K.old O0 (allS og_xa all0)
  obtain ⟨_, T, h, Lc2, X, e0, hQ, st⟩ := (cs9 hw).run X hx hZ hown e0 (A := [(.ref xa), (.int (1 : Int32))]) ⟨rfl, _, _, rfl, E_xa⟩ (rGr1 l Z a0 hw [] xa xd xk xm h0 Oh S_DEFAULTCAPACITY_EMPTY_ELEMENTDATA og_xa E_xa F_elementData_xa F_size_xa F_modCount_xa V_xd) (W := 0) (by decide) hml (Ls := #[rv xa]) rfl (rest := []) rfl rfl hby d15_7
  obtain ⟨nd1, nk1, rfl, K1, E_xa, F_elementData_xa, F_size_xa, F_modCount_xa, gn_nd1, E_nd1, V_nd1, ov_nk1⟩ := hQ
  have ge_nd1 := Nat.le_trans K.le gn_nd1
  have ne_xa_nd1 : xa ≠ nd1 := Nat.ne_of_lt (Nat.lt_of_lt_of_le lt_xa gn_nd1)
  have ne_xd_nd1 : xd ≠ nd1 := Nat.ne_of_lt (Nat.lt_of_lt_of_le lt_xd gn_nd1)
  have K := K.call K1 (allS (Or.inl (List.mem_of_getElem? (i := 0) rfl)) all0)
  refine oWk.st st ?_
  exact oRetA X hx hlk hret rfl rfl (hb hby d15_10) (by rw [e0]; exact ⟨nd1, nk1, rfl, K, E_xa, F_elementData_xa, F_size_xa, F_modCount_xa, ge_nd1, E_nd1, V_nd1, ov_nk1⟩) (by decide) (by decide)
def Q_rA3_0 (Z : State) (xa xx xd : Addr) (xk : ClassId) (xm : Int32) (h0 : Heap) (v : Option Value) (h : Heap) (L : List Loc) : Prop := ∃ (nd : Addr) (nk : ClassId), v = none ∧ oKp h0 h [xa] L ∧ (Exa Z h xa Y1) ∧ (Fld Z h xa Y1 "elementData" Y2 (.ref nd)) ∧ (Fld Z h xa Y1 "size" "I" (.int (1 : Int32))) ∧ (Fld Z h xa Y11 "modCount" "I" (.int xm)) ∧ (h0.size ≤ nd) ∧ (Exa Z h nd Y2) ∧ (Arv Z h nd nk (.object Y0) (10 : Int32) [(.ref xx), .null, .null, .null, .null, .null, .null, .null, .null, .null] .null) ∧ (Ovr Z nk Y0)
abbrev yy15 : MethodName := ⟨"java/util/ArrayList", "add", "(Ljava/lang/Object;[Ljava/lang/Object;I)V"⟩
theorem d14_0 : decode jdk_38_method_24_code 0 = .ok (.iload_n 3, 1) := by decide +kernel
theorem d14_1 : decode jdk_38_method_24_code 1 = .ok (.aload_n 2, 1) := by decide +kernel
theorem d14_2 : decode jdk_38_method_24_code 2 = .ok (.arraylength, 1) := by decide +kernel
theorem d14_3 : decode jdk_38_method_24_code 3 = .ok (.if_icmp .ne 8, 3) := by decide +kernel
theorem d14_6 : decode jdk_38_method_24_code 6 = .ok (.aload_n 0, 1) := by decide +kernel
theorem d14_7 : decode jdk_38_method_24_code 7 = .ok (.invokevirtual 129, 3) := by decide +kernel
theorem pd_9 : parseMethodDescriptor "()[Ljava/lang/Object;" = some ⟨[], some (.array (.object "java/lang/Object"))⟩ := by decide +kernel
theorem cs10 {a0 : Array Value} {Z : State} (hw : oHW a0 Z) : oCall Z Y1 (.invokevirtual 129) yy14 jdk_38_method_7_code 1 (some (.array (.object Y0))) (oRv Z 0 Y1) := oCall.priv (oW hw 113 rfl) (oW hw 114 rfl) (oW hw 116 rfl) (oW hw 115 rfl) (oW hw 20 rfl) (oW hw 117 rfl) (by decide) pd_9 _
theorem d14_10 : decode jdk_38_method_24_code 10 = .ok (.astore_n 2, 1) := by decide +kernel
theorem d14_11 : decode jdk_38_method_24_code 11 = .ok (.aload_n 2, 1) := by decide +kernel
theorem d14_12 : decode jdk_38_method_24_code 12 = .ok (.iload_n 3, 1) := by decide +kernel
theorem d14_13 : decode jdk_38_method_24_code 13 = .ok (.aload_n 1, 1) := by decide +kernel
theorem d14_14 : decode jdk_38_method_24_code 14 = .ok (.aastore, 1) := by decide +kernel
theorem d14_15 : decode jdk_38_method_24_code 15 = .ok (.aload_n 0, 1) := by decide +kernel
theorem d14_16 : decode jdk_38_method_24_code 16 = .ok (.iload_n 3, 1) := by decide +kernel
theorem d14_17 : decode jdk_38_method_24_code 17 = .ok (.iconst 1, 1) := by decide +kernel
theorem d14_18 : decode jdk_38_method_24_code 18 = .ok (.iadd, 1) := by decide +kernel
theorem d14_19 : decode jdk_38_method_24_code 19 = .ok (.putfield 48, 3) := by decide +kernel
theorem d14_22 : decode jdk_38_method_24_code 22 = .ok (.return_, 1) := by decide +kernel
theorem rA3_0 (l : Launch) (Z : State) (a0 : Array Value) (hw : oHW a0 Z) (ws : List Jvm.Cond) (xa xx xd : Addr) (xk : ClassId) (xm : Int32) (h0 : Heap) (O0 : Ext Z.heap h0) (S_DEFAULTCAPACITY_EMPTY_ELEMENTDATA : Sta Z Z.heap Y1 Y16 Y2 (.ref xd)) (og_xa : Z.heap.size ≤ xa) (E_xa : Exa Z h0 xa Y1) (F_elementData_xa : Fld Z h0 xa Y1 "elementData" Y2 (.ref xd)) (F_size_xa : Fld Z h0 xa Y1 "size" "I" (.int (0 : Int32))) (F_modCount_xa : Fld Z h0 xa Y11 "modCount" "I" (.int xm)) (V_xd : Arv Z h0 xd xk (.object Y0) (0 : Int32) [] .null) (I_xx : Ins Z h0 xx Y0 true) (ne_xa_xx : xa ≠ xx) :
    oCon l Z yy15 jdk_38_method_24_code 4 none ws ({ frames := 3, cells := 1, slots := 10, locals := 41 } : Room) #[(.ref xa), (.ref xx), (.ref xd), (.int (0 : Int32))] h0 (Q_rA3_0 Z xa xx xd xk xm h0) := by
  refine oCon.of (plainFor_of_name pn_2) ?_
  intro p e s m below meth c T X hx hby hml hown hnm hret hlk hZ e0
  have hml : c.maxLocals = 4 := hml
  have K : oKp h0 h0 [xa] [] := oKp.nil _ _
  refine oWk.cast (g' := (mkF m 0 #[rv xa, rv xx, rv xd, iv 0] [])) (by first | rfl | (simp [entryFrame, mkF, argsToLocals, Value.category]; done)) ?_
  refine oWk.st (fun _ kt => zI X hx hby d14_0 rfl rfl (zA X hx hby d14_1 rfl rfl rfl kt)) ?_
  obtain ⟨cl1, Ar1, q1, Sz1, Nn1, Hs1, Ft1⟩ := id V_xd
  refine oWk.st (fun _ kt => X.arraylength hx (by rw [e0]; exact Ar1.1) (State.isArrayOf_alike hZ.alike Ar1.2.1) (g := (mkF m 2 #[rv xa, rv xx, rv xd, iv 0] [(.ref xd), (.int 0)])) rfl rfl (hb hby d14_2) _ kt) ?_
  rw [len_of Sz1 Nn1]
  refine oWk.st (fun _ kt => zN X hx hby d14_3 rfl rfl (teq (by decide)).2 (zA X hx hby d14_6 rfl rfl rfl kt)) ?_
  have lt_xa := E_xa.lt
  have lt_xd := V_xd.lt
  have Oh := K.old O0 (allS og_xa all0)
  obtain ⟨_, T, h, Lc3, X, e0, hQ, st⟩ := (cs10 hw).run X hx hZ hown e0 (A := [(.ref xa)]) ⟨rfl, _, _, rfl, E_xa⟩ (rGr0 l Z a0 hw [] xa xd xk xm h0 Oh S_DEFAULTCAPACITY_EMPTY_ELEMENTDATA og_xa E_xa F_elementData_xa F_size_xa F_modCount_xa V_xd) (W := 0) (by decide) hml (Ls := #[rv xa, rv xx, rv xd, iv 0]) rfl (rest := []) rfl rfl hby d14_7
  obtain ⟨nd2, nk2, rfl, K2, E_xa, F_elementData_xa, F_size_xa, F_modCount_xa, gn_nd2, E_nd2, V_nd2, ov_nk2⟩ := hQ
  have ge_nd2 := Nat.le_trans K.le gn_nd2
  have ne_xa_nd2 : xa ≠ nd2 := Nat.ne_of_lt (Nat.lt_of_lt_of_le lt_xa gn_nd2)
  have ne_xd_nd2 : xd ≠ nd2 := Nat.ne_of_lt (Nat.lt_of_lt_of_le lt_xd gn_nd2)
  have K := K.call K2 (allS (Or.inl (List.mem_of_getElem? (i := 0) rfl)) all0)
  refine oWk.st st ?_
  refine oWk.st (fun _ kt => zTn X hx hby d14_10 rfl rfl rfl (l' := #[rv xa, rv xx, rv nd2, iv 0]) rfl (zA X hx hby d14_11 rfl rfl rfl (zI X hx hby d14_12 rfl rfl (zA X hx hby d14_13 rfl rfl rfl kt)))) ?_
  have I_xx := (oInsKeep I_xx K2.1)
  obtain ⟨cl4, Ar4, q4, Sz4, Nn4, Hs4, Ft4⟩ := id V_nd2
  have hin4 : ¬ ((0 : Int32) < 0 ∨ cl4.slots.size ≤ ((0 : Int32)).toNatClampNeg) := inb_of Sz4 ⟨by decide, by decide⟩
  obtain ⟨T, h, X, e0, W4, st⟩ := stR X hx hZ e0 Ar4 (j := (0 : Int32)) hin4 rfl (Sto.ofV Ar4 q4 ov_nk2 I_xx) (g := (mkF m 14 #[rv xa, rv xx, rv nd2, iv 0] [(.ref xx), (.int 0), (.ref nd2)])) rfl rfl (hb hby d14_14)
  refine oWk.st st ?_
  have K := K.wr W4 (Or.inr ge_nd2)
  have V_nd2 : Arv Z h nd2 nk2 (.object Y0) (10 : Int32) [(.ref xx), .null, .null, .null, .null, .null, .null, .null, .null, .null] .null := Arv.set Ar4 q4 Sz4 Nn4 Hs4 Ft4 rfl W4 0 rfl (Nat.le_of_ble_eq_true rfl)
  refine oWk.st (fun _ kt => zA X hx hby d14_15 rfl rfl rfl (zI X hx hby d14_16 rfl rfl (zK X hx hby d14_17 rfl (XS.iadd X.here hx rfl (hb hby d14_18) rfl kt)))) ?_
  show oWk _ _ _ _ T (mkF m 19 #[rv xa, rv xx, rv nd2, iv 0] [(.int ((0 : Int32) + (1 : Int32))), (.ref xa)])
  rw [show ((0 : Int32) + (1 : Int32)) = (1 : Int32) from by decide]
  show oWk _ _ _ _ T (mkF m 19 #[rv xa, rv xx, rv nd2, iv 0] [(.int 1), (.ref xa)])
  have E_xa := (E_xa.wr W4)
  have F_size_xa := (F_size_xa.other W4 (Or.inl ne_xa_nd2))
  obtain ⟨T, h, X, e0, W5, st⟩ := putF X hx hZ hown (host := "") (Or.inl (oW hw 82 rfl)) Via.refl e0 F_size_xa E_xa (Or.inl (oW hw 83 rfl)) (oW hw 19 rfl) (ty := .int) (by decide) rfl rfl (g := (mkF m 19 #[rv xa, rv xx, rv nd2, iv 0] [(.int 1), (.ref xa)])) rfl rfl (hb hby d14_19)
  refine oWk.st st ?_
  have K := K.wr W5 (Or.inl (List.mem_of_getElem? (i := 0) rfl))
  have F_size_xa := F_size_xa.same W5
  have E_xa := (E_xa.wr W5)
  have F_elementData_xa := ((F_elementData_xa.other W4 (Or.inl ne_xa_nd2)).other W5 (Or.inr (slot_ne (Or.inl (oW hw 43 rfl)) (Or.inl (oW hw 83 rfl)) (by decide) (t := (.array (.object Y0))) (t' := .int) (by decide) (by decide))))
  have F_modCount_xa := ((F_modCount_xa.other W4 (Or.inl ne_xa_nd2)).other W5 (Or.inr (slot_ne (Or.inl (oW hw 40 rfl)) (Or.inl (oW hw 83 rfl)) (by decide) (t := .int) (t' := .int) (by decide) (by decide))))
  have E_nd2 := ((E_nd2.wr W4).wr W5)
  have V_nd2 := (V_nd2.other W5 (Ne.symm ne_xa_nd2))
  exact oRetV X hx hlk hret (hb hby d14_22) (by rw [e0]; exact ⟨nd2, nk2, rfl, K, E_xa, F_elementData_xa, F_size_xa, F_modCount_xa, ge_nd2, E_nd2, V_nd2, ov_nk2⟩) (by decide) (by decide)
def Q_rAd_0 (Z : State) (xa xx xd : Addr) (xk : ClassId) (xm : Int32) (h0 : Heap) (v : Option Value) (h : Heap) (L : List Loc) : Prop := ∃ (nd : Addr) (nk : ClassId), v = some (.int (1 : Int32)) ∧ oKp h0 h [xa] L ∧ (Exa Z h xa Y1) ∧ (Fld Z h xa Y1 "elementData" Y2 (.ref nd)) ∧ (Fld Z h xa Y1 "size" "I" (.int (1 : Int32))) ∧ (Fld Z h xa Y11 "modCount" "I" (.int (xm + (1 : Int32)))) ∧ (h0.size ≤ nd) ∧ (Exa Z h nd Y2) ∧ (Arv Z h nd nk (.object Y0) (10 : Int32) [(.ref xx), .null, .null, .null, .null, .null, .null, .null, .null, .null] .null) ∧ (Ovr Z nk Y0)
abbrev yy16 : MethodName := ⟨"java/util/ArrayList", "add", "(Ljava/lang/Object;)Z"⟩
theorem d13_0 : decode jdk_38_method_25_code 0 = .ok (.aload_n 0, 1) := by decide +kernel
theorem d13_1 : decode jdk_38_method_25_code 1 = .ok (.dup, 1) := by decide +kernel
theorem d13_2 : decode jdk_38_method_25_code 2 = .ok (.getfield 63, 3) := by decide +kernel
theorem d13_5 : decode jdk_38_method_25_code 5 = .ok (.iconst 1, 1) := by decide +kernel
theorem d13_6 : decode jdk_38_method_25_code 6 = .ok (.iadd, 1) := by decide +kernel
theorem d13_7 : decode jdk_38_method_25_code 7 = .ok (.putfield 63, 3) := by decide +kernel
theorem d13_10 : decode jdk_38_method_25_code 10 = .ok (.aload_n 0, 1) := by decide +kernel
theorem d13_11 : decode jdk_38_method_25_code 11 = .ok (.aload_n 1, 1) := by decide +kernel
theorem d13_12 : decode jdk_38_method_25_code 12 = .ok (.aload_n 0, 1) := by decide +kernel
theorem d13_13 : decode jdk_38_method_25_code 13 = .ok (.getfield 9, 3) := by decide +kernel
theorem d13_16 : decode jdk_38_method_25_code 16 = .ok (.aload_n 0, 1) := by decide +kernel
theorem d13_17 : decode jdk_38_method_25_code 17 = .ok (.getfield 48, 3) := by decide +kernel
theorem d13_20 : decode jdk_38_method_25_code 20 = .ok (.invokevirtual 131, 3) := by decide +kernel
theorem pd_10 : parseMethodDescriptor "(Ljava/lang/Object;[Ljava/lang/Object;I)V" = some ⟨[(.object "java/lang/Object"), (.array (.object "java/lang/Object")), .int], none⟩ := by decide +kernel
theorem cs11 {a0 : Array Value} {Z : State} (hw : oHW a0 Z) : oCall Z Y1 (.invokevirtual 131) yy15 jdk_38_method_24_code 4 none (oRv Z 3 Y1) := oCall.priv (oW hw 108 rfl) (oW hw 109 rfl) (oW hw 111 rfl) (oW hw 110 rfl) (oW hw 20 rfl) (oW hw 112 rfl) (by decide) pd_10 _
theorem d13_23 : decode jdk_38_method_25_code 23 = .ok (.iconst 1, 1) := by decide +kernel
theorem d13_24 : decode jdk_38_method_25_code 24 = .ok (.ireturn, 1) := by decide +kernel
theorem rAd_0 (l : Launch) (Z : State) (a0 : Array Value) (hw : oHW a0 Z) (ws : List Jvm.Cond) (xa xx xd : Addr) (xk : ClassId) (xm : Int32) (h0 : Heap) (O0 : Ext Z.heap h0) (S_DEFAULTCAPACITY_EMPTY_ELEMENTDATA : Sta Z Z.heap Y1 Y16 Y2 (.ref xd)) (og_xa : Z.heap.size ≤ xa) (E_xa : Exa Z h0 xa Y1) (F_elementData_xa : Fld Z h0 xa Y1 "elementData" Y2 (.ref xd)) (F_size_xa : Fld Z h0 xa Y1 "size" "I" (.int (0 : Int32))) (F_modCount_xa : Fld Z h0 xa Y11 "modCount" "I" (.int xm)) (V_xd : Arv Z h0 xd xk (.object Y0) (0 : Int32) [] .null) (I_xx : Ins Z h0 xx Y0 true) (ne_xa_xx : xa ≠ xx) (ne_xa_xd : xa ≠ xd) :
    oCon l Z yy16 jdk_38_method_25_code 2 (some .boolean) ws ({ frames := 4, cells := 1, slots := 10, locals := 56 } : Room) #[(.ref xa), (.ref xx)] h0 (Q_rAd_0 Z xa xx xd xk xm h0) := by
  refine oCon.of (plainFor_of_name pn_2) ?_
  intro p e s m below meth c T X hx hby hml hown hnm hret hlk hZ e0
  have hml : c.maxLocals = 2 := hml
  have K : oKp h0 h0 [xa] [] := oKp.nil _ _
  refine oWk.cast (g' := (mkF m 0 #[rv xa, rv xx] [])) (by first | rfl | (simp [entryFrame, mkF, argsToLocals, Value.category]; done)) ?_
  refine oWk.st (fun _ kt => zA X hx hby d13_0 rfl rfl rfl (zD X hx hby d13_1 rfl rfl rfl kt)) ?_
  obtain ⟨T, X, e0, st⟩ := getF X hx hZ hown (host := "") (Or.inl (oW hw 106 rfl)) (Via.of (oW hw 107 rfl)) e0 F_modCount_xa (g := (mkF m 2 #[rv xa, rv xx] [(.ref xa), (.ref xa)])) rfl rfl (hb hby d13_2)
  refine oWk.st st ?_
  refine oWk.st (fun _ kt => zK X hx hby d13_5 rfl (XS.iadd X.here hx rfl (hb hby d13_6) rfl kt)) ?_
  obtain ⟨T, h, X, e0, W1, st⟩ := putF X hx hZ hown (host := "") (Or.inl (oW hw 106 rfl)) (Via.of (oW hw 107 rfl)) e0 F_modCount_xa E_xa (Or.inl (oW hw 40 rfl)) (oW hw 19 rfl) (ty := .int) (by decide) rfl rfl (g := (mkF m 7 #[rv xa, rv xx] [(.int (xm + (1 : Int32))), (.ref xa)])) rfl rfl (hb hby d13_7)
  refine oWk.st st ?_
  have K := K.wr W1 (Or.inl (List.mem_of_getElem? (i := 0) rfl))
  have F_modCount_xa := F_modCount_xa.same W1
  refine oWk.st (fun _ kt => zA X hx hby d13_10 rfl rfl rfl (zA X hx hby d13_11 rfl rfl rfl (zA X hx hby d13_12 rfl rfl rfl kt))) ?_
  have F_elementData_xa := (F_elementData_xa.other W1 (Or.inr (slot_ne (Or.inl (oW hw 43 rfl)) (Or.inl (oW hw 40 rfl)) (by decide) (t := (.array (.object Y0))) (t' := .int) (by decide) (by decide))))
  obtain ⟨T, X, e0, st⟩ := getF X hx hZ hown (host := "") (Or.inl (oW hw 42 rfl)) Via.refl e0 F_elementData_xa (g := (mkF m 13 #[rv xa, rv xx] [(.ref xa), (.ref xx), (.ref xa)])) rfl rfl (hb hby d13_13)
  refine oWk.st st ?_
  refine oWk.st (fun _ kt => zA X hx hby d13_16 rfl rfl rfl kt) ?_
  have F_size_xa := (F_size_xa.other W1 (Or.inr (slot_ne (Or.inl (oW hw 83 rfl)) (Or.inl (oW hw 40 rfl)) (by decide) (t := .int) (t' := .int) (by decide) (by decide))))
  obtain ⟨T, X, e0, st⟩ := getF X hx hZ hown (host := "") (Or.inl (oW hw 82 rfl)) Via.refl e0 F_size_xa (g := (mkF m 17 #[rv xa, rv xx] [(.ref xa), (.ref xd), (.ref xx), (.ref xa)])) rfl rfl (hb hby d13_17)
  refine oWk.st st ?_
  have E_xa := (E_xa.wr W1)
  have V_xd := (V_xd.other W1 (Ne.symm ne_xa_xd))
  have I_xx := (I_xx.wr W1)
  have lt_xa := E_xa.lt
  have lt_xd := V_xd.lt
  have Oh := K.old O0 (allS og_xa all0)
  obtain ⟨_, T, h, Lc3, X, e0, hQ, st⟩ := (cs11 hw).run X hx hZ hown e0 (A := [(.ref xa), (.ref xx), (.ref xd), (.int (0 : Int32))]) ⟨rfl, _, _, rfl, E_xa⟩ (rA3_0 l Z a0 hw [] xa xx xd xk (xm + (1 : Int32)) h Oh S_DEFAULTCAPACITY_EMPTY_ELEMENTDATA og_xa E_xa F_elementData_xa F_size_xa F_modCount_xa V_xd I_xx ne_xa_xx) (W := 0) (by decide) hml (Ls := #[rv xa, rv xx]) rfl (rest := []) rfl rfl hby d13_20
  obtain ⟨nd2, nk2, rfl, K2, E_xa, F_elementData_xa, F_size_xa, F_modCount_xa, gn_nd2, E_nd2, V_nd2, ov_nk2⟩ := hQ
  have ge_nd2 := Nat.le_trans K.le gn_nd2
  have ne_xa_nd2 : xa ≠ nd2 := Nat.ne_of_lt (Nat.lt_of_lt_of_le lt_xa gn_nd2)
  have ne_xd_nd2 : xd ≠ nd2 := Nat.ne_of_lt (Nat.lt_of_lt_of_le lt_xd gn_nd2)
  have K := K.call K2 (allS (Or.inl (List.mem_of_getElem? (i := 0) rfl)) all0)
  refine oWk.st st ?_
  refine oWk.st (fun _ kt => zK X hx hby d13_23 rfl kt) ?_
  show oWk _ _ _ _ T (mkF m 24 #[rv xa, rv xx] [(.int 1)])
  exact oRetZ X hx hlk hret (hb hby d13_24) (Or.inr rfl) (by rw [e0]; exact ⟨nd2, nk2, rfl, K, E_xa, F_elementData_xa, F_size_xa, F_modCount_xa, ge_nd2, E_nd2, V_nd2, ov_nk2⟩) (by decide) (by decide)
theorem pd_11 : parseMethodDescriptor "(Ljava/lang/Object;)Z" = some ⟨[(.object "java/lang/Object")], some .boolean⟩ := by decide +kernel
theorem cs12 {a0 : Array Value} {Z : State} (hw : oHW a0 Z) : oCall Z Y17 (.invokevirtual 36) yy16 jdk_38_method_25_code 2 (some .boolean) (oRv Z 1 Y1) := oCall.virt (oW hw 101 rfl) (oW hw 102 rfl) (fun _ hZ => notFace_of_selects (args := #[]) (mvT hZ (oW hw 104 rfl))) (oW hw 104 rfl) (oW hw 103 rfl) (oW hw 20 rfl) (oW hw 105 rfl) (by decide) pd_11
def Q_rEmp1 (Z : State) (xa : Addr) (h0 : Heap) (v : Option Value) (h : Heap) (L : List Loc) : Prop := v = some (.int (0 : Int32)) ∧ h = h0 ∧ oKp h0 h [] L
theorem d11_11 : decode jdk_38_method_9_code 11 = .ok (.iconst 0, 1) := by decide +kernel
theorem rEmp1 (l : Launch) (Z : State) (a0 : Array Value) (hw : oHW a0 Z) (ws : List Jvm.Cond) (xa : Addr) (h0 : Heap) (O0 : Ext Z.heap h0) (F_size_xa : Fld Z h0 xa Y1 "size" "I" (.int (1 : Int32))) :
    oCon l Z yy2 jdk_38_method_9_code 1 (some .boolean) ws ({ frames := 0, cells := 0, slots := 0, locals := 0 } : Room) #[(.ref xa)] h0 (Q_rEmp1 Z xa h0) := by
  refine oCon.of (plainFor_of_name pn_2) ?_
  intro p e s m below meth c T X hx hby hml hown hnm hret hlk hZ e0
  have hml : c.maxLocals = 1 := hml
  have K : oKp h0 h0 [] [] := oKp.nil _ _
  refine oWk.cast (g' := (mkF m 0 #[rv xa] [])) (by first | rfl | (simp [entryFrame, mkF, argsToLocals, Value.category]; done)) ?_
  refine oWk.st (fun _ kt => zA X hx hby d11_0 rfl rfl rfl kt) ?_
  obtain ⟨T, X, e0, st⟩ := getF X hx hZ hown (host := "") (Or.inl (oW hw 82 rfl)) Via.refl e0 F_size_xa (g := (mkF m 1 #[rv xa] [(.ref xa)])) rfl rfl (hb hby d11_1)
  refine oWk.st st ?_
  refine oWk.st (fun _ kt => zF X hx hby d11_4 rfl rfl ((if0 _ _).trans (feq (by decide)).2) (pc' := 11) rfl (zK X hx hby d11_11 rfl kt)) ?_
  show oWk _ _ _ _ T (mkF m 12 #[rv xa] [(.int 0)])
  exact oRetZ X hx hlk hret (hb hby d11_12) (Or.inl rfl) (by rw [e0]; exact ⟨rfl, rfl, K⟩) (by decide) (by decide)
def Q_rMin1 (Z : State)  (h0 : Heap) (v : Option Value) (h : Heap) (L : List Loc) : Prop := v = some (.int (1 : Int32)) ∧ h = h0 ∧ oKp h0 h [] L
abbrev yy17 : MethodName := ⟨"java/lang/Math", "min", "(II)I"⟩
theorem d21_0 : decode jdk_29_method_69_code 0 = .ok (.iload_n 0, 1) := by decide +kernel
theorem d21_1 : decode jdk_29_method_69_code 1 = .ok (.iload_n 1, 1) := by decide +kernel
theorem d21_2 : decode jdk_29_method_69_code 2 = .ok (.if_icmp .gt 7, 3) := by decide +kernel
theorem d21_9 : decode jdk_29_method_69_code 9 = .ok (.iload_n 1, 1) := by decide +kernel
theorem d21_10 : decode jdk_29_method_69_code 10 = .ok (.ireturn, 1) := by decide +kernel
theorem rMin1 (l : Launch) (Z : State) (a0 : Array Value) (hw : oHW a0 Z) (ws : List Jvm.Cond)  (h0 : Heap) (O0 : Ext Z.heap h0)  :
    oCon l Z yy17 jdk_29_method_69_code 2 (some .int) ws ({ frames := 0, cells := 0, slots := 0, locals := 0 } : Room) #[(.int (10 : Int32)), (.int (1 : Int32))] h0 (Q_rMin1 Z  h0) := by
  refine oCon.of (Jvm.Free.JP.mathPlain rfl (by decide +kernel)) ?_
  intro p e s m below meth c T X hx hby hml hown hnm hret hlk hZ e0
  have hml : c.maxLocals = 2 := hml
  have K : oKp h0 h0 [] [] := oKp.nil _ _
  refine oWk.cast (g' := (mkF m 0 #[iv 10, iv 1] [])) (by first | rfl | (simp [entryFrame, mkF, argsToLocals, Value.category]; done)) ?_
  refine oWk.st (fun _ kt => zI X hx hby d21_0 rfl rfl (zI X hx hby d21_1 rfl rfl (zY X hx hby d21_2 rfl rfl (tlt (by decide)).2.2.1 (pc' := 9) rfl (zI X hx hby d21_9 rfl rfl kt)))) ?_
  show oWk _ _ _ _ T (mkF m 10 #[iv 10, iv 1] [(.int 1)])
  exact oRetI X hx hlk hret (hb hby d21_10) (by rw [e0]; exact ⟨rfl, rfl, K⟩) (by decide) (by decide)
def Q_rCp3_1 (Z : State) (xf xmr : Addr) (xk : ClassId) (xe0 : Addr) (h0 : Heap) (v : Option Value) (h : Heap) (L : List Loc) : Prop := ∃ (nb : Addr) (nj : ClassId), v = some (.ref nb) ∧ oKp h0 h [] L ∧ (h0.size ≤ nb) ∧ (Exa Z h nb Y2) ∧ (Arv Z h nb nj (.object Y0) (1 : Int32) [(.ref xe0)] .null) ∧ (Ovr Z nj Y0)
theorem pn_9 : plainName "java/util/Arrays" = true := by first | (simp [plainName, overriddenIn]; done) | decide +kernel
abbrev yy18 : MethodName := ⟨"java/util/Arrays", "copyOf", "([Ljava/lang/Object;ILjava/lang/Class;)[Ljava/lang/Object;"⟩
theorem d20_0 : decode jdk_65_method_120_code 0 = .ok (.aload_n 2, 1) := by decide +kernel
theorem d20_1 : decode jdk_65_method_120_code 1 = .ok (.ldc 110, 2) := by decide +kernel
theorem d20_3 : decode jdk_65_method_120_code 3 = .ok (.if_acmp .ne 10, 3) := by decide +kernel
theorem d20_6 : decode jdk_65_method_120_code 6 = .ok (.iload_n 1, 1) := by decide +kernel
theorem d20_7 : decode jdk_65_method_120_code 7 = .ok (.anewarray 2, 3) := by decide +kernel
theorem d20_10 : decode jdk_65_method_120_code 10 = .ok (.goto 14, 3) := by decide +kernel
theorem d20_24 : decode jdk_65_method_120_code 24 = .ok (.astore_n 3, 1) := by decide +kernel
theorem d20_25 : decode jdk_65_method_120_code 25 = .ok (.aload_n 0, 1) := by decide +kernel
theorem d20_26 : decode jdk_65_method_120_code 26 = .ok (.iconst 0, 1) := by decide +kernel
theorem d20_27 : decode jdk_65_method_120_code 27 = .ok (.aload_n 3, 1) := by decide +kernel
theorem d20_28 : decode jdk_65_method_120_code 28 = .ok (.iconst 0, 1) := by decide +kernel
theorem d20_29 : decode jdk_65_method_120_code 29 = .ok (.aload_n 0, 1) := by decide +kernel
theorem d20_30 : decode jdk_65_method_120_code 30 = .ok (.arraylength, 1) := by decide +kernel
theorem d20_31 : decode jdk_65_method_120_code 31 = .ok (.iload_n 1, 1) := by decide +kernel
theorem d20_32 : decode jdk_65_method_120_code 32 = .ok (.invokestatic 304, 3) := by decide +kernel
theorem cs13 {a0 : Array Value} {Z : State} (hw : oHW a0 Z) : oCall Z Y18 (.invokestatic 304) yy17 jdk_29_method_69_code 2 (some .int) (oRs 2) := oCall.stat (oW hw 153 rfl) (oW hw 154 rfl) (oW hw 125 rfl) (oW hw 155 rfl) (by decide) pd_7
theorem d20_35 : decode jdk_65_method_120_code 35 = .ok (.invokestatic 150, 3) := by decide +kernel
theorem d20_38 : decode jdk_65_method_120_code 38 = .ok (.aload_n 3, 1) := by decide +kernel
theorem d20_39 : decode jdk_65_method_120_code 39 = .ok (.areturn, 1) := by decide +kernel
theorem rCp3_1 (l : Launch) (Z : State) (a0 : Array Value) (hw : oHW a0 Z) (ws : List Jvm.Cond) (xf xmr : Addr) (xk : ClassId) (xe0 : Addr) (h0 : Heap) (O0 : Ext Z.heap h0) (mm_ : oMir Z Y2 xmr) (E_xf : Exa Z h0 xf Y2) (V_xf : Arv Z h0 xf xk (.object Y0) (10 : Int32) [(.ref xe0), .null, .null, .null, .null, .null, .null, .null, .null, .null] .null) (I_xe0 : Ins Z h0 xe0 Y0 true) :
    oCon l Z yy18 jdk_65_method_120_code 4 (some (.array (.object Y0))) ws ({ frames := 1, cells := 1, slots := 1, locals := 18 } : Room) #[(.ref xf), (.int (1 : Int32)), (.ref xmr)] h0 (Q_rCp3_1 Z xf xmr xk xe0 h0) := by
  refine oCon.of (plainFor_of_name pn_9) ?_
  intro p e s m below meth c T X hx hby hml hown hnm hret hlk hZ e0
  have hml : c.maxLocals = 4 := hml
  have K : oKp h0 h0 [] [] := oKp.nil _ _
  refine oWk.cast (g' := (mkF m 0 #[rv xf, iv 1, rv xmr, uu] [])) (by first | rfl | (simp [entryFrame, mkF, argsToLocals, Value.category]; done)) ?_
  refine oWk.st (fun _ kt => zA X hx hby d20_0 rfl rfl rfl kt) ?_
  obtain ⟨T, X, e0, st⟩ := oLdcM X hx hZ hown (oW hw 151 rfl) e0 mm_ (g := (mkF m 1 #[rv xf, iv 1, rv xmr, uu] [(.ref xmr)])) rfl (hb hby d20_1)
  refine oWk.st st ?_
  refine oWk.st (fun _ kt => Jvm.RoadKit.acmp (g := (mkF m 3 #[rv xf, iv 1, rv xmr, uu] [(.ref xmr), (.ref xmr)])) X hx rfl rfl rfl (pc0 := 3) (pc' := 6) (same := true) rfl (hb hby d20_3) rfl (decide_eq_true rfl) (by decide) (by decide) kt) ?_
  show oWk _ _ _ _ T (mkF m 6 #[rv xf, iv 1, rv xmr, uu] [])
  refine oWk.st (fun _ kt => zI X hx hby d20_6 rfl rfl kt) ?_
  obtain ⟨o1, g1⟩ : ∃ z, z = h0.size := ⟨_, rfl⟩
  have ne_xf_o1 : xf ≠ o1 := Nat.ne_of_lt (Nat.lt_of_lt_of_le E_xf.lt (Nat.le_of_eq g1.symm))
  have ge_o1 : h0.size ≤ o1 := Nat.le_trans K.le (Nat.le_of_eq g1.symm)
  obtain ⟨T, h, k1, X, e0, E1, A1, E_o1, O1, st⟩ := newRE X hx hZ hown (oW hw 152 rfl) (oW hw 128 rfl) e0 (g := (mkF m 7 #[rv xf, iv 1, rv xmr, uu] [(.int 1)])) rfl (hb hby d20_7) rfl (by decide) (cap := 1) (by decide) (by decide) (by decide) (by decide) (ad := Y2) (by decide)
  rw [← g1] at A1 E_o1 st
  refine oWk.st st ?_
  have K := K.ext E1
  have V_o1 : Arv Z h o1 k1 (.object Y0) (1 : Int32) [.null] .null := (Arv.new A1 (by decide)).pad (pad_rep [] .null 1)
  refine oWk.st (fun _ kt => zG X hx hby d20_10 rfl (pc' := 24) rfl (zTn X hx hby d20_24 rfl rfl rfl (l' := #[rv xf, iv 1, rv xmr, rv o1]) rfl (zA X hx hby d20_25 rfl rfl rfl (zK X hx hby d20_26 rfl (zA X hx hby d20_27 rfl rfl rfl (zK X hx hby d20_28 rfl (zA X hx hby d20_29 rfl rfl rfl kt))))))) ?_
  have V_xf := (V_xf.ext E1)
  obtain ⟨cl2, Ar2, q2, Sz2, Nn2, Hs2, Ft2⟩ := id V_xf
  refine oWk.st (fun _ kt => X.arraylength hx (by rw [e0]; exact Ar2.1) (State.isArrayOf_alike hZ.alike Ar2.2.1) (g := (mkF m 30 #[rv xf, iv 1, rv xmr, rv o1] [(.ref xf), (.int 0), (.ref o1), (.int 0), (.ref xf)])) rfl rfl (hb hby d20_30) _ kt) ?_
  rw [len_of Sz2 Nn2]
  refine oWk.st (fun _ kt => zI X hx hby d20_31 rfl rfl kt) ?_
  have Oh := K.old O0 all0
  obtain ⟨T, L4, X, e0, K, st⟩ := (cs13 hw).pure X hx hZ hown e0 K (A := [(.int (10 : Int32)), (.int (1 : Int32))]) rfl (rMin1 l Z a0 hw []  h Oh ) (fun _ _ _ q => q) (W := 4) (by decide) hml (Ls := #[rv xf, iv 1, rv xmr, rv o1]) rfl (rest := [(.int (0 : Int32)), (.ref o1), (.int (0 : Int32)), (.ref xf)]) rfl rfl hby d20_32
  refine oWk.st st ?_
  obtain ⟨cl5, Ar5, q5, -⟩ := id V_o1
  have I_xe0 := (I_xe0.ext E1)
  obtain ⟨T, h, L5, X, e0, N5, C5, V5, st⟩ := cpA X hx hZ hown (oW hw 156 rfl) (oW hw 159 rfl) (oW hw 157 rfl) (oW hw 158 rfl) e0 (us := [(.ref xe0)]) V_xf V_o1 (Or.inr ⟨rfl, rfl, ⟨Sto.ofV Ar5 q5 O1 I_xe0, trivial⟩⟩) (by decide) (by decide) (by decide) (by decide) (by decide) rfl (by decide) K.fr ge_o1 (g := (mkF m 35 #[rv xf, iv 1, rv xmr, rv o1] [(.int 1), (.int 0), (.ref o1), (.int 0), (.ref xf)])) rfl (by rw [hml]; rfl) rfl (hb hby d20_35) (by decide) (W := 0) (Nat.le_of_eq rfl) (by decide)
  refine oWk.st st ?_
  have K : oKp h0 h [] L5 := ⟨K.1.trans C5 (allS (Or.inr ge_o1) all0), fun y hy => Or.inr (N5 y hy)⟩
  have V_o1 : Arv Z h o1 k1 (.object Y0) (1 : Int32) [(.ref xe0)] .null := V5
  refine oWk.st (fun _ kt => zA X hx hby d20_38 rfl rfl rfl kt) ?_
  show oWk _ _ _ _ T (mkF m 39 #[rv xf, iv 1, rv xmr, rv o1] [(.ref o1)])
  have E_o1 := (E_o1.keep C5)
  exact oRetA X hx hlk hret rfl rfl (hb hby d20_39) (by rw [e0]; exact ⟨o1, k1, rfl, K, ge_o1, E_o1, V_o1, O1⟩) (by decide) (by decide)
def Q_rCp2_1 (Z : State) (xf xmr : Addr) (xk : ClassId) (xe0 : Addr) (h0 : Heap) (v : Option Value) (h : Heap) (L : List Loc) : Prop := ∃ (nb : Addr) (nj : ClassId), v = some (.ref nb) ∧ oKp h0 h [] L ∧ (h0.size ≤ nb) ∧ (Exa Z h nb Y2) ∧ (Arv Z h nb nj (.object Y0) (1 : Int32) [(.ref xe0)] .null) ∧ (Ovr Z nj Y0)
abbrev yy19 : MethodName := ⟨"java/util/Arrays", "copyOf", "([Ljava/lang/Object;I)[Ljava/lang/Object;"⟩
theorem d19_0 : decode jdk_65_method_119_code 0 = .ok (.aload_n 0, 1) := by decide +kernel
theorem d19_1 : decode jdk_65_method_119_code 1 = .ok (.iload_n 1, 1) := by decide +kernel
theorem d19_2 : decode jdk_65_method_119_code 2 = .ok (.aload_n 0, 1) := by decide +kernel
theorem d19_3 : decode jdk_65_method_119_code 3 = .ok (.invokevirtual 86, 3) := by decide +kernel
theorem d19_6 : decode jdk_65_method_119_code 6 = .ok (.invokestatic 300, 3) := by decide +kernel
theorem pd_12 : parseMethodDescriptor "([Ljava/lang/Object;ILjava/lang/Class;)[Ljava/lang/Object;" = some ⟨[(.array (.object "java/lang/Object")), .int, (.object "java/lang/Class")], some (.array (.object "java/lang/Object"))⟩ := by decide +kernel
theorem cs14 {a0 : Array Value} {Z : State} (hw : oHW a0 Z) : oCall Z Y18 (.invokestatic 300) yy18 jdk_65_method_120_code 4 (some (.array (.object Y0))) (oRs 3) := oCall.stat (oW hw 148 rfl) (oW hw 149 rfl) (oW hw 140 rfl) (oW hw 150 rfl) (by decide) pd_12
theorem d19_9 : decode jdk_65_method_119_code 9 = .ok (.areturn, 1) := by decide +kernel
theorem rCp2_1 (l : Launch) (Z : State) (a0 : Array Value) (hw : oHW a0 Z) (ws : List Jvm.Cond) (xf xmr : Addr) (xk : ClassId) (xe0 : Addr) (h0 : Heap) (O0 : Ext Z.heap h0) (mm_ : oMir Z Y2 xmr) (E_xf : Exa Z h0 xf Y2) (V_xf : Arv Z h0 xf xk (.object Y0) (10 : Int32) [(.ref xe0), .null, .null, .null, .null, .null, .null, .null, .null, .null] .null) (I_xe0 : Ins Z h0 xe0 Y0 true) :
    oCon l Z yy19 jdk_65_method_119_code 2 (some (.array (.object Y0))) ws ({ frames := 2, cells := 1, slots := 1, locals := 33 } : Room) #[(.ref xf), (.int (1 : Int32))] h0 (Q_rCp2_1 Z xf xmr xk xe0 h0) := by
  refine oCon.of (plainFor_of_name pn_9) ?_
  intro p e s m below meth c T X hx hby hml hown hnm hret hlk hZ e0
  have hml : c.maxLocals = 2 := hml
  have K : oKp h0 h0 [] [] := oKp.nil _ _
  refine oWk.cast (g' := (mkF m 0 #[rv xf, iv 1] [])) (by first | rfl | (simp [entryFrame, mkF, argsToLocals, Value.category]; done)) ?_
  refine oWk.st (fun _ kt => zA X hx hby d19_0 rfl rfl rfl (zI X hx hby d19_1 rfl rfl (zA X hx hby d19_2 rfl rfl rfl kt))) ?_
  obtain ⟨T, X, e0, st⟩ := oGcls X hx hZ hown (oW hw 142 rfl) (oW hw 143 rfl) (oW hw 145 rfl) (oW hw 144 rfl) (oW hw 146 rfl) e0 E_xf mm_ (g := (mkF m 3 #[rv xf, iv 1] [(.ref xf), (.int 1), (.ref xf)])) rfl (by rw [hml]; rfl) rfl (hb hby d19_3) (by decide) (W := 2) (Nat.le_of_eq rfl) (by decide)
  refine oWk.st st ?_
  have lt_xf := E_xf.lt
  have Oh := K.old O0 all0
  obtain ⟨_, T, h, Lc2, X, e0, hQ, st⟩ := (cs14 hw).run X hx hZ hown e0 (A := [(.ref xf), (.int (1 : Int32)), (.ref xmr)]) rfl (rCp3_1 l Z a0 hw [] xf xmr xk xe0 h0 Oh mm_ E_xf V_xf I_xe0) (W := 0) (by decide) hml (Ls := #[rv xf, iv 1]) rfl (rest := []) rfl rfl hby d19_6
  obtain ⟨nb1, nj1, rfl, K1, gn_nb1, E_nb1, V_nb1, ov_nj1⟩ := hQ
  have ge_nb1 := Nat.le_trans K.le gn_nb1
  have ne_xf_nb1 : xf ≠ nb1 := Nat.ne_of_lt (Nat.lt_of_lt_of_le lt_xf gn_nb1)
  have K := K.call K1 all0
  refine oWk.st st ?_
  exact oRetA X hx hlk hret rfl rfl (hb hby d19_9) (by rw [e0]; exact ⟨nb1, nj1, rfl, K, ge_nb1, E_nb1, V_nb1, ov_nj1⟩) (by decide) (by decide)
def Q_rTA_1 (Z : State) (xa xf xmr : Addr) (xk : ClassId) (xe0 : Addr) (h0 : Heap) (v : Option Value) (h : Heap) (L : List Loc) : Prop := ∃ (nb : Addr) (nj : ClassId), v = some (.ref nb) ∧ oKp h0 h [] L ∧ (h0.size ≤ nb) ∧ (Exa Z h nb Y2) ∧ (Arv Z h nb nj (.object Y0) (1 : Int32) [(.ref xe0)] .null) ∧ (Ovr Z nj Y0)
abbrev yy20 : MethodName := ⟨"java/util/ArrayList", "toArray", "()[Ljava/lang/Object;"⟩
theorem d18_0 : decode jdk_38_method_16_code 0 = .ok (.aload_n 0, 1) := by decide +kernel
theorem d18_1 : decode jdk_38_method_16_code 1 = .ok (.getfield 9, 3) := by decide +kernel
theorem d18_4 : decode jdk_38_method_16_code 4 = .ok (.aload_n 0, 1) := by decide +kernel
theorem d18_5 : decode jdk_38_method_16_code 5 = .ok (.getfield 48, 3) := by decide +kernel
theorem d18_8 : decode jdk_38_method_16_code 8 = .ok (.invokestatic 66, 3) := by decide +kernel
theorem pd_13 : parseMethodDescriptor "([Ljava/lang/Object;I)[Ljava/lang/Object;" = some ⟨[(.array (.object "java/lang/Object")), .int], some (.array (.object "java/lang/Object"))⟩ := by decide +kernel
theorem cs15 {a0 : Array Value} {Z : State} (hw : oHW a0 Z) : oCall Z Y1 (.invokestatic 66) yy19 jdk_65_method_119_code 2 (some (.array (.object Y0))) (oRs 2) := oCall.stat (oW hw 138 rfl) (oW hw 139 rfl) (oW hw 140 rfl) (oW hw 141 rfl) (by decide) pd_13
theorem d18_11 : decode jdk_38_method_16_code 11 = .ok (.areturn, 1) := by decide +kernel
theorem rTA_1 (l : Launch) (Z : State) (a0 : Array Value) (hw : oHW a0 Z) (ws : List Jvm.Cond) (xa xf xmr : Addr) (xk : ClassId) (xe0 : Addr) (h0 : Heap) (O0 : Ext Z.heap h0) (mm_ : oMir Z Y2 xmr) (F_elementData_xa : Fld Z h0 xa Y1 "elementData" Y2 (.ref xf)) (F_size_xa : Fld Z h0 xa Y1 "size" "I" (.int (1 : Int32))) (E_xf : Exa Z h0 xf Y2) (V_xf : Arv Z h0 xf xk (.object Y0) (10 : Int32) [(.ref xe0), .null, .null, .null, .null, .null, .null, .null, .null, .null] .null) (I_xe0 : Ins Z h0 xe0 Y0 true) :
    oCon l Z yy20 jdk_38_method_16_code 1 (some (.array (.object Y0))) ws ({ frames := 3, cells := 1, slots := 1, locals := 46 } : Room) #[(.ref xa)] h0 (Q_rTA_1 Z xa xf xmr xk xe0 h0) := by
  refine oCon.of (plainFor_of_name pn_2) ?_
  intro p e s m below meth c T X hx hby hml hown hnm hret hlk hZ e0
  have hml : c.maxLocals = 1 := hml
  have K : oKp h0 h0 [] [] := oKp.nil _ _
  refine oWk.cast (g' := (mkF m 0 #[rv xa] [])) (by first | rfl | (simp [entryFrame, mkF, argsToLocals, Value.category]; done)) ?_
  refine oWk.st (fun _ kt => zA X hx hby d18_0 rfl rfl rfl kt) ?_
  obtain ⟨T, X, e0, st⟩ := getF X hx hZ hown (host := "") (Or.inl (oW hw 42 rfl)) Via.refl e0 F_elementData_xa (g := (mkF m 1 #[rv xa] [(.ref xa)])) rfl rfl (hb hby d18_1)
  refine oWk.st st ?_
  refine oWk.st (fun _ kt => zA X hx hby d18_4 rfl rfl rfl kt) ?_
  obtain ⟨T, X, e0, st⟩ := getF X hx hZ hown (host := "") (Or.inl (oW hw 82 rfl)) Via.refl e0 F_size_xa (g := (mkF m 5 #[rv xa] [(.ref xa), (.ref xf)])) rfl rfl (hb hby d18_5)
  refine oWk.st st ?_
  have lt_xa := F_elementData_xa.lt
  have lt_xf := E_xf.lt
  have Oh := K.old O0 all0
  obtain ⟨_, T, h, Lc2, X, e0, hQ, st⟩ := (cs15 hw).run X hx hZ hown e0 (A := [(.ref xf), (.int (1 : Int32))]) rfl (rCp2_1 l Z a0 hw [] xf xmr xk xe0 h0 Oh mm_ E_xf V_xf I_xe0) (W := 0) (by decide) hml (Ls := #[rv xa]) rfl (rest := []) rfl rfl hby d18_8
  obtain ⟨nb1, nj1, rfl, K1, gn_nb1, E_nb1, V_nb1, ov_nj1⟩ := hQ
  have ge_nb1 := Nat.le_trans K.le gn_nb1
  have ne_xa_nb1 : xa ≠ nb1 := Nat.ne_of_lt (Nat.lt_of_lt_of_le lt_xa gn_nb1)
  have ne_xf_nb1 : xf ≠ nb1 := Nat.ne_of_lt (Nat.lt_of_lt_of_le lt_xf gn_nb1)
  have K := K.call K1 all0
  refine oWk.st st ?_
  exact oRetA X hx hlk hret rfl rfl (hb hby d18_11) (by rw [e0]; exact ⟨nb1, nj1, rfl, K, ge_nb1, E_nb1, V_nb1, ov_nj1⟩) (by decide) (by decide)
def Q_rAIC (Z : State) (xa : Addr) (h0 : Heap) (v : Option Value) (h : Heap) (L : List Loc) : Prop := v = none ∧ h = h0 ∧ oKp h0 h [] L
theorem pn_10 : plainName "java/util/ImmutableCollections$AbstractImmutableCollection" = true := by first | (simp [plainName, overriddenIn]; done) | decide +kernel
abbrev yy21 : MethodName := ⟨"java/util/ImmutableCollections$AbstractImmutableCollection", "<init>", "()V"⟩
theorem d25_0 : decode jdk_47_method_1_code 0 = .ok (.aload_n 0, 1) := by decide +kernel
theorem d25_1 : decode jdk_47_method_1_code 1 = .ok (.invokespecial 1, 3) := by decide +kernel
theorem cs16 {a0 : Array Value} {Z : State} (hw : oHW a0 Z) : oCall Z "java/util/ImmutableCollections$AbstractImmutableCollection" (.invokespecial 1) yy8 jdk_22_method_1_code 1 none (oRi 0) := oCall.init rfl (oW hw 182 rfl) (oW hw 31 rfl) (oW hw 34 rfl) (oW hw 35 rfl) (by decide) pd_3
theorem d25_4 : decode jdk_47_method_1_code 4 = .ok (.return_, 1) := by decide +kernel
theorem rAIC (l : Launch) (Z : State) (a0 : Array Value) (hw : oHW a0 Z) (ws : List Jvm.Cond) (xa : Addr) (h0 : Heap) (O0 : Ext Z.heap h0)  :
    oCon l Z yy21 jdk_47_method_1_code 1 none ws ({ frames := 2, cells := 0, slots := 0, locals := 24 } : Room) #[(.ref xa)] h0 (Q_rAIC Z xa h0) := by
  refine oCon.of (plainFor_of_name pn_10) ?_
  intro p e s m below meth c T X hx hby hml hown hnm hret hlk hZ e0
  have hml : c.maxLocals = 1 := hml
  have K : oKp h0 h0 [] [] := oKp.nil _ _
  refine oWk.cast (g' := (mkF m 0 #[rv xa] [])) (by first | rfl | (simp [entryFrame, mkF, argsToLocals, Value.category]; done)) ?_
  refine oWk.st (fun _ kt => zA X hx hby d25_0 rfl rfl rfl kt) ?_
  have Oh := K.old O0 all0
  obtain ⟨T, L2, X, e0, K, st⟩ := (cs16 hw).pure X hx hZ hown e0 K (A := [(.ref xa)]) ⟨rfl, _, _, rfl⟩ (rABC l Z a0 hw [] xa h0 Oh ) (fun _ _ _ q => q) (W := 0) (by decide) hml (Ls := #[rv xa]) rfl (rest := []) rfl rfl hby d25_1
  refine oWk.st st ?_
  exact oRetV X hx hlk hret (hb hby d25_4) (by rw [e0]; exact ⟨rfl, rfl, K⟩) (by decide) (by decide)
def Q_rAIL (Z : State) (xa : Addr) (h0 : Heap) (v : Option Value) (h : Heap) (L : List Loc) : Prop := v = none ∧ h = h0 ∧ oKp h0 h [] L
theorem pn_11 : plainName "java/util/ImmutableCollections$AbstractImmutableList" = true := by first | (simp [plainName, overriddenIn]; done) | decide +kernel
abbrev yy22 : MethodName := ⟨"java/util/ImmutableCollections$AbstractImmutableList", "<init>", "()V"⟩
theorem d24_0 : decode jdk_46_method_1_code 0 = .ok (.aload_n 0, 1) := by decide +kernel
theorem d24_1 : decode jdk_46_method_1_code 1 = .ok (.invokespecial 1, 3) := by decide +kernel
theorem cs17 {a0 : Array Value} {Z : State} (hw : oHW a0 Z) : oCall Z "java/util/ImmutableCollections$AbstractImmutableList" (.invokespecial 1) yy21 jdk_47_method_1_code 1 none (oRi 0) := oCall.init rfl (oW hw 176 rfl) (oW hw 177 rfl) (oW hw 180 rfl) (oW hw 181 rfl) (by decide) pd_3
theorem d24_4 : decode jdk_46_method_1_code 4 = .ok (.return_, 1) := by decide +kernel
theorem rAIL (l : Launch) (Z : State) (a0 : Array Value) (hw : oHW a0 Z) (ws : List Jvm.Cond) (xa : Addr) (h0 : Heap) (O0 : Ext Z.heap h0)  :
    oCon l Z yy22 jdk_46_method_1_code 1 none ws ({ frames := 3, cells := 0, slots := 0, locals := 36 } : Room) #[(.ref xa)] h0 (Q_rAIL Z xa h0) := by
  refine oCon.of (plainFor_of_name pn_11) ?_
  intro p e s m below meth c T X hx hby hml hown hnm hret hlk hZ e0
  have hml : c.maxLocals = 1 := hml
  have K : oKp h0 h0 [] [] := oKp.nil _ _
  refine oWk.cast (g' := (mkF m 0 #[rv xa] [])) (by first | rfl | (simp [entryFrame, mkF, argsToLocals, Value.category]; done)) ?_
  refine oWk.st (fun _ kt => zA X hx hby d24_0 rfl rfl rfl kt) ?_
  have Oh := K.old O0 all0
  obtain ⟨T, L2, X, e0, K, st⟩ := (cs17 hw).pure X hx hZ hown e0 K (A := [(.ref xa)]) ⟨rfl, _, _, rfl⟩ (rAIC l Z a0 hw [] xa h0 Oh ) (fun _ _ _ q => q) (W := 0) (by decide) hml (Ls := #[rv xa]) rfl (rest := []) rfl rfl hby d24_1
  refine oWk.st st ?_
  exact oRetV X hx hlk hret (hb hby d24_4) (by rw [e0]; exact ⟨rfl, rfl, K⟩) (by decide) (by decide)
def Q_rRNN (Z : State) (xx : Addr) (h0 : Heap) (v : Option Value) (h : Heap) (L : List Loc) : Prop := v = some (.ref xx) ∧ h = h0 ∧ oKp h0 h [] L
abbrev yy23 : MethodName := ⟨"java/util/Objects", "requireNonNull", "(Ljava/lang/Object;)Ljava/lang/Object;"⟩
theorem d26_0 : decode jdk_31_method_10_code 0 = .ok (.aload_n 0, 1) := by decide +kernel
theorem d26_1 : decode jdk_31_method_10_code 1 = .ok (.ifnonnull 11, 3) := by decide +kernel
theorem d26_12 : decode jdk_31_method_10_code 12 = .ok (.aload_n 0, 1) := by decide +kernel
theorem d26_13 : decode jdk_31_method_10_code 13 = .ok (.areturn, 1) := by decide +kernel
theorem rRNN (l : Launch) (Z : State) (a0 : Array Value) (hw : oHW a0 Z) (ws : List Jvm.Cond) (xx : Addr) (h0 : Heap) (O0 : Ext Z.heap h0)  :
    oCon l Z yy23 jdk_31_method_10_code 1 (some (.object Y0)) ws ({ frames := 0, cells := 0, slots := 0, locals := 0 } : Room) #[(.ref xx)] h0 (Q_rRNN Z xx h0) := by
  refine oCon.of (plainFor_of_name pn_1) ?_
  intro p e s m below meth c T X hx hby hml hown hnm hret hlk hZ e0
  have hml : c.maxLocals = 1 := hml
  have K : oKp h0 h0 [] [] := oKp.nil _ _
  refine oWk.cast (g' := (mkF m 0 #[rv xx] [])) (by first | rfl | (simp [entryFrame, mkF, argsToLocals, Value.category]; done)) ?_
  refine oWk.st (fun _ kt => zA X hx hby d26_0 rfl rfl rfl (XS.ifnonnullYes X.here hx rfl (pc0 := 1) (pc' := 12) rfl (hb hby d26_1) rfl (by decide) (by decide) (zA X hx hby d26_12 rfl rfl rfl kt))) ?_
  show oWk _ _ _ _ T (mkF m 13 #[rv xx] [(.ref xx)])
  exact oRetA X hx hlk hret rfl rfl (hb hby d26_13) (by rw [e0]; exact ⟨rfl, rfl, K⟩) (by decide) (by decide)
def Q_rL121 (Z : State) (xa xx xq : Addr) (xu xv : Value) (h0 : Heap) (v : Option Value) (h : Heap) (L : List Loc) : Prop := v = none ∧ oKp h0 h [xa] L ∧ (Exa Z h xa Y8) ∧ (Fld Z h xa Y8 "e0" Y10 (.ref xx)) ∧ (Fld Z h xa Y8 "e1" Y10 (.ref xq))
theorem pn_12 : plainName "java/util/ImmutableCollections$List12" = true := by first | (simp [plainName, overriddenIn]; done) | decide +kernel
abbrev yy24 : MethodName := ⟨"java/util/ImmutableCollections$List12", "<init>", "(Ljava/lang/Object;)V"⟩
theorem d23_0 : decode jdk_44_method_1_code 0 = .ok (.aload_n 0, 1) := by decide +kernel
theorem d23_1 : decode jdk_44_method_1_code 1 = .ok (.invokespecial 1, 3) := by decide +kernel
theorem cs18 {a0 : Array Value} {Z : State} (hw : oHW a0 Z) : oCall Z Y8 (.invokespecial 1) yy22 jdk_46_method_1_code 1 none (oRi 0) := oCall.init rfl (oW hw 170 rfl) (oW hw 171 rfl) (oW hw 174 rfl) (oW hw 175 rfl) (by decide) pd_3
theorem d23_4 : decode jdk_44_method_1_code 4 = .ok (.aload_n 0, 1) := by decide +kernel
theorem d23_5 : decode jdk_44_method_1_code 5 = .ok (.aload_n 1, 1) := by decide +kernel
theorem d23_6 : decode jdk_44_method_1_code 6 = .ok (.invokestatic 7, 3) := by decide +kernel
theorem pd_14 : parseMethodDescriptor "(Ljava/lang/Object;)Ljava/lang/Object;" = some ⟨[(.object "java/lang/Object")], some (.object "java/lang/Object")⟩ := by decide +kernel
theorem cs19 {a0 : Array Value} {Z : State} (hw : oHW a0 Z) : oCall Z Y8 (.invokestatic 7) yy23 jdk_31_method_10_code 1 (some (.object Y0)) (oRs 1) := oCall.stat (oW hw 184 rfl) (oW hw 185 rfl) (oW hw 56 rfl) (oW hw 186 rfl) (by decide) pd_14
theorem d23_9 : decode jdk_44_method_1_code 9 = .ok (.putfield 13, 3) := by decide +kernel
theorem d23_12 : decode jdk_44_method_1_code 12 = .ok (.aload_n 0, 1) := by decide +kernel
theorem d23_13 : decode jdk_44_method_1_code 13 = .ok (.getstatic 19, 3) := by decide +kernel
theorem d23_16 : decode jdk_44_method_1_code 16 = .ok (.putfield 24, 3) := by decide +kernel
theorem d23_19 : decode jdk_44_method_1_code 19 = .ok (.return_, 1) := by decide +kernel
theorem rL121 (l : Launch) (Z : State) (a0 : Array Value) (hw : oHW a0 Z) (ws : List Jvm.Cond) (xa xx xq : Addr) (xu xv : Value) (h0 : Heap) (O0 : Ext Z.heap h0) (S_EMPTY : Sta Z Z.heap Y12 "EMPTY" Y10 (.ref xq)) (og_xa : Z.heap.size ≤ xa) (E_xa : Exa Z h0 xa Y8) (F_e0_xa : Fld Z h0 xa Y8 "e0" Y10 xu) (F_e1_xa : Fld Z h0 xa Y8 "e1" Y10 xv) :
    oCon l Z yy24 jdk_44_method_1_code 2 none ws ({ frames := 4, cells := 0, slots := 0, locals := 48 } : Room) #[(.ref xa), (.ref xx)] h0 (Q_rL121 Z xa xx xq xu xv h0) := by
  refine oCon.of (plainFor_of_name pn_12) ?_
  intro p e s m below meth c T X hx hby hml hown hnm hret hlk hZ e0
  have hml : c.maxLocals = 2 := hml
  have K : oKp h0 h0 [xa] [] := oKp.nil _ _
  refine oWk.cast (g' := (mkF m 0 #[rv xa, rv xx] [])) (by first | rfl | (simp [entryFrame, mkF, argsToLocals, Value.category]; done)) ?_
  refine oWk.st (fun _ kt => zA X hx hby d23_0 rfl rfl rfl kt) ?_
  have Oh := K.old O0 (allS og_xa all0)
  obtain ⟨T, L2, X, e0, K, st⟩ := (cs18 hw).pure X hx hZ hown e0 K (A := [(.ref xa)]) ⟨rfl, _, _, rfl⟩ (rAIL l Z a0 hw [] xa h0 Oh ) (fun _ _ _ q => q) (W := 0) (by decide) hml (Ls := #[rv xa, rv xx]) rfl (rest := []) rfl rfl hby d23_1
  refine oWk.st st ?_
  refine oWk.st (fun _ kt => zA X hx hby d23_4 rfl rfl rfl (zA X hx hby d23_5 rfl rfl rfl kt)) ?_
  obtain ⟨T, L4, X, e0, K, st⟩ := (cs19 hw).pure X hx hZ hown e0 K (A := [(.ref xx)]) rfl (rRNN l Z a0 hw [] xx h0 Oh ) (fun _ _ _ q => q) (W := 1) (by decide) hml (Ls := #[rv xa, rv xx]) rfl (rest := [(.ref xa)]) rfl rfl hby d23_6
  refine oWk.st st ?_
  obtain ⟨T, h, X, e0, W5, st⟩ := putF X hx hZ hown (host := "") (Or.inl (oW hw 187 rfl)) Via.refl e0 F_e0_xa E_xa (Or.inr ⟨(oW hw 188 rfl), rfl, hnm⟩) (oW hw 164 rfl) (ty := (.object Y0)) (by decide) rfl rfl (g := (mkF m 9 #[rv xa, rv xx] [(.ref xx), (.ref xa)])) rfl rfl (hb hby d23_9)
  refine oWk.st st ?_
  have K := K.wr W5 (Or.inl (List.mem_of_getElem? (i := 0) rfl))
  have F_e0_xa := F_e0_xa.same W5
  refine oWk.st (fun _ kt => zA X hx hby d23_12 rfl rfl rfl kt) ?_
  have Oh := K.old O0 (allS og_xa all0)
  obtain ⟨T, X, e0, st⟩ := getS2 X hx hZ hown (Or.inr (oW hw 189 rfl)) Via.refl e0 (S_EMPTY.ext Oh) (g := (mkF m 13 #[rv xa, rv xx] [(.ref xa)])) rfl (hb hby d23_13)
  refine oWk.st st ?_
  have E_xa := (E_xa.wr W5)
  have F_e1_xa := (F_e1_xa.other W5 (Or.inr (slot_ne (Or.inr (oW hw 191 rfl)) (Or.inr (oW hw 188 rfl)) (by decide) (t := (.object Y0)) (t' := (.object Y0)) (by decide) (by decide))))
  obtain ⟨T, h, X, e0, W6, st⟩ := putF X hx hZ hown (host := "") (Or.inl (oW hw 190 rfl)) Via.refl e0 F_e1_xa E_xa (Or.inr ⟨(oW hw 191 rfl), rfl, hnm⟩) (oW hw 164 rfl) (ty := (.object Y0)) (by decide) rfl rfl (g := (mkF m 16 #[rv xa, rv xx] [(.ref xq), (.ref xa)])) rfl rfl (hb hby d23_16)
  refine oWk.st st ?_
  have K := K.wr W6 (Or.inl (List.mem_of_getElem? (i := 0) rfl))
  have F_e1_xa := F_e1_xa.same W6
  have E_xa := (E_xa.wr W6)
  have F_e0_xa := (F_e0_xa.other W6 (Or.inr (slot_ne (Or.inr (oW hw 188 rfl)) (Or.inr (oW hw 191 rfl)) (by decide) (t := (.object Y0)) (t' := (.object Y0)) (by decide) (by decide))))
  exact oRetV X hx hlk hret (hb hby d23_19) (by rw [e0]; exact ⟨rfl, K, E_xa, F_e0_xa, F_e1_xa⟩) (by decide) (by decide)
def Q_rOf_1 (Z : State) (xf : Addr) (xk : ClassId) (xq xe0 : Addr) (h0 : Heap) (v : Option Value) (h : Heap) (L : List Loc) : Prop := ∃ (nl : Addr), v = some (.ref nl) ∧ oKp h0 h [] L ∧ (h0.size ≤ nl) ∧ (Exa Z h nl Y8) ∧ (Fld Z h nl Y8 "e0" Y10 (.ref xe0)) ∧ (Fld Z h nl Y8 "e1" Y10 (.ref xq))
abbrev yy25 : MethodName := ⟨"java/util/List", "of", "([Ljava/lang/Object;)Ljava/util/List;"⟩
theorem d22_0 : decode jdk_40_method_47_code 0 = .ok (.aload_n 0, 1) := by decide +kernel
theorem d22_1 : decode jdk_40_method_47_code 1 = .ok (.arraylength, 1) := by decide +kernel
theorem d22_2 : decode jdk_40_method_47_code 2 = .ok (.tableswitch 57 0 2 #[26, 32, 43], 26) := by decide +kernel
theorem d22_34 : decode jdk_40_method_47_code 34 = .ok (.new 96, 3) := by decide +kernel
theorem d22_37 : decode jdk_40_method_47_code 37 = .ok (.dup, 1) := by decide +kernel
theorem d22_38 : decode jdk_40_method_47_code 38 = .ok (.aload_n 0, 1) := by decide +kernel
theorem d22_39 : decode jdk_40_method_47_code 39 = .ok (.iconst 0, 1) := by decide +kernel
theorem d22_40 : decode jdk_40_method_47_code 40 = .ok (.aaload, 1) := by decide +kernel
theorem d22_41 : decode jdk_40_method_47_code 41 = .ok (.invokespecial 98, 3) := by decide +kernel
theorem pd_15 : parseMethodDescriptor "(Ljava/lang/Object;)V" = some ⟨[(.object "java/lang/Object")], none⟩ := by decide +kernel
theorem cs20 {a0 : Array Value} {Z : State} (hw : oHW a0 Z) : oCall Z Y3 (.invokespecial 98) yy24 jdk_44_method_1_code 2 none (oRi 1) := oCall.init rfl (oW hw 166 rfl) (oW hw 167 rfl) (oW hw 165 rfl) (oW hw 169 rfl) (by decide) pd_15
theorem d22_44 : decode jdk_40_method_47_code 44 = .ok (.areturn, 1) := by decide +kernel
theorem rOf_1 (l : Launch) (Z : State) (a0 : Array Value) (hw : oHW a0 Z) (ws : List Jvm.Cond) (xf : Addr) (xk : ClassId) (xq xe0 : Addr) (h0 : Heap) (O0 : Ext Z.heap h0) (S_EMPTY : Sta Z Z.heap Y12 "EMPTY" Y10 (.ref xq)) (V_xf : Arv Z h0 xf xk (.object Y0) (1 : Int32) [(.ref xe0)] .null) (I_xe0 : Ins Z h0 xe0 Y0 true) :
    oCon l Z yy25 jdk_40_method_47_code 2 (some (.object Y3)) ws ({ frames := 5, cells := 1, slots := 2, locals := 62 } : Room) #[(.ref xf)] h0 (Q_rOf_1 Z xf xk xq xe0 h0) := by
  refine oCon.of (plainFor_of_name pn_3) ?_
  intro p e s m below meth c T X hx hby hml hown hnm hret hlk hZ e0
  have hml : c.maxLocals = 2 := hml
  have K : oKp h0 h0 [] [] := oKp.nil _ _
  refine oWk.cast (g' := (mkF m 0 #[rv xf, uu] [])) (by first | rfl | (simp [entryFrame, mkF, argsToLocals, Value.category]; done)) ?_
  refine oWk.st (fun _ kt => zA X hx hby d22_0 rfl rfl rfl kt) ?_
  obtain ⟨cl1, Ar1, q1, Sz1, Nn1, Hs1, Ft1⟩ := id V_xf
  refine oWk.st (fun _ kt => X.arraylength hx (by rw [e0]; exact Ar1.1) (State.isArrayOf_alike hZ.alike Ar1.2.1) (g := (mkF m 1 #[rv xf, uu] [(.ref xf)])) rfl rfl (hb hby d22_1) _ kt) ?_
  rw [len_of Sz1 Nn1]
  refine oWk.st (fun _ kt => XS.tswIn X.here hx rfl (pc0 := 2) (pc' := 34) rfl (hb hby d22_2) rfl (by decide) rfl (by decide) (by decide) kt) ?_
  obtain ⟨o2, g2⟩ : ∃ z, z = h0.size := ⟨_, rfl⟩
  have ne_xf_o2 : xf ≠ o2 := Nat.ne_of_lt (Nat.lt_of_lt_of_le V_xf.lt (Nat.le_of_eq g2.symm))
  have ge_o2 : h0.size ≤ o2 := Nat.le_trans K.le (Nat.le_of_eq g2.symm)
  obtain ⟨T, h, X, e0, E2, A2, D2, -, st⟩ := newO X hx hZ hown (oW hw 163 rfl) (oW hw 164 rfl) (oW hw 165 rfl) e0 (g := (mkF m 34 #[rv xf, uu] [])) rfl (hb hby d22_34) (by decide) (by decide)
  rw [← g2] at A2 D2 st
  refine oWk.st st ?_
  have K := K.ext E2
  have E_o2 := A2
  have F_e0_o2 : Fld Z h o2 Y8 "e0" Y10 .null := D2 (Or.inr (oW hw 188 rfl)) (ty := (.object Y0)) (by decide)
  have F_e1_o2 : Fld Z h o2 Y8 "e1" Y10 .null := D2 (Or.inr (oW hw 191 rfl)) (ty := (.object Y0)) (by decide)
  refine oWk.st (fun _ kt => zD X hx hby d22_37 rfl rfl rfl (zA X hx hby d22_38 rfl rfl rfl (zK X hx hby d22_39 rfl kt))) ?_
  have V_xf := (V_xf.ext E2)
  obtain ⟨cl3, Ar3, q3, Sz3, Nn3, Hs3, Ft3⟩ := id V_xf
  have hin3 : ¬ ((0 : Int32) < 0 ∨ cl3.slots.size ≤ ((0 : Int32)).toNatClampNeg) := inb_of Sz3 ⟨by decide, by decide⟩
  have hat3 : cl3.slots[((0 : Int32)).toNatClampNeg]? = some (.ref xe0) := Hs3.at hin3 rfl
  refine oWk.st (fun _ kt => X.aaload hx (j := (0 : Int32)) (v := (.ref xe0)) (by rw [e0]; exact Ar3.1) (State.isArrayOf_alike hZ.alike Ar3.2.1) rfl Ar3.2.2 hin3 hat3 (g := (mkF m 40 #[rv xf, uu] [(.int 0), (.ref xf), (.ref o2), (.ref o2)])) rfl rfl (hb hby d22_40) _ kt) ?_
  have Oh := K.old O0 all0
  obtain ⟨_, T, h, Lc5, X, e0, hQ, st⟩ := (cs20 hw).run X hx hZ hown e0 (A := [(.ref o2), (.ref xe0)]) ⟨rfl, _, _, rfl⟩ (rL121 l Z a0 hw [] o2 xe0 xq .null .null h Oh S_EMPTY (Nat.le_trans O0.1 ge_o2) E_o2 F_e0_o2 F_e1_o2) (W := 1) (by decide) hml (Ls := #[rv xf, uu]) rfl (rest := [(.ref o2)]) rfl rfl hby d22_41
  obtain ⟨rfl, K4, E_o2, F_e0_o2, F_e1_o2⟩ := hQ
  have K := K.call K4 (allS (Or.inr ge_o2) all0)
  refine oWk.st st ?_
  exact oRetA X hx hlk hret rfl rfl (hb hby d22_44) (by rw [e0]; exact ⟨o2, rfl, K, ge_o2, E_o2, F_e0_o2, F_e1_o2⟩) (by decide) (by decide)
def Q_rLC_1 (Z : State) (xa xf xmr : Addr) (xk : ClassId) (xq xe0 : Addr) (h0 : Heap) (v : Option Value) (h : Heap) (L : List Loc) : Prop := ∃ (nl : Addr), v = some (.ref nl) ∧ oKp h0 h [] L ∧ (h0.size ≤ nl) ∧ (Exa Z h nl Y8) ∧ (Fld Z h nl Y8 "e0" Y10 (.ref xe0)) ∧ (Fld Z h nl Y8 "e1" Y10 (.ref xq))
theorem d10_44 : decode jdk_56_method_3_code 44 = .ok (.aload_n 0, 1) := by decide +kernel
theorem d10_45 : decode jdk_56_method_3_code 45 = .ok (.invokeinterface 30 1, 5) := by decide +kernel
abbrev yy26 : MethodName := ⟨"java/util/Collection", "toArray", "()[Ljava/lang/Object;"⟩
theorem d10_50 : decode jdk_56_method_3_code 50 = .ok (.invokestatic 34, 3) := by decide +kernel
theorem pd_16 : parseMethodDescriptor "([Ljava/lang/Object;)Ljava/util/List;" = some ⟨[(.array (.object "java/lang/Object"))], some (.object "java/util/List")⟩ := by decide +kernel
theorem cs21 {a0 : Array Value} {Z : State} (hw : oHW a0 Z) : oCall Z Y12 (.invokestatic 34) yy25 jdk_40_method_47_code 2 (some (.object Y3)) (oRs 1) := oCall.stat (oW hw 160 rfl) (oW hw 161 rfl) (oW hw 61 rfl) (oW hw 162 rfl) (by decide) pd_16
theorem d10_53 : decode jdk_56_method_3_code 53 = .ok (.areturn, 1) := by decide +kernel
theorem rLC_1 (l : Launch) (Z : State) (a0 : Array Value) (hw : oHW a0 Z) (ws : List Jvm.Cond) (xa xf xmr : Addr) (xk : ClassId) (xq xe0 : Addr) (h0 : Heap) (O0 : Ext Z.heap h0) (S_EMPTY : Sta Z Z.heap Y12 "EMPTY" Y10 (.ref xq)) (mm_ : oMir Z Y2 xmr) (E_xa : Exa Z h0 xa Y1) (F_elementData_xa : Fld Z h0 xa Y1 "elementData" Y2 (.ref xf)) (F_size_xa : Fld Z h0 xa Y1 "size" "I" (.int (1 : Int32))) (E_xf : Exa Z h0 xf Y2) (V_xf : Arv Z h0 xf xk (.object Y0) (10 : Int32) [(.ref xe0), .null, .null, .null, .null, .null, .null, .null, .null, .null] .null) (I_xe0 : Ins Z h0 xe0 Y0 true) :
    oCon l Z yy4 jdk_56_method_3_code 2 (some (.object Y3)) ws ({ frames := 6, cells := 2, slots := 3, locals := 75 } : Room) #[(.ref xa)] h0 (Q_rLC_1 Z xa xf xmr xk xq xe0 h0) := by
  refine oCon.of (plainFor_of_name pn_4) ?_
  intro p e s m below meth c T X hx hby hml hown hnm hret hlk hZ e0
  have hml : c.maxLocals = 2 := hml
  have K : oKp h0 h0 [] [] := oKp.nil _ _
  refine oWk.cast (g' := (mkF m 0 #[rv xa, uu] [])) (by first | rfl | (simp [entryFrame, mkF, argsToLocals, Value.category]; done)) ?_
  refine oWk.st (fun _ kt => zA X hx hby d10_0 rfl rfl rfl kt) ?_
  obtain ⟨T, X, e0, st⟩ := instNo X hx hZ hown (oW hw 67 rfl) e0 E_xa (oNSno (oW hw 68 rfl) (oW hw 164 rfl) (NS.step (oW hw 68 rfl) (NS.step (oW hw 69 rfl) (NS.step (oW hw 70 rfl) (oNSroot (oW hw 71 rfl) (oW hw 164 rfl) (by decide)) (by decide)) (by decide)) (by decide)) (by decide)) (g := (mkF m 1 #[rv xa, uu] [(.ref xa)])) rfl rfl (hb hby d10_1)
  refine oWk.st st ?_
  refine oWk.st (fun _ kt => zH X hx hby d10_4 rfl rfl ((if0 _ _).trans (teq (by decide)).2) (zA X hx hby d10_7 rfl rfl rfl kt)) ?_
  obtain ⟨T, X, e0, st⟩ := instNo X hx hZ hown (oW hw 72 rfl) e0 E_xa (oNSno (oW hw 68 rfl) (oW hw 216 rfl) (NS.step (oW hw 68 rfl) (NS.step (oW hw 69 rfl) (NS.step (oW hw 70 rfl) (oNSroot (oW hw 71 rfl) (oW hw 216 rfl) (by decide)) (by decide)) (by decide)) (by decide)) (by decide)) (g := (mkF m 8 #[rv xa, uu] [(.ref xa)])) rfl rfl (hb hby d10_8)
  refine oWk.st st ?_
  refine oWk.st (fun _ kt => zF X hx hby d10_11 rfl rfl ((if0 _ _).trans (teq (by decide)).1) (pc' := 31) rfl (zA X hx hby d10_31 rfl rfl rfl kt)) ?_
  have Oh := K.old O0 all0
  obtain ⟨cq2, kq2, q2a, q2b, q2c⟩ := isOf hZ e0 E_xa
  obtain ⟨_, _, ⟨T, L2, k2, n2⟩, -, X, ⟨Lc2, hQ, l2, y2, z2⟩, st⟩ := X.interfaceBack hx (xi := yy5) (y := yy2) hown (mvT hZ (oW hw 73 rfl)) (mvT hZ (oW hw 74 rfl)) (mvT hZ (oW hw 75 rfl)) (mvT hZ (oW hw 76 rfl)) (mvT hZ (oW hw 77 rfl)) (mvT hZ (oW hw 78 rfl)) (mvT hZ (oW hw 79 rfl)) (mvT hZ (oW hw 80 rfl)) (by decide) (backOf (W := 0) (rEmp1 l Z a0 hw [] xa h0 Oh F_size_xa) hZ (oW hw 81 rfl) (oW hw 20 rfl) (by decide) (by decide)) q2a q2b q2c (g := (mkF m 32 #[rv xa, uu] [(.ref xa)])) rfl (by rw [hml]; rfl) (Steps.refl _) (argsL := []) (rest := []) (lenOf pd_0 rfl) rfl (Nat.le_of_eq rfl) (hb hby d10_32) (fun _ _ => ⟨rfl, e0, (by decide : 0 + 0 ≤ _), (by decide : 0 + 0 ≤ _)⟩)
  dsimp only [Pt.U, Pt.locs, Pt.cells, Pt.slots] at X l2 y2 z2 st hQ
  subst l2 y2 z2
  obtain ⟨rfl, e0, K1⟩ := hQ
  have K := K.call K1 all0
  rw [e0] at K
  refine oWk.tr st ?_
  refine oWk.st (fun _ kt => zF X hx hby d10_37 rfl rfl ((if0 _ _).trans (teq (by decide)).1) (pc' := 44) rfl (zA X hx hby d10_44 rfl rfl rfl kt)) ?_
  have lt_xa := E_xa.lt
  have lt_xf := E_xf.lt
  obtain ⟨cq4, kq4, q4a, q4b, q4c⟩ := isOf hZ e0 E_xa
  obtain ⟨_, _, ⟨T, L4, k4, n4⟩, -, X, ⟨Lc4, hQ, l4, y4, z4⟩, st⟩ := X.interfaceBack hx (xi := yy26) (y := yy20) hown (mvT hZ (oW hw 130 rfl)) (mvT hZ (oW hw 131 rfl)) (mvT hZ (oW hw 132 rfl)) (mvT hZ (oW hw 133 rfl)) (mvT hZ (oW hw 134 rfl)) (mvT hZ (oW hw 135 rfl)) (mvT hZ (oW hw 136 rfl)) (mvT hZ (oW hw 80 rfl)) (by decide) (backOf (W := 0) (rTA_1 l Z a0 hw [] xa xf xmr xk xe0 h0 Oh mm_ F_elementData_xa F_size_xa E_xf V_xf I_xe0) hZ (oW hw 137 rfl) (oW hw 20 rfl) (by decide) (by decide)) q4a q4b q4c (g := (mkF m 45 #[rv xa, uu] [(.ref xa)])) rfl (by rw [hml]; rfl) (Steps.refl _) (argsL := []) (rest := []) (lenOf pd_9 rfl) rfl (Nat.le_of_eq rfl) (hb hby d10_45) (fun _ _ => ⟨rfl, e0, (by decide : 0 + 1 ≤ _), (by decide : 0 + 1 ≤ _)⟩)
  dsimp only [Pt.U, Pt.locs, Pt.cells, Pt.slots] at X l4 y4 z4 st hQ
  subst l4 y4 z4
  obtain ⟨h, e0⟩ : ∃ z, T.heap = z := ⟨_, rfl⟩
  rw [e0] at hQ
  obtain ⟨nb3, nj3, rfl, K3, gn_nb3, E_nb3, V_nb3, ov_nj3⟩ := hQ
  have ge_nb3 := Nat.le_trans K.le gn_nb3
  have ne_xa_nb3 : xa ≠ nb3 := Nat.ne_of_lt (Nat.lt_of_lt_of_le lt_xa gn_nb3)
  have ne_xf_nb3 : xf ≠ nb3 := Nat.ne_of_lt (Nat.lt_of_lt_of_le lt_xf gn_nb3)
  have K := K.call K3 all0
  refine oWk.tr st ?_
  have I_xe0 := (oInsKeep I_xe0 K3.1)
  have E_xa := (E_xa.keep K3.1)
  have lt_xa := E_xa.lt
  have E_xf := (E_xf.keep K3.1)
  have lt_xf := E_xf.lt
  have lt_nb3 := E_nb3.lt
  have Oh := K.old O0 all0
  obtain ⟨_, T, h, Lc6, X, e0, hQ, st⟩ := (cs21 hw).run X hx hZ hown e0 (A := [(.ref nb3)]) rfl (rOf_1 l Z a0 hw [] nb3 nj3 xq xe0 h Oh S_EMPTY V_nb3 I_xe0) (W := 0) (by decide) hml (Ls := #[rv xa, uu]) rfl (rest := []) rfl rfl hby d10_50
  obtain ⟨nl5, rfl, K5, gn_nl5, E_nl5, F_e0_nl5, F_e1_nl5⟩ := hQ
  have ge_nl5 := Nat.le_trans K.le gn_nl5
  have ne_xa_nl5 : xa ≠ nl5 := Nat.ne_of_lt (Nat.lt_of_lt_of_le lt_xa gn_nl5)
  have ne_xf_nl5 : xf ≠ nl5 := Nat.ne_of_lt (Nat.lt_of_lt_of_le lt_xf gn_nl5)
  have ne_nb3_nl5 : nb3 ≠ nl5 := Nat.ne_of_lt (Nat.lt_of_lt_of_le lt_nb3 gn_nl5)
  have K := K.call K5 all0
  refine oWk.st st ?_
  exact oRetA X hx hlk hret rfl rfl (hb hby d10_53) (by rw [e0]; exact ⟨nl5, rfl, K, ge_nl5, E_nl5, F_e0_nl5, F_e1_nl5⟩) (by decide) (by decide)
def Q_rCO_1 (Z : State) (xa xf xmr : Addr) (xk : ClassId) (xq xe0 : Addr) (h0 : Heap) (v : Option Value) (h : Heap) (L : List Loc) : Prop := ∃ (nl : Addr), v = some (.ref nl) ∧ oKp h0 h [] L ∧ (h0.size ≤ nl) ∧ (Exa Z h nl Y8) ∧ (Fld Z h nl Y8 "e0" Y10 (.ref xe0)) ∧ (Fld Z h nl Y8 "e1" Y10 (.ref xq))
theorem rCO_1 (l : Launch) (Z : State) (a0 : Array Value) (hw : oHW a0 Z) (ws : List Jvm.Cond) (xa xf xmr : Addr) (xk : ClassId) (xq xe0 : Addr) (h0 : Heap) (O0 : Ext Z.heap h0) (S_EMPTY : Sta Z Z.heap Y12 "EMPTY" Y10 (.ref xq)) (mm_ : oMir Z Y2 xmr) (E_xa : Exa Z h0 xa Y1) (F_elementData_xa : Fld Z h0 xa Y1 "elementData" Y2 (.ref xf)) (F_size_xa : Fld Z h0 xa Y1 "size" "I" (.int (1 : Int32))) (E_xf : Exa Z h0 xf Y2) (V_xf : Arv Z h0 xf xk (.object Y0) (10 : Int32) [(.ref xe0), .null, .null, .null, .null, .null, .null, .null, .null, .null] .null) (I_xe0 : Ins Z h0 xe0 Y0 true) :
    oCon l Z yy6 jdk_40_method_48_code 1 (some (.object Y3)) ws ({ frames := 7, cells := 2, slots := 3, locals := 88 } : Room) #[(.ref xa)] h0 (Q_rCO_1 Z xa xf xmr xk xq xe0 h0) := by
  refine oCon.of (plainFor_of_name pn_3) ?_
  intro p e s m below meth c T X hx hby hml hown hnm hret hlk hZ e0
  have hml : c.maxLocals = 1 := hml
  have K : oKp h0 h0 [] [] := oKp.nil _ _
  refine oWk.cast (g' := (mkF m 0 #[rv xa] [])) (by first | rfl | (simp [entryFrame, mkF, argsToLocals, Value.category]; done)) ?_
  refine oWk.st (fun _ kt => zA X hx hby d9_0 rfl rfl rfl kt) ?_
  have lt_xa := E_xa.lt
  have lt_xf := E_xf.lt
  have Oh := K.old O0 all0
  obtain ⟨_, T, h, Lc2, X, e0, hQ, st⟩ := (cs1 hw).run X hx hZ hown e0 (A := [(.ref xa)]) rfl (rLC_1 l Z a0 hw [] xa xf xmr xk xq xe0 h0 Oh S_EMPTY mm_ E_xa F_elementData_xa F_size_xa E_xf V_xf I_xe0) (W := 0) (by decide) hml (Ls := #[rv xa]) rfl (rest := []) rfl rfl hby d9_1
  obtain ⟨nl1, rfl, K1, gn_nl1, E_nl1, F_e0_nl1, F_e1_nl1⟩ := hQ
  have ge_nl1 := Nat.le_trans K.le gn_nl1
  have ne_xa_nl1 : xa ≠ nl1 := Nat.ne_of_lt (Nat.lt_of_lt_of_le lt_xa gn_nl1)
  have ne_xf_nl1 : xf ≠ nl1 := Nat.ne_of_lt (Nat.lt_of_lt_of_le lt_xf gn_nl1)
  have K := K.call K1 all0
  refine oWk.st st ?_
  exact oRetA X hx hlk hret rfl rfl (hb hby d9_4) (by rw [e0]; exact ⟨nl1, rfl, K, ge_nl1, E_nl1, F_e0_nl1, F_e1_nl1⟩) (by decide) (by decide)
def Q_rNI_1_0 (Z : State) (xa xi xs : Addr) (u1 u2 u3 u4 : Value) (xg xgf : Addr) (xgk : ClassId) (xge0 xh xl xq xmr : Addr) (h0 : Heap) (v : Option Value) (h : Heap) (L : List Loc) : Prop := ∃ (nl : Addr), v = none ∧ oKp h0 h [xa] L ∧ (Exa Z h xa Y4) ∧ (Fld Z h xa Y4 "ordered" Y5 (.ref nl)) ∧ (Exa Z h nl Y8) ∧ (Fld Z h nl Y8 "e0" Y10 (.ref xge0)) ∧ (Fld Z h nl Y8 "e1" Y10 (.ref xq))
theorem rNI_1_0 (l : Launch) (Z : State) (a0 : Array Value) (hw : oHW a0 Z) (ws : List Jvm.Cond) (xa xi xs : Addr) (u1 u2 u3 u4 : Value) (xg xgf : Addr) (xgk : ClassId) (xge0 xh xl xq xmr : Addr) (h0 : Heap) (O0 : Ext Z.heap h0) (S_EMPTY_LIST : Sta Z Z.heap Y12 "EMPTY_LIST" Y15 (.ref xl)) (S_EMPTY : Sta Z Z.heap Y12 "EMPTY" Y10 (.ref xq)) (mm_ : oMir Z Y2 xmr) (og_xa : Z.heap.size ≤ xa) (E_xa : Exa Z h0 xa Y4) (F_kind_xa : Fld Z h0 xa Y4 "kind" Y13 u1) (F_name_xa : Fld Z h0 xa Y4 "name" Y14 u2) (F_ordered_xa : Fld Z h0 xa Y4 "ordered" Y5 u3) (F_unordered_xa : Fld Z h0 xa Y4 "unordered" Y5 u4) (E_xg : Exa Z h0 xg Y1) (F_elementData_xg : Fld Z h0 xg Y1 "elementData" Y2 (.ref xgf)) (F_size_xg : Fld Z h0 xg Y1 "size" "I" (.int (1 : Int32))) (E_xgf : Exa Z h0 xgf Y2) (V_xgf : Arv Z h0 xgf xgk (.object Y0) (10 : Int32) [(.ref xge0), .null, .null, .null, .null, .null, .null, .null, .null, .null] .null) (I_xge0 : Ins Z h0 xge0 Y0 true) (E_xh : Exa Z h0 xh Y1) (F_size_xh : Fld Z h0 xh Y1 "size" "I" (.int (0 : Int32))) :
    oConH l Z oEL yy7 prog_27_method_1_code 5 none ws ({ frames := 8, cells := 6, slots := 43, locals := 100 } : Room) #[(.ref xa), (.ref xi), (.ref xs), (.ref xg), (.ref xh)] h0 [xa] (Q_rNI_1_0 Z xa xi xs u1 u2 u3 u4 xg xgf xgk xge0 xh xl xq xmr h0) := by
  refine oConH.of (plainFor_of_name pn_5) ?_
  intro p e s m below meth c T vm X hx hby hml hown hnm hret hlk hZ e0 B hsf
  have hml : c.maxLocals = 5 := hml
  have K : oKp h0 h0 [xa] [] := oKp.nil _ _
  refine oWk.cast (g' := (mkF m 0 #[rv xa, rv xi, rv xs, rv xg, rv xh] [])) (by first | rfl | (simp [entryFrame, mkF, argsToLocals, Value.category]; done)) ?_
  refine oWk.st (fun _ kt => zA X hx hby d6_0 rfl rfl rfl kt) ?_
  have Oh := K.old O0 (allS og_xa all0)
  obtain ⟨T, L2, X, e0, K, st⟩ := (cs2 hw).pure X hx hZ hown e0 K (A := [(.ref xa)]) ⟨rfl, _, _, rfl⟩ (rRec l Z a0 hw [] xa h0 Oh ) (fun _ _ _ q => q) (W := 0) (by decide) hml (Ls := #[rv xa, rv xi, rv xs, rv xg, rv xh]) rfl (rest := []) rfl rfl hby d6_1
  refine oWk.st st ?_
  refine oWk.st (fun _ kt => zA X hx hby d6_4 rfl rfl rfl kt) ?_
  obtain ⟨lt3, T, h, X, e2, E3, hZ, hown, B, C, st⟩ := oLdcO X hx hZ hown (oW hw 53 rfl) (oSA hw) e0 (oELw hw) B (g := (mkF m 5 #[rv xa, rv xi, rv xs, rv xg, rv xh] [(.ref xi)])) rfl (hb hby d6_5) (n := 16) (by decide) (by decide) (by decide) (by decide)
  have e0 := e2
  refine oWk.st st ?_
  have K := K.ext E3
  have Oh := K.old O0 (allS og_xa all0)
  obtain ⟨T, L5, X, e0, K, st⟩ := (cs3 hw).pure X hx hZ hown e0 K (A := [(.ref xi), (.ref lt3)]) rfl (rRN2 l Z a0 hw [] xi lt3 h Oh ) (fun _ _ _ q => q) (W := 0) (by decide) hml (Ls := #[rv xa, rv xi, rv xs, rv xg, rv xh]) rfl (rest := []) rfl rfl hby d6_7
  refine oWk.st st ?_
  refine oWk.st (fun _ kt => XS.pop X.here hx rfl (hb hby d6_10) rfl rfl (zA X hx hby d6_11 rfl rfl rfl kt)) ?_
  obtain ⟨lt6, T, h, X, e2, E6, hZ, hown, B, C, st⟩ := oLdcO X hx hZ hown (oW hw 58 rfl) (oSA hw) e0 (oELw hw) B (g := (mkF m 12 #[rv xa, rv xi, rv xs, rv xg, rv xh] [(.ref xs)])) rfl (hb hby d6_12) (n := 16) (by decide) (by decide) (by decide) (by decide)
  have e0 := e2
  refine oWk.st st ?_
  have K := K.ext E6
  have Oh := K.old O0 (allS og_xa all0)
  obtain ⟨T, L8, X, e0, K, st⟩ := (cs3 hw).pure X hx hZ hown e0 K (A := [(.ref xs), (.ref lt6)]) rfl (rRN2 l Z a0 hw [] xs lt6 h Oh ) (fun _ _ _ q => q) (W := 0) (by decide) hml (Ls := #[rv xa, rv xi, rv xs, rv xg, rv xh]) rfl (rest := []) rfl rfl hby d6_14
  refine oWk.st st ?_
  refine oWk.st (fun _ kt => XS.pop X.here hx rfl (hb hby d6_17) rfl rfl (zA X hx hby d6_18 rfl rfl rfl kt)) ?_
  have E_xg := ((E_xg.ext E3).ext E6)
  have F_elementData_xg := ((F_elementData_xg.ext E3).ext E6)
  have F_size_xg := ((F_size_xg.ext E3).ext E6)
  have E_xgf := ((E_xgf.ext E3).ext E6)
  have V_xgf := ((V_xgf.ext E3).ext E6)
  have I_xge0 := ((I_xge0.ext E3).ext E6)
  have E_xa := ((E_xa.ext E3).ext E6)
  have lt_xa := E_xa.lt
  have lt_xg := E_xg.lt
  have lt_xgf := E_xgf.lt
  have E_xh := ((E_xh.ext E3).ext E6)
  have lt_xh := E_xh.lt
  obtain ⟨_, T, h, Lc10, X, e0, hQ, st⟩ := (cs4 hw).run X hx hZ hown e0 (A := [(.ref xg)]) rfl (rCO_1 l Z a0 hw [] xg xgf xmr xgk xq xge0 h Oh S_EMPTY mm_ E_xg F_elementData_xg F_size_xg E_xgf V_xgf I_xge0) (W := 0) (by decide) hml (Ls := #[rv xa, rv xi, rv xs, rv xg, rv xh]) rfl (rest := []) rfl rfl hby d6_19
  obtain ⟨nl9, rfl, K9, gn_nl9, E_nl9, F_e0_nl9, F_e1_nl9⟩ := hQ
  have ge_nl9 := Nat.le_trans K.le gn_nl9
  have ne_xa_nl9 : xa ≠ nl9 := Nat.ne_of_lt (Nat.lt_of_lt_of_le lt_xa gn_nl9)
  have ne_xg_nl9 : xg ≠ nl9 := Nat.ne_of_lt (Nat.lt_of_lt_of_le lt_xg gn_nl9)
  have ne_xgf_nl9 : xgf ≠ nl9 := Nat.ne_of_lt (Nat.lt_of_lt_of_le lt_xgf gn_nl9)
  have ne_xh_nl9 : xh ≠ nl9 := Nat.ne_of_lt (Nat.lt_of_lt_of_le lt_xh gn_nl9)
  have K := K.call K9 all0
  have B := B.keep K9.1 (fun _ _ => oSf)
  refine oWk.st st ?_
  refine oWk.st (fun _ kt => zTn X hx hby d6_22 rfl rfl rfl (l' := #[rv xa, rv xi, rv xs, rv nl9, rv xh]) rfl (zB X hx hby d6_23 rfl rfl rfl kt)) ?_
  have E_xh := (E_xh.keep K9.1)
  have F_size_xh := (((F_size_xh.ext E3).ext E6).keep K9.1 nin0)
  have Oh := K.old O0 (allS og_xa all0)
  obtain ⟨T, L12, X, e0, K, st⟩ := (cs4 hw).pure X hx hZ hown e0 K (A := [(.ref xh)]) rfl (rCO0 l Z a0 hw [] xh xl h Oh S_EMPTY_LIST E_xh F_size_xh) (fun _ _ _ q => q) (W := 0) (by decide) hml (Ls := #[rv xa, rv xi, rv xs, rv nl9, rv xh]) rfl (rest := []) rfl rfl hby d6_25
  refine oWk.st st ?_
  refine oWk.st (fun _ kt => zT X hx hby d6_28 rfl rfl rfl (l' := #[rv xa, rv xi, rv xs, rv nl9, rv xl]) rfl (zA X hx hby d6_30 rfl rfl rfl (zA X hx hby d6_31 rfl rfl rfl kt))) ?_
  have E_xa := (E_xa.keep K9.1)
  have F_kind_xa := (((F_kind_xa.ext E3).ext E6).keep K9.1 nin0)
  obtain ⟨T, h, X, e0, W13, st⟩ := putF X hx hZ hown (host := "") (Or.inl (oW hw 88 rfl)) Via.refl e0 F_kind_xa E_xa (Or.inr ⟨(oW hw 89 rfl), rfl, hnm⟩) (oW hw 8 rfl) (ty := (.object Y7)) (by decide) rfl rfl (g := (mkF m 32 #[rv xa, rv xi, rv xs, rv nl9, rv xl] [(.ref xi), (.ref xa)])) rfl rfl (hb hby d6_32)
  refine oWk.st st ?_
  have K := K.wr W13 (Or.inl (List.mem_of_getElem? (i := 0) rfl))
  have B := B.wr W13 oSf
  have F_kind_xa := F_kind_xa.same W13
  refine oWk.st (fun _ kt => zA X hx hby d6_35 rfl rfl rfl (zA X hx hby d6_36 rfl rfl rfl kt)) ?_
  have E_xa := (E_xa.wr W13)
  have F_name_xa := ((((F_name_xa.ext E3).ext E6).keep K9.1 nin0).other W13 (Or.inr (slot_ne (Or.inr (oW hw 91 rfl)) (Or.inr (oW hw 89 rfl)) (by decide) (t := (.object Y9)) (t' := (.object Y7)) (by decide) (by decide))))
  obtain ⟨T, h, X, e0, W14, st⟩ := putF X hx hZ hown (host := "") (Or.inl (oW hw 90 rfl)) Via.refl e0 F_name_xa E_xa (Or.inr ⟨(oW hw 91 rfl), rfl, hnm⟩) (oW hw 8 rfl) (ty := (.object Y9)) (by decide) rfl rfl (g := (mkF m 37 #[rv xa, rv xi, rv xs, rv nl9, rv xl] [(.ref xs), (.ref xa)])) rfl rfl (hb hby d6_37)
  refine oWk.st st ?_
  have K := K.wr W14 (Or.inl (List.mem_of_getElem? (i := 0) rfl))
  have B := B.wr W14 oSf
  have F_name_xa := F_name_xa.same W14
  refine oWk.st (fun _ kt => zA X hx hby d6_40 rfl rfl rfl (zA X hx hby d6_41 rfl rfl rfl kt)) ?_
  have E_xa := (E_xa.wr W14)
  have F_ordered_xa := (((((F_ordered_xa.ext E3).ext E6).keep K9.1 nin0).other W13 (Or.inr (slot_ne (Or.inr (oW hw 93 rfl)) (Or.inr (oW hw 89 rfl)) (by decide) (t := (.object Y3)) (t' := (.object Y7)) (by decide) (by decide)))).other W14 (Or.inr (slot_ne (Or.inr (oW hw 93 rfl)) (Or.inr (oW hw 91 rfl)) (by decide) (t := (.object Y3)) (t' := (.object Y9)) (by decide) (by decide))))
  obtain ⟨T, h, X, e0, W15, st⟩ := putF X hx hZ hown (host := "") (Or.inl (oW hw 92 rfl)) Via.refl e0 F_ordered_xa E_xa (Or.inr ⟨(oW hw 93 rfl), rfl, hnm⟩) (oW hw 8 rfl) (ty := (.object Y3)) (by decide) rfl rfl (g := (mkF m 42 #[rv xa, rv xi, rv xs, rv nl9, rv xl] [(.ref nl9), (.ref xa)])) rfl rfl (hb hby d6_42)
  refine oWk.st st ?_
  have K := K.wr W15 (Or.inl (List.mem_of_getElem? (i := 0) rfl))
  have B := B.wr W15 oSf
  have F_ordered_xa := F_ordered_xa.same W15
  refine oWk.st (fun _ kt => zA X hx hby d6_45 rfl rfl rfl (zB X hx hby d6_46 rfl rfl rfl kt)) ?_
  have E_xa := (E_xa.wr W15)
  have F_unordered_xa := ((((((F_unordered_xa.ext E3).ext E6).keep K9.1 nin0).other W13 (Or.inr (slot_ne (Or.inr (oW hw 95 rfl)) (Or.inr (oW hw 89 rfl)) (by decide) (t := (.object Y3)) (t' := (.object Y7)) (by decide) (by decide)))).other W14 (Or.inr (slot_ne (Or.inr (oW hw 95 rfl)) (Or.inr (oW hw 91 rfl)) (by decide) (t := (.object Y3)) (t' := (.object Y9)) (by decide) (by decide)))).other W15 (Or.inr (slot_ne (Or.inr (oW hw 95 rfl)) (Or.inr (oW hw 93 rfl)) (by decide) (t := (.object Y3)) (t' := (.object Y3)) (by decide) (by decide))))
  obtain ⟨T, h, X, e0, W16, st⟩ := putF X hx hZ hown (host := "") (Or.inl (oW hw 94 rfl)) Via.refl e0 F_unordered_xa E_xa (Or.inr ⟨(oW hw 95 rfl), rfl, hnm⟩) (oW hw 8 rfl) (ty := (.object Y3)) (by decide) rfl rfl (g := (mkF m 48 #[rv xa, rv xi, rv xs, rv nl9, rv xl] [(.ref xl), (.ref xa)])) rfl rfl (hb hby d6_48)
  refine oWk.st st ?_
  have K := K.wr W16 (Or.inl (List.mem_of_getElem? (i := 0) rfl))
  have B := B.wr W16 oSf
  have F_unordered_xa := F_unordered_xa.same W16
  have E_xa := (E_xa.wr W16)
  have F_ordered_xa := (F_ordered_xa.other W16 (Or.inr (slot_ne (Or.inr (oW hw 93 rfl)) (Or.inr (oW hw 95 rfl)) (by decide) (t := (.object Y3)) (t' := (.object Y3)) (by decide) (by decide))))
  have E_nl9 := ((((E_nl9.wr W13).wr W14).wr W15).wr W16)
  have F_e0_nl9 := ((((F_e0_nl9.other W13 (Or.inl (Ne.symm ne_xa_nl9))).other W14 (Or.inl (Ne.symm ne_xa_nl9))).other W15 (Or.inl (Ne.symm ne_xa_nl9))).other W16 (Or.inl (Ne.symm ne_xa_nl9)))
  have F_e1_nl9 := ((((F_e1_nl9.other W13 (Or.inl (Ne.symm ne_xa_nl9))).other W14 (Or.inl (Ne.symm ne_xa_nl9))).other W15 (Or.inl (Ne.symm ne_xa_nl9))).other W16 (Or.inl (Ne.symm ne_xa_nl9)))
  exact oRetHV X hx hlk hZ (oELw hw) e0 B hret (hb hby d6_51) (by rw [e0]; exact ⟨nl9, rfl, K, E_xa, F_ordered_xa, E_nl9, F_e0_nl9, F_e1_nl9⟩) (by decide) (by decide)
def Q_rG12_0 (Z : State) (xa xx : Addr) (h0 : Heap) (v : Option Value) (h : Heap) (L : List Loc) : Prop := v = some (.ref xx) ∧ h = h0 ∧ oKp h0 h [] L
abbrev yy27 : MethodName := ⟨"java/util/ImmutableCollections$List12", "get", "(I)Ljava/lang/Object;"⟩
theorem d29_0 : decode jdk_44_method_5_code 0 = .ok (.iload_n 1, 1) := by decide +kernel
theorem d29_1 : decode jdk_44_method_5_code 1 = .ok (.ifCond .ne 8, 3) := by decide +kernel
theorem d29_4 : decode jdk_44_method_5_code 4 = .ok (.aload_n 0, 1) := by decide +kernel
theorem d29_5 : decode jdk_44_method_5_code 5 = .ok (.getfield 13, 3) := by decide +kernel
theorem d29_8 : decode jdk_44_method_5_code 8 = .ok (.areturn, 1) := by decide +kernel
theorem rG12_0 (l : Launch) (Z : State) (a0 : Array Value) (hw : oHW a0 Z) (ws : List Jvm.Cond) (xa xx : Addr) (h0 : Heap) (O0 : Ext Z.heap h0) (F_e0_xa : Fld Z h0 xa Y8 "e0" Y10 (.ref xx)) :
    oCon l Z yy27 jdk_44_method_5_code 2 (some (.object Y0)) ws ({ frames := 0, cells := 0, slots := 0, locals := 0 } : Room) #[(.ref xa), (.int (0 : Int32))] h0 (Q_rG12_0 Z xa xx h0) := by
  refine oCon.of (plainFor_of_name pn_12) ?_
  intro p e s m below meth c T X hx hby hml hown hnm hret hlk hZ e0
  have hml : c.maxLocals = 2 := hml
  have K : oKp h0 h0 [] [] := oKp.nil _ _
  refine oWk.cast (g' := (mkF m 0 #[rv xa, iv 0] [])) (by first | rfl | (simp [entryFrame, mkF, argsToLocals, Value.category]; done)) ?_
  refine oWk.st (fun _ kt => zI X hx hby d29_0 rfl rfl (zH X hx hby d29_1 rfl rfl ((if0 _ _).trans (teq (by decide)).2) (zA X hx hby d29_4 rfl rfl rfl kt))) ?_
  obtain ⟨T, X, e0, st⟩ := getF X hx hZ hown (host := "") (Or.inl (oW hw 187 rfl)) Via.refl e0 F_e0_xa (g := (mkF m 5 #[rv xa, iv 0] [(.ref xa)])) rfl rfl (hb hby d29_5)
  refine oWk.st st ?_
  exact oRetA X hx hlk hret rfl rfl (hb hby d29_8) (by rw [e0]; exact ⟨rfl, rfl, K⟩) (by decide) (by decide)
def Q_rNd_1_0 (Z : State) (xa xb xge0 xq : Addr) (h0 : Heap) (v : Option Value) (h : Heap) (L : List Loc) : Prop := v = some (.ref xge0) ∧ h = h0 ∧ oKp h0 h [] L
abbrev yy28 : MethodName := ⟨"com/example/congruent/congruent/core/Tree$Node", "node", "(I)Lcom/example/congruent/congruent/core/Tree$Node;"⟩
theorem d28_0 : decode prog_27_method_4_code 0 = .ok (.aload_n 0, 1) := by decide +kernel
theorem d28_1 : decode prog_27_method_4_code 1 = .ok (.getfield 31, 3) := by decide +kernel
theorem d28_4 : decode prog_27_method_4_code 4 = .ok (.iload_n 1, 1) := by decide +kernel
theorem d28_5 : decode prog_27_method_4_code 5 = .ok (.invokeinterface 50 2, 5) := by decide +kernel
theorem pd_17 : parseMethodDescriptor "(I)Ljava/lang/Object;" = some ⟨[.int], some (.object "java/lang/Object")⟩ := by decide +kernel
abbrev yy29 : MethodName := ⟨"java/util/List", "get", "(I)Ljava/lang/Object;"⟩
theorem d28_10 : decode prog_27_method_4_code 10 = .ok (.checkcast 24, 3) := by decide +kernel
theorem d28_13 : decode prog_27_method_4_code 13 = .ok (.areturn, 1) := by decide +kernel
theorem rNd_1_0 (l : Launch) (Z : State) (a0 : Array Value) (hw : oHW a0 Z) (ws : List Jvm.Cond) (xa xb xge0 xq : Addr) (h0 : Heap) (O0 : Ext Z.heap h0) (S_EMPTY : Sta Z Z.heap Y12 "EMPTY" Y10 (.ref xq)) (F_ordered_xa : Fld Z h0 xa Y4 "ordered" Y5 (.ref xb)) (E_xb : Exa Z h0 xb Y8) (F_e0_xb : Fld Z h0 xb Y8 "e0" Y10 (.ref xge0)) (F_e1_xb : Fld Z h0 xb Y8 "e1" Y10 (.ref xq)) (E_xge0 : Exa Z h0 xge0 Y4) :
    oCon l Z yy28 prog_27_method_4_code 2 (some (.object Y4)) ws ({ frames := 1, cells := 0, slots := 0, locals := 13 } : Room) #[(.ref xa), (.int (0 : Int32))] h0 (Q_rNd_1_0 Z xa xb xge0 xq h0) := by
  refine oCon.of (plainFor_of_name pn_5) ?_
  intro p e s m below meth c T X hx hby hml hown hnm hret hlk hZ e0
  have hml : c.maxLocals = 2 := hml
  have K : oKp h0 h0 [] [] := oKp.nil _ _
  refine oWk.cast (g' := (mkF m 0 #[rv xa, iv 0] [])) (by first | rfl | (simp [entryFrame, mkF, argsToLocals, Value.category]; done)) ?_
  refine oWk.st (fun _ kt => zA X hx hby d28_0 rfl rfl rfl kt) ?_
  obtain ⟨T, X, e0, st⟩ := getF X hx hZ hown (host := "") (Or.inl (oW hw 92 rfl)) Via.refl e0 F_ordered_xa (g := (mkF m 1 #[rv xa, iv 0] [(.ref xa)])) rfl rfl (hb hby d28_1)
  refine oWk.st st ?_
  refine oWk.st (fun _ kt => zI X hx hby d28_4 rfl rfl kt) ?_
  have Oh := K.old O0 all0
  obtain ⟨cq2, kq2, q2a, q2b, q2c⟩ := isOf hZ e0 E_xb
  obtain ⟨_, _, ⟨T, L2, k2, n2⟩, -, X, ⟨Lc2, hQ, l2, y2, z2⟩, st⟩ := X.interfaceBack hx (xi := yy29) (y := yy27) hown (mvT hZ (oW hw 200 rfl)) (mvT hZ (oW hw 201 rfl)) (mvT hZ (oW hw 202 rfl)) (mvT hZ (oW hw 203 rfl)) (mvT hZ (oW hw 204 rfl)) (mvT hZ (oW hw 205 rfl)) (mvT hZ (oW hw 206 rfl)) (mvT hZ (oW hw 207 rfl)) (by decide) (backOf (W := 0) (rG12_0 l Z a0 hw [] xb xge0 h0 Oh F_e0_xb) hZ (oW hw 208 rfl) (oW hw 165 rfl) (by decide) (by decide)) q2a q2b q2c (g := (mkF m 5 #[rv xa, iv 0] [(.int 0), (.ref xb)])) rfl (by rw [hml]; rfl) (Steps.refl _) (argsL := [(.int (0 : Int32))]) (rest := []) (lenOf pd_17 rfl) rfl (Nat.le_of_eq rfl) (hb hby d28_5) (fun _ _ => ⟨rfl, e0, (by decide : 0 + 0 ≤ _), (by decide : 0 + 0 ≤ _)⟩)
  dsimp only [Pt.U, Pt.locs, Pt.cells, Pt.slots] at X l2 y2 z2 st hQ
  subst l2 y2 z2
  obtain ⟨rfl, e0, K1⟩ := hQ
  have K := K.call K1 all0
  rw [e0] at K
  refine oWk.tr st ?_
  obtain ⟨T, X, e0, st⟩ := castY X hx hZ hown (oW hw 209 rfl) e0 (Ins.self E_xge0) (g := (mkF m 10 #[rv xa, iv 0] [(.ref xge0)])) rfl rfl (hb hby d28_10)
  refine oWk.st st ?_
  exact oRetA X hx hlk hret rfl rfl (hb hby d28_13) (by rw [e0]; exact ⟨rfl, rfl, K⟩) (by decide) (by decide)
theorem pd_18 : parseMethodDescriptor "(I)Lcom/example/congruent/congruent/core/Tree$Node;" = some ⟨[.int], some (.object "com/example/congruent/congruent/core/Tree$Node")⟩ := by decide +kernel
theorem cs22 {a0 : Array Value} {Z : State} (hw : oHW a0 Z) : oCall Z Y17 (.invokevirtual 40) yy28 prog_27_method_4_code 2 (some (.object Y4)) (oRv Z 1 Y4) := oCall.virt (oW hw 195 rfl) (oW hw 196 rfl) (fun _ hZ => notFace_of_selects (args := #[]) (mvT hZ (oW hw 198 rfl))) (oW hw 198 rfl) (oW hw 197 rfl) (oW hw 9 rfl) (oW hw 199 rfl) (by decide) pd_18
def Q_rNI_1_1 (Z : State) (xa xi xs : Addr) (u1 u2 u3 u4 : Value) (xg xgf : Addr) (xgk : ClassId) (xge0 xh xhf : Addr) (xhk : ClassId) (xhe0 xq xmr : Addr) (h0 : Heap) (v : Option Value) (h : Heap) (L : List Loc) : Prop := ∃ (nl : Addr), v = none ∧ oKp h0 h [xa] L ∧ (Exa Z h xa Y4) ∧ (Fld Z h xa Y4 "ordered" Y5 (.ref nl)) ∧ (Exa Z h nl Y8) ∧ (Fld Z h nl Y8 "e0" Y10 (.ref xge0)) ∧ (Fld Z h nl Y8 "e1" Y10 (.ref xq))
theorem rNI_1_1 (l : Launch) (Z : State) (a0 : Array Value) (hw : oHW a0 Z) (ws : List Jvm.Cond) (xa xi xs : Addr) (u1 u2 u3 u4 : Value) (xg xgf : Addr) (xgk : ClassId) (xge0 xh xhf : Addr) (xhk : ClassId) (xhe0 xq xmr : Addr) (h0 : Heap) (O0 : Ext Z.heap h0) (S_EMPTY : Sta Z Z.heap Y12 "EMPTY" Y10 (.ref xq)) (mm_ : oMir Z Y2 xmr) (og_xa : Z.heap.size ≤ xa) (E_xa : Exa Z h0 xa Y4) (F_kind_xa : Fld Z h0 xa Y4 "kind" Y13 u1) (F_name_xa : Fld Z h0 xa Y4 "name" Y14 u2) (F_ordered_xa : Fld Z h0 xa Y4 "ordered" Y5 u3) (F_unordered_xa : Fld Z h0 xa Y4 "unordered" Y5 u4) (E_xg : Exa Z h0 xg Y1) (F_elementData_xg : Fld Z h0 xg Y1 "elementData" Y2 (.ref xgf)) (F_size_xg : Fld Z h0 xg Y1 "size" "I" (.int (1 : Int32))) (E_xgf : Exa Z h0 xgf Y2) (V_xgf : Arv Z h0 xgf xgk (.object Y0) (10 : Int32) [(.ref xge0), .null, .null, .null, .null, .null, .null, .null, .null, .null] .null) (I_xge0 : Ins Z h0 xge0 Y0 true) (E_xh : Exa Z h0 xh Y1) (F_elementData_xh : Fld Z h0 xh Y1 "elementData" Y2 (.ref xhf)) (F_size_xh : Fld Z h0 xh Y1 "size" "I" (.int (1 : Int32))) (E_xhf : Exa Z h0 xhf Y2) (V_xhf : Arv Z h0 xhf xhk (.object Y0) (10 : Int32) [(.ref xhe0), .null, .null, .null, .null, .null, .null, .null, .null, .null] .null) (I_xhe0 : Ins Z h0 xhe0 Y0 true) :
    oConH l Z oEL yy7 prog_27_method_1_code 5 none ws ({ frames := 8, cells := 8, slots := 46, locals := 100 } : Room) #[(.ref xa), (.ref xi), (.ref xs), (.ref xg), (.ref xh)] h0 [xa] (Q_rNI_1_1 Z xa xi xs u1 u2 u3 u4 xg xgf xgk xge0 xh xhf xhk xhe0 xq xmr h0) := by
  refine oConH.of (plainFor_of_name pn_5) ?_
  intro p e s m below meth c T vm X hx hby hml hown hnm hret hlk hZ e0 B hsf
  have hml : c.maxLocals = 5 := hml
  have K : oKp h0 h0 [xa] [] := oKp.nil _ _
  refine oWk.cast (g' := (mkF m 0 #[rv xa, rv xi, rv xs, rv xg, rv xh] [])) (by first | rfl | (simp [entryFrame, mkF, argsToLocals, Value.category]; done)) ?_
  refine oWk.st (fun _ kt => zA X hx hby d6_0 rfl rfl rfl kt) ?_
  have Oh := K.old O0 (allS og_xa all0)
  obtain ⟨T, L2, X, e0, K, st⟩ := (cs2 hw).pure X hx hZ hown e0 K (A := [(.ref xa)]) ⟨rfl, _, _, rfl⟩ (rRec l Z a0 hw [] xa h0 Oh ) (fun _ _ _ q => q) (W := 0) (by decide) hml (Ls := #[rv xa, rv xi, rv xs, rv xg, rv xh]) rfl (rest := []) rfl rfl hby d6_1
  refine oWk.st st ?_
  refine oWk.st (fun _ kt => zA X hx hby d6_4 rfl rfl rfl kt) ?_
  obtain ⟨lt3, T, h, X, e2, E3, hZ, hown, B, C, st⟩ := oLdcO X hx hZ hown (oW hw 53 rfl) (oSA hw) e0 (oELw hw) B (g := (mkF m 5 #[rv xa, rv xi, rv xs, rv xg, rv xh] [(.ref xi)])) rfl (hb hby d6_5) (n := 16) (by decide) (by decide) (by decide) (by decide)
  have e0 := e2
  refine oWk.st st ?_
  have K := K.ext E3
  have Oh := K.old O0 (allS og_xa all0)
  obtain ⟨T, L5, X, e0, K, st⟩ := (cs3 hw).pure X hx hZ hown e0 K (A := [(.ref xi), (.ref lt3)]) rfl (rRN2 l Z a0 hw [] xi lt3 h Oh ) (fun _ _ _ q => q) (W := 0) (by decide) hml (Ls := #[rv xa, rv xi, rv xs, rv xg, rv xh]) rfl (rest := []) rfl rfl hby d6_7
  refine oWk.st st ?_
  refine oWk.st (fun _ kt => XS.pop X.here hx rfl (hb hby d6_10) rfl rfl (zA X hx hby d6_11 rfl rfl rfl kt)) ?_
  obtain ⟨lt6, T, h, X, e2, E6, hZ, hown, B, C, st⟩ := oLdcO X hx hZ hown (oW hw 58 rfl) (oSA hw) e0 (oELw hw) B (g := (mkF m 12 #[rv xa, rv xi, rv xs, rv xg, rv xh] [(.ref xs)])) rfl (hb hby d6_12) (n := 16) (by decide) (by decide) (by decide) (by decide)
  have e0 := e2
  refine oWk.st st ?_
  have K := K.ext E6
  have Oh := K.old O0 (allS og_xa all0)
  obtain ⟨T, L8, X, e0, K, st⟩ := (cs3 hw).pure X hx hZ hown e0 K (A := [(.ref xs), (.ref lt6)]) rfl (rRN2 l Z a0 hw [] xs lt6 h Oh ) (fun _ _ _ q => q) (W := 0) (by decide) hml (Ls := #[rv xa, rv xi, rv xs, rv xg, rv xh]) rfl (rest := []) rfl rfl hby d6_14
  refine oWk.st st ?_
  refine oWk.st (fun _ kt => XS.pop X.here hx rfl (hb hby d6_17) rfl rfl (zA X hx hby d6_18 rfl rfl rfl kt)) ?_
  have E_xg := ((E_xg.ext E3).ext E6)
  have F_elementData_xg := ((F_elementData_xg.ext E3).ext E6)
  have F_size_xg := ((F_size_xg.ext E3).ext E6)
  have E_xgf := ((E_xgf.ext E3).ext E6)
  have V_xgf := ((V_xgf.ext E3).ext E6)
  have I_xge0 := ((I_xge0.ext E3).ext E6)
  have E_xa := ((E_xa.ext E3).ext E6)
  have lt_xa := E_xa.lt
  have lt_xg := E_xg.lt
  have lt_xgf := E_xgf.lt
  have E_xh := ((E_xh.ext E3).ext E6)
  have lt_xh := E_xh.lt
  have E_xhf := ((E_xhf.ext E3).ext E6)
  have lt_xhf := E_xhf.lt
  obtain ⟨_, T, h, Lc10, X, e0, hQ, st⟩ := (cs4 hw).run X hx hZ hown e0 (A := [(.ref xg)]) rfl (rCO_1 l Z a0 hw [] xg xgf xmr xgk xq xge0 h Oh S_EMPTY mm_ E_xg F_elementData_xg F_size_xg E_xgf V_xgf I_xge0) (W := 0) (by decide) hml (Ls := #[rv xa, rv xi, rv xs, rv xg, rv xh]) rfl (rest := []) rfl rfl hby d6_19
  obtain ⟨nl9, rfl, K9, gn_nl9, E_nl9, F_e0_nl9, F_e1_nl9⟩ := hQ
  have ge_nl9 := Nat.le_trans K.le gn_nl9
  have ne_xa_nl9 : xa ≠ nl9 := Nat.ne_of_lt (Nat.lt_of_lt_of_le lt_xa gn_nl9)
  have ne_xg_nl9 : xg ≠ nl9 := Nat.ne_of_lt (Nat.lt_of_lt_of_le lt_xg gn_nl9)
  have ne_xgf_nl9 : xgf ≠ nl9 := Nat.ne_of_lt (Nat.lt_of_lt_of_le lt_xgf gn_nl9)
  have ne_xh_nl9 : xh ≠ nl9 := Nat.ne_of_lt (Nat.lt_of_lt_of_le lt_xh gn_nl9)
  have ne_xhf_nl9 : xhf ≠ nl9 := Nat.ne_of_lt (Nat.lt_of_lt_of_le lt_xhf gn_nl9)
  have K := K.call K9 all0
  have B := B.keep K9.1 (fun _ _ => oSf)
  refine oWk.st st ?_
  refine oWk.st (fun _ kt => zTn X hx hby d6_22 rfl rfl rfl (l' := #[rv xa, rv xi, rv xs, rv nl9, rv xh]) rfl (zB X hx hby d6_23 rfl rfl rfl kt)) ?_
  have E_xh := (E_xh.keep K9.1)
  have F_elementData_xh := (((F_elementData_xh.ext E3).ext E6).keep K9.1 nin0)
  have F_size_xh := (((F_size_xh.ext E3).ext E6).keep K9.1 nin0)
  have E_xhf := (E_xhf.keep K9.1)
  have V_xhf := (((V_xhf.ext E3).ext E6).keep K9.1 nin0)
  have I_xhe0 := (oInsKeep ((I_xhe0.ext E3).ext E6) K9.1)
  have E_xa := (E_xa.keep K9.1)
  have lt_xa := E_xa.lt
  have E_xg := (E_xg.keep K9.1)
  have lt_xg := E_xg.lt
  have E_xgf := (E_xgf.keep K9.1)
  have lt_xgf := E_xgf.lt
  have lt_xh := E_xh.lt
  have lt_xhf := E_xhf.lt
  have lt_nl9 := E_nl9.lt
  have Oh := K.old O0 (allS og_xa all0)
  obtain ⟨_, T, h, Lc12, X, e0, hQ, st⟩ := (cs4 hw).run X hx hZ hown e0 (A := [(.ref xh)]) rfl (rCO_1 l Z a0 hw [] xh xhf xmr xhk xq xhe0 h Oh S_EMPTY mm_ E_xh F_elementData_xh F_size_xh E_xhf V_xhf I_xhe0) (W := 0) (by decide) hml (Ls := #[rv xa, rv xi, rv xs, rv nl9, rv xh]) rfl (rest := []) rfl rfl hby d6_25
  obtain ⟨nl11, rfl, K11, gn_nl11, E_nl11, F_e0_nl11, F_e1_nl11⟩ := hQ
  have ge_nl11 := Nat.le_trans K.le gn_nl11
  have ne_xa_nl11 : xa ≠ nl11 := Nat.ne_of_lt (Nat.lt_of_lt_of_le lt_xa gn_nl11)
  have ne_xg_nl11 : xg ≠ nl11 := Nat.ne_of_lt (Nat.lt_of_lt_of_le lt_xg gn_nl11)
  have ne_xgf_nl11 : xgf ≠ nl11 := Nat.ne_of_lt (Nat.lt_of_lt_of_le lt_xgf gn_nl11)
  have ne_xh_nl11 : xh ≠ nl11 := Nat.ne_of_lt (Nat.lt_of_lt_of_le lt_xh gn_nl11)
  have ne_xhf_nl11 : xhf ≠ nl11 := Nat.ne_of_lt (Nat.lt_of_lt_of_le lt_xhf gn_nl11)
  have ne_nl9_nl11 : nl9 ≠ nl11 := Nat.ne_of_lt (Nat.lt_of_lt_of_le lt_nl9 gn_nl11)
  have K := K.call K11 all0
  have B := B.keep K11.1 (fun _ _ => oSf)
  refine oWk.st st ?_
  refine oWk.st (fun _ kt => zT X hx hby d6_28 rfl rfl rfl (l' := #[rv xa, rv xi, rv xs, rv nl9, rv nl11]) rfl (zA X hx hby d6_30 rfl rfl rfl (zA X hx hby d6_31 rfl rfl rfl kt))) ?_
  have E_xa := (E_xa.keep K11.1)
  have F_kind_xa := ((((F_kind_xa.ext E3).ext E6).keep K9.1 nin0).keep K11.1 nin0)
  obtain ⟨T, h, X, e0, W13, st⟩ := putF X hx hZ hown (host := "") (Or.inl (oW hw 88 rfl)) Via.refl e0 F_kind_xa E_xa (Or.inr ⟨(oW hw 89 rfl), rfl, hnm⟩) (oW hw 8 rfl) (ty := (.object Y7)) (by decide) rfl rfl (g := (mkF m 32 #[rv xa, rv xi, rv xs, rv nl9, rv nl11] [(.ref xi), (.ref xa)])) rfl rfl (hb hby d6_32)
  refine oWk.st st ?_
  have K := K.wr W13 (Or.inl (List.mem_of_getElem? (i := 0) rfl))
  have B := B.wr W13 oSf
  have F_kind_xa := F_kind_xa.same W13
  refine oWk.st (fun _ kt => zA X hx hby d6_35 rfl rfl rfl (zA X hx hby d6_36 rfl rfl rfl kt)) ?_
  have E_xa := (E_xa.wr W13)
  have F_name_xa := (((((F_name_xa.ext E3).ext E6).keep K9.1 nin0).keep K11.1 nin0).other W13 (Or.inr (slot_ne (Or.inr (oW hw 91 rfl)) (Or.inr (oW hw 89 rfl)) (by decide) (t := (.object Y9)) (t' := (.object Y7)) (by decide) (by decide))))
  obtain ⟨T, h, X, e0, W14, st⟩ := putF X hx hZ hown (host := "") (Or.inl (oW hw 90 rfl)) Via.refl e0 F_name_xa E_xa (Or.inr ⟨(oW hw 91 rfl), rfl, hnm⟩) (oW hw 8 rfl) (ty := (.object Y9)) (by decide) rfl rfl (g := (mkF m 37 #[rv xa, rv xi, rv xs, rv nl9, rv nl11] [(.ref xs), (.ref xa)])) rfl rfl (hb hby d6_37)
  refine oWk.st st ?_
  have K := K.wr W14 (Or.inl (List.mem_of_getElem? (i := 0) rfl))
  have B := B.wr W14 oSf
  have F_name_xa := F_name_xa.same W14
  refine oWk.st (fun _ kt => zA X hx hby d6_40 rfl rfl rfl (zA X hx hby d6_41 rfl rfl rfl kt)) ?_
  have E_xa := (E_xa.wr W14)
  have F_ordered_xa := ((((((F_ordered_xa.ext E3).ext E6).keep K9.1 nin0).keep K11.1 nin0).other W13 (Or.inr (slot_ne (Or.inr (oW hw 93 rfl)) (Or.inr (oW hw 89 rfl)) (by decide) (t := (.object Y3)) (t' := (.object Y7)) (by decide) (by decide)))).other W14 (Or.inr (slot_ne (Or.inr (oW hw 93 rfl)) (Or.inr (oW hw 91 rfl)) (by decide) (t := (.object Y3)) (t' := (.object Y9)) (by decide) (by decide))))
  obtain ⟨T, h, X, e0, W15, st⟩ := putF X hx hZ hown (host := "") (Or.inl (oW hw 92 rfl)) Via.refl e0 F_ordered_xa E_xa (Or.inr ⟨(oW hw 93 rfl), rfl, hnm⟩) (oW hw 8 rfl) (ty := (.object Y3)) (by decide) rfl rfl (g := (mkF m 42 #[rv xa, rv xi, rv xs, rv nl9, rv nl11] [(.ref nl9), (.ref xa)])) rfl rfl (hb hby d6_42)
  refine oWk.st st ?_
  have K := K.wr W15 (Or.inl (List.mem_of_getElem? (i := 0) rfl))
  have B := B.wr W15 oSf
  have F_ordered_xa := F_ordered_xa.same W15
  refine oWk.st (fun _ kt => zA X hx hby d6_45 rfl rfl rfl (zB X hx hby d6_46 rfl rfl rfl kt)) ?_
  have E_xa := (E_xa.wr W15)
  have F_unordered_xa := (((((((F_unordered_xa.ext E3).ext E6).keep K9.1 nin0).keep K11.1 nin0).other W13 (Or.inr (slot_ne (Or.inr (oW hw 95 rfl)) (Or.inr (oW hw 89 rfl)) (by decide) (t := (.object Y3)) (t' := (.object Y7)) (by decide) (by decide)))).other W14 (Or.inr (slot_ne (Or.inr (oW hw 95 rfl)) (Or.inr (oW hw 91 rfl)) (by decide) (t := (.object Y3)) (t' := (.object Y9)) (by decide) (by decide)))).other W15 (Or.inr (slot_ne (Or.inr (oW hw 95 rfl)) (Or.inr (oW hw 93 rfl)) (by decide) (t := (.object Y3)) (t' := (.object Y3)) (by decide) (by decide))))
  obtain ⟨T, h, X, e0, W16, st⟩ := putF X hx hZ hown (host := "") (Or.inl (oW hw 94 rfl)) Via.refl e0 F_unordered_xa E_xa (Or.inr ⟨(oW hw 95 rfl), rfl, hnm⟩) (oW hw 8 rfl) (ty := (.object Y3)) (by decide) rfl rfl (g := (mkF m 48 #[rv xa, rv xi, rv xs, rv nl9, rv nl11] [(.ref nl11), (.ref xa)])) rfl rfl (hb hby d6_48)
  refine oWk.st st ?_
  have K := K.wr W16 (Or.inl (List.mem_of_getElem? (i := 0) rfl))
  have B := B.wr W16 oSf
  have F_unordered_xa := F_unordered_xa.same W16
  have E_xa := (E_xa.wr W16)
  have F_ordered_xa := (F_ordered_xa.other W16 (Or.inr (slot_ne (Or.inr (oW hw 93 rfl)) (Or.inr (oW hw 95 rfl)) (by decide) (t := (.object Y3)) (t' := (.object Y3)) (by decide) (by decide))))
  have E_nl9 := (((((E_nl9.keep K11.1).wr W13).wr W14).wr W15).wr W16)
  have F_e0_nl9 := (((((F_e0_nl9.keep K11.1 nin0).other W13 (Or.inl (Ne.symm ne_xa_nl9))).other W14 (Or.inl (Ne.symm ne_xa_nl9))).other W15 (Or.inl (Ne.symm ne_xa_nl9))).other W16 (Or.inl (Ne.symm ne_xa_nl9)))
  have F_e1_nl9 := (((((F_e1_nl9.keep K11.1 nin0).other W13 (Or.inl (Ne.symm ne_xa_nl9))).other W14 (Or.inl (Ne.symm ne_xa_nl9))).other W15 (Or.inl (Ne.symm ne_xa_nl9))).other W16 (Or.inl (Ne.symm ne_xa_nl9)))
  exact oRetHV X hx hlk hZ (oELw hw) e0 B hret (hb hby d6_51) (by rw [e0]; exact ⟨nl9, rfl, K, E_xa, F_ordered_xa, E_nl9, F_e0_nl9, F_e1_nl9⟩) (by decide) (by decide)
def Q_rA3_1 (Z : State) (xa xx xf : Addr) (xk : ClassId) (xm : Int32) (xe0 : Addr) (h0 : Heap) (v : Option Value) (h : Heap) (L : List Loc) : Prop := v = none ∧ oKp h0 h [xa, xf] L ∧ (Exa Z h xa Y1) ∧ (Fld Z h xa Y1 "elementData" Y2 (.ref xf)) ∧ (Fld Z h xa Y1 "size" "I" (.int (2 : Int32))) ∧ (Fld Z h xa Y11 "modCount" "I" (.int xm)) ∧ (Exa Z h xf Y2) ∧ (Arv Z h xf xk (.object Y0) (10 : Int32) [(.ref xe0), (.ref xx), .null, .null, .null, .null, .null, .null, .null, .null] .null)
theorem rA3_1 (l : Launch) (Z : State) (a0 : Array Value) (hw : oHW a0 Z) (ws : List Jvm.Cond) (xa xx xf : Addr) (xk : ClassId) (xm : Int32) (xe0 : Addr) (h0 : Heap) (O0 : Ext Z.heap h0) (og_xa : Z.heap.size ≤ xa) (og_xf : Z.heap.size ≤ xf) (ne_xa_xf : xa ≠ xf) (E_xa : Exa Z h0 xa Y1) (F_elementData_xa : Fld Z h0 xa Y1 "elementData" Y2 (.ref xf)) (F_size_xa : Fld Z h0 xa Y1 "size" "I" (.int (1 : Int32))) (F_modCount_xa : Fld Z h0 xa Y11 "modCount" "I" (.int xm)) (E_xf : Exa Z h0 xf Y2) (V_xf : Arv Z h0 xf xk (.object Y0) (10 : Int32) [(.ref xe0), .null, .null, .null, .null, .null, .null, .null, .null, .null] .null) (ov_xk : Ovr Z xk Y0) (I_xx : Ins Z h0 xx Y0 true) :
    oCon l Z yy15 jdk_38_method_24_code 4 none ws ({ frames := 0, cells := 0, slots := 0, locals := 0 } : Room) #[(.ref xa), (.ref xx), (.ref xf), (.int (1 : Int32))] h0 (Q_rA3_1 Z xa xx xf xk xm xe0 h0) := by
  refine oCon.of (plainFor_of_name pn_2) ?_
  intro p e s m below meth c T X hx hby hml hown hnm hret hlk hZ e0
  have hml : c.maxLocals = 4 := hml
  have K : oKp h0 h0 [xa, xf] [] := oKp.nil _ _
  refine oWk.cast (g' := (mkF m 0 #[rv xa, rv xx, rv xf, iv 1] [])) (by first | rfl | (simp [entryFrame, mkF, argsToLocals, Value.category]; done)) ?_
  refine oWk.st (fun _ kt => zI X hx hby d14_0 rfl rfl (zA X hx hby d14_1 rfl rfl rfl kt)) ?_
  obtain ⟨cl1, Ar1, q1, Sz1, Nn1, Hs1, Ft1⟩ := id V_xf
  refine oWk.st (fun _ kt => X.arraylength hx (by rw [e0]; exact Ar1.1) (State.isArrayOf_alike hZ.alike Ar1.2.1) (g := (mkF m 2 #[rv xa, rv xx, rv xf, iv 1] [(.ref xf), (.int 1)])) rfl rfl (hb hby d14_2) _ kt) ?_
  rw [len_of Sz1 Nn1]
  refine oWk.st (fun _ kt => zY X hx hby d14_3 rfl rfl (feq (by decide)).2 (pc' := 11) rfl (zA X hx hby d14_11 rfl rfl rfl (zI X hx hby d14_12 rfl rfl (zA X hx hby d14_13 rfl rfl rfl kt)))) ?_
  obtain ⟨cl2, Ar2, q2, Sz2, Nn2, Hs2, Ft2⟩ := id V_xf
  have hin2 : ¬ ((1 : Int32) < 0 ∨ cl2.slots.size ≤ ((1 : Int32)).toNatClampNeg) := inb_of Sz2 ⟨by decide, by decide⟩
  obtain ⟨T, h, X, e0, W2, st⟩ := stR X hx hZ e0 Ar2 (j := (1 : Int32)) hin2 rfl (Sto.ofV Ar2 q2 ov_xk I_xx) (g := (mkF m 14 #[rv xa, rv xx, rv xf, iv 1] [(.ref xx), (.int 1), (.ref xf)])) rfl rfl (hb hby d14_14)
  refine oWk.st st ?_
  have K := K.wr W2 (Or.inl (List.mem_of_getElem? (i := 1) rfl))
  have V_xf : Arv Z h xf xk (.object Y0) (10 : Int32) [(.ref xe0), (.ref xx), .null, .null, .null, .null, .null, .null, .null, .null] .null := Arv.set Ar2 q2 Sz2 Nn2 Hs2 Ft2 rfl W2 1 rfl (Nat.le_of_ble_eq_true rfl)
  refine oWk.st (fun _ kt => zA X hx hby d14_15 rfl rfl rfl (zI X hx hby d14_16 rfl rfl (zK X hx hby d14_17 rfl (XS.iadd X.here hx rfl (hb hby d14_18) rfl kt)))) ?_
  show oWk _ _ _ _ T (mkF m 19 #[rv xa, rv xx, rv xf, iv 1] [(.int ((1 : Int32) + (1 : Int32))), (.ref xa)])
  rw [show ((1 : Int32) + (1 : Int32)) = (2 : Int32) from by decide]
  show oWk _ _ _ _ T (mkF m 19 #[rv xa, rv xx, rv xf, iv 1] [(.int 2), (.ref xa)])
  have E_xa := (E_xa.wr W2)
  have F_size_xa := (F_size_xa.other W2 (Or.inl ne_xa_xf))
  obtain ⟨T, h, X, e0, W3, st⟩ := putF X hx hZ hown (host := "") (Or.inl (oW hw 82 rfl)) Via.refl e0 F_size_xa E_xa (Or.inl (oW hw 83 rfl)) (oW hw 19 rfl) (ty := .int) (by decide) rfl rfl (g := (mkF m 19 #[rv xa, rv xx, rv xf, iv 1] [(.int 2), (.ref xa)])) rfl rfl (hb hby d14_19)
  refine oWk.st st ?_
  have K := K.wr W3 (Or.inl (List.mem_of_getElem? (i := 0) rfl))
  have F_size_xa := F_size_xa.same W3
  have E_xa := (E_xa.wr W3)
  have F_elementData_xa := ((F_elementData_xa.other W2 (Or.inl ne_xa_xf)).other W3 (Or.inr (slot_ne (Or.inl (oW hw 43 rfl)) (Or.inl (oW hw 83 rfl)) (by decide) (t := (.array (.object Y0))) (t' := .int) (by decide) (by decide))))
  have F_modCount_xa := ((F_modCount_xa.other W2 (Or.inl ne_xa_xf)).other W3 (Or.inr (slot_ne (Or.inl (oW hw 40 rfl)) (Or.inl (oW hw 83 rfl)) (by decide) (t := .int) (t' := .int) (by decide) (by decide))))
  have E_xf := ((E_xf.wr W2).wr W3)
  have V_xf := (V_xf.other W3 (Ne.symm ne_xa_xf))
  exact oRetV X hx hlk hret (hb hby d14_22) (by rw [e0]; exact ⟨rfl, K, E_xa, F_elementData_xa, F_size_xa, F_modCount_xa, E_xf, V_xf⟩) (by decide) (by decide)
def Q_rAd_1 (Z : State) (xa xx xf : Addr) (xk : ClassId) (xm : Int32) (xe0 : Addr) (h0 : Heap) (v : Option Value) (h : Heap) (L : List Loc) : Prop := v = some (.int (1 : Int32)) ∧ oKp h0 h [xa, xf] L ∧ (Exa Z h xa Y1) ∧ (Fld Z h xa Y1 "elementData" Y2 (.ref xf)) ∧ (Fld Z h xa Y1 "size" "I" (.int (2 : Int32))) ∧ (Fld Z h xa Y11 "modCount" "I" (.int (xm + (1 : Int32)))) ∧ (Exa Z h xf Y2) ∧ (Arv Z h xf xk (.object Y0) (10 : Int32) [(.ref xe0), (.ref xx), .null, .null, .null, .null, .null, .null, .null, .null] .null)
theorem rAd_1 (l : Launch) (Z : State) (a0 : Array Value) (hw : oHW a0 Z) (ws : List Jvm.Cond) (xa xx xf : Addr) (xk : ClassId) (xm : Int32) (xe0 : Addr) (h0 : Heap) (O0 : Ext Z.heap h0) (og_xa : Z.heap.size ≤ xa) (og_xf : Z.heap.size ≤ xf) (ne_xa_xf : xa ≠ xf) (E_xa : Exa Z h0 xa Y1) (F_elementData_xa : Fld Z h0 xa Y1 "elementData" Y2 (.ref xf)) (F_size_xa : Fld Z h0 xa Y1 "size" "I" (.int (1 : Int32))) (F_modCount_xa : Fld Z h0 xa Y11 "modCount" "I" (.int xm)) (E_xf : Exa Z h0 xf Y2) (V_xf : Arv Z h0 xf xk (.object Y0) (10 : Int32) [(.ref xe0), .null, .null, .null, .null, .null, .null, .null, .null, .null] .null) (ov_xk : Ovr Z xk Y0) (I_xx : Ins Z h0 xx Y0 true) :
    oCon l Z yy16 jdk_38_method_25_code 2 (some .boolean) ws ({ frames := 1, cells := 0, slots := 0, locals := 15 } : Room) #[(.ref xa), (.ref xx)] h0 (Q_rAd_1 Z xa xx xf xk xm xe0 h0) := by
  refine oCon.of (plainFor_of_name pn_2) ?_
  intro p e s m below meth c T X hx hby hml hown hnm hret hlk hZ e0
  have hml : c.maxLocals = 2 := hml
  have K : oKp h0 h0 [xa, xf] [] := oKp.nil _ _
  refine oWk.cast (g' := (mkF m 0 #[rv xa, rv xx] [])) (by first | rfl | (simp [entryFrame, mkF, argsToLocals, Value.category]; done)) ?_
  refine oWk.st (fun _ kt => zA X hx hby d13_0 rfl rfl rfl (zD X hx hby d13_1 rfl rfl rfl kt)) ?_
  obtain ⟨T, X, e0, st⟩ := getF X hx hZ hown (host := "") (Or.inl (oW hw 106 rfl)) (Via.of (oW hw 107 rfl)) e0 F_modCount_xa (g := (mkF m 2 #[rv xa, rv xx] [(.ref xa), (.ref xa)])) rfl rfl (hb hby d13_2)
  refine oWk.st st ?_
  refine oWk.st (fun _ kt => zK X hx hby d13_5 rfl (XS.iadd X.here hx rfl (hb hby d13_6) rfl kt)) ?_
  obtain ⟨T, h, X, e0, W1, st⟩ := putF X hx hZ hown (host := "") (Or.inl (oW hw 106 rfl)) (Via.of (oW hw 107 rfl)) e0 F_modCount_xa E_xa (Or.inl (oW hw 40 rfl)) (oW hw 19 rfl) (ty := .int) (by decide) rfl rfl (g := (mkF m 7 #[rv xa, rv xx] [(.int (xm + (1 : Int32))), (.ref xa)])) rfl rfl (hb hby d13_7)
  refine oWk.st st ?_
  have K := K.wr W1 (Or.inl (List.mem_of_getElem? (i := 0) rfl))
  have F_modCount_xa := F_modCount_xa.same W1
  refine oWk.st (fun _ kt => zA X hx hby d13_10 rfl rfl rfl (zA X hx hby d13_11 rfl rfl rfl (zA X hx hby d13_12 rfl rfl rfl kt))) ?_
  have F_elementData_xa := (F_elementData_xa.other W1 (Or.inr (slot_ne (Or.inl (oW hw 43 rfl)) (Or.inl (oW hw 40 rfl)) (by decide) (t := (.array (.object Y0))) (t' := .int) (by decide) (by decide))))
  obtain ⟨T, X, e0, st⟩ := getF X hx hZ hown (host := "") (Or.inl (oW hw 42 rfl)) Via.refl e0 F_elementData_xa (g := (mkF m 13 #[rv xa, rv xx] [(.ref xa), (.ref xx), (.ref xa)])) rfl rfl (hb hby d13_13)
  refine oWk.st st ?_
  refine oWk.st (fun _ kt => zA X hx hby d13_16 rfl rfl rfl kt) ?_
  have F_size_xa := (F_size_xa.other W1 (Or.inr (slot_ne (Or.inl (oW hw 83 rfl)) (Or.inl (oW hw 40 rfl)) (by decide) (t := .int) (t' := .int) (by decide) (by decide))))
  obtain ⟨T, X, e0, st⟩ := getF X hx hZ hown (host := "") (Or.inl (oW hw 82 rfl)) Via.refl e0 F_size_xa (g := (mkF m 17 #[rv xa, rv xx] [(.ref xa), (.ref xf), (.ref xx), (.ref xa)])) rfl rfl (hb hby d13_17)
  refine oWk.st st ?_
  have E_xa := (E_xa.wr W1)
  have E_xf := (E_xf.wr W1)
  have V_xf := (V_xf.other W1 (Ne.symm ne_xa_xf))
  have I_xx := (I_xx.wr W1)
  have Oh := K.old O0 (allS og_xa (allS og_xf all0))
  obtain ⟨_, T, h, Lc3, X, e0, hQ, st⟩ := (cs11 hw).run X hx hZ hown e0 (A := [(.ref xa), (.ref xx), (.ref xf), (.int (1 : Int32))]) ⟨rfl, _, _, rfl, E_xa⟩ (rA3_1 l Z a0 hw [] xa xx xf xk (xm + (1 : Int32)) xe0 h Oh og_xa og_xf ne_xa_xf E_xa F_elementData_xa F_size_xa F_modCount_xa E_xf V_xf ov_xk I_xx) (W := 0) (by decide) hml (Ls := #[rv xa, rv xx]) rfl (rest := []) rfl rfl hby d13_20
  obtain ⟨rfl, K2, E_xa, F_elementData_xa, F_size_xa, F_modCount_xa, E_xf, V_xf⟩ := hQ
  have K := K.call K2 (allS (Or.inl (List.mem_of_getElem? (i := 0) rfl)) (allS (Or.inl (List.mem_of_getElem? (i := 1) rfl)) all0))
  refine oWk.st st ?_
  refine oWk.st (fun _ kt => zK X hx hby d13_23 rfl kt) ?_
  show oWk _ _ _ _ T (mkF m 24 #[rv xa, rv xx] [(.int 1)])
  exact oRetZ X hx hlk hret (hb hby d13_24) (Or.inr rfl) (by rw [e0]; exact ⟨rfl, K, E_xa, F_elementData_xa, F_size_xa, F_modCount_xa, E_xf, V_xf⟩) (by decide) (by decide)
def Q_rEmp2 (Z : State) (xa : Addr) (h0 : Heap) (v : Option Value) (h : Heap) (L : List Loc) : Prop := v = some (.int (0 : Int32)) ∧ h = h0 ∧ oKp h0 h [] L
theorem rEmp2 (l : Launch) (Z : State) (a0 : Array Value) (hw : oHW a0 Z) (ws : List Jvm.Cond) (xa : Addr) (h0 : Heap) (O0 : Ext Z.heap h0) (F_size_xa : Fld Z h0 xa Y1 "size" "I" (.int (2 : Int32))) :
    oCon l Z yy2 jdk_38_method_9_code 1 (some .boolean) ws ({ frames := 0, cells := 0, slots := 0, locals := 0 } : Room) #[(.ref xa)] h0 (Q_rEmp2 Z xa h0) := by
  refine oCon.of (plainFor_of_name pn_2) ?_
  intro p e s m below meth c T X hx hby hml hown hnm hret hlk hZ e0
  have hml : c.maxLocals = 1 := hml
  have K : oKp h0 h0 [] [] := oKp.nil _ _
  refine oWk.cast (g' := (mkF m 0 #[rv xa] [])) (by first | rfl | (simp [entryFrame, mkF, argsToLocals, Value.category]; done)) ?_
  refine oWk.st (fun _ kt => zA X hx hby d11_0 rfl rfl rfl kt) ?_
  obtain ⟨T, X, e0, st⟩ := getF X hx hZ hown (host := "") (Or.inl (oW hw 82 rfl)) Via.refl e0 F_size_xa (g := (mkF m 1 #[rv xa] [(.ref xa)])) rfl rfl (hb hby d11_1)
  refine oWk.st st ?_
  refine oWk.st (fun _ kt => zF X hx hby d11_4 rfl rfl ((if0 _ _).trans (feq (by decide)).2) (pc' := 11) rfl (zK X hx hby d11_11 rfl kt)) ?_
  show oWk _ _ _ _ T (mkF m 12 #[rv xa] [(.int 0)])
  exact oRetZ X hx hlk hret (hb hby d11_12) (Or.inl rfl) (by rw [e0]; exact ⟨rfl, rfl, K⟩) (by decide) (by decide)
def Q_rMin2 (Z : State)  (h0 : Heap) (v : Option Value) (h : Heap) (L : List Loc) : Prop := v = some (.int (2 : Int32)) ∧ h = h0 ∧ oKp h0 h [] L
theorem rMin2 (l : Launch) (Z : State) (a0 : Array Value) (hw : oHW a0 Z) (ws : List Jvm.Cond)  (h0 : Heap) (O0 : Ext Z.heap h0)  :
    oCon l Z yy17 jdk_29_method_69_code 2 (some .int) ws ({ frames := 0, cells := 0, slots := 0, locals := 0 } : Room) #[(.int (10 : Int32)), (.int (2 : Int32))] h0 (Q_rMin2 Z  h0) := by
  refine oCon.of (Jvm.Free.JP.mathPlain rfl (by decide +kernel)) ?_
  intro p e s m below meth c T X hx hby hml hown hnm hret hlk hZ e0
  have hml : c.maxLocals = 2 := hml
  have K : oKp h0 h0 [] [] := oKp.nil _ _
  refine oWk.cast (g' := (mkF m 0 #[iv 10, iv 2] [])) (by first | rfl | (simp [entryFrame, mkF, argsToLocals, Value.category]; done)) ?_
  refine oWk.st (fun _ kt => zI X hx hby d21_0 rfl rfl (zI X hx hby d21_1 rfl rfl (zY X hx hby d21_2 rfl rfl (tlt (by decide)).2.2.1 (pc' := 9) rfl (zI X hx hby d21_9 rfl rfl kt)))) ?_
  show oWk _ _ _ _ T (mkF m 10 #[iv 10, iv 2] [(.int 2)])
  exact oRetI X hx hlk hret (hb hby d21_10) (by rw [e0]; exact ⟨rfl, rfl, K⟩) (by decide) (by decide)
def Q_rCp3_2 (Z : State) (xf xmr : Addr) (xk : ClassId) (xe0 xe1 : Addr) (h0 : Heap) (v : Option Value) (h : Heap) (L : List Loc) : Prop := ∃ (nb : Addr) (nj : ClassId), v = some (.ref nb) ∧ oKp h0 h [] L ∧ (h0.size ≤ nb) ∧ (Exa Z h nb Y2) ∧ (Arv Z h nb nj (.object Y0) (2 : Int32) [(.ref xe0), (.ref xe1)] .null) ∧ (Ovr Z nj Y0)
theorem rCp3_2 (l : Launch) (Z : State) (a0 : Array Value) (hw : oHW a0 Z) (ws : List Jvm.Cond) (xf xmr : Addr) (xk : ClassId) (xe0 xe1 : Addr) (h0 : Heap) (O0 : Ext Z.heap h0) (mm_ : oMir Z Y2 xmr) (E_xf : Exa Z h0 xf Y2) (V_xf : Arv Z h0 xf xk (.object Y0) (10 : Int32) [(.ref xe0), (.ref xe1), .null, .null, .null, .null, .null, .null, .null, .null] .null) (I_xe0 : Ins Z h0 xe0 Y0 true) (I_xe1 : Ins Z h0 xe1 Y0 true) :
    oCon l Z yy18 jdk_65_method_120_code 4 (some (.array (.object Y0))) ws ({ frames := 1, cells := 1, slots := 2, locals := 18 } : Room) #[(.ref xf), (.int (2 : Int32)), (.ref xmr)] h0 (Q_rCp3_2 Z xf xmr xk xe0 xe1 h0) := by
  refine oCon.of (plainFor_of_name pn_9) ?_
  intro p e s m below meth c T X hx hby hml hown hnm hret hlk hZ e0
  have hml : c.maxLocals = 4 := hml
  have K : oKp h0 h0 [] [] := oKp.nil _ _
  refine oWk.cast (g' := (mkF m 0 #[rv xf, iv 2, rv xmr, uu] [])) (by first | rfl | (simp [entryFrame, mkF, argsToLocals, Value.category]; done)) ?_
  refine oWk.st (fun _ kt => zA X hx hby d20_0 rfl rfl rfl kt) ?_
  obtain ⟨T, X, e0, st⟩ := oLdcM X hx hZ hown (oW hw 151 rfl) e0 mm_ (g := (mkF m 1 #[rv xf, iv 2, rv xmr, uu] [(.ref xmr)])) rfl (hb hby d20_1)
  refine oWk.st st ?_
  refine oWk.st (fun _ kt => Jvm.RoadKit.acmp (g := (mkF m 3 #[rv xf, iv 2, rv xmr, uu] [(.ref xmr), (.ref xmr)])) X hx rfl rfl rfl (pc0 := 3) (pc' := 6) (same := true) rfl (hb hby d20_3) rfl (decide_eq_true rfl) (by decide) (by decide) kt) ?_
  show oWk _ _ _ _ T (mkF m 6 #[rv xf, iv 2, rv xmr, uu] [])
  refine oWk.st (fun _ kt => zI X hx hby d20_6 rfl rfl kt) ?_
  obtain ⟨o1, g1⟩ : ∃ z, z = h0.size := ⟨_, rfl⟩
  have ne_xf_o1 : xf ≠ o1 := Nat.ne_of_lt (Nat.lt_of_lt_of_le E_xf.lt (Nat.le_of_eq g1.symm))
  have ge_o1 : h0.size ≤ o1 := Nat.le_trans K.le (Nat.le_of_eq g1.symm)
  obtain ⟨T, h, k1, X, e0, E1, A1, E_o1, O1, st⟩ := newRE X hx hZ hown (oW hw 152 rfl) (oW hw 128 rfl) e0 (g := (mkF m 7 #[rv xf, iv 2, rv xmr, uu] [(.int 2)])) rfl (hb hby d20_7) rfl (by decide) (cap := 2) (by decide) (by decide) (by decide) (by decide) (ad := Y2) (by decide)
  rw [← g1] at A1 E_o1 st
  refine oWk.st st ?_
  have K := K.ext E1
  have V_o1 : Arv Z h o1 k1 (.object Y0) (2 : Int32) [.null, .null] .null := (Arv.new A1 (by decide)).pad (pad_rep [] .null 2)
  refine oWk.st (fun _ kt => zG X hx hby d20_10 rfl (pc' := 24) rfl (zTn X hx hby d20_24 rfl rfl rfl (l' := #[rv xf, iv 2, rv xmr, rv o1]) rfl (zA X hx hby d20_25 rfl rfl rfl (zK X hx hby d20_26 rfl (zA X hx hby d20_27 rfl rfl rfl (zK X hx hby d20_28 rfl (zA X hx hby d20_29 rfl rfl rfl kt))))))) ?_
  have V_xf := (V_xf.ext E1)
  obtain ⟨cl2, Ar2, q2, Sz2, Nn2, Hs2, Ft2⟩ := id V_xf
  refine oWk.st (fun _ kt => X.arraylength hx (by rw [e0]; exact Ar2.1) (State.isArrayOf_alike hZ.alike Ar2.2.1) (g := (mkF m 30 #[rv xf, iv 2, rv xmr, rv o1] [(.ref xf), (.int 0), (.ref o1), (.int 0), (.ref xf)])) rfl rfl (hb hby d20_30) _ kt) ?_
  rw [len_of Sz2 Nn2]
  refine oWk.st (fun _ kt => zI X hx hby d20_31 rfl rfl kt) ?_
  have Oh := K.old O0 all0
  obtain ⟨T, L4, X, e0, K, st⟩ := (cs13 hw).pure X hx hZ hown e0 K (A := [(.int (10 : Int32)), (.int (2 : Int32))]) rfl (rMin2 l Z a0 hw []  h Oh ) (fun _ _ _ q => q) (W := 4) (by decide) hml (Ls := #[rv xf, iv 2, rv xmr, rv o1]) rfl (rest := [(.int (0 : Int32)), (.ref o1), (.int (0 : Int32)), (.ref xf)]) rfl rfl hby d20_32
  refine oWk.st st ?_
  obtain ⟨cl5, Ar5, q5, -⟩ := id V_o1
  have I_xe1 := (I_xe1.ext E1)
  have I_xe0 := (I_xe0.ext E1)
  obtain ⟨T, h, L5, X, e0, N5, C5, V5, st⟩ := cpA X hx hZ hown (oW hw 156 rfl) (oW hw 159 rfl) (oW hw 157 rfl) (oW hw 158 rfl) e0 (us := [(.ref xe0), (.ref xe1)]) V_xf V_o1 (Or.inr ⟨rfl, rfl, ⟨Sto.ofV Ar5 q5 O1 I_xe0, ⟨Sto.ofV Ar5 q5 O1 I_xe1, trivial⟩⟩⟩) (by decide) (by decide) (by decide) (by decide) (by decide) rfl (by decide) K.fr ge_o1 (g := (mkF m 35 #[rv xf, iv 2, rv xmr, rv o1] [(.int 2), (.int 0), (.ref o1), (.int 0), (.ref xf)])) rfl (by rw [hml]; rfl) rfl (hb hby d20_35) (by decide) (W := 0) (Nat.le_of_eq rfl) (by decide)
  refine oWk.st st ?_
  have K : oKp h0 h [] L5 := ⟨K.1.trans C5 (allS (Or.inr ge_o1) all0), fun y hy => Or.inr (N5 y hy)⟩
  have V_o1 : Arv Z h o1 k1 (.object Y0) (2 : Int32) [(.ref xe0), (.ref xe1)] .null := V5
  refine oWk.st (fun _ kt => zA X hx hby d20_38 rfl rfl rfl kt) ?_
  show oWk _ _ _ _ T (mkF m 39 #[rv xf, iv 2, rv xmr, rv o1] [(.ref o1)])
  have E_o1 := (E_o1.keep C5)
  exact oRetA X hx hlk hret rfl rfl (hb hby d20_39) (by rw [e0]; exact ⟨o1, k1, rfl, K, ge_o1, E_o1, V_o1, O1⟩) (by decide) (by decide)
def Q_rCp2_2 (Z : State) (xf xmr : Addr) (xk : ClassId) (xe0 xe1 : Addr) (h0 : Heap) (v : Option Value) (h : Heap) (L : List Loc) : Prop := ∃ (nb : Addr) (nj : ClassId), v = some (.ref nb) ∧ oKp h0 h [] L ∧ (h0.size ≤ nb) ∧ (Exa Z h nb Y2) ∧ (Arv Z h nb nj (.object Y0) (2 : Int32) [(.ref xe0), (.ref xe1)] .null) ∧ (Ovr Z nj Y0)
theorem rCp2_2 (l : Launch) (Z : State) (a0 : Array Value) (hw : oHW a0 Z) (ws : List Jvm.Cond) (xf xmr : Addr) (xk : ClassId) (xe0 xe1 : Addr) (h0 : Heap) (O0 : Ext Z.heap h0) (mm_ : oMir Z Y2 xmr) (E_xf : Exa Z h0 xf Y2) (V_xf : Arv Z h0 xf xk (.object Y0) (10 : Int32) [(.ref xe0), (.ref xe1), .null, .null, .null, .null, .null, .null, .null, .null] .null) (I_xe0 : Ins Z h0 xe0 Y0 true) (I_xe1 : Ins Z h0 xe1 Y0 true) :
    oCon l Z yy19 jdk_65_method_119_code 2 (some (.array (.object Y0))) ws ({ frames := 2, cells := 1, slots := 2, locals := 33 } : Room) #[(.ref xf), (.int (2 : Int32))] h0 (Q_rCp2_2 Z xf xmr xk xe0 xe1 h0) := by
  refine oCon.of (plainFor_of_name pn_9) ?_
  intro p e s m below meth c T X hx hby hml hown hnm hret hlk hZ e0
  have hml : c.maxLocals = 2 := hml
  have K : oKp h0 h0 [] [] := oKp.nil _ _
  refine oWk.cast (g' := (mkF m 0 #[rv xf, iv 2] [])) (by first | rfl | (simp [entryFrame, mkF, argsToLocals, Value.category]; done)) ?_
  refine oWk.st (fun _ kt => zA X hx hby d19_0 rfl rfl rfl (zI X hx hby d19_1 rfl rfl (zA X hx hby d19_2 rfl rfl rfl kt))) ?_
  obtain ⟨T, X, e0, st⟩ := oGcls X hx hZ hown (oW hw 142 rfl) (oW hw 143 rfl) (oW hw 145 rfl) (oW hw 144 rfl) (oW hw 146 rfl) e0 E_xf mm_ (g := (mkF m 3 #[rv xf, iv 2] [(.ref xf), (.int 2), (.ref xf)])) rfl (by rw [hml]; rfl) rfl (hb hby d19_3) (by decide) (W := 2) (Nat.le_of_eq rfl) (by decide)
  refine oWk.st st ?_
  have lt_xf := E_xf.lt
  have Oh := K.old O0 all0
  obtain ⟨_, T, h, Lc2, X, e0, hQ, st⟩ := (cs14 hw).run X hx hZ hown e0 (A := [(.ref xf), (.int (2 : Int32)), (.ref xmr)]) rfl (rCp3_2 l Z a0 hw [] xf xmr xk xe0 xe1 h0 Oh mm_ E_xf V_xf I_xe0 I_xe1) (W := 0) (by decide) hml (Ls := #[rv xf, iv 2]) rfl (rest := []) rfl rfl hby d19_6
  obtain ⟨nb1, nj1, rfl, K1, gn_nb1, E_nb1, V_nb1, ov_nj1⟩ := hQ
  have ge_nb1 := Nat.le_trans K.le gn_nb1
  have ne_xf_nb1 : xf ≠ nb1 := Nat.ne_of_lt (Nat.lt_of_lt_of_le lt_xf gn_nb1)
  have K := K.call K1 all0
  refine oWk.st st ?_
  exact oRetA X hx hlk hret rfl rfl (hb hby d19_9) (by rw [e0]; exact ⟨nb1, nj1, rfl, K, ge_nb1, E_nb1, V_nb1, ov_nj1⟩) (by decide) (by decide)
def Q_rTA_2 (Z : State) (xa xf xmr : Addr) (xk : ClassId) (xe0 xe1 : Addr) (h0 : Heap) (v : Option Value) (h : Heap) (L : List Loc) : Prop := ∃ (nb : Addr) (nj : ClassId), v = some (.ref nb) ∧ oKp h0 h [] L ∧ (h0.size ≤ nb) ∧ (Exa Z h nb Y2) ∧ (Arv Z h nb nj (.object Y0) (2 : Int32) [(.ref xe0), (.ref xe1)] .null) ∧ (Ovr Z nj Y0)
theorem rTA_2 (l : Launch) (Z : State) (a0 : Array Value) (hw : oHW a0 Z) (ws : List Jvm.Cond) (xa xf xmr : Addr) (xk : ClassId) (xe0 xe1 : Addr) (h0 : Heap) (O0 : Ext Z.heap h0) (mm_ : oMir Z Y2 xmr) (F_elementData_xa : Fld Z h0 xa Y1 "elementData" Y2 (.ref xf)) (F_size_xa : Fld Z h0 xa Y1 "size" "I" (.int (2 : Int32))) (E_xf : Exa Z h0 xf Y2) (V_xf : Arv Z h0 xf xk (.object Y0) (10 : Int32) [(.ref xe0), (.ref xe1), .null, .null, .null, .null, .null, .null, .null, .null] .null) (I_xe0 : Ins Z h0 xe0 Y0 true) (I_xe1 : Ins Z h0 xe1 Y0 true) :
    oCon l Z yy20 jdk_38_method_16_code 1 (some (.array (.object Y0))) ws ({ frames := 3, cells := 1, slots := 2, locals := 46 } : Room) #[(.ref xa)] h0 (Q_rTA_2 Z xa xf xmr xk xe0 xe1 h0) := by
  refine oCon.of (plainFor_of_name pn_2) ?_
  intro p e s m below meth c T X hx hby hml hown hnm hret hlk hZ e0
  have hml : c.maxLocals = 1 := hml
  have K : oKp h0 h0 [] [] := oKp.nil _ _
  refine oWk.cast (g' := (mkF m 0 #[rv xa] [])) (by first | rfl | (simp [entryFrame, mkF, argsToLocals, Value.category]; done)) ?_
  refine oWk.st (fun _ kt => zA X hx hby d18_0 rfl rfl rfl kt) ?_
  obtain ⟨T, X, e0, st⟩ := getF X hx hZ hown (host := "") (Or.inl (oW hw 42 rfl)) Via.refl e0 F_elementData_xa (g := (mkF m 1 #[rv xa] [(.ref xa)])) rfl rfl (hb hby d18_1)
  refine oWk.st st ?_
  refine oWk.st (fun _ kt => zA X hx hby d18_4 rfl rfl rfl kt) ?_
  obtain ⟨T, X, e0, st⟩ := getF X hx hZ hown (host := "") (Or.inl (oW hw 82 rfl)) Via.refl e0 F_size_xa (g := (mkF m 5 #[rv xa] [(.ref xa), (.ref xf)])) rfl rfl (hb hby d18_5)
  refine oWk.st st ?_
  have lt_xa := F_elementData_xa.lt
  have lt_xf := E_xf.lt
  have Oh := K.old O0 all0
  obtain ⟨_, T, h, Lc2, X, e0, hQ, st⟩ := (cs15 hw).run X hx hZ hown e0 (A := [(.ref xf), (.int (2 : Int32))]) rfl (rCp2_2 l Z a0 hw [] xf xmr xk xe0 xe1 h0 Oh mm_ E_xf V_xf I_xe0 I_xe1) (W := 0) (by decide) hml (Ls := #[rv xa]) rfl (rest := []) rfl rfl hby d18_8
  obtain ⟨nb1, nj1, rfl, K1, gn_nb1, E_nb1, V_nb1, ov_nj1⟩ := hQ
  have ge_nb1 := Nat.le_trans K.le gn_nb1
  have ne_xa_nb1 : xa ≠ nb1 := Nat.ne_of_lt (Nat.lt_of_lt_of_le lt_xa gn_nb1)
  have ne_xf_nb1 : xf ≠ nb1 := Nat.ne_of_lt (Nat.lt_of_lt_of_le lt_xf gn_nb1)
  have K := K.call K1 all0
  refine oWk.st st ?_
  exact oRetA X hx hlk hret rfl rfl (hb hby d18_11) (by rw [e0]; exact ⟨nb1, nj1, rfl, K, ge_nb1, E_nb1, V_nb1, ov_nj1⟩) (by decide) (by decide)
def Q_rL122 (Z : State) (xa xx xy : Addr) (xu xv : Value) (h0 : Heap) (v : Option Value) (h : Heap) (L : List Loc) : Prop := v = none ∧ oKp h0 h [xa] L ∧ (Exa Z h xa Y8) ∧ (Fld Z h xa Y8 "e0" Y10 (.ref xx)) ∧ (Fld Z h xa Y8 "e1" Y10 (.ref xy))
abbrev yy30 : MethodName := ⟨"java/util/ImmutableCollections$List12", "<init>", "(Ljava/lang/Object;Ljava/lang/Object;)V"⟩
theorem d27_0 : decode jdk_44_method_2_code 0 = .ok (.aload_n 0, 1) := by decide +kernel
theorem d27_1 : decode jdk_44_method_2_code 1 = .ok (.invokespecial 1, 3) := by decide +kernel
theorem d27_4 : decode jdk_44_method_2_code 4 = .ok (.aload_n 0, 1) := by decide +kernel
theorem d27_5 : decode jdk_44_method_2_code 5 = .ok (.aload_n 1, 1) := by decide +kernel
theorem d27_6 : decode jdk_44_method_2_code 6 = .ok (.invokestatic 7, 3) := by decide +kernel
theorem d27_9 : decode jdk_44_method_2_code 9 = .ok (.putfield 13, 3) := by decide +kernel
theorem d27_12 : decode jdk_44_method_2_code 12 = .ok (.aload_n 0, 1) := by decide +kernel
theorem d27_13 : decode jdk_44_method_2_code 13 = .ok (.aload_n 2, 1) := by decide +kernel
theorem d27_14 : decode jdk_44_method_2_code 14 = .ok (.invokestatic 7, 3) := by decide +kernel
theorem d27_17 : decode jdk_44_method_2_code 17 = .ok (.putfield 24, 3) := by decide +kernel
theorem d27_20 : decode jdk_44_method_2_code 20 = .ok (.return_, 1) := by decide +kernel
theorem rL122 (l : Launch) (Z : State) (a0 : Array Value) (hw : oHW a0 Z) (ws : List Jvm.Cond) (xa xx xy : Addr) (xu xv : Value) (h0 : Heap) (O0 : Ext Z.heap h0) (og_xa : Z.heap.size ≤ xa) (E_xa : Exa Z h0 xa Y8) (F_e0_xa : Fld Z h0 xa Y8 "e0" Y10 xu) (F_e1_xa : Fld Z h0 xa Y8 "e1" Y10 xv) :
    oCon l Z yy30 jdk_44_method_2_code 3 none ws ({ frames := 4, cells := 0, slots := 0, locals := 48 } : Room) #[(.ref xa), (.ref xx), (.ref xy)] h0 (Q_rL122 Z xa xx xy xu xv h0) := by
  refine oCon.of (plainFor_of_name pn_12) ?_
  intro p e s m below meth c T X hx hby hml hown hnm hret hlk hZ e0
  have hml : c.maxLocals = 3 := hml
  have K : oKp h0 h0 [xa] [] := oKp.nil _ _
  refine oWk.cast (g' := (mkF m 0 #[rv xa, rv xx, rv xy] [])) (by first | rfl | (simp [entryFrame, mkF, argsToLocals, Value.category]; done)) ?_
  refine oWk.st (fun _ kt => zA X hx hby d27_0 rfl rfl rfl kt) ?_
  have Oh := K.old O0 (allS og_xa all0)
  obtain ⟨T, L2, X, e0, K, st⟩ := (cs18 hw).pure X hx hZ hown e0 K (A := [(.ref xa)]) ⟨rfl, _, _, rfl⟩ (rAIL l Z a0 hw [] xa h0 Oh ) (fun _ _ _ q => q) (W := 0) (by decide) hml (Ls := #[rv xa, rv xx, rv xy]) rfl (rest := []) rfl rfl hby d27_1
  refine oWk.st st ?_
  refine oWk.st (fun _ kt => zA X hx hby d27_4 rfl rfl rfl (zA X hx hby d27_5 rfl rfl rfl kt)) ?_
  obtain ⟨T, L4, X, e0, K, st⟩ := (cs19 hw).pure X hx hZ hown e0 K (A := [(.ref xx)]) rfl (rRNN l Z a0 hw [] xx h0 Oh ) (fun _ _ _ q => q) (W := 1) (by decide) hml (Ls := #[rv xa, rv xx, rv xy]) rfl (rest := [(.ref xa)]) rfl rfl hby d27_6
  refine oWk.st st ?_
  obtain ⟨T, h, X, e0, W5, st⟩ := putF X hx hZ hown (host := "") (Or.inl (oW hw 187 rfl)) Via.refl e0 F_e0_xa E_xa (Or.inr ⟨(oW hw 188 rfl), rfl, hnm⟩) (oW hw 164 rfl) (ty := (.object Y0)) (by decide) rfl rfl (g := (mkF m 9 #[rv xa, rv xx, rv xy] [(.ref xx), (.ref xa)])) rfl rfl (hb hby d27_9)
  refine oWk.st st ?_
  have K := K.wr W5 (Or.inl (List.mem_of_getElem? (i := 0) rfl))
  have F_e0_xa := F_e0_xa.same W5
  refine oWk.st (fun _ kt => zA X hx hby d27_12 rfl rfl rfl (zA X hx hby d27_13 rfl rfl rfl kt)) ?_
  have Oh := K.old O0 (allS og_xa all0)
  obtain ⟨T, L7, X, e0, K, st⟩ := (cs19 hw).pure X hx hZ hown e0 K (A := [(.ref xy)]) rfl (rRNN l Z a0 hw [] xy h Oh ) (fun _ _ _ q => q) (W := 1) (by decide) hml (Ls := #[rv xa, rv xx, rv xy]) rfl (rest := [(.ref xa)]) rfl rfl hby d27_14
  refine oWk.st st ?_
  have E_xa := (E_xa.wr W5)
  have F_e1_xa := (F_e1_xa.other W5 (Or.inr (slot_ne (Or.inr (oW hw 191 rfl)) (Or.inr (oW hw 188 rfl)) (by decide) (t := (.object Y0)) (t' := (.object Y0)) (by decide) (by decide))))
  obtain ⟨T, h, X, e0, W8, st⟩ := putF X hx hZ hown (host := "") (Or.inl (oW hw 190 rfl)) Via.refl e0 F_e1_xa E_xa (Or.inr ⟨(oW hw 191 rfl), rfl, hnm⟩) (oW hw 164 rfl) (ty := (.object Y0)) (by decide) rfl rfl (g := (mkF m 17 #[rv xa, rv xx, rv xy] [(.ref xy), (.ref xa)])) rfl rfl (hb hby d27_17)
  refine oWk.st st ?_
  have K := K.wr W8 (Or.inl (List.mem_of_getElem? (i := 0) rfl))
  have F_e1_xa := F_e1_xa.same W8
  have E_xa := (E_xa.wr W8)
  have F_e0_xa := (F_e0_xa.other W8 (Or.inr (slot_ne (Or.inr (oW hw 188 rfl)) (Or.inr (oW hw 191 rfl)) (by decide) (t := (.object Y0)) (t' := (.object Y0)) (by decide) (by decide))))
  exact oRetV X hx hlk hret (hb hby d27_20) (by rw [e0]; exact ⟨rfl, K, E_xa, F_e0_xa, F_e1_xa⟩) (by decide) (by decide)
def Q_rOf_2 (Z : State) (xf : Addr) (xk : ClassId) (xe0 xe1 : Addr) (h0 : Heap) (v : Option Value) (h : Heap) (L : List Loc) : Prop := ∃ (nl : Addr), v = some (.ref nl) ∧ oKp h0 h [] L ∧ (h0.size ≤ nl) ∧ (Exa Z h nl Y8) ∧ (Fld Z h nl Y8 "e0" Y10 (.ref xe0)) ∧ (Fld Z h nl Y8 "e1" Y10 (.ref xe1))
theorem d22_45 : decode jdk_40_method_47_code 45 = .ok (.new 96, 3) := by decide +kernel
theorem d22_48 : decode jdk_40_method_47_code 48 = .ok (.dup, 1) := by decide +kernel
theorem d22_49 : decode jdk_40_method_47_code 49 = .ok (.aload_n 0, 1) := by decide +kernel
theorem d22_50 : decode jdk_40_method_47_code 50 = .ok (.iconst 0, 1) := by decide +kernel
theorem d22_51 : decode jdk_40_method_47_code 51 = .ok (.aaload, 1) := by decide +kernel
theorem d22_52 : decode jdk_40_method_47_code 52 = .ok (.aload_n 0, 1) := by decide +kernel
theorem d22_53 : decode jdk_40_method_47_code 53 = .ok (.iconst 1, 1) := by decide +kernel
theorem d22_54 : decode jdk_40_method_47_code 54 = .ok (.aaload, 1) := by decide +kernel
theorem d22_55 : decode jdk_40_method_47_code 55 = .ok (.invokespecial 100, 3) := by decide +kernel
theorem pd_19 : parseMethodDescriptor "(Ljava/lang/Object;Ljava/lang/Object;)V" = some ⟨[(.object "java/lang/Object"), (.object "java/lang/Object")], none⟩ := by decide +kernel
theorem cs23 {a0 : Array Value} {Z : State} (hw : oHW a0 Z) : oCall Z Y3 (.invokespecial 100) yy30 jdk_44_method_2_code 3 none (oRi 2) := oCall.init rfl (oW hw 192 rfl) (oW hw 193 rfl) (oW hw 165 rfl) (oW hw 194 rfl) (by decide) pd_19
theorem d22_58 : decode jdk_40_method_47_code 58 = .ok (.areturn, 1) := by decide +kernel
theorem rOf_2 (l : Launch) (Z : State) (a0 : Array Value) (hw : oHW a0 Z) (ws : List Jvm.Cond) (xf : Addr) (xk : ClassId) (xe0 xe1 : Addr) (h0 : Heap) (O0 : Ext Z.heap h0) (V_xf : Arv Z h0 xf xk (.object Y0) (2 : Int32) [(.ref xe0), (.ref xe1)] .null) (I_xe0 : Ins Z h0 xe0 Y0 true) (I_xe1 : Ins Z h0 xe1 Y0 true) :
    oCon l Z yy25 jdk_40_method_47_code 2 (some (.object Y3)) ws ({ frames := 5, cells := 1, slots := 2, locals := 63 } : Room) #[(.ref xf)] h0 (Q_rOf_2 Z xf xk xe0 xe1 h0) := by
  refine oCon.of (plainFor_of_name pn_3) ?_
  intro p e s m below meth c T X hx hby hml hown hnm hret hlk hZ e0
  have hml : c.maxLocals = 2 := hml
  have K : oKp h0 h0 [] [] := oKp.nil _ _
  refine oWk.cast (g' := (mkF m 0 #[rv xf, uu] [])) (by first | rfl | (simp [entryFrame, mkF, argsToLocals, Value.category]; done)) ?_
  refine oWk.st (fun _ kt => zA X hx hby d22_0 rfl rfl rfl kt) ?_
  obtain ⟨cl1, Ar1, q1, Sz1, Nn1, Hs1, Ft1⟩ := id V_xf
  refine oWk.st (fun _ kt => X.arraylength hx (by rw [e0]; exact Ar1.1) (State.isArrayOf_alike hZ.alike Ar1.2.1) (g := (mkF m 1 #[rv xf, uu] [(.ref xf)])) rfl rfl (hb hby d22_1) _ kt) ?_
  rw [len_of Sz1 Nn1]
  refine oWk.st (fun _ kt => XS.tswIn X.here hx rfl (pc0 := 2) (pc' := 45) rfl (hb hby d22_2) rfl (by decide) rfl (by decide) (by decide) kt) ?_
  obtain ⟨o2, g2⟩ : ∃ z, z = h0.size := ⟨_, rfl⟩
  have ne_xf_o2 : xf ≠ o2 := Nat.ne_of_lt (Nat.lt_of_lt_of_le V_xf.lt (Nat.le_of_eq g2.symm))
  have ge_o2 : h0.size ≤ o2 := Nat.le_trans K.le (Nat.le_of_eq g2.symm)
  obtain ⟨T, h, X, e0, E2, A2, D2, -, st⟩ := newO X hx hZ hown (oW hw 163 rfl) (oW hw 164 rfl) (oW hw 165 rfl) e0 (g := (mkF m 45 #[rv xf, uu] [])) rfl (hb hby d22_45) (by decide) (by decide)
  rw [← g2] at A2 D2 st
  refine oWk.st st ?_
  have K := K.ext E2
  have E_o2 := A2
  have F_e0_o2 : Fld Z h o2 Y8 "e0" Y10 .null := D2 (Or.inr (oW hw 188 rfl)) (ty := (.object Y0)) (by decide)
  have F_e1_o2 : Fld Z h o2 Y8 "e1" Y10 .null := D2 (Or.inr (oW hw 191 rfl)) (ty := (.object Y0)) (by decide)
  refine oWk.st (fun _ kt => zD X hx hby d22_48 rfl rfl rfl (zA X hx hby d22_49 rfl rfl rfl (zK X hx hby d22_50 rfl kt))) ?_
  have V_xf := (V_xf.ext E2)
  obtain ⟨cl3, Ar3, q3, Sz3, Nn3, Hs3, Ft3⟩ := id V_xf
  have hin3 : ¬ ((0 : Int32) < 0 ∨ cl3.slots.size ≤ ((0 : Int32)).toNatClampNeg) := inb_of Sz3 ⟨by decide, by decide⟩
  have hat3 : cl3.slots[((0 : Int32)).toNatClampNeg]? = some (.ref xe0) := Hs3.at hin3 rfl
  refine oWk.st (fun _ kt => X.aaload hx (j := (0 : Int32)) (v := (.ref xe0)) (by rw [e0]; exact Ar3.1) (State.isArrayOf_alike hZ.alike Ar3.2.1) rfl Ar3.2.2 hin3 hat3 (g := (mkF m 51 #[rv xf, uu] [(.int 0), (.ref xf), (.ref o2), (.ref o2)])) rfl rfl (hb hby d22_51) _ kt) ?_
  refine oWk.st (fun _ kt => zA X hx hby d22_52 rfl rfl rfl (zK X hx hby d22_53 rfl kt)) ?_
  obtain ⟨cl4, Ar4, q4, Sz4, Nn4, Hs4, Ft4⟩ := id V_xf
  have hin4 : ¬ ((1 : Int32) < 0 ∨ cl4.slots.size ≤ ((1 : Int32)).toNatClampNeg) := inb_of Sz4 ⟨by decide, by decide⟩
  have hat4 : cl4.slots[((1 : Int32)).toNatClampNeg]? = some (.ref xe1) := Hs4.at hin4 rfl
  refine oWk.st (fun _ kt => X.aaload hx (j := (1 : Int32)) (v := (.ref xe1)) (by rw [e0]; exact Ar4.1) (State.isArrayOf_alike hZ.alike Ar4.2.1) rfl Ar4.2.2 hin4 hat4 (g := (mkF m 54 #[rv xf, uu] [(.int 1), (.ref xf), (.ref xe0), (.ref o2), (.ref o2)])) rfl rfl (hb hby d22_54) _ kt) ?_
  have Oh := K.old O0 all0
  obtain ⟨_, T, h, Lc6, X, e0, hQ, st⟩ := (cs23 hw).run X hx hZ hown e0 (A := [(.ref o2), (.ref xe0), (.ref xe1)]) ⟨rfl, _, _, rfl⟩ (rL122 l Z a0 hw [] o2 xe0 xe1 .null .null h Oh (Nat.le_trans O0.1 ge_o2) E_o2 F_e0_o2 F_e1_o2) (W := 1) (by decide) hml (Ls := #[rv xf, uu]) rfl (rest := [(.ref o2)]) rfl rfl hby d22_55
  obtain ⟨rfl, K5, E_o2, F_e0_o2, F_e1_o2⟩ := hQ
  have K := K.call K5 (allS (Or.inr ge_o2) all0)
  refine oWk.st st ?_
  exact oRetA X hx hlk hret rfl rfl (hb hby d22_58) (by rw [e0]; exact ⟨o2, rfl, K, ge_o2, E_o2, F_e0_o2, F_e1_o2⟩) (by decide) (by decide)
def Q_rLC_2 (Z : State) (xa xf xmr : Addr) (xk : ClassId) (xe0 xe1 : Addr) (h0 : Heap) (v : Option Value) (h : Heap) (L : List Loc) : Prop := ∃ (nl : Addr), v = some (.ref nl) ∧ oKp h0 h [] L ∧ (h0.size ≤ nl) ∧ (Exa Z h nl Y8) ∧ (Fld Z h nl Y8 "e0" Y10 (.ref xe0)) ∧ (Fld Z h nl Y8 "e1" Y10 (.ref xe1))
theorem rLC_2 (l : Launch) (Z : State) (a0 : Array Value) (hw : oHW a0 Z) (ws : List Jvm.Cond) (xa xf xmr : Addr) (xk : ClassId) (xe0 xe1 : Addr) (h0 : Heap) (O0 : Ext Z.heap h0) (mm_ : oMir Z Y2 xmr) (E_xa : Exa Z h0 xa Y1) (F_elementData_xa : Fld Z h0 xa Y1 "elementData" Y2 (.ref xf)) (F_size_xa : Fld Z h0 xa Y1 "size" "I" (.int (2 : Int32))) (E_xf : Exa Z h0 xf Y2) (V_xf : Arv Z h0 xf xk (.object Y0) (10 : Int32) [(.ref xe0), (.ref xe1), .null, .null, .null, .null, .null, .null, .null, .null] .null) (I_xe0 : Ins Z h0 xe0 Y0 true) (I_xe1 : Ins Z h0 xe1 Y0 true) :
    oCon l Z yy4 jdk_56_method_3_code 2 (some (.object Y3)) ws ({ frames := 6, cells := 2, slots := 4, locals := 76 } : Room) #[(.ref xa)] h0 (Q_rLC_2 Z xa xf xmr xk xe0 xe1 h0) := by
  refine oCon.of (plainFor_of_name pn_4) ?_
  intro p e s m below meth c T X hx hby hml hown hnm hret hlk hZ e0
  have hml : c.maxLocals = 2 := hml
  have K : oKp h0 h0 [] [] := oKp.nil _ _
  refine oWk.cast (g' := (mkF m 0 #[rv xa, uu] [])) (by first | rfl | (simp [entryFrame, mkF, argsToLocals, Value.category]; done)) ?_
  refine oWk.st (fun _ kt => zA X hx hby d10_0 rfl rfl rfl kt) ?_
  obtain ⟨T, X, e0, st⟩ := instNo X hx hZ hown (oW hw 67 rfl) e0 E_xa (oNSno (oW hw 68 rfl) (oW hw 164 rfl) (NS.step (oW hw 68 rfl) (NS.step (oW hw 69 rfl) (NS.step (oW hw 70 rfl) (oNSroot (oW hw 71 rfl) (oW hw 164 rfl) (by decide)) (by decide)) (by decide)) (by decide)) (by decide)) (g := (mkF m 1 #[rv xa, uu] [(.ref xa)])) rfl rfl (hb hby d10_1)
  refine oWk.st st ?_
  refine oWk.st (fun _ kt => zH X hx hby d10_4 rfl rfl ((if0 _ _).trans (teq (by decide)).2) (zA X hx hby d10_7 rfl rfl rfl kt)) ?_
  obtain ⟨T, X, e0, st⟩ := instNo X hx hZ hown (oW hw 72 rfl) e0 E_xa (oNSno (oW hw 68 rfl) (oW hw 216 rfl) (NS.step (oW hw 68 rfl) (NS.step (oW hw 69 rfl) (NS.step (oW hw 70 rfl) (oNSroot (oW hw 71 rfl) (oW hw 216 rfl) (by decide)) (by decide)) (by decide)) (by decide)) (by decide)) (g := (mkF m 8 #[rv xa, uu] [(.ref xa)])) rfl rfl (hb hby d10_8)
  refine oWk.st st ?_
  refine oWk.st (fun _ kt => zF X hx hby d10_11 rfl rfl ((if0 _ _).trans (teq (by decide)).1) (pc' := 31) rfl (zA X hx hby d10_31 rfl rfl rfl kt)) ?_
  have Oh := K.old O0 all0
  obtain ⟨cq2, kq2, q2a, q2b, q2c⟩ := isOf hZ e0 E_xa
  obtain ⟨_, _, ⟨T, L2, k2, n2⟩, -, X, ⟨Lc2, hQ, l2, y2, z2⟩, st⟩ := X.interfaceBack hx (xi := yy5) (y := yy2) hown (mvT hZ (oW hw 73 rfl)) (mvT hZ (oW hw 74 rfl)) (mvT hZ (oW hw 75 rfl)) (mvT hZ (oW hw 76 rfl)) (mvT hZ (oW hw 77 rfl)) (mvT hZ (oW hw 78 rfl)) (mvT hZ (oW hw 79 rfl)) (mvT hZ (oW hw 80 rfl)) (by decide) (backOf (W := 0) (rEmp2 l Z a0 hw [] xa h0 Oh F_size_xa) hZ (oW hw 81 rfl) (oW hw 20 rfl) (by decide) (by decide)) q2a q2b q2c (g := (mkF m 32 #[rv xa, uu] [(.ref xa)])) rfl (by rw [hml]; rfl) (Steps.refl _) (argsL := []) (rest := []) (lenOf pd_0 rfl) rfl (Nat.le_of_eq rfl) (hb hby d10_32) (fun _ _ => ⟨rfl, e0, (by decide : 0 + 0 ≤ _), (by decide : 0 + 0 ≤ _)⟩)
  dsimp only [Pt.U, Pt.locs, Pt.cells, Pt.slots] at X l2 y2 z2 st hQ
  subst l2 y2 z2
  obtain ⟨rfl, e0, K1⟩ := hQ
  have K := K.call K1 all0
  rw [e0] at K
  refine oWk.tr st ?_
  refine oWk.st (fun _ kt => zF X hx hby d10_37 rfl rfl ((if0 _ _).trans (teq (by decide)).1) (pc' := 44) rfl (zA X hx hby d10_44 rfl rfl rfl kt)) ?_
  have lt_xa := E_xa.lt
  have lt_xf := E_xf.lt
  obtain ⟨cq4, kq4, q4a, q4b, q4c⟩ := isOf hZ e0 E_xa
  obtain ⟨_, _, ⟨T, L4, k4, n4⟩, -, X, ⟨Lc4, hQ, l4, y4, z4⟩, st⟩ := X.interfaceBack hx (xi := yy26) (y := yy20) hown (mvT hZ (oW hw 130 rfl)) (mvT hZ (oW hw 131 rfl)) (mvT hZ (oW hw 132 rfl)) (mvT hZ (oW hw 133 rfl)) (mvT hZ (oW hw 134 rfl)) (mvT hZ (oW hw 135 rfl)) (mvT hZ (oW hw 136 rfl)) (mvT hZ (oW hw 80 rfl)) (by decide) (backOf (W := 0) (rTA_2 l Z a0 hw [] xa xf xmr xk xe0 xe1 h0 Oh mm_ F_elementData_xa F_size_xa E_xf V_xf I_xe0 I_xe1) hZ (oW hw 137 rfl) (oW hw 20 rfl) (by decide) (by decide)) q4a q4b q4c (g := (mkF m 45 #[rv xa, uu] [(.ref xa)])) rfl (by rw [hml]; rfl) (Steps.refl _) (argsL := []) (rest := []) (lenOf pd_9 rfl) rfl (Nat.le_of_eq rfl) (hb hby d10_45) (fun _ _ => ⟨rfl, e0, (by decide : 0 + 1 ≤ _), (by decide : 0 + 2 ≤ _)⟩)
  dsimp only [Pt.U, Pt.locs, Pt.cells, Pt.slots] at X l4 y4 z4 st hQ
  subst l4 y4 z4
  obtain ⟨h, e0⟩ : ∃ z, T.heap = z := ⟨_, rfl⟩
  rw [e0] at hQ
  obtain ⟨nb3, nj3, rfl, K3, gn_nb3, E_nb3, V_nb3, ov_nj3⟩ := hQ
  have ge_nb3 := Nat.le_trans K.le gn_nb3
  have ne_xa_nb3 : xa ≠ nb3 := Nat.ne_of_lt (Nat.lt_of_lt_of_le lt_xa gn_nb3)
  have ne_xf_nb3 : xf ≠ nb3 := Nat.ne_of_lt (Nat.lt_of_lt_of_le lt_xf gn_nb3)
  have K := K.call K3 all0
  refine oWk.tr st ?_
  have I_xe0 := (oInsKeep I_xe0 K3.1)
  have I_xe1 := (oInsKeep I_xe1 K3.1)
  have E_xa := (E_xa.keep K3.1)
  have lt_xa := E_xa.lt
  have E_xf := (E_xf.keep K3.1)
  have lt_xf := E_xf.lt
  have lt_nb3 := E_nb3.lt
  have Oh := K.old O0 all0
  obtain ⟨_, T, h, Lc6, X, e0, hQ, st⟩ := (cs21 hw).run X hx hZ hown e0 (A := [(.ref nb3)]) rfl (rOf_2 l Z a0 hw [] nb3 nj3 xe0 xe1 h Oh V_nb3 I_xe0 I_xe1) (W := 0) (by decide) hml (Ls := #[rv xa, uu]) rfl (rest := []) rfl rfl hby d10_50
  obtain ⟨nl5, rfl, K5, gn_nl5, E_nl5, F_e0_nl5, F_e1_nl5⟩ := hQ
  have ge_nl5 := Nat.le_trans K.le gn_nl5
  have ne_xa_nl5 : xa ≠ nl5 := Nat.ne_of_lt (Nat.lt_of_lt_of_le lt_xa gn_nl5)
  have ne_xf_nl5 : xf ≠ nl5 := Nat.ne_of_lt (Nat.lt_of_lt_of_le lt_xf gn_nl5)
  have ne_nb3_nl5 : nb3 ≠ nl5 := Nat.ne_of_lt (Nat.lt_of_lt_of_le lt_nb3 gn_nl5)
  have K := K.call K5 all0
  refine oWk.st st ?_
  exact oRetA X hx hlk hret rfl rfl (hb hby d10_53) (by rw [e0]; exact ⟨nl5, rfl, K, ge_nl5, E_nl5, F_e0_nl5, F_e1_nl5⟩) (by decide) (by decide)
def Q_rCO_2 (Z : State) (xa xf xmr : Addr) (xk : ClassId) (xe0 xe1 : Addr) (h0 : Heap) (v : Option Value) (h : Heap) (L : List Loc) : Prop := ∃ (nl : Addr), v = some (.ref nl) ∧ oKp h0 h [] L ∧ (h0.size ≤ nl) ∧ (Exa Z h nl Y8) ∧ (Fld Z h nl Y8 "e0" Y10 (.ref xe0)) ∧ (Fld Z h nl Y8 "e1" Y10 (.ref xe1))
theorem rCO_2 (l : Launch) (Z : State) (a0 : Array Value) (hw : oHW a0 Z) (ws : List Jvm.Cond) (xa xf xmr : Addr) (xk : ClassId) (xe0 xe1 : Addr) (h0 : Heap) (O0 : Ext Z.heap h0) (mm_ : oMir Z Y2 xmr) (E_xa : Exa Z h0 xa Y1) (F_elementData_xa : Fld Z h0 xa Y1 "elementData" Y2 (.ref xf)) (F_size_xa : Fld Z h0 xa Y1 "size" "I" (.int (2 : Int32))) (E_xf : Exa Z h0 xf Y2) (V_xf : Arv Z h0 xf xk (.object Y0) (10 : Int32) [(.ref xe0), (.ref xe1), .null, .null, .null, .null, .null, .null, .null, .null] .null) (I_xe0 : Ins Z h0 xe0 Y0 true) (I_xe1 : Ins Z h0 xe1 Y0 true) :
    oCon l Z yy6 jdk_40_method_48_code 1 (some (.object Y3)) ws ({ frames := 7, cells := 2, slots := 4, locals := 89 } : Room) #[(.ref xa)] h0 (Q_rCO_2 Z xa xf xmr xk xe0 xe1 h0) := by
  refine oCon.of (plainFor_of_name pn_3) ?_
  intro p e s m below meth c T X hx hby hml hown hnm hret hlk hZ e0
  have hml : c.maxLocals = 1 := hml
  have K : oKp h0 h0 [] [] := oKp.nil _ _
  refine oWk.cast (g' := (mkF m 0 #[rv xa] [])) (by first | rfl | (simp [entryFrame, mkF, argsToLocals, Value.category]; done)) ?_
  refine oWk.st (fun _ kt => zA X hx hby d9_0 rfl rfl rfl kt) ?_
  have lt_xa := E_xa.lt
  have lt_xf := E_xf.lt
  have Oh := K.old O0 all0
  obtain ⟨_, T, h, Lc2, X, e0, hQ, st⟩ := (cs1 hw).run X hx hZ hown e0 (A := [(.ref xa)]) rfl (rLC_2 l Z a0 hw [] xa xf xmr xk xe0 xe1 h0 Oh mm_ E_xa F_elementData_xa F_size_xa E_xf V_xf I_xe0 I_xe1) (W := 0) (by decide) hml (Ls := #[rv xa]) rfl (rest := []) rfl rfl hby d9_1
  obtain ⟨nl1, rfl, K1, gn_nl1, E_nl1, F_e0_nl1, F_e1_nl1⟩ := hQ
  have ge_nl1 := Nat.le_trans K.le gn_nl1
  have ne_xa_nl1 : xa ≠ nl1 := Nat.ne_of_lt (Nat.lt_of_lt_of_le lt_xa gn_nl1)
  have ne_xf_nl1 : xf ≠ nl1 := Nat.ne_of_lt (Nat.lt_of_lt_of_le lt_xf gn_nl1)
  have K := K.call K1 all0
  refine oWk.st st ?_
  exact oRetA X hx hlk hret rfl rfl (hb hby d9_4) (by rw [e0]; exact ⟨nl1, rfl, K, ge_nl1, E_nl1, F_e0_nl1, F_e1_nl1⟩) (by decide) (by decide)
def Q_rNI_1_2 (Z : State) (xa xi xs : Addr) (u1 u2 u3 u4 : Value) (xg xgf : Addr) (xgk : ClassId) (xge0 xh xhf : Addr) (xhk : ClassId) (xhe0 xhe1 xq xmr : Addr) (h0 : Heap) (v : Option Value) (h : Heap) (L : List Loc) : Prop := ∃ (nl : Addr), v = none ∧ oKp h0 h [xa] L ∧ (Exa Z h xa Y4) ∧ (Fld Z h xa Y4 "ordered" Y5 (.ref nl)) ∧ (Exa Z h nl Y8) ∧ (Fld Z h nl Y8 "e0" Y10 (.ref xge0)) ∧ (Fld Z h nl Y8 "e1" Y10 (.ref xq))
theorem rNI_1_2 (l : Launch) (Z : State) (a0 : Array Value) (hw : oHW a0 Z) (ws : List Jvm.Cond) (xa xi xs : Addr) (u1 u2 u3 u4 : Value) (xg xgf : Addr) (xgk : ClassId) (xge0 xh xhf : Addr) (xhk : ClassId) (xhe0 xhe1 xq xmr : Addr) (h0 : Heap) (O0 : Ext Z.heap h0) (S_EMPTY : Sta Z Z.heap Y12 "EMPTY" Y10 (.ref xq)) (mm_ : oMir Z Y2 xmr) (og_xa : Z.heap.size ≤ xa) (E_xa : Exa Z h0 xa Y4) (F_kind_xa : Fld Z h0 xa Y4 "kind" Y13 u1) (F_name_xa : Fld Z h0 xa Y4 "name" Y14 u2) (F_ordered_xa : Fld Z h0 xa Y4 "ordered" Y5 u3) (F_unordered_xa : Fld Z h0 xa Y4 "unordered" Y5 u4) (E_xg : Exa Z h0 xg Y1) (F_elementData_xg : Fld Z h0 xg Y1 "elementData" Y2 (.ref xgf)) (F_size_xg : Fld Z h0 xg Y1 "size" "I" (.int (1 : Int32))) (E_xgf : Exa Z h0 xgf Y2) (V_xgf : Arv Z h0 xgf xgk (.object Y0) (10 : Int32) [(.ref xge0), .null, .null, .null, .null, .null, .null, .null, .null, .null] .null) (I_xge0 : Ins Z h0 xge0 Y0 true) (E_xh : Exa Z h0 xh Y1) (F_elementData_xh : Fld Z h0 xh Y1 "elementData" Y2 (.ref xhf)) (F_size_xh : Fld Z h0 xh Y1 "size" "I" (.int (2 : Int32))) (E_xhf : Exa Z h0 xhf Y2) (V_xhf : Arv Z h0 xhf xhk (.object Y0) (10 : Int32) [(.ref xhe0), (.ref xhe1), .null, .null, .null, .null, .null, .null, .null, .null] .null) (I_xhe0 : Ins Z h0 xhe0 Y0 true) (I_xhe1 : Ins Z h0 xhe1 Y0 true) :
    oConH l Z oEL yy7 prog_27_method_1_code 5 none ws ({ frames := 8, cells := 8, slots := 47, locals := 101 } : Room) #[(.ref xa), (.ref xi), (.ref xs), (.ref xg), (.ref xh)] h0 [xa] (Q_rNI_1_2 Z xa xi xs u1 u2 u3 u4 xg xgf xgk xge0 xh xhf xhk xhe0 xhe1 xq xmr h0) := by
  refine oConH.of (plainFor_of_name pn_5) ?_
  intro p e s m below meth c T vm X hx hby hml hown hnm hret hlk hZ e0 B hsf
  have hml : c.maxLocals = 5 := hml
  have K : oKp h0 h0 [xa] [] := oKp.nil _ _
  refine oWk.cast (g' := (mkF m 0 #[rv xa, rv xi, rv xs, rv xg, rv xh] [])) (by first | rfl | (simp [entryFrame, mkF, argsToLocals, Value.category]; done)) ?_
  refine oWk.st (fun _ kt => zA X hx hby d6_0 rfl rfl rfl kt) ?_
  have Oh := K.old O0 (allS og_xa all0)
  obtain ⟨T, L2, X, e0, K, st⟩ := (cs2 hw).pure X hx hZ hown e0 K (A := [(.ref xa)]) ⟨rfl, _, _, rfl⟩ (rRec l Z a0 hw [] xa h0 Oh ) (fun _ _ _ q => q) (W := 0) (by decide) hml (Ls := #[rv xa, rv xi, rv xs, rv xg, rv xh]) rfl (rest := []) rfl rfl hby d6_1
  refine oWk.st st ?_
  refine oWk.st (fun _ kt => zA X hx hby d6_4 rfl rfl rfl kt) ?_
  obtain ⟨lt3, T, h, X, e2, E3, hZ, hown, B, C, st⟩ := oLdcO X hx hZ hown (oW hw 53 rfl) (oSA hw) e0 (oELw hw) B (g := (mkF m 5 #[rv xa, rv xi, rv xs, rv xg, rv xh] [(.ref xi)])) rfl (hb hby d6_5) (n := 16) (by decide) (by decide) (by decide) (by decide)
  have e0 := e2
  refine oWk.st st ?_
  have K := K.ext E3
  have Oh := K.old O0 (allS og_xa all0)
  obtain ⟨T, L5, X, e0, K, st⟩ := (cs3 hw).pure X hx hZ hown e0 K (A := [(.ref xi), (.ref lt3)]) rfl (rRN2 l Z a0 hw [] xi lt3 h Oh ) (fun _ _ _ q => q) (W := 0) (by decide) hml (Ls := #[rv xa, rv xi, rv xs, rv xg, rv xh]) rfl (rest := []) rfl rfl hby d6_7
  refine oWk.st st ?_
  refine oWk.st (fun _ kt => XS.pop X.here hx rfl (hb hby d6_10) rfl rfl (zA X hx hby d6_11 rfl rfl rfl kt)) ?_
  obtain ⟨lt6, T, h, X, e2, E6, hZ, hown, B, C, st⟩ := oLdcO X hx hZ hown (oW hw 58 rfl) (oSA hw) e0 (oELw hw) B (g := (mkF m 12 #[rv xa, rv xi, rv xs, rv xg, rv xh] [(.ref xs)])) rfl (hb hby d6_12) (n := 16) (by decide) (by decide) (by decide) (by decide)
  have e0 := e2
  refine oWk.st st ?_
  have K := K.ext E6
  have Oh := K.old O0 (allS og_xa all0)
  obtain ⟨T, L8, X, e0, K, st⟩ := (cs3 hw).pure X hx hZ hown e0 K (A := [(.ref xs), (.ref lt6)]) rfl (rRN2 l Z a0 hw [] xs lt6 h Oh ) (fun _ _ _ q => q) (W := 0) (by decide) hml (Ls := #[rv xa, rv xi, rv xs, rv xg, rv xh]) rfl (rest := []) rfl rfl hby d6_14
  refine oWk.st st ?_
  refine oWk.st (fun _ kt => XS.pop X.here hx rfl (hb hby d6_17) rfl rfl (zA X hx hby d6_18 rfl rfl rfl kt)) ?_
  have E_xg := ((E_xg.ext E3).ext E6)
  have F_elementData_xg := ((F_elementData_xg.ext E3).ext E6)
  have F_size_xg := ((F_size_xg.ext E3).ext E6)
  have E_xgf := ((E_xgf.ext E3).ext E6)
  have V_xgf := ((V_xgf.ext E3).ext E6)
  have I_xge0 := ((I_xge0.ext E3).ext E6)
  have E_xa := ((E_xa.ext E3).ext E6)
  have lt_xa := E_xa.lt
  have lt_xg := E_xg.lt
  have lt_xgf := E_xgf.lt
  have E_xh := ((E_xh.ext E3).ext E6)
  have lt_xh := E_xh.lt
  have E_xhf := ((E_xhf.ext E3).ext E6)
  have lt_xhf := E_xhf.lt
  obtain ⟨_, T, h, Lc10, X, e0, hQ, st⟩ := (cs4 hw).run X hx hZ hown e0 (A := [(.ref xg)]) rfl (rCO_1 l Z a0 hw [] xg xgf xmr xgk xq xge0 h Oh S_EMPTY mm_ E_xg F_elementData_xg F_size_xg E_xgf V_xgf I_xge0) (W := 0) (by decide) hml (Ls := #[rv xa, rv xi, rv xs, rv xg, rv xh]) rfl (rest := []) rfl rfl hby d6_19
  obtain ⟨nl9, rfl, K9, gn_nl9, E_nl9, F_e0_nl9, F_e1_nl9⟩ := hQ
  have ge_nl9 := Nat.le_trans K.le gn_nl9
  have ne_xa_nl9 : xa ≠ nl9 := Nat.ne_of_lt (Nat.lt_of_lt_of_le lt_xa gn_nl9)
  have ne_xg_nl9 : xg ≠ nl9 := Nat.ne_of_lt (Nat.lt_of_lt_of_le lt_xg gn_nl9)
  have ne_xgf_nl9 : xgf ≠ nl9 := Nat.ne_of_lt (Nat.lt_of_lt_of_le lt_xgf gn_nl9)
  have ne_xh_nl9 : xh ≠ nl9 := Nat.ne_of_lt (Nat.lt_of_lt_of_le lt_xh gn_nl9)
  have ne_xhf_nl9 : xhf ≠ nl9 := Nat.ne_of_lt (Nat.lt_of_lt_of_le lt_xhf gn_nl9)
  have K := K.call K9 all0
  have B := B.keep K9.1 (fun _ _ => oSf)
  refine oWk.st st ?_
  refine oWk.st (fun _ kt => zTn X hx hby d6_22 rfl rfl rfl (l' := #[rv xa, rv xi, rv xs, rv nl9, rv xh]) rfl (zB X hx hby d6_23 rfl rfl rfl kt)) ?_
  have E_xh := (E_xh.keep K9.1)
  have F_elementData_xh := (((F_elementData_xh.ext E3).ext E6).keep K9.1 nin0)
  have F_size_xh := (((F_size_xh.ext E3).ext E6).keep K9.1 nin0)
  have E_xhf := (E_xhf.keep K9.1)
  have V_xhf := (((V_xhf.ext E3).ext E6).keep K9.1 nin0)
  have I_xhe0 := (oInsKeep ((I_xhe0.ext E3).ext E6) K9.1)
  have I_xhe1 := (oInsKeep ((I_xhe1.ext E3).ext E6) K9.1)
  have E_xa := (E_xa.keep K9.1)
  have lt_xa := E_xa.lt
  have E_xg := (E_xg.keep K9.1)
  have lt_xg := E_xg.lt
  have E_xgf := (E_xgf.keep K9.1)
  have lt_xgf := E_xgf.lt
  have lt_xh := E_xh.lt
  have lt_xhf := E_xhf.lt
  have lt_nl9 := E_nl9.lt
  have Oh := K.old O0 (allS og_xa all0)
  obtain ⟨_, T, h, Lc12, X, e0, hQ, st⟩ := (cs4 hw).run X hx hZ hown e0 (A := [(.ref xh)]) rfl (rCO_2 l Z a0 hw [] xh xhf xmr xhk xhe0 xhe1 h Oh mm_ E_xh F_elementData_xh F_size_xh E_xhf V_xhf I_xhe0 I_xhe1) (W := 0) (by decide) hml (Ls := #[rv xa, rv xi, rv xs, rv nl9, rv xh]) rfl (rest := []) rfl rfl hby d6_25
  obtain ⟨nl11, rfl, K11, gn_nl11, E_nl11, F_e0_nl11, F_e1_nl11⟩ := hQ
  have ge_nl11 := Nat.le_trans K.le gn_nl11
  have ne_xa_nl11 : xa ≠ nl11 := Nat.ne_of_lt (Nat.lt_of_lt_of_le lt_xa gn_nl11)
  have ne_xg_nl11 : xg ≠ nl11 := Nat.ne_of_lt (Nat.lt_of_lt_of_le lt_xg gn_nl11)
  have ne_xgf_nl11 : xgf ≠ nl11 := Nat.ne_of_lt (Nat.lt_of_lt_of_le lt_xgf gn_nl11)
  have ne_xh_nl11 : xh ≠ nl11 := Nat.ne_of_lt (Nat.lt_of_lt_of_le lt_xh gn_nl11)
  have ne_xhf_nl11 : xhf ≠ nl11 := Nat.ne_of_lt (Nat.lt_of_lt_of_le lt_xhf gn_nl11)
  have ne_nl9_nl11 : nl9 ≠ nl11 := Nat.ne_of_lt (Nat.lt_of_lt_of_le lt_nl9 gn_nl11)
  have K := K.call K11 all0
  have B := B.keep K11.1 (fun _ _ => oSf)
  refine oWk.st st ?_
  refine oWk.st (fun _ kt => zT X hx hby d6_28 rfl rfl rfl (l' := #[rv xa, rv xi, rv xs, rv nl9, rv nl11]) rfl (zA X hx hby d6_30 rfl rfl rfl (zA X hx hby d6_31 rfl rfl rfl kt))) ?_
  have E_xa := (E_xa.keep K11.1)
  have F_kind_xa := ((((F_kind_xa.ext E3).ext E6).keep K9.1 nin0).keep K11.1 nin0)
  obtain ⟨T, h, X, e0, W13, st⟩ := putF X hx hZ hown (host := "") (Or.inl (oW hw 88 rfl)) Via.refl e0 F_kind_xa E_xa (Or.inr ⟨(oW hw 89 rfl), rfl, hnm⟩) (oW hw 8 rfl) (ty := (.object Y7)) (by decide) rfl rfl (g := (mkF m 32 #[rv xa, rv xi, rv xs, rv nl9, rv nl11] [(.ref xi), (.ref xa)])) rfl rfl (hb hby d6_32)
  refine oWk.st st ?_
  have K := K.wr W13 (Or.inl (List.mem_of_getElem? (i := 0) rfl))
  have B := B.wr W13 oSf
  have F_kind_xa := F_kind_xa.same W13
  refine oWk.st (fun _ kt => zA X hx hby d6_35 rfl rfl rfl (zA X hx hby d6_36 rfl rfl rfl kt)) ?_
  have E_xa := (E_xa.wr W13)
  have F_name_xa := (((((F_name_xa.ext E3).ext E6).keep K9.1 nin0).keep K11.1 nin0).other W13 (Or.inr (slot_ne (Or.inr (oW hw 91 rfl)) (Or.inr (oW hw 89 rfl)) (by decide) (t := (.object Y9)) (t' := (.object Y7)) (by decide) (by decide))))
  obtain ⟨T, h, X, e0, W14, st⟩ := putF X hx hZ hown (host := "") (Or.inl (oW hw 90 rfl)) Via.refl e0 F_name_xa E_xa (Or.inr ⟨(oW hw 91 rfl), rfl, hnm⟩) (oW hw 8 rfl) (ty := (.object Y9)) (by decide) rfl rfl (g := (mkF m 37 #[rv xa, rv xi, rv xs, rv nl9, rv nl11] [(.ref xs), (.ref xa)])) rfl rfl (hb hby d6_37)
  refine oWk.st st ?_
  have K := K.wr W14 (Or.inl (List.mem_of_getElem? (i := 0) rfl))
  have B := B.wr W14 oSf
  have F_name_xa := F_name_xa.same W14
  refine oWk.st (fun _ kt => zA X hx hby d6_40 rfl rfl rfl (zA X hx hby d6_41 rfl rfl rfl kt)) ?_
  have E_xa := (E_xa.wr W14)
  have F_ordered_xa := ((((((F_ordered_xa.ext E3).ext E6).keep K9.1 nin0).keep K11.1 nin0).other W13 (Or.inr (slot_ne (Or.inr (oW hw 93 rfl)) (Or.inr (oW hw 89 rfl)) (by decide) (t := (.object Y3)) (t' := (.object Y7)) (by decide) (by decide)))).other W14 (Or.inr (slot_ne (Or.inr (oW hw 93 rfl)) (Or.inr (oW hw 91 rfl)) (by decide) (t := (.object Y3)) (t' := (.object Y9)) (by decide) (by decide))))
  obtain ⟨T, h, X, e0, W15, st⟩ := putF X hx hZ hown (host := "") (Or.inl (oW hw 92 rfl)) Via.refl e0 F_ordered_xa E_xa (Or.inr ⟨(oW hw 93 rfl), rfl, hnm⟩) (oW hw 8 rfl) (ty := (.object Y3)) (by decide) rfl rfl (g := (mkF m 42 #[rv xa, rv xi, rv xs, rv nl9, rv nl11] [(.ref nl9), (.ref xa)])) rfl rfl (hb hby d6_42)
  refine oWk.st st ?_
  have K := K.wr W15 (Or.inl (List.mem_of_getElem? (i := 0) rfl))
  have B := B.wr W15 oSf
  have F_ordered_xa := F_ordered_xa.same W15
  refine oWk.st (fun _ kt => zA X hx hby d6_45 rfl rfl rfl (zB X hx hby d6_46 rfl rfl rfl kt)) ?_
  have E_xa := (E_xa.wr W15)
  have F_unordered_xa := (((((((F_unordered_xa.ext E3).ext E6).keep K9.1 nin0).keep K11.1 nin0).other W13 (Or.inr (slot_ne (Or.inr (oW hw 95 rfl)) (Or.inr (oW hw 89 rfl)) (by decide) (t := (.object Y3)) (t' := (.object Y7)) (by decide) (by decide)))).other W14 (Or.inr (slot_ne (Or.inr (oW hw 95 rfl)) (Or.inr (oW hw 91 rfl)) (by decide) (t := (.object Y3)) (t' := (.object Y9)) (by decide) (by decide)))).other W15 (Or.inr (slot_ne (Or.inr (oW hw 95 rfl)) (Or.inr (oW hw 93 rfl)) (by decide) (t := (.object Y3)) (t' := (.object Y3)) (by decide) (by decide))))
  obtain ⟨T, h, X, e0, W16, st⟩ := putF X hx hZ hown (host := "") (Or.inl (oW hw 94 rfl)) Via.refl e0 F_unordered_xa E_xa (Or.inr ⟨(oW hw 95 rfl), rfl, hnm⟩) (oW hw 8 rfl) (ty := (.object Y3)) (by decide) rfl rfl (g := (mkF m 48 #[rv xa, rv xi, rv xs, rv nl9, rv nl11] [(.ref nl11), (.ref xa)])) rfl rfl (hb hby d6_48)
  refine oWk.st st ?_
  have K := K.wr W16 (Or.inl (List.mem_of_getElem? (i := 0) rfl))
  have B := B.wr W16 oSf
  have F_unordered_xa := F_unordered_xa.same W16
  have E_xa := (E_xa.wr W16)
  have F_ordered_xa := (F_ordered_xa.other W16 (Or.inr (slot_ne (Or.inr (oW hw 93 rfl)) (Or.inr (oW hw 95 rfl)) (by decide) (t := (.object Y3)) (t' := (.object Y3)) (by decide) (by decide))))
  have E_nl9 := (((((E_nl9.keep K11.1).wr W13).wr W14).wr W15).wr W16)
  have F_e0_nl9 := (((((F_e0_nl9.keep K11.1 nin0).other W13 (Or.inl (Ne.symm ne_xa_nl9))).other W14 (Or.inl (Ne.symm ne_xa_nl9))).other W15 (Or.inl (Ne.symm ne_xa_nl9))).other W16 (Or.inl (Ne.symm ne_xa_nl9)))
  have F_e1_nl9 := (((((F_e1_nl9.keep K11.1 nin0).other W13 (Or.inl (Ne.symm ne_xa_nl9))).other W14 (Or.inl (Ne.symm ne_xa_nl9))).other W15 (Or.inl (Ne.symm ne_xa_nl9))).other W16 (Or.inl (Ne.symm ne_xa_nl9)))
  exact oRetHV X hx hlk hZ (oELw hw) e0 B hret (hb hby d6_51) (by rw [e0]; exact ⟨nl9, rfl, K, E_xa, F_ordered_xa, E_nl9, F_e0_nl9, F_e1_nl9⟩) (by decide) (by decide)
def Q_rNI_2_0 (Z : State) (xa xi xs : Addr) (u1 u2 u3 u4 : Value) (xg xgf : Addr) (xgk : ClassId) (xge0 xge1 xh xl xmr : Addr) (h0 : Heap) (v : Option Value) (h : Heap) (L : List Loc) : Prop := ∃ (nl : Addr), v = none ∧ oKp h0 h [xa] L ∧ (Exa Z h xa Y4) ∧ (Fld Z h xa Y4 "ordered" Y5 (.ref nl)) ∧ (Exa Z h nl Y8) ∧ (Fld Z h nl Y8 "e0" Y10 (.ref xge0)) ∧ (Fld Z h nl Y8 "e1" Y10 (.ref xge1))
theorem rNI_2_0 (l : Launch) (Z : State) (a0 : Array Value) (hw : oHW a0 Z) (ws : List Jvm.Cond) (xa xi xs : Addr) (u1 u2 u3 u4 : Value) (xg xgf : Addr) (xgk : ClassId) (xge0 xge1 xh xl xmr : Addr) (h0 : Heap) (O0 : Ext Z.heap h0) (S_EMPTY_LIST : Sta Z Z.heap Y12 "EMPTY_LIST" Y15 (.ref xl)) (mm_ : oMir Z Y2 xmr) (og_xa : Z.heap.size ≤ xa) (E_xa : Exa Z h0 xa Y4) (F_kind_xa : Fld Z h0 xa Y4 "kind" Y13 u1) (F_name_xa : Fld Z h0 xa Y4 "name" Y14 u2) (F_ordered_xa : Fld Z h0 xa Y4 "ordered" Y5 u3) (F_unordered_xa : Fld Z h0 xa Y4 "unordered" Y5 u4) (E_xg : Exa Z h0 xg Y1) (F_elementData_xg : Fld Z h0 xg Y1 "elementData" Y2 (.ref xgf)) (F_size_xg : Fld Z h0 xg Y1 "size" "I" (.int (2 : Int32))) (E_xgf : Exa Z h0 xgf Y2) (V_xgf : Arv Z h0 xgf xgk (.object Y0) (10 : Int32) [(.ref xge0), (.ref xge1), .null, .null, .null, .null, .null, .null, .null, .null] .null) (I_xge0 : Ins Z h0 xge0 Y0 true) (I_xge1 : Ins Z h0 xge1 Y0 true) (E_xh : Exa Z h0 xh Y1) (F_size_xh : Fld Z h0 xh Y1 "size" "I" (.int (0 : Int32))) :
    oConH l Z oEL yy7 prog_27_method_1_code 5 none ws ({ frames := 8, cells := 6, slots := 44, locals := 101 } : Room) #[(.ref xa), (.ref xi), (.ref xs), (.ref xg), (.ref xh)] h0 [xa] (Q_rNI_2_0 Z xa xi xs u1 u2 u3 u4 xg xgf xgk xge0 xge1 xh xl xmr h0) := by
  refine oConH.of (plainFor_of_name pn_5) ?_
  intro p e s m below meth c T vm X hx hby hml hown hnm hret hlk hZ e0 B hsf
  have hml : c.maxLocals = 5 := hml
  have K : oKp h0 h0 [xa] [] := oKp.nil _ _
  refine oWk.cast (g' := (mkF m 0 #[rv xa, rv xi, rv xs, rv xg, rv xh] [])) (by first | rfl | (simp [entryFrame, mkF, argsToLocals, Value.category]; done)) ?_
  refine oWk.st (fun _ kt => zA X hx hby d6_0 rfl rfl rfl kt) ?_
  have Oh := K.old O0 (allS og_xa all0)
  obtain ⟨T, L2, X, e0, K, st⟩ := (cs2 hw).pure X hx hZ hown e0 K (A := [(.ref xa)]) ⟨rfl, _, _, rfl⟩ (rRec l Z a0 hw [] xa h0 Oh ) (fun _ _ _ q => q) (W := 0) (by decide) hml (Ls := #[rv xa, rv xi, rv xs, rv xg, rv xh]) rfl (rest := []) rfl rfl hby d6_1
  refine oWk.st st ?_
  refine oWk.st (fun _ kt => zA X hx hby d6_4 rfl rfl rfl kt) ?_
  obtain ⟨lt3, T, h, X, e2, E3, hZ, hown, B, C, st⟩ := oLdcO X hx hZ hown (oW hw 53 rfl) (oSA hw) e0 (oELw hw) B (g := (mkF m 5 #[rv xa, rv xi, rv xs, rv xg, rv xh] [(.ref xi)])) rfl (hb hby d6_5) (n := 16) (by decide) (by decide) (by decide) (by decide)
  have e0 := e2
  refine oWk.st st ?_
  have K := K.ext E3
  have Oh := K.old O0 (allS og_xa all0)
  obtain ⟨T, L5, X, e0, K, st⟩ := (cs3 hw).pure X hx hZ hown e0 K (A := [(.ref xi), (.ref lt3)]) rfl (rRN2 l Z a0 hw [] xi lt3 h Oh ) (fun _ _ _ q => q) (W := 0) (by decide) hml (Ls := #[rv xa, rv xi, rv xs, rv xg, rv xh]) rfl (rest := []) rfl rfl hby d6_7
  refine oWk.st st ?_
  refine oWk.st (fun _ kt => XS.pop X.here hx rfl (hb hby d6_10) rfl rfl (zA X hx hby d6_11 rfl rfl rfl kt)) ?_
  obtain ⟨lt6, T, h, X, e2, E6, hZ, hown, B, C, st⟩ := oLdcO X hx hZ hown (oW hw 58 rfl) (oSA hw) e0 (oELw hw) B (g := (mkF m 12 #[rv xa, rv xi, rv xs, rv xg, rv xh] [(.ref xs)])) rfl (hb hby d6_12) (n := 16) (by decide) (by decide) (by decide) (by decide)
  have e0 := e2
  refine oWk.st st ?_
  have K := K.ext E6
  have Oh := K.old O0 (allS og_xa all0)
  obtain ⟨T, L8, X, e0, K, st⟩ := (cs3 hw).pure X hx hZ hown e0 K (A := [(.ref xs), (.ref lt6)]) rfl (rRN2 l Z a0 hw [] xs lt6 h Oh ) (fun _ _ _ q => q) (W := 0) (by decide) hml (Ls := #[rv xa, rv xi, rv xs, rv xg, rv xh]) rfl (rest := []) rfl rfl hby d6_14
  refine oWk.st st ?_
  refine oWk.st (fun _ kt => XS.pop X.here hx rfl (hb hby d6_17) rfl rfl (zA X hx hby d6_18 rfl rfl rfl kt)) ?_
  have E_xg := ((E_xg.ext E3).ext E6)
  have F_elementData_xg := ((F_elementData_xg.ext E3).ext E6)
  have F_size_xg := ((F_size_xg.ext E3).ext E6)
  have E_xgf := ((E_xgf.ext E3).ext E6)
  have V_xgf := ((V_xgf.ext E3).ext E6)
  have I_xge0 := ((I_xge0.ext E3).ext E6)
  have I_xge1 := ((I_xge1.ext E3).ext E6)
  have E_xa := ((E_xa.ext E3).ext E6)
  have lt_xa := E_xa.lt
  have lt_xg := E_xg.lt
  have lt_xgf := E_xgf.lt
  have E_xh := ((E_xh.ext E3).ext E6)
  have lt_xh := E_xh.lt
  obtain ⟨_, T, h, Lc10, X, e0, hQ, st⟩ := (cs4 hw).run X hx hZ hown e0 (A := [(.ref xg)]) rfl (rCO_2 l Z a0 hw [] xg xgf xmr xgk xge0 xge1 h Oh mm_ E_xg F_elementData_xg F_size_xg E_xgf V_xgf I_xge0 I_xge1) (W := 0) (by decide) hml (Ls := #[rv xa, rv xi, rv xs, rv xg, rv xh]) rfl (rest := []) rfl rfl hby d6_19
  obtain ⟨nl9, rfl, K9, gn_nl9, E_nl9, F_e0_nl9, F_e1_nl9⟩ := hQ
  have ge_nl9 := Nat.le_trans K.le gn_nl9
  have ne_xa_nl9 : xa ≠ nl9 := Nat.ne_of_lt (Nat.lt_of_lt_of_le lt_xa gn_nl9)
  have ne_xg_nl9 : xg ≠ nl9 := Nat.ne_of_lt (Nat.lt_of_lt_of_le lt_xg gn_nl9)
  have ne_xgf_nl9 : xgf ≠ nl9 := Nat.ne_of_lt (Nat.lt_of_lt_of_le lt_xgf gn_nl9)
  have ne_xh_nl9 : xh ≠ nl9 := Nat.ne_of_lt (Nat.lt_of_lt_of_le lt_xh gn_nl9)
  have K := K.call K9 all0
  have B := B.keep K9.1 (fun _ _ => oSf)
  refine oWk.st st ?_
  refine oWk.st (fun _ kt => zTn X hx hby d6_22 rfl rfl rfl (l' := #[rv xa, rv xi, rv xs, rv nl9, rv xh]) rfl (zB X hx hby d6_23 rfl rfl rfl kt)) ?_
  have E_xh := (E_xh.keep K9.1)
  have F_size_xh := (((F_size_xh.ext E3).ext E6).keep K9.1 nin0)
  have Oh := K.old O0 (allS og_xa all0)
  obtain ⟨T, L12, X, e0, K, st⟩ := (cs4 hw).pure X hx hZ hown e0 K (A := [(.ref xh)]) rfl (rCO0 l Z a0 hw [] xh xl h Oh S_EMPTY_LIST E_xh F_size_xh) (fun _ _ _ q => q) (W := 0) (by decide) hml (Ls := #[rv xa, rv xi, rv xs, rv nl9, rv xh]) rfl (rest := []) rfl rfl hby d6_25
  refine oWk.st st ?_
  refine oWk.st (fun _ kt => zT X hx hby d6_28 rfl rfl rfl (l' := #[rv xa, rv xi, rv xs, rv nl9, rv xl]) rfl (zA X hx hby d6_30 rfl rfl rfl (zA X hx hby d6_31 rfl rfl rfl kt))) ?_
  have E_xa := (E_xa.keep K9.1)
  have F_kind_xa := (((F_kind_xa.ext E3).ext E6).keep K9.1 nin0)
  obtain ⟨T, h, X, e0, W13, st⟩ := putF X hx hZ hown (host := "") (Or.inl (oW hw 88 rfl)) Via.refl e0 F_kind_xa E_xa (Or.inr ⟨(oW hw 89 rfl), rfl, hnm⟩) (oW hw 8 rfl) (ty := (.object Y7)) (by decide) rfl rfl (g := (mkF m 32 #[rv xa, rv xi, rv xs, rv nl9, rv xl] [(.ref xi), (.ref xa)])) rfl rfl (hb hby d6_32)
  refine oWk.st st ?_
  have K := K.wr W13 (Or.inl (List.mem_of_getElem? (i := 0) rfl))
  have B := B.wr W13 oSf
  have F_kind_xa := F_kind_xa.same W13
  refine oWk.st (fun _ kt => zA X hx hby d6_35 rfl rfl rfl (zA X hx hby d6_36 rfl rfl rfl kt)) ?_
  have E_xa := (E_xa.wr W13)
  have F_name_xa := ((((F_name_xa.ext E3).ext E6).keep K9.1 nin0).other W13 (Or.inr (slot_ne (Or.inr (oW hw 91 rfl)) (Or.inr (oW hw 89 rfl)) (by decide) (t := (.object Y9)) (t' := (.object Y7)) (by decide) (by decide))))
  obtain ⟨T, h, X, e0, W14, st⟩ := putF X hx hZ hown (host := "") (Or.inl (oW hw 90 rfl)) Via.refl e0 F_name_xa E_xa (Or.inr ⟨(oW hw 91 rfl), rfl, hnm⟩) (oW hw 8 rfl) (ty := (.object Y9)) (by decide) rfl rfl (g := (mkF m 37 #[rv xa, rv xi, rv xs, rv nl9, rv xl] [(.ref xs), (.ref xa)])) rfl rfl (hb hby d6_37)
  refine oWk.st st ?_
  have K := K.wr W14 (Or.inl (List.mem_of_getElem? (i := 0) rfl))
  have B := B.wr W14 oSf
  have F_name_xa := F_name_xa.same W14
  refine oWk.st (fun _ kt => zA X hx hby d6_40 rfl rfl rfl (zA X hx hby d6_41 rfl rfl rfl kt)) ?_
  have E_xa := (E_xa.wr W14)
  have F_ordered_xa := (((((F_ordered_xa.ext E3).ext E6).keep K9.1 nin0).other W13 (Or.inr (slot_ne (Or.inr (oW hw 93 rfl)) (Or.inr (oW hw 89 rfl)) (by decide) (t := (.object Y3)) (t' := (.object Y7)) (by decide) (by decide)))).other W14 (Or.inr (slot_ne (Or.inr (oW hw 93 rfl)) (Or.inr (oW hw 91 rfl)) (by decide) (t := (.object Y3)) (t' := (.object Y9)) (by decide) (by decide))))
  obtain ⟨T, h, X, e0, W15, st⟩ := putF X hx hZ hown (host := "") (Or.inl (oW hw 92 rfl)) Via.refl e0 F_ordered_xa E_xa (Or.inr ⟨(oW hw 93 rfl), rfl, hnm⟩) (oW hw 8 rfl) (ty := (.object Y3)) (by decide) rfl rfl (g := (mkF m 42 #[rv xa, rv xi, rv xs, rv nl9, rv xl] [(.ref nl9), (.ref xa)])) rfl rfl (hb hby d6_42)
  refine oWk.st st ?_
  have K := K.wr W15 (Or.inl (List.mem_of_getElem? (i := 0) rfl))
  have B := B.wr W15 oSf
  have F_ordered_xa := F_ordered_xa.same W15
  refine oWk.st (fun _ kt => zA X hx hby d6_45 rfl rfl rfl (zB X hx hby d6_46 rfl rfl rfl kt)) ?_
  have E_xa := (E_xa.wr W15)
  have F_unordered_xa := ((((((F_unordered_xa.ext E3).ext E6).keep K9.1 nin0).other W13 (Or.inr (slot_ne (Or.inr (oW hw 95 rfl)) (Or.inr (oW hw 89 rfl)) (by decide) (t := (.object Y3)) (t' := (.object Y7)) (by decide) (by decide)))).other W14 (Or.inr (slot_ne (Or.inr (oW hw 95 rfl)) (Or.inr (oW hw 91 rfl)) (by decide) (t := (.object Y3)) (t' := (.object Y9)) (by decide) (by decide)))).other W15 (Or.inr (slot_ne (Or.inr (oW hw 95 rfl)) (Or.inr (oW hw 93 rfl)) (by decide) (t := (.object Y3)) (t' := (.object Y3)) (by decide) (by decide))))
  obtain ⟨T, h, X, e0, W16, st⟩ := putF X hx hZ hown (host := "") (Or.inl (oW hw 94 rfl)) Via.refl e0 F_unordered_xa E_xa (Or.inr ⟨(oW hw 95 rfl), rfl, hnm⟩) (oW hw 8 rfl) (ty := (.object Y3)) (by decide) rfl rfl (g := (mkF m 48 #[rv xa, rv xi, rv xs, rv nl9, rv xl] [(.ref xl), (.ref xa)])) rfl rfl (hb hby d6_48)
  refine oWk.st st ?_
  have K := K.wr W16 (Or.inl (List.mem_of_getElem? (i := 0) rfl))
  have B := B.wr W16 oSf
  have F_unordered_xa := F_unordered_xa.same W16
  have E_xa := (E_xa.wr W16)
  have F_ordered_xa := (F_ordered_xa.other W16 (Or.inr (slot_ne (Or.inr (oW hw 93 rfl)) (Or.inr (oW hw 95 rfl)) (by decide) (t := (.object Y3)) (t' := (.object Y3)) (by decide) (by decide))))
  have E_nl9 := ((((E_nl9.wr W13).wr W14).wr W15).wr W16)
  have F_e0_nl9 := ((((F_e0_nl9.other W13 (Or.inl (Ne.symm ne_xa_nl9))).other W14 (Or.inl (Ne.symm ne_xa_nl9))).other W15 (Or.inl (Ne.symm ne_xa_nl9))).other W16 (Or.inl (Ne.symm ne_xa_nl9)))
  have F_e1_nl9 := ((((F_e1_nl9.other W13 (Or.inl (Ne.symm ne_xa_nl9))).other W14 (Or.inl (Ne.symm ne_xa_nl9))).other W15 (Or.inl (Ne.symm ne_xa_nl9))).other W16 (Or.inl (Ne.symm ne_xa_nl9)))
  exact oRetHV X hx hlk hZ (oELw hw) e0 B hret (hb hby d6_51) (by rw [e0]; exact ⟨nl9, rfl, K, E_xa, F_ordered_xa, E_nl9, F_e0_nl9, F_e1_nl9⟩) (by decide) (by decide)
def Q_rNd_2_0 (Z : State) (xa xb xge0 xge1 xq : Addr) (h0 : Heap) (v : Option Value) (h : Heap) (L : List Loc) : Prop := v = some (.ref xge0) ∧ h = h0 ∧ oKp h0 h [] L
theorem rNd_2_0 (l : Launch) (Z : State) (a0 : Array Value) (hw : oHW a0 Z) (ws : List Jvm.Cond) (xa xb xge0 xge1 xq : Addr) (h0 : Heap) (O0 : Ext Z.heap h0) (S_EMPTY : Sta Z Z.heap Y12 "EMPTY" Y10 (.ref xq)) (F_ordered_xa : Fld Z h0 xa Y4 "ordered" Y5 (.ref xb)) (E_xb : Exa Z h0 xb Y8) (F_e0_xb : Fld Z h0 xb Y8 "e0" Y10 (.ref xge0)) (F_e1_xb : Fld Z h0 xb Y8 "e1" Y10 (.ref xge1)) (E_xge0 : Exa Z h0 xge0 Y4) :
    oCon l Z yy28 prog_27_method_4_code 2 (some (.object Y4)) ws ({ frames := 1, cells := 0, slots := 0, locals := 13 } : Room) #[(.ref xa), (.int (0 : Int32))] h0 (Q_rNd_2_0 Z xa xb xge0 xge1 xq h0) := by
  refine oCon.of (plainFor_of_name pn_5) ?_
  intro p e s m below meth c T X hx hby hml hown hnm hret hlk hZ e0
  have hml : c.maxLocals = 2 := hml
  have K : oKp h0 h0 [] [] := oKp.nil _ _
  refine oWk.cast (g' := (mkF m 0 #[rv xa, iv 0] [])) (by first | rfl | (simp [entryFrame, mkF, argsToLocals, Value.category]; done)) ?_
  refine oWk.st (fun _ kt => zA X hx hby d28_0 rfl rfl rfl kt) ?_
  obtain ⟨T, X, e0, st⟩ := getF X hx hZ hown (host := "") (Or.inl (oW hw 92 rfl)) Via.refl e0 F_ordered_xa (g := (mkF m 1 #[rv xa, iv 0] [(.ref xa)])) rfl rfl (hb hby d28_1)
  refine oWk.st st ?_
  refine oWk.st (fun _ kt => zI X hx hby d28_4 rfl rfl kt) ?_
  have Oh := K.old O0 all0
  obtain ⟨cq2, kq2, q2a, q2b, q2c⟩ := isOf hZ e0 E_xb
  obtain ⟨_, _, ⟨T, L2, k2, n2⟩, -, X, ⟨Lc2, hQ, l2, y2, z2⟩, st⟩ := X.interfaceBack hx (xi := yy29) (y := yy27) hown (mvT hZ (oW hw 200 rfl)) (mvT hZ (oW hw 201 rfl)) (mvT hZ (oW hw 202 rfl)) (mvT hZ (oW hw 203 rfl)) (mvT hZ (oW hw 204 rfl)) (mvT hZ (oW hw 205 rfl)) (mvT hZ (oW hw 206 rfl)) (mvT hZ (oW hw 207 rfl)) (by decide) (backOf (W := 0) (rG12_0 l Z a0 hw [] xb xge0 h0 Oh F_e0_xb) hZ (oW hw 208 rfl) (oW hw 165 rfl) (by decide) (by decide)) q2a q2b q2c (g := (mkF m 5 #[rv xa, iv 0] [(.int 0), (.ref xb)])) rfl (by rw [hml]; rfl) (Steps.refl _) (argsL := [(.int (0 : Int32))]) (rest := []) (lenOf pd_17 rfl) rfl (Nat.le_of_eq rfl) (hb hby d28_5) (fun _ _ => ⟨rfl, e0, (by decide : 0 + 0 ≤ _), (by decide : 0 + 0 ≤ _)⟩)
  dsimp only [Pt.U, Pt.locs, Pt.cells, Pt.slots] at X l2 y2 z2 st hQ
  subst l2 y2 z2
  obtain ⟨rfl, e0, K1⟩ := hQ
  have K := K.call K1 all0
  rw [e0] at K
  refine oWk.tr st ?_
  obtain ⟨T, X, e0, st⟩ := castY X hx hZ hown (oW hw 209 rfl) e0 (Ins.self E_xge0) (g := (mkF m 10 #[rv xa, iv 0] [(.ref xge0)])) rfl rfl (hb hby d28_10)
  refine oWk.st st ?_
  exact oRetA X hx hlk hret rfl rfl (hb hby d28_13) (by rw [e0]; exact ⟨rfl, rfl, K⟩) (by decide) (by decide)
def Q_rG12_1 (Z : State) (xa xx xq : Addr) (h0 : Heap) (v : Option Value) (h : Heap) (L : List Loc) : Prop := v = some (.ref xx) ∧ h = h0 ∧ oKp h0 h [] L
theorem d29_9 : decode jdk_44_method_5_code 9 = .ok (.iload_n 1, 1) := by decide +kernel
theorem d29_10 : decode jdk_44_method_5_code 10 = .ok (.iconst 1, 1) := by decide +kernel
theorem d29_11 : decode jdk_44_method_5_code 11 = .ok (.if_icmp .ne 18, 3) := by decide +kernel
theorem d29_14 : decode jdk_44_method_5_code 14 = .ok (.aload_n 0, 1) := by decide +kernel
theorem d29_15 : decode jdk_44_method_5_code 15 = .ok (.getfield 24, 3) := by decide +kernel
theorem d29_18 : decode jdk_44_method_5_code 18 = .ok (.getstatic 19, 3) := by decide +kernel
theorem d29_21 : decode jdk_44_method_5_code 21 = .ok (.if_acmp .eq 8, 3) := by decide +kernel
theorem d29_24 : decode jdk_44_method_5_code 24 = .ok (.aload_n 0, 1) := by decide +kernel
theorem d29_25 : decode jdk_44_method_5_code 25 = .ok (.getfield 24, 3) := by decide +kernel
theorem d29_28 : decode jdk_44_method_5_code 28 = .ok (.areturn, 1) := by decide +kernel
theorem rG12_1 (l : Launch) (Z : State) (a0 : Array Value) (hw : oHW a0 Z) (ws : List Jvm.Cond) (xa xx xq : Addr) (h0 : Heap) (O0 : Ext Z.heap h0) (S_EMPTY : Sta Z Z.heap Y12 "EMPTY" Y10 (.ref xq)) (F_e1_xa : Fld Z h0 xa Y8 "e1" Y10 (.ref xx)) (ne_xx_xq : xx ≠ xq) :
    oCon l Z yy27 jdk_44_method_5_code 2 (some (.object Y0)) ws ({ frames := 0, cells := 0, slots := 0, locals := 0 } : Room) #[(.ref xa), (.int (1 : Int32))] h0 (Q_rG12_1 Z xa xx xq h0) := by
  refine oCon.of (plainFor_of_name pn_12) ?_
  intro p e s m below meth c T X hx hby hml hown hnm hret hlk hZ e0
  have hml : c.maxLocals = 2 := hml
  have K : oKp h0 h0 [] [] := oKp.nil _ _
  refine oWk.cast (g' := (mkF m 0 #[rv xa, iv 1] [])) (by first | rfl | (simp [entryFrame, mkF, argsToLocals, Value.category]; done)) ?_
  refine oWk.st (fun _ kt => zI X hx hby d29_0 rfl rfl (zF X hx hby d29_1 rfl rfl ((if0 _ _).trans (feq (by decide)).2) (pc' := 9) rfl (zI X hx hby d29_9 rfl rfl (zK X hx hby d29_10 rfl (zN X hx hby d29_11 rfl rfl (teq (by decide)).2 (zA X hx hby d29_14 rfl rfl rfl kt)))))) ?_
  obtain ⟨T, X, e0, st⟩ := getF X hx hZ hown (host := "") (Or.inl (oW hw 190 rfl)) Via.refl e0 F_e1_xa (g := (mkF m 15 #[rv xa, iv 1] [(.ref xa)])) rfl rfl (hb hby d29_15)
  refine oWk.st st ?_
  have Oh := K.old O0 all0
  obtain ⟨T, X, e0, st⟩ := getS2 X hx hZ hown (Or.inr (oW hw 189 rfl)) Via.refl e0 (S_EMPTY.ext Oh) (g := (mkF m 18 #[rv xa, iv 1] [(.ref xx)])) rfl (hb hby d29_18)
  refine oWk.st st ?_
  refine oWk.st (fun _ kt => Jvm.RoadKit.acmp (g := (mkF m 21 #[rv xa, iv 1] [(.ref xq), (.ref xx)])) X hx rfl rfl rfl (pc0 := 21) (pc' := 24) (same := false) rfl (hb hby d29_21) rfl (decide_eq_false fun q => ne_xx_xq (Value.ref.inj q)) (by decide) (by decide) kt) ?_
  show oWk _ _ _ _ T (mkF m 24 #[rv xa, iv 1] [])
  refine oWk.st (fun _ kt => zA X hx hby d29_24 rfl rfl rfl kt) ?_
  obtain ⟨T, X, e0, st⟩ := getF X hx hZ hown (host := "") (Or.inl (oW hw 190 rfl)) Via.refl e0 F_e1_xa (g := (mkF m 25 #[rv xa, iv 1] [(.ref xa)])) rfl rfl (hb hby d29_25)
  refine oWk.st st ?_
  exact oRetA X hx hlk hret rfl rfl (hb hby d29_28) (by rw [e0]; exact ⟨rfl, rfl, K⟩) (by decide) (by decide)
def Q_rNd_2_1 (Z : State) (xa xb xge0 xge1 xq : Addr) (h0 : Heap) (v : Option Value) (h : Heap) (L : List Loc) : Prop := v = some (.ref xge1) ∧ h = h0 ∧ oKp h0 h [] L
theorem rNd_2_1 (l : Launch) (Z : State) (a0 : Array Value) (hw : oHW a0 Z) (ws : List Jvm.Cond) (xa xb xge0 xge1 xq : Addr) (h0 : Heap) (O0 : Ext Z.heap h0) (S_EMPTY : Sta Z Z.heap Y12 "EMPTY" Y10 (.ref xq)) (F_ordered_xa : Fld Z h0 xa Y4 "ordered" Y5 (.ref xb)) (E_xb : Exa Z h0 xb Y8) (F_e0_xb : Fld Z h0 xb Y8 "e0" Y10 (.ref xge0)) (F_e1_xb : Fld Z h0 xb Y8 "e1" Y10 (.ref xge1)) (E_xge1 : Exa Z h0 xge1 Y4) (ne_xge1_xq : xge1 ≠ xq) :
    oCon l Z yy28 prog_27_method_4_code 2 (some (.object Y4)) ws ({ frames := 1, cells := 0, slots := 0, locals := 13 } : Room) #[(.ref xa), (.int (1 : Int32))] h0 (Q_rNd_2_1 Z xa xb xge0 xge1 xq h0) := by
  refine oCon.of (plainFor_of_name pn_5) ?_
  intro p e s m below meth c T X hx hby hml hown hnm hret hlk hZ e0
  have hml : c.maxLocals = 2 := hml
  have K : oKp h0 h0 [] [] := oKp.nil _ _
  refine oWk.cast (g' := (mkF m 0 #[rv xa, iv 1] [])) (by first | rfl | (simp [entryFrame, mkF, argsToLocals, Value.category]; done)) ?_
  refine oWk.st (fun _ kt => zA X hx hby d28_0 rfl rfl rfl kt) ?_
  obtain ⟨T, X, e0, st⟩ := getF X hx hZ hown (host := "") (Or.inl (oW hw 92 rfl)) Via.refl e0 F_ordered_xa (g := (mkF m 1 #[rv xa, iv 1] [(.ref xa)])) rfl rfl (hb hby d28_1)
  refine oWk.st st ?_
  refine oWk.st (fun _ kt => zI X hx hby d28_4 rfl rfl kt) ?_
  have Oh := K.old O0 all0
  obtain ⟨cq2, kq2, q2a, q2b, q2c⟩ := isOf hZ e0 E_xb
  obtain ⟨_, _, ⟨T, L2, k2, n2⟩, -, X, ⟨Lc2, hQ, l2, y2, z2⟩, st⟩ := X.interfaceBack hx (xi := yy29) (y := yy27) hown (mvT hZ (oW hw 200 rfl)) (mvT hZ (oW hw 201 rfl)) (mvT hZ (oW hw 202 rfl)) (mvT hZ (oW hw 203 rfl)) (mvT hZ (oW hw 204 rfl)) (mvT hZ (oW hw 205 rfl)) (mvT hZ (oW hw 206 rfl)) (mvT hZ (oW hw 207 rfl)) (by decide) (backOf (W := 0) (rG12_1 l Z a0 hw [] xb xge1 xq h0 Oh S_EMPTY F_e1_xb ne_xge1_xq) hZ (oW hw 208 rfl) (oW hw 165 rfl) (by decide) (by decide)) q2a q2b q2c (g := (mkF m 5 #[rv xa, iv 1] [(.int 1), (.ref xb)])) rfl (by rw [hml]; rfl) (Steps.refl _) (argsL := [(.int (1 : Int32))]) (rest := []) (lenOf pd_17 rfl) rfl (Nat.le_of_eq rfl) (hb hby d28_5) (fun _ _ => ⟨rfl, e0, (by decide : 0 + 0 ≤ _), (by decide : 0 + 0 ≤ _)⟩)
  dsimp only [Pt.U, Pt.locs, Pt.cells, Pt.slots] at X l2 y2 z2 st hQ
  subst l2 y2 z2
  obtain ⟨rfl, e0, K1⟩ := hQ
  have K := K.call K1 all0
  rw [e0] at K
  refine oWk.tr st ?_
  obtain ⟨T, X, e0, st⟩ := castY X hx hZ hown (oW hw 209 rfl) e0 (Ins.self E_xge1) (g := (mkF m 10 #[rv xa, iv 1] [(.ref xge1)])) rfl rfl (hb hby d28_10)
  refine oWk.st st ?_
  exact oRetA X hx hlk hret rfl rfl (hb hby d28_13) (by rw [e0]; exact ⟨rfl, rfl, K⟩) (by decide) (by decide)
def Q_rNI_2_1 (Z : State) (xa xi xs : Addr) (u1 u2 u3 u4 : Value) (xg xgf : Addr) (xgk : ClassId) (xge0 xge1 xh xhf : Addr) (xhk : ClassId) (xhe0 xq xmr : Addr) (h0 : Heap) (v : Option Value) (h : Heap) (L : List Loc) : Prop := ∃ (nl : Addr), v = none ∧ oKp h0 h [xa] L ∧ (Exa Z h xa Y4) ∧ (Fld Z h xa Y4 "ordered" Y5 (.ref nl)) ∧ (Exa Z h nl Y8) ∧ (Fld Z h nl Y8 "e0" Y10 (.ref xge0)) ∧ (Fld Z h nl Y8 "e1" Y10 (.ref xge1))
theorem rNI_2_1 (l : Launch) (Z : State) (a0 : Array Value) (hw : oHW a0 Z) (ws : List Jvm.Cond) (xa xi xs : Addr) (u1 u2 u3 u4 : Value) (xg xgf : Addr) (xgk : ClassId) (xge0 xge1 xh xhf : Addr) (xhk : ClassId) (xhe0 xq xmr : Addr) (h0 : Heap) (O0 : Ext Z.heap h0) (S_EMPTY : Sta Z Z.heap Y12 "EMPTY" Y10 (.ref xq)) (mm_ : oMir Z Y2 xmr) (og_xa : Z.heap.size ≤ xa) (E_xa : Exa Z h0 xa Y4) (F_kind_xa : Fld Z h0 xa Y4 "kind" Y13 u1) (F_name_xa : Fld Z h0 xa Y4 "name" Y14 u2) (F_ordered_xa : Fld Z h0 xa Y4 "ordered" Y5 u3) (F_unordered_xa : Fld Z h0 xa Y4 "unordered" Y5 u4) (E_xg : Exa Z h0 xg Y1) (F_elementData_xg : Fld Z h0 xg Y1 "elementData" Y2 (.ref xgf)) (F_size_xg : Fld Z h0 xg Y1 "size" "I" (.int (2 : Int32))) (E_xgf : Exa Z h0 xgf Y2) (V_xgf : Arv Z h0 xgf xgk (.object Y0) (10 : Int32) [(.ref xge0), (.ref xge1), .null, .null, .null, .null, .null, .null, .null, .null] .null) (I_xge0 : Ins Z h0 xge0 Y0 true) (I_xge1 : Ins Z h0 xge1 Y0 true) (E_xh : Exa Z h0 xh Y1) (F_elementData_xh : Fld Z h0 xh Y1 "elementData" Y2 (.ref xhf)) (F_size_xh : Fld Z h0 xh Y1 "size" "I" (.int (1 : Int32))) (E_xhf : Exa Z h0 xhf Y2) (V_xhf : Arv Z h0 xhf xhk (.object Y0) (10 : Int32) [(.ref xhe0), .null, .null, .null, .null, .null, .null, .null, .null, .null] .null) (I_xhe0 : Ins Z h0 xhe0 Y0 true) :
    oConH l Z oEL yy7 prog_27_method_1_code 5 none ws ({ frames := 8, cells := 8, slots := 47, locals := 101 } : Room) #[(.ref xa), (.ref xi), (.ref xs), (.ref xg), (.ref xh)] h0 [xa] (Q_rNI_2_1 Z xa xi xs u1 u2 u3 u4 xg xgf xgk xge0 xge1 xh xhf xhk xhe0 xq xmr h0) := by
  refine oConH.of (plainFor_of_name pn_5) ?_
  intro p e s m below meth c T vm X hx hby hml hown hnm hret hlk hZ e0 B hsf
  have hml : c.maxLocals = 5 := hml
  have K : oKp h0 h0 [xa] [] := oKp.nil _ _
  refine oWk.cast (g' := (mkF m 0 #[rv xa, rv xi, rv xs, rv xg, rv xh] [])) (by first | rfl | (simp [entryFrame, mkF, argsToLocals, Value.category]; done)) ?_
  refine oWk.st (fun _ kt => zA X hx hby d6_0 rfl rfl rfl kt) ?_
  have Oh := K.old O0 (allS og_xa all0)
  obtain ⟨T, L2, X, e0, K, st⟩ := (cs2 hw).pure X hx hZ hown e0 K (A := [(.ref xa)]) ⟨rfl, _, _, rfl⟩ (rRec l Z a0 hw [] xa h0 Oh ) (fun _ _ _ q => q) (W := 0) (by decide) hml (Ls := #[rv xa, rv xi, rv xs, rv xg, rv xh]) rfl (rest := []) rfl rfl hby d6_1
  refine oWk.st st ?_
  refine oWk.st (fun _ kt => zA X hx hby d6_4 rfl rfl rfl kt) ?_
  obtain ⟨lt3, T, h, X, e2, E3, hZ, hown, B, C, st⟩ := oLdcO X hx hZ hown (oW hw 53 rfl) (oSA hw) e0 (oELw hw) B (g := (mkF m 5 #[rv xa, rv xi, rv xs, rv xg, rv xh] [(.ref xi)])) rfl (hb hby d6_5) (n := 16) (by decide) (by decide) (by decide) (by decide)
  have e0 := e2
  refine oWk.st st ?_
  have K := K.ext E3
  have Oh := K.old O0 (allS og_xa all0)
  obtain ⟨T, L5, X, e0, K, st⟩ := (cs3 hw).pure X hx hZ hown e0 K (A := [(.ref xi), (.ref lt3)]) rfl (rRN2 l Z a0 hw [] xi lt3 h Oh ) (fun _ _ _ q => q) (W := 0) (by decide) hml (Ls := #[rv xa, rv xi, rv xs, rv xg, rv xh]) rfl (rest := []) rfl rfl hby d6_7
  refine oWk.st st ?_
  refine oWk.st (fun _ kt => XS.pop X.here hx rfl (hb hby d6_10) rfl rfl (zA X hx hby d6_11 rfl rfl rfl kt)) ?_
  obtain ⟨lt6, T, h, X, e2, E6, hZ, hown, B, C, st⟩ := oLdcO X hx hZ hown (oW hw 58 rfl) (oSA hw) e0 (oELw hw) B (g := (mkF m 12 #[rv xa, rv xi, rv xs, rv xg, rv xh] [(.ref xs)])) rfl (hb hby d6_12) (n := 16) (by decide) (by decide) (by decide) (by decide)
  have e0 := e2
  refine oWk.st st ?_
  have K := K.ext E6
  have Oh := K.old O0 (allS og_xa all0)
  obtain ⟨T, L8, X, e0, K, st⟩ := (cs3 hw).pure X hx hZ hown e0 K (A := [(.ref xs), (.ref lt6)]) rfl (rRN2 l Z a0 hw [] xs lt6 h Oh ) (fun _ _ _ q => q) (W := 0) (by decide) hml (Ls := #[rv xa, rv xi, rv xs, rv xg, rv xh]) rfl (rest := []) rfl rfl hby d6_14
  refine oWk.st st ?_
  refine oWk.st (fun _ kt => XS.pop X.here hx rfl (hb hby d6_17) rfl rfl (zA X hx hby d6_18 rfl rfl rfl kt)) ?_
  have E_xg := ((E_xg.ext E3).ext E6)
  have F_elementData_xg := ((F_elementData_xg.ext E3).ext E6)
  have F_size_xg := ((F_size_xg.ext E3).ext E6)
  have E_xgf := ((E_xgf.ext E3).ext E6)
  have V_xgf := ((V_xgf.ext E3).ext E6)
  have I_xge0 := ((I_xge0.ext E3).ext E6)
  have I_xge1 := ((I_xge1.ext E3).ext E6)
  have E_xa := ((E_xa.ext E3).ext E6)
  have lt_xa := E_xa.lt
  have lt_xg := E_xg.lt
  have lt_xgf := E_xgf.lt
  have E_xh := ((E_xh.ext E3).ext E6)
  have lt_xh := E_xh.lt
  have E_xhf := ((E_xhf.ext E3).ext E6)
  have lt_xhf := E_xhf.lt
  obtain ⟨_, T, h, Lc10, X, e0, hQ, st⟩ := (cs4 hw).run X hx hZ hown e0 (A := [(.ref xg)]) rfl (rCO_2 l Z a0 hw [] xg xgf xmr xgk xge0 xge1 h Oh mm_ E_xg F_elementData_xg F_size_xg E_xgf V_xgf I_xge0 I_xge1) (W := 0) (by decide) hml (Ls := #[rv xa, rv xi, rv xs, rv xg, rv xh]) rfl (rest := []) rfl rfl hby d6_19
  obtain ⟨nl9, rfl, K9, gn_nl9, E_nl9, F_e0_nl9, F_e1_nl9⟩ := hQ
  have ge_nl9 := Nat.le_trans K.le gn_nl9
  have ne_xa_nl9 : xa ≠ nl9 := Nat.ne_of_lt (Nat.lt_of_lt_of_le lt_xa gn_nl9)
  have ne_xg_nl9 : xg ≠ nl9 := Nat.ne_of_lt (Nat.lt_of_lt_of_le lt_xg gn_nl9)
  have ne_xgf_nl9 : xgf ≠ nl9 := Nat.ne_of_lt (Nat.lt_of_lt_of_le lt_xgf gn_nl9)
  have ne_xh_nl9 : xh ≠ nl9 := Nat.ne_of_lt (Nat.lt_of_lt_of_le lt_xh gn_nl9)
  have ne_xhf_nl9 : xhf ≠ nl9 := Nat.ne_of_lt (Nat.lt_of_lt_of_le lt_xhf gn_nl9)
  have K := K.call K9 all0
  have B := B.keep K9.1 (fun _ _ => oSf)
  refine oWk.st st ?_
  refine oWk.st (fun _ kt => zTn X hx hby d6_22 rfl rfl rfl (l' := #[rv xa, rv xi, rv xs, rv nl9, rv xh]) rfl (zB X hx hby d6_23 rfl rfl rfl kt)) ?_
  have E_xh := (E_xh.keep K9.1)
  have F_elementData_xh := (((F_elementData_xh.ext E3).ext E6).keep K9.1 nin0)
  have F_size_xh := (((F_size_xh.ext E3).ext E6).keep K9.1 nin0)
  have E_xhf := (E_xhf.keep K9.1)
  have V_xhf := (((V_xhf.ext E3).ext E6).keep K9.1 nin0)
  have I_xhe0 := (oInsKeep ((I_xhe0.ext E3).ext E6) K9.1)
  have E_xa := (E_xa.keep K9.1)
  have lt_xa := E_xa.lt
  have E_xg := (E_xg.keep K9.1)
  have lt_xg := E_xg.lt
  have E_xgf := (E_xgf.keep K9.1)
  have lt_xgf := E_xgf.lt
  have lt_xh := E_xh.lt
  have lt_xhf := E_xhf.lt
  have lt_nl9 := E_nl9.lt
  have Oh := K.old O0 (allS og_xa all0)
  obtain ⟨_, T, h, Lc12, X, e0, hQ, st⟩ := (cs4 hw).run X hx hZ hown e0 (A := [(.ref xh)]) rfl (rCO_1 l Z a0 hw [] xh xhf xmr xhk xq xhe0 h Oh S_EMPTY mm_ E_xh F_elementData_xh F_size_xh E_xhf V_xhf I_xhe0) (W := 0) (by decide) hml (Ls := #[rv xa, rv xi, rv xs, rv nl9, rv xh]) rfl (rest := []) rfl rfl hby d6_25
  obtain ⟨nl11, rfl, K11, gn_nl11, E_nl11, F_e0_nl11, F_e1_nl11⟩ := hQ
  have ge_nl11 := Nat.le_trans K.le gn_nl11
  have ne_xa_nl11 : xa ≠ nl11 := Nat.ne_of_lt (Nat.lt_of_lt_of_le lt_xa gn_nl11)
  have ne_xg_nl11 : xg ≠ nl11 := Nat.ne_of_lt (Nat.lt_of_lt_of_le lt_xg gn_nl11)
  have ne_xgf_nl11 : xgf ≠ nl11 := Nat.ne_of_lt (Nat.lt_of_lt_of_le lt_xgf gn_nl11)
  have ne_xh_nl11 : xh ≠ nl11 := Nat.ne_of_lt (Nat.lt_of_lt_of_le lt_xh gn_nl11)
  have ne_xhf_nl11 : xhf ≠ nl11 := Nat.ne_of_lt (Nat.lt_of_lt_of_le lt_xhf gn_nl11)
  have ne_nl9_nl11 : nl9 ≠ nl11 := Nat.ne_of_lt (Nat.lt_of_lt_of_le lt_nl9 gn_nl11)
  have K := K.call K11 all0
  have B := B.keep K11.1 (fun _ _ => oSf)
  refine oWk.st st ?_
  refine oWk.st (fun _ kt => zT X hx hby d6_28 rfl rfl rfl (l' := #[rv xa, rv xi, rv xs, rv nl9, rv nl11]) rfl (zA X hx hby d6_30 rfl rfl rfl (zA X hx hby d6_31 rfl rfl rfl kt))) ?_
  have E_xa := (E_xa.keep K11.1)
  have F_kind_xa := ((((F_kind_xa.ext E3).ext E6).keep K9.1 nin0).keep K11.1 nin0)
  obtain ⟨T, h, X, e0, W13, st⟩ := putF X hx hZ hown (host := "") (Or.inl (oW hw 88 rfl)) Via.refl e0 F_kind_xa E_xa (Or.inr ⟨(oW hw 89 rfl), rfl, hnm⟩) (oW hw 8 rfl) (ty := (.object Y7)) (by decide) rfl rfl (g := (mkF m 32 #[rv xa, rv xi, rv xs, rv nl9, rv nl11] [(.ref xi), (.ref xa)])) rfl rfl (hb hby d6_32)
  refine oWk.st st ?_
  have K := K.wr W13 (Or.inl (List.mem_of_getElem? (i := 0) rfl))
  have B := B.wr W13 oSf
  have F_kind_xa := F_kind_xa.same W13
  refine oWk.st (fun _ kt => zA X hx hby d6_35 rfl rfl rfl (zA X hx hby d6_36 rfl rfl rfl kt)) ?_
  have E_xa := (E_xa.wr W13)
  have F_name_xa := (((((F_name_xa.ext E3).ext E6).keep K9.1 nin0).keep K11.1 nin0).other W13 (Or.inr (slot_ne (Or.inr (oW hw 91 rfl)) (Or.inr (oW hw 89 rfl)) (by decide) (t := (.object Y9)) (t' := (.object Y7)) (by decide) (by decide))))
  obtain ⟨T, h, X, e0, W14, st⟩ := putF X hx hZ hown (host := "") (Or.inl (oW hw 90 rfl)) Via.refl e0 F_name_xa E_xa (Or.inr ⟨(oW hw 91 rfl), rfl, hnm⟩) (oW hw 8 rfl) (ty := (.object Y9)) (by decide) rfl rfl (g := (mkF m 37 #[rv xa, rv xi, rv xs, rv nl9, rv nl11] [(.ref xs), (.ref xa)])) rfl rfl (hb hby d6_37)
  refine oWk.st st ?_
  have K := K.wr W14 (Or.inl (List.mem_of_getElem? (i := 0) rfl))
  have B := B.wr W14 oSf
  have F_name_xa := F_name_xa.same W14
  refine oWk.st (fun _ kt => zA X hx hby d6_40 rfl rfl rfl (zA X hx hby d6_41 rfl rfl rfl kt)) ?_
  have E_xa := (E_xa.wr W14)
  have F_ordered_xa := ((((((F_ordered_xa.ext E3).ext E6).keep K9.1 nin0).keep K11.1 nin0).other W13 (Or.inr (slot_ne (Or.inr (oW hw 93 rfl)) (Or.inr (oW hw 89 rfl)) (by decide) (t := (.object Y3)) (t' := (.object Y7)) (by decide) (by decide)))).other W14 (Or.inr (slot_ne (Or.inr (oW hw 93 rfl)) (Or.inr (oW hw 91 rfl)) (by decide) (t := (.object Y3)) (t' := (.object Y9)) (by decide) (by decide))))
  obtain ⟨T, h, X, e0, W15, st⟩ := putF X hx hZ hown (host := "") (Or.inl (oW hw 92 rfl)) Via.refl e0 F_ordered_xa E_xa (Or.inr ⟨(oW hw 93 rfl), rfl, hnm⟩) (oW hw 8 rfl) (ty := (.object Y3)) (by decide) rfl rfl (g := (mkF m 42 #[rv xa, rv xi, rv xs, rv nl9, rv nl11] [(.ref nl9), (.ref xa)])) rfl rfl (hb hby d6_42)
  refine oWk.st st ?_
  have K := K.wr W15 (Or.inl (List.mem_of_getElem? (i := 0) rfl))
  have B := B.wr W15 oSf
  have F_ordered_xa := F_ordered_xa.same W15
  refine oWk.st (fun _ kt => zA X hx hby d6_45 rfl rfl rfl (zB X hx hby d6_46 rfl rfl rfl kt)) ?_
  have E_xa := (E_xa.wr W15)
  have F_unordered_xa := (((((((F_unordered_xa.ext E3).ext E6).keep K9.1 nin0).keep K11.1 nin0).other W13 (Or.inr (slot_ne (Or.inr (oW hw 95 rfl)) (Or.inr (oW hw 89 rfl)) (by decide) (t := (.object Y3)) (t' := (.object Y7)) (by decide) (by decide)))).other W14 (Or.inr (slot_ne (Or.inr (oW hw 95 rfl)) (Or.inr (oW hw 91 rfl)) (by decide) (t := (.object Y3)) (t' := (.object Y9)) (by decide) (by decide)))).other W15 (Or.inr (slot_ne (Or.inr (oW hw 95 rfl)) (Or.inr (oW hw 93 rfl)) (by decide) (t := (.object Y3)) (t' := (.object Y3)) (by decide) (by decide))))
  obtain ⟨T, h, X, e0, W16, st⟩ := putF X hx hZ hown (host := "") (Or.inl (oW hw 94 rfl)) Via.refl e0 F_unordered_xa E_xa (Or.inr ⟨(oW hw 95 rfl), rfl, hnm⟩) (oW hw 8 rfl) (ty := (.object Y3)) (by decide) rfl rfl (g := (mkF m 48 #[rv xa, rv xi, rv xs, rv nl9, rv nl11] [(.ref nl11), (.ref xa)])) rfl rfl (hb hby d6_48)
  refine oWk.st st ?_
  have K := K.wr W16 (Or.inl (List.mem_of_getElem? (i := 0) rfl))
  have B := B.wr W16 oSf
  have F_unordered_xa := F_unordered_xa.same W16
  have E_xa := (E_xa.wr W16)
  have F_ordered_xa := (F_ordered_xa.other W16 (Or.inr (slot_ne (Or.inr (oW hw 93 rfl)) (Or.inr (oW hw 95 rfl)) (by decide) (t := (.object Y3)) (t' := (.object Y3)) (by decide) (by decide))))
  have E_nl9 := (((((E_nl9.keep K11.1).wr W13).wr W14).wr W15).wr W16)
  have F_e0_nl9 := (((((F_e0_nl9.keep K11.1 nin0).other W13 (Or.inl (Ne.symm ne_xa_nl9))).other W14 (Or.inl (Ne.symm ne_xa_nl9))).other W15 (Or.inl (Ne.symm ne_xa_nl9))).other W16 (Or.inl (Ne.symm ne_xa_nl9)))
  have F_e1_nl9 := (((((F_e1_nl9.keep K11.1 nin0).other W13 (Or.inl (Ne.symm ne_xa_nl9))).other W14 (Or.inl (Ne.symm ne_xa_nl9))).other W15 (Or.inl (Ne.symm ne_xa_nl9))).other W16 (Or.inl (Ne.symm ne_xa_nl9)))
  exact oRetHV X hx hlk hZ (oELw hw) e0 B hret (hb hby d6_51) (by rw [e0]; exact ⟨nl9, rfl, K, E_xa, F_ordered_xa, E_nl9, F_e0_nl9, F_e1_nl9⟩) (by decide) (by decide)
def Q_rNI_2_2 (Z : State) (xa xi xs : Addr) (u1 u2 u3 u4 : Value) (xg xgf : Addr) (xgk : ClassId) (xge0 xge1 xh xhf : Addr) (xhk : ClassId) (xhe0 xhe1 xmr : Addr) (h0 : Heap) (v : Option Value) (h : Heap) (L : List Loc) : Prop := ∃ (nl : Addr), v = none ∧ oKp h0 h [xa] L ∧ (Exa Z h xa Y4) ∧ (Fld Z h xa Y4 "ordered" Y5 (.ref nl)) ∧ (Exa Z h nl Y8) ∧ (Fld Z h nl Y8 "e0" Y10 (.ref xge0)) ∧ (Fld Z h nl Y8 "e1" Y10 (.ref xge1))
theorem rNI_2_2 (l : Launch) (Z : State) (a0 : Array Value) (hw : oHW a0 Z) (ws : List Jvm.Cond) (xa xi xs : Addr) (u1 u2 u3 u4 : Value) (xg xgf : Addr) (xgk : ClassId) (xge0 xge1 xh xhf : Addr) (xhk : ClassId) (xhe0 xhe1 xmr : Addr) (h0 : Heap) (O0 : Ext Z.heap h0) (mm_ : oMir Z Y2 xmr) (og_xa : Z.heap.size ≤ xa) (E_xa : Exa Z h0 xa Y4) (F_kind_xa : Fld Z h0 xa Y4 "kind" Y13 u1) (F_name_xa : Fld Z h0 xa Y4 "name" Y14 u2) (F_ordered_xa : Fld Z h0 xa Y4 "ordered" Y5 u3) (F_unordered_xa : Fld Z h0 xa Y4 "unordered" Y5 u4) (E_xg : Exa Z h0 xg Y1) (F_elementData_xg : Fld Z h0 xg Y1 "elementData" Y2 (.ref xgf)) (F_size_xg : Fld Z h0 xg Y1 "size" "I" (.int (2 : Int32))) (E_xgf : Exa Z h0 xgf Y2) (V_xgf : Arv Z h0 xgf xgk (.object Y0) (10 : Int32) [(.ref xge0), (.ref xge1), .null, .null, .null, .null, .null, .null, .null, .null] .null) (I_xge0 : Ins Z h0 xge0 Y0 true) (I_xge1 : Ins Z h0 xge1 Y0 true) (E_xh : Exa Z h0 xh Y1) (F_elementData_xh : Fld Z h0 xh Y1 "elementData" Y2 (.ref xhf)) (F_size_xh : Fld Z h0 xh Y1 "size" "I" (.int (2 : Int32))) (E_xhf : Exa Z h0 xhf Y2) (V_xhf : Arv Z h0 xhf xhk (.object Y0) (10 : Int32) [(.ref xhe0), (.ref xhe1), .null, .null, .null, .null, .null, .null, .null, .null] .null) (I_xhe0 : Ins Z h0 xhe0 Y0 true) (I_xhe1 : Ins Z h0 xhe1 Y0 true) :
    oConH l Z oEL yy7 prog_27_method_1_code 5 none ws ({ frames := 8, cells := 8, slots := 48, locals := 101 } : Room) #[(.ref xa), (.ref xi), (.ref xs), (.ref xg), (.ref xh)] h0 [xa] (Q_rNI_2_2 Z xa xi xs u1 u2 u3 u4 xg xgf xgk xge0 xge1 xh xhf xhk xhe0 xhe1 xmr h0) := by
  refine oConH.of (plainFor_of_name pn_5) ?_
  intro p e s m below meth c T vm X hx hby hml hown hnm hret hlk hZ e0 B hsf
  have hml : c.maxLocals = 5 := hml
  have K : oKp h0 h0 [xa] [] := oKp.nil _ _
  refine oWk.cast (g' := (mkF m 0 #[rv xa, rv xi, rv xs, rv xg, rv xh] [])) (by first | rfl | (simp [entryFrame, mkF, argsToLocals, Value.category]; done)) ?_
  refine oWk.st (fun _ kt => zA X hx hby d6_0 rfl rfl rfl kt) ?_
  have Oh := K.old O0 (allS og_xa all0)
  obtain ⟨T, L2, X, e0, K, st⟩ := (cs2 hw).pure X hx hZ hown e0 K (A := [(.ref xa)]) ⟨rfl, _, _, rfl⟩ (rRec l Z a0 hw [] xa h0 Oh ) (fun _ _ _ q => q) (W := 0) (by decide) hml (Ls := #[rv xa, rv xi, rv xs, rv xg, rv xh]) rfl (rest := []) rfl rfl hby d6_1
  refine oWk.st st ?_
  refine oWk.st (fun _ kt => zA X hx hby d6_4 rfl rfl rfl kt) ?_
  obtain ⟨lt3, T, h, X, e2, E3, hZ, hown, B, C, st⟩ := oLdcO X hx hZ hown (oW hw 53 rfl) (oSA hw) e0 (oELw hw) B (g := (mkF m 5 #[rv xa, rv xi, rv xs, rv xg, rv xh] [(.ref xi)])) rfl (hb hby d6_5) (n := 16) (by decide) (by decide) (by decide) (by decide)
  have e0 := e2
  refine oWk.st st ?_
  have K := K.ext E3
  have Oh := K.old O0 (allS og_xa all0)
  obtain ⟨T, L5, X, e0, K, st⟩ := (cs3 hw).pure X hx hZ hown e0 K (A := [(.ref xi), (.ref lt3)]) rfl (rRN2 l Z a0 hw [] xi lt3 h Oh ) (fun _ _ _ q => q) (W := 0) (by decide) hml (Ls := #[rv xa, rv xi, rv xs, rv xg, rv xh]) rfl (rest := []) rfl rfl hby d6_7
  refine oWk.st st ?_
  refine oWk.st (fun _ kt => XS.pop X.here hx rfl (hb hby d6_10) rfl rfl (zA X hx hby d6_11 rfl rfl rfl kt)) ?_
  obtain ⟨lt6, T, h, X, e2, E6, hZ, hown, B, C, st⟩ := oLdcO X hx hZ hown (oW hw 58 rfl) (oSA hw) e0 (oELw hw) B (g := (mkF m 12 #[rv xa, rv xi, rv xs, rv xg, rv xh] [(.ref xs)])) rfl (hb hby d6_12) (n := 16) (by decide) (by decide) (by decide) (by decide)
  have e0 := e2
  refine oWk.st st ?_
  have K := K.ext E6
  have Oh := K.old O0 (allS og_xa all0)
  obtain ⟨T, L8, X, e0, K, st⟩ := (cs3 hw).pure X hx hZ hown e0 K (A := [(.ref xs), (.ref lt6)]) rfl (rRN2 l Z a0 hw [] xs lt6 h Oh ) (fun _ _ _ q => q) (W := 0) (by decide) hml (Ls := #[rv xa, rv xi, rv xs, rv xg, rv xh]) rfl (rest := []) rfl rfl hby d6_14
  refine oWk.st st ?_
  refine oWk.st (fun _ kt => XS.pop X.here hx rfl (hb hby d6_17) rfl rfl (zA X hx hby d6_18 rfl rfl rfl kt)) ?_
  have E_xg := ((E_xg.ext E3).ext E6)
  have F_elementData_xg := ((F_elementData_xg.ext E3).ext E6)
  have F_size_xg := ((F_size_xg.ext E3).ext E6)
  have E_xgf := ((E_xgf.ext E3).ext E6)
  have V_xgf := ((V_xgf.ext E3).ext E6)
  have I_xge0 := ((I_xge0.ext E3).ext E6)
  have I_xge1 := ((I_xge1.ext E3).ext E6)
  have E_xa := ((E_xa.ext E3).ext E6)
  have lt_xa := E_xa.lt
  have lt_xg := E_xg.lt
  have lt_xgf := E_xgf.lt
  have E_xh := ((E_xh.ext E3).ext E6)
  have lt_xh := E_xh.lt
  have E_xhf := ((E_xhf.ext E3).ext E6)
  have lt_xhf := E_xhf.lt
  obtain ⟨_, T, h, Lc10, X, e0, hQ, st⟩ := (cs4 hw).run X hx hZ hown e0 (A := [(.ref xg)]) rfl (rCO_2 l Z a0 hw [] xg xgf xmr xgk xge0 xge1 h Oh mm_ E_xg F_elementData_xg F_size_xg E_xgf V_xgf I_xge0 I_xge1) (W := 0) (by decide) hml (Ls := #[rv xa, rv xi, rv xs, rv xg, rv xh]) rfl (rest := []) rfl rfl hby d6_19
  obtain ⟨nl9, rfl, K9, gn_nl9, E_nl9, F_e0_nl9, F_e1_nl9⟩ := hQ
  have ge_nl9 := Nat.le_trans K.le gn_nl9
  have ne_xa_nl9 : xa ≠ nl9 := Nat.ne_of_lt (Nat.lt_of_lt_of_le lt_xa gn_nl9)
  have ne_xg_nl9 : xg ≠ nl9 := Nat.ne_of_lt (Nat.lt_of_lt_of_le lt_xg gn_nl9)
  have ne_xgf_nl9 : xgf ≠ nl9 := Nat.ne_of_lt (Nat.lt_of_lt_of_le lt_xgf gn_nl9)
  have ne_xh_nl9 : xh ≠ nl9 := Nat.ne_of_lt (Nat.lt_of_lt_of_le lt_xh gn_nl9)
  have ne_xhf_nl9 : xhf ≠ nl9 := Nat.ne_of_lt (Nat.lt_of_lt_of_le lt_xhf gn_nl9)
  have K := K.call K9 all0
  have B := B.keep K9.1 (fun _ _ => oSf)
  refine oWk.st st ?_
  refine oWk.st (fun _ kt => zTn X hx hby d6_22 rfl rfl rfl (l' := #[rv xa, rv xi, rv xs, rv nl9, rv xh]) rfl (zB X hx hby d6_23 rfl rfl rfl kt)) ?_
  have E_xh := (E_xh.keep K9.1)
  have F_elementData_xh := (((F_elementData_xh.ext E3).ext E6).keep K9.1 nin0)
  have F_size_xh := (((F_size_xh.ext E3).ext E6).keep K9.1 nin0)
  have E_xhf := (E_xhf.keep K9.1)
  have V_xhf := (((V_xhf.ext E3).ext E6).keep K9.1 nin0)
  have I_xhe0 := (oInsKeep ((I_xhe0.ext E3).ext E6) K9.1)
  have I_xhe1 := (oInsKeep ((I_xhe1.ext E3).ext E6) K9.1)
  have E_xa := (E_xa.keep K9.1)
  have lt_xa := E_xa.lt
  have E_xg := (E_xg.keep K9.1)
  have lt_xg := E_xg.lt
  have E_xgf := (E_xgf.keep K9.1)
  have lt_xgf := E_xgf.lt
  have lt_xh := E_xh.lt
  have lt_xhf := E_xhf.lt
  have lt_nl9 := E_nl9.lt
  have Oh := K.old O0 (allS og_xa all0)
  obtain ⟨_, T, h, Lc12, X, e0, hQ, st⟩ := (cs4 hw).run X hx hZ hown e0 (A := [(.ref xh)]) rfl (rCO_2 l Z a0 hw [] xh xhf xmr xhk xhe0 xhe1 h Oh mm_ E_xh F_elementData_xh F_size_xh E_xhf V_xhf I_xhe0 I_xhe1) (W := 0) (by decide) hml (Ls := #[rv xa, rv xi, rv xs, rv nl9, rv xh]) rfl (rest := []) rfl rfl hby d6_25
  obtain ⟨nl11, rfl, K11, gn_nl11, E_nl11, F_e0_nl11, F_e1_nl11⟩ := hQ
  have ge_nl11 := Nat.le_trans K.le gn_nl11
  have ne_xa_nl11 : xa ≠ nl11 := Nat.ne_of_lt (Nat.lt_of_lt_of_le lt_xa gn_nl11)
  have ne_xg_nl11 : xg ≠ nl11 := Nat.ne_of_lt (Nat.lt_of_lt_of_le lt_xg gn_nl11)
  have ne_xgf_nl11 : xgf ≠ nl11 := Nat.ne_of_lt (Nat.lt_of_lt_of_le lt_xgf gn_nl11)
  have ne_xh_nl11 : xh ≠ nl11 := Nat.ne_of_lt (Nat.lt_of_lt_of_le lt_xh gn_nl11)
  have ne_xhf_nl11 : xhf ≠ nl11 := Nat.ne_of_lt (Nat.lt_of_lt_of_le lt_xhf gn_nl11)
  have ne_nl9_nl11 : nl9 ≠ nl11 := Nat.ne_of_lt (Nat.lt_of_lt_of_le lt_nl9 gn_nl11)
  have K := K.call K11 all0
  have B := B.keep K11.1 (fun _ _ => oSf)
  refine oWk.st st ?_
  refine oWk.st (fun _ kt => zT X hx hby d6_28 rfl rfl rfl (l' := #[rv xa, rv xi, rv xs, rv nl9, rv nl11]) rfl (zA X hx hby d6_30 rfl rfl rfl (zA X hx hby d6_31 rfl rfl rfl kt))) ?_
  have E_xa := (E_xa.keep K11.1)
  have F_kind_xa := ((((F_kind_xa.ext E3).ext E6).keep K9.1 nin0).keep K11.1 nin0)
  obtain ⟨T, h, X, e0, W13, st⟩ := putF X hx hZ hown (host := "") (Or.inl (oW hw 88 rfl)) Via.refl e0 F_kind_xa E_xa (Or.inr ⟨(oW hw 89 rfl), rfl, hnm⟩) (oW hw 8 rfl) (ty := (.object Y7)) (by decide) rfl rfl (g := (mkF m 32 #[rv xa, rv xi, rv xs, rv nl9, rv nl11] [(.ref xi), (.ref xa)])) rfl rfl (hb hby d6_32)
  refine oWk.st st ?_
  have K := K.wr W13 (Or.inl (List.mem_of_getElem? (i := 0) rfl))
  have B := B.wr W13 oSf
  have F_kind_xa := F_kind_xa.same W13
  refine oWk.st (fun _ kt => zA X hx hby d6_35 rfl rfl rfl (zA X hx hby d6_36 rfl rfl rfl kt)) ?_
  have E_xa := (E_xa.wr W13)
  have F_name_xa := (((((F_name_xa.ext E3).ext E6).keep K9.1 nin0).keep K11.1 nin0).other W13 (Or.inr (slot_ne (Or.inr (oW hw 91 rfl)) (Or.inr (oW hw 89 rfl)) (by decide) (t := (.object Y9)) (t' := (.object Y7)) (by decide) (by decide))))
  obtain ⟨T, h, X, e0, W14, st⟩ := putF X hx hZ hown (host := "") (Or.inl (oW hw 90 rfl)) Via.refl e0 F_name_xa E_xa (Or.inr ⟨(oW hw 91 rfl), rfl, hnm⟩) (oW hw 8 rfl) (ty := (.object Y9)) (by decide) rfl rfl (g := (mkF m 37 #[rv xa, rv xi, rv xs, rv nl9, rv nl11] [(.ref xs), (.ref xa)])) rfl rfl (hb hby d6_37)
  refine oWk.st st ?_
  have K := K.wr W14 (Or.inl (List.mem_of_getElem? (i := 0) rfl))
  have B := B.wr W14 oSf
  have F_name_xa := F_name_xa.same W14
  refine oWk.st (fun _ kt => zA X hx hby d6_40 rfl rfl rfl (zA X hx hby d6_41 rfl rfl rfl kt)) ?_
  have E_xa := (E_xa.wr W14)
  have F_ordered_xa := ((((((F_ordered_xa.ext E3).ext E6).keep K9.1 nin0).keep K11.1 nin0).other W13 (Or.inr (slot_ne (Or.inr (oW hw 93 rfl)) (Or.inr (oW hw 89 rfl)) (by decide) (t := (.object Y3)) (t' := (.object Y7)) (by decide) (by decide)))).other W14 (Or.inr (slot_ne (Or.inr (oW hw 93 rfl)) (Or.inr (oW hw 91 rfl)) (by decide) (t := (.object Y3)) (t' := (.object Y9)) (by decide) (by decide))))
  obtain ⟨T, h, X, e0, W15, st⟩ := putF X hx hZ hown (host := "") (Or.inl (oW hw 92 rfl)) Via.refl e0 F_ordered_xa E_xa (Or.inr ⟨(oW hw 93 rfl), rfl, hnm⟩) (oW hw 8 rfl) (ty := (.object Y3)) (by decide) rfl rfl (g := (mkF m 42 #[rv xa, rv xi, rv xs, rv nl9, rv nl11] [(.ref nl9), (.ref xa)])) rfl rfl (hb hby d6_42)
  refine oWk.st st ?_
  have K := K.wr W15 (Or.inl (List.mem_of_getElem? (i := 0) rfl))
  have B := B.wr W15 oSf
  have F_ordered_xa := F_ordered_xa.same W15
  refine oWk.st (fun _ kt => zA X hx hby d6_45 rfl rfl rfl (zB X hx hby d6_46 rfl rfl rfl kt)) ?_
  have E_xa := (E_xa.wr W15)
  have F_unordered_xa := (((((((F_unordered_xa.ext E3).ext E6).keep K9.1 nin0).keep K11.1 nin0).other W13 (Or.inr (slot_ne (Or.inr (oW hw 95 rfl)) (Or.inr (oW hw 89 rfl)) (by decide) (t := (.object Y3)) (t' := (.object Y7)) (by decide) (by decide)))).other W14 (Or.inr (slot_ne (Or.inr (oW hw 95 rfl)) (Or.inr (oW hw 91 rfl)) (by decide) (t := (.object Y3)) (t' := (.object Y9)) (by decide) (by decide)))).other W15 (Or.inr (slot_ne (Or.inr (oW hw 95 rfl)) (Or.inr (oW hw 93 rfl)) (by decide) (t := (.object Y3)) (t' := (.object Y3)) (by decide) (by decide))))
  obtain ⟨T, h, X, e0, W16, st⟩ := putF X hx hZ hown (host := "") (Or.inl (oW hw 94 rfl)) Via.refl e0 F_unordered_xa E_xa (Or.inr ⟨(oW hw 95 rfl), rfl, hnm⟩) (oW hw 8 rfl) (ty := (.object Y3)) (by decide) rfl rfl (g := (mkF m 48 #[rv xa, rv xi, rv xs, rv nl9, rv nl11] [(.ref nl11), (.ref xa)])) rfl rfl (hb hby d6_48)
  refine oWk.st st ?_
  have K := K.wr W16 (Or.inl (List.mem_of_getElem? (i := 0) rfl))
  have B := B.wr W16 oSf
  have F_unordered_xa := F_unordered_xa.same W16
  have E_xa := (E_xa.wr W16)
  have F_ordered_xa := (F_ordered_xa.other W16 (Or.inr (slot_ne (Or.inr (oW hw 93 rfl)) (Or.inr (oW hw 95 rfl)) (by decide) (t := (.object Y3)) (t' := (.object Y3)) (by decide) (by decide))))
  have E_nl9 := (((((E_nl9.keep K11.1).wr W13).wr W14).wr W15).wr W16)
  have F_e0_nl9 := (((((F_e0_nl9.keep K11.1 nin0).other W13 (Or.inl (Ne.symm ne_xa_nl9))).other W14 (Or.inl (Ne.symm ne_xa_nl9))).other W15 (Or.inl (Ne.symm ne_xa_nl9))).other W16 (Or.inl (Ne.symm ne_xa_nl9)))
  have F_e1_nl9 := (((((F_e1_nl9.keep K11.1 nin0).other W13 (Or.inl (Ne.symm ne_xa_nl9))).other W14 (Or.inl (Ne.symm ne_xa_nl9))).other W15 (Or.inl (Ne.symm ne_xa_nl9))).other W16 (Or.inl (Ne.symm ne_xa_nl9)))
  exact oRetHV X hx hlk hZ (oELw hw) e0 B hret (hb hby d6_51) (by rw [e0]; exact ⟨nl9, rfl, K, E_xa, F_ordered_xa, E_nl9, F_e0_nl9, F_e1_nl9⟩) (by decide) (by decide)
def Q_rA3_2 (Z : State) (xa xx xf : Addr) (xk : ClassId) (xm : Int32) (xe0 xe1 : Addr) (h0 : Heap) (v : Option Value) (h : Heap) (L : List Loc) : Prop := v = none ∧ oKp h0 h [xa, xf] L ∧ (Exa Z h xa Y1) ∧ (Fld Z h xa Y1 "elementData" Y2 (.ref xf)) ∧ (Fld Z h xa Y1 "size" "I" (.int (3 : Int32))) ∧ (Fld Z h xa Y11 "modCount" "I" (.int xm)) ∧ (Exa Z h xf Y2) ∧ (Arv Z h xf xk (.object Y0) (10 : Int32) [(.ref xe0), (.ref xe1), (.ref xx), .null, .null, .null, .null, .null, .null, .null] .null)
theorem rA3_2 (l : Launch) (Z : State) (a0 : Array Value) (hw : oHW a0 Z) (ws : List Jvm.Cond) (xa xx xf : Addr) (xk : ClassId) (xm : Int32) (xe0 xe1 : Addr) (h0 : Heap) (O0 : Ext Z.heap h0) (og_xa : Z.heap.size ≤ xa) (og_xf : Z.heap.size ≤ xf) (ne_xa_xf : xa ≠ xf) (E_xa : Exa Z h0 xa Y1) (F_elementData_xa : Fld Z h0 xa Y1 "elementData" Y2 (.ref xf)) (F_size_xa : Fld Z h0 xa Y1 "size" "I" (.int (2 : Int32))) (F_modCount_xa : Fld Z h0 xa Y11 "modCount" "I" (.int xm)) (E_xf : Exa Z h0 xf Y2) (V_xf : Arv Z h0 xf xk (.object Y0) (10 : Int32) [(.ref xe0), (.ref xe1), .null, .null, .null, .null, .null, .null, .null, .null] .null) (ov_xk : Ovr Z xk Y0) (I_xx : Ins Z h0 xx Y0 true) :
    oCon l Z yy15 jdk_38_method_24_code 4 none ws ({ frames := 0, cells := 0, slots := 0, locals := 0 } : Room) #[(.ref xa), (.ref xx), (.ref xf), (.int (2 : Int32))] h0 (Q_rA3_2 Z xa xx xf xk xm xe0 xe1 h0) := by
  refine oCon.of (plainFor_of_name pn_2) ?_
  intro p e s m below meth c T X hx hby hml hown hnm hret hlk hZ e0
  have hml : c.maxLocals = 4 := hml
  have K : oKp h0 h0 [xa, xf] [] := oKp.nil _ _
  refine oWk.cast (g' := (mkF m 0 #[rv xa, rv xx, rv xf, iv 2] [])) (by first | rfl | (simp [entryFrame, mkF, argsToLocals, Value.category]; done)) ?_
  refine oWk.st (fun _ kt => zI X hx hby d14_0 rfl rfl (zA X hx hby d14_1 rfl rfl rfl kt)) ?_
  obtain ⟨cl1, Ar1, q1, Sz1, Nn1, Hs1, Ft1⟩ := id V_xf
  refine oWk.st (fun _ kt => X.arraylength hx (by rw [e0]; exact Ar1.1) (State.isArrayOf_alike hZ.alike Ar1.2.1) (g := (mkF m 2 #[rv xa, rv xx, rv xf, iv 2] [(.ref xf), (.int 2)])) rfl rfl (hb hby d14_2) _ kt) ?_
  rw [len_of Sz1 Nn1]
  refine oWk.st (fun _ kt => zY X hx hby d14_3 rfl rfl (feq (by decide)).2 (pc' := 11) rfl (zA X hx hby d14_11 rfl rfl rfl (zI X hx hby d14_12 rfl rfl (zA X hx hby d14_13 rfl rfl rfl kt)))) ?_
  obtain ⟨cl2, Ar2, q2, Sz2, Nn2, Hs2, Ft2⟩ := id V_xf
  have hin2 : ¬ ((2 : Int32) < 0 ∨ cl2.slots.size ≤ ((2 : Int32)).toNatClampNeg) := inb_of Sz2 ⟨by decide, by decide⟩
  obtain ⟨T, h, X, e0, W2, st⟩ := stR X hx hZ e0 Ar2 (j := (2 : Int32)) hin2 rfl (Sto.ofV Ar2 q2 ov_xk I_xx) (g := (mkF m 14 #[rv xa, rv xx, rv xf, iv 2] [(.ref xx), (.int 2), (.ref xf)])) rfl rfl (hb hby d14_14)
  refine oWk.st st ?_
  have K := K.wr W2 (Or.inl (List.mem_of_getElem? (i := 1) rfl))
  have V_xf : Arv Z h xf xk (.object Y0) (10 : Int32) [(.ref xe0), (.ref xe1), (.ref xx), .null, .null, .null, .null, .null, .null, .null] .null := Arv.set Ar2 q2 Sz2 Nn2 Hs2 Ft2 rfl W2 2 rfl (Nat.le_of_ble_eq_true rfl)
  refine oWk.st (fun _ kt => zA X hx hby d14_15 rfl rfl rfl (zI X hx hby d14_16 rfl rfl (zK X hx hby d14_17 rfl (XS.iadd X.here hx rfl (hb hby d14_18) rfl kt)))) ?_
  show oWk _ _ _ _ T (mkF m 19 #[rv xa, rv xx, rv xf, iv 2] [(.int ((2 : Int32) + (1 : Int32))), (.ref xa)])
  rw [show ((2 : Int32) + (1 : Int32)) = (3 : Int32) from by decide]
  show oWk _ _ _ _ T (mkF m 19 #[rv xa, rv xx, rv xf, iv 2] [(.int 3), (.ref xa)])
  have E_xa := (E_xa.wr W2)
  have F_size_xa := (F_size_xa.other W2 (Or.inl ne_xa_xf))
  obtain ⟨T, h, X, e0, W3, st⟩ := putF X hx hZ hown (host := "") (Or.inl (oW hw 82 rfl)) Via.refl e0 F_size_xa E_xa (Or.inl (oW hw 83 rfl)) (oW hw 19 rfl) (ty := .int) (by decide) rfl rfl (g := (mkF m 19 #[rv xa, rv xx, rv xf, iv 2] [(.int 3), (.ref xa)])) rfl rfl (hb hby d14_19)
  refine oWk.st st ?_
  have K := K.wr W3 (Or.inl (List.mem_of_getElem? (i := 0) rfl))
  have F_size_xa := F_size_xa.same W3
  have E_xa := (E_xa.wr W3)
  have F_elementData_xa := ((F_elementData_xa.other W2 (Or.inl ne_xa_xf)).other W3 (Or.inr (slot_ne (Or.inl (oW hw 43 rfl)) (Or.inl (oW hw 83 rfl)) (by decide) (t := (.array (.object Y0))) (t' := .int) (by decide) (by decide))))
  have F_modCount_xa := ((F_modCount_xa.other W2 (Or.inl ne_xa_xf)).other W3 (Or.inr (slot_ne (Or.inl (oW hw 40 rfl)) (Or.inl (oW hw 83 rfl)) (by decide) (t := .int) (t' := .int) (by decide) (by decide))))
  have E_xf := ((E_xf.wr W2).wr W3)
  have V_xf := (V_xf.other W3 (Ne.symm ne_xa_xf))
  exact oRetV X hx hlk hret (hb hby d14_22) (by rw [e0]; exact ⟨rfl, K, E_xa, F_elementData_xa, F_size_xa, F_modCount_xa, E_xf, V_xf⟩) (by decide) (by decide)
def Q_rAd_2 (Z : State) (xa xx xf : Addr) (xk : ClassId) (xm : Int32) (xe0 xe1 : Addr) (h0 : Heap) (v : Option Value) (h : Heap) (L : List Loc) : Prop := v = some (.int (1 : Int32)) ∧ oKp h0 h [xa, xf] L ∧ (Exa Z h xa Y1) ∧ (Fld Z h xa Y1 "elementData" Y2 (.ref xf)) ∧ (Fld Z h xa Y1 "size" "I" (.int (3 : Int32))) ∧ (Fld Z h xa Y11 "modCount" "I" (.int (xm + (1 : Int32)))) ∧ (Exa Z h xf Y2) ∧ (Arv Z h xf xk (.object Y0) (10 : Int32) [(.ref xe0), (.ref xe1), (.ref xx), .null, .null, .null, .null, .null, .null, .null] .null)
theorem rAd_2 (l : Launch) (Z : State) (a0 : Array Value) (hw : oHW a0 Z) (ws : List Jvm.Cond) (xa xx xf : Addr) (xk : ClassId) (xm : Int32) (xe0 xe1 : Addr) (h0 : Heap) (O0 : Ext Z.heap h0) (og_xa : Z.heap.size ≤ xa) (og_xf : Z.heap.size ≤ xf) (ne_xa_xf : xa ≠ xf) (E_xa : Exa Z h0 xa Y1) (F_elementData_xa : Fld Z h0 xa Y1 "elementData" Y2 (.ref xf)) (F_size_xa : Fld Z h0 xa Y1 "size" "I" (.int (2 : Int32))) (F_modCount_xa : Fld Z h0 xa Y11 "modCount" "I" (.int xm)) (E_xf : Exa Z h0 xf Y2) (V_xf : Arv Z h0 xf xk (.object Y0) (10 : Int32) [(.ref xe0), (.ref xe1), .null, .null, .null, .null, .null, .null, .null, .null] .null) (ov_xk : Ovr Z xk Y0) (I_xx : Ins Z h0 xx Y0 true) :
    oCon l Z yy16 jdk_38_method_25_code 2 (some .boolean) ws ({ frames := 1, cells := 0, slots := 0, locals := 15 } : Room) #[(.ref xa), (.ref xx)] h0 (Q_rAd_2 Z xa xx xf xk xm xe0 xe1 h0) := by
  refine oCon.of (plainFor_of_name pn_2) ?_
  intro p e s m below meth c T X hx hby hml hown hnm hret hlk hZ e0
  have hml : c.maxLocals = 2 := hml
  have K : oKp h0 h0 [xa, xf] [] := oKp.nil _ _
  refine oWk.cast (g' := (mkF m 0 #[rv xa, rv xx] [])) (by first | rfl | (simp [entryFrame, mkF, argsToLocals, Value.category]; done)) ?_
  refine oWk.st (fun _ kt => zA X hx hby d13_0 rfl rfl rfl (zD X hx hby d13_1 rfl rfl rfl kt)) ?_
  obtain ⟨T, X, e0, st⟩ := getF X hx hZ hown (host := "") (Or.inl (oW hw 106 rfl)) (Via.of (oW hw 107 rfl)) e0 F_modCount_xa (g := (mkF m 2 #[rv xa, rv xx] [(.ref xa), (.ref xa)])) rfl rfl (hb hby d13_2)
  refine oWk.st st ?_
  refine oWk.st (fun _ kt => zK X hx hby d13_5 rfl (XS.iadd X.here hx rfl (hb hby d13_6) rfl kt)) ?_
  obtain ⟨T, h, X, e0, W1, st⟩ := putF X hx hZ hown (host := "") (Or.inl (oW hw 106 rfl)) (Via.of (oW hw 107 rfl)) e0 F_modCount_xa E_xa (Or.inl (oW hw 40 rfl)) (oW hw 19 rfl) (ty := .int) (by decide) rfl rfl (g := (mkF m 7 #[rv xa, rv xx] [(.int (xm + (1 : Int32))), (.ref xa)])) rfl rfl (hb hby d13_7)
  refine oWk.st st ?_
  have K := K.wr W1 (Or.inl (List.mem_of_getElem? (i := 0) rfl))
  have F_modCount_xa := F_modCount_xa.same W1
  refine oWk.st (fun _ kt => zA X hx hby d13_10 rfl rfl rfl (zA X hx hby d13_11 rfl rfl rfl (zA X hx hby d13_12 rfl rfl rfl kt))) ?_
  have F_elementData_xa := (F_elementData_xa.other W1 (Or.inr (slot_ne (Or.inl (oW hw 43 rfl)) (Or.inl (oW hw 40 rfl)) (by decide) (t := (.array (.object Y0))) (t' := .int) (by decide) (by decide))))
  obtain ⟨T, X, e0, st⟩ := getF X hx hZ hown (host := "") (Or.inl (oW hw 42 rfl)) Via.refl e0 F_elementData_xa (g := (mkF m 13 #[rv xa, rv xx] [(.ref xa), (.ref xx), (.ref xa)])) rfl rfl (hb hby d13_13)
  refine oWk.st st ?_
  refine oWk.st (fun _ kt => zA X hx hby d13_16 rfl rfl rfl kt) ?_
  have F_size_xa := (F_size_xa.other W1 (Or.inr (slot_ne (Or.inl (oW hw 83 rfl)) (Or.inl (oW hw 40 rfl)) (by decide) (t := .int) (t' := .int) (by decide) (by decide))))
  obtain ⟨T, X, e0, st⟩ := getF X hx hZ hown (host := "") (Or.inl (oW hw 82 rfl)) Via.refl e0 F_size_xa (g := (mkF m 17 #[rv xa, rv xx] [(.ref xa), (.ref xf), (.ref xx), (.ref xa)])) rfl rfl (hb hby d13_17)
  refine oWk.st st ?_
  have E_xa := (E_xa.wr W1)
  have E_xf := (E_xf.wr W1)
  have V_xf := (V_xf.other W1 (Ne.symm ne_xa_xf))
  have I_xx := (I_xx.wr W1)
  have Oh := K.old O0 (allS og_xa (allS og_xf all0))
  obtain ⟨_, T, h, Lc3, X, e0, hQ, st⟩ := (cs11 hw).run X hx hZ hown e0 (A := [(.ref xa), (.ref xx), (.ref xf), (.int (2 : Int32))]) ⟨rfl, _, _, rfl, E_xa⟩ (rA3_2 l Z a0 hw [] xa xx xf xk (xm + (1 : Int32)) xe0 xe1 h Oh og_xa og_xf ne_xa_xf E_xa F_elementData_xa F_size_xa F_modCount_xa E_xf V_xf ov_xk I_xx) (W := 0) (by decide) hml (Ls := #[rv xa, rv xx]) rfl (rest := []) rfl rfl hby d13_20
  obtain ⟨rfl, K2, E_xa, F_elementData_xa, F_size_xa, F_modCount_xa, E_xf, V_xf⟩ := hQ
  have K := K.call K2 (allS (Or.inl (List.mem_of_getElem? (i := 0) rfl)) (allS (Or.inl (List.mem_of_getElem? (i := 1) rfl)) all0))
  refine oWk.st st ?_
  refine oWk.st (fun _ kt => zK X hx hby d13_23 rfl kt) ?_
  show oWk _ _ _ _ T (mkF m 24 #[rv xa, rv xx] [(.int 1)])
  exact oRetZ X hx hlk hret (hb hby d13_24) (Or.inr rfl) (by rw [e0]; exact ⟨rfl, K, E_xa, F_elementData_xa, F_size_xa, F_modCount_xa, E_xf, V_xf⟩) (by decide) (by decide)
def Q_rEmp3 (Z : State) (xa : Addr) (h0 : Heap) (v : Option Value) (h : Heap) (L : List Loc) : Prop := v = some (.int (0 : Int32)) ∧ h = h0 ∧ oKp h0 h [] L
theorem rEmp3 (l : Launch) (Z : State) (a0 : Array Value) (hw : oHW a0 Z) (ws : List Jvm.Cond) (xa : Addr) (h0 : Heap) (O0 : Ext Z.heap h0) (F_size_xa : Fld Z h0 xa Y1 "size" "I" (.int (3 : Int32))) :
    oCon l Z yy2 jdk_38_method_9_code 1 (some .boolean) ws ({ frames := 0, cells := 0, slots := 0, locals := 0 } : Room) #[(.ref xa)] h0 (Q_rEmp3 Z xa h0) := by
  refine oCon.of (plainFor_of_name pn_2) ?_
  intro p e s m below meth c T X hx hby hml hown hnm hret hlk hZ e0
  have hml : c.maxLocals = 1 := hml
  have K : oKp h0 h0 [] [] := oKp.nil _ _
  refine oWk.cast (g' := (mkF m 0 #[rv xa] [])) (by first | rfl | (simp [entryFrame, mkF, argsToLocals, Value.category]; done)) ?_
  refine oWk.st (fun _ kt => zA X hx hby d11_0 rfl rfl rfl kt) ?_
  obtain ⟨T, X, e0, st⟩ := getF X hx hZ hown (host := "") (Or.inl (oW hw 82 rfl)) Via.refl e0 F_size_xa (g := (mkF m 1 #[rv xa] [(.ref xa)])) rfl rfl (hb hby d11_1)
  refine oWk.st st ?_
  refine oWk.st (fun _ kt => zF X hx hby d11_4 rfl rfl ((if0 _ _).trans (feq (by decide)).2) (pc' := 11) rfl (zK X hx hby d11_11 rfl kt)) ?_
  show oWk _ _ _ _ T (mkF m 12 #[rv xa] [(.int 0)])
  exact oRetZ X hx hlk hret (hb hby d11_12) (Or.inl rfl) (by rw [e0]; exact ⟨rfl, rfl, K⟩) (by decide) (by decide)
def Q_rMin3 (Z : State)  (h0 : Heap) (v : Option Value) (h : Heap) (L : List Loc) : Prop := v = some (.int (3 : Int32)) ∧ h = h0 ∧ oKp h0 h [] L
theorem rMin3 (l : Launch) (Z : State) (a0 : Array Value) (hw : oHW a0 Z) (ws : List Jvm.Cond)  (h0 : Heap) (O0 : Ext Z.heap h0)  :
    oCon l Z yy17 jdk_29_method_69_code 2 (some .int) ws ({ frames := 0, cells := 0, slots := 0, locals := 0 } : Room) #[(.int (10 : Int32)), (.int (3 : Int32))] h0 (Q_rMin3 Z  h0) := by
  refine oCon.of (Jvm.Free.JP.mathPlain rfl (by decide +kernel)) ?_
  intro p e s m below meth c T X hx hby hml hown hnm hret hlk hZ e0
  have hml : c.maxLocals = 2 := hml
  have K : oKp h0 h0 [] [] := oKp.nil _ _
  refine oWk.cast (g' := (mkF m 0 #[iv 10, iv 3] [])) (by first | rfl | (simp [entryFrame, mkF, argsToLocals, Value.category]; done)) ?_
  refine oWk.st (fun _ kt => zI X hx hby d21_0 rfl rfl (zI X hx hby d21_1 rfl rfl (zY X hx hby d21_2 rfl rfl (tlt (by decide)).2.2.1 (pc' := 9) rfl (zI X hx hby d21_9 rfl rfl kt)))) ?_
  show oWk _ _ _ _ T (mkF m 10 #[iv 10, iv 3] [(.int 3)])
  exact oRetI X hx hlk hret (hb hby d21_10) (by rw [e0]; exact ⟨rfl, rfl, K⟩) (by decide) (by decide)
def Q_rCp3_3 (Z : State) (xf xmr : Addr) (xk : ClassId) (xe0 xe1 xe2 : Addr) (h0 : Heap) (v : Option Value) (h : Heap) (L : List Loc) : Prop := ∃ (nb : Addr) (nj : ClassId), v = some (.ref nb) ∧ oKp h0 h [] L ∧ (h0.size ≤ nb) ∧ (Exa Z h nb Y2) ∧ (Arv Z h nb nj (.object Y0) (3 : Int32) [(.ref xe0), (.ref xe1), (.ref xe2)] .null) ∧ (Ovr Z nj Y0)
theorem rCp3_3 (l : Launch) (Z : State) (a0 : Array Value) (hw : oHW a0 Z) (ws : List Jvm.Cond) (xf xmr : Addr) (xk : ClassId) (xe0 xe1 xe2 : Addr) (h0 : Heap) (O0 : Ext Z.heap h0) (mm_ : oMir Z Y2 xmr) (E_xf : Exa Z h0 xf Y2) (V_xf : Arv Z h0 xf xk (.object Y0) (10 : Int32) [(.ref xe0), (.ref xe1), (.ref xe2), .null, .null, .null, .null, .null, .null, .null] .null) (I_xe0 : Ins Z h0 xe0 Y0 true) (I_xe1 : Ins Z h0 xe1 Y0 true) (I_xe2 : Ins Z h0 xe2 Y0 true) :
    oCon l Z yy18 jdk_65_method_120_code 4 (some (.array (.object Y0))) ws ({ frames := 1, cells := 1, slots := 3, locals := 18 } : Room) #[(.ref xf), (.int (3 : Int32)), (.ref xmr)] h0 (Q_rCp3_3 Z xf xmr xk xe0 xe1 xe2 h0) := by
  refine oCon.of (plainFor_of_name pn_9) ?_
  intro p e s m below meth c T X hx hby hml hown hnm hret hlk hZ e0
  have hml : c.maxLocals = 4 := hml
  have K : oKp h0 h0 [] [] := oKp.nil _ _
  refine oWk.cast (g' := (mkF m 0 #[rv xf, iv 3, rv xmr, uu] [])) (by first | rfl | (simp [entryFrame, mkF, argsToLocals, Value.category]; done)) ?_
  refine oWk.st (fun _ kt => zA X hx hby d20_0 rfl rfl rfl kt) ?_
  obtain ⟨T, X, e0, st⟩ := oLdcM X hx hZ hown (oW hw 151 rfl) e0 mm_ (g := (mkF m 1 #[rv xf, iv 3, rv xmr, uu] [(.ref xmr)])) rfl (hb hby d20_1)
  refine oWk.st st ?_
  refine oWk.st (fun _ kt => Jvm.RoadKit.acmp (g := (mkF m 3 #[rv xf, iv 3, rv xmr, uu] [(.ref xmr), (.ref xmr)])) X hx rfl rfl rfl (pc0 := 3) (pc' := 6) (same := true) rfl (hb hby d20_3) rfl (decide_eq_true rfl) (by decide) (by decide) kt) ?_
  show oWk _ _ _ _ T (mkF m 6 #[rv xf, iv 3, rv xmr, uu] [])
  refine oWk.st (fun _ kt => zI X hx hby d20_6 rfl rfl kt) ?_
  obtain ⟨o1, g1⟩ : ∃ z, z = h0.size := ⟨_, rfl⟩
  have ne_xf_o1 : xf ≠ o1 := Nat.ne_of_lt (Nat.lt_of_lt_of_le E_xf.lt (Nat.le_of_eq g1.symm))
  have ge_o1 : h0.size ≤ o1 := Nat.le_trans K.le (Nat.le_of_eq g1.symm)
  obtain ⟨T, h, k1, X, e0, E1, A1, E_o1, O1, st⟩ := newRE X hx hZ hown (oW hw 152 rfl) (oW hw 128 rfl) e0 (g := (mkF m 7 #[rv xf, iv 3, rv xmr, uu] [(.int 3)])) rfl (hb hby d20_7) rfl (by decide) (cap := 3) (by decide) (by decide) (by decide) (by decide) (ad := Y2) (by decide)
  rw [← g1] at A1 E_o1 st
  refine oWk.st st ?_
  have K := K.ext E1
  have V_o1 : Arv Z h o1 k1 (.object Y0) (3 : Int32) [.null, .null, .null] .null := (Arv.new A1 (by decide)).pad (pad_rep [] .null 3)
  refine oWk.st (fun _ kt => zG X hx hby d20_10 rfl (pc' := 24) rfl (zTn X hx hby d20_24 rfl rfl rfl (l' := #[rv xf, iv 3, rv xmr, rv o1]) rfl (zA X hx hby d20_25 rfl rfl rfl (zK X hx hby d20_26 rfl (zA X hx hby d20_27 rfl rfl rfl (zK X hx hby d20_28 rfl (zA X hx hby d20_29 rfl rfl rfl kt))))))) ?_
  have V_xf := (V_xf.ext E1)
  obtain ⟨cl2, Ar2, q2, Sz2, Nn2, Hs2, Ft2⟩ := id V_xf
  refine oWk.st (fun _ kt => X.arraylength hx (by rw [e0]; exact Ar2.1) (State.isArrayOf_alike hZ.alike Ar2.2.1) (g := (mkF m 30 #[rv xf, iv 3, rv xmr, rv o1] [(.ref xf), (.int 0), (.ref o1), (.int 0), (.ref xf)])) rfl rfl (hb hby d20_30) _ kt) ?_
  rw [len_of Sz2 Nn2]
  refine oWk.st (fun _ kt => zI X hx hby d20_31 rfl rfl kt) ?_
  have Oh := K.old O0 all0
  obtain ⟨T, L4, X, e0, K, st⟩ := (cs13 hw).pure X hx hZ hown e0 K (A := [(.int (10 : Int32)), (.int (3 : Int32))]) rfl (rMin3 l Z a0 hw []  h Oh ) (fun _ _ _ q => q) (W := 4) (by decide) hml (Ls := #[rv xf, iv 3, rv xmr, rv o1]) rfl (rest := [(.int (0 : Int32)), (.ref o1), (.int (0 : Int32)), (.ref xf)]) rfl rfl hby d20_32
  refine oWk.st st ?_
  obtain ⟨cl5, Ar5, q5, -⟩ := id V_o1
  have I_xe2 := (I_xe2.ext E1)
  have I_xe1 := (I_xe1.ext E1)
  have I_xe0 := (I_xe0.ext E1)
  obtain ⟨T, h, L5, X, e0, N5, C5, V5, st⟩ := cpA X hx hZ hown (oW hw 156 rfl) (oW hw 159 rfl) (oW hw 157 rfl) (oW hw 158 rfl) e0 (us := [(.ref xe0), (.ref xe1), (.ref xe2)]) V_xf V_o1 (Or.inr ⟨rfl, rfl, ⟨Sto.ofV Ar5 q5 O1 I_xe0, ⟨Sto.ofV Ar5 q5 O1 I_xe1, ⟨Sto.ofV Ar5 q5 O1 I_xe2, trivial⟩⟩⟩⟩) (by decide) (by decide) (by decide) (by decide) (by decide) rfl (by decide) K.fr ge_o1 (g := (mkF m 35 #[rv xf, iv 3, rv xmr, rv o1] [(.int 3), (.int 0), (.ref o1), (.int 0), (.ref xf)])) rfl (by rw [hml]; rfl) rfl (hb hby d20_35) (by decide) (W := 0) (Nat.le_of_eq rfl) (by decide)
  refine oWk.st st ?_
  have K : oKp h0 h [] L5 := ⟨K.1.trans C5 (allS (Or.inr ge_o1) all0), fun y hy => Or.inr (N5 y hy)⟩
  have V_o1 : Arv Z h o1 k1 (.object Y0) (3 : Int32) [(.ref xe0), (.ref xe1), (.ref xe2)] .null := V5
  refine oWk.st (fun _ kt => zA X hx hby d20_38 rfl rfl rfl kt) ?_
  show oWk _ _ _ _ T (mkF m 39 #[rv xf, iv 3, rv xmr, rv o1] [(.ref o1)])
  have E_o1 := (E_o1.keep C5)
  exact oRetA X hx hlk hret rfl rfl (hb hby d20_39) (by rw [e0]; exact ⟨o1, k1, rfl, K, ge_o1, E_o1, V_o1, O1⟩) (by decide) (by decide)
def Q_rCp2_3 (Z : State) (xf xmr : Addr) (xk : ClassId) (xe0 xe1 xe2 : Addr) (h0 : Heap) (v : Option Value) (h : Heap) (L : List Loc) : Prop := ∃ (nb : Addr) (nj : ClassId), v = some (.ref nb) ∧ oKp h0 h [] L ∧ (h0.size ≤ nb) ∧ (Exa Z h nb Y2) ∧ (Arv Z h nb nj (.object Y0) (3 : Int32) [(.ref xe0), (.ref xe1), (.ref xe2)] .null) ∧ (Ovr Z nj Y0)
theorem rCp2_3 (l : Launch) (Z : State) (a0 : Array Value) (hw : oHW a0 Z) (ws : List Jvm.Cond) (xf xmr : Addr) (xk : ClassId) (xe0 xe1 xe2 : Addr) (h0 : Heap) (O0 : Ext Z.heap h0) (mm_ : oMir Z Y2 xmr) (E_xf : Exa Z h0 xf Y2) (V_xf : Arv Z h0 xf xk (.object Y0) (10 : Int32) [(.ref xe0), (.ref xe1), (.ref xe2), .null, .null, .null, .null, .null, .null, .null] .null) (I_xe0 : Ins Z h0 xe0 Y0 true) (I_xe1 : Ins Z h0 xe1 Y0 true) (I_xe2 : Ins Z h0 xe2 Y0 true) :
    oCon l Z yy19 jdk_65_method_119_code 2 (some (.array (.object Y0))) ws ({ frames := 2, cells := 1, slots := 3, locals := 33 } : Room) #[(.ref xf), (.int (3 : Int32))] h0 (Q_rCp2_3 Z xf xmr xk xe0 xe1 xe2 h0) := by
  refine oCon.of (plainFor_of_name pn_9) ?_
  intro p e s m below meth c T X hx hby hml hown hnm hret hlk hZ e0
  have hml : c.maxLocals = 2 := hml
  have K : oKp h0 h0 [] [] := oKp.nil _ _
  refine oWk.cast (g' := (mkF m 0 #[rv xf, iv 3] [])) (by first | rfl | (simp [entryFrame, mkF, argsToLocals, Value.category]; done)) ?_
  refine oWk.st (fun _ kt => zA X hx hby d19_0 rfl rfl rfl (zI X hx hby d19_1 rfl rfl (zA X hx hby d19_2 rfl rfl rfl kt))) ?_
  obtain ⟨T, X, e0, st⟩ := oGcls X hx hZ hown (oW hw 142 rfl) (oW hw 143 rfl) (oW hw 145 rfl) (oW hw 144 rfl) (oW hw 146 rfl) e0 E_xf mm_ (g := (mkF m 3 #[rv xf, iv 3] [(.ref xf), (.int 3), (.ref xf)])) rfl (by rw [hml]; rfl) rfl (hb hby d19_3) (by decide) (W := 2) (Nat.le_of_eq rfl) (by decide)
  refine oWk.st st ?_
  have lt_xf := E_xf.lt
  have Oh := K.old O0 all0
  obtain ⟨_, T, h, Lc2, X, e0, hQ, st⟩ := (cs14 hw).run X hx hZ hown e0 (A := [(.ref xf), (.int (3 : Int32)), (.ref xmr)]) rfl (rCp3_3 l Z a0 hw [] xf xmr xk xe0 xe1 xe2 h0 Oh mm_ E_xf V_xf I_xe0 I_xe1 I_xe2) (W := 0) (by decide) hml (Ls := #[rv xf, iv 3]) rfl (rest := []) rfl rfl hby d19_6
  obtain ⟨nb1, nj1, rfl, K1, gn_nb1, E_nb1, V_nb1, ov_nj1⟩ := hQ
  have ge_nb1 := Nat.le_trans K.le gn_nb1
  have ne_xf_nb1 : xf ≠ nb1 := Nat.ne_of_lt (Nat.lt_of_lt_of_le lt_xf gn_nb1)
  have K := K.call K1 all0
  refine oWk.st st ?_
  exact oRetA X hx hlk hret rfl rfl (hb hby d19_9) (by rw [e0]; exact ⟨nb1, nj1, rfl, K, ge_nb1, E_nb1, V_nb1, ov_nj1⟩) (by decide) (by decide)
def Q_rTA_3 (Z : State) (xa xf xmr : Addr) (xk : ClassId) (xe0 xe1 xe2 : Addr) (h0 : Heap) (v : Option Value) (h : Heap) (L : List Loc) : Prop := ∃ (nb : Addr) (nj : ClassId), v = some (.ref nb) ∧ oKp h0 h [] L ∧ (h0.size ≤ nb) ∧ (Exa Z h nb Y2) ∧ (Arv Z h nb nj (.object Y0) (3 : Int32) [(.ref xe0), (.ref xe1), (.ref xe2)] .null) ∧ (Ovr Z nj Y0)
theorem rTA_3 (l : Launch) (Z : State) (a0 : Array Value) (hw : oHW a0 Z) (ws : List Jvm.Cond) (xa xf xmr : Addr) (xk : ClassId) (xe0 xe1 xe2 : Addr) (h0 : Heap) (O0 : Ext Z.heap h0) (mm_ : oMir Z Y2 xmr) (F_elementData_xa : Fld Z h0 xa Y1 "elementData" Y2 (.ref xf)) (F_size_xa : Fld Z h0 xa Y1 "size" "I" (.int (3 : Int32))) (E_xf : Exa Z h0 xf Y2) (V_xf : Arv Z h0 xf xk (.object Y0) (10 : Int32) [(.ref xe0), (.ref xe1), (.ref xe2), .null, .null, .null, .null, .null, .null, .null] .null) (I_xe0 : Ins Z h0 xe0 Y0 true) (I_xe1 : Ins Z h0 xe1 Y0 true) (I_xe2 : Ins Z h0 xe2 Y0 true) :
    oCon l Z yy20 jdk_38_method_16_code 1 (some (.array (.object Y0))) ws ({ frames := 3, cells := 1, slots := 3, locals := 46 } : Room) #[(.ref xa)] h0 (Q_rTA_3 Z xa xf xmr xk xe0 xe1 xe2 h0) := by
  refine oCon.of (plainFor_of_name pn_2) ?_
  intro p e s m below meth c T X hx hby hml hown hnm hret hlk hZ e0
  have hml : c.maxLocals = 1 := hml
  have K : oKp h0 h0 [] [] := oKp.nil _ _
  refine oWk.cast (g' := (mkF m 0 #[rv xa] [])) (by first | rfl | (simp [entryFrame, mkF, argsToLocals, Value.category]; done)) ?_
  refine oWk.st (fun _ kt => zA X hx hby d18_0 rfl rfl rfl kt) ?_
  obtain ⟨T, X, e0, st⟩ := getF X hx hZ hown (host := "") (Or.inl (oW hw 42 rfl)) Via.refl e0 F_elementData_xa (g := (mkF m 1 #[rv xa] [(.ref xa)])) rfl rfl (hb hby d18_1)
  refine oWk.st st ?_
  refine oWk.st (fun _ kt => zA X hx hby d18_4 rfl rfl rfl kt) ?_
  obtain ⟨T, X, e0, st⟩ := getF X hx hZ hown (host := "") (Or.inl (oW hw 82 rfl)) Via.refl e0 F_size_xa (g := (mkF m 5 #[rv xa] [(.ref xa), (.ref xf)])) rfl rfl (hb hby d18_5)
  refine oWk.st st ?_
  have lt_xa := F_elementData_xa.lt
  have lt_xf := E_xf.lt
  have Oh := K.old O0 all0
  obtain ⟨_, T, h, Lc2, X, e0, hQ, st⟩ := (cs15 hw).run X hx hZ hown e0 (A := [(.ref xf), (.int (3 : Int32))]) rfl (rCp2_3 l Z a0 hw [] xf xmr xk xe0 xe1 xe2 h0 Oh mm_ E_xf V_xf I_xe0 I_xe1 I_xe2) (W := 0) (by decide) hml (Ls := #[rv xa]) rfl (rest := []) rfl rfl hby d18_8
  obtain ⟨nb1, nj1, rfl, K1, gn_nb1, E_nb1, V_nb1, ov_nj1⟩ := hQ
  have ge_nb1 := Nat.le_trans K.le gn_nb1
  have ne_xa_nb1 : xa ≠ nb1 := Nat.ne_of_lt (Nat.lt_of_lt_of_le lt_xa gn_nb1)
  have ne_xf_nb1 : xf ≠ nb1 := Nat.ne_of_lt (Nat.lt_of_lt_of_le lt_xf gn_nb1)
  have K := K.call K1 all0
  refine oWk.st st ?_
  exact oRetA X hx hlk hret rfl rfl (hb hby d18_11) (by rw [e0]; exact ⟨nb1, nj1, rfl, K, ge_nb1, E_nb1, V_nb1, ov_nj1⟩) (by decide) (by decide)
def Q_rLNI (Z : State) (xa xf : Addr) (xu xv : Value) (h0 : Heap) (v : Option Value) (h : Heap) (L : List Loc) : Prop := v = none ∧ oKp h0 h [xa] L ∧ (Exa Z h xa Y6) ∧ (Fld Z h xa Y6 "elements" Y2 (.ref xf)) ∧ (Fld Z h xa Y6 "allowNulls" "Z" (.int (0 : Int32)))
theorem pn_13 : plainName "java/util/ImmutableCollections$ListN" = true := by first | (simp [plainName, overriddenIn]; done) | decide +kernel
abbrev yy31 : MethodName := ⟨"java/util/ImmutableCollections$ListN", "<init>", "([Ljava/lang/Object;Z)V"⟩
theorem d31_0 : decode jdk_45_method_1_code 0 = .ok (.aload_n 0, 1) := by decide +kernel
theorem d31_1 : decode jdk_45_method_1_code 1 = .ok (.invokespecial 1, 3) := by decide +kernel
theorem cs24 {a0 : Array Value} {Z : State} (hw : oHW a0 Z) : oCall Z Y6 (.invokespecial 1) yy22 jdk_46_method_1_code 1 none (oRi 0) := oCall.init rfl (oW hw 222 rfl) (oW hw 171 rfl) (oW hw 174 rfl) (oW hw 175 rfl) (by decide) pd_3
theorem d31_4 : decode jdk_45_method_1_code 4 = .ok (.aload_n 0, 1) := by decide +kernel
theorem d31_5 : decode jdk_45_method_1_code 5 = .ok (.aload_n 1, 1) := by decide +kernel
theorem d31_6 : decode jdk_45_method_1_code 6 = .ok (.putfield 7, 3) := by decide +kernel
theorem d31_9 : decode jdk_45_method_1_code 9 = .ok (.aload_n 0, 1) := by decide +kernel
theorem d31_10 : decode jdk_45_method_1_code 10 = .ok (.iload_n 2, 1) := by decide +kernel
theorem d31_11 : decode jdk_45_method_1_code 11 = .ok (.putfield 13, 3) := by decide +kernel
theorem d31_14 : decode jdk_45_method_1_code 14 = .ok (.return_, 1) := by decide +kernel
theorem rLNI (l : Launch) (Z : State) (a0 : Array Value) (hw : oHW a0 Z) (ws : List Jvm.Cond) (xa xf : Addr) (xu xv : Value) (h0 : Heap) (O0 : Ext Z.heap h0) (og_xa : Z.heap.size ≤ xa) (E_xa : Exa Z h0 xa Y6) (F_elements_xa : Fld Z h0 xa Y6 "elements" Y2 xu) (F_allowNulls_xa : Fld Z h0 xa Y6 "allowNulls" "Z" xv) :
    oCon l Z yy31 jdk_45_method_1_code 3 none ws ({ frames := 4, cells := 0, slots := 0, locals := 48 } : Room) #[(.ref xa), (.ref xf), (.int (0 : Int32))] h0 (Q_rLNI Z xa xf xu xv h0) := by
  refine oCon.of (plainFor_of_name pn_13) ?_
  intro p e s m below meth c T X hx hby hml hown hnm hret hlk hZ e0
  have hml : c.maxLocals = 3 := hml
  have K : oKp h0 h0 [xa] [] := oKp.nil _ _
  refine oWk.cast (g' := (mkF m 0 #[rv xa, rv xf, iv 0] [])) (by first | rfl | (simp [entryFrame, mkF, argsToLocals, Value.category]; done)) ?_
  refine oWk.st (fun _ kt => zA X hx hby d31_0 rfl rfl rfl kt) ?_
  have Oh := K.old O0 (allS og_xa all0)
  obtain ⟨T, L2, X, e0, K, st⟩ := (cs24 hw).pure X hx hZ hown e0 K (A := [(.ref xa)]) ⟨rfl, _, _, rfl⟩ (rAIL l Z a0 hw [] xa h0 Oh ) (fun _ _ _ q => q) (W := 0) (by decide) hml (Ls := #[rv xa, rv xf, iv 0]) rfl (rest := []) rfl rfl hby d31_1
  refine oWk.st st ?_
  refine oWk.st (fun _ kt => zA X hx hby d31_4 rfl rfl rfl (zA X hx hby d31_5 rfl rfl rfl kt)) ?_
  obtain ⟨T, h, X, e0, W3, st⟩ := putF X hx hZ hown (host := "") (Or.inl (oW hw 226 rfl)) Via.refl e0 F_elements_xa E_xa (Or.inr ⟨(oW hw 227 rfl), rfl, hnm⟩) (oW hw 216 rfl) (ty := (.array (.object Y0))) (by decide) rfl rfl (g := (mkF m 6 #[rv xa, rv xf, iv 0] [(.ref xf), (.ref xa)])) rfl rfl (hb hby d31_6)
  refine oWk.st st ?_
  have K := K.wr W3 (Or.inl (List.mem_of_getElem? (i := 0) rfl))
  have F_elements_xa := F_elements_xa.same W3
  refine oWk.st (fun _ kt => zA X hx hby d31_9 rfl rfl rfl (zI X hx hby d31_10 rfl rfl kt)) ?_
  have E_xa := (E_xa.wr W3)
  have F_allowNulls_xa := (F_allowNulls_xa.other W3 (Or.inr (slot_ne (Or.inr (oW hw 229 rfl)) (Or.inr (oW hw 227 rfl)) (by decide) (t := .boolean) (t' := (.array (.object Y0))) (by decide) (by decide))))
  obtain ⟨T, h, X, e0, W4, st⟩ := putFN X hx hZ hown (oW hw 228 rfl) Via.refl e0 F_allowNulls_xa E_xa (Or.inr ⟨(oW hw 229 rfl), rfl, hnm⟩) (oW hw 216 rfl) (ty := .boolean) (v' := .int (0 : Int32)) (by decide) rfl (by decide) (g := (mkF m 11 #[rv xa, rv xf, iv 0] [(.int 0), (.ref xa)])) rfl rfl (hb hby d31_11)
  refine oWk.st st ?_
  have K := K.wr W4 (Or.inl (List.mem_of_getElem? (i := 0) rfl))
  have F_allowNulls_xa := F_allowNulls_xa.same W4
  have E_xa := (E_xa.wr W4)
  have F_elements_xa := (F_elements_xa.other W4 (Or.inr (slot_ne (Or.inr (oW hw 227 rfl)) (Or.inr (oW hw 229 rfl)) (by decide) (t := (.array (.object Y0))) (t' := .boolean) (by decide) (by decide))))
  exact oRetV X hx hlk hret (hb hby d31_14) (by rw [e0]; exact ⟨rfl, K, E_xa, F_elements_xa, F_allowNulls_xa⟩) (by decide) (by decide)
def Q_rLFA_3 (Z : State) (xf : Addr) (xk : ClassId) (xe0 xe1 xe2 : Addr) (h0 : Heap) (v : Option Value) (h : Heap) (L : List Loc) : Prop := ∃ (nl : Addr) (ng : Addr) (nj : ClassId), v = some (.ref nl) ∧ oKp h0 h [] L ∧ (h0.size ≤ nl) ∧ (Exa Z h nl Y6) ∧ (Fld Z h nl Y6 "elements" Y2 (.ref ng)) ∧ (Fld Z h nl Y6 "allowNulls" "Z" (.int (0 : Int32))) ∧ (h0.size ≤ ng) ∧ (Arv Z h ng nj (.object Y0) (3 : Int32) [(.ref xe0), (.ref xe1), (.ref xe2)] .null)
abbrev yy32 : MethodName := ⟨"java/util/ImmutableCollections", "listFromArray", "([Ljava/lang/Object;)Ljava/util/List;"⟩
theorem d30_0 : decode jdk_56_method_4_code 0 = .ok (.aload_n 0, 1) := by decide +kernel
theorem d30_1 : decode jdk_56_method_4_code 1 = .ok (.arraylength, 1) := by decide +kernel
theorem d30_2 : decode jdk_56_method_4_code 2 = .ok (.anewarray 2, 3) := by decide +kernel
theorem d30_5 : decode jdk_56_method_4_code 5 = .ok (.astore_n 1, 1) := by decide +kernel
theorem d30_6 : decode jdk_56_method_4_code 6 = .ok (.iconst 0, 1) := by decide +kernel
theorem d30_7 : decode jdk_56_method_4_code 7 = .ok (.istore_n 2, 1) := by decide +kernel
theorem d30_8 : decode jdk_56_method_4_code 8 = .ok (.iload_n 2, 1) := by decide +kernel
theorem d30_9 : decode jdk_56_method_4_code 9 = .ok (.aload_n 0, 1) := by decide +kernel
theorem d30_10 : decode jdk_56_method_4_code 10 = .ok (.arraylength, 1) := by decide +kernel
theorem d30_11 : decode jdk_56_method_4_code 11 = .ok (.if_icmp .ge 18, 3) := by decide +kernel
theorem d30_14 : decode jdk_56_method_4_code 14 = .ok (.aload_n 1, 1) := by decide +kernel
theorem d30_15 : decode jdk_56_method_4_code 15 = .ok (.iload_n 2, 1) := by decide +kernel
theorem d30_16 : decode jdk_56_method_4_code 16 = .ok (.aload_n 0, 1) := by decide +kernel
theorem d30_17 : decode jdk_56_method_4_code 17 = .ok (.iload_n 2, 1) := by decide +kernel
theorem d30_18 : decode jdk_56_method_4_code 18 = .ok (.aaload, 1) := by decide +kernel
theorem d30_19 : decode jdk_56_method_4_code 19 = .ok (.invokestatic 37, 3) := by decide +kernel
theorem cs25 {a0 : Array Value} {Z : State} (hw : oHW a0 Z) : oCall Z Y12 (.invokestatic 37) yy23 jdk_31_method_10_code 1 (some (.object Y0)) (oRs 1) := oCall.stat (oW hw 215 rfl) (oW hw 185 rfl) (oW hw 56 rfl) (oW hw 186 rfl) (by decide) pd_14
theorem d30_22 : decode jdk_56_method_4_code 22 = .ok (.aastore, 1) := by decide +kernel
theorem d30_23 : decode jdk_56_method_4_code 23 = .ok (.iinc 2 1, 3) := by decide +kernel
theorem d30_26 : decode jdk_56_method_4_code 26 = .ok (.goto (-18), 3) := by decide +kernel
theorem d30_29 : decode jdk_56_method_4_code 29 = .ok (.new 12, 3) := by decide +kernel
theorem d30_32 : decode jdk_56_method_4_code 32 = .ok (.dup, 1) := by decide +kernel
theorem d30_33 : decode jdk_56_method_4_code 33 = .ok (.aload_n 1, 1) := by decide +kernel
theorem d30_34 : decode jdk_56_method_4_code 34 = .ok (.iconst 0, 1) := by decide +kernel
theorem d30_35 : decode jdk_56_method_4_code 35 = .ok (.invokespecial 43, 3) := by decide +kernel
theorem pd_20 : parseMethodDescriptor "([Ljava/lang/Object;Z)V" = some ⟨[(.array (.object "java/lang/Object")), .boolean], none⟩ := by decide +kernel
theorem cs26 {a0 : Array Value} {Z : State} (hw : oHW a0 Z) : oCall Z Y12 (.invokespecial 43) yy31 jdk_45_method_1_code 3 none (oRi 2) := oCall.initN rfl (oW hw 218 rfl) (oW hw 219 rfl) (oW hw 217 rfl) (oW hw 221 rfl) (by decide) pd_20
theorem d30_38 : decode jdk_56_method_4_code 38 = .ok (.areturn, 1) := by decide +kernel
theorem rLFA_3 (l : Launch) (Z : State) (a0 : Array Value) (hw : oHW a0 Z) (ws : List Jvm.Cond) (xf : Addr) (xk : ClassId) (xe0 xe1 xe2 : Addr) (h0 : Heap) (O0 : Ext Z.heap h0) (V_xf : Arv Z h0 xf xk (.object Y0) (3 : Int32) [(.ref xe0), (.ref xe1), (.ref xe2)] .null) (I_xe0 : Ins Z h0 xe0 Y0 true) (I_xe1 : Ins Z h0 xe1 Y0 true) (I_xe2 : Ins Z h0 xe2 Y0 true) :
    oCon l Z yy32 jdk_56_method_4_code 3 (some (.object Y3)) ws ({ frames := 5, cells := 2, slots := 5, locals := 63 } : Room) #[(.ref xf)] h0 (Q_rLFA_3 Z xf xk xe0 xe1 xe2 h0) := by
  refine oCon.of (plainFor_of_name pn_4) ?_
  intro p e s m below meth c T X hx hby hml hown hnm hret hlk hZ e0
  have hml : c.maxLocals = 3 := hml
  have K : oKp h0 h0 [] [] := oKp.nil _ _
  refine oWk.cast (g' := (mkF m 0 #[rv xf, uu, uu] [])) (by first | rfl | (simp [entryFrame, mkF, argsToLocals, Value.category]; done)) ?_
  refine oWk.st (fun _ kt => zA X hx hby d30_0 rfl rfl rfl kt) ?_
  obtain ⟨cl1, Ar1, q1, Sz1, Nn1, Hs1, Ft1⟩ := id V_xf
  refine oWk.st (fun _ kt => X.arraylength hx (by rw [e0]; exact Ar1.1) (State.isArrayOf_alike hZ.alike Ar1.2.1) (g := (mkF m 1 #[rv xf, uu, uu] [(.ref xf)])) rfl rfl (hb hby d30_1) _ kt) ?_
  rw [len_of Sz1 Nn1]
  obtain ⟨o2, g2⟩ : ∃ z, z = h0.size := ⟨_, rfl⟩
  have ne_xf_o2 : xf ≠ o2 := Nat.ne_of_lt (Nat.lt_of_lt_of_le V_xf.lt (Nat.le_of_eq g2.symm))
  have ge_o2 : h0.size ≤ o2 := Nat.le_trans K.le (Nat.le_of_eq g2.symm)
  obtain ⟨T, h, k2, X, e0, E2, A2, E_o2, O2, st⟩ := newRE X hx hZ hown (oW hw 214 rfl) (oW hw 128 rfl) e0 (g := (mkF m 2 #[rv xf, uu, uu] [(.int 3)])) rfl (hb hby d30_2) rfl (by decide) (cap := 3) (by decide) (by decide) (by decide) (by decide) (ad := Y2) (by decide)
  rw [← g2] at A2 E_o2 st
  refine oWk.st st ?_
  have K := K.ext E2
  have V_o2 : Arv Z h o2 k2 (.object Y0) (3 : Int32) [.null, .null, .null] .null := (Arv.new A2 (by decide)).pad (pad_rep [] .null 3)
  refine oWk.st (fun _ kt => zTn X hx hby d30_5 rfl rfl rfl (l' := #[rv xf, rv o2, uu]) rfl (zK X hx hby d30_6 rfl (zSn X hx hby d30_7 rfl rfl (l' := #[rv xf, rv o2, iv 0]) rfl (zI X hx hby d30_8 rfl rfl (zA X hx hby d30_9 rfl rfl rfl kt))))) ?_
  have V_xf := (V_xf.ext E2)
  obtain ⟨cl3, Ar3, q3, Sz3, Nn3, Hs3, Ft3⟩ := id V_xf
  refine oWk.st (fun _ kt => X.arraylength hx (by rw [e0]; exact Ar3.1) (State.isArrayOf_alike hZ.alike Ar3.2.1) (g := (mkF m 10 #[rv xf, rv o2, iv 0] [(.ref xf), (.int 0)])) rfl rfl (hb hby d30_10) _ kt) ?_
  rw [len_of Sz3 Nn3]
  refine oWk.st (fun _ kt => zN X hx hby d30_11 rfl rfl (tlt (by decide)).2.1 (zA X hx hby d30_14 rfl rfl rfl (zI X hx hby d30_15 rfl rfl (zA X hx hby d30_16 rfl rfl rfl (zI X hx hby d30_17 rfl rfl kt))))) ?_
  obtain ⟨cl4, Ar4, q4, Sz4, Nn4, Hs4, Ft4⟩ := id V_xf
  have hin4 : ¬ ((0 : Int32) < 0 ∨ cl4.slots.size ≤ ((0 : Int32)).toNatClampNeg) := inb_of Sz4 ⟨by decide, by decide⟩
  have hat4 : cl4.slots[((0 : Int32)).toNatClampNeg]? = some (.ref xe0) := Hs4.at hin4 rfl
  refine oWk.st (fun _ kt => X.aaload hx (j := (0 : Int32)) (v := (.ref xe0)) (by rw [e0]; exact Ar4.1) (State.isArrayOf_alike hZ.alike Ar4.2.1) rfl Ar4.2.2 hin4 hat4 (g := (mkF m 18 #[rv xf, rv o2, iv 0] [(.int 0), (.ref xf), (.int 0), (.ref o2)])) rfl rfl (hb hby d30_18) _ kt) ?_
  have Oh := K.old O0 all0
  obtain ⟨T, L6, X, e0, K, st⟩ := (cs25 hw).pure X hx hZ hown e0 K (A := [(.ref xe0)]) rfl (rRNN l Z a0 hw [] xe0 h Oh ) (fun _ _ _ q => q) (W := 2) (by decide) hml (Ls := #[rv xf, rv o2, iv 0]) rfl (rest := [(.int (0 : Int32)), (.ref o2)]) rfl rfl hby d30_19
  refine oWk.st st ?_
  have I_xe0 := (I_xe0.ext E2)
  obtain ⟨cl7, Ar7, q7, Sz7, Nn7, Hs7, Ft7⟩ := id V_o2
  have hin7 : ¬ ((0 : Int32) < 0 ∨ cl7.slots.size ≤ ((0 : Int32)).toNatClampNeg) := inb_of Sz7 ⟨by decide, by decide⟩
  obtain ⟨T, h, X, e0, W7, st⟩ := stR X hx hZ e0 Ar7 (j := (0 : Int32)) hin7 rfl (Sto.ofV Ar7 q7 O2 I_xe0) (g := (mkF m 22 #[rv xf, rv o2, iv 0] [(.ref xe0), (.int 0), (.ref o2)])) rfl rfl (hb hby d30_22)
  refine oWk.st st ?_
  have K := K.wr W7 (Or.inr ge_o2)
  have V_o2 : Arv Z h o2 k2 (.object Y0) (3 : Int32) [(.ref xe0), .null, .null] .null := Arv.set Ar7 q7 Sz7 Nn7 Hs7 Ft7 rfl W7 0 rfl (Nat.le_of_ble_eq_true rfl)
  refine oWk.st (fun _ kt => zC X hx hby d30_23 rfl rfl (l' := #[rv xf, rv o2, iv ((0 : Int32) + (1 : Int32))]) rfl kt) ?_
  show oWk _ _ _ _ T (mkF m 26 #[rv xf, rv o2, iv ((0 : Int32) + (1 : Int32))] [])
  rw [show ((0 : Int32) + (1 : Int32)) = (1 : Int32) from by decide]
  show oWk _ _ _ _ T (mkF m 26 #[rv xf, rv o2, iv 1] [])
  refine oWk.st (fun _ kt => zG X hx hby d30_26 rfl (pc' := 8) rfl (zI X hx hby d30_8 rfl rfl (zA X hx hby d30_9 rfl rfl rfl kt))) ?_
  have V_xf := (V_xf.other W7 ne_xf_o2)
  obtain ⟨cl8, Ar8, q8, Sz8, Nn8, Hs8, Ft8⟩ := id V_xf
  refine oWk.st (fun _ kt => X.arraylength hx (by rw [e0]; exact Ar8.1) (State.isArrayOf_alike hZ.alike Ar8.2.1) (g := (mkF m 10 #[rv xf, rv o2, iv 1] [(.ref xf), (.int 1)])) rfl rfl (hb hby d30_10) _ kt) ?_
  rw [len_of Sz8 Nn8]
  refine oWk.st (fun _ kt => zN X hx hby d30_11 rfl rfl (tlt (by decide)).2.1 (zA X hx hby d30_14 rfl rfl rfl (zI X hx hby d30_15 rfl rfl (zA X hx hby d30_16 rfl rfl rfl (zI X hx hby d30_17 rfl rfl kt))))) ?_
  obtain ⟨cl9, Ar9, q9, Sz9, Nn9, Hs9, Ft9⟩ := id V_xf
  have hin9 : ¬ ((1 : Int32) < 0 ∨ cl9.slots.size ≤ ((1 : Int32)).toNatClampNeg) := inb_of Sz9 ⟨by decide, by decide⟩
  have hat9 : cl9.slots[((1 : Int32)).toNatClampNeg]? = some (.ref xe1) := Hs9.at hin9 rfl
  refine oWk.st (fun _ kt => X.aaload hx (j := (1 : Int32)) (v := (.ref xe1)) (by rw [e0]; exact Ar9.1) (State.isArrayOf_alike hZ.alike Ar9.2.1) rfl Ar9.2.2 hin9 hat9 (g := (mkF m 18 #[rv xf, rv o2, iv 1] [(.int 1), (.ref xf), (.int 1), (.ref o2)])) rfl rfl (hb hby d30_18) _ kt) ?_
  have Oh := K.old O0 all0
  obtain ⟨T, L11, X, e0, K, st⟩ := (cs25 hw).pure X hx hZ hown e0 K (A := [(.ref xe1)]) rfl (rRNN l Z a0 hw [] xe1 h Oh ) (fun _ _ _ q => q) (W := 2) (by decide) hml (Ls := #[rv xf, rv o2, iv 1]) rfl (rest := [(.int (1 : Int32)), (.ref o2)]) rfl rfl hby d30_19
  refine oWk.st st ?_
  have I_xe1 := ((I_xe1.ext E2).wr W7)
  obtain ⟨cl12, Ar12, q12, Sz12, Nn12, Hs12, Ft12⟩ := id V_o2
  have hin12 : ¬ ((1 : Int32) < 0 ∨ cl12.slots.size ≤ ((1 : Int32)).toNatClampNeg) := inb_of Sz12 ⟨by decide, by decide⟩
  obtain ⟨T, h, X, e0, W12, st⟩ := stR X hx hZ e0 Ar12 (j := (1 : Int32)) hin12 rfl (Sto.ofV Ar12 q12 O2 I_xe1) (g := (mkF m 22 #[rv xf, rv o2, iv 1] [(.ref xe1), (.int 1), (.ref o2)])) rfl rfl (hb hby d30_22)
  refine oWk.st st ?_
  have K := K.wr W12 (Or.inr ge_o2)
  have V_o2 : Arv Z h o2 k2 (.object Y0) (3 : Int32) [(.ref xe0), (.ref xe1), .null] .null := Arv.set Ar12 q12 Sz12 Nn12 Hs12 Ft12 rfl W12 1 rfl (Nat.le_of_ble_eq_true rfl)
  refine oWk.st (fun _ kt => zC X hx hby d30_23 rfl rfl (l' := #[rv xf, rv o2, iv ((1 : Int32) + (1 : Int32))]) rfl kt) ?_
  show oWk _ _ _ _ T (mkF m 26 #[rv xf, rv o2, iv ((1 : Int32) + (1 : Int32))] [])
  rw [show ((1 : Int32) + (1 : Int32)) = (2 : Int32) from by decide]
  show oWk _ _ _ _ T (mkF m 26 #[rv xf, rv o2, iv 2] [])
  refine oWk.st (fun _ kt => zG X hx hby d30_26 rfl (pc' := 8) rfl (zI X hx hby d30_8 rfl rfl (zA X hx hby d30_9 rfl rfl rfl kt))) ?_
  have V_xf := (V_xf.other W12 ne_xf_o2)
  obtain ⟨cl13, Ar13, q13, Sz13, Nn13, Hs13, Ft13⟩ := id V_xf
  refine oWk.st (fun _ kt => X.arraylength hx (by rw [e0]; exact Ar13.1) (State.isArrayOf_alike hZ.alike Ar13.2.1) (g := (mkF m 10 #[rv xf, rv o2, iv 2] [(.ref xf), (.int 2)])) rfl rfl (hb hby d30_10) _ kt) ?_
  rw [len_of Sz13 Nn13]
  refine oWk.st (fun _ kt => zN X hx hby d30_11 rfl rfl (tlt (by decide)).2.1 (zA X hx hby d30_14 rfl rfl rfl (zI X hx hby d30_15 rfl rfl (zA X hx hby d30_16 rfl rfl rfl (zI X hx hby d30_17 rfl rfl kt))))) ?_
  obtain ⟨cl14, Ar14, q14, Sz14, Nn14, Hs14, Ft14⟩ := id V_xf
  have hin14 : ¬ ((2 : Int32) < 0 ∨ cl14.slots.size ≤ ((2 : Int32)).toNatClampNeg) := inb_of Sz14 ⟨by decide, by decide⟩
  have hat14 : cl14.slots[((2 : Int32)).toNatClampNeg]? = some (.ref xe2) := Hs14.at hin14 rfl
  refine oWk.st (fun _ kt => X.aaload hx (j := (2 : Int32)) (v := (.ref xe2)) (by rw [e0]; exact Ar14.1) (State.isArrayOf_alike hZ.alike Ar14.2.1) rfl Ar14.2.2 hin14 hat14 (g := (mkF m 18 #[rv xf, rv o2, iv 2] [(.int 2), (.ref xf), (.int 2), (.ref o2)])) rfl rfl (hb hby d30_18) _ kt) ?_
  have Oh := K.old O0 all0
  obtain ⟨T, L16, X, e0, K, st⟩ := (cs25 hw).pure X hx hZ hown e0 K (A := [(.ref xe2)]) rfl (rRNN l Z a0 hw [] xe2 h Oh ) (fun _ _ _ q => q) (W := 2) (by decide) hml (Ls := #[rv xf, rv o2, iv 2]) rfl (rest := [(.int (2 : Int32)), (.ref o2)]) rfl rfl hby d30_19
  refine oWk.st st ?_
  have I_xe2 := (((I_xe2.ext E2).wr W7).wr W12)
  obtain ⟨cl17, Ar17, q17, Sz17, Nn17, Hs17, Ft17⟩ := id V_o2
  have hin17 : ¬ ((2 : Int32) < 0 ∨ cl17.slots.size ≤ ((2 : Int32)).toNatClampNeg) := inb_of Sz17 ⟨by decide, by decide⟩
  obtain ⟨T, h, X, e0, W17, st⟩ := stR X hx hZ e0 Ar17 (j := (2 : Int32)) hin17 rfl (Sto.ofV Ar17 q17 O2 I_xe2) (g := (mkF m 22 #[rv xf, rv o2, iv 2] [(.ref xe2), (.int 2), (.ref o2)])) rfl rfl (hb hby d30_22)
  refine oWk.st st ?_
  have K := K.wr W17 (Or.inr ge_o2)
  have V_o2 : Arv Z h o2 k2 (.object Y0) (3 : Int32) [(.ref xe0), (.ref xe1), (.ref xe2)] .null := Arv.set Ar17 q17 Sz17 Nn17 Hs17 Ft17 rfl W17 2 rfl (Nat.le_of_ble_eq_true rfl)
  refine oWk.st (fun _ kt => zC X hx hby d30_23 rfl rfl (l' := #[rv xf, rv o2, iv ((2 : Int32) + (1 : Int32))]) rfl kt) ?_
  show oWk _ _ _ _ T (mkF m 26 #[rv xf, rv o2, iv ((2 : Int32) + (1 : Int32))] [])
  rw [show ((2 : Int32) + (1 : Int32)) = (3 : Int32) from by decide]
  show oWk _ _ _ _ T (mkF m 26 #[rv xf, rv o2, iv 3] [])
  refine oWk.st (fun _ kt => zG X hx hby d30_26 rfl (pc' := 8) rfl (zI X hx hby d30_8 rfl rfl (zA X hx hby d30_9 rfl rfl rfl kt))) ?_
  have V_xf := (V_xf.other W17 ne_xf_o2)
  obtain ⟨cl18, Ar18, q18, Sz18, Nn18, Hs18, Ft18⟩ := id V_xf
  refine oWk.st (fun _ kt => X.arraylength hx (by rw [e0]; exact Ar18.1) (State.isArrayOf_alike hZ.alike Ar18.2.1) (g := (mkF m 10 #[rv xf, rv o2, iv 3] [(.ref xf), (.int 3)])) rfl rfl (hb hby d30_10) _ kt) ?_
  rw [len_of Sz18 Nn18]
  refine oWk.st (fun _ kt => zY X hx hby d30_11 rfl rfl (flt (by decide)).2.1 (pc' := 29) rfl kt) ?_
  obtain ⟨o19, g19⟩ : ∃ z, z = h.size := ⟨_, rfl⟩
  have ne_xf_o19 : xf ≠ o19 := Nat.ne_of_lt (Nat.lt_of_lt_of_le V_xf.lt (Nat.le_of_eq g19.symm))
  have ne_o2_o19 : o2 ≠ o19 := Nat.ne_of_lt (Nat.lt_of_lt_of_le V_o2.lt (Nat.le_of_eq g19.symm))
  have ge_o19 : h0.size ≤ o19 := Nat.le_trans K.le (Nat.le_of_eq g19.symm)
  obtain ⟨T, h, X, e0, E19, A19, D19, -, st⟩ := newO X hx hZ hown (oW hw 72 rfl) (oW hw 216 rfl) (oW hw 217 rfl) e0 (g := (mkF m 29 #[rv xf, rv o2, iv 3] [])) rfl (hb hby d30_29) (by decide) (by decide)
  rw [← g19] at A19 D19 st
  refine oWk.st st ?_
  have K := K.ext E19
  have E_o19 := A19
  have F_elements_o19 : Fld Z h o19 Y6 "elements" Y2 .null := D19 (Or.inr (oW hw 227 rfl)) (ty := (.array (.object Y0))) (by decide)
  have F_allowNulls_o19 : Fld Z h o19 Y6 "allowNulls" "Z" (.int (0 : Int32)) := D19 (Or.inr (oW hw 229 rfl)) (ty := .boolean) (by decide)
  refine oWk.st (fun _ kt => zD X hx hby d30_32 rfl rfl rfl (zA X hx hby d30_33 rfl rfl rfl (zK X hx hby d30_34 rfl kt))) ?_
  have Oh := K.old O0 all0
  obtain ⟨_, T, h, Lc21, X, e0, hQ, st⟩ := (cs26 hw).run X hx hZ hown e0 (A := [(.ref o19), (.ref o2), (.int (0 : Int32))]) ⟨rfl, _, _, rfl⟩ (rLNI l Z a0 hw [] o19 o2 .null (.int (0 : Int32)) h Oh (Nat.le_trans O0.1 ge_o19) E_o19 F_elements_o19 F_allowNulls_o19) (W := 1) (by decide) hml (Ls := #[rv xf, rv o2, iv 3]) rfl (rest := [(.ref o19)]) rfl rfl hby d30_35
  obtain ⟨rfl, K20, E_o19, F_elements_o19, F_allowNulls_o19⟩ := hQ
  have K := K.call K20 (allS (Or.inr ge_o19) all0)
  refine oWk.st st ?_
  have V_o2 := ((V_o2.ext E19).keep K20.1 (ninS ne_o2_o19 nin0))
  exact oRetA X hx hlk hret rfl rfl (hb hby d30_38) (by rw [e0]; exact ⟨o19, o2, k2, rfl, K, ge_o19, E_o19, F_elements_o19, F_allowNulls_o19, ge_o2, V_o2⟩) (by decide) (by decide)
def Q_rOf_3 (Z : State) (xf : Addr) (xk : ClassId) (xe0 xe1 xe2 : Addr) (h0 : Heap) (v : Option Value) (h : Heap) (L : List Loc) : Prop := ∃ (nl : Addr) (ng : Addr) (nj : ClassId), v = some (.ref nl) ∧ oKp h0 h [] L ∧ (h0.size ≤ nl) ∧ (Exa Z h nl Y6) ∧ (Fld Z h nl Y6 "elements" Y2 (.ref ng)) ∧ (Fld Z h nl Y6 "allowNulls" "Z" (.int (0 : Int32))) ∧ (h0.size ≤ ng) ∧ (Arv Z h ng nj (.object Y0) (3 : Int32) [(.ref xe0), (.ref xe1), (.ref xe2)] .null)
theorem d22_59 : decode jdk_40_method_47_code 59 = .ok (.aload_n 0, 1) := by decide +kernel
theorem d22_60 : decode jdk_40_method_47_code 60 = .ok (.invokestatic 109, 3) := by decide +kernel
theorem cs27 {a0 : Array Value} {Z : State} (hw : oHW a0 Z) : oCall Z Y3 (.invokestatic 109) yy32 jdk_56_method_4_code 3 (some (.object Y3)) (oRs 1) := oCall.stat (oW hw 211 rfl) (oW hw 212 rfl) (oW hw 65 rfl) (oW hw 213 rfl) (by decide) pd_16
theorem d22_63 : decode jdk_40_method_47_code 63 = .ok (.areturn, 1) := by decide +kernel
theorem rOf_3 (l : Launch) (Z : State) (a0 : Array Value) (hw : oHW a0 Z) (ws : List Jvm.Cond) (xf : Addr) (xk : ClassId) (xe0 xe1 xe2 : Addr) (h0 : Heap) (O0 : Ext Z.heap h0) (V_xf : Arv Z h0 xf xk (.object Y0) (3 : Int32) [(.ref xe0), (.ref xe1), (.ref xe2)] .null) (I_xe0 : Ins Z h0 xe0 Y0 true) (I_xe1 : Ins Z h0 xe1 Y0 true) (I_xe2 : Ins Z h0 xe2 Y0 true) :
    oCon l Z yy25 jdk_40_method_47_code 2 (some (.object Y3)) ws ({ frames := 6, cells := 2, slots := 5, locals := 77 } : Room) #[(.ref xf)] h0 (Q_rOf_3 Z xf xk xe0 xe1 xe2 h0) := by
  refine oCon.of (plainFor_of_name pn_3) ?_
  intro p e s m below meth c T X hx hby hml hown hnm hret hlk hZ e0
  have hml : c.maxLocals = 2 := hml
  have K : oKp h0 h0 [] [] := oKp.nil _ _
  refine oWk.cast (g' := (mkF m 0 #[rv xf, uu] [])) (by first | rfl | (simp [entryFrame, mkF, argsToLocals, Value.category]; done)) ?_
  refine oWk.st (fun _ kt => zA X hx hby d22_0 rfl rfl rfl kt) ?_
  obtain ⟨cl1, Ar1, q1, Sz1, Nn1, Hs1, Ft1⟩ := id V_xf
  refine oWk.st (fun _ kt => X.arraylength hx (by rw [e0]; exact Ar1.1) (State.isArrayOf_alike hZ.alike Ar1.2.1) (g := (mkF m 1 #[rv xf, uu] [(.ref xf)])) rfl rfl (hb hby d22_1) _ kt) ?_
  rw [len_of Sz1 Nn1]
  refine oWk.st (fun _ kt => XS.tswOut X.here hx rfl (pc0 := 2) (pc' := 59) rfl (hb hby d22_2) rfl (by decide) (by decide) (by decide) (zA X hx hby d22_59 rfl rfl rfl kt)) ?_
  have lt_xf := V_xf.lt
  have Oh := K.old O0 all0
  obtain ⟨_, T, h, Lc3, X, e0, hQ, st⟩ := (cs27 hw).run X hx hZ hown e0 (A := [(.ref xf)]) rfl (rLFA_3 l Z a0 hw [] xf xk xe0 xe1 xe2 h0 Oh V_xf I_xe0 I_xe1 I_xe2) (W := 0) (by decide) hml (Ls := #[rv xf, uu]) rfl (rest := []) rfl rfl hby d22_60
  obtain ⟨nl2, ng2, nj2, rfl, K2, gn_nl2, E_nl2, F_elements_nl2, F_allowNulls_nl2, gn_ng2, V_ng2⟩ := hQ
  have ge_nl2 := Nat.le_trans K.le gn_nl2
  have ne_xf_nl2 : xf ≠ nl2 := Nat.ne_of_lt (Nat.lt_of_lt_of_le lt_xf gn_nl2)
  have ge_ng2 := Nat.le_trans K.le gn_ng2
  have ne_xf_ng2 : xf ≠ ng2 := Nat.ne_of_lt (Nat.lt_of_lt_of_le lt_xf gn_ng2)
  have K := K.call K2 all0
  refine oWk.st st ?_
  exact oRetA X hx hlk hret rfl rfl (hb hby d22_63) (by rw [e0]; exact ⟨nl2, ng2, nj2, rfl, K, ge_nl2, E_nl2, F_elements_nl2, F_allowNulls_nl2, ge_ng2, V_ng2⟩) (by decide) (by decide)
def Q_rLC_3 (Z : State) (xa xf xmr : Addr) (xk : ClassId) (xe0 xe1 xe2 : Addr) (h0 : Heap) (v : Option Value) (h : Heap) (L : List Loc) : Prop := ∃ (nl : Addr) (ng : Addr) (nj : ClassId), v = some (.ref nl) ∧ oKp h0 h [] L ∧ (h0.size ≤ nl) ∧ (Exa Z h nl Y6) ∧ (Fld Z h nl Y6 "elements" Y2 (.ref ng)) ∧ (Fld Z h nl Y6 "allowNulls" "Z" (.int (0 : Int32))) ∧ (h0.size ≤ ng) ∧ (Arv Z h ng nj (.object Y0) (3 : Int32) [(.ref xe0), (.ref xe1), (.ref xe2)] .null)
theorem rLC_3 (l : Launch) (Z : State) (a0 : Array Value) (hw : oHW a0 Z) (ws : List Jvm.Cond) (xa xf xmr : Addr) (xk : ClassId) (xe0 xe1 xe2 : Addr) (h0 : Heap) (O0 : Ext Z.heap h0) (mm_ : oMir Z Y2 xmr) (E_xa : Exa Z h0 xa Y1) (F_elementData_xa : Fld Z h0 xa Y1 "elementData" Y2 (.ref xf)) (F_size_xa : Fld Z h0 xa Y1 "size" "I" (.int (3 : Int32))) (E_xf : Exa Z h0 xf Y2) (V_xf : Arv Z h0 xf xk (.object Y0) (10 : Int32) [(.ref xe0), (.ref xe1), (.ref xe2), .null, .null, .null, .null, .null, .null, .null] .null) (I_xe0 : Ins Z h0 xe0 Y0 true) (I_xe1 : Ins Z h0 xe1 Y0 true) (I_xe2 : Ins Z h0 xe2 Y0 true) :
    oCon l Z yy4 jdk_56_method_3_code 2 (some (.object Y3)) ws ({ frames := 7, cells := 3, slots := 8, locals := 90 } : Room) #[(.ref xa)] h0 (Q_rLC_3 Z xa xf xmr xk xe0 xe1 xe2 h0) := by
  refine oCon.of (plainFor_of_name pn_4) ?_
  intro p e s m below meth c T X hx hby hml hown hnm hret hlk hZ e0
  have hml : c.maxLocals = 2 := hml
  have K : oKp h0 h0 [] [] := oKp.nil _ _
  refine oWk.cast (g' := (mkF m 0 #[rv xa, uu] [])) (by first | rfl | (simp [entryFrame, mkF, argsToLocals, Value.category]; done)) ?_
  refine oWk.st (fun _ kt => zA X hx hby d10_0 rfl rfl rfl kt) ?_
  obtain ⟨T, X, e0, st⟩ := instNo X hx hZ hown (oW hw 67 rfl) e0 E_xa (oNSno (oW hw 68 rfl) (oW hw 164 rfl) (NS.step (oW hw 68 rfl) (NS.step (oW hw 69 rfl) (NS.step (oW hw 70 rfl) (oNSroot (oW hw 71 rfl) (oW hw 164 rfl) (by decide)) (by decide)) (by decide)) (by decide)) (by decide)) (g := (mkF m 1 #[rv xa, uu] [(.ref xa)])) rfl rfl (hb hby d10_1)
  refine oWk.st st ?_
  refine oWk.st (fun _ kt => zH X hx hby d10_4 rfl rfl ((if0 _ _).trans (teq (by decide)).2) (zA X hx hby d10_7 rfl rfl rfl kt)) ?_
  obtain ⟨T, X, e0, st⟩ := instNo X hx hZ hown (oW hw 72 rfl) e0 E_xa (oNSno (oW hw 68 rfl) (oW hw 216 rfl) (NS.step (oW hw 68 rfl) (NS.step (oW hw 69 rfl) (NS.step (oW hw 70 rfl) (oNSroot (oW hw 71 rfl) (oW hw 216 rfl) (by decide)) (by decide)) (by decide)) (by decide)) (by decide)) (g := (mkF m 8 #[rv xa, uu] [(.ref xa)])) rfl rfl (hb hby d10_8)
  refine oWk.st st ?_
  refine oWk.st (fun _ kt => zF X hx hby d10_11 rfl rfl ((if0 _ _).trans (teq (by decide)).1) (pc' := 31) rfl (zA X hx hby d10_31 rfl rfl rfl kt)) ?_
  have Oh := K.old O0 all0
  obtain ⟨cq2, kq2, q2a, q2b, q2c⟩ := isOf hZ e0 E_xa
  obtain ⟨_, _, ⟨T, L2, k2, n2⟩, -, X, ⟨Lc2, hQ, l2, y2, z2⟩, st⟩ := X.interfaceBack hx (xi := yy5) (y := yy2) hown (mvT hZ (oW hw 73 rfl)) (mvT hZ (oW hw 74 rfl)) (mvT hZ (oW hw 75 rfl)) (mvT hZ (oW hw 76 rfl)) (mvT hZ (oW hw 77 rfl)) (mvT hZ (oW hw 78 rfl)) (mvT hZ (oW hw 79 rfl)) (mvT hZ (oW hw 80 rfl)) (by decide) (backOf (W := 0) (rEmp3 l Z a0 hw [] xa h0 Oh F_size_xa) hZ (oW hw 81 rfl) (oW hw 20 rfl) (by decide) (by decide)) q2a q2b q2c (g := (mkF m 32 #[rv xa, uu] [(.ref xa)])) rfl (by rw [hml]; rfl) (Steps.refl _) (argsL := []) (rest := []) (lenOf pd_0 rfl) rfl (Nat.le_of_eq rfl) (hb hby d10_32) (fun _ _ => ⟨rfl, e0, (by decide : 0 + 0 ≤ _), (by decide : 0 + 0 ≤ _)⟩)
  dsimp only [Pt.U, Pt.locs, Pt.cells, Pt.slots] at X l2 y2 z2 st hQ
  subst l2 y2 z2
  obtain ⟨rfl, e0, K1⟩ := hQ
  have K := K.call K1 all0
  rw [e0] at K
  refine oWk.tr st ?_
  refine oWk.st (fun _ kt => zF X hx hby d10_37 rfl rfl ((if0 _ _).trans (teq (by decide)).1) (pc' := 44) rfl (zA X hx hby d10_44 rfl rfl rfl kt)) ?_
  have lt_xa := E_xa.lt
  have lt_xf := E_xf.lt
  obtain ⟨cq4, kq4, q4a, q4b, q4c⟩ := isOf hZ e0 E_xa
  obtain ⟨_, _, ⟨T, L4, k4, n4⟩, -, X, ⟨Lc4, hQ, l4, y4, z4⟩, st⟩ := X.interfaceBack hx (xi := yy26) (y := yy20) hown (mvT hZ (oW hw 130 rfl)) (mvT hZ (oW hw 131 rfl)) (mvT hZ (oW hw 132 rfl)) (mvT hZ (oW hw 133 rfl)) (mvT hZ (oW hw 134 rfl)) (mvT hZ (oW hw 135 rfl)) (mvT hZ (oW hw 136 rfl)) (mvT hZ (oW hw 80 rfl)) (by decide) (backOf (W := 0) (rTA_3 l Z a0 hw [] xa xf xmr xk xe0 xe1 xe2 h0 Oh mm_ F_elementData_xa F_size_xa E_xf V_xf I_xe0 I_xe1 I_xe2) hZ (oW hw 137 rfl) (oW hw 20 rfl) (by decide) (by decide)) q4a q4b q4c (g := (mkF m 45 #[rv xa, uu] [(.ref xa)])) rfl (by rw [hml]; rfl) (Steps.refl _) (argsL := []) (rest := []) (lenOf pd_9 rfl) rfl (Nat.le_of_eq rfl) (hb hby d10_45) (fun _ _ => ⟨rfl, e0, (by decide : 0 + 1 ≤ _), (by decide : 0 + 3 ≤ _)⟩)
  dsimp only [Pt.U, Pt.locs, Pt.cells, Pt.slots] at X l4 y4 z4 st hQ
  subst l4 y4 z4
  obtain ⟨h, e0⟩ : ∃ z, T.heap = z := ⟨_, rfl⟩
  rw [e0] at hQ
  obtain ⟨nb3, nj3, rfl, K3, gn_nb3, E_nb3, V_nb3, ov_nj3⟩ := hQ
  have ge_nb3 := Nat.le_trans K.le gn_nb3
  have ne_xa_nb3 : xa ≠ nb3 := Nat.ne_of_lt (Nat.lt_of_lt_of_le lt_xa gn_nb3)
  have ne_xf_nb3 : xf ≠ nb3 := Nat.ne_of_lt (Nat.lt_of_lt_of_le lt_xf gn_nb3)
  have K := K.call K3 all0
  refine oWk.tr st ?_
  have I_xe0 := (oInsKeep I_xe0 K3.1)
  have I_xe1 := (oInsKeep I_xe1 K3.1)
  have I_xe2 := (oInsKeep I_xe2 K3.1)
  have E_xa := (E_xa.keep K3.1)
  have lt_xa := E_xa.lt
  have E_xf := (E_xf.keep K3.1)
  have lt_xf := E_xf.lt
  have lt_nb3 := E_nb3.lt
  have Oh := K.old O0 all0
  obtain ⟨_, T, h, Lc6, X, e0, hQ, st⟩ := (cs21 hw).run X hx hZ hown e0 (A := [(.ref nb3)]) rfl (rOf_3 l Z a0 hw [] nb3 nj3 xe0 xe1 xe2 h Oh V_nb3 I_xe0 I_xe1 I_xe2) (W := 0) (by decide) hml (Ls := #[rv xa, uu]) rfl (rest := []) rfl rfl hby d10_50
  obtain ⟨nl5, ng5, nj5, rfl, K5, gn_nl5, E_nl5, F_elements_nl5, F_allowNulls_nl5, gn_ng5, V_ng5⟩ := hQ
  have ge_nl5 := Nat.le_trans K.le gn_nl5
  have ne_xa_nl5 : xa ≠ nl5 := Nat.ne_of_lt (Nat.lt_of_lt_of_le lt_xa gn_nl5)
  have ne_xf_nl5 : xf ≠ nl5 := Nat.ne_of_lt (Nat.lt_of_lt_of_le lt_xf gn_nl5)
  have ne_nb3_nl5 : nb3 ≠ nl5 := Nat.ne_of_lt (Nat.lt_of_lt_of_le lt_nb3 gn_nl5)
  have ge_ng5 := Nat.le_trans K.le gn_ng5
  have ne_xa_ng5 : xa ≠ ng5 := Nat.ne_of_lt (Nat.lt_of_lt_of_le lt_xa gn_ng5)
  have ne_xf_ng5 : xf ≠ ng5 := Nat.ne_of_lt (Nat.lt_of_lt_of_le lt_xf gn_ng5)
  have ne_nb3_ng5 : nb3 ≠ ng5 := Nat.ne_of_lt (Nat.lt_of_lt_of_le lt_nb3 gn_ng5)
  have K := K.call K5 all0
  refine oWk.st st ?_
  exact oRetA X hx hlk hret rfl rfl (hb hby d10_53) (by rw [e0]; exact ⟨nl5, ng5, nj5, rfl, K, ge_nl5, E_nl5, F_elements_nl5, F_allowNulls_nl5, ge_ng5, V_ng5⟩) (by decide) (by decide)
def Q_rCO_3 (Z : State) (xa xf xmr : Addr) (xk : ClassId) (xe0 xe1 xe2 : Addr) (h0 : Heap) (v : Option Value) (h : Heap) (L : List Loc) : Prop := ∃ (nl : Addr) (ng : Addr) (nj : ClassId), v = some (.ref nl) ∧ oKp h0 h [] L ∧ (h0.size ≤ nl) ∧ (Exa Z h nl Y6) ∧ (Fld Z h nl Y6 "elements" Y2 (.ref ng)) ∧ (Fld Z h nl Y6 "allowNulls" "Z" (.int (0 : Int32))) ∧ (h0.size ≤ ng) ∧ (Arv Z h ng nj (.object Y0) (3 : Int32) [(.ref xe0), (.ref xe1), (.ref xe2)] .null)
theorem rCO_3 (l : Launch) (Z : State) (a0 : Array Value) (hw : oHW a0 Z) (ws : List Jvm.Cond) (xa xf xmr : Addr) (xk : ClassId) (xe0 xe1 xe2 : Addr) (h0 : Heap) (O0 : Ext Z.heap h0) (mm_ : oMir Z Y2 xmr) (E_xa : Exa Z h0 xa Y1) (F_elementData_xa : Fld Z h0 xa Y1 "elementData" Y2 (.ref xf)) (F_size_xa : Fld Z h0 xa Y1 "size" "I" (.int (3 : Int32))) (E_xf : Exa Z h0 xf Y2) (V_xf : Arv Z h0 xf xk (.object Y0) (10 : Int32) [(.ref xe0), (.ref xe1), (.ref xe2), .null, .null, .null, .null, .null, .null, .null] .null) (I_xe0 : Ins Z h0 xe0 Y0 true) (I_xe1 : Ins Z h0 xe1 Y0 true) (I_xe2 : Ins Z h0 xe2 Y0 true) :
    oCon l Z yy6 jdk_40_method_48_code 1 (some (.object Y3)) ws ({ frames := 8, cells := 3, slots := 8, locals := 103 } : Room) #[(.ref xa)] h0 (Q_rCO_3 Z xa xf xmr xk xe0 xe1 xe2 h0) := by
  refine oCon.of (plainFor_of_name pn_3) ?_
  intro p e s m below meth c T X hx hby hml hown hnm hret hlk hZ e0
  have hml : c.maxLocals = 1 := hml
  have K : oKp h0 h0 [] [] := oKp.nil _ _
  refine oWk.cast (g' := (mkF m 0 #[rv xa] [])) (by first | rfl | (simp [entryFrame, mkF, argsToLocals, Value.category]; done)) ?_
  refine oWk.st (fun _ kt => zA X hx hby d9_0 rfl rfl rfl kt) ?_
  have lt_xa := E_xa.lt
  have lt_xf := E_xf.lt
  have Oh := K.old O0 all0
  obtain ⟨_, T, h, Lc2, X, e0, hQ, st⟩ := (cs1 hw).run X hx hZ hown e0 (A := [(.ref xa)]) rfl (rLC_3 l Z a0 hw [] xa xf xmr xk xe0 xe1 xe2 h0 Oh mm_ E_xa F_elementData_xa F_size_xa E_xf V_xf I_xe0 I_xe1 I_xe2) (W := 0) (by decide) hml (Ls := #[rv xa]) rfl (rest := []) rfl rfl hby d9_1
  obtain ⟨nl1, ng1, nj1, rfl, K1, gn_nl1, E_nl1, F_elements_nl1, F_allowNulls_nl1, gn_ng1, V_ng1⟩ := hQ
  have ge_nl1 := Nat.le_trans K.le gn_nl1
  have ne_xa_nl1 : xa ≠ nl1 := Nat.ne_of_lt (Nat.lt_of_lt_of_le lt_xa gn_nl1)
  have ne_xf_nl1 : xf ≠ nl1 := Nat.ne_of_lt (Nat.lt_of_lt_of_le lt_xf gn_nl1)
  have ge_ng1 := Nat.le_trans K.le gn_ng1
  have ne_xa_ng1 : xa ≠ ng1 := Nat.ne_of_lt (Nat.lt_of_lt_of_le lt_xa gn_ng1)
  have ne_xf_ng1 : xf ≠ ng1 := Nat.ne_of_lt (Nat.lt_of_lt_of_le lt_xf gn_ng1)
  have K := K.call K1 all0
  refine oWk.st st ?_
  exact oRetA X hx hlk hret rfl rfl (hb hby d9_4) (by rw [e0]; exact ⟨nl1, ng1, nj1, rfl, K, ge_nl1, E_nl1, F_elements_nl1, F_allowNulls_nl1, ge_ng1, V_ng1⟩) (by decide) (by decide)
def Q_rNI_3_0 (Z : State) (xa xi xs : Addr) (u1 u2 u3 u4 : Value) (xg xgf : Addr) (xgk : ClassId) (xge0 xge1 xge2 xh xl xmr : Addr) (h0 : Heap) (v : Option Value) (h : Heap) (L : List Loc) : Prop := ∃ (nl : Addr) (ng : Addr) (nj : ClassId), v = none ∧ oKp h0 h [xa] L ∧ (Exa Z h xa Y4) ∧ (Fld Z h xa Y4 "ordered" Y5 (.ref nl)) ∧ (Exa Z h nl Y6) ∧ (Fld Z h nl Y6 "elements" Y2 (.ref ng)) ∧ (Arv Z h ng nj (.object Y0) (3 : Int32) [(.ref xge0), (.ref xge1), (.ref xge2)] .null)
theorem rNI_3_0 (l : Launch) (Z : State) (a0 : Array Value) (hw : oHW a0 Z) (ws : List Jvm.Cond) (xa xi xs : Addr) (u1 u2 u3 u4 : Value) (xg xgf : Addr) (xgk : ClassId) (xge0 xge1 xge2 xh xl xmr : Addr) (h0 : Heap) (O0 : Ext Z.heap h0) (S_EMPTY_LIST : Sta Z Z.heap Y12 "EMPTY_LIST" Y15 (.ref xl)) (mm_ : oMir Z Y2 xmr) (og_xa : Z.heap.size ≤ xa) (E_xa : Exa Z h0 xa Y4) (F_kind_xa : Fld Z h0 xa Y4 "kind" Y13 u1) (F_name_xa : Fld Z h0 xa Y4 "name" Y14 u2) (F_ordered_xa : Fld Z h0 xa Y4 "ordered" Y5 u3) (F_unordered_xa : Fld Z h0 xa Y4 "unordered" Y5 u4) (E_xg : Exa Z h0 xg Y1) (F_elementData_xg : Fld Z h0 xg Y1 "elementData" Y2 (.ref xgf)) (F_size_xg : Fld Z h0 xg Y1 "size" "I" (.int (3 : Int32))) (E_xgf : Exa Z h0 xgf Y2) (V_xgf : Arv Z h0 xgf xgk (.object Y0) (10 : Int32) [(.ref xge0), (.ref xge1), (.ref xge2), .null, .null, .null, .null, .null, .null, .null] .null) (I_xge0 : Ins Z h0 xge0 Y0 true) (I_xge1 : Ins Z h0 xge1 Y0 true) (I_xge2 : Ins Z h0 xge2 Y0 true) (E_xh : Exa Z h0 xh Y1) (F_size_xh : Fld Z h0 xh Y1 "size" "I" (.int (0 : Int32))) :
    oConH l Z oEL yy7 prog_27_method_1_code 5 none ws ({ frames := 9, cells := 7, slots := 48, locals := 115 } : Room) #[(.ref xa), (.ref xi), (.ref xs), (.ref xg), (.ref xh)] h0 [xa] (Q_rNI_3_0 Z xa xi xs u1 u2 u3 u4 xg xgf xgk xge0 xge1 xge2 xh xl xmr h0) := by
  refine oConH.of (plainFor_of_name pn_5) ?_
  intro p e s m below meth c T vm X hx hby hml hown hnm hret hlk hZ e0 B hsf
  have hml : c.maxLocals = 5 := hml
  have K : oKp h0 h0 [xa] [] := oKp.nil _ _
  refine oWk.cast (g' := (mkF m 0 #[rv xa, rv xi, rv xs, rv xg, rv xh] [])) (by first | rfl | (simp [entryFrame, mkF, argsToLocals, Value.category]; done)) ?_
  refine oWk.st (fun _ kt => zA X hx hby d6_0 rfl rfl rfl kt) ?_
  have Oh := K.old O0 (allS og_xa all0)
  obtain ⟨T, L2, X, e0, K, st⟩ := (cs2 hw).pure X hx hZ hown e0 K (A := [(.ref xa)]) ⟨rfl, _, _, rfl⟩ (rRec l Z a0 hw [] xa h0 Oh ) (fun _ _ _ q => q) (W := 0) (by decide) hml (Ls := #[rv xa, rv xi, rv xs, rv xg, rv xh]) rfl (rest := []) rfl rfl hby d6_1
  refine oWk.st st ?_
  refine oWk.st (fun _ kt => zA X hx hby d6_4 rfl rfl rfl kt) ?_
  obtain ⟨lt3, T, h, X, e2, E3, hZ, hown, B, C, st⟩ := oLdcO X hx hZ hown (oW hw 53 rfl) (oSA hw) e0 (oELw hw) B (g := (mkF m 5 #[rv xa, rv xi, rv xs, rv xg, rv xh] [(.ref xi)])) rfl (hb hby d6_5) (n := 16) (by decide) (by decide) (by decide) (by decide)
  have e0 := e2
  refine oWk.st st ?_
  have K := K.ext E3
  have Oh := K.old O0 (allS og_xa all0)
  obtain ⟨T, L5, X, e0, K, st⟩ := (cs3 hw).pure X hx hZ hown e0 K (A := [(.ref xi), (.ref lt3)]) rfl (rRN2 l Z a0 hw [] xi lt3 h Oh ) (fun _ _ _ q => q) (W := 0) (by decide) hml (Ls := #[rv xa, rv xi, rv xs, rv xg, rv xh]) rfl (rest := []) rfl rfl hby d6_7
  refine oWk.st st ?_
  refine oWk.st (fun _ kt => XS.pop X.here hx rfl (hb hby d6_10) rfl rfl (zA X hx hby d6_11 rfl rfl rfl kt)) ?_
  obtain ⟨lt6, T, h, X, e2, E6, hZ, hown, B, C, st⟩ := oLdcO X hx hZ hown (oW hw 58 rfl) (oSA hw) e0 (oELw hw) B (g := (mkF m 12 #[rv xa, rv xi, rv xs, rv xg, rv xh] [(.ref xs)])) rfl (hb hby d6_12) (n := 16) (by decide) (by decide) (by decide) (by decide)
  have e0 := e2
  refine oWk.st st ?_
  have K := K.ext E6
  have Oh := K.old O0 (allS og_xa all0)
  obtain ⟨T, L8, X, e0, K, st⟩ := (cs3 hw).pure X hx hZ hown e0 K (A := [(.ref xs), (.ref lt6)]) rfl (rRN2 l Z a0 hw [] xs lt6 h Oh ) (fun _ _ _ q => q) (W := 0) (by decide) hml (Ls := #[rv xa, rv xi, rv xs, rv xg, rv xh]) rfl (rest := []) rfl rfl hby d6_14
  refine oWk.st st ?_
  refine oWk.st (fun _ kt => XS.pop X.here hx rfl (hb hby d6_17) rfl rfl (zA X hx hby d6_18 rfl rfl rfl kt)) ?_
  have E_xg := ((E_xg.ext E3).ext E6)
  have F_elementData_xg := ((F_elementData_xg.ext E3).ext E6)
  have F_size_xg := ((F_size_xg.ext E3).ext E6)
  have E_xgf := ((E_xgf.ext E3).ext E6)
  have V_xgf := ((V_xgf.ext E3).ext E6)
  have I_xge0 := ((I_xge0.ext E3).ext E6)
  have I_xge1 := ((I_xge1.ext E3).ext E6)
  have I_xge2 := ((I_xge2.ext E3).ext E6)
  have E_xa := ((E_xa.ext E3).ext E6)
  have lt_xa := E_xa.lt
  have lt_xg := E_xg.lt
  have lt_xgf := E_xgf.lt
  have E_xh := ((E_xh.ext E3).ext E6)
  have lt_xh := E_xh.lt
  obtain ⟨_, T, h, Lc10, X, e0, hQ, st⟩ := (cs4 hw).run X hx hZ hown e0 (A := [(.ref xg)]) rfl (rCO_3 l Z a0 hw [] xg xgf xmr xgk xge0 xge1 xge2 h Oh mm_ E_xg F_elementData_xg F_size_xg E_xgf V_xgf I_xge0 I_xge1 I_xge2) (W := 0) (by decide) hml (Ls := #[rv xa, rv xi, rv xs, rv xg, rv xh]) rfl (rest := []) rfl rfl hby d6_19
  obtain ⟨nl9, ng9, nj9, rfl, K9, gn_nl9, E_nl9, F_elements_nl9, F_allowNulls_nl9, gn_ng9, V_ng9⟩ := hQ
  have ge_nl9 := Nat.le_trans K.le gn_nl9
  have ne_xa_nl9 : xa ≠ nl9 := Nat.ne_of_lt (Nat.lt_of_lt_of_le lt_xa gn_nl9)
  have ne_xg_nl9 : xg ≠ nl9 := Nat.ne_of_lt (Nat.lt_of_lt_of_le lt_xg gn_nl9)
  have ne_xgf_nl9 : xgf ≠ nl9 := Nat.ne_of_lt (Nat.lt_of_lt_of_le lt_xgf gn_nl9)
  have ne_xh_nl9 : xh ≠ nl9 := Nat.ne_of_lt (Nat.lt_of_lt_of_le lt_xh gn_nl9)
  have ge_ng9 := Nat.le_trans K.le gn_ng9
  have ne_xa_ng9 : xa ≠ ng9 := Nat.ne_of_lt (Nat.lt_of_lt_of_le lt_xa gn_ng9)
  have ne_xg_ng9 : xg ≠ ng9 := Nat.ne_of_lt (Nat.lt_of_lt_of_le lt_xg gn_ng9)
  have ne_xgf_ng9 : xgf ≠ ng9 := Nat.ne_of_lt (Nat.lt_of_lt_of_le lt_xgf gn_ng9)
  have ne_xh_ng9 : xh ≠ ng9 := Nat.ne_of_lt (Nat.lt_of_lt_of_le lt_xh gn_ng9)
  have K := K.call K9 all0
  have B := B.keep K9.1 (fun _ _ => oSf)
  refine oWk.st st ?_
  refine oWk.st (fun _ kt => zTn X hx hby d6_22 rfl rfl rfl (l' := #[rv xa, rv xi, rv xs, rv nl9, rv xh]) rfl (zB X hx hby d6_23 rfl rfl rfl kt)) ?_
  have E_xh := (E_xh.keep K9.1)
  have F_size_xh := (((F_size_xh.ext E3).ext E6).keep K9.1 nin0)
  have Oh := K.old O0 (allS og_xa all0)
  obtain ⟨T, L12, X, e0, K, st⟩ := (cs4 hw).pure X hx hZ hown e0 K (A := [(.ref xh)]) rfl (rCO0 l Z a0 hw [] xh xl h Oh S_EMPTY_LIST E_xh F_size_xh) (fun _ _ _ q => q) (W := 0) (by decide) hml (Ls := #[rv xa, rv xi, rv xs, rv nl9, rv xh]) rfl (rest := []) rfl rfl hby d6_25
  refine oWk.st st ?_
  refine oWk.st (fun _ kt => zT X hx hby d6_28 rfl rfl rfl (l' := #[rv xa, rv xi, rv xs, rv nl9, rv xl]) rfl (zA X hx hby d6_30 rfl rfl rfl (zA X hx hby d6_31 rfl rfl rfl kt))) ?_
  have E_xa := (E_xa.keep K9.1)
  have F_kind_xa := (((F_kind_xa.ext E3).ext E6).keep K9.1 nin0)
  obtain ⟨T, h, X, e0, W13, st⟩ := putF X hx hZ hown (host := "") (Or.inl (oW hw 88 rfl)) Via.refl e0 F_kind_xa E_xa (Or.inr ⟨(oW hw 89 rfl), rfl, hnm⟩) (oW hw 8 rfl) (ty := (.object Y7)) (by decide) rfl rfl (g := (mkF m 32 #[rv xa, rv xi, rv xs, rv nl9, rv xl] [(.ref xi), (.ref xa)])) rfl rfl (hb hby d6_32)
  refine oWk.st st ?_
  have K := K.wr W13 (Or.inl (List.mem_of_getElem? (i := 0) rfl))
  have B := B.wr W13 oSf
  have F_kind_xa := F_kind_xa.same W13
  refine oWk.st (fun _ kt => zA X hx hby d6_35 rfl rfl rfl (zA X hx hby d6_36 rfl rfl rfl kt)) ?_
  have E_xa := (E_xa.wr W13)
  have F_name_xa := ((((F_name_xa.ext E3).ext E6).keep K9.1 nin0).other W13 (Or.inr (slot_ne (Or.inr (oW hw 91 rfl)) (Or.inr (oW hw 89 rfl)) (by decide) (t := (.object Y9)) (t' := (.object Y7)) (by decide) (by decide))))
  obtain ⟨T, h, X, e0, W14, st⟩ := putF X hx hZ hown (host := "") (Or.inl (oW hw 90 rfl)) Via.refl e0 F_name_xa E_xa (Or.inr ⟨(oW hw 91 rfl), rfl, hnm⟩) (oW hw 8 rfl) (ty := (.object Y9)) (by decide) rfl rfl (g := (mkF m 37 #[rv xa, rv xi, rv xs, rv nl9, rv xl] [(.ref xs), (.ref xa)])) rfl rfl (hb hby d6_37)
  refine oWk.st st ?_
  have K := K.wr W14 (Or.inl (List.mem_of_getElem? (i := 0) rfl))
  have B := B.wr W14 oSf
  have F_name_xa := F_name_xa.same W14
  refine oWk.st (fun _ kt => zA X hx hby d6_40 rfl rfl rfl (zA X hx hby d6_41 rfl rfl rfl kt)) ?_
  have E_xa := (E_xa.wr W14)
  have F_ordered_xa := (((((F_ordered_xa.ext E3).ext E6).keep K9.1 nin0).other W13 (Or.inr (slot_ne (Or.inr (oW hw 93 rfl)) (Or.inr (oW hw 89 rfl)) (by decide) (t := (.object Y3)) (t' := (.object Y7)) (by decide) (by decide)))).other W14 (Or.inr (slot_ne (Or.inr (oW hw 93 rfl)) (Or.inr (oW hw 91 rfl)) (by decide) (t := (.object Y3)) (t' := (.object Y9)) (by decide) (by decide))))
  obtain ⟨T, h, X, e0, W15, st⟩ := putF X hx hZ hown (host := "") (Or.inl (oW hw 92 rfl)) Via.refl e0 F_ordered_xa E_xa (Or.inr ⟨(oW hw 93 rfl), rfl, hnm⟩) (oW hw 8 rfl) (ty := (.object Y3)) (by decide) rfl rfl (g := (mkF m 42 #[rv xa, rv xi, rv xs, rv nl9, rv xl] [(.ref nl9), (.ref xa)])) rfl rfl (hb hby d6_42)
  refine oWk.st st ?_
  have K := K.wr W15 (Or.inl (List.mem_of_getElem? (i := 0) rfl))
  have B := B.wr W15 oSf
  have F_ordered_xa := F_ordered_xa.same W15
  refine oWk.st (fun _ kt => zA X hx hby d6_45 rfl rfl rfl (zB X hx hby d6_46 rfl rfl rfl kt)) ?_
  have E_xa := (E_xa.wr W15)
  have F_unordered_xa := ((((((F_unordered_xa.ext E3).ext E6).keep K9.1 nin0).other W13 (Or.inr (slot_ne (Or.inr (oW hw 95 rfl)) (Or.inr (oW hw 89 rfl)) (by decide) (t := (.object Y3)) (t' := (.object Y7)) (by decide) (by decide)))).other W14 (Or.inr (slot_ne (Or.inr (oW hw 95 rfl)) (Or.inr (oW hw 91 rfl)) (by decide) (t := (.object Y3)) (t' := (.object Y9)) (by decide) (by decide)))).other W15 (Or.inr (slot_ne (Or.inr (oW hw 95 rfl)) (Or.inr (oW hw 93 rfl)) (by decide) (t := (.object Y3)) (t' := (.object Y3)) (by decide) (by decide))))
  obtain ⟨T, h, X, e0, W16, st⟩ := putF X hx hZ hown (host := "") (Or.inl (oW hw 94 rfl)) Via.refl e0 F_unordered_xa E_xa (Or.inr ⟨(oW hw 95 rfl), rfl, hnm⟩) (oW hw 8 rfl) (ty := (.object Y3)) (by decide) rfl rfl (g := (mkF m 48 #[rv xa, rv xi, rv xs, rv nl9, rv xl] [(.ref xl), (.ref xa)])) rfl rfl (hb hby d6_48)
  refine oWk.st st ?_
  have K := K.wr W16 (Or.inl (List.mem_of_getElem? (i := 0) rfl))
  have B := B.wr W16 oSf
  have F_unordered_xa := F_unordered_xa.same W16
  have E_xa := (E_xa.wr W16)
  have F_ordered_xa := (F_ordered_xa.other W16 (Or.inr (slot_ne (Or.inr (oW hw 93 rfl)) (Or.inr (oW hw 95 rfl)) (by decide) (t := (.object Y3)) (t' := (.object Y3)) (by decide) (by decide))))
  have E_nl9 := ((((E_nl9.wr W13).wr W14).wr W15).wr W16)
  have F_elements_nl9 := ((((F_elements_nl9.other W13 (Or.inl (Ne.symm ne_xa_nl9))).other W14 (Or.inl (Ne.symm ne_xa_nl9))).other W15 (Or.inl (Ne.symm ne_xa_nl9))).other W16 (Or.inl (Ne.symm ne_xa_nl9)))
  have V_ng9 := ((((V_ng9.other W13 (Ne.symm ne_xa_ng9)).other W14 (Ne.symm ne_xa_ng9)).other W15 (Ne.symm ne_xa_ng9)).other W16 (Ne.symm ne_xa_ng9))
  exact oRetHV X hx hlk hZ (oELw hw) e0 B hret (hb hby d6_51) (by rw [e0]; exact ⟨nl9, ng9, nj9, rfl, K, E_xa, F_ordered_xa, E_nl9, F_elements_nl9, V_ng9⟩) (by decide) (by decide)
def Q_rGN_3_0 (Z : State) (xa xf : Addr) (xk : ClassId) (xe0 xe1 xe2 : Addr) (h0 : Heap) (v : Option Value) (h : Heap) (L : List Loc) : Prop := v = some (.ref xe0) ∧ h = h0 ∧ oKp h0 h [] L
abbrev yy33 : MethodName := ⟨"java/util/ImmutableCollections$ListN", "get", "(I)Ljava/lang/Object;"⟩
theorem d32_0 : decode jdk_45_method_4_code 0 = .ok (.aload_n 0, 1) := by decide +kernel
theorem d32_1 : decode jdk_45_method_4_code 1 = .ok (.getfield 7, 3) := by decide +kernel
theorem d32_4 : decode jdk_45_method_4_code 4 = .ok (.iload_n 1, 1) := by decide +kernel
theorem d32_5 : decode jdk_45_method_4_code 5 = .ok (.aaload, 1) := by decide +kernel
theorem d32_6 : decode jdk_45_method_4_code 6 = .ok (.areturn, 1) := by decide +kernel
theorem rGN_3_0 (l : Launch) (Z : State) (a0 : Array Value) (hw : oHW a0 Z) (ws : List Jvm.Cond) (xa xf : Addr) (xk : ClassId) (xe0 xe1 xe2 : Addr) (h0 : Heap) (O0 : Ext Z.heap h0) (F_elements_xa : Fld Z h0 xa Y6 "elements" Y2 (.ref xf)) (V_xf : Arv Z h0 xf xk (.object Y0) (3 : Int32) [(.ref xe0), (.ref xe1), (.ref xe2)] .null) :
    oCon l Z yy33 jdk_45_method_4_code 2 (some (.object Y0)) ws ({ frames := 0, cells := 0, slots := 0, locals := 0 } : Room) #[(.ref xa), (.int (0 : Int32))] h0 (Q_rGN_3_0 Z xa xf xk xe0 xe1 xe2 h0) := by
  refine oCon.of (plainFor_of_name pn_13) ?_
  intro p e s m below meth c T X hx hby hml hown hnm hret hlk hZ e0
  have hml : c.maxLocals = 2 := hml
  have K : oKp h0 h0 [] [] := oKp.nil _ _
  refine oWk.cast (g' := (mkF m 0 #[rv xa, iv 0] [])) (by first | rfl | (simp [entryFrame, mkF, argsToLocals, Value.category]; done)) ?_
  refine oWk.st (fun _ kt => zA X hx hby d32_0 rfl rfl rfl kt) ?_
  obtain ⟨T, X, e0, st⟩ := getF X hx hZ hown (host := "") (Or.inl (oW hw 226 rfl)) Via.refl e0 F_elements_xa (g := (mkF m 1 #[rv xa, iv 0] [(.ref xa)])) rfl rfl (hb hby d32_1)
  refine oWk.st st ?_
  refine oWk.st (fun _ kt => zI X hx hby d32_4 rfl rfl kt) ?_
  obtain ⟨cl1, Ar1, q1, Sz1, Nn1, Hs1, Ft1⟩ := id V_xf
  have hin1 : ¬ ((0 : Int32) < 0 ∨ cl1.slots.size ≤ ((0 : Int32)).toNatClampNeg) := inb_of Sz1 ⟨by decide, by decide⟩
  have hat1 : cl1.slots[((0 : Int32)).toNatClampNeg]? = some (.ref xe0) := Hs1.at hin1 rfl
  refine oWk.st (fun _ kt => X.aaload hx (j := (0 : Int32)) (v := (.ref xe0)) (by rw [e0]; exact Ar1.1) (State.isArrayOf_alike hZ.alike Ar1.2.1) rfl Ar1.2.2 hin1 hat1 (g := (mkF m 5 #[rv xa, iv 0] [(.int 0), (.ref xf)])) rfl rfl (hb hby d32_5) _ kt) ?_
  exact oRetA X hx hlk hret rfl rfl (hb hby d32_6) (by rw [e0]; exact ⟨rfl, rfl, K⟩) (by decide) (by decide)
def Q_rNd_3_0 (Z : State) (xa xb xge0 xge1 xge2 ng : Addr) (nj : ClassId) (h0 : Heap) (v : Option Value) (h : Heap) (L : List Loc) : Prop := v = some (.ref xge0) ∧ h = h0 ∧ oKp h0 h [] L
theorem rNd_3_0 (l : Launch) (Z : State) (a0 : Array Value) (hw : oHW a0 Z) (ws : List Jvm.Cond) (xa xb xge0 xge1 xge2 ng : Addr) (nj : ClassId) (h0 : Heap) (O0 : Ext Z.heap h0) (F_ordered_xa : Fld Z h0 xa Y4 "ordered" Y5 (.ref xb)) (E_xb : Exa Z h0 xb Y6) (F_elements_xb : Fld Z h0 xb Y6 "elements" Y2 (.ref ng)) (V_ng : Arv Z h0 ng nj (.object Y0) (3 : Int32) [(.ref xge0), (.ref xge1), (.ref xge2)] .null) (E_xge0 : Exa Z h0 xge0 Y4) :
    oCon l Z yy28 prog_27_method_4_code 2 (some (.object Y4)) ws ({ frames := 1, cells := 0, slots := 0, locals := 13 } : Room) #[(.ref xa), (.int (0 : Int32))] h0 (Q_rNd_3_0 Z xa xb xge0 xge1 xge2 ng nj h0) := by
  refine oCon.of (plainFor_of_name pn_5) ?_
  intro p e s m below meth c T X hx hby hml hown hnm hret hlk hZ e0
  have hml : c.maxLocals = 2 := hml
  have K : oKp h0 h0 [] [] := oKp.nil _ _
  refine oWk.cast (g' := (mkF m 0 #[rv xa, iv 0] [])) (by first | rfl | (simp [entryFrame, mkF, argsToLocals, Value.category]; done)) ?_
  refine oWk.st (fun _ kt => zA X hx hby d28_0 rfl rfl rfl kt) ?_
  obtain ⟨T, X, e0, st⟩ := getF X hx hZ hown (host := "") (Or.inl (oW hw 92 rfl)) Via.refl e0 F_ordered_xa (g := (mkF m 1 #[rv xa, iv 0] [(.ref xa)])) rfl rfl (hb hby d28_1)
  refine oWk.st st ?_
  refine oWk.st (fun _ kt => zI X hx hby d28_4 rfl rfl kt) ?_
  have Oh := K.old O0 all0
  obtain ⟨cq2, kq2, q2a, q2b, q2c⟩ := isOf hZ e0 E_xb
  obtain ⟨_, _, ⟨T, L2, k2, n2⟩, -, X, ⟨Lc2, hQ, l2, y2, z2⟩, st⟩ := X.interfaceBack hx (xi := yy29) (y := yy33) hown (mvT hZ (oW hw 200 rfl)) (mvT hZ (oW hw 201 rfl)) (mvT hZ (oW hw 202 rfl)) (mvT hZ (oW hw 230 rfl)) (mvT hZ (oW hw 231 rfl)) (mvT hZ (oW hw 232 rfl)) (mvT hZ (oW hw 233 rfl)) (mvT hZ (oW hw 234 rfl)) (by decide) (backOf (W := 0) (rGN_3_0 l Z a0 hw [] xb ng nj xge0 xge1 xge2 h0 Oh F_elements_xb V_ng) hZ (oW hw 235 rfl) (oW hw 217 rfl) (by decide) (by decide)) q2a q2b q2c (g := (mkF m 5 #[rv xa, iv 0] [(.int 0), (.ref xb)])) rfl (by rw [hml]; rfl) (Steps.refl _) (argsL := [(.int (0 : Int32))]) (rest := []) (lenOf pd_17 rfl) rfl (Nat.le_of_eq rfl) (hb hby d28_5) (fun _ _ => ⟨rfl, e0, (by decide : 0 + 0 ≤ _), (by decide : 0 + 0 ≤ _)⟩)
  dsimp only [Pt.U, Pt.locs, Pt.cells, Pt.slots] at X l2 y2 z2 st hQ
  subst l2 y2 z2
  obtain ⟨rfl, e0, K1⟩ := hQ
  have K := K.call K1 all0
  rw [e0] at K
  refine oWk.tr st ?_
  obtain ⟨T, X, e0, st⟩ := castY X hx hZ hown (oW hw 209 rfl) e0 (Ins.self E_xge0) (g := (mkF m 10 #[rv xa, iv 0] [(.ref xge0)])) rfl rfl (hb hby d28_10)
  refine oWk.st st ?_
  exact oRetA X hx hlk hret rfl rfl (hb hby d28_13) (by rw [e0]; exact ⟨rfl, rfl, K⟩) (by decide) (by decide)
def Q_rGN_3_1 (Z : State) (xa xf : Addr) (xk : ClassId) (xe0 xe1 xe2 : Addr) (h0 : Heap) (v : Option Value) (h : Heap) (L : List Loc) : Prop := v = some (.ref xe1) ∧ h = h0 ∧ oKp h0 h [] L
theorem rGN_3_1 (l : Launch) (Z : State) (a0 : Array Value) (hw : oHW a0 Z) (ws : List Jvm.Cond) (xa xf : Addr) (xk : ClassId) (xe0 xe1 xe2 : Addr) (h0 : Heap) (O0 : Ext Z.heap h0) (F_elements_xa : Fld Z h0 xa Y6 "elements" Y2 (.ref xf)) (V_xf : Arv Z h0 xf xk (.object Y0) (3 : Int32) [(.ref xe0), (.ref xe1), (.ref xe2)] .null) :
    oCon l Z yy33 jdk_45_method_4_code 2 (some (.object Y0)) ws ({ frames := 0, cells := 0, slots := 0, locals := 0 } : Room) #[(.ref xa), (.int (1 : Int32))] h0 (Q_rGN_3_1 Z xa xf xk xe0 xe1 xe2 h0) := by
  refine oCon.of (plainFor_of_name pn_13) ?_
  intro p e s m below meth c T X hx hby hml hown hnm hret hlk hZ e0
  have hml : c.maxLocals = 2 := hml
  have K : oKp h0 h0 [] [] := oKp.nil _ _
  refine oWk.cast (g' := (mkF m 0 #[rv xa, iv 1] [])) (by first | rfl | (simp [entryFrame, mkF, argsToLocals, Value.category]; done)) ?_
  refine oWk.st (fun _ kt => zA X hx hby d32_0 rfl rfl rfl kt) ?_
  obtain ⟨T, X, e0, st⟩ := getF X hx hZ hown (host := "") (Or.inl (oW hw 226 rfl)) Via.refl e0 F_elements_xa (g := (mkF m 1 #[rv xa, iv 1] [(.ref xa)])) rfl rfl (hb hby d32_1)
  refine oWk.st st ?_
  refine oWk.st (fun _ kt => zI X hx hby d32_4 rfl rfl kt) ?_
  obtain ⟨cl1, Ar1, q1, Sz1, Nn1, Hs1, Ft1⟩ := id V_xf
  have hin1 : ¬ ((1 : Int32) < 0 ∨ cl1.slots.size ≤ ((1 : Int32)).toNatClampNeg) := inb_of Sz1 ⟨by decide, by decide⟩
  have hat1 : cl1.slots[((1 : Int32)).toNatClampNeg]? = some (.ref xe1) := Hs1.at hin1 rfl
  refine oWk.st (fun _ kt => X.aaload hx (j := (1 : Int32)) (v := (.ref xe1)) (by rw [e0]; exact Ar1.1) (State.isArrayOf_alike hZ.alike Ar1.2.1) rfl Ar1.2.2 hin1 hat1 (g := (mkF m 5 #[rv xa, iv 1] [(.int 1), (.ref xf)])) rfl rfl (hb hby d32_5) _ kt) ?_
  exact oRetA X hx hlk hret rfl rfl (hb hby d32_6) (by rw [e0]; exact ⟨rfl, rfl, K⟩) (by decide) (by decide)
def Q_rNd_3_1 (Z : State) (xa xb xge0 xge1 xge2 ng : Addr) (nj : ClassId) (h0 : Heap) (v : Option Value) (h : Heap) (L : List Loc) : Prop := v = some (.ref xge1) ∧ h = h0 ∧ oKp h0 h [] L
theorem rNd_3_1 (l : Launch) (Z : State) (a0 : Array Value) (hw : oHW a0 Z) (ws : List Jvm.Cond) (xa xb xge0 xge1 xge2 ng : Addr) (nj : ClassId) (h0 : Heap) (O0 : Ext Z.heap h0) (F_ordered_xa : Fld Z h0 xa Y4 "ordered" Y5 (.ref xb)) (E_xb : Exa Z h0 xb Y6) (F_elements_xb : Fld Z h0 xb Y6 "elements" Y2 (.ref ng)) (V_ng : Arv Z h0 ng nj (.object Y0) (3 : Int32) [(.ref xge0), (.ref xge1), (.ref xge2)] .null) (E_xge1 : Exa Z h0 xge1 Y4) :
    oCon l Z yy28 prog_27_method_4_code 2 (some (.object Y4)) ws ({ frames := 1, cells := 0, slots := 0, locals := 13 } : Room) #[(.ref xa), (.int (1 : Int32))] h0 (Q_rNd_3_1 Z xa xb xge0 xge1 xge2 ng nj h0) := by
  refine oCon.of (plainFor_of_name pn_5) ?_
  intro p e s m below meth c T X hx hby hml hown hnm hret hlk hZ e0
  have hml : c.maxLocals = 2 := hml
  have K : oKp h0 h0 [] [] := oKp.nil _ _
  refine oWk.cast (g' := (mkF m 0 #[rv xa, iv 1] [])) (by first | rfl | (simp [entryFrame, mkF, argsToLocals, Value.category]; done)) ?_
  refine oWk.st (fun _ kt => zA X hx hby d28_0 rfl rfl rfl kt) ?_
  obtain ⟨T, X, e0, st⟩ := getF X hx hZ hown (host := "") (Or.inl (oW hw 92 rfl)) Via.refl e0 F_ordered_xa (g := (mkF m 1 #[rv xa, iv 1] [(.ref xa)])) rfl rfl (hb hby d28_1)
  refine oWk.st st ?_
  refine oWk.st (fun _ kt => zI X hx hby d28_4 rfl rfl kt) ?_
  have Oh := K.old O0 all0
  obtain ⟨cq2, kq2, q2a, q2b, q2c⟩ := isOf hZ e0 E_xb
  obtain ⟨_, _, ⟨T, L2, k2, n2⟩, -, X, ⟨Lc2, hQ, l2, y2, z2⟩, st⟩ := X.interfaceBack hx (xi := yy29) (y := yy33) hown (mvT hZ (oW hw 200 rfl)) (mvT hZ (oW hw 201 rfl)) (mvT hZ (oW hw 202 rfl)) (mvT hZ (oW hw 230 rfl)) (mvT hZ (oW hw 231 rfl)) (mvT hZ (oW hw 232 rfl)) (mvT hZ (oW hw 233 rfl)) (mvT hZ (oW hw 234 rfl)) (by decide) (backOf (W := 0) (rGN_3_1 l Z a0 hw [] xb ng nj xge0 xge1 xge2 h0 Oh F_elements_xb V_ng) hZ (oW hw 235 rfl) (oW hw 217 rfl) (by decide) (by decide)) q2a q2b q2c (g := (mkF m 5 #[rv xa, iv 1] [(.int 1), (.ref xb)])) rfl (by rw [hml]; rfl) (Steps.refl _) (argsL := [(.int (1 : Int32))]) (rest := []) (lenOf pd_17 rfl) rfl (Nat.le_of_eq rfl) (hb hby d28_5) (fun _ _ => ⟨rfl, e0, (by decide : 0 + 0 ≤ _), (by decide : 0 + 0 ≤ _)⟩)
  dsimp only [Pt.U, Pt.locs, Pt.cells, Pt.slots] at X l2 y2 z2 st hQ
  subst l2 y2 z2
  obtain ⟨rfl, e0, K1⟩ := hQ
  have K := K.call K1 all0
  rw [e0] at K
  refine oWk.tr st ?_
  obtain ⟨T, X, e0, st⟩ := castY X hx hZ hown (oW hw 209 rfl) e0 (Ins.self E_xge1) (g := (mkF m 10 #[rv xa, iv 1] [(.ref xge1)])) rfl rfl (hb hby d28_10)
  refine oWk.st st ?_
  exact oRetA X hx hlk hret rfl rfl (hb hby d28_13) (by rw [e0]; exact ⟨rfl, rfl, K⟩) (by decide) (by decide)
def Q_rGN_3_2 (Z : State) (xa xf : Addr) (xk : ClassId) (xe0 xe1 xe2 : Addr) (h0 : Heap) (v : Option Value) (h : Heap) (L : List Loc) : Prop := v = some (.ref xe2) ∧ h = h0 ∧ oKp h0 h [] L
theorem rGN_3_2 (l : Launch) (Z : State) (a0 : Array Value) (hw : oHW a0 Z) (ws : List Jvm.Cond) (xa xf : Addr) (xk : ClassId) (xe0 xe1 xe2 : Addr) (h0 : Heap) (O0 : Ext Z.heap h0) (F_elements_xa : Fld Z h0 xa Y6 "elements" Y2 (.ref xf)) (V_xf : Arv Z h0 xf xk (.object Y0) (3 : Int32) [(.ref xe0), (.ref xe1), (.ref xe2)] .null) :
    oCon l Z yy33 jdk_45_method_4_code 2 (some (.object Y0)) ws ({ frames := 0, cells := 0, slots := 0, locals := 0 } : Room) #[(.ref xa), (.int (2 : Int32))] h0 (Q_rGN_3_2 Z xa xf xk xe0 xe1 xe2 h0) := by
  refine oCon.of (plainFor_of_name pn_13) ?_
  intro p e s m below meth c T X hx hby hml hown hnm hret hlk hZ e0
  have hml : c.maxLocals = 2 := hml
  have K : oKp h0 h0 [] [] := oKp.nil _ _
  refine oWk.cast (g' := (mkF m 0 #[rv xa, iv 2] [])) (by first | rfl | (simp [entryFrame, mkF, argsToLocals, Value.category]; done)) ?_
  refine oWk.st (fun _ kt => zA X hx hby d32_0 rfl rfl rfl kt) ?_
  obtain ⟨T, X, e0, st⟩ := getF X hx hZ hown (host := "") (Or.inl (oW hw 226 rfl)) Via.refl e0 F_elements_xa (g := (mkF m 1 #[rv xa, iv 2] [(.ref xa)])) rfl rfl (hb hby d32_1)
  refine oWk.st st ?_
  refine oWk.st (fun _ kt => zI X hx hby d32_4 rfl rfl kt) ?_
  obtain ⟨cl1, Ar1, q1, Sz1, Nn1, Hs1, Ft1⟩ := id V_xf
  have hin1 : ¬ ((2 : Int32) < 0 ∨ cl1.slots.size ≤ ((2 : Int32)).toNatClampNeg) := inb_of Sz1 ⟨by decide, by decide⟩
  have hat1 : cl1.slots[((2 : Int32)).toNatClampNeg]? = some (.ref xe2) := Hs1.at hin1 rfl
  refine oWk.st (fun _ kt => X.aaload hx (j := (2 : Int32)) (v := (.ref xe2)) (by rw [e0]; exact Ar1.1) (State.isArrayOf_alike hZ.alike Ar1.2.1) rfl Ar1.2.2 hin1 hat1 (g := (mkF m 5 #[rv xa, iv 2] [(.int 2), (.ref xf)])) rfl rfl (hb hby d32_5) _ kt) ?_
  exact oRetA X hx hlk hret rfl rfl (hb hby d32_6) (by rw [e0]; exact ⟨rfl, rfl, K⟩) (by decide) (by decide)
def Q_rNd_3_2 (Z : State) (xa xb xge0 xge1 xge2 ng : Addr) (nj : ClassId) (h0 : Heap) (v : Option Value) (h : Heap) (L : List Loc) : Prop := v = some (.ref xge2) ∧ h = h0 ∧ oKp h0 h [] L
theorem rNd_3_2 (l : Launch) (Z : State) (a0 : Array Value) (hw : oHW a0 Z) (ws : List Jvm.Cond) (xa xb xge0 xge1 xge2 ng : Addr) (nj : ClassId) (h0 : Heap) (O0 : Ext Z.heap h0) (F_ordered_xa : Fld Z h0 xa Y4 "ordered" Y5 (.ref xb)) (E_xb : Exa Z h0 xb Y6) (F_elements_xb : Fld Z h0 xb Y6 "elements" Y2 (.ref ng)) (V_ng : Arv Z h0 ng nj (.object Y0) (3 : Int32) [(.ref xge0), (.ref xge1), (.ref xge2)] .null) (E_xge2 : Exa Z h0 xge2 Y4) :
    oCon l Z yy28 prog_27_method_4_code 2 (some (.object Y4)) ws ({ frames := 1, cells := 0, slots := 0, locals := 13 } : Room) #[(.ref xa), (.int (2 : Int32))] h0 (Q_rNd_3_2 Z xa xb xge0 xge1 xge2 ng nj h0) := by
  refine oCon.of (plainFor_of_name pn_5) ?_
  intro p e s m below meth c T X hx hby hml hown hnm hret hlk hZ e0
  have hml : c.maxLocals = 2 := hml
  have K : oKp h0 h0 [] [] := oKp.nil _ _
  refine oWk.cast (g' := (mkF m 0 #[rv xa, iv 2] [])) (by first | rfl | (simp [entryFrame, mkF, argsToLocals, Value.category]; done)) ?_
  refine oWk.st (fun _ kt => zA X hx hby d28_0 rfl rfl rfl kt) ?_
  obtain ⟨T, X, e0, st⟩ := getF X hx hZ hown (host := "") (Or.inl (oW hw 92 rfl)) Via.refl e0 F_ordered_xa (g := (mkF m 1 #[rv xa, iv 2] [(.ref xa)])) rfl rfl (hb hby d28_1)
  refine oWk.st st ?_
  refine oWk.st (fun _ kt => zI X hx hby d28_4 rfl rfl kt) ?_
  have Oh := K.old O0 all0
  obtain ⟨cq2, kq2, q2a, q2b, q2c⟩ := isOf hZ e0 E_xb
  obtain ⟨_, _, ⟨T, L2, k2, n2⟩, -, X, ⟨Lc2, hQ, l2, y2, z2⟩, st⟩ := X.interfaceBack hx (xi := yy29) (y := yy33) hown (mvT hZ (oW hw 200 rfl)) (mvT hZ (oW hw 201 rfl)) (mvT hZ (oW hw 202 rfl)) (mvT hZ (oW hw 230 rfl)) (mvT hZ (oW hw 231 rfl)) (mvT hZ (oW hw 232 rfl)) (mvT hZ (oW hw 233 rfl)) (mvT hZ (oW hw 234 rfl)) (by decide) (backOf (W := 0) (rGN_3_2 l Z a0 hw [] xb ng nj xge0 xge1 xge2 h0 Oh F_elements_xb V_ng) hZ (oW hw 235 rfl) (oW hw 217 rfl) (by decide) (by decide)) q2a q2b q2c (g := (mkF m 5 #[rv xa, iv 2] [(.int 2), (.ref xb)])) rfl (by rw [hml]; rfl) (Steps.refl _) (argsL := [(.int (2 : Int32))]) (rest := []) (lenOf pd_17 rfl) rfl (Nat.le_of_eq rfl) (hb hby d28_5) (fun _ _ => ⟨rfl, e0, (by decide : 0 + 0 ≤ _), (by decide : 0 + 0 ≤ _)⟩)
  dsimp only [Pt.U, Pt.locs, Pt.cells, Pt.slots] at X l2 y2 z2 st hQ
  subst l2 y2 z2
  obtain ⟨rfl, e0, K1⟩ := hQ
  have K := K.call K1 all0
  rw [e0] at K
  refine oWk.tr st ?_
  obtain ⟨T, X, e0, st⟩ := castY X hx hZ hown (oW hw 209 rfl) e0 (Ins.self E_xge2) (g := (mkF m 10 #[rv xa, iv 2] [(.ref xge2)])) rfl rfl (hb hby d28_10)
  refine oWk.st st ?_
  exact oRetA X hx hlk hret rfl rfl (hb hby d28_13) (by rw [e0]; exact ⟨rfl, rfl, K⟩) (by decide) (by decide)
def Q_rNI_3_1 (Z : State) (xa xi xs : Addr) (u1 u2 u3 u4 : Value) (xg xgf : Addr) (xgk : ClassId) (xge0 xge1 xge2 xh xhf : Addr) (xhk : ClassId) (xhe0 xq xmr : Addr) (h0 : Heap) (v : Option Value) (h : Heap) (L : List Loc) : Prop := ∃ (nl : Addr) (ng : Addr) (nj : ClassId), v = none ∧ oKp h0 h [xa] L ∧ (Exa Z h xa Y4) ∧ (Fld Z h xa Y4 "ordered" Y5 (.ref nl)) ∧ (Exa Z h nl Y6) ∧ (Fld Z h nl Y6 "elements" Y2 (.ref ng)) ∧ (Arv Z h ng nj (.object Y0) (3 : Int32) [(.ref xge0), (.ref xge1), (.ref xge2)] .null)
theorem rNI_3_1 (l : Launch) (Z : State) (a0 : Array Value) (hw : oHW a0 Z) (ws : List Jvm.Cond) (xa xi xs : Addr) (u1 u2 u3 u4 : Value) (xg xgf : Addr) (xgk : ClassId) (xge0 xge1 xge2 xh xhf : Addr) (xhk : ClassId) (xhe0 xq xmr : Addr) (h0 : Heap) (O0 : Ext Z.heap h0) (S_EMPTY : Sta Z Z.heap Y12 "EMPTY" Y10 (.ref xq)) (mm_ : oMir Z Y2 xmr) (og_xa : Z.heap.size ≤ xa) (E_xa : Exa Z h0 xa Y4) (F_kind_xa : Fld Z h0 xa Y4 "kind" Y13 u1) (F_name_xa : Fld Z h0 xa Y4 "name" Y14 u2) (F_ordered_xa : Fld Z h0 xa Y4 "ordered" Y5 u3) (F_unordered_xa : Fld Z h0 xa Y4 "unordered" Y5 u4) (E_xg : Exa Z h0 xg Y1) (F_elementData_xg : Fld Z h0 xg Y1 "elementData" Y2 (.ref xgf)) (F_size_xg : Fld Z h0 xg Y1 "size" "I" (.int (3 : Int32))) (E_xgf : Exa Z h0 xgf Y2) (V_xgf : Arv Z h0 xgf xgk (.object Y0) (10 : Int32) [(.ref xge0), (.ref xge1), (.ref xge2), .null, .null, .null, .null, .null, .null, .null] .null) (I_xge0 : Ins Z h0 xge0 Y0 true) (I_xge1 : Ins Z h0 xge1 Y0 true) (I_xge2 : Ins Z h0 xge2 Y0 true) (E_xh : Exa Z h0 xh Y1) (F_elementData_xh : Fld Z h0 xh Y1 "elementData" Y2 (.ref xhf)) (F_size_xh : Fld Z h0 xh Y1 "size" "I" (.int (1 : Int32))) (E_xhf : Exa Z h0 xhf Y2) (V_xhf : Arv Z h0 xhf xhk (.object Y0) (10 : Int32) [(.ref xhe0), .null, .null, .null, .null, .null, .null, .null, .null, .null] .null) (I_xhe0 : Ins Z h0 xhe0 Y0 true) :
    oConH l Z oEL yy7 prog_27_method_1_code 5 none ws ({ frames := 9, cells := 9, slots := 51, locals := 115 } : Room) #[(.ref xa), (.ref xi), (.ref xs), (.ref xg), (.ref xh)] h0 [xa] (Q_rNI_3_1 Z xa xi xs u1 u2 u3 u4 xg xgf xgk xge0 xge1 xge2 xh xhf xhk xhe0 xq xmr h0) := by
  refine oConH.of (plainFor_of_name pn_5) ?_
  intro p e s m below meth c T vm X hx hby hml hown hnm hret hlk hZ e0 B hsf
  have hml : c.maxLocals = 5 := hml
  have K : oKp h0 h0 [xa] [] := oKp.nil _ _
  refine oWk.cast (g' := (mkF m 0 #[rv xa, rv xi, rv xs, rv xg, rv xh] [])) (by first | rfl | (simp [entryFrame, mkF, argsToLocals, Value.category]; done)) ?_
  refine oWk.st (fun _ kt => zA X hx hby d6_0 rfl rfl rfl kt) ?_
  have Oh := K.old O0 (allS og_xa all0)
  obtain ⟨T, L2, X, e0, K, st⟩ := (cs2 hw).pure X hx hZ hown e0 K (A := [(.ref xa)]) ⟨rfl, _, _, rfl⟩ (rRec l Z a0 hw [] xa h0 Oh ) (fun _ _ _ q => q) (W := 0) (by decide) hml (Ls := #[rv xa, rv xi, rv xs, rv xg, rv xh]) rfl (rest := []) rfl rfl hby d6_1
  refine oWk.st st ?_
  refine oWk.st (fun _ kt => zA X hx hby d6_4 rfl rfl rfl kt) ?_
  obtain ⟨lt3, T, h, X, e2, E3, hZ, hown, B, C, st⟩ := oLdcO X hx hZ hown (oW hw 53 rfl) (oSA hw) e0 (oELw hw) B (g := (mkF m 5 #[rv xa, rv xi, rv xs, rv xg, rv xh] [(.ref xi)])) rfl (hb hby d6_5) (n := 16) (by decide) (by decide) (by decide) (by decide)
  have e0 := e2
  refine oWk.st st ?_
  have K := K.ext E3
  have Oh := K.old O0 (allS og_xa all0)
  obtain ⟨T, L5, X, e0, K, st⟩ := (cs3 hw).pure X hx hZ hown e0 K (A := [(.ref xi), (.ref lt3)]) rfl (rRN2 l Z a0 hw [] xi lt3 h Oh ) (fun _ _ _ q => q) (W := 0) (by decide) hml (Ls := #[rv xa, rv xi, rv xs, rv xg, rv xh]) rfl (rest := []) rfl rfl hby d6_7
  refine oWk.st st ?_
  refine oWk.st (fun _ kt => XS.pop X.here hx rfl (hb hby d6_10) rfl rfl (zA X hx hby d6_11 rfl rfl rfl kt)) ?_
  obtain ⟨lt6, T, h, X, e2, E6, hZ, hown, B, C, st⟩ := oLdcO X hx hZ hown (oW hw 58 rfl) (oSA hw) e0 (oELw hw) B (g := (mkF m 12 #[rv xa, rv xi, rv xs, rv xg, rv xh] [(.ref xs)])) rfl (hb hby d6_12) (n := 16) (by decide) (by decide) (by decide) (by decide)
  have e0 := e2
  refine oWk.st st ?_
  have K := K.ext E6
  have Oh := K.old O0 (allS og_xa all0)
  obtain ⟨T, L8, X, e0, K, st⟩ := (cs3 hw).pure X hx hZ hown e0 K (A := [(.ref xs), (.ref lt6)]) rfl (rRN2 l Z a0 hw [] xs lt6 h Oh ) (fun _ _ _ q => q) (W := 0) (by decide) hml (Ls := #[rv xa, rv xi, rv xs, rv xg, rv xh]) rfl (rest := []) rfl rfl hby d6_14
  refine oWk.st st ?_
  refine oWk.st (fun _ kt => XS.pop X.here hx rfl (hb hby d6_17) rfl rfl (zA X hx hby d6_18 rfl rfl rfl kt)) ?_
  have E_xg := ((E_xg.ext E3).ext E6)
  have F_elementData_xg := ((F_elementData_xg.ext E3).ext E6)
  have F_size_xg := ((F_size_xg.ext E3).ext E6)
  have E_xgf := ((E_xgf.ext E3).ext E6)
  have V_xgf := ((V_xgf.ext E3).ext E6)
  have I_xge0 := ((I_xge0.ext E3).ext E6)
  have I_xge1 := ((I_xge1.ext E3).ext E6)
  have I_xge2 := ((I_xge2.ext E3).ext E6)
  have E_xa := ((E_xa.ext E3).ext E6)
  have lt_xa := E_xa.lt
  have lt_xg := E_xg.lt
  have lt_xgf := E_xgf.lt
  have E_xh := ((E_xh.ext E3).ext E6)
  have lt_xh := E_xh.lt
  have E_xhf := ((E_xhf.ext E3).ext E6)
  have lt_xhf := E_xhf.lt
  obtain ⟨_, T, h, Lc10, X, e0, hQ, st⟩ := (cs4 hw).run X hx hZ hown e0 (A := [(.ref xg)]) rfl (rCO_3 l Z a0 hw [] xg xgf xmr xgk xge0 xge1 xge2 h Oh mm_ E_xg F_elementData_xg F_size_xg E_xgf V_xgf I_xge0 I_xge1 I_xge2) (W := 0) (by decide) hml (Ls := #[rv xa, rv xi, rv xs, rv xg, rv xh]) rfl (rest := []) rfl rfl hby d6_19
  obtain ⟨nl9, ng9, nj9, rfl, K9, gn_nl9, E_nl9, F_elements_nl9, F_allowNulls_nl9, gn_ng9, V_ng9⟩ := hQ
  have ge_nl9 := Nat.le_trans K.le gn_nl9
  have ne_xa_nl9 : xa ≠ nl9 := Nat.ne_of_lt (Nat.lt_of_lt_of_le lt_xa gn_nl9)
  have ne_xg_nl9 : xg ≠ nl9 := Nat.ne_of_lt (Nat.lt_of_lt_of_le lt_xg gn_nl9)
  have ne_xgf_nl9 : xgf ≠ nl9 := Nat.ne_of_lt (Nat.lt_of_lt_of_le lt_xgf gn_nl9)
  have ne_xh_nl9 : xh ≠ nl9 := Nat.ne_of_lt (Nat.lt_of_lt_of_le lt_xh gn_nl9)
  have ne_xhf_nl9 : xhf ≠ nl9 := Nat.ne_of_lt (Nat.lt_of_lt_of_le lt_xhf gn_nl9)
  have ge_ng9 := Nat.le_trans K.le gn_ng9
  have ne_xa_ng9 : xa ≠ ng9 := Nat.ne_of_lt (Nat.lt_of_lt_of_le lt_xa gn_ng9)
  have ne_xg_ng9 : xg ≠ ng9 := Nat.ne_of_lt (Nat.lt_of_lt_of_le lt_xg gn_ng9)
  have ne_xgf_ng9 : xgf ≠ ng9 := Nat.ne_of_lt (Nat.lt_of_lt_of_le lt_xgf gn_ng9)
  have ne_xh_ng9 : xh ≠ ng9 := Nat.ne_of_lt (Nat.lt_of_lt_of_le lt_xh gn_ng9)
  have ne_xhf_ng9 : xhf ≠ ng9 := Nat.ne_of_lt (Nat.lt_of_lt_of_le lt_xhf gn_ng9)
  have K := K.call K9 all0
  have B := B.keep K9.1 (fun _ _ => oSf)
  refine oWk.st st ?_
  refine oWk.st (fun _ kt => zTn X hx hby d6_22 rfl rfl rfl (l' := #[rv xa, rv xi, rv xs, rv nl9, rv xh]) rfl (zB X hx hby d6_23 rfl rfl rfl kt)) ?_
  have E_xh := (E_xh.keep K9.1)
  have F_elementData_xh := (((F_elementData_xh.ext E3).ext E6).keep K9.1 nin0)
  have F_size_xh := (((F_size_xh.ext E3).ext E6).keep K9.1 nin0)
  have E_xhf := (E_xhf.keep K9.1)
  have V_xhf := (((V_xhf.ext E3).ext E6).keep K9.1 nin0)
  have I_xhe0 := (oInsKeep ((I_xhe0.ext E3).ext E6) K9.1)
  have E_xa := (E_xa.keep K9.1)
  have lt_xa := E_xa.lt
  have E_xg := (E_xg.keep K9.1)
  have lt_xg := E_xg.lt
  have E_xgf := (E_xgf.keep K9.1)
  have lt_xgf := E_xgf.lt
  have lt_xh := E_xh.lt
  have lt_xhf := E_xhf.lt
  have lt_nl9 := E_nl9.lt
  have lt_ng9 := V_ng9.lt
  have Oh := K.old O0 (allS og_xa all0)
  obtain ⟨_, T, h, Lc12, X, e0, hQ, st⟩ := (cs4 hw).run X hx hZ hown e0 (A := [(.ref xh)]) rfl (rCO_1 l Z a0 hw [] xh xhf xmr xhk xq xhe0 h Oh S_EMPTY mm_ E_xh F_elementData_xh F_size_xh E_xhf V_xhf I_xhe0) (W := 0) (by decide) hml (Ls := #[rv xa, rv xi, rv xs, rv nl9, rv xh]) rfl (rest := []) rfl rfl hby d6_25
  obtain ⟨nl11, rfl, K11, gn_nl11, E_nl11, F_e0_nl11, F_e1_nl11⟩ := hQ
  have ge_nl11 := Nat.le_trans K.le gn_nl11
  have ne_xa_nl11 : xa ≠ nl11 := Nat.ne_of_lt (Nat.lt_of_lt_of_le lt_xa gn_nl11)
  have ne_xg_nl11 : xg ≠ nl11 := Nat.ne_of_lt (Nat.lt_of_lt_of_le lt_xg gn_nl11)
  have ne_xgf_nl11 : xgf ≠ nl11 := Nat.ne_of_lt (Nat.lt_of_lt_of_le lt_xgf gn_nl11)
  have ne_xh_nl11 : xh ≠ nl11 := Nat.ne_of_lt (Nat.lt_of_lt_of_le lt_xh gn_nl11)
  have ne_xhf_nl11 : xhf ≠ nl11 := Nat.ne_of_lt (Nat.lt_of_lt_of_le lt_xhf gn_nl11)
  have ne_nl9_nl11 : nl9 ≠ nl11 := Nat.ne_of_lt (Nat.lt_of_lt_of_le lt_nl9 gn_nl11)
  have ne_ng9_nl11 : ng9 ≠ nl11 := Nat.ne_of_lt (Nat.lt_of_lt_of_le lt_ng9 gn_nl11)
  have K := K.call K11 all0
  have B := B.keep K11.1 (fun _ _ => oSf)
  refine oWk.st st ?_
  refine oWk.st (fun _ kt => zT X hx hby d6_28 rfl rfl rfl (l' := #[rv xa, rv xi, rv xs, rv nl9, rv nl11]) rfl (zA X hx hby d6_30 rfl rfl rfl (zA X hx hby d6_31 rfl rfl rfl kt))) ?_
  have E_xa := (E_xa.keep K11.1)
  have F_kind_xa := ((((F_kind_xa.ext E3).ext E6).keep K9.1 nin0).keep K11.1 nin0)
  obtain ⟨T, h, X, e0, W13, st⟩ := putF X hx hZ hown (host := "") (Or.inl (oW hw 88 rfl)) Via.refl e0 F_kind_xa E_xa (Or.inr ⟨(oW hw 89 rfl), rfl, hnm⟩) (oW hw 8 rfl) (ty := (.object Y7)) (by decide) rfl rfl (g := (mkF m 32 #[rv xa, rv xi, rv xs, rv nl9, rv nl11] [(.ref xi), (.ref xa)])) rfl rfl (hb hby d6_32)
  refine oWk.st st ?_
  have K := K.wr W13 (Or.inl (List.mem_of_getElem? (i := 0) rfl))
  have B := B.wr W13 oSf
  have F_kind_xa := F_kind_xa.same W13
  refine oWk.st (fun _ kt => zA X hx hby d6_35 rfl rfl rfl (zA X hx hby d6_36 rfl rfl rfl kt)) ?_
  have E_xa := (E_xa.wr W13)
  have F_name_xa := (((((F_name_xa.ext E3).ext E6).keep K9.1 nin0).keep K11.1 nin0).other W13 (Or.inr (slot_ne (Or.inr (oW hw 91 rfl)) (Or.inr (oW hw 89 rfl)) (by decide) (t := (.object Y9)) (t' := (.object Y7)) (by decide) (by decide))))
  obtain ⟨T, h, X, e0, W14, st⟩ := putF X hx hZ hown (host := "") (Or.inl (oW hw 90 rfl)) Via.refl e0 F_name_xa E_xa (Or.inr ⟨(oW hw 91 rfl), rfl, hnm⟩) (oW hw 8 rfl) (ty := (.object Y9)) (by decide) rfl rfl (g := (mkF m 37 #[rv xa, rv xi, rv xs, rv nl9, rv nl11] [(.ref xs), (.ref xa)])) rfl rfl (hb hby d6_37)
  refine oWk.st st ?_
  have K := K.wr W14 (Or.inl (List.mem_of_getElem? (i := 0) rfl))
  have B := B.wr W14 oSf
  have F_name_xa := F_name_xa.same W14
  refine oWk.st (fun _ kt => zA X hx hby d6_40 rfl rfl rfl (zA X hx hby d6_41 rfl rfl rfl kt)) ?_
  have E_xa := (E_xa.wr W14)
  have F_ordered_xa := ((((((F_ordered_xa.ext E3).ext E6).keep K9.1 nin0).keep K11.1 nin0).other W13 (Or.inr (slot_ne (Or.inr (oW hw 93 rfl)) (Or.inr (oW hw 89 rfl)) (by decide) (t := (.object Y3)) (t' := (.object Y7)) (by decide) (by decide)))).other W14 (Or.inr (slot_ne (Or.inr (oW hw 93 rfl)) (Or.inr (oW hw 91 rfl)) (by decide) (t := (.object Y3)) (t' := (.object Y9)) (by decide) (by decide))))
  obtain ⟨T, h, X, e0, W15, st⟩ := putF X hx hZ hown (host := "") (Or.inl (oW hw 92 rfl)) Via.refl e0 F_ordered_xa E_xa (Or.inr ⟨(oW hw 93 rfl), rfl, hnm⟩) (oW hw 8 rfl) (ty := (.object Y3)) (by decide) rfl rfl (g := (mkF m 42 #[rv xa, rv xi, rv xs, rv nl9, rv nl11] [(.ref nl9), (.ref xa)])) rfl rfl (hb hby d6_42)
  refine oWk.st st ?_
  have K := K.wr W15 (Or.inl (List.mem_of_getElem? (i := 0) rfl))
  have B := B.wr W15 oSf
  have F_ordered_xa := F_ordered_xa.same W15
  refine oWk.st (fun _ kt => zA X hx hby d6_45 rfl rfl rfl (zB X hx hby d6_46 rfl rfl rfl kt)) ?_
  have E_xa := (E_xa.wr W15)
  have F_unordered_xa := (((((((F_unordered_xa.ext E3).ext E6).keep K9.1 nin0).keep K11.1 nin0).other W13 (Or.inr (slot_ne (Or.inr (oW hw 95 rfl)) (Or.inr (oW hw 89 rfl)) (by decide) (t := (.object Y3)) (t' := (.object Y7)) (by decide) (by decide)))).other W14 (Or.inr (slot_ne (Or.inr (oW hw 95 rfl)) (Or.inr (oW hw 91 rfl)) (by decide) (t := (.object Y3)) (t' := (.object Y9)) (by decide) (by decide)))).other W15 (Or.inr (slot_ne (Or.inr (oW hw 95 rfl)) (Or.inr (oW hw 93 rfl)) (by decide) (t := (.object Y3)) (t' := (.object Y3)) (by decide) (by decide))))
  obtain ⟨T, h, X, e0, W16, st⟩ := putF X hx hZ hown (host := "") (Or.inl (oW hw 94 rfl)) Via.refl e0 F_unordered_xa E_xa (Or.inr ⟨(oW hw 95 rfl), rfl, hnm⟩) (oW hw 8 rfl) (ty := (.object Y3)) (by decide) rfl rfl (g := (mkF m 48 #[rv xa, rv xi, rv xs, rv nl9, rv nl11] [(.ref nl11), (.ref xa)])) rfl rfl (hb hby d6_48)
  refine oWk.st st ?_
  have K := K.wr W16 (Or.inl (List.mem_of_getElem? (i := 0) rfl))
  have B := B.wr W16 oSf
  have F_unordered_xa := F_unordered_xa.same W16
  have E_xa := (E_xa.wr W16)
  have F_ordered_xa := (F_ordered_xa.other W16 (Or.inr (slot_ne (Or.inr (oW hw 93 rfl)) (Or.inr (oW hw 95 rfl)) (by decide) (t := (.object Y3)) (t' := (.object Y3)) (by decide) (by decide))))
  have E_nl9 := (((((E_nl9.keep K11.1).wr W13).wr W14).wr W15).wr W16)
  have F_elements_nl9 := (((((F_elements_nl9.keep K11.1 nin0).other W13 (Or.inl (Ne.symm ne_xa_nl9))).other W14 (Or.inl (Ne.symm ne_xa_nl9))).other W15 (Or.inl (Ne.symm ne_xa_nl9))).other W16 (Or.inl (Ne.symm ne_xa_nl9)))
  have V_ng9 := (((((V_ng9.keep K11.1 nin0).other W13 (Ne.symm ne_xa_ng9)).other W14 (Ne.symm ne_xa_ng9)).other W15 (Ne.symm ne_xa_ng9)).other W16 (Ne.symm ne_xa_ng9))
  exact oRetHV X hx hlk hZ (oELw hw) e0 B hret (hb hby d6_51) (by rw [e0]; exact ⟨nl9, ng9, nj9, rfl, K, E_xa, F_ordered_xa, E_nl9, F_elements_nl9, V_ng9⟩) (by decide) (by decide)
def Q_rNI_3_2 (Z : State) (xa xi xs : Addr) (u1 u2 u3 u4 : Value) (xg xgf : Addr) (xgk : ClassId) (xge0 xge1 xge2 xh xhf : Addr) (xhk : ClassId) (xhe0 xhe1 xmr : Addr) (h0 : Heap) (v : Option Value) (h : Heap) (L : List Loc) : Prop := ∃ (nl : Addr) (ng : Addr) (nj : ClassId), v = none ∧ oKp h0 h [xa] L ∧ (Exa Z h xa Y4) ∧ (Fld Z h xa Y4 "ordered" Y5 (.ref nl)) ∧ (Exa Z h nl Y6) ∧ (Fld Z h nl Y6 "elements" Y2 (.ref ng)) ∧ (Arv Z h ng nj (.object Y0) (3 : Int32) [(.ref xge0), (.ref xge1), (.ref xge2)] .null)
theorem rNI_3_2 (l : Launch) (Z : State) (a0 : Array Value) (hw : oHW a0 Z) (ws : List Jvm.Cond) (xa xi xs : Addr) (u1 u2 u3 u4 : Value) (xg xgf : Addr) (xgk : ClassId) (xge0 xge1 xge2 xh xhf : Addr) (xhk : ClassId) (xhe0 xhe1 xmr : Addr) (h0 : Heap) (O0 : Ext Z.heap h0) (mm_ : oMir Z Y2 xmr) (og_xa : Z.heap.size ≤ xa) (E_xa : Exa Z h0 xa Y4) (F_kind_xa : Fld Z h0 xa Y4 "kind" Y13 u1) (F_name_xa : Fld Z h0 xa Y4 "name" Y14 u2) (F_ordered_xa : Fld Z h0 xa Y4 "ordered" Y5 u3) (F_unordered_xa : Fld Z h0 xa Y4 "unordered" Y5 u4) (E_xg : Exa Z h0 xg Y1) (F_elementData_xg : Fld Z h0 xg Y1 "elementData" Y2 (.ref xgf)) (F_size_xg : Fld Z h0 xg Y1 "size" "I" (.int (3 : Int32))) (E_xgf : Exa Z h0 xgf Y2) (V_xgf : Arv Z h0 xgf xgk (.object Y0) (10 : Int32) [(.ref xge0), (.ref xge1), (.ref xge2), .null, .null, .null, .null, .null, .null, .null] .null) (I_xge0 : Ins Z h0 xge0 Y0 true) (I_xge1 : Ins Z h0 xge1 Y0 true) (I_xge2 : Ins Z h0 xge2 Y0 true) (E_xh : Exa Z h0 xh Y1) (F_elementData_xh : Fld Z h0 xh Y1 "elementData" Y2 (.ref xhf)) (F_size_xh : Fld Z h0 xh Y1 "size" "I" (.int (2 : Int32))) (E_xhf : Exa Z h0 xhf Y2) (V_xhf : Arv Z h0 xhf xhk (.object Y0) (10 : Int32) [(.ref xhe0), (.ref xhe1), .null, .null, .null, .null, .null, .null, .null, .null] .null) (I_xhe0 : Ins Z h0 xhe0 Y0 true) (I_xhe1 : Ins Z h0 xhe1 Y0 true) :
    oConH l Z oEL yy7 prog_27_method_1_code 5 none ws ({ frames := 9, cells := 9, slots := 52, locals := 115 } : Room) #[(.ref xa), (.ref xi), (.ref xs), (.ref xg), (.ref xh)] h0 [xa] (Q_rNI_3_2 Z xa xi xs u1 u2 u3 u4 xg xgf xgk xge0 xge1 xge2 xh xhf xhk xhe0 xhe1 xmr h0) := by
  refine oConH.of (plainFor_of_name pn_5) ?_
  intro p e s m below meth c T vm X hx hby hml hown hnm hret hlk hZ e0 B hsf
  have hml : c.maxLocals = 5 := hml
  have K : oKp h0 h0 [xa] [] := oKp.nil _ _
  refine oWk.cast (g' := (mkF m 0 #[rv xa, rv xi, rv xs, rv xg, rv xh] [])) (by first | rfl | (simp [entryFrame, mkF, argsToLocals, Value.category]; done)) ?_
  refine oWk.st (fun _ kt => zA X hx hby d6_0 rfl rfl rfl kt) ?_
  have Oh := K.old O0 (allS og_xa all0)
  obtain ⟨T, L2, X, e0, K, st⟩ := (cs2 hw).pure X hx hZ hown e0 K (A := [(.ref xa)]) ⟨rfl, _, _, rfl⟩ (rRec l Z a0 hw [] xa h0 Oh ) (fun _ _ _ q => q) (W := 0) (by decide) hml (Ls := #[rv xa, rv xi, rv xs, rv xg, rv xh]) rfl (rest := []) rfl rfl hby d6_1
  refine oWk.st st ?_
  refine oWk.st (fun _ kt => zA X hx hby d6_4 rfl rfl rfl kt) ?_
  obtain ⟨lt3, T, h, X, e2, E3, hZ, hown, B, C, st⟩ := oLdcO X hx hZ hown (oW hw 53 rfl) (oSA hw) e0 (oELw hw) B (g := (mkF m 5 #[rv xa, rv xi, rv xs, rv xg, rv xh] [(.ref xi)])) rfl (hb hby d6_5) (n := 16) (by decide) (by decide) (by decide) (by decide)
  have e0 := e2
  refine oWk.st st ?_
  have K := K.ext E3
  have Oh := K.old O0 (allS og_xa all0)
  obtain ⟨T, L5, X, e0, K, st⟩ := (cs3 hw).pure X hx hZ hown e0 K (A := [(.ref xi), (.ref lt3)]) rfl (rRN2 l Z a0 hw [] xi lt3 h Oh ) (fun _ _ _ q => q) (W := 0) (by decide) hml (Ls := #[rv xa, rv xi, rv xs, rv xg, rv xh]) rfl (rest := []) rfl rfl hby d6_7
  refine oWk.st st ?_
  refine oWk.st (fun _ kt => XS.pop X.here hx rfl (hb hby d6_10) rfl rfl (zA X hx hby d6_11 rfl rfl rfl kt)) ?_
  obtain ⟨lt6, T, h, X, e2, E6, hZ, hown, B, C, st⟩ := oLdcO X hx hZ hown (oW hw 58 rfl) (oSA hw) e0 (oELw hw) B (g := (mkF m 12 #[rv xa, rv xi, rv xs, rv xg, rv xh] [(.ref xs)])) rfl (hb hby d6_12) (n := 16) (by decide) (by decide) (by decide) (by decide)
  have e0 := e2
  refine oWk.st st ?_
  have K := K.ext E6
  have Oh := K.old O0 (allS og_xa all0)
  obtain ⟨T, L8, X, e0, K, st⟩ := (cs3 hw).pure X hx hZ hown e0 K (A := [(.ref xs), (.ref lt6)]) rfl (rRN2 l Z a0 hw [] xs lt6 h Oh ) (fun _ _ _ q => q) (W := 0) (by decide) hml (Ls := #[rv xa, rv xi, rv xs, rv xg, rv xh]) rfl (rest := []) rfl rfl hby d6_14
  refine oWk.st st ?_
  refine oWk.st (fun _ kt => XS.pop X.here hx rfl (hb hby d6_17) rfl rfl (zA X hx hby d6_18 rfl rfl rfl kt)) ?_
  have E_xg := ((E_xg.ext E3).ext E6)
  have F_elementData_xg := ((F_elementData_xg.ext E3).ext E6)
  have F_size_xg := ((F_size_xg.ext E3).ext E6)
  have E_xgf := ((E_xgf.ext E3).ext E6)
  have V_xgf := ((V_xgf.ext E3).ext E6)
  have I_xge0 := ((I_xge0.ext E3).ext E6)
  have I_xge1 := ((I_xge1.ext E3).ext E6)
  have I_xge2 := ((I_xge2.ext E3).ext E6)
  have E_xa := ((E_xa.ext E3).ext E6)
  have lt_xa := E_xa.lt
  have lt_xg := E_xg.lt
  have lt_xgf := E_xgf.lt
  have E_xh := ((E_xh.ext E3).ext E6)
  have lt_xh := E_xh.lt
  have E_xhf := ((E_xhf.ext E3).ext E6)
  have lt_xhf := E_xhf.lt
  obtain ⟨_, T, h, Lc10, X, e0, hQ, st⟩ := (cs4 hw).run X hx hZ hown e0 (A := [(.ref xg)]) rfl (rCO_3 l Z a0 hw [] xg xgf xmr xgk xge0 xge1 xge2 h Oh mm_ E_xg F_elementData_xg F_size_xg E_xgf V_xgf I_xge0 I_xge1 I_xge2) (W := 0) (by decide) hml (Ls := #[rv xa, rv xi, rv xs, rv xg, rv xh]) rfl (rest := []) rfl rfl hby d6_19
  obtain ⟨nl9, ng9, nj9, rfl, K9, gn_nl9, E_nl9, F_elements_nl9, F_allowNulls_nl9, gn_ng9, V_ng9⟩ := hQ
  have ge_nl9 := Nat.le_trans K.le gn_nl9
  have ne_xa_nl9 : xa ≠ nl9 := Nat.ne_of_lt (Nat.lt_of_lt_of_le lt_xa gn_nl9)
  have ne_xg_nl9 : xg ≠ nl9 := Nat.ne_of_lt (Nat.lt_of_lt_of_le lt_xg gn_nl9)
  have ne_xgf_nl9 : xgf ≠ nl9 := Nat.ne_of_lt (Nat.lt_of_lt_of_le lt_xgf gn_nl9)
  have ne_xh_nl9 : xh ≠ nl9 := Nat.ne_of_lt (Nat.lt_of_lt_of_le lt_xh gn_nl9)
  have ne_xhf_nl9 : xhf ≠ nl9 := Nat.ne_of_lt (Nat.lt_of_lt_of_le lt_xhf gn_nl9)
  have ge_ng9 := Nat.le_trans K.le gn_ng9
  have ne_xa_ng9 : xa ≠ ng9 := Nat.ne_of_lt (Nat.lt_of_lt_of_le lt_xa gn_ng9)
  have ne_xg_ng9 : xg ≠ ng9 := Nat.ne_of_lt (Nat.lt_of_lt_of_le lt_xg gn_ng9)
  have ne_xgf_ng9 : xgf ≠ ng9 := Nat.ne_of_lt (Nat.lt_of_lt_of_le lt_xgf gn_ng9)
  have ne_xh_ng9 : xh ≠ ng9 := Nat.ne_of_lt (Nat.lt_of_lt_of_le lt_xh gn_ng9)
  have ne_xhf_ng9 : xhf ≠ ng9 := Nat.ne_of_lt (Nat.lt_of_lt_of_le lt_xhf gn_ng9)
  have K := K.call K9 all0
  have B := B.keep K9.1 (fun _ _ => oSf)
  refine oWk.st st ?_
  refine oWk.st (fun _ kt => zTn X hx hby d6_22 rfl rfl rfl (l' := #[rv xa, rv xi, rv xs, rv nl9, rv xh]) rfl (zB X hx hby d6_23 rfl rfl rfl kt)) ?_
  have E_xh := (E_xh.keep K9.1)
  have F_elementData_xh := (((F_elementData_xh.ext E3).ext E6).keep K9.1 nin0)
  have F_size_xh := (((F_size_xh.ext E3).ext E6).keep K9.1 nin0)
  have E_xhf := (E_xhf.keep K9.1)
  have V_xhf := (((V_xhf.ext E3).ext E6).keep K9.1 nin0)
  have I_xhe0 := (oInsKeep ((I_xhe0.ext E3).ext E6) K9.1)
  have I_xhe1 := (oInsKeep ((I_xhe1.ext E3).ext E6) K9.1)
  have E_xa := (E_xa.keep K9.1)
  have lt_xa := E_xa.lt
  have E_xg := (E_xg.keep K9.1)
  have lt_xg := E_xg.lt
  have E_xgf := (E_xgf.keep K9.1)
  have lt_xgf := E_xgf.lt
  have lt_xh := E_xh.lt
  have lt_xhf := E_xhf.lt
  have lt_nl9 := E_nl9.lt
  have lt_ng9 := V_ng9.lt
  have Oh := K.old O0 (allS og_xa all0)
  obtain ⟨_, T, h, Lc12, X, e0, hQ, st⟩ := (cs4 hw).run X hx hZ hown e0 (A := [(.ref xh)]) rfl (rCO_2 l Z a0 hw [] xh xhf xmr xhk xhe0 xhe1 h Oh mm_ E_xh F_elementData_xh F_size_xh E_xhf V_xhf I_xhe0 I_xhe1) (W := 0) (by decide) hml (Ls := #[rv xa, rv xi, rv xs, rv nl9, rv xh]) rfl (rest := []) rfl rfl hby d6_25
  obtain ⟨nl11, rfl, K11, gn_nl11, E_nl11, F_e0_nl11, F_e1_nl11⟩ := hQ
  have ge_nl11 := Nat.le_trans K.le gn_nl11
  have ne_xa_nl11 : xa ≠ nl11 := Nat.ne_of_lt (Nat.lt_of_lt_of_le lt_xa gn_nl11)
  have ne_xg_nl11 : xg ≠ nl11 := Nat.ne_of_lt (Nat.lt_of_lt_of_le lt_xg gn_nl11)
  have ne_xgf_nl11 : xgf ≠ nl11 := Nat.ne_of_lt (Nat.lt_of_lt_of_le lt_xgf gn_nl11)
  have ne_xh_nl11 : xh ≠ nl11 := Nat.ne_of_lt (Nat.lt_of_lt_of_le lt_xh gn_nl11)
  have ne_xhf_nl11 : xhf ≠ nl11 := Nat.ne_of_lt (Nat.lt_of_lt_of_le lt_xhf gn_nl11)
  have ne_nl9_nl11 : nl9 ≠ nl11 := Nat.ne_of_lt (Nat.lt_of_lt_of_le lt_nl9 gn_nl11)
  have ne_ng9_nl11 : ng9 ≠ nl11 := Nat.ne_of_lt (Nat.lt_of_lt_of_le lt_ng9 gn_nl11)
  have K := K.call K11 all0
  have B := B.keep K11.1 (fun _ _ => oSf)
  refine oWk.st st ?_
  refine oWk.st (fun _ kt => zT X hx hby d6_28 rfl rfl rfl (l' := #[rv xa, rv xi, rv xs, rv nl9, rv nl11]) rfl (zA X hx hby d6_30 rfl rfl rfl (zA X hx hby d6_31 rfl rfl rfl kt))) ?_
  have E_xa := (E_xa.keep K11.1)
  have F_kind_xa := ((((F_kind_xa.ext E3).ext E6).keep K9.1 nin0).keep K11.1 nin0)
  obtain ⟨T, h, X, e0, W13, st⟩ := putF X hx hZ hown (host := "") (Or.inl (oW hw 88 rfl)) Via.refl e0 F_kind_xa E_xa (Or.inr ⟨(oW hw 89 rfl), rfl, hnm⟩) (oW hw 8 rfl) (ty := (.object Y7)) (by decide) rfl rfl (g := (mkF m 32 #[rv xa, rv xi, rv xs, rv nl9, rv nl11] [(.ref xi), (.ref xa)])) rfl rfl (hb hby d6_32)
  refine oWk.st st ?_
  have K := K.wr W13 (Or.inl (List.mem_of_getElem? (i := 0) rfl))
  have B := B.wr W13 oSf
  have F_kind_xa := F_kind_xa.same W13
  refine oWk.st (fun _ kt => zA X hx hby d6_35 rfl rfl rfl (zA X hx hby d6_36 rfl rfl rfl kt)) ?_
  have E_xa := (E_xa.wr W13)
  have F_name_xa := (((((F_name_xa.ext E3).ext E6).keep K9.1 nin0).keep K11.1 nin0).other W13 (Or.inr (slot_ne (Or.inr (oW hw 91 rfl)) (Or.inr (oW hw 89 rfl)) (by decide) (t := (.object Y9)) (t' := (.object Y7)) (by decide) (by decide))))
  obtain ⟨T, h, X, e0, W14, st⟩ := putF X hx hZ hown (host := "") (Or.inl (oW hw 90 rfl)) Via.refl e0 F_name_xa E_xa (Or.inr ⟨(oW hw 91 rfl), rfl, hnm⟩) (oW hw 8 rfl) (ty := (.object Y9)) (by decide) rfl rfl (g := (mkF m 37 #[rv xa, rv xi, rv xs, rv nl9, rv nl11] [(.ref xs), (.ref xa)])) rfl rfl (hb hby d6_37)
  refine oWk.st st ?_
  have K := K.wr W14 (Or.inl (List.mem_of_getElem? (i := 0) rfl))
  have B := B.wr W14 oSf
  have F_name_xa := F_name_xa.same W14
  refine oWk.st (fun _ kt => zA X hx hby d6_40 rfl rfl rfl (zA X hx hby d6_41 rfl rfl rfl kt)) ?_
  have E_xa := (E_xa.wr W14)
  have F_ordered_xa := ((((((F_ordered_xa.ext E3).ext E6).keep K9.1 nin0).keep K11.1 nin0).other W13 (Or.inr (slot_ne (Or.inr (oW hw 93 rfl)) (Or.inr (oW hw 89 rfl)) (by decide) (t := (.object Y3)) (t' := (.object Y7)) (by decide) (by decide)))).other W14 (Or.inr (slot_ne (Or.inr (oW hw 93 rfl)) (Or.inr (oW hw 91 rfl)) (by decide) (t := (.object Y3)) (t' := (.object Y9)) (by decide) (by decide))))
  obtain ⟨T, h, X, e0, W15, st⟩ := putF X hx hZ hown (host := "") (Or.inl (oW hw 92 rfl)) Via.refl e0 F_ordered_xa E_xa (Or.inr ⟨(oW hw 93 rfl), rfl, hnm⟩) (oW hw 8 rfl) (ty := (.object Y3)) (by decide) rfl rfl (g := (mkF m 42 #[rv xa, rv xi, rv xs, rv nl9, rv nl11] [(.ref nl9), (.ref xa)])) rfl rfl (hb hby d6_42)
  refine oWk.st st ?_
  have K := K.wr W15 (Or.inl (List.mem_of_getElem? (i := 0) rfl))
  have B := B.wr W15 oSf
  have F_ordered_xa := F_ordered_xa.same W15
  refine oWk.st (fun _ kt => zA X hx hby d6_45 rfl rfl rfl (zB X hx hby d6_46 rfl rfl rfl kt)) ?_
  have E_xa := (E_xa.wr W15)
  have F_unordered_xa := (((((((F_unordered_xa.ext E3).ext E6).keep K9.1 nin0).keep K11.1 nin0).other W13 (Or.inr (slot_ne (Or.inr (oW hw 95 rfl)) (Or.inr (oW hw 89 rfl)) (by decide) (t := (.object Y3)) (t' := (.object Y7)) (by decide) (by decide)))).other W14 (Or.inr (slot_ne (Or.inr (oW hw 95 rfl)) (Or.inr (oW hw 91 rfl)) (by decide) (t := (.object Y3)) (t' := (.object Y9)) (by decide) (by decide)))).other W15 (Or.inr (slot_ne (Or.inr (oW hw 95 rfl)) (Or.inr (oW hw 93 rfl)) (by decide) (t := (.object Y3)) (t' := (.object Y3)) (by decide) (by decide))))
  obtain ⟨T, h, X, e0, W16, st⟩ := putF X hx hZ hown (host := "") (Or.inl (oW hw 94 rfl)) Via.refl e0 F_unordered_xa E_xa (Or.inr ⟨(oW hw 95 rfl), rfl, hnm⟩) (oW hw 8 rfl) (ty := (.object Y3)) (by decide) rfl rfl (g := (mkF m 48 #[rv xa, rv xi, rv xs, rv nl9, rv nl11] [(.ref nl11), (.ref xa)])) rfl rfl (hb hby d6_48)
  refine oWk.st st ?_
  have K := K.wr W16 (Or.inl (List.mem_of_getElem? (i := 0) rfl))
  have B := B.wr W16 oSf
  have F_unordered_xa := F_unordered_xa.same W16
  have E_xa := (E_xa.wr W16)
  have F_ordered_xa := (F_ordered_xa.other W16 (Or.inr (slot_ne (Or.inr (oW hw 93 rfl)) (Or.inr (oW hw 95 rfl)) (by decide) (t := (.object Y3)) (t' := (.object Y3)) (by decide) (by decide))))
  have E_nl9 := (((((E_nl9.keep K11.1).wr W13).wr W14).wr W15).wr W16)
  have F_elements_nl9 := (((((F_elements_nl9.keep K11.1 nin0).other W13 (Or.inl (Ne.symm ne_xa_nl9))).other W14 (Or.inl (Ne.symm ne_xa_nl9))).other W15 (Or.inl (Ne.symm ne_xa_nl9))).other W16 (Or.inl (Ne.symm ne_xa_nl9)))
  have V_ng9 := (((((V_ng9.keep K11.1 nin0).other W13 (Ne.symm ne_xa_ng9)).other W14 (Ne.symm ne_xa_ng9)).other W15 (Ne.symm ne_xa_ng9)).other W16 (Ne.symm ne_xa_ng9))
  exact oRetHV X hx hlk hZ (oELw hw) e0 B hret (hb hby d6_51) (by rw [e0]; exact ⟨nl9, ng9, nj9, rfl, K, E_xa, F_ordered_xa, E_nl9, F_elements_nl9, V_ng9⟩) (by decide) (by decide)
def Q_rA3_3 (Z : State) (xa xx xf : Addr) (xk : ClassId) (xm : Int32) (xe0 xe1 xe2 : Addr) (h0 : Heap) (v : Option Value) (h : Heap) (L : List Loc) : Prop := v = none ∧ oKp h0 h [xa, xf] L ∧ (Exa Z h xa Y1) ∧ (Fld Z h xa Y1 "elementData" Y2 (.ref xf)) ∧ (Fld Z h xa Y1 "size" "I" (.int (4 : Int32))) ∧ (Fld Z h xa Y11 "modCount" "I" (.int xm)) ∧ (Exa Z h xf Y2) ∧ (Arv Z h xf xk (.object Y0) (10 : Int32) [(.ref xe0), (.ref xe1), (.ref xe2), (.ref xx), .null, .null, .null, .null, .null, .null] .null)
theorem rA3_3 (l : Launch) (Z : State) (a0 : Array Value) (hw : oHW a0 Z) (ws : List Jvm.Cond) (xa xx xf : Addr) (xk : ClassId) (xm : Int32) (xe0 xe1 xe2 : Addr) (h0 : Heap) (O0 : Ext Z.heap h0) (og_xa : Z.heap.size ≤ xa) (og_xf : Z.heap.size ≤ xf) (ne_xa_xf : xa ≠ xf) (E_xa : Exa Z h0 xa Y1) (F_elementData_xa : Fld Z h0 xa Y1 "elementData" Y2 (.ref xf)) (F_size_xa : Fld Z h0 xa Y1 "size" "I" (.int (3 : Int32))) (F_modCount_xa : Fld Z h0 xa Y11 "modCount" "I" (.int xm)) (E_xf : Exa Z h0 xf Y2) (V_xf : Arv Z h0 xf xk (.object Y0) (10 : Int32) [(.ref xe0), (.ref xe1), (.ref xe2), .null, .null, .null, .null, .null, .null, .null] .null) (ov_xk : Ovr Z xk Y0) (I_xx : Ins Z h0 xx Y0 true) :
    oCon l Z yy15 jdk_38_method_24_code 4 none ws ({ frames := 0, cells := 0, slots := 0, locals := 0 } : Room) #[(.ref xa), (.ref xx), (.ref xf), (.int (3 : Int32))] h0 (Q_rA3_3 Z xa xx xf xk xm xe0 xe1 xe2 h0) := by
  refine oCon.of (plainFor_of_name pn_2) ?_
  intro p e s m below meth c T X hx hby hml hown hnm hret hlk hZ e0
  have hml : c.maxLocals = 4 := hml
  have K : oKp h0 h0 [xa, xf] [] := oKp.nil _ _
  refine oWk.cast (g' := (mkF m 0 #[rv xa, rv xx, rv xf, iv 3] [])) (by first | rfl | (simp [entryFrame, mkF, argsToLocals, Value.category]; done)) ?_
  refine oWk.st (fun _ kt => zI X hx hby d14_0 rfl rfl (zA X hx hby d14_1 rfl rfl rfl kt)) ?_
  obtain ⟨cl1, Ar1, q1, Sz1, Nn1, Hs1, Ft1⟩ := id V_xf
  refine oWk.st (fun _ kt => X.arraylength hx (by rw [e0]; exact Ar1.1) (State.isArrayOf_alike hZ.alike Ar1.2.1) (g := (mkF m 2 #[rv xa, rv xx, rv xf, iv 3] [(.ref xf), (.int 3)])) rfl rfl (hb hby d14_2) _ kt) ?_
  rw [len_of Sz1 Nn1]
  refine oWk.st (fun _ kt => zY X hx hby d14_3 rfl rfl (feq (by decide)).2 (pc' := 11) rfl (zA X hx hby d14_11 rfl rfl rfl (zI X hx hby d14_12 rfl rfl (zA X hx hby d14_13 rfl rfl rfl kt)))) ?_
  obtain ⟨cl2, Ar2, q2, Sz2, Nn2, Hs2, Ft2⟩ := id V_xf
  have hin2 : ¬ ((3 : Int32) < 0 ∨ cl2.slots.size ≤ ((3 : Int32)).toNatClampNeg) := inb_of Sz2 ⟨by decide, by decide⟩
  obtain ⟨T, h, X, e0, W2, st⟩ := stR X hx hZ e0 Ar2 (j := (3 : Int32)) hin2 rfl (Sto.ofV Ar2 q2 ov_xk I_xx) (g := (mkF m 14 #[rv xa, rv xx, rv xf, iv 3] [(.ref xx), (.int 3), (.ref xf)])) rfl rfl (hb hby d14_14)
  refine oWk.st st ?_
  have K := K.wr W2 (Or.inl (List.mem_of_getElem? (i := 1) rfl))
  have V_xf : Arv Z h xf xk (.object Y0) (10 : Int32) [(.ref xe0), (.ref xe1), (.ref xe2), (.ref xx), .null, .null, .null, .null, .null, .null] .null := Arv.set Ar2 q2 Sz2 Nn2 Hs2 Ft2 rfl W2 3 rfl (Nat.le_of_ble_eq_true rfl)
  refine oWk.st (fun _ kt => zA X hx hby d14_15 rfl rfl rfl (zI X hx hby d14_16 rfl rfl (zK X hx hby d14_17 rfl (XS.iadd X.here hx rfl (hb hby d14_18) rfl kt)))) ?_
  show oWk _ _ _ _ T (mkF m 19 #[rv xa, rv xx, rv xf, iv 3] [(.int ((3 : Int32) + (1 : Int32))), (.ref xa)])
  rw [show ((3 : Int32) + (1 : Int32)) = (4 : Int32) from by decide]
  show oWk _ _ _ _ T (mkF m 19 #[rv xa, rv xx, rv xf, iv 3] [(.int 4), (.ref xa)])
  have E_xa := (E_xa.wr W2)
  have F_size_xa := (F_size_xa.other W2 (Or.inl ne_xa_xf))
  obtain ⟨T, h, X, e0, W3, st⟩ := putF X hx hZ hown (host := "") (Or.inl (oW hw 82 rfl)) Via.refl e0 F_size_xa E_xa (Or.inl (oW hw 83 rfl)) (oW hw 19 rfl) (ty := .int) (by decide) rfl rfl (g := (mkF m 19 #[rv xa, rv xx, rv xf, iv 3] [(.int 4), (.ref xa)])) rfl rfl (hb hby d14_19)
  refine oWk.st st ?_
  have K := K.wr W3 (Or.inl (List.mem_of_getElem? (i := 0) rfl))
  have F_size_xa := F_size_xa.same W3
  have E_xa := (E_xa.wr W3)
  have F_elementData_xa := ((F_elementData_xa.other W2 (Or.inl ne_xa_xf)).other W3 (Or.inr (slot_ne (Or.inl (oW hw 43 rfl)) (Or.inl (oW hw 83 rfl)) (by decide) (t := (.array (.object Y0))) (t' := .int) (by decide) (by decide))))
  have F_modCount_xa := ((F_modCount_xa.other W2 (Or.inl ne_xa_xf)).other W3 (Or.inr (slot_ne (Or.inl (oW hw 40 rfl)) (Or.inl (oW hw 83 rfl)) (by decide) (t := .int) (t' := .int) (by decide) (by decide))))
  have E_xf := ((E_xf.wr W2).wr W3)
  have V_xf := (V_xf.other W3 (Ne.symm ne_xa_xf))
  exact oRetV X hx hlk hret (hb hby d14_22) (by rw [e0]; exact ⟨rfl, K, E_xa, F_elementData_xa, F_size_xa, F_modCount_xa, E_xf, V_xf⟩) (by decide) (by decide)
def Q_rAd_3 (Z : State) (xa xx xf : Addr) (xk : ClassId) (xm : Int32) (xe0 xe1 xe2 : Addr) (h0 : Heap) (v : Option Value) (h : Heap) (L : List Loc) : Prop := v = some (.int (1 : Int32)) ∧ oKp h0 h [xa, xf] L ∧ (Exa Z h xa Y1) ∧ (Fld Z h xa Y1 "elementData" Y2 (.ref xf)) ∧ (Fld Z h xa Y1 "size" "I" (.int (4 : Int32))) ∧ (Fld Z h xa Y11 "modCount" "I" (.int (xm + (1 : Int32)))) ∧ (Exa Z h xf Y2) ∧ (Arv Z h xf xk (.object Y0) (10 : Int32) [(.ref xe0), (.ref xe1), (.ref xe2), (.ref xx), .null, .null, .null, .null, .null, .null] .null)
theorem rAd_3 (l : Launch) (Z : State) (a0 : Array Value) (hw : oHW a0 Z) (ws : List Jvm.Cond) (xa xx xf : Addr) (xk : ClassId) (xm : Int32) (xe0 xe1 xe2 : Addr) (h0 : Heap) (O0 : Ext Z.heap h0) (og_xa : Z.heap.size ≤ xa) (og_xf : Z.heap.size ≤ xf) (ne_xa_xf : xa ≠ xf) (E_xa : Exa Z h0 xa Y1) (F_elementData_xa : Fld Z h0 xa Y1 "elementData" Y2 (.ref xf)) (F_size_xa : Fld Z h0 xa Y1 "size" "I" (.int (3 : Int32))) (F_modCount_xa : Fld Z h0 xa Y11 "modCount" "I" (.int xm)) (E_xf : Exa Z h0 xf Y2) (V_xf : Arv Z h0 xf xk (.object Y0) (10 : Int32) [(.ref xe0), (.ref xe1), (.ref xe2), .null, .null, .null, .null, .null, .null, .null] .null) (ov_xk : Ovr Z xk Y0) (I_xx : Ins Z h0 xx Y0 true) :
    oCon l Z yy16 jdk_38_method_25_code 2 (some .boolean) ws ({ frames := 1, cells := 0, slots := 0, locals := 15 } : Room) #[(.ref xa), (.ref xx)] h0 (Q_rAd_3 Z xa xx xf xk xm xe0 xe1 xe2 h0) := by
  refine oCon.of (plainFor_of_name pn_2) ?_
  intro p e s m below meth c T X hx hby hml hown hnm hret hlk hZ e0
  have hml : c.maxLocals = 2 := hml
  have K : oKp h0 h0 [xa, xf] [] := oKp.nil _ _
  refine oWk.cast (g' := (mkF m 0 #[rv xa, rv xx] [])) (by first | rfl | (simp [entryFrame, mkF, argsToLocals, Value.category]; done)) ?_
  refine oWk.st (fun _ kt => zA X hx hby d13_0 rfl rfl rfl (zD X hx hby d13_1 rfl rfl rfl kt)) ?_
  obtain ⟨T, X, e0, st⟩ := getF X hx hZ hown (host := "") (Or.inl (oW hw 106 rfl)) (Via.of (oW hw 107 rfl)) e0 F_modCount_xa (g := (mkF m 2 #[rv xa, rv xx] [(.ref xa), (.ref xa)])) rfl rfl (hb hby d13_2)
  refine oWk.st st ?_
  refine oWk.st (fun _ kt => zK X hx hby d13_5 rfl (XS.iadd X.here hx rfl (hb hby d13_6) rfl kt)) ?_
  obtain ⟨T, h, X, e0, W1, st⟩ := putF X hx hZ hown (host := "") (Or.inl (oW hw 106 rfl)) (Via.of (oW hw 107 rfl)) e0 F_modCount_xa E_xa (Or.inl (oW hw 40 rfl)) (oW hw 19 rfl) (ty := .int) (by decide) rfl rfl (g := (mkF m 7 #[rv xa, rv xx] [(.int (xm + (1 : Int32))), (.ref xa)])) rfl rfl (hb hby d13_7)
  refine oWk.st st ?_
  have K := K.wr W1 (Or.inl (List.mem_of_getElem? (i := 0) rfl))
  have F_modCount_xa := F_modCount_xa.same W1
  refine oWk.st (fun _ kt => zA X hx hby d13_10 rfl rfl rfl (zA X hx hby d13_11 rfl rfl rfl (zA X hx hby d13_12 rfl rfl rfl kt))) ?_
  have F_elementData_xa := (F_elementData_xa.other W1 (Or.inr (slot_ne (Or.inl (oW hw 43 rfl)) (Or.inl (oW hw 40 rfl)) (by decide) (t := (.array (.object Y0))) (t' := .int) (by decide) (by decide))))
  obtain ⟨T, X, e0, st⟩ := getF X hx hZ hown (host := "") (Or.inl (oW hw 42 rfl)) Via.refl e0 F_elementData_xa (g := (mkF m 13 #[rv xa, rv xx] [(.ref xa), (.ref xx), (.ref xa)])) rfl rfl (hb hby d13_13)
  refine oWk.st st ?_
  refine oWk.st (fun _ kt => zA X hx hby d13_16 rfl rfl rfl kt) ?_
  have F_size_xa := (F_size_xa.other W1 (Or.inr (slot_ne (Or.inl (oW hw 83 rfl)) (Or.inl (oW hw 40 rfl)) (by decide) (t := .int) (t' := .int) (by decide) (by decide))))
  obtain ⟨T, X, e0, st⟩ := getF X hx hZ hown (host := "") (Or.inl (oW hw 82 rfl)) Via.refl e0 F_size_xa (g := (mkF m 17 #[rv xa, rv xx] [(.ref xa), (.ref xf), (.ref xx), (.ref xa)])) rfl rfl (hb hby d13_17)
  refine oWk.st st ?_
  have E_xa := (E_xa.wr W1)
  have E_xf := (E_xf.wr W1)
  have V_xf := (V_xf.other W1 (Ne.symm ne_xa_xf))
  have I_xx := (I_xx.wr W1)
  have Oh := K.old O0 (allS og_xa (allS og_xf all0))
  obtain ⟨_, T, h, Lc3, X, e0, hQ, st⟩ := (cs11 hw).run X hx hZ hown e0 (A := [(.ref xa), (.ref xx), (.ref xf), (.int (3 : Int32))]) ⟨rfl, _, _, rfl, E_xa⟩ (rA3_3 l Z a0 hw [] xa xx xf xk (xm + (1 : Int32)) xe0 xe1 xe2 h Oh og_xa og_xf ne_xa_xf E_xa F_elementData_xa F_size_xa F_modCount_xa E_xf V_xf ov_xk I_xx) (W := 0) (by decide) hml (Ls := #[rv xa, rv xx]) rfl (rest := []) rfl rfl hby d13_20
  obtain ⟨rfl, K2, E_xa, F_elementData_xa, F_size_xa, F_modCount_xa, E_xf, V_xf⟩ := hQ
  have K := K.call K2 (allS (Or.inl (List.mem_of_getElem? (i := 0) rfl)) (allS (Or.inl (List.mem_of_getElem? (i := 1) rfl)) all0))
  refine oWk.st st ?_
  refine oWk.st (fun _ kt => zK X hx hby d13_23 rfl kt) ?_
  show oWk _ _ _ _ T (mkF m 24 #[rv xa, rv xx] [(.int 1)])
  exact oRetZ X hx hlk hret (hb hby d13_24) (Or.inr rfl) (by rw [e0]; exact ⟨rfl, K, E_xa, F_elementData_xa, F_size_xa, F_modCount_xa, E_xf, V_xf⟩) (by decide) (by decide)
def Q_rEmp4 (Z : State) (xa : Addr) (h0 : Heap) (v : Option Value) (h : Heap) (L : List Loc) : Prop := v = some (.int (0 : Int32)) ∧ h = h0 ∧ oKp h0 h [] L
theorem rEmp4 (l : Launch) (Z : State) (a0 : Array Value) (hw : oHW a0 Z) (ws : List Jvm.Cond) (xa : Addr) (h0 : Heap) (O0 : Ext Z.heap h0) (F_size_xa : Fld Z h0 xa Y1 "size" "I" (.int (4 : Int32))) :
    oCon l Z yy2 jdk_38_method_9_code 1 (some .boolean) ws ({ frames := 0, cells := 0, slots := 0, locals := 0 } : Room) #[(.ref xa)] h0 (Q_rEmp4 Z xa h0) := by
  refine oCon.of (plainFor_of_name pn_2) ?_
  intro p e s m below meth c T X hx hby hml hown hnm hret hlk hZ e0
  have hml : c.maxLocals = 1 := hml
  have K : oKp h0 h0 [] [] := oKp.nil _ _
  refine oWk.cast (g' := (mkF m 0 #[rv xa] [])) (by first | rfl | (simp [entryFrame, mkF, argsToLocals, Value.category]; done)) ?_
  refine oWk.st (fun _ kt => zA X hx hby d11_0 rfl rfl rfl kt) ?_
  obtain ⟨T, X, e0, st⟩ := getF X hx hZ hown (host := "") (Or.inl (oW hw 82 rfl)) Via.refl e0 F_size_xa (g := (mkF m 1 #[rv xa] [(.ref xa)])) rfl rfl (hb hby d11_1)
  refine oWk.st st ?_
  refine oWk.st (fun _ kt => zF X hx hby d11_4 rfl rfl ((if0 _ _).trans (feq (by decide)).2) (pc' := 11) rfl (zK X hx hby d11_11 rfl kt)) ?_
  show oWk _ _ _ _ T (mkF m 12 #[rv xa] [(.int 0)])
  exact oRetZ X hx hlk hret (hb hby d11_12) (Or.inl rfl) (by rw [e0]; exact ⟨rfl, rfl, K⟩) (by decide) (by decide)
def Q_rMin4 (Z : State)  (h0 : Heap) (v : Option Value) (h : Heap) (L : List Loc) : Prop := v = some (.int (4 : Int32)) ∧ h = h0 ∧ oKp h0 h [] L
theorem rMin4 (l : Launch) (Z : State) (a0 : Array Value) (hw : oHW a0 Z) (ws : List Jvm.Cond)  (h0 : Heap) (O0 : Ext Z.heap h0)  :
    oCon l Z yy17 jdk_29_method_69_code 2 (some .int) ws ({ frames := 0, cells := 0, slots := 0, locals := 0 } : Room) #[(.int (10 : Int32)), (.int (4 : Int32))] h0 (Q_rMin4 Z  h0) := by
  refine oCon.of (Jvm.Free.JP.mathPlain rfl (by decide +kernel)) ?_
  intro p e s m below meth c T X hx hby hml hown hnm hret hlk hZ e0
  have hml : c.maxLocals = 2 := hml
  have K : oKp h0 h0 [] [] := oKp.nil _ _
  refine oWk.cast (g' := (mkF m 0 #[iv 10, iv 4] [])) (by first | rfl | (simp [entryFrame, mkF, argsToLocals, Value.category]; done)) ?_
  refine oWk.st (fun _ kt => zI X hx hby d21_0 rfl rfl (zI X hx hby d21_1 rfl rfl (zY X hx hby d21_2 rfl rfl (tlt (by decide)).2.2.1 (pc' := 9) rfl (zI X hx hby d21_9 rfl rfl kt)))) ?_
  show oWk _ _ _ _ T (mkF m 10 #[iv 10, iv 4] [(.int 4)])
  exact oRetI X hx hlk hret (hb hby d21_10) (by rw [e0]; exact ⟨rfl, rfl, K⟩) (by decide) (by decide)
def Q_rCp3_4 (Z : State) (xf xmr : Addr) (xk : ClassId) (xe0 xe1 xe2 xe3 : Addr) (h0 : Heap) (v : Option Value) (h : Heap) (L : List Loc) : Prop := ∃ (nb : Addr) (nj : ClassId), v = some (.ref nb) ∧ oKp h0 h [] L ∧ (h0.size ≤ nb) ∧ (Exa Z h nb Y2) ∧ (Arv Z h nb nj (.object Y0) (4 : Int32) [(.ref xe0), (.ref xe1), (.ref xe2), (.ref xe3)] .null) ∧ (Ovr Z nj Y0)
theorem rCp3_4 (l : Launch) (Z : State) (a0 : Array Value) (hw : oHW a0 Z) (ws : List Jvm.Cond) (xf xmr : Addr) (xk : ClassId) (xe0 xe1 xe2 xe3 : Addr) (h0 : Heap) (O0 : Ext Z.heap h0) (mm_ : oMir Z Y2 xmr) (E_xf : Exa Z h0 xf Y2) (V_xf : Arv Z h0 xf xk (.object Y0) (10 : Int32) [(.ref xe0), (.ref xe1), (.ref xe2), (.ref xe3), .null, .null, .null, .null, .null, .null] .null) (I_xe0 : Ins Z h0 xe0 Y0 true) (I_xe1 : Ins Z h0 xe1 Y0 true) (I_xe2 : Ins Z h0 xe2 Y0 true) (I_xe3 : Ins Z h0 xe3 Y0 true) :
    oCon l Z yy18 jdk_65_method_120_code 4 (some (.array (.object Y0))) ws ({ frames := 1, cells := 1, slots := 4, locals := 18 } : Room) #[(.ref xf), (.int (4 : Int32)), (.ref xmr)] h0 (Q_rCp3_4 Z xf xmr xk xe0 xe1 xe2 xe3 h0) := by
  refine oCon.of (plainFor_of_name pn_9) ?_
  intro p e s m below meth c T X hx hby hml hown hnm hret hlk hZ e0
  have hml : c.maxLocals = 4 := hml
  have K : oKp h0 h0 [] [] := oKp.nil _ _
  refine oWk.cast (g' := (mkF m 0 #[rv xf, iv 4, rv xmr, uu] [])) (by first | rfl | (simp [entryFrame, mkF, argsToLocals, Value.category]; done)) ?_
  refine oWk.st (fun _ kt => zA X hx hby d20_0 rfl rfl rfl kt) ?_
  obtain ⟨T, X, e0, st⟩ := oLdcM X hx hZ hown (oW hw 151 rfl) e0 mm_ (g := (mkF m 1 #[rv xf, iv 4, rv xmr, uu] [(.ref xmr)])) rfl (hb hby d20_1)
  refine oWk.st st ?_
  refine oWk.st (fun _ kt => Jvm.RoadKit.acmp (g := (mkF m 3 #[rv xf, iv 4, rv xmr, uu] [(.ref xmr), (.ref xmr)])) X hx rfl rfl rfl (pc0 := 3) (pc' := 6) (same := true) rfl (hb hby d20_3) rfl (decide_eq_true rfl) (by decide) (by decide) kt) ?_
  show oWk _ _ _ _ T (mkF m 6 #[rv xf, iv 4, rv xmr, uu] [])
  refine oWk.st (fun _ kt => zI X hx hby d20_6 rfl rfl kt) ?_
  obtain ⟨o1, g1⟩ : ∃ z, z = h0.size := ⟨_, rfl⟩
  have ne_xf_o1 : xf ≠ o1 := Nat.ne_of_lt (Nat.lt_of_lt_of_le E_xf.lt (Nat.le_of_eq g1.symm))
  have ge_o1 : h0.size ≤ o1 := Nat.le_trans K.le (Nat.le_of_eq g1.symm)
  obtain ⟨T, h, k1, X, e0, E1, A1, E_o1, O1, st⟩ := newRE X hx hZ hown (oW hw 152 rfl) (oW hw 128 rfl) e0 (g := (mkF m 7 #[rv xf, iv 4, rv xmr, uu] [(.int 4)])) rfl (hb hby d20_7) rfl (by decide) (cap := 4) (by decide) (by decide) (by decide) (by decide) (ad := Y2) (by decide)
  rw [← g1] at A1 E_o1 st
  refine oWk.st st ?_
  have K := K.ext E1
  have V_o1 : Arv Z h o1 k1 (.object Y0) (4 : Int32) [.null, .null, .null, .null] .null := (Arv.new A1 (by decide)).pad (pad_rep [] .null 4)
  refine oWk.st (fun _ kt => zG X hx hby d20_10 rfl (pc' := 24) rfl (zTn X hx hby d20_24 rfl rfl rfl (l' := #[rv xf, iv 4, rv xmr, rv o1]) rfl (zA X hx hby d20_25 rfl rfl rfl (zK X hx hby d20_26 rfl (zA X hx hby d20_27 rfl rfl rfl (zK X hx hby d20_28 rfl (zA X hx hby d20_29 rfl rfl rfl kt))))))) ?_
  have V_xf := (V_xf.ext E1)
  obtain ⟨cl2, Ar2, q2, Sz2, Nn2, Hs2, Ft2⟩ := id V_xf
  refine oWk.st (fun _ kt => X.arraylength hx (by rw [e0]; exact Ar2.1) (State.isArrayOf_alike hZ.alike Ar2.2.1) (g := (mkF m 30 #[rv xf, iv 4, rv xmr, rv o1] [(.ref xf), (.int 0), (.ref o1), (.int 0), (.ref xf)])) rfl rfl (hb hby d20_30) _ kt) ?_
  rw [len_of Sz2 Nn2]
  refine oWk.st (fun _ kt => zI X hx hby d20_31 rfl rfl kt) ?_
  have Oh := K.old O0 all0
  obtain ⟨T, L4, X, e0, K, st⟩ := (cs13 hw).pure X hx hZ hown e0 K (A := [(.int (10 : Int32)), (.int (4 : Int32))]) rfl (rMin4 l Z a0 hw []  h Oh ) (fun _ _ _ q => q) (W := 4) (by decide) hml (Ls := #[rv xf, iv 4, rv xmr, rv o1]) rfl (rest := [(.int (0 : Int32)), (.ref o1), (.int (0 : Int32)), (.ref xf)]) rfl rfl hby d20_32
  refine oWk.st st ?_
  obtain ⟨cl5, Ar5, q5, -⟩ := id V_o1
  have I_xe3 := (I_xe3.ext E1)
  have I_xe2 := (I_xe2.ext E1)
  have I_xe1 := (I_xe1.ext E1)
  have I_xe0 := (I_xe0.ext E1)
  obtain ⟨T, h, L5, X, e0, N5, C5, V5, st⟩ := cpA X hx hZ hown (oW hw 156 rfl) (oW hw 159 rfl) (oW hw 157 rfl) (oW hw 158 rfl) e0 (us := [(.ref xe0), (.ref xe1), (.ref xe2), (.ref xe3)]) V_xf V_o1 (Or.inr ⟨rfl, rfl, ⟨Sto.ofV Ar5 q5 O1 I_xe0, ⟨Sto.ofV Ar5 q5 O1 I_xe1, ⟨Sto.ofV Ar5 q5 O1 I_xe2, ⟨Sto.ofV Ar5 q5 O1 I_xe3, trivial⟩⟩⟩⟩⟩) (by decide) (by decide) (by decide) (by decide) (by decide) rfl (by decide) K.fr ge_o1 (g := (mkF m 35 #[rv xf, iv 4, rv xmr, rv o1] [(.int 4), (.int 0), (.ref o1), (.int 0), (.ref xf)])) rfl (by rw [hml]; rfl) rfl (hb hby d20_35) (by decide) (W := 0) (Nat.le_of_eq rfl) (by decide)
  refine oWk.st st ?_
  have K : oKp h0 h [] L5 := ⟨K.1.trans C5 (allS (Or.inr ge_o1) all0), fun y hy => Or.inr (N5 y hy)⟩
  have V_o1 : Arv Z h o1 k1 (.object Y0) (4 : Int32) [(.ref xe0), (.ref xe1), (.ref xe2), (.ref xe3)] .null := V5
  refine oWk.st (fun _ kt => zA X hx hby d20_38 rfl rfl rfl kt) ?_
  show oWk _ _ _ _ T (mkF m 39 #[rv xf, iv 4, rv xmr, rv o1] [(.ref o1)])
  have E_o1 := (E_o1.keep C5)
  exact oRetA X hx hlk hret rfl rfl (hb hby d20_39) (by rw [e0]; exact ⟨o1, k1, rfl, K, ge_o1, E_o1, V_o1, O1⟩) (by decide) (by decide)
def Q_rCp2_4 (Z : State) (xf xmr : Addr) (xk : ClassId) (xe0 xe1 xe2 xe3 : Addr) (h0 : Heap) (v : Option Value) (h : Heap) (L : List Loc) : Prop := ∃ (nb : Addr) (nj : ClassId), v = some (.ref nb) ∧ oKp h0 h [] L ∧ (h0.size ≤ nb) ∧ (Exa Z h nb Y2) ∧ (Arv Z h nb nj (.object Y0) (4 : Int32) [(.ref xe0), (.ref xe1), (.ref xe2), (.ref xe3)] .null) ∧ (Ovr Z nj Y0)
theorem rCp2_4 (l : Launch) (Z : State) (a0 : Array Value) (hw : oHW a0 Z) (ws : List Jvm.Cond) (xf xmr : Addr) (xk : ClassId) (xe0 xe1 xe2 xe3 : Addr) (h0 : Heap) (O0 : Ext Z.heap h0) (mm_ : oMir Z Y2 xmr) (E_xf : Exa Z h0 xf Y2) (V_xf : Arv Z h0 xf xk (.object Y0) (10 : Int32) [(.ref xe0), (.ref xe1), (.ref xe2), (.ref xe3), .null, .null, .null, .null, .null, .null] .null) (I_xe0 : Ins Z h0 xe0 Y0 true) (I_xe1 : Ins Z h0 xe1 Y0 true) (I_xe2 : Ins Z h0 xe2 Y0 true) (I_xe3 : Ins Z h0 xe3 Y0 true) :
    oCon l Z yy19 jdk_65_method_119_code 2 (some (.array (.object Y0))) ws ({ frames := 2, cells := 1, slots := 4, locals := 33 } : Room) #[(.ref xf), (.int (4 : Int32))] h0 (Q_rCp2_4 Z xf xmr xk xe0 xe1 xe2 xe3 h0) := by
  refine oCon.of (plainFor_of_name pn_9) ?_
  intro p e s m below meth c T X hx hby hml hown hnm hret hlk hZ e0
  have hml : c.maxLocals = 2 := hml
  have K : oKp h0 h0 [] [] := oKp.nil _ _
  refine oWk.cast (g' := (mkF m 0 #[rv xf, iv 4] [])) (by first | rfl | (simp [entryFrame, mkF, argsToLocals, Value.category]; done)) ?_
  refine oWk.st (fun _ kt => zA X hx hby d19_0 rfl rfl rfl (zI X hx hby d19_1 rfl rfl (zA X hx hby d19_2 rfl rfl rfl kt))) ?_
  obtain ⟨T, X, e0, st⟩ := oGcls X hx hZ hown (oW hw 142 rfl) (oW hw 143 rfl) (oW hw 145 rfl) (oW hw 144 rfl) (oW hw 146 rfl) e0 E_xf mm_ (g := (mkF m 3 #[rv xf, iv 4] [(.ref xf), (.int 4), (.ref xf)])) rfl (by rw [hml]; rfl) rfl (hb hby d19_3) (by decide) (W := 2) (Nat.le_of_eq rfl) (by decide)
  refine oWk.st st ?_
  have lt_xf := E_xf.lt
  have Oh := K.old O0 all0
  obtain ⟨_, T, h, Lc2, X, e0, hQ, st⟩ := (cs14 hw).run X hx hZ hown e0 (A := [(.ref xf), (.int (4 : Int32)), (.ref xmr)]) rfl (rCp3_4 l Z a0 hw [] xf xmr xk xe0 xe1 xe2 xe3 h0 Oh mm_ E_xf V_xf I_xe0 I_xe1 I_xe2 I_xe3) (W := 0) (by decide) hml (Ls := #[rv xf, iv 4]) rfl (rest := []) rfl rfl hby d19_6
  obtain ⟨nb1, nj1, rfl, K1, gn_nb1, E_nb1, V_nb1, ov_nj1⟩ := hQ
  have ge_nb1 := Nat.le_trans K.le gn_nb1
  have ne_xf_nb1 : xf ≠ nb1 := Nat.ne_of_lt (Nat.lt_of_lt_of_le lt_xf gn_nb1)
  have K := K.call K1 all0
  refine oWk.st st ?_
  exact oRetA X hx hlk hret rfl rfl (hb hby d19_9) (by rw [e0]; exact ⟨nb1, nj1, rfl, K, ge_nb1, E_nb1, V_nb1, ov_nj1⟩) (by decide) (by decide)
def Q_rTA_4 (Z : State) (xa xf xmr : Addr) (xk : ClassId) (xe0 xe1 xe2 xe3 : Addr) (h0 : Heap) (v : Option Value) (h : Heap) (L : List Loc) : Prop := ∃ (nb : Addr) (nj : ClassId), v = some (.ref nb) ∧ oKp h0 h [] L ∧ (h0.size ≤ nb) ∧ (Exa Z h nb Y2) ∧ (Arv Z h nb nj (.object Y0) (4 : Int32) [(.ref xe0), (.ref xe1), (.ref xe2), (.ref xe3)] .null) ∧ (Ovr Z nj Y0)
theorem rTA_4 (l : Launch) (Z : State) (a0 : Array Value) (hw : oHW a0 Z) (ws : List Jvm.Cond) (xa xf xmr : Addr) (xk : ClassId) (xe0 xe1 xe2 xe3 : Addr) (h0 : Heap) (O0 : Ext Z.heap h0) (mm_ : oMir Z Y2 xmr) (F_elementData_xa : Fld Z h0 xa Y1 "elementData" Y2 (.ref xf)) (F_size_xa : Fld Z h0 xa Y1 "size" "I" (.int (4 : Int32))) (E_xf : Exa Z h0 xf Y2) (V_xf : Arv Z h0 xf xk (.object Y0) (10 : Int32) [(.ref xe0), (.ref xe1), (.ref xe2), (.ref xe3), .null, .null, .null, .null, .null, .null] .null) (I_xe0 : Ins Z h0 xe0 Y0 true) (I_xe1 : Ins Z h0 xe1 Y0 true) (I_xe2 : Ins Z h0 xe2 Y0 true) (I_xe3 : Ins Z h0 xe3 Y0 true) :
    oCon l Z yy20 jdk_38_method_16_code 1 (some (.array (.object Y0))) ws ({ frames := 3, cells := 1, slots := 4, locals := 46 } : Room) #[(.ref xa)] h0 (Q_rTA_4 Z xa xf xmr xk xe0 xe1 xe2 xe3 h0) := by
  refine oCon.of (plainFor_of_name pn_2) ?_
  intro p e s m below meth c T X hx hby hml hown hnm hret hlk hZ e0
  have hml : c.maxLocals = 1 := hml
  have K : oKp h0 h0 [] [] := oKp.nil _ _
  refine oWk.cast (g' := (mkF m 0 #[rv xa] [])) (by first | rfl | (simp [entryFrame, mkF, argsToLocals, Value.category]; done)) ?_
  refine oWk.st (fun _ kt => zA X hx hby d18_0 rfl rfl rfl kt) ?_
  obtain ⟨T, X, e0, st⟩ := getF X hx hZ hown (host := "") (Or.inl (oW hw 42 rfl)) Via.refl e0 F_elementData_xa (g := (mkF m 1 #[rv xa] [(.ref xa)])) rfl rfl (hb hby d18_1)
  refine oWk.st st ?_
  refine oWk.st (fun _ kt => zA X hx hby d18_4 rfl rfl rfl kt) ?_
  obtain ⟨T, X, e0, st⟩ := getF X hx hZ hown (host := "") (Or.inl (oW hw 82 rfl)) Via.refl e0 F_size_xa (g := (mkF m 5 #[rv xa] [(.ref xa), (.ref xf)])) rfl rfl (hb hby d18_5)
  refine oWk.st st ?_
  have lt_xa := F_elementData_xa.lt
  have lt_xf := E_xf.lt
  have Oh := K.old O0 all0
  obtain ⟨_, T, h, Lc2, X, e0, hQ, st⟩ := (cs15 hw).run X hx hZ hown e0 (A := [(.ref xf), (.int (4 : Int32))]) rfl (rCp2_4 l Z a0 hw [] xf xmr xk xe0 xe1 xe2 xe3 h0 Oh mm_ E_xf V_xf I_xe0 I_xe1 I_xe2 I_xe3) (W := 0) (by decide) hml (Ls := #[rv xa]) rfl (rest := []) rfl rfl hby d18_8
  obtain ⟨nb1, nj1, rfl, K1, gn_nb1, E_nb1, V_nb1, ov_nj1⟩ := hQ
  have ge_nb1 := Nat.le_trans K.le gn_nb1
  have ne_xa_nb1 : xa ≠ nb1 := Nat.ne_of_lt (Nat.lt_of_lt_of_le lt_xa gn_nb1)
  have ne_xf_nb1 : xf ≠ nb1 := Nat.ne_of_lt (Nat.lt_of_lt_of_le lt_xf gn_nb1)
  have K := K.call K1 all0
  refine oWk.st st ?_
  exact oRetA X hx hlk hret rfl rfl (hb hby d18_11) (by rw [e0]; exact ⟨nb1, nj1, rfl, K, ge_nb1, E_nb1, V_nb1, ov_nj1⟩) (by decide) (by decide)
def Q_rLFA_4 (Z : State) (xf : Addr) (xk : ClassId) (xe0 xe1 xe2 xe3 : Addr) (h0 : Heap) (v : Option Value) (h : Heap) (L : List Loc) : Prop := ∃ (nl : Addr) (ng : Addr) (nj : ClassId), v = some (.ref nl) ∧ oKp h0 h [] L ∧ (h0.size ≤ nl) ∧ (Exa Z h nl Y6) ∧ (Fld Z h nl Y6 "elements" Y2 (.ref ng)) ∧ (Fld Z h nl Y6 "allowNulls" "Z" (.int (0 : Int32))) ∧ (h0.size ≤ ng) ∧ (Arv Z h ng nj (.object Y0) (4 : Int32) [(.ref xe0), (.ref xe1), (.ref xe2), (.ref xe3)] .null)
theorem rLFA_4 (l : Launch) (Z : State) (a0 : Array Value) (hw : oHW a0 Z) (ws : List Jvm.Cond) (xf : Addr) (xk : ClassId) (xe0 xe1 xe2 xe3 : Addr) (h0 : Heap) (O0 : Ext Z.heap h0) (V_xf : Arv Z h0 xf xk (.object Y0) (4 : Int32) [(.ref xe0), (.ref xe1), (.ref xe2), (.ref xe3)] .null) (I_xe0 : Ins Z h0 xe0 Y0 true) (I_xe1 : Ins Z h0 xe1 Y0 true) (I_xe2 : Ins Z h0 xe2 Y0 true) (I_xe3 : Ins Z h0 xe3 Y0 true) :
    oCon l Z yy32 jdk_56_method_4_code 3 (some (.object Y3)) ws ({ frames := 5, cells := 2, slots := 6, locals := 63 } : Room) #[(.ref xf)] h0 (Q_rLFA_4 Z xf xk xe0 xe1 xe2 xe3 h0) := by
  refine oCon.of (plainFor_of_name pn_4) ?_
  intro p e s m below meth c T X hx hby hml hown hnm hret hlk hZ e0
  have hml : c.maxLocals = 3 := hml
  have K : oKp h0 h0 [] [] := oKp.nil _ _
  refine oWk.cast (g' := (mkF m 0 #[rv xf, uu, uu] [])) (by first | rfl | (simp [entryFrame, mkF, argsToLocals, Value.category]; done)) ?_
  refine oWk.st (fun _ kt => zA X hx hby d30_0 rfl rfl rfl kt) ?_
  obtain ⟨cl1, Ar1, q1, Sz1, Nn1, Hs1, Ft1⟩ := id V_xf
  refine oWk.st (fun _ kt => X.arraylength hx (by rw [e0]; exact Ar1.1) (State.isArrayOf_alike hZ.alike Ar1.2.1) (g := (mkF m 1 #[rv xf, uu, uu] [(.ref xf)])) rfl rfl (hb hby d30_1) _ kt) ?_
  rw [len_of Sz1 Nn1]
  obtain ⟨o2, g2⟩ : ∃ z, z = h0.size := ⟨_, rfl⟩
  have ne_xf_o2 : xf ≠ o2 := Nat.ne_of_lt (Nat.lt_of_lt_of_le V_xf.lt (Nat.le_of_eq g2.symm))
  have ge_o2 : h0.size ≤ o2 := Nat.le_trans K.le (Nat.le_of_eq g2.symm)
  obtain ⟨T, h, k2, X, e0, E2, A2, E_o2, O2, st⟩ := newRE X hx hZ hown (oW hw 214 rfl) (oW hw 128 rfl) e0 (g := (mkF m 2 #[rv xf, uu, uu] [(.int 4)])) rfl (hb hby d30_2) rfl (by decide) (cap := 4) (by decide) (by decide) (by decide) (by decide) (ad := Y2) (by decide)
  rw [← g2] at A2 E_o2 st
  refine oWk.st st ?_
  have K := K.ext E2
  have V_o2 : Arv Z h o2 k2 (.object Y0) (4 : Int32) [.null, .null, .null, .null] .null := (Arv.new A2 (by decide)).pad (pad_rep [] .null 4)
  refine oWk.st (fun _ kt => zTn X hx hby d30_5 rfl rfl rfl (l' := #[rv xf, rv o2, uu]) rfl (zK X hx hby d30_6 rfl (zSn X hx hby d30_7 rfl rfl (l' := #[rv xf, rv o2, iv 0]) rfl (zI X hx hby d30_8 rfl rfl (zA X hx hby d30_9 rfl rfl rfl kt))))) ?_
  have V_xf := (V_xf.ext E2)
  obtain ⟨cl3, Ar3, q3, Sz3, Nn3, Hs3, Ft3⟩ := id V_xf
  refine oWk.st (fun _ kt => X.arraylength hx (by rw [e0]; exact Ar3.1) (State.isArrayOf_alike hZ.alike Ar3.2.1) (g := (mkF m 10 #[rv xf, rv o2, iv 0] [(.ref xf), (.int 0)])) rfl rfl (hb hby d30_10) _ kt) ?_
  rw [len_of Sz3 Nn3]
  refine oWk.st (fun _ kt => zN X hx hby d30_11 rfl rfl (tlt (by decide)).2.1 (zA X hx hby d30_14 rfl rfl rfl (zI X hx hby d30_15 rfl rfl (zA X hx hby d30_16 rfl rfl rfl (zI X hx hby d30_17 rfl rfl kt))))) ?_
  obtain ⟨cl4, Ar4, q4, Sz4, Nn4, Hs4, Ft4⟩ := id V_xf
  have hin4 : ¬ ((0 : Int32) < 0 ∨ cl4.slots.size ≤ ((0 : Int32)).toNatClampNeg) := inb_of Sz4 ⟨by decide, by decide⟩
  have hat4 : cl4.slots[((0 : Int32)).toNatClampNeg]? = some (.ref xe0) := Hs4.at hin4 rfl
  refine oWk.st (fun _ kt => X.aaload hx (j := (0 : Int32)) (v := (.ref xe0)) (by rw [e0]; exact Ar4.1) (State.isArrayOf_alike hZ.alike Ar4.2.1) rfl Ar4.2.2 hin4 hat4 (g := (mkF m 18 #[rv xf, rv o2, iv 0] [(.int 0), (.ref xf), (.int 0), (.ref o2)])) rfl rfl (hb hby d30_18) _ kt) ?_
  have Oh := K.old O0 all0
  obtain ⟨T, L6, X, e0, K, st⟩ := (cs25 hw).pure X hx hZ hown e0 K (A := [(.ref xe0)]) rfl (rRNN l Z a0 hw [] xe0 h Oh ) (fun _ _ _ q => q) (W := 2) (by decide) hml (Ls := #[rv xf, rv o2, iv 0]) rfl (rest := [(.int (0 : Int32)), (.ref o2)]) rfl rfl hby d30_19
  refine oWk.st st ?_
  have I_xe0 := (I_xe0.ext E2)
  obtain ⟨cl7, Ar7, q7, Sz7, Nn7, Hs7, Ft7⟩ := id V_o2
  have hin7 : ¬ ((0 : Int32) < 0 ∨ cl7.slots.size ≤ ((0 : Int32)).toNatClampNeg) := inb_of Sz7 ⟨by decide, by decide⟩
  obtain ⟨T, h, X, e0, W7, st⟩ := stR X hx hZ e0 Ar7 (j := (0 : Int32)) hin7 rfl (Sto.ofV Ar7 q7 O2 I_xe0) (g := (mkF m 22 #[rv xf, rv o2, iv 0] [(.ref xe0), (.int 0), (.ref o2)])) rfl rfl (hb hby d30_22)
  refine oWk.st st ?_
  have K := K.wr W7 (Or.inr ge_o2)
  have V_o2 : Arv Z h o2 k2 (.object Y0) (4 : Int32) [(.ref xe0), .null, .null, .null] .null := Arv.set Ar7 q7 Sz7 Nn7 Hs7 Ft7 rfl W7 0 rfl (Nat.le_of_ble_eq_true rfl)
  refine oWk.st (fun _ kt => zC X hx hby d30_23 rfl rfl (l' := #[rv xf, rv o2, iv ((0 : Int32) + (1 : Int32))]) rfl kt) ?_
  show oWk _ _ _ _ T (mkF m 26 #[rv xf, rv o2, iv ((0 : Int32) + (1 : Int32))] [])
  rw [show ((0 : Int32) + (1 : Int32)) = (1 : Int32) from by decide]
  show oWk _ _ _ _ T (mkF m 26 #[rv xf, rv o2, iv 1] [])
  refine oWk.st (fun _ kt => zG X hx hby d30_26 rfl (pc' := 8) rfl (zI X hx hby d30_8 rfl rfl (zA X hx hby d30_9 rfl rfl rfl kt))) ?_
  have V_xf := (V_xf.other W7 ne_xf_o2)
  obtain ⟨cl8, Ar8, q8, Sz8, Nn8, Hs8, Ft8⟩ := id V_xf
  refine oWk.st (fun _ kt => X.arraylength hx (by rw [e0]; exact Ar8.1) (State.isArrayOf_alike hZ.alike Ar8.2.1) (g := (mkF m 10 #[rv xf, rv o2, iv 1] [(.ref xf), (.int 1)])) rfl rfl (hb hby d30_10) _ kt) ?_
  rw [len_of Sz8 Nn8]
  refine oWk.st (fun _ kt => zN X hx hby d30_11 rfl rfl (tlt (by decide)).2.1 (zA X hx hby d30_14 rfl rfl rfl (zI X hx hby d30_15 rfl rfl (zA X hx hby d30_16 rfl rfl rfl (zI X hx hby d30_17 rfl rfl kt))))) ?_
  obtain ⟨cl9, Ar9, q9, Sz9, Nn9, Hs9, Ft9⟩ := id V_xf
  have hin9 : ¬ ((1 : Int32) < 0 ∨ cl9.slots.size ≤ ((1 : Int32)).toNatClampNeg) := inb_of Sz9 ⟨by decide, by decide⟩
  have hat9 : cl9.slots[((1 : Int32)).toNatClampNeg]? = some (.ref xe1) := Hs9.at hin9 rfl
  refine oWk.st (fun _ kt => X.aaload hx (j := (1 : Int32)) (v := (.ref xe1)) (by rw [e0]; exact Ar9.1) (State.isArrayOf_alike hZ.alike Ar9.2.1) rfl Ar9.2.2 hin9 hat9 (g := (mkF m 18 #[rv xf, rv o2, iv 1] [(.int 1), (.ref xf), (.int 1), (.ref o2)])) rfl rfl (hb hby d30_18) _ kt) ?_
  have Oh := K.old O0 all0
  obtain ⟨T, L11, X, e0, K, st⟩ := (cs25 hw).pure X hx hZ hown e0 K (A := [(.ref xe1)]) rfl (rRNN l Z a0 hw [] xe1 h Oh ) (fun _ _ _ q => q) (W := 2) (by decide) hml (Ls := #[rv xf, rv o2, iv 1]) rfl (rest := [(.int (1 : Int32)), (.ref o2)]) rfl rfl hby d30_19
  refine oWk.st st ?_
  have I_xe1 := ((I_xe1.ext E2).wr W7)
  obtain ⟨cl12, Ar12, q12, Sz12, Nn12, Hs12, Ft12⟩ := id V_o2
  have hin12 : ¬ ((1 : Int32) < 0 ∨ cl12.slots.size ≤ ((1 : Int32)).toNatClampNeg) := inb_of Sz12 ⟨by decide, by decide⟩
  obtain ⟨T, h, X, e0, W12, st⟩ := stR X hx hZ e0 Ar12 (j := (1 : Int32)) hin12 rfl (Sto.ofV Ar12 q12 O2 I_xe1) (g := (mkF m 22 #[rv xf, rv o2, iv 1] [(.ref xe1), (.int 1), (.ref o2)])) rfl rfl (hb hby d30_22)
  refine oWk.st st ?_
  have K := K.wr W12 (Or.inr ge_o2)
  have V_o2 : Arv Z h o2 k2 (.object Y0) (4 : Int32) [(.ref xe0), (.ref xe1), .null, .null] .null := Arv.set Ar12 q12 Sz12 Nn12 Hs12 Ft12 rfl W12 1 rfl (Nat.le_of_ble_eq_true rfl)
  refine oWk.st (fun _ kt => zC X hx hby d30_23 rfl rfl (l' := #[rv xf, rv o2, iv ((1 : Int32) + (1 : Int32))]) rfl kt) ?_
  show oWk _ _ _ _ T (mkF m 26 #[rv xf, rv o2, iv ((1 : Int32) + (1 : Int32))] [])
  rw [show ((1 : Int32) + (1 : Int32)) = (2 : Int32) from by decide]
  show oWk _ _ _ _ T (mkF m 26 #[rv xf, rv o2, iv 2] [])
  refine oWk.st (fun _ kt => zG X hx hby d30_26 rfl (pc' := 8) rfl (zI X hx hby d30_8 rfl rfl (zA X hx hby d30_9 rfl rfl rfl kt))) ?_
  have V_xf := (V_xf.other W12 ne_xf_o2)
  obtain ⟨cl13, Ar13, q13, Sz13, Nn13, Hs13, Ft13⟩ := id V_xf
  refine oWk.st (fun _ kt => X.arraylength hx (by rw [e0]; exact Ar13.1) (State.isArrayOf_alike hZ.alike Ar13.2.1) (g := (mkF m 10 #[rv xf, rv o2, iv 2] [(.ref xf), (.int 2)])) rfl rfl (hb hby d30_10) _ kt) ?_
  rw [len_of Sz13 Nn13]
  refine oWk.st (fun _ kt => zN X hx hby d30_11 rfl rfl (tlt (by decide)).2.1 (zA X hx hby d30_14 rfl rfl rfl (zI X hx hby d30_15 rfl rfl (zA X hx hby d30_16 rfl rfl rfl (zI X hx hby d30_17 rfl rfl kt))))) ?_
  obtain ⟨cl14, Ar14, q14, Sz14, Nn14, Hs14, Ft14⟩ := id V_xf
  have hin14 : ¬ ((2 : Int32) < 0 ∨ cl14.slots.size ≤ ((2 : Int32)).toNatClampNeg) := inb_of Sz14 ⟨by decide, by decide⟩
  have hat14 : cl14.slots[((2 : Int32)).toNatClampNeg]? = some (.ref xe2) := Hs14.at hin14 rfl
  refine oWk.st (fun _ kt => X.aaload hx (j := (2 : Int32)) (v := (.ref xe2)) (by rw [e0]; exact Ar14.1) (State.isArrayOf_alike hZ.alike Ar14.2.1) rfl Ar14.2.2 hin14 hat14 (g := (mkF m 18 #[rv xf, rv o2, iv 2] [(.int 2), (.ref xf), (.int 2), (.ref o2)])) rfl rfl (hb hby d30_18) _ kt) ?_
  have Oh := K.old O0 all0
  obtain ⟨T, L16, X, e0, K, st⟩ := (cs25 hw).pure X hx hZ hown e0 K (A := [(.ref xe2)]) rfl (rRNN l Z a0 hw [] xe2 h Oh ) (fun _ _ _ q => q) (W := 2) (by decide) hml (Ls := #[rv xf, rv o2, iv 2]) rfl (rest := [(.int (2 : Int32)), (.ref o2)]) rfl rfl hby d30_19
  refine oWk.st st ?_
  have I_xe2 := (((I_xe2.ext E2).wr W7).wr W12)
  obtain ⟨cl17, Ar17, q17, Sz17, Nn17, Hs17, Ft17⟩ := id V_o2
  have hin17 : ¬ ((2 : Int32) < 0 ∨ cl17.slots.size ≤ ((2 : Int32)).toNatClampNeg) := inb_of Sz17 ⟨by decide, by decide⟩
  obtain ⟨T, h, X, e0, W17, st⟩ := stR X hx hZ e0 Ar17 (j := (2 : Int32)) hin17 rfl (Sto.ofV Ar17 q17 O2 I_xe2) (g := (mkF m 22 #[rv xf, rv o2, iv 2] [(.ref xe2), (.int 2), (.ref o2)])) rfl rfl (hb hby d30_22)
  refine oWk.st st ?_
  have K := K.wr W17 (Or.inr ge_o2)
  have V_o2 : Arv Z h o2 k2 (.object Y0) (4 : Int32) [(.ref xe0), (.ref xe1), (.ref xe2), .null] .null := Arv.set Ar17 q17 Sz17 Nn17 Hs17 Ft17 rfl W17 2 rfl (Nat.le_of_ble_eq_true rfl)
  refine oWk.st (fun _ kt => zC X hx hby d30_23 rfl rfl (l' := #[rv xf, rv o2, iv ((2 : Int32) + (1 : Int32))]) rfl kt) ?_
  show oWk _ _ _ _ T (mkF m 26 #[rv xf, rv o2, iv ((2 : Int32) + (1 : Int32))] [])
  rw [show ((2 : Int32) + (1 : Int32)) = (3 : Int32) from by decide]
  show oWk _ _ _ _ T (mkF m 26 #[rv xf, rv o2, iv 3] [])
  refine oWk.st (fun _ kt => zG X hx hby d30_26 rfl (pc' := 8) rfl (zI X hx hby d30_8 rfl rfl (zA X hx hby d30_9 rfl rfl rfl kt))) ?_
  have V_xf := (V_xf.other W17 ne_xf_o2)
  obtain ⟨cl18, Ar18, q18, Sz18, Nn18, Hs18, Ft18⟩ := id V_xf
  refine oWk.st (fun _ kt => X.arraylength hx (by rw [e0]; exact Ar18.1) (State.isArrayOf_alike hZ.alike Ar18.2.1) (g := (mkF m 10 #[rv xf, rv o2, iv 3] [(.ref xf), (.int 3)])) rfl rfl (hb hby d30_10) _ kt) ?_
  rw [len_of Sz18 Nn18]
  refine oWk.st (fun _ kt => zN X hx hby d30_11 rfl rfl (tlt (by decide)).2.1 (zA X hx hby d30_14 rfl rfl rfl (zI X hx hby d30_15 rfl rfl (zA X hx hby d30_16 rfl rfl rfl (zI X hx hby d30_17 rfl rfl kt))))) ?_
  obtain ⟨cl19, Ar19, q19, Sz19, Nn19, Hs19, Ft19⟩ := id V_xf
  have hin19 : ¬ ((3 : Int32) < 0 ∨ cl19.slots.size ≤ ((3 : Int32)).toNatClampNeg) := inb_of Sz19 ⟨by decide, by decide⟩
  have hat19 : cl19.slots[((3 : Int32)).toNatClampNeg]? = some (.ref xe3) := Hs19.at hin19 rfl
  refine oWk.st (fun _ kt => X.aaload hx (j := (3 : Int32)) (v := (.ref xe3)) (by rw [e0]; exact Ar19.1) (State.isArrayOf_alike hZ.alike Ar19.2.1) rfl Ar19.2.2 hin19 hat19 (g := (mkF m 18 #[rv xf, rv o2, iv 3] [(.int 3), (.ref xf), (.int 3), (.ref o2)])) rfl rfl (hb hby d30_18) _ kt) ?_
  have Oh := K.old O0 all0
  obtain ⟨T, L21, X, e0, K, st⟩ := (cs25 hw).pure X hx hZ hown e0 K (A := [(.ref xe3)]) rfl (rRNN l Z a0 hw [] xe3 h Oh ) (fun _ _ _ q => q) (W := 2) (by decide) hml (Ls := #[rv xf, rv o2, iv 3]) rfl (rest := [(.int (3 : Int32)), (.ref o2)]) rfl rfl hby d30_19
  refine oWk.st st ?_
  have I_xe3 := ((((I_xe3.ext E2).wr W7).wr W12).wr W17)
  obtain ⟨cl22, Ar22, q22, Sz22, Nn22, Hs22, Ft22⟩ := id V_o2
  have hin22 : ¬ ((3 : Int32) < 0 ∨ cl22.slots.size ≤ ((3 : Int32)).toNatClampNeg) := inb_of Sz22 ⟨by decide, by decide⟩
  obtain ⟨T, h, X, e0, W22, st⟩ := stR X hx hZ e0 Ar22 (j := (3 : Int32)) hin22 rfl (Sto.ofV Ar22 q22 O2 I_xe3) (g := (mkF m 22 #[rv xf, rv o2, iv 3] [(.ref xe3), (.int 3), (.ref o2)])) rfl rfl (hb hby d30_22)
  refine oWk.st st ?_
  have K := K.wr W22 (Or.inr ge_o2)
  have V_o2 : Arv Z h o2 k2 (.object Y0) (4 : Int32) [(.ref xe0), (.ref xe1), (.ref xe2), (.ref xe3)] .null := Arv.set Ar22 q22 Sz22 Nn22 Hs22 Ft22 rfl W22 3 rfl (Nat.le_of_ble_eq_true rfl)
  refine oWk.st (fun _ kt => zC X hx hby d30_23 rfl rfl (l' := #[rv xf, rv o2, iv ((3 : Int32) + (1 : Int32))]) rfl kt) ?_
  show oWk _ _ _ _ T (mkF m 26 #[rv xf, rv o2, iv ((3 : Int32) + (1 : Int32))] [])
  rw [show ((3 : Int32) + (1 : Int32)) = (4 : Int32) from by decide]
  show oWk _ _ _ _ T (mkF m 26 #[rv xf, rv o2, iv 4] [])
  refine oWk.st (fun _ kt => zG X hx hby d30_26 rfl (pc' := 8) rfl (zI X hx hby d30_8 rfl rfl (zA X hx hby d30_9 rfl rfl rfl kt))) ?_
  have V_xf := (V_xf.other W22 ne_xf_o2)
  obtain ⟨cl23, Ar23, q23, Sz23, Nn23, Hs23, Ft23⟩ := id V_xf
  refine oWk.st (fun _ kt => X.arraylength hx (by rw [e0]; exact Ar23.1) (State.isArrayOf_alike hZ.alike Ar23.2.1) (g := (mkF m 10 #[rv xf, rv o2, iv 4] [(.ref xf), (.int 4)])) rfl rfl (hb hby d30_10) _ kt) ?_
  rw [len_of Sz23 Nn23]
  refine oWk.st (fun _ kt => zY X hx hby d30_11 rfl rfl (flt (by decide)).2.1 (pc' := 29) rfl kt) ?_
  obtain ⟨o24, g24⟩ : ∃ z, z = h.size := ⟨_, rfl⟩
  have ne_xf_o24 : xf ≠ o24 := Nat.ne_of_lt (Nat.lt_of_lt_of_le V_xf.lt (Nat.le_of_eq g24.symm))
  have ne_o2_o24 : o2 ≠ o24 := Nat.ne_of_lt (Nat.lt_of_lt_of_le V_o2.lt (Nat.le_of_eq g24.symm))
  have ge_o24 : h0.size ≤ o24 := Nat.le_trans K.le (Nat.le_of_eq g24.symm)
  obtain ⟨T, h, X, e0, E24, A24, D24, -, st⟩ := newO X hx hZ hown (oW hw 72 rfl) (oW hw 216 rfl) (oW hw 217 rfl) e0 (g := (mkF m 29 #[rv xf, rv o2, iv 4] [])) rfl (hb hby d30_29) (by decide) (by decide)
  rw [← g24] at A24 D24 st
  refine oWk.st st ?_
  have K := K.ext E24
  have E_o24 := A24
  have F_elements_o24 : Fld Z h o24 Y6 "elements" Y2 .null := D24 (Or.inr (oW hw 227 rfl)) (ty := (.array (.object Y0))) (by decide)
  have F_allowNulls_o24 : Fld Z h o24 Y6 "allowNulls" "Z" (.int (0 : Int32)) := D24 (Or.inr (oW hw 229 rfl)) (ty := .boolean) (by decide)
  refine oWk.st (fun _ kt => zD X hx hby d30_32 rfl rfl rfl (zA X hx hby d30_33 rfl rfl rfl (zK X hx hby d30_34 rfl kt))) ?_
  have Oh := K.old O0 all0
  obtain ⟨_, T, h, Lc26, X, e0, hQ, st⟩ := (cs26 hw).run X hx hZ hown e0 (A := [(.ref o24), (.ref o2), (.int (0 : Int32))]) ⟨rfl, _, _, rfl⟩ (rLNI l Z a0 hw [] o24 o2 .null (.int (0 : Int32)) h Oh (Nat.le_trans O0.1 ge_o24) E_o24 F_elements_o24 F_allowNulls_o24) (W := 1) (by decide) hml (Ls := #[rv xf, rv o2, iv 4]) rfl (rest := [(.ref o24)]) rfl rfl hby d30_35
  obtain ⟨rfl, K25, E_o24, F_elements_o24, F_allowNulls_o24⟩ := hQ
  have K := K.call K25 (allS (Or.inr ge_o24) all0)
  refine oWk.st st ?_
  have V_o2 := ((V_o2.ext E24).keep K25.1 (ninS ne_o2_o24 nin0))
  exact oRetA X hx hlk hret rfl rfl (hb hby d30_38) (by rw [e0]; exact ⟨o24, o2, k2, rfl, K, ge_o24, E_o24, F_elements_o24, F_allowNulls_o24, ge_o2, V_o2⟩) (by decide) (by decide)
def Q_rOf_4 (Z : State) (xf : Addr) (xk : ClassId) (xe0 xe1 xe2 xe3 : Addr) (h0 : Heap) (v : Option Value) (h : Heap) (L : List Loc) : Prop := ∃ (nl : Addr) (ng : Addr) (nj : ClassId), v = some (.ref nl) ∧ oKp h0 h [] L ∧ (h0.size ≤ nl) ∧ (Exa Z h nl Y6) ∧ (Fld Z h nl Y6 "elements" Y2 (.ref ng)) ∧ (Fld Z h nl Y6 "allowNulls" "Z" (.int (0 : Int32))) ∧ (h0.size ≤ ng) ∧ (Arv Z h ng nj (.object Y0) (4 : Int32) [(.ref xe0), (.ref xe1), (.ref xe2), (.ref xe3)] .null)
theorem rOf_4 (l : Launch) (Z : State) (a0 : Array Value) (hw : oHW a0 Z) (ws : List Jvm.Cond) (xf : Addr) (xk : ClassId) (xe0 xe1 xe2 xe3 : Addr) (h0 : Heap) (O0 : Ext Z.heap h0) (V_xf : Arv Z h0 xf xk (.object Y0) (4 : Int32) [(.ref xe0), (.ref xe1), (.ref xe2), (.ref xe3)] .null) (I_xe0 : Ins Z h0 xe0 Y0 true) (I_xe1 : Ins Z h0 xe1 Y0 true) (I_xe2 : Ins Z h0 xe2 Y0 true) (I_xe3 : Ins Z h0 xe3 Y0 true) :
    oCon l Z yy25 jdk_40_method_47_code 2 (some (.object Y3)) ws ({ frames := 6, cells := 2, slots := 6, locals := 77 } : Room) #[(.ref xf)] h0 (Q_rOf_4 Z xf xk xe0 xe1 xe2 xe3 h0) := by
  refine oCon.of (plainFor_of_name pn_3) ?_
  intro p e s m below meth c T X hx hby hml hown hnm hret hlk hZ e0
  have hml : c.maxLocals = 2 := hml
  have K : oKp h0 h0 [] [] := oKp.nil _ _
  refine oWk.cast (g' := (mkF m 0 #[rv xf, uu] [])) (by first | rfl | (simp [entryFrame, mkF, argsToLocals, Value.category]; done)) ?_
  refine oWk.st (fun _ kt => zA X hx hby d22_0 rfl rfl rfl kt) ?_
  obtain ⟨cl1, Ar1, q1, Sz1, Nn1, Hs1, Ft1⟩ := id V_xf
  refine oWk.st (fun _ kt => X.arraylength hx (by rw [e0]; exact Ar1.1) (State.isArrayOf_alike hZ.alike Ar1.2.1) (g := (mkF m 1 #[rv xf, uu] [(.ref xf)])) rfl rfl (hb hby d22_1) _ kt) ?_
  rw [len_of Sz1 Nn1]
  refine oWk.st (fun _ kt => XS.tswOut X.here hx rfl (pc0 := 2) (pc' := 59) rfl (hb hby d22_2) rfl (by decide) (by decide) (by decide) (zA X hx hby d22_59 rfl rfl rfl kt)) ?_
  have lt_xf := V_xf.lt
  have Oh := K.old O0 all0
  obtain ⟨_, T, h, Lc3, X, e0, hQ, st⟩ := (cs27 hw).run X hx hZ hown e0 (A := [(.ref xf)]) rfl (rLFA_4 l Z a0 hw [] xf xk xe0 xe1 xe2 xe3 h0 Oh V_xf I_xe0 I_xe1 I_xe2 I_xe3) (W := 0) (by decide) hml (Ls := #[rv xf, uu]) rfl (rest := []) rfl rfl hby d22_60
  obtain ⟨nl2, ng2, nj2, rfl, K2, gn_nl2, E_nl2, F_elements_nl2, F_allowNulls_nl2, gn_ng2, V_ng2⟩ := hQ
  have ge_nl2 := Nat.le_trans K.le gn_nl2
  have ne_xf_nl2 : xf ≠ nl2 := Nat.ne_of_lt (Nat.lt_of_lt_of_le lt_xf gn_nl2)
  have ge_ng2 := Nat.le_trans K.le gn_ng2
  have ne_xf_ng2 : xf ≠ ng2 := Nat.ne_of_lt (Nat.lt_of_lt_of_le lt_xf gn_ng2)
  have K := K.call K2 all0
  refine oWk.st st ?_
  exact oRetA X hx hlk hret rfl rfl (hb hby d22_63) (by rw [e0]; exact ⟨nl2, ng2, nj2, rfl, K, ge_nl2, E_nl2, F_elements_nl2, F_allowNulls_nl2, ge_ng2, V_ng2⟩) (by decide) (by decide)
def Q_rLC_4 (Z : State) (xa xf xmr : Addr) (xk : ClassId) (xe0 xe1 xe2 xe3 : Addr) (h0 : Heap) (v : Option Value) (h : Heap) (L : List Loc) : Prop := ∃ (nl : Addr) (ng : Addr) (nj : ClassId), v = some (.ref nl) ∧ oKp h0 h [] L ∧ (h0.size ≤ nl) ∧ (Exa Z h nl Y6) ∧ (Fld Z h nl Y6 "elements" Y2 (.ref ng)) ∧ (Fld Z h nl Y6 "allowNulls" "Z" (.int (0 : Int32))) ∧ (h0.size ≤ ng) ∧ (Arv Z h ng nj (.object Y0) (4 : Int32) [(.ref xe0), (.ref xe1), (.ref xe2), (.ref xe3)] .null)
theorem rLC_4 (l : Launch) (Z : State) (a0 : Array Value) (hw : oHW a0 Z) (ws : List Jvm.Cond) (xa xf xmr : Addr) (xk : ClassId) (xe0 xe1 xe2 xe3 : Addr) (h0 : Heap) (O0 : Ext Z.heap h0) (mm_ : oMir Z Y2 xmr) (E_xa : Exa Z h0 xa Y1) (F_elementData_xa : Fld Z h0 xa Y1 "elementData" Y2 (.ref xf)) (F_size_xa : Fld Z h0 xa Y1 "size" "I" (.int (4 : Int32))) (E_xf : Exa Z h0 xf Y2) (V_xf : Arv Z h0 xf xk (.object Y0) (10 : Int32) [(.ref xe0), (.ref xe1), (.ref xe2), (.ref xe3), .null, .null, .null, .null, .null, .null] .null) (I_xe0 : Ins Z h0 xe0 Y0 true) (I_xe1 : Ins Z h0 xe1 Y0 true) (I_xe2 : Ins Z h0 xe2 Y0 true) (I_xe3 : Ins Z h0 xe3 Y0 true) :
    oCon l Z yy4 jdk_56_method_3_code 2 (some (.object Y3)) ws ({ frames := 7, cells := 3, slots := 10, locals := 90 } : Room) #[(.ref xa)] h0 (Q_rLC_4 Z xa xf xmr xk xe0 xe1 xe2 xe3 h0) := by
  refine oCon.of (plainFor_of_name pn_4) ?_
  intro p e s m below meth c T X hx hby hml hown hnm hret hlk hZ e0
  have hml : c.maxLocals = 2 := hml
  have K : oKp h0 h0 [] [] := oKp.nil _ _
  refine oWk.cast (g' := (mkF m 0 #[rv xa, uu] [])) (by first | rfl | (simp [entryFrame, mkF, argsToLocals, Value.category]; done)) ?_
  refine oWk.st (fun _ kt => zA X hx hby d10_0 rfl rfl rfl kt) ?_
  obtain ⟨T, X, e0, st⟩ := instNo X hx hZ hown (oW hw 67 rfl) e0 E_xa (oNSno (oW hw 68 rfl) (oW hw 164 rfl) (NS.step (oW hw 68 rfl) (NS.step (oW hw 69 rfl) (NS.step (oW hw 70 rfl) (oNSroot (oW hw 71 rfl) (oW hw 164 rfl) (by decide)) (by decide)) (by decide)) (by decide)) (by decide)) (g := (mkF m 1 #[rv xa, uu] [(.ref xa)])) rfl rfl (hb hby d10_1)
  refine oWk.st st ?_
  refine oWk.st (fun _ kt => zH X hx hby d10_4 rfl rfl ((if0 _ _).trans (teq (by decide)).2) (zA X hx hby d10_7 rfl rfl rfl kt)) ?_
  obtain ⟨T, X, e0, st⟩ := instNo X hx hZ hown (oW hw 72 rfl) e0 E_xa (oNSno (oW hw 68 rfl) (oW hw 216 rfl) (NS.step (oW hw 68 rfl) (NS.step (oW hw 69 rfl) (NS.step (oW hw 70 rfl) (oNSroot (oW hw 71 rfl) (oW hw 216 rfl) (by decide)) (by decide)) (by decide)) (by decide)) (by decide)) (g := (mkF m 8 #[rv xa, uu] [(.ref xa)])) rfl rfl (hb hby d10_8)
  refine oWk.st st ?_
  refine oWk.st (fun _ kt => zF X hx hby d10_11 rfl rfl ((if0 _ _).trans (teq (by decide)).1) (pc' := 31) rfl (zA X hx hby d10_31 rfl rfl rfl kt)) ?_
  have Oh := K.old O0 all0
  obtain ⟨cq2, kq2, q2a, q2b, q2c⟩ := isOf hZ e0 E_xa
  obtain ⟨_, _, ⟨T, L2, k2, n2⟩, -, X, ⟨Lc2, hQ, l2, y2, z2⟩, st⟩ := X.interfaceBack hx (xi := yy5) (y := yy2) hown (mvT hZ (oW hw 73 rfl)) (mvT hZ (oW hw 74 rfl)) (mvT hZ (oW hw 75 rfl)) (mvT hZ (oW hw 76 rfl)) (mvT hZ (oW hw 77 rfl)) (mvT hZ (oW hw 78 rfl)) (mvT hZ (oW hw 79 rfl)) (mvT hZ (oW hw 80 rfl)) (by decide) (backOf (W := 0) (rEmp4 l Z a0 hw [] xa h0 Oh F_size_xa) hZ (oW hw 81 rfl) (oW hw 20 rfl) (by decide) (by decide)) q2a q2b q2c (g := (mkF m 32 #[rv xa, uu] [(.ref xa)])) rfl (by rw [hml]; rfl) (Steps.refl _) (argsL := []) (rest := []) (lenOf pd_0 rfl) rfl (Nat.le_of_eq rfl) (hb hby d10_32) (fun _ _ => ⟨rfl, e0, (by decide : 0 + 0 ≤ _), (by decide : 0 + 0 ≤ _)⟩)
  dsimp only [Pt.U, Pt.locs, Pt.cells, Pt.slots] at X l2 y2 z2 st hQ
  subst l2 y2 z2
  obtain ⟨rfl, e0, K1⟩ := hQ
  have K := K.call K1 all0
  rw [e0] at K
  refine oWk.tr st ?_
  refine oWk.st (fun _ kt => zF X hx hby d10_37 rfl rfl ((if0 _ _).trans (teq (by decide)).1) (pc' := 44) rfl (zA X hx hby d10_44 rfl rfl rfl kt)) ?_
  have lt_xa := E_xa.lt
  have lt_xf := E_xf.lt
  obtain ⟨cq4, kq4, q4a, q4b, q4c⟩ := isOf hZ e0 E_xa
  obtain ⟨_, _, ⟨T, L4, k4, n4⟩, -, X, ⟨Lc4, hQ, l4, y4, z4⟩, st⟩ := X.interfaceBack hx (xi := yy26) (y := yy20) hown (mvT hZ (oW hw 130 rfl)) (mvT hZ (oW hw 131 rfl)) (mvT hZ (oW hw 132 rfl)) (mvT hZ (oW hw 133 rfl)) (mvT hZ (oW hw 134 rfl)) (mvT hZ (oW hw 135 rfl)) (mvT hZ (oW hw 136 rfl)) (mvT hZ (oW hw 80 rfl)) (by decide) (backOf (W := 0) (rTA_4 l Z a0 hw [] xa xf xmr xk xe0 xe1 xe2 xe3 h0 Oh mm_ F_elementData_xa F_size_xa E_xf V_xf I_xe0 I_xe1 I_xe2 I_xe3) hZ (oW hw 137 rfl) (oW hw 20 rfl) (by decide) (by decide)) q4a q4b q4c (g := (mkF m 45 #[rv xa, uu] [(.ref xa)])) rfl (by rw [hml]; rfl) (Steps.refl _) (argsL := []) (rest := []) (lenOf pd_9 rfl) rfl (Nat.le_of_eq rfl) (hb hby d10_45) (fun _ _ => ⟨rfl, e0, (by decide : 0 + 1 ≤ _), (by decide : 0 + 4 ≤ _)⟩)
  dsimp only [Pt.U, Pt.locs, Pt.cells, Pt.slots] at X l4 y4 z4 st hQ
  subst l4 y4 z4
  obtain ⟨h, e0⟩ : ∃ z, T.heap = z := ⟨_, rfl⟩
  rw [e0] at hQ
  obtain ⟨nb3, nj3, rfl, K3, gn_nb3, E_nb3, V_nb3, ov_nj3⟩ := hQ
  have ge_nb3 := Nat.le_trans K.le gn_nb3
  have ne_xa_nb3 : xa ≠ nb3 := Nat.ne_of_lt (Nat.lt_of_lt_of_le lt_xa gn_nb3)
  have ne_xf_nb3 : xf ≠ nb3 := Nat.ne_of_lt (Nat.lt_of_lt_of_le lt_xf gn_nb3)
  have K := K.call K3 all0
  refine oWk.tr st ?_
  have I_xe0 := (oInsKeep I_xe0 K3.1)
  have I_xe1 := (oInsKeep I_xe1 K3.1)
  have I_xe2 := (oInsKeep I_xe2 K3.1)
  have I_xe3 := (oInsKeep I_xe3 K3.1)
  have E_xa := (E_xa.keep K3.1)
  have lt_xa := E_xa.lt
  have E_xf := (E_xf.keep K3.1)
  have lt_xf := E_xf.lt
  have lt_nb3 := E_nb3.lt
  have Oh := K.old O0 all0
  obtain ⟨_, T, h, Lc6, X, e0, hQ, st⟩ := (cs21 hw).run X hx hZ hown e0 (A := [(.ref nb3)]) rfl (rOf_4 l Z a0 hw [] nb3 nj3 xe0 xe1 xe2 xe3 h Oh V_nb3 I_xe0 I_xe1 I_xe2 I_xe3) (W := 0) (by decide) hml (Ls := #[rv xa, uu]) rfl (rest := []) rfl rfl hby d10_50
  obtain ⟨nl5, ng5, nj5, rfl, K5, gn_nl5, E_nl5, F_elements_nl5, F_allowNulls_nl5, gn_ng5, V_ng5⟩ := hQ
  have ge_nl5 := Nat.le_trans K.le gn_nl5
  have ne_xa_nl5 : xa ≠ nl5 := Nat.ne_of_lt (Nat.lt_of_lt_of_le lt_xa gn_nl5)
  have ne_xf_nl5 : xf ≠ nl5 := Nat.ne_of_lt (Nat.lt_of_lt_of_le lt_xf gn_nl5)
  have ne_nb3_nl5 : nb3 ≠ nl5 := Nat.ne_of_lt (Nat.lt_of_lt_of_le lt_nb3 gn_nl5)
  have ge_ng5 := Nat.le_trans K.le gn_ng5
  have ne_xa_ng5 : xa ≠ ng5 := Nat.ne_of_lt (Nat.lt_of_lt_of_le lt_xa gn_ng5)
  have ne_xf_ng5 : xf ≠ ng5 := Nat.ne_of_lt (Nat.lt_of_lt_of_le lt_xf gn_ng5)
  have ne_nb3_ng5 : nb3 ≠ ng5 := Nat.ne_of_lt (Nat.lt_of_lt_of_le lt_nb3 gn_ng5)
  have K := K.call K5 all0
  refine oWk.st st ?_
  exact oRetA X hx hlk hret rfl rfl (hb hby d10_53) (by rw [e0]; exact ⟨nl5, ng5, nj5, rfl, K, ge_nl5, E_nl5, F_elements_nl5, F_allowNulls_nl5, ge_ng5, V_ng5⟩) (by decide) (by decide)
def Q_rCO_4 (Z : State) (xa xf xmr : Addr) (xk : ClassId) (xe0 xe1 xe2 xe3 : Addr) (h0 : Heap) (v : Option Value) (h : Heap) (L : List Loc) : Prop := ∃ (nl : Addr) (ng : Addr) (nj : ClassId), v = some (.ref nl) ∧ oKp h0 h [] L ∧ (h0.size ≤ nl) ∧ (Exa Z h nl Y6) ∧ (Fld Z h nl Y6 "elements" Y2 (.ref ng)) ∧ (Fld Z h nl Y6 "allowNulls" "Z" (.int (0 : Int32))) ∧ (h0.size ≤ ng) ∧ (Arv Z h ng nj (.object Y0) (4 : Int32) [(.ref xe0), (.ref xe1), (.ref xe2), (.ref xe3)] .null)
theorem rCO_4 (l : Launch) (Z : State) (a0 : Array Value) (hw : oHW a0 Z) (ws : List Jvm.Cond) (xa xf xmr : Addr) (xk : ClassId) (xe0 xe1 xe2 xe3 : Addr) (h0 : Heap) (O0 : Ext Z.heap h0) (mm_ : oMir Z Y2 xmr) (E_xa : Exa Z h0 xa Y1) (F_elementData_xa : Fld Z h0 xa Y1 "elementData" Y2 (.ref xf)) (F_size_xa : Fld Z h0 xa Y1 "size" "I" (.int (4 : Int32))) (E_xf : Exa Z h0 xf Y2) (V_xf : Arv Z h0 xf xk (.object Y0) (10 : Int32) [(.ref xe0), (.ref xe1), (.ref xe2), (.ref xe3), .null, .null, .null, .null, .null, .null] .null) (I_xe0 : Ins Z h0 xe0 Y0 true) (I_xe1 : Ins Z h0 xe1 Y0 true) (I_xe2 : Ins Z h0 xe2 Y0 true) (I_xe3 : Ins Z h0 xe3 Y0 true) :
    oCon l Z yy6 jdk_40_method_48_code 1 (some (.object Y3)) ws ({ frames := 8, cells := 3, slots := 10, locals := 103 } : Room) #[(.ref xa)] h0 (Q_rCO_4 Z xa xf xmr xk xe0 xe1 xe2 xe3 h0) := by
  refine oCon.of (plainFor_of_name pn_3) ?_
  intro p e s m below meth c T X hx hby hml hown hnm hret hlk hZ e0
  have hml : c.maxLocals = 1 := hml
  have K : oKp h0 h0 [] [] := oKp.nil _ _
  refine oWk.cast (g' := (mkF m 0 #[rv xa] [])) (by first | rfl | (simp [entryFrame, mkF, argsToLocals, Value.category]; done)) ?_
  refine oWk.st (fun _ kt => zA X hx hby d9_0 rfl rfl rfl kt) ?_
  have lt_xa := E_xa.lt
  have lt_xf := E_xf.lt
  have Oh := K.old O0 all0
  obtain ⟨_, T, h, Lc2, X, e0, hQ, st⟩ := (cs1 hw).run X hx hZ hown e0 (A := [(.ref xa)]) rfl (rLC_4 l Z a0 hw [] xa xf xmr xk xe0 xe1 xe2 xe3 h0 Oh mm_ E_xa F_elementData_xa F_size_xa E_xf V_xf I_xe0 I_xe1 I_xe2 I_xe3) (W := 0) (by decide) hml (Ls := #[rv xa]) rfl (rest := []) rfl rfl hby d9_1
  obtain ⟨nl1, ng1, nj1, rfl, K1, gn_nl1, E_nl1, F_elements_nl1, F_allowNulls_nl1, gn_ng1, V_ng1⟩ := hQ
  have ge_nl1 := Nat.le_trans K.le gn_nl1
  have ne_xa_nl1 : xa ≠ nl1 := Nat.ne_of_lt (Nat.lt_of_lt_of_le lt_xa gn_nl1)
  have ne_xf_nl1 : xf ≠ nl1 := Nat.ne_of_lt (Nat.lt_of_lt_of_le lt_xf gn_nl1)
  have ge_ng1 := Nat.le_trans K.le gn_ng1
  have ne_xa_ng1 : xa ≠ ng1 := Nat.ne_of_lt (Nat.lt_of_lt_of_le lt_xa gn_ng1)
  have ne_xf_ng1 : xf ≠ ng1 := Nat.ne_of_lt (Nat.lt_of_lt_of_le lt_xf gn_ng1)
  have K := K.call K1 all0
  refine oWk.st st ?_
  exact oRetA X hx hlk hret rfl rfl (hb hby d9_4) (by rw [e0]; exact ⟨nl1, ng1, nj1, rfl, K, ge_nl1, E_nl1, F_elements_nl1, F_allowNulls_nl1, ge_ng1, V_ng1⟩) (by decide) (by decide)
def Q_rNI_4_0 (Z : State) (xa xi xs : Addr) (u1 u2 u3 u4 : Value) (xg xgf : Addr) (xgk : ClassId) (xge0 xge1 xge2 xge3 xh xl xmr : Addr) (h0 : Heap) (v : Option Value) (h : Heap) (L : List Loc) : Prop := ∃ (nl : Addr) (ng : Addr) (nj : ClassId), v = none ∧ oKp h0 h [xa] L ∧ (Exa Z h xa Y4) ∧ (Fld Z h xa Y4 "ordered" Y5 (.ref nl)) ∧ (Exa Z h nl Y6) ∧ (Fld Z h nl Y6 "elements" Y2 (.ref ng)) ∧ (Arv Z h ng nj (.object Y0) (4 : Int32) [(.ref xge0), (.ref xge1), (.ref xge2), (.ref xge3)] .null)
theorem rNI_4_0 (l : Launch) (Z : State) (a0 : Array Value) (hw : oHW a0 Z) (ws : List Jvm.Cond) (xa xi xs : Addr) (u1 u2 u3 u4 : Value) (xg xgf : Addr) (xgk : ClassId) (xge0 xge1 xge2 xge3 xh xl xmr : Addr) (h0 : Heap) (O0 : Ext Z.heap h0) (S_EMPTY_LIST : Sta Z Z.heap Y12 "EMPTY_LIST" Y15 (.ref xl)) (mm_ : oMir Z Y2 xmr) (og_xa : Z.heap.size ≤ xa) (E_xa : Exa Z h0 xa Y4) (F_kind_xa : Fld Z h0 xa Y4 "kind" Y13 u1) (F_name_xa : Fld Z h0 xa Y4 "name" Y14 u2) (F_ordered_xa : Fld Z h0 xa Y4 "ordered" Y5 u3) (F_unordered_xa : Fld Z h0 xa Y4 "unordered" Y5 u4) (E_xg : Exa Z h0 xg Y1) (F_elementData_xg : Fld Z h0 xg Y1 "elementData" Y2 (.ref xgf)) (F_size_xg : Fld Z h0 xg Y1 "size" "I" (.int (4 : Int32))) (E_xgf : Exa Z h0 xgf Y2) (V_xgf : Arv Z h0 xgf xgk (.object Y0) (10 : Int32) [(.ref xge0), (.ref xge1), (.ref xge2), (.ref xge3), .null, .null, .null, .null, .null, .null] .null) (I_xge0 : Ins Z h0 xge0 Y0 true) (I_xge1 : Ins Z h0 xge1 Y0 true) (I_xge2 : Ins Z h0 xge2 Y0 true) (I_xge3 : Ins Z h0 xge3 Y0 true) (E_xh : Exa Z h0 xh Y1) (F_size_xh : Fld Z h0 xh Y1 "size" "I" (.int (0 : Int32))) :
    oConH l Z oEL yy7 prog_27_method_1_code 5 none ws ({ frames := 9, cells := 7, slots := 50, locals := 115 } : Room) #[(.ref xa), (.ref xi), (.ref xs), (.ref xg), (.ref xh)] h0 [xa] (Q_rNI_4_0 Z xa xi xs u1 u2 u3 u4 xg xgf xgk xge0 xge1 xge2 xge3 xh xl xmr h0) := by
  refine oConH.of (plainFor_of_name pn_5) ?_
  intro p e s m below meth c T vm X hx hby hml hown hnm hret hlk hZ e0 B hsf
  have hml : c.maxLocals = 5 := hml
  have K : oKp h0 h0 [xa] [] := oKp.nil _ _
  refine oWk.cast (g' := (mkF m 0 #[rv xa, rv xi, rv xs, rv xg, rv xh] [])) (by first | rfl | (simp [entryFrame, mkF, argsToLocals, Value.category]; done)) ?_
  refine oWk.st (fun _ kt => zA X hx hby d6_0 rfl rfl rfl kt) ?_
  have Oh := K.old O0 (allS og_xa all0)
  obtain ⟨T, L2, X, e0, K, st⟩ := (cs2 hw).pure X hx hZ hown e0 K (A := [(.ref xa)]) ⟨rfl, _, _, rfl⟩ (rRec l Z a0 hw [] xa h0 Oh ) (fun _ _ _ q => q) (W := 0) (by decide) hml (Ls := #[rv xa, rv xi, rv xs, rv xg, rv xh]) rfl (rest := []) rfl rfl hby d6_1
  refine oWk.st st ?_
  refine oWk.st (fun _ kt => zA X hx hby d6_4 rfl rfl rfl kt) ?_
  obtain ⟨lt3, T, h, X, e2, E3, hZ, hown, B, C, st⟩ := oLdcO X hx hZ hown (oW hw 53 rfl) (oSA hw) e0 (oELw hw) B (g := (mkF m 5 #[rv xa, rv xi, rv xs, rv xg, rv xh] [(.ref xi)])) rfl (hb hby d6_5) (n := 16) (by decide) (by decide) (by decide) (by decide)
  have e0 := e2
  refine oWk.st st ?_
  have K := K.ext E3
  have Oh := K.old O0 (allS og_xa all0)
  obtain ⟨T, L5, X, e0, K, st⟩ := (cs3 hw).pure X hx hZ hown e0 K (A := [(.ref xi), (.ref lt3)]) rfl (rRN2 l Z a0 hw [] xi lt3 h Oh ) (fun _ _ _ q => q) (W := 0) (by decide) hml (Ls := #[rv xa, rv xi, rv xs, rv xg, rv xh]) rfl (rest := []) rfl rfl hby d6_7
  refine oWk.st st ?_
  refine oWk.st (fun _ kt => XS.pop X.here hx rfl (hb hby d6_10) rfl rfl (zA X hx hby d6_11 rfl rfl rfl kt)) ?_
  obtain ⟨lt6, T, h, X, e2, E6, hZ, hown, B, C, st⟩ := oLdcO X hx hZ hown (oW hw 58 rfl) (oSA hw) e0 (oELw hw) B (g := (mkF m 12 #[rv xa, rv xi, rv xs, rv xg, rv xh] [(.ref xs)])) rfl (hb hby d6_12) (n := 16) (by decide) (by decide) (by decide) (by decide)
  have e0 := e2
  refine oWk.st st ?_
  have K := K.ext E6
  have Oh := K.old O0 (allS og_xa all0)
  obtain ⟨T, L8, X, e0, K, st⟩ := (cs3 hw).pure X hx hZ hown e0 K (A := [(.ref xs), (.ref lt6)]) rfl (rRN2 l Z a0 hw [] xs lt6 h Oh ) (fun _ _ _ q => q) (W := 0) (by decide) hml (Ls := #[rv xa, rv xi, rv xs, rv xg, rv xh]) rfl (rest := []) rfl rfl hby d6_14
  refine oWk.st st ?_
  refine oWk.st (fun _ kt => XS.pop X.here hx rfl (hb hby d6_17) rfl rfl (zA X hx hby d6_18 rfl rfl rfl kt)) ?_
  have E_xg := ((E_xg.ext E3).ext E6)
  have F_elementData_xg := ((F_elementData_xg.ext E3).ext E6)
  have F_size_xg := ((F_size_xg.ext E3).ext E6)
  have E_xgf := ((E_xgf.ext E3).ext E6)
  have V_xgf := ((V_xgf.ext E3).ext E6)
  have I_xge0 := ((I_xge0.ext E3).ext E6)
  have I_xge1 := ((I_xge1.ext E3).ext E6)
  have I_xge2 := ((I_xge2.ext E3).ext E6)
  have I_xge3 := ((I_xge3.ext E3).ext E6)
  have E_xa := ((E_xa.ext E3).ext E6)
  have lt_xa := E_xa.lt
  have lt_xg := E_xg.lt
  have lt_xgf := E_xgf.lt
  have E_xh := ((E_xh.ext E3).ext E6)
  have lt_xh := E_xh.lt
  obtain ⟨_, T, h, Lc10, X, e0, hQ, st⟩ := (cs4 hw).run X hx hZ hown e0 (A := [(.ref xg)]) rfl (rCO_4 l Z a0 hw [] xg xgf xmr xgk xge0 xge1 xge2 xge3 h Oh mm_ E_xg F_elementData_xg F_size_xg E_xgf V_xgf I_xge0 I_xge1 I_xge2 I_xge3) (W := 0) (by decide) hml (Ls := #[rv xa, rv xi, rv xs, rv xg, rv xh]) rfl (rest := []) rfl rfl hby d6_19
  obtain ⟨nl9, ng9, nj9, rfl, K9, gn_nl9, E_nl9, F_elements_nl9, F_allowNulls_nl9, gn_ng9, V_ng9⟩ := hQ
  have ge_nl9 := Nat.le_trans K.le gn_nl9
  have ne_xa_nl9 : xa ≠ nl9 := Nat.ne_of_lt (Nat.lt_of_lt_of_le lt_xa gn_nl9)
  have ne_xg_nl9 : xg ≠ nl9 := Nat.ne_of_lt (Nat.lt_of_lt_of_le lt_xg gn_nl9)
  have ne_xgf_nl9 : xgf ≠ nl9 := Nat.ne_of_lt (Nat.lt_of_lt_of_le lt_xgf gn_nl9)
  have ne_xh_nl9 : xh ≠ nl9 := Nat.ne_of_lt (Nat.lt_of_lt_of_le lt_xh gn_nl9)
  have ge_ng9 := Nat.le_trans K.le gn_ng9
  have ne_xa_ng9 : xa ≠ ng9 := Nat.ne_of_lt (Nat.lt_of_lt_of_le lt_xa gn_ng9)
  have ne_xg_ng9 : xg ≠ ng9 := Nat.ne_of_lt (Nat.lt_of_lt_of_le lt_xg gn_ng9)
  have ne_xgf_ng9 : xgf ≠ ng9 := Nat.ne_of_lt (Nat.lt_of_lt_of_le lt_xgf gn_ng9)
  have ne_xh_ng9 : xh ≠ ng9 := Nat.ne_of_lt (Nat.lt_of_lt_of_le lt_xh gn_ng9)
  have K := K.call K9 all0
  have B := B.keep K9.1 (fun _ _ => oSf)
  refine oWk.st st ?_
  refine oWk.st (fun _ kt => zTn X hx hby d6_22 rfl rfl rfl (l' := #[rv xa, rv xi, rv xs, rv nl9, rv xh]) rfl (zB X hx hby d6_23 rfl rfl rfl kt)) ?_
  have E_xh := (E_xh.keep K9.1)
  have F_size_xh := (((F_size_xh.ext E3).ext E6).keep K9.1 nin0)
  have Oh := K.old O0 (allS og_xa all0)
  obtain ⟨T, L12, X, e0, K, st⟩ := (cs4 hw).pure X hx hZ hown e0 K (A := [(.ref xh)]) rfl (rCO0 l Z a0 hw [] xh xl h Oh S_EMPTY_LIST E_xh F_size_xh) (fun _ _ _ q => q) (W := 0) (by decide) hml (Ls := #[rv xa, rv xi, rv xs, rv nl9, rv xh]) rfl (rest := []) rfl rfl hby d6_25
  refine oWk.st st ?_
  refine oWk.st (fun _ kt => zT X hx hby d6_28 rfl rfl rfl (l' := #[rv xa, rv xi, rv xs, rv nl9, rv xl]) rfl (zA X hx hby d6_30 rfl rfl rfl (zA X hx hby d6_31 rfl rfl rfl kt))) ?_
  have E_xa := (E_xa.keep K9.1)
  have F_kind_xa := (((F_kind_xa.ext E3).ext E6).keep K9.1 nin0)
  obtain ⟨T, h, X, e0, W13, st⟩ := putF X hx hZ hown (host := "") (Or.inl (oW hw 88 rfl)) Via.refl e0 F_kind_xa E_xa (Or.inr ⟨(oW hw 89 rfl), rfl, hnm⟩) (oW hw 8 rfl) (ty := (.object Y7)) (by decide) rfl rfl (g := (mkF m 32 #[rv xa, rv xi, rv xs, rv nl9, rv xl] [(.ref xi), (.ref xa)])) rfl rfl (hb hby d6_32)
  refine oWk.st st ?_
  have K := K.wr W13 (Or.inl (List.mem_of_getElem? (i := 0) rfl))
  have B := B.wr W13 oSf
  have F_kind_xa := F_kind_xa.same W13
  refine oWk.st (fun _ kt => zA X hx hby d6_35 rfl rfl rfl (zA X hx hby d6_36 rfl rfl rfl kt)) ?_
  have E_xa := (E_xa.wr W13)
  have F_name_xa := ((((F_name_xa.ext E3).ext E6).keep K9.1 nin0).other W13 (Or.inr (slot_ne (Or.inr (oW hw 91 rfl)) (Or.inr (oW hw 89 rfl)) (by decide) (t := (.object Y9)) (t' := (.object Y7)) (by decide) (by decide))))
  obtain ⟨T, h, X, e0, W14, st⟩ := putF X hx hZ hown (host := "") (Or.inl (oW hw 90 rfl)) Via.refl e0 F_name_xa E_xa (Or.inr ⟨(oW hw 91 rfl), rfl, hnm⟩) (oW hw 8 rfl) (ty := (.object Y9)) (by decide) rfl rfl (g := (mkF m 37 #[rv xa, rv xi, rv xs, rv nl9, rv xl] [(.ref xs), (.ref xa)])) rfl rfl (hb hby d6_37)
  refine oWk.st st ?_
  have K := K.wr W14 (Or.inl (List.mem_of_getElem? (i := 0) rfl))
  have B := B.wr W14 oSf
  have F_name_xa := F_name_xa.same W14
  refine oWk.st (fun _ kt => zA X hx hby d6_40 rfl rfl rfl (zA X hx hby d6_41 rfl rfl rfl kt)) ?_
  have E_xa := (E_xa.wr W14)
  have F_ordered_xa := (((((F_ordered_xa.ext E3).ext E6).keep K9.1 nin0).other W13 (Or.inr (slot_ne (Or.inr (oW hw 93 rfl)) (Or.inr (oW hw 89 rfl)) (by decide) (t := (.object Y3)) (t' := (.object Y7)) (by decide) (by decide)))).other W14 (Or.inr (slot_ne (Or.inr (oW hw 93 rfl)) (Or.inr (oW hw 91 rfl)) (by decide) (t := (.object Y3)) (t' := (.object Y9)) (by decide) (by decide))))
  obtain ⟨T, h, X, e0, W15, st⟩ := putF X hx hZ hown (host := "") (Or.inl (oW hw 92 rfl)) Via.refl e0 F_ordered_xa E_xa (Or.inr ⟨(oW hw 93 rfl), rfl, hnm⟩) (oW hw 8 rfl) (ty := (.object Y3)) (by decide) rfl rfl (g := (mkF m 42 #[rv xa, rv xi, rv xs, rv nl9, rv xl] [(.ref nl9), (.ref xa)])) rfl rfl (hb hby d6_42)
  refine oWk.st st ?_
  have K := K.wr W15 (Or.inl (List.mem_of_getElem? (i := 0) rfl))
  have B := B.wr W15 oSf
  have F_ordered_xa := F_ordered_xa.same W15
  refine oWk.st (fun _ kt => zA X hx hby d6_45 rfl rfl rfl (zB X hx hby d6_46 rfl rfl rfl kt)) ?_
  have E_xa := (E_xa.wr W15)
  have F_unordered_xa := ((((((F_unordered_xa.ext E3).ext E6).keep K9.1 nin0).other W13 (Or.inr (slot_ne (Or.inr (oW hw 95 rfl)) (Or.inr (oW hw 89 rfl)) (by decide) (t := (.object Y3)) (t' := (.object Y7)) (by decide) (by decide)))).other W14 (Or.inr (slot_ne (Or.inr (oW hw 95 rfl)) (Or.inr (oW hw 91 rfl)) (by decide) (t := (.object Y3)) (t' := (.object Y9)) (by decide) (by decide)))).other W15 (Or.inr (slot_ne (Or.inr (oW hw 95 rfl)) (Or.inr (oW hw 93 rfl)) (by decide) (t := (.object Y3)) (t' := (.object Y3)) (by decide) (by decide))))
  obtain ⟨T, h, X, e0, W16, st⟩ := putF X hx hZ hown (host := "") (Or.inl (oW hw 94 rfl)) Via.refl e0 F_unordered_xa E_xa (Or.inr ⟨(oW hw 95 rfl), rfl, hnm⟩) (oW hw 8 rfl) (ty := (.object Y3)) (by decide) rfl rfl (g := (mkF m 48 #[rv xa, rv xi, rv xs, rv nl9, rv xl] [(.ref xl), (.ref xa)])) rfl rfl (hb hby d6_48)
  refine oWk.st st ?_
  have K := K.wr W16 (Or.inl (List.mem_of_getElem? (i := 0) rfl))
  have B := B.wr W16 oSf
  have F_unordered_xa := F_unordered_xa.same W16
  have E_xa := (E_xa.wr W16)
  have F_ordered_xa := (F_ordered_xa.other W16 (Or.inr (slot_ne (Or.inr (oW hw 93 rfl)) (Or.inr (oW hw 95 rfl)) (by decide) (t := (.object Y3)) (t' := (.object Y3)) (by decide) (by decide))))
  have E_nl9 := ((((E_nl9.wr W13).wr W14).wr W15).wr W16)
  have F_elements_nl9 := ((((F_elements_nl9.other W13 (Or.inl (Ne.symm ne_xa_nl9))).other W14 (Or.inl (Ne.symm ne_xa_nl9))).other W15 (Or.inl (Ne.symm ne_xa_nl9))).other W16 (Or.inl (Ne.symm ne_xa_nl9)))
  have V_ng9 := ((((V_ng9.other W13 (Ne.symm ne_xa_ng9)).other W14 (Ne.symm ne_xa_ng9)).other W15 (Ne.symm ne_xa_ng9)).other W16 (Ne.symm ne_xa_ng9))
  exact oRetHV X hx hlk hZ (oELw hw) e0 B hret (hb hby d6_51) (by rw [e0]; exact ⟨nl9, ng9, nj9, rfl, K, E_xa, F_ordered_xa, E_nl9, F_elements_nl9, V_ng9⟩) (by decide) (by decide)
def Q_rGN_4_0 (Z : State) (xa xf : Addr) (xk : ClassId) (xe0 xe1 xe2 xe3 : Addr) (h0 : Heap) (v : Option Value) (h : Heap) (L : List Loc) : Prop := v = some (.ref xe0) ∧ h = h0 ∧ oKp h0 h [] L
theorem rGN_4_0 (l : Launch) (Z : State) (a0 : Array Value) (hw : oHW a0 Z) (ws : List Jvm.Cond) (xa xf : Addr) (xk : ClassId) (xe0 xe1 xe2 xe3 : Addr) (h0 : Heap) (O0 : Ext Z.heap h0) (F_elements_xa : Fld Z h0 xa Y6 "elements" Y2 (.ref xf)) (V_xf : Arv Z h0 xf xk (.object Y0) (4 : Int32) [(.ref xe0), (.ref xe1), (.ref xe2), (.ref xe3)] .null) :
    oCon l Z yy33 jdk_45_method_4_code 2 (some (.object Y0)) ws ({ frames := 0, cells := 0, slots := 0, locals := 0 } : Room) #[(.ref xa), (.int (0 : Int32))] h0 (Q_rGN_4_0 Z xa xf xk xe0 xe1 xe2 xe3 h0) := by
  refine oCon.of (plainFor_of_name pn_13) ?_
  intro p e s m below meth c T X hx hby hml hown hnm hret hlk hZ e0
  have hml : c.maxLocals = 2 := hml
  have K : oKp h0 h0 [] [] := oKp.nil _ _
  refine oWk.cast (g' := (mkF m 0 #[rv xa, iv 0] [])) (by first | rfl | (simp [entryFrame, mkF, argsToLocals, Value.category]; done)) ?_
  refine oWk.st (fun _ kt => zA X hx hby d32_0 rfl rfl rfl kt) ?_
  obtain ⟨T, X, e0, st⟩ := getF X hx hZ hown (host := "") (Or.inl (oW hw 226 rfl)) Via.refl e0 F_elements_xa (g := (mkF m 1 #[rv xa, iv 0] [(.ref xa)])) rfl rfl (hb hby d32_1)
  refine oWk.st st ?_
  refine oWk.st (fun _ kt => zI X hx hby d32_4 rfl rfl kt) ?_
  obtain ⟨cl1, Ar1, q1, Sz1, Nn1, Hs1, Ft1⟩ := id V_xf
  have hin1 : ¬ ((0 : Int32) < 0 ∨ cl1.slots.size ≤ ((0 : Int32)).toNatClampNeg) := inb_of Sz1 ⟨by decide, by decide⟩
  have hat1 : cl1.slots[((0 : Int32)).toNatClampNeg]? = some (.ref xe0) := Hs1.at hin1 rfl
  refine oWk.st (fun _ kt => X.aaload hx (j := (0 : Int32)) (v := (.ref xe0)) (by rw [e0]; exact Ar1.1) (State.isArrayOf_alike hZ.alike Ar1.2.1) rfl Ar1.2.2 hin1 hat1 (g := (mkF m 5 #[rv xa, iv 0] [(.int 0), (.ref xf)])) rfl rfl (hb hby d32_5) _ kt) ?_
  exact oRetA X hx hlk hret rfl rfl (hb hby d32_6) (by rw [e0]; exact ⟨rfl, rfl, K⟩) (by decide) (by decide)
def Q_rNd_4_0 (Z : State) (xa xb xge0 xge1 xge2 xge3 ng : Addr) (nj : ClassId) (h0 : Heap) (v : Option Value) (h : Heap) (L : List Loc) : Prop := v = some (.ref xge0) ∧ h = h0 ∧ oKp h0 h [] L
theorem rNd_4_0 (l : Launch) (Z : State) (a0 : Array Value) (hw : oHW a0 Z) (ws : List Jvm.Cond) (xa xb xge0 xge1 xge2 xge3 ng : Addr) (nj : ClassId) (h0 : Heap) (O0 : Ext Z.heap h0) (F_ordered_xa : Fld Z h0 xa Y4 "ordered" Y5 (.ref xb)) (E_xb : Exa Z h0 xb Y6) (F_elements_xb : Fld Z h0 xb Y6 "elements" Y2 (.ref ng)) (V_ng : Arv Z h0 ng nj (.object Y0) (4 : Int32) [(.ref xge0), (.ref xge1), (.ref xge2), (.ref xge3)] .null) (E_xge0 : Exa Z h0 xge0 Y4) :
    oCon l Z yy28 prog_27_method_4_code 2 (some (.object Y4)) ws ({ frames := 1, cells := 0, slots := 0, locals := 13 } : Room) #[(.ref xa), (.int (0 : Int32))] h0 (Q_rNd_4_0 Z xa xb xge0 xge1 xge2 xge3 ng nj h0) := by
  refine oCon.of (plainFor_of_name pn_5) ?_
  intro p e s m below meth c T X hx hby hml hown hnm hret hlk hZ e0
  have hml : c.maxLocals = 2 := hml
  have K : oKp h0 h0 [] [] := oKp.nil _ _
  refine oWk.cast (g' := (mkF m 0 #[rv xa, iv 0] [])) (by first | rfl | (simp [entryFrame, mkF, argsToLocals, Value.category]; done)) ?_
  refine oWk.st (fun _ kt => zA X hx hby d28_0 rfl rfl rfl kt) ?_
  obtain ⟨T, X, e0, st⟩ := getF X hx hZ hown (host := "") (Or.inl (oW hw 92 rfl)) Via.refl e0 F_ordered_xa (g := (mkF m 1 #[rv xa, iv 0] [(.ref xa)])) rfl rfl (hb hby d28_1)
  refine oWk.st st ?_
  refine oWk.st (fun _ kt => zI X hx hby d28_4 rfl rfl kt) ?_
  have Oh := K.old O0 all0
  obtain ⟨cq2, kq2, q2a, q2b, q2c⟩ := isOf hZ e0 E_xb
  obtain ⟨_, _, ⟨T, L2, k2, n2⟩, -, X, ⟨Lc2, hQ, l2, y2, z2⟩, st⟩ := X.interfaceBack hx (xi := yy29) (y := yy33) hown (mvT hZ (oW hw 200 rfl)) (mvT hZ (oW hw 201 rfl)) (mvT hZ (oW hw 202 rfl)) (mvT hZ (oW hw 230 rfl)) (mvT hZ (oW hw 231 rfl)) (mvT hZ (oW hw 232 rfl)) (mvT hZ (oW hw 233 rfl)) (mvT hZ (oW hw 234 rfl)) (by decide) (backOf (W := 0) (rGN_4_0 l Z a0 hw [] xb ng nj xge0 xge1 xge2 xge3 h0 Oh F_elements_xb V_ng) hZ (oW hw 235 rfl) (oW hw 217 rfl) (by decide) (by decide)) q2a q2b q2c (g := (mkF m 5 #[rv xa, iv 0] [(.int 0), (.ref xb)])) rfl (by rw [hml]; rfl) (Steps.refl _) (argsL := [(.int (0 : Int32))]) (rest := []) (lenOf pd_17 rfl) rfl (Nat.le_of_eq rfl) (hb hby d28_5) (fun _ _ => ⟨rfl, e0, (by decide : 0 + 0 ≤ _), (by decide : 0 + 0 ≤ _)⟩)
  dsimp only [Pt.U, Pt.locs, Pt.cells, Pt.slots] at X l2 y2 z2 st hQ
  subst l2 y2 z2
  obtain ⟨rfl, e0, K1⟩ := hQ
  have K := K.call K1 all0
  rw [e0] at K
  refine oWk.tr st ?_
  obtain ⟨T, X, e0, st⟩ := castY X hx hZ hown (oW hw 209 rfl) e0 (Ins.self E_xge0) (g := (mkF m 10 #[rv xa, iv 0] [(.ref xge0)])) rfl rfl (hb hby d28_10)
  refine oWk.st st ?_
  exact oRetA X hx hlk hret rfl rfl (hb hby d28_13) (by rw [e0]; exact ⟨rfl, rfl, K⟩) (by decide) (by decide)
def Q_rGN_4_1 (Z : State) (xa xf : Addr) (xk : ClassId) (xe0 xe1 xe2 xe3 : Addr) (h0 : Heap) (v : Option Value) (h : Heap) (L : List Loc) : Prop := v = some (.ref xe1) ∧ h = h0 ∧ oKp h0 h [] L
theorem rGN_4_1 (l : Launch) (Z : State) (a0 : Array Value) (hw : oHW a0 Z) (ws : List Jvm.Cond) (xa xf : Addr) (xk : ClassId) (xe0 xe1 xe2 xe3 : Addr) (h0 : Heap) (O0 : Ext Z.heap h0) (F_elements_xa : Fld Z h0 xa Y6 "elements" Y2 (.ref xf)) (V_xf : Arv Z h0 xf xk (.object Y0) (4 : Int32) [(.ref xe0), (.ref xe1), (.ref xe2), (.ref xe3)] .null) :
    oCon l Z yy33 jdk_45_method_4_code 2 (some (.object Y0)) ws ({ frames := 0, cells := 0, slots := 0, locals := 0 } : Room) #[(.ref xa), (.int (1 : Int32))] h0 (Q_rGN_4_1 Z xa xf xk xe0 xe1 xe2 xe3 h0) := by
  refine oCon.of (plainFor_of_name pn_13) ?_
  intro p e s m below meth c T X hx hby hml hown hnm hret hlk hZ e0
  have hml : c.maxLocals = 2 := hml
  have K : oKp h0 h0 [] [] := oKp.nil _ _
  refine oWk.cast (g' := (mkF m 0 #[rv xa, iv 1] [])) (by first | rfl | (simp [entryFrame, mkF, argsToLocals, Value.category]; done)) ?_
  refine oWk.st (fun _ kt => zA X hx hby d32_0 rfl rfl rfl kt) ?_
  obtain ⟨T, X, e0, st⟩ := getF X hx hZ hown (host := "") (Or.inl (oW hw 226 rfl)) Via.refl e0 F_elements_xa (g := (mkF m 1 #[rv xa, iv 1] [(.ref xa)])) rfl rfl (hb hby d32_1)
  refine oWk.st st ?_
  refine oWk.st (fun _ kt => zI X hx hby d32_4 rfl rfl kt) ?_
  obtain ⟨cl1, Ar1, q1, Sz1, Nn1, Hs1, Ft1⟩ := id V_xf
  have hin1 : ¬ ((1 : Int32) < 0 ∨ cl1.slots.size ≤ ((1 : Int32)).toNatClampNeg) := inb_of Sz1 ⟨by decide, by decide⟩
  have hat1 : cl1.slots[((1 : Int32)).toNatClampNeg]? = some (.ref xe1) := Hs1.at hin1 rfl
  refine oWk.st (fun _ kt => X.aaload hx (j := (1 : Int32)) (v := (.ref xe1)) (by rw [e0]; exact Ar1.1) (State.isArrayOf_alike hZ.alike Ar1.2.1) rfl Ar1.2.2 hin1 hat1 (g := (mkF m 5 #[rv xa, iv 1] [(.int 1), (.ref xf)])) rfl rfl (hb hby d32_5) _ kt) ?_
  exact oRetA X hx hlk hret rfl rfl (hb hby d32_6) (by rw [e0]; exact ⟨rfl, rfl, K⟩) (by decide) (by decide)
def Q_rNd_4_1 (Z : State) (xa xb xge0 xge1 xge2 xge3 ng : Addr) (nj : ClassId) (h0 : Heap) (v : Option Value) (h : Heap) (L : List Loc) : Prop := v = some (.ref xge1) ∧ h = h0 ∧ oKp h0 h [] L
theorem rNd_4_1 (l : Launch) (Z : State) (a0 : Array Value) (hw : oHW a0 Z) (ws : List Jvm.Cond) (xa xb xge0 xge1 xge2 xge3 ng : Addr) (nj : ClassId) (h0 : Heap) (O0 : Ext Z.heap h0) (F_ordered_xa : Fld Z h0 xa Y4 "ordered" Y5 (.ref xb)) (E_xb : Exa Z h0 xb Y6) (F_elements_xb : Fld Z h0 xb Y6 "elements" Y2 (.ref ng)) (V_ng : Arv Z h0 ng nj (.object Y0) (4 : Int32) [(.ref xge0), (.ref xge1), (.ref xge2), (.ref xge3)] .null) (E_xge1 : Exa Z h0 xge1 Y4) :
    oCon l Z yy28 prog_27_method_4_code 2 (some (.object Y4)) ws ({ frames := 1, cells := 0, slots := 0, locals := 13 } : Room) #[(.ref xa), (.int (1 : Int32))] h0 (Q_rNd_4_1 Z xa xb xge0 xge1 xge2 xge3 ng nj h0) := by
  refine oCon.of (plainFor_of_name pn_5) ?_
  intro p e s m below meth c T X hx hby hml hown hnm hret hlk hZ e0
  have hml : c.maxLocals = 2 := hml
  have K : oKp h0 h0 [] [] := oKp.nil _ _
  refine oWk.cast (g' := (mkF m 0 #[rv xa, iv 1] [])) (by first | rfl | (simp [entryFrame, mkF, argsToLocals, Value.category]; done)) ?_
  refine oWk.st (fun _ kt => zA X hx hby d28_0 rfl rfl rfl kt) ?_
  obtain ⟨T, X, e0, st⟩ := getF X hx hZ hown (host := "") (Or.inl (oW hw 92 rfl)) Via.refl e0 F_ordered_xa (g := (mkF m 1 #[rv xa, iv 1] [(.ref xa)])) rfl rfl (hb hby d28_1)
  refine oWk.st st ?_
  refine oWk.st (fun _ kt => zI X hx hby d28_4 rfl rfl kt) ?_
  have Oh := K.old O0 all0
  obtain ⟨cq2, kq2, q2a, q2b, q2c⟩ := isOf hZ e0 E_xb
  obtain ⟨_, _, ⟨T, L2, k2, n2⟩, -, X, ⟨Lc2, hQ, l2, y2, z2⟩, st⟩ := X.interfaceBack hx (xi := yy29) (y := yy33) hown (mvT hZ (oW hw 200 rfl)) (mvT hZ (oW hw 201 rfl)) (mvT hZ (oW hw 202 rfl)) (mvT hZ (oW hw 230 rfl)) (mvT hZ (oW hw 231 rfl)) (mvT hZ (oW hw 232 rfl)) (mvT hZ (oW hw 233 rfl)) (mvT hZ (oW hw 234 rfl)) (by decide) (backOf (W := 0) (rGN_4_1 l Z a0 hw [] xb ng nj xge0 xge1 xge2 xge3 h0 Oh F_elements_xb V_ng) hZ (oW hw 235 rfl) (oW hw 217 rfl) (by decide) (by decide)) q2a q2b q2c (g := (mkF m 5 #[rv xa, iv 1] [(.int 1), (.ref xb)])) rfl (by rw [hml]; rfl) (Steps.refl _) (argsL := [(.int (1 : Int32))]) (rest := []) (lenOf pd_17 rfl) rfl (Nat.le_of_eq rfl) (hb hby d28_5) (fun _ _ => ⟨rfl, e0, (by decide : 0 + 0 ≤ _), (by decide : 0 + 0 ≤ _)⟩)
  dsimp only [Pt.U, Pt.locs, Pt.cells, Pt.slots] at X l2 y2 z2 st hQ
  subst l2 y2 z2
  obtain ⟨rfl, e0, K1⟩ := hQ
  have K := K.call K1 all0
  rw [e0] at K
  refine oWk.tr st ?_
  obtain ⟨T, X, e0, st⟩ := castY X hx hZ hown (oW hw 209 rfl) e0 (Ins.self E_xge1) (g := (mkF m 10 #[rv xa, iv 1] [(.ref xge1)])) rfl rfl (hb hby d28_10)
  refine oWk.st st ?_
  exact oRetA X hx hlk hret rfl rfl (hb hby d28_13) (by rw [e0]; exact ⟨rfl, rfl, K⟩) (by decide) (by decide)
def Q_rGN_4_2 (Z : State) (xa xf : Addr) (xk : ClassId) (xe0 xe1 xe2 xe3 : Addr) (h0 : Heap) (v : Option Value) (h : Heap) (L : List Loc) : Prop := v = some (.ref xe2) ∧ h = h0 ∧ oKp h0 h [] L
theorem rGN_4_2 (l : Launch) (Z : State) (a0 : Array Value) (hw : oHW a0 Z) (ws : List Jvm.Cond) (xa xf : Addr) (xk : ClassId) (xe0 xe1 xe2 xe3 : Addr) (h0 : Heap) (O0 : Ext Z.heap h0) (F_elements_xa : Fld Z h0 xa Y6 "elements" Y2 (.ref xf)) (V_xf : Arv Z h0 xf xk (.object Y0) (4 : Int32) [(.ref xe0), (.ref xe1), (.ref xe2), (.ref xe3)] .null) :
    oCon l Z yy33 jdk_45_method_4_code 2 (some (.object Y0)) ws ({ frames := 0, cells := 0, slots := 0, locals := 0 } : Room) #[(.ref xa), (.int (2 : Int32))] h0 (Q_rGN_4_2 Z xa xf xk xe0 xe1 xe2 xe3 h0) := by
  refine oCon.of (plainFor_of_name pn_13) ?_
  intro p e s m below meth c T X hx hby hml hown hnm hret hlk hZ e0
  have hml : c.maxLocals = 2 := hml
  have K : oKp h0 h0 [] [] := oKp.nil _ _
  refine oWk.cast (g' := (mkF m 0 #[rv xa, iv 2] [])) (by first | rfl | (simp [entryFrame, mkF, argsToLocals, Value.category]; done)) ?_
  refine oWk.st (fun _ kt => zA X hx hby d32_0 rfl rfl rfl kt) ?_
  obtain ⟨T, X, e0, st⟩ := getF X hx hZ hown (host := "") (Or.inl (oW hw 226 rfl)) Via.refl e0 F_elements_xa (g := (mkF m 1 #[rv xa, iv 2] [(.ref xa)])) rfl rfl (hb hby d32_1)
  refine oWk.st st ?_
  refine oWk.st (fun _ kt => zI X hx hby d32_4 rfl rfl kt) ?_
  obtain ⟨cl1, Ar1, q1, Sz1, Nn1, Hs1, Ft1⟩ := id V_xf
  have hin1 : ¬ ((2 : Int32) < 0 ∨ cl1.slots.size ≤ ((2 : Int32)).toNatClampNeg) := inb_of Sz1 ⟨by decide, by decide⟩
  have hat1 : cl1.slots[((2 : Int32)).toNatClampNeg]? = some (.ref xe2) := Hs1.at hin1 rfl
  refine oWk.st (fun _ kt => X.aaload hx (j := (2 : Int32)) (v := (.ref xe2)) (by rw [e0]; exact Ar1.1) (State.isArrayOf_alike hZ.alike Ar1.2.1) rfl Ar1.2.2 hin1 hat1 (g := (mkF m 5 #[rv xa, iv 2] [(.int 2), (.ref xf)])) rfl rfl (hb hby d32_5) _ kt) ?_
  exact oRetA X hx hlk hret rfl rfl (hb hby d32_6) (by rw [e0]; exact ⟨rfl, rfl, K⟩) (by decide) (by decide)
def Q_rNd_4_2 (Z : State) (xa xb xge0 xge1 xge2 xge3 ng : Addr) (nj : ClassId) (h0 : Heap) (v : Option Value) (h : Heap) (L : List Loc) : Prop := v = some (.ref xge2) ∧ h = h0 ∧ oKp h0 h [] L
theorem rNd_4_2 (l : Launch) (Z : State) (a0 : Array Value) (hw : oHW a0 Z) (ws : List Jvm.Cond) (xa xb xge0 xge1 xge2 xge3 ng : Addr) (nj : ClassId) (h0 : Heap) (O0 : Ext Z.heap h0) (F_ordered_xa : Fld Z h0 xa Y4 "ordered" Y5 (.ref xb)) (E_xb : Exa Z h0 xb Y6) (F_elements_xb : Fld Z h0 xb Y6 "elements" Y2 (.ref ng)) (V_ng : Arv Z h0 ng nj (.object Y0) (4 : Int32) [(.ref xge0), (.ref xge1), (.ref xge2), (.ref xge3)] .null) (E_xge2 : Exa Z h0 xge2 Y4) :
    oCon l Z yy28 prog_27_method_4_code 2 (some (.object Y4)) ws ({ frames := 1, cells := 0, slots := 0, locals := 13 } : Room) #[(.ref xa), (.int (2 : Int32))] h0 (Q_rNd_4_2 Z xa xb xge0 xge1 xge2 xge3 ng nj h0) := by
  refine oCon.of (plainFor_of_name pn_5) ?_
  intro p e s m below meth c T X hx hby hml hown hnm hret hlk hZ e0
  have hml : c.maxLocals = 2 := hml
  have K : oKp h0 h0 [] [] := oKp.nil _ _
  refine oWk.cast (g' := (mkF m 0 #[rv xa, iv 2] [])) (by first | rfl | (simp [entryFrame, mkF, argsToLocals, Value.category]; done)) ?_
  refine oWk.st (fun _ kt => zA X hx hby d28_0 rfl rfl rfl kt) ?_
  obtain ⟨T, X, e0, st⟩ := getF X hx hZ hown (host := "") (Or.inl (oW hw 92 rfl)) Via.refl e0 F_ordered_xa (g := (mkF m 1 #[rv xa, iv 2] [(.ref xa)])) rfl rfl (hb hby d28_1)
  refine oWk.st st ?_
  refine oWk.st (fun _ kt => zI X hx hby d28_4 rfl rfl kt) ?_
  have Oh := K.old O0 all0
  obtain ⟨cq2, kq2, q2a, q2b, q2c⟩ := isOf hZ e0 E_xb
  obtain ⟨_, _, ⟨T, L2, k2, n2⟩, -, X, ⟨Lc2, hQ, l2, y2, z2⟩, st⟩ := X.interfaceBack hx (xi := yy29) (y := yy33) hown (mvT hZ (oW hw 200 rfl)) (mvT hZ (oW hw 201 rfl)) (mvT hZ (oW hw 202 rfl)) (mvT hZ (oW hw 230 rfl)) (mvT hZ (oW hw 231 rfl)) (mvT hZ (oW hw 232 rfl)) (mvT hZ (oW hw 233 rfl)) (mvT hZ (oW hw 234 rfl)) (by decide) (backOf (W := 0) (rGN_4_2 l Z a0 hw [] xb ng nj xge0 xge1 xge2 xge3 h0 Oh F_elements_xb V_ng) hZ (oW hw 235 rfl) (oW hw 217 rfl) (by decide) (by decide)) q2a q2b q2c (g := (mkF m 5 #[rv xa, iv 2] [(.int 2), (.ref xb)])) rfl (by rw [hml]; rfl) (Steps.refl _) (argsL := [(.int (2 : Int32))]) (rest := []) (lenOf pd_17 rfl) rfl (Nat.le_of_eq rfl) (hb hby d28_5) (fun _ _ => ⟨rfl, e0, (by decide : 0 + 0 ≤ _), (by decide : 0 + 0 ≤ _)⟩)
  dsimp only [Pt.U, Pt.locs, Pt.cells, Pt.slots] at X l2 y2 z2 st hQ
  subst l2 y2 z2
  obtain ⟨rfl, e0, K1⟩ := hQ
  have K := K.call K1 all0
  rw [e0] at K
  refine oWk.tr st ?_
  obtain ⟨T, X, e0, st⟩ := castY X hx hZ hown (oW hw 209 rfl) e0 (Ins.self E_xge2) (g := (mkF m 10 #[rv xa, iv 2] [(.ref xge2)])) rfl rfl (hb hby d28_10)
  refine oWk.st st ?_
  exact oRetA X hx hlk hret rfl rfl (hb hby d28_13) (by rw [e0]; exact ⟨rfl, rfl, K⟩) (by decide) (by decide)
def Q_rGN_4_3 (Z : State) (xa xf : Addr) (xk : ClassId) (xe0 xe1 xe2 xe3 : Addr) (h0 : Heap) (v : Option Value) (h : Heap) (L : List Loc) : Prop := v = some (.ref xe3) ∧ h = h0 ∧ oKp h0 h [] L
theorem rGN_4_3 (l : Launch) (Z : State) (a0 : Array Value) (hw : oHW a0 Z) (ws : List Jvm.Cond) (xa xf : Addr) (xk : ClassId) (xe0 xe1 xe2 xe3 : Addr) (h0 : Heap) (O0 : Ext Z.heap h0) (F_elements_xa : Fld Z h0 xa Y6 "elements" Y2 (.ref xf)) (V_xf : Arv Z h0 xf xk (.object Y0) (4 : Int32) [(.ref xe0), (.ref xe1), (.ref xe2), (.ref xe3)] .null) :
    oCon l Z yy33 jdk_45_method_4_code 2 (some (.object Y0)) ws ({ frames := 0, cells := 0, slots := 0, locals := 0 } : Room) #[(.ref xa), (.int (3 : Int32))] h0 (Q_rGN_4_3 Z xa xf xk xe0 xe1 xe2 xe3 h0) := by
  refine oCon.of (plainFor_of_name pn_13) ?_
  intro p e s m below meth c T X hx hby hml hown hnm hret hlk hZ e0
  have hml : c.maxLocals = 2 := hml
  have K : oKp h0 h0 [] [] := oKp.nil _ _
  refine oWk.cast (g' := (mkF m 0 #[rv xa, iv 3] [])) (by first | rfl | (simp [entryFrame, mkF, argsToLocals, Value.category]; done)) ?_
  refine oWk.st (fun _ kt => zA X hx hby d32_0 rfl rfl rfl kt) ?_
  obtain ⟨T, X, e0, st⟩ := getF X hx hZ hown (host := "") (Or.inl (oW hw 226 rfl)) Via.refl e0 F_elements_xa (g := (mkF m 1 #[rv xa, iv 3] [(.ref xa)])) rfl rfl (hb hby d32_1)
  refine oWk.st st ?_
  refine oWk.st (fun _ kt => zI X hx hby d32_4 rfl rfl kt) ?_
  obtain ⟨cl1, Ar1, q1, Sz1, Nn1, Hs1, Ft1⟩ := id V_xf
  have hin1 : ¬ ((3 : Int32) < 0 ∨ cl1.slots.size ≤ ((3 : Int32)).toNatClampNeg) := inb_of Sz1 ⟨by decide, by decide⟩
  have hat1 : cl1.slots[((3 : Int32)).toNatClampNeg]? = some (.ref xe3) := Hs1.at hin1 rfl
  refine oWk.st (fun _ kt => X.aaload hx (j := (3 : Int32)) (v := (.ref xe3)) (by rw [e0]; exact Ar1.1) (State.isArrayOf_alike hZ.alike Ar1.2.1) rfl Ar1.2.2 hin1 hat1 (g := (mkF m 5 #[rv xa, iv 3] [(.int 3), (.ref xf)])) rfl rfl (hb hby d32_5) _ kt) ?_
  exact oRetA X hx hlk hret rfl rfl (hb hby d32_6) (by rw [e0]; exact ⟨rfl, rfl, K⟩) (by decide) (by decide)
def Q_rNd_4_3 (Z : State) (xa xb xge0 xge1 xge2 xge3 ng : Addr) (nj : ClassId) (h0 : Heap) (v : Option Value) (h : Heap) (L : List Loc) : Prop := v = some (.ref xge3) ∧ h = h0 ∧ oKp h0 h [] L
theorem rNd_4_3 (l : Launch) (Z : State) (a0 : Array Value) (hw : oHW a0 Z) (ws : List Jvm.Cond) (xa xb xge0 xge1 xge2 xge3 ng : Addr) (nj : ClassId) (h0 : Heap) (O0 : Ext Z.heap h0) (F_ordered_xa : Fld Z h0 xa Y4 "ordered" Y5 (.ref xb)) (E_xb : Exa Z h0 xb Y6) (F_elements_xb : Fld Z h0 xb Y6 "elements" Y2 (.ref ng)) (V_ng : Arv Z h0 ng nj (.object Y0) (4 : Int32) [(.ref xge0), (.ref xge1), (.ref xge2), (.ref xge3)] .null) (E_xge3 : Exa Z h0 xge3 Y4) :
    oCon l Z yy28 prog_27_method_4_code 2 (some (.object Y4)) ws ({ frames := 1, cells := 0, slots := 0, locals := 13 } : Room) #[(.ref xa), (.int (3 : Int32))] h0 (Q_rNd_4_3 Z xa xb xge0 xge1 xge2 xge3 ng nj h0) := by
  refine oCon.of (plainFor_of_name pn_5) ?_
  intro p e s m below meth c T X hx hby hml hown hnm hret hlk hZ e0
  have hml : c.maxLocals = 2 := hml
  have K : oKp h0 h0 [] [] := oKp.nil _ _
  refine oWk.cast (g' := (mkF m 0 #[rv xa, iv 3] [])) (by first | rfl | (simp [entryFrame, mkF, argsToLocals, Value.category]; done)) ?_
  refine oWk.st (fun _ kt => zA X hx hby d28_0 rfl rfl rfl kt) ?_
  obtain ⟨T, X, e0, st⟩ := getF X hx hZ hown (host := "") (Or.inl (oW hw 92 rfl)) Via.refl e0 F_ordered_xa (g := (mkF m 1 #[rv xa, iv 3] [(.ref xa)])) rfl rfl (hb hby d28_1)
  refine oWk.st st ?_
  refine oWk.st (fun _ kt => zI X hx hby d28_4 rfl rfl kt) ?_
  have Oh := K.old O0 all0
  obtain ⟨cq2, kq2, q2a, q2b, q2c⟩ := isOf hZ e0 E_xb
  obtain ⟨_, _, ⟨T, L2, k2, n2⟩, -, X, ⟨Lc2, hQ, l2, y2, z2⟩, st⟩ := X.interfaceBack hx (xi := yy29) (y := yy33) hown (mvT hZ (oW hw 200 rfl)) (mvT hZ (oW hw 201 rfl)) (mvT hZ (oW hw 202 rfl)) (mvT hZ (oW hw 230 rfl)) (mvT hZ (oW hw 231 rfl)) (mvT hZ (oW hw 232 rfl)) (mvT hZ (oW hw 233 rfl)) (mvT hZ (oW hw 234 rfl)) (by decide) (backOf (W := 0) (rGN_4_3 l Z a0 hw [] xb ng nj xge0 xge1 xge2 xge3 h0 Oh F_elements_xb V_ng) hZ (oW hw 235 rfl) (oW hw 217 rfl) (by decide) (by decide)) q2a q2b q2c (g := (mkF m 5 #[rv xa, iv 3] [(.int 3), (.ref xb)])) rfl (by rw [hml]; rfl) (Steps.refl _) (argsL := [(.int (3 : Int32))]) (rest := []) (lenOf pd_17 rfl) rfl (Nat.le_of_eq rfl) (hb hby d28_5) (fun _ _ => ⟨rfl, e0, (by decide : 0 + 0 ≤ _), (by decide : 0 + 0 ≤ _)⟩)
  dsimp only [Pt.U, Pt.locs, Pt.cells, Pt.slots] at X l2 y2 z2 st hQ
  subst l2 y2 z2
  obtain ⟨rfl, e0, K1⟩ := hQ
  have K := K.call K1 all0
  rw [e0] at K
  refine oWk.tr st ?_
  obtain ⟨T, X, e0, st⟩ := castY X hx hZ hown (oW hw 209 rfl) e0 (Ins.self E_xge3) (g := (mkF m 10 #[rv xa, iv 3] [(.ref xge3)])) rfl rfl (hb hby d28_10)
  refine oWk.st st ?_
  exact oRetA X hx hlk hret rfl rfl (hb hby d28_13) (by rw [e0]; exact ⟨rfl, rfl, K⟩) (by decide) (by decide)
def Q_rNI_4_1 (Z : State) (xa xi xs : Addr) (u1 u2 u3 u4 : Value) (xg xgf : Addr) (xgk : ClassId) (xge0 xge1 xge2 xge3 xh xhf : Addr) (xhk : ClassId) (xhe0 xq xmr : Addr) (h0 : Heap) (v : Option Value) (h : Heap) (L : List Loc) : Prop := ∃ (nl : Addr) (ng : Addr) (nj : ClassId), v = none ∧ oKp h0 h [xa] L ∧ (Exa Z h xa Y4) ∧ (Fld Z h xa Y4 "ordered" Y5 (.ref nl)) ∧ (Exa Z h nl Y6) ∧ (Fld Z h nl Y6 "elements" Y2 (.ref ng)) ∧ (Arv Z h ng nj (.object Y0) (4 : Int32) [(.ref xge0), (.ref xge1), (.ref xge2), (.ref xge3)] .null)
theorem rNI_4_1 (l : Launch) (Z : State) (a0 : Array Value) (hw : oHW a0 Z) (ws : List Jvm.Cond) (xa xi xs : Addr) (u1 u2 u3 u4 : Value) (xg xgf : Addr) (xgk : ClassId) (xge0 xge1 xge2 xge3 xh xhf : Addr) (xhk : ClassId) (xhe0 xq xmr : Addr) (h0 : Heap) (O0 : Ext Z.heap h0) (S_EMPTY : Sta Z Z.heap Y12 "EMPTY" Y10 (.ref xq)) (mm_ : oMir Z Y2 xmr) (og_xa : Z.heap.size ≤ xa) (E_xa : Exa Z h0 xa Y4) (F_kind_xa : Fld Z h0 xa Y4 "kind" Y13 u1) (F_name_xa : Fld Z h0 xa Y4 "name" Y14 u2) (F_ordered_xa : Fld Z h0 xa Y4 "ordered" Y5 u3) (F_unordered_xa : Fld Z h0 xa Y4 "unordered" Y5 u4) (E_xg : Exa Z h0 xg Y1) (F_elementData_xg : Fld Z h0 xg Y1 "elementData" Y2 (.ref xgf)) (F_size_xg : Fld Z h0 xg Y1 "size" "I" (.int (4 : Int32))) (E_xgf : Exa Z h0 xgf Y2) (V_xgf : Arv Z h0 xgf xgk (.object Y0) (10 : Int32) [(.ref xge0), (.ref xge1), (.ref xge2), (.ref xge3), .null, .null, .null, .null, .null, .null] .null) (I_xge0 : Ins Z h0 xge0 Y0 true) (I_xge1 : Ins Z h0 xge1 Y0 true) (I_xge2 : Ins Z h0 xge2 Y0 true) (I_xge3 : Ins Z h0 xge3 Y0 true) (E_xh : Exa Z h0 xh Y1) (F_elementData_xh : Fld Z h0 xh Y1 "elementData" Y2 (.ref xhf)) (F_size_xh : Fld Z h0 xh Y1 "size" "I" (.int (1 : Int32))) (E_xhf : Exa Z h0 xhf Y2) (V_xhf : Arv Z h0 xhf xhk (.object Y0) (10 : Int32) [(.ref xhe0), .null, .null, .null, .null, .null, .null, .null, .null, .null] .null) (I_xhe0 : Ins Z h0 xhe0 Y0 true) :
    oConH l Z oEL yy7 prog_27_method_1_code 5 none ws ({ frames := 9, cells := 9, slots := 53, locals := 115 } : Room) #[(.ref xa), (.ref xi), (.ref xs), (.ref xg), (.ref xh)] h0 [xa] (Q_rNI_4_1 Z xa xi xs u1 u2 u3 u4 xg xgf xgk xge0 xge1 xge2 xge3 xh xhf xhk xhe0 xq xmr h0) := by
  refine oConH.of (plainFor_of_name pn_5) ?_
  intro p e s m below meth c T vm X hx hby hml hown hnm hret hlk hZ e0 B hsf
  have hml : c.maxLocals = 5 := hml
  have K : oKp h0 h0 [xa] [] := oKp.nil _ _
  refine oWk.cast (g' := (mkF m 0 #[rv xa, rv xi, rv xs, rv xg, rv xh] [])) (by first | rfl | (simp [entryFrame, mkF, argsToLocals, Value.category]; done)) ?_
  refine oWk.st (fun _ kt => zA X hx hby d6_0 rfl rfl rfl kt) ?_
  have Oh := K.old O0 (allS og_xa all0)
  obtain ⟨T, L2, X, e0, K, st⟩ := (cs2 hw).pure X hx hZ hown e0 K (A := [(.ref xa)]) ⟨rfl, _, _, rfl⟩ (rRec l Z a0 hw [] xa h0 Oh ) (fun _ _ _ q => q) (W := 0) (by decide) hml (Ls := #[rv xa, rv xi, rv xs, rv xg, rv xh]) rfl (rest := []) rfl rfl hby d6_1
  refine oWk.st st ?_
  refine oWk.st (fun _ kt => zA X hx hby d6_4 rfl rfl rfl kt) ?_
  obtain ⟨lt3, T, h, X, e2, E3, hZ, hown, B, C, st⟩ := oLdcO X hx hZ hown (oW hw 53 rfl) (oSA hw) e0 (oELw hw) B (g := (mkF m 5 #[rv xa, rv xi, rv xs, rv xg, rv xh] [(.ref xi)])) rfl (hb hby d6_5) (n := 16) (by decide) (by decide) (by decide) (by decide)
  have e0 := e2
  refine oWk.st st ?_
  have K := K.ext E3
  have Oh := K.old O0 (allS og_xa all0)
  obtain ⟨T, L5, X, e0, K, st⟩ := (cs3 hw).pure X hx hZ hown e0 K (A := [(.ref xi), (.ref lt3)]) rfl (rRN2 l Z a0 hw [] xi lt3 h Oh ) (fun _ _ _ q => q) (W := 0) (by decide) hml (Ls := #[rv xa, rv xi, rv xs, rv xg, rv xh]) rfl (rest := []) rfl rfl hby d6_7
  refine oWk.st st ?_
  refine oWk.st (fun _ kt => XS.pop X.here hx rfl (hb hby d6_10) rfl rfl (zA X hx hby d6_11 rfl rfl rfl kt)) ?_
  obtain ⟨lt6, T, h, X, e2, E6, hZ, hown, B, C, st⟩ := oLdcO X hx hZ hown (oW hw 58 rfl) (oSA hw) e0 (oELw hw) B (g := (mkF m 12 #[rv xa, rv xi, rv xs, rv xg, rv xh] [(.ref xs)])) rfl (hb hby d6_12) (n := 16) (by decide) (by decide) (by decide) (by decide)
  have e0 := e2
  refine oWk.st st ?_
  have K := K.ext E6
  have Oh := K.old O0 (allS og_xa all0)
  obtain ⟨T, L8, X, e0, K, st⟩ := (cs3 hw).pure X hx hZ hown e0 K (A := [(.ref xs), (.ref lt6)]) rfl (rRN2 l Z a0 hw [] xs lt6 h Oh ) (fun _ _ _ q => q) (W := 0) (by decide) hml (Ls := #[rv xa, rv xi, rv xs, rv xg, rv xh]) rfl (rest := []) rfl rfl hby d6_14
  refine oWk.st st ?_
  refine oWk.st (fun _ kt => XS.pop X.here hx rfl (hb hby d6_17) rfl rfl (zA X hx hby d6_18 rfl rfl rfl kt)) ?_
  have E_xg := ((E_xg.ext E3).ext E6)
  have F_elementData_xg := ((F_elementData_xg.ext E3).ext E6)
  have F_size_xg := ((F_size_xg.ext E3).ext E6)
  have E_xgf := ((E_xgf.ext E3).ext E6)
  have V_xgf := ((V_xgf.ext E3).ext E6)
  have I_xge0 := ((I_xge0.ext E3).ext E6)
  have I_xge1 := ((I_xge1.ext E3).ext E6)
  have I_xge2 := ((I_xge2.ext E3).ext E6)
  have I_xge3 := ((I_xge3.ext E3).ext E6)
  have E_xa := ((E_xa.ext E3).ext E6)
  have lt_xa := E_xa.lt
  have lt_xg := E_xg.lt
  have lt_xgf := E_xgf.lt
  have E_xh := ((E_xh.ext E3).ext E6)
  have lt_xh := E_xh.lt
  have E_xhf := ((E_xhf.ext E3).ext E6)
  have lt_xhf := E_xhf.lt
  obtain ⟨_, T, h, Lc10, X, e0, hQ, st⟩ := (cs4 hw).run X hx hZ hown e0 (A := [(.ref xg)]) rfl (rCO_4 l Z a0 hw [] xg xgf xmr xgk xge0 xge1 xge2 xge3 h Oh mm_ E_xg F_elementData_xg F_size_xg E_xgf V_xgf I_xge0 I_xge1 I_xge2 I_xge3) (W := 0) (by decide) hml (Ls := #[rv xa, rv xi, rv xs, rv xg, rv xh]) rfl (rest := []) rfl rfl hby d6_19
  obtain ⟨nl9, ng9, nj9, rfl, K9, gn_nl9, E_nl9, F_elements_nl9, F_allowNulls_nl9, gn_ng9, V_ng9⟩ := hQ
  have ge_nl9 := Nat.le_trans K.le gn_nl9
  have ne_xa_nl9 : xa ≠ nl9 := Nat.ne_of_lt (Nat.lt_of_lt_of_le lt_xa gn_nl9)
  have ne_xg_nl9 : xg ≠ nl9 := Nat.ne_of_lt (Nat.lt_of_lt_of_le lt_xg gn_nl9)
  have ne_xgf_nl9 : xgf ≠ nl9 := Nat.ne_of_lt (Nat.lt_of_lt_of_le lt_xgf gn_nl9)
  have ne_xh_nl9 : xh ≠ nl9 := Nat.ne_of_lt (Nat.lt_of_lt_of_le lt_xh gn_nl9)
  have ne_xhf_nl9 : xhf ≠ nl9 := Nat.ne_of_lt (Nat.lt_of_lt_of_le lt_xhf gn_nl9)
  have ge_ng9 := Nat.le_trans K.le gn_ng9
  have ne_xa_ng9 : xa ≠ ng9 := Nat.ne_of_lt (Nat.lt_of_lt_of_le lt_xa gn_ng9)
  have ne_xg_ng9 : xg ≠ ng9 := Nat.ne_of_lt (Nat.lt_of_lt_of_le lt_xg gn_ng9)
  have ne_xgf_ng9 : xgf ≠ ng9 := Nat.ne_of_lt (Nat.lt_of_lt_of_le lt_xgf gn_ng9)
  have ne_xh_ng9 : xh ≠ ng9 := Nat.ne_of_lt (Nat.lt_of_lt_of_le lt_xh gn_ng9)
  have ne_xhf_ng9 : xhf ≠ ng9 := Nat.ne_of_lt (Nat.lt_of_lt_of_le lt_xhf gn_ng9)
  have K := K.call K9 all0
  have B := B.keep K9.1 (fun _ _ => oSf)
  refine oWk.st st ?_
  refine oWk.st (fun _ kt => zTn X hx hby d6_22 rfl rfl rfl (l' := #[rv xa, rv xi, rv xs, rv nl9, rv xh]) rfl (zB X hx hby d6_23 rfl rfl rfl kt)) ?_
  have E_xh := (E_xh.keep K9.1)
  have F_elementData_xh := (((F_elementData_xh.ext E3).ext E6).keep K9.1 nin0)
  have F_size_xh := (((F_size_xh.ext E3).ext E6).keep K9.1 nin0)
  have E_xhf := (E_xhf.keep K9.1)
  have V_xhf := (((V_xhf.ext E3).ext E6).keep K9.1 nin0)
  have I_xhe0 := (oInsKeep ((I_xhe0.ext E3).ext E6) K9.1)
  have E_xa := (E_xa.keep K9.1)
  have lt_xa := E_xa.lt
  have E_xg := (E_xg.keep K9.1)
  have lt_xg := E_xg.lt
  have E_xgf := (E_xgf.keep K9.1)
  have lt_xgf := E_xgf.lt
  have lt_xh := E_xh.lt
  have lt_xhf := E_xhf.lt
  have lt_nl9 := E_nl9.lt
  have lt_ng9 := V_ng9.lt
  have Oh := K.old O0 (allS og_xa all0)
  obtain ⟨_, T, h, Lc12, X, e0, hQ, st⟩ := (cs4 hw).run X hx hZ hown e0 (A := [(.ref xh)]) rfl (rCO_1 l Z a0 hw [] xh xhf xmr xhk xq xhe0 h Oh S_EMPTY mm_ E_xh F_elementData_xh F_size_xh E_xhf V_xhf I_xhe0) (W := 0) (by decide) hml (Ls := #[rv xa, rv xi, rv xs, rv nl9, rv xh]) rfl (rest := []) rfl rfl hby d6_25
  obtain ⟨nl11, rfl, K11, gn_nl11, E_nl11, F_e0_nl11, F_e1_nl11⟩ := hQ
  have ge_nl11 := Nat.le_trans K.le gn_nl11
  have ne_xa_nl11 : xa ≠ nl11 := Nat.ne_of_lt (Nat.lt_of_lt_of_le lt_xa gn_nl11)
  have ne_xg_nl11 : xg ≠ nl11 := Nat.ne_of_lt (Nat.lt_of_lt_of_le lt_xg gn_nl11)
  have ne_xgf_nl11 : xgf ≠ nl11 := Nat.ne_of_lt (Nat.lt_of_lt_of_le lt_xgf gn_nl11)
  have ne_xh_nl11 : xh ≠ nl11 := Nat.ne_of_lt (Nat.lt_of_lt_of_le lt_xh gn_nl11)
  have ne_xhf_nl11 : xhf ≠ nl11 := Nat.ne_of_lt (Nat.lt_of_lt_of_le lt_xhf gn_nl11)
  have ne_nl9_nl11 : nl9 ≠ nl11 := Nat.ne_of_lt (Nat.lt_of_lt_of_le lt_nl9 gn_nl11)
  have ne_ng9_nl11 : ng9 ≠ nl11 := Nat.ne_of_lt (Nat.lt_of_lt_of_le lt_ng9 gn_nl11)
  have K := K.call K11 all0
  have B := B.keep K11.1 (fun _ _ => oSf)
  refine oWk.st st ?_
  refine oWk.st (fun _ kt => zT X hx hby d6_28 rfl rfl rfl (l' := #[rv xa, rv xi, rv xs, rv nl9, rv nl11]) rfl (zA X hx hby d6_30 rfl rfl rfl (zA X hx hby d6_31 rfl rfl rfl kt))) ?_
  have E_xa := (E_xa.keep K11.1)
  have F_kind_xa := ((((F_kind_xa.ext E3).ext E6).keep K9.1 nin0).keep K11.1 nin0)
  obtain ⟨T, h, X, e0, W13, st⟩ := putF X hx hZ hown (host := "") (Or.inl (oW hw 88 rfl)) Via.refl e0 F_kind_xa E_xa (Or.inr ⟨(oW hw 89 rfl), rfl, hnm⟩) (oW hw 8 rfl) (ty := (.object Y7)) (by decide) rfl rfl (g := (mkF m 32 #[rv xa, rv xi, rv xs, rv nl9, rv nl11] [(.ref xi), (.ref xa)])) rfl rfl (hb hby d6_32)
  refine oWk.st st ?_
  have K := K.wr W13 (Or.inl (List.mem_of_getElem? (i := 0) rfl))
  have B := B.wr W13 oSf
  have F_kind_xa := F_kind_xa.same W13
  refine oWk.st (fun _ kt => zA X hx hby d6_35 rfl rfl rfl (zA X hx hby d6_36 rfl rfl rfl kt)) ?_
  have E_xa := (E_xa.wr W13)
  have F_name_xa := (((((F_name_xa.ext E3).ext E6).keep K9.1 nin0).keep K11.1 nin0).other W13 (Or.inr (slot_ne (Or.inr (oW hw 91 rfl)) (Or.inr (oW hw 89 rfl)) (by decide) (t := (.object Y9)) (t' := (.object Y7)) (by decide) (by decide))))
  obtain ⟨T, h, X, e0, W14, st⟩ := putF X hx hZ hown (host := "") (Or.inl (oW hw 90 rfl)) Via.refl e0 F_name_xa E_xa (Or.inr ⟨(oW hw 91 rfl), rfl, hnm⟩) (oW hw 8 rfl) (ty := (.object Y9)) (by decide) rfl rfl (g := (mkF m 37 #[rv xa, rv xi, rv xs, rv nl9, rv nl11] [(.ref xs), (.ref xa)])) rfl rfl (hb hby d6_37)
  refine oWk.st st ?_
  have K := K.wr W14 (Or.inl (List.mem_of_getElem? (i := 0) rfl))
  have B := B.wr W14 oSf
  have F_name_xa := F_name_xa.same W14
  refine oWk.st (fun _ kt => zA X hx hby d6_40 rfl rfl rfl (zA X hx hby d6_41 rfl rfl rfl kt)) ?_
  have E_xa := (E_xa.wr W14)
  have F_ordered_xa := ((((((F_ordered_xa.ext E3).ext E6).keep K9.1 nin0).keep K11.1 nin0).other W13 (Or.inr (slot_ne (Or.inr (oW hw 93 rfl)) (Or.inr (oW hw 89 rfl)) (by decide) (t := (.object Y3)) (t' := (.object Y7)) (by decide) (by decide)))).other W14 (Or.inr (slot_ne (Or.inr (oW hw 93 rfl)) (Or.inr (oW hw 91 rfl)) (by decide) (t := (.object Y3)) (t' := (.object Y9)) (by decide) (by decide))))
  obtain ⟨T, h, X, e0, W15, st⟩ := putF X hx hZ hown (host := "") (Or.inl (oW hw 92 rfl)) Via.refl e0 F_ordered_xa E_xa (Or.inr ⟨(oW hw 93 rfl), rfl, hnm⟩) (oW hw 8 rfl) (ty := (.object Y3)) (by decide) rfl rfl (g := (mkF m 42 #[rv xa, rv xi, rv xs, rv nl9, rv nl11] [(.ref nl9), (.ref xa)])) rfl rfl (hb hby d6_42)
  refine oWk.st st ?_
  have K := K.wr W15 (Or.inl (List.mem_of_getElem? (i := 0) rfl))
  have B := B.wr W15 oSf
  have F_ordered_xa := F_ordered_xa.same W15
  refine oWk.st (fun _ kt => zA X hx hby d6_45 rfl rfl rfl (zB X hx hby d6_46 rfl rfl rfl kt)) ?_
  have E_xa := (E_xa.wr W15)
  have F_unordered_xa := (((((((F_unordered_xa.ext E3).ext E6).keep K9.1 nin0).keep K11.1 nin0).other W13 (Or.inr (slot_ne (Or.inr (oW hw 95 rfl)) (Or.inr (oW hw 89 rfl)) (by decide) (t := (.object Y3)) (t' := (.object Y7)) (by decide) (by decide)))).other W14 (Or.inr (slot_ne (Or.inr (oW hw 95 rfl)) (Or.inr (oW hw 91 rfl)) (by decide) (t := (.object Y3)) (t' := (.object Y9)) (by decide) (by decide)))).other W15 (Or.inr (slot_ne (Or.inr (oW hw 95 rfl)) (Or.inr (oW hw 93 rfl)) (by decide) (t := (.object Y3)) (t' := (.object Y3)) (by decide) (by decide))))
  obtain ⟨T, h, X, e0, W16, st⟩ := putF X hx hZ hown (host := "") (Or.inl (oW hw 94 rfl)) Via.refl e0 F_unordered_xa E_xa (Or.inr ⟨(oW hw 95 rfl), rfl, hnm⟩) (oW hw 8 rfl) (ty := (.object Y3)) (by decide) rfl rfl (g := (mkF m 48 #[rv xa, rv xi, rv xs, rv nl9, rv nl11] [(.ref nl11), (.ref xa)])) rfl rfl (hb hby d6_48)
  refine oWk.st st ?_
  have K := K.wr W16 (Or.inl (List.mem_of_getElem? (i := 0) rfl))
  have B := B.wr W16 oSf
  have F_unordered_xa := F_unordered_xa.same W16
  have E_xa := (E_xa.wr W16)
  have F_ordered_xa := (F_ordered_xa.other W16 (Or.inr (slot_ne (Or.inr (oW hw 93 rfl)) (Or.inr (oW hw 95 rfl)) (by decide) (t := (.object Y3)) (t' := (.object Y3)) (by decide) (by decide))))
  have E_nl9 := (((((E_nl9.keep K11.1).wr W13).wr W14).wr W15).wr W16)
  have F_elements_nl9 := (((((F_elements_nl9.keep K11.1 nin0).other W13 (Or.inl (Ne.symm ne_xa_nl9))).other W14 (Or.inl (Ne.symm ne_xa_nl9))).other W15 (Or.inl (Ne.symm ne_xa_nl9))).other W16 (Or.inl (Ne.symm ne_xa_nl9)))
  have V_ng9 := (((((V_ng9.keep K11.1 nin0).other W13 (Ne.symm ne_xa_ng9)).other W14 (Ne.symm ne_xa_ng9)).other W15 (Ne.symm ne_xa_ng9)).other W16 (Ne.symm ne_xa_ng9))
  exact oRetHV X hx hlk hZ (oELw hw) e0 B hret (hb hby d6_51) (by rw [e0]; exact ⟨nl9, ng9, nj9, rfl, K, E_xa, F_ordered_xa, E_nl9, F_elements_nl9, V_ng9⟩) (by decide) (by decide)
def Q_rNI_4_2 (Z : State) (xa xi xs : Addr) (u1 u2 u3 u4 : Value) (xg xgf : Addr) (xgk : ClassId) (xge0 xge1 xge2 xge3 xh xhf : Addr) (xhk : ClassId) (xhe0 xhe1 xmr : Addr) (h0 : Heap) (v : Option Value) (h : Heap) (L : List Loc) : Prop := ∃ (nl : Addr) (ng : Addr) (nj : ClassId), v = none ∧ oKp h0 h [xa] L ∧ (Exa Z h xa Y4) ∧ (Fld Z h xa Y4 "ordered" Y5 (.ref nl)) ∧ (Exa Z h nl Y6) ∧ (Fld Z h nl Y6 "elements" Y2 (.ref ng)) ∧ (Arv Z h ng nj (.object Y0) (4 : Int32) [(.ref xge0), (.ref xge1), (.ref xge2), (.ref xge3)] .null)
theorem rNI_4_2 (l : Launch) (Z : State) (a0 : Array Value) (hw : oHW a0 Z) (ws : List Jvm.Cond) (xa xi xs : Addr) (u1 u2 u3 u4 : Value) (xg xgf : Addr) (xgk : ClassId) (xge0 xge1 xge2 xge3 xh xhf : Addr) (xhk : ClassId) (xhe0 xhe1 xmr : Addr) (h0 : Heap) (O0 : Ext Z.heap h0) (mm_ : oMir Z Y2 xmr) (og_xa : Z.heap.size ≤ xa) (E_xa : Exa Z h0 xa Y4) (F_kind_xa : Fld Z h0 xa Y4 "kind" Y13 u1) (F_name_xa : Fld Z h0 xa Y4 "name" Y14 u2) (F_ordered_xa : Fld Z h0 xa Y4 "ordered" Y5 u3) (F_unordered_xa : Fld Z h0 xa Y4 "unordered" Y5 u4) (E_xg : Exa Z h0 xg Y1) (F_elementData_xg : Fld Z h0 xg Y1 "elementData" Y2 (.ref xgf)) (F_size_xg : Fld Z h0 xg Y1 "size" "I" (.int (4 : Int32))) (E_xgf : Exa Z h0 xgf Y2) (V_xgf : Arv Z h0 xgf xgk (.object Y0) (10 : Int32) [(.ref xge0), (.ref xge1), (.ref xge2), (.ref xge3), .null, .null, .null, .null, .null, .null] .null) (I_xge0 : Ins Z h0 xge0 Y0 true) (I_xge1 : Ins Z h0 xge1 Y0 true) (I_xge2 : Ins Z h0 xge2 Y0 true) (I_xge3 : Ins Z h0 xge3 Y0 true) (E_xh : Exa Z h0 xh Y1) (F_elementData_xh : Fld Z h0 xh Y1 "elementData" Y2 (.ref xhf)) (F_size_xh : Fld Z h0 xh Y1 "size" "I" (.int (2 : Int32))) (E_xhf : Exa Z h0 xhf Y2) (V_xhf : Arv Z h0 xhf xhk (.object Y0) (10 : Int32) [(.ref xhe0), (.ref xhe1), .null, .null, .null, .null, .null, .null, .null, .null] .null) (I_xhe0 : Ins Z h0 xhe0 Y0 true) (I_xhe1 : Ins Z h0 xhe1 Y0 true) :
    oConH l Z oEL yy7 prog_27_method_1_code 5 none ws ({ frames := 9, cells := 9, slots := 54, locals := 115 } : Room) #[(.ref xa), (.ref xi), (.ref xs), (.ref xg), (.ref xh)] h0 [xa] (Q_rNI_4_2 Z xa xi xs u1 u2 u3 u4 xg xgf xgk xge0 xge1 xge2 xge3 xh xhf xhk xhe0 xhe1 xmr h0) := by
  refine oConH.of (plainFor_of_name pn_5) ?_
  intro p e s m below meth c T vm X hx hby hml hown hnm hret hlk hZ e0 B hsf
  have hml : c.maxLocals = 5 := hml
  have K : oKp h0 h0 [xa] [] := oKp.nil _ _
  refine oWk.cast (g' := (mkF m 0 #[rv xa, rv xi, rv xs, rv xg, rv xh] [])) (by first | rfl | (simp [entryFrame, mkF, argsToLocals, Value.category]; done)) ?_
  refine oWk.st (fun _ kt => zA X hx hby d6_0 rfl rfl rfl kt) ?_
  have Oh := K.old O0 (allS og_xa all0)
  obtain ⟨T, L2, X, e0, K, st⟩ := (cs2 hw).pure X hx hZ hown e0 K (A := [(.ref xa)]) ⟨rfl, _, _, rfl⟩ (rRec l Z a0 hw [] xa h0 Oh ) (fun _ _ _ q => q) (W := 0) (by decide) hml (Ls := #[rv xa, rv xi, rv xs, rv xg, rv xh]) rfl (rest := []) rfl rfl hby d6_1
  refine oWk.st st ?_
  refine oWk.st (fun _ kt => zA X hx hby d6_4 rfl rfl rfl kt) ?_
  obtain ⟨lt3, T, h, X, e2, E3, hZ, hown, B, C, st⟩ := oLdcO X hx hZ hown (oW hw 53 rfl) (oSA hw) e0 (oELw hw) B (g := (mkF m 5 #[rv xa, rv xi, rv xs, rv xg, rv xh] [(.ref xi)])) rfl (hb hby d6_5) (n := 16) (by decide) (by decide) (by decide) (by decide)
  have e0 := e2
  refine oWk.st st ?_
  have K := K.ext E3
  have Oh := K.old O0 (allS og_xa all0)
  obtain ⟨T, L5, X, e0, K, st⟩ := (cs3 hw).pure X hx hZ hown e0 K (A := [(.ref xi), (.ref lt3)]) rfl (rRN2 l Z a0 hw [] xi lt3 h Oh ) (fun _ _ _ q => q) (W := 0) (by decide) hml (Ls := #[rv xa, rv xi, rv xs, rv xg, rv xh]) rfl (rest := []) rfl rfl hby d6_7
  refine oWk.st st ?_
  refine oWk.st (fun _ kt => XS.pop X.here hx rfl (hb hby d6_10) rfl rfl (zA X hx hby d6_11 rfl rfl rfl kt)) ?_
  obtain ⟨lt6, T, h, X, e2, E6, hZ, hown, B, C, st⟩ := oLdcO X hx hZ hown (oW hw 58 rfl) (oSA hw) e0 (oELw hw) B (g := (mkF m 12 #[rv xa, rv xi, rv xs, rv xg, rv xh] [(.ref xs)])) rfl (hb hby d6_12) (n := 16) (by decide) (by decide) (by decide) (by decide)
  have e0 := e2
  refine oWk.st st ?_
  have K := K.ext E6
  have Oh := K.old O0 (allS og_xa all0)
  obtain ⟨T, L8, X, e0, K, st⟩ := (cs3 hw).pure X hx hZ hown e0 K (A := [(.ref xs), (.ref lt6)]) rfl (rRN2 l Z a0 hw [] xs lt6 h Oh ) (fun _ _ _ q => q) (W := 0) (by decide) hml (Ls := #[rv xa, rv xi, rv xs, rv xg, rv xh]) rfl (rest := []) rfl rfl hby d6_14
  refine oWk.st st ?_
  refine oWk.st (fun _ kt => XS.pop X.here hx rfl (hb hby d6_17) rfl rfl (zA X hx hby d6_18 rfl rfl rfl kt)) ?_
  have E_xg := ((E_xg.ext E3).ext E6)
  have F_elementData_xg := ((F_elementData_xg.ext E3).ext E6)
  have F_size_xg := ((F_size_xg.ext E3).ext E6)
  have E_xgf := ((E_xgf.ext E3).ext E6)
  have V_xgf := ((V_xgf.ext E3).ext E6)
  have I_xge0 := ((I_xge0.ext E3).ext E6)
  have I_xge1 := ((I_xge1.ext E3).ext E6)
  have I_xge2 := ((I_xge2.ext E3).ext E6)
  have I_xge3 := ((I_xge3.ext E3).ext E6)
  have E_xa := ((E_xa.ext E3).ext E6)
  have lt_xa := E_xa.lt
  have lt_xg := E_xg.lt
  have lt_xgf := E_xgf.lt
  have E_xh := ((E_xh.ext E3).ext E6)
  have lt_xh := E_xh.lt
  have E_xhf := ((E_xhf.ext E3).ext E6)
  have lt_xhf := E_xhf.lt
  obtain ⟨_, T, h, Lc10, X, e0, hQ, st⟩ := (cs4 hw).run X hx hZ hown e0 (A := [(.ref xg)]) rfl (rCO_4 l Z a0 hw [] xg xgf xmr xgk xge0 xge1 xge2 xge3 h Oh mm_ E_xg F_elementData_xg F_size_xg E_xgf V_xgf I_xge0 I_xge1 I_xge2 I_xge3) (W := 0) (by decide) hml (Ls := #[rv xa, rv xi, rv xs, rv xg, rv xh]) rfl (rest := []) rfl rfl hby d6_19
  obtain ⟨nl9, ng9, nj9, rfl, K9, gn_nl9, E_nl9, F_elements_nl9, F_allowNulls_nl9, gn_ng9, V_ng9⟩ := hQ
  have ge_nl9 := Nat.le_trans K.le gn_nl9
  have ne_xa_nl9 : xa ≠ nl9 := Nat.ne_of_lt (Nat.lt_of_lt_of_le lt_xa gn_nl9)
  have ne_xg_nl9 : xg ≠ nl9 := Nat.ne_of_lt (Nat.lt_of_lt_of_le lt_xg gn_nl9)
  have ne_xgf_nl9 : xgf ≠ nl9 := Nat.ne_of_lt (Nat.lt_of_lt_of_le lt_xgf gn_nl9)
  have ne_xh_nl9 : xh ≠ nl9 := Nat.ne_of_lt (Nat.lt_of_lt_of_le lt_xh gn_nl9)
  have ne_xhf_nl9 : xhf ≠ nl9 := Nat.ne_of_lt (Nat.lt_of_lt_of_le lt_xhf gn_nl9)
  have ge_ng9 := Nat.le_trans K.le gn_ng9
  have ne_xa_ng9 : xa ≠ ng9 := Nat.ne_of_lt (Nat.lt_of_lt_of_le lt_xa gn_ng9)
  have ne_xg_ng9 : xg ≠ ng9 := Nat.ne_of_lt (Nat.lt_of_lt_of_le lt_xg gn_ng9)
  have ne_xgf_ng9 : xgf ≠ ng9 := Nat.ne_of_lt (Nat.lt_of_lt_of_le lt_xgf gn_ng9)
  have ne_xh_ng9 : xh ≠ ng9 := Nat.ne_of_lt (Nat.lt_of_lt_of_le lt_xh gn_ng9)
  have ne_xhf_ng9 : xhf ≠ ng9 := Nat.ne_of_lt (Nat.lt_of_lt_of_le lt_xhf gn_ng9)
  have K := K.call K9 all0
  have B := B.keep K9.1 (fun _ _ => oSf)
  refine oWk.st st ?_
  refine oWk.st (fun _ kt => zTn X hx hby d6_22 rfl rfl rfl (l' := #[rv xa, rv xi, rv xs, rv nl9, rv xh]) rfl (zB X hx hby d6_23 rfl rfl rfl kt)) ?_
  have E_xh := (E_xh.keep K9.1)
  have F_elementData_xh := (((F_elementData_xh.ext E3).ext E6).keep K9.1 nin0)
  have F_size_xh := (((F_size_xh.ext E3).ext E6).keep K9.1 nin0)
  have E_xhf := (E_xhf.keep K9.1)
  have V_xhf := (((V_xhf.ext E3).ext E6).keep K9.1 nin0)
  have I_xhe0 := (oInsKeep ((I_xhe0.ext E3).ext E6) K9.1)
  have I_xhe1 := (oInsKeep ((I_xhe1.ext E3).ext E6) K9.1)
  have E_xa := (E_xa.keep K9.1)
  have lt_xa := E_xa.lt
  have E_xg := (E_xg.keep K9.1)
  have lt_xg := E_xg.lt
  have E_xgf := (E_xgf.keep K9.1)
  have lt_xgf := E_xgf.lt
  have lt_xh := E_xh.lt
  have lt_xhf := E_xhf.lt
  have lt_nl9 := E_nl9.lt
  have lt_ng9 := V_ng9.lt
  have Oh := K.old O0 (allS og_xa all0)
  obtain ⟨_, T, h, Lc12, X, e0, hQ, st⟩ := (cs4 hw).run X hx hZ hown e0 (A := [(.ref xh)]) rfl (rCO_2 l Z a0 hw [] xh xhf xmr xhk xhe0 xhe1 h Oh mm_ E_xh F_elementData_xh F_size_xh E_xhf V_xhf I_xhe0 I_xhe1) (W := 0) (by decide) hml (Ls := #[rv xa, rv xi, rv xs, rv nl9, rv xh]) rfl (rest := []) rfl rfl hby d6_25
  obtain ⟨nl11, rfl, K11, gn_nl11, E_nl11, F_e0_nl11, F_e1_nl11⟩ := hQ
  have ge_nl11 := Nat.le_trans K.le gn_nl11
  have ne_xa_nl11 : xa ≠ nl11 := Nat.ne_of_lt (Nat.lt_of_lt_of_le lt_xa gn_nl11)
  have ne_xg_nl11 : xg ≠ nl11 := Nat.ne_of_lt (Nat.lt_of_lt_of_le lt_xg gn_nl11)
  have ne_xgf_nl11 : xgf ≠ nl11 := Nat.ne_of_lt (Nat.lt_of_lt_of_le lt_xgf gn_nl11)
  have ne_xh_nl11 : xh ≠ nl11 := Nat.ne_of_lt (Nat.lt_of_lt_of_le lt_xh gn_nl11)
  have ne_xhf_nl11 : xhf ≠ nl11 := Nat.ne_of_lt (Nat.lt_of_lt_of_le lt_xhf gn_nl11)
  have ne_nl9_nl11 : nl9 ≠ nl11 := Nat.ne_of_lt (Nat.lt_of_lt_of_le lt_nl9 gn_nl11)
  have ne_ng9_nl11 : ng9 ≠ nl11 := Nat.ne_of_lt (Nat.lt_of_lt_of_le lt_ng9 gn_nl11)
  have K := K.call K11 all0
  have B := B.keep K11.1 (fun _ _ => oSf)
  refine oWk.st st ?_
  refine oWk.st (fun _ kt => zT X hx hby d6_28 rfl rfl rfl (l' := #[rv xa, rv xi, rv xs, rv nl9, rv nl11]) rfl (zA X hx hby d6_30 rfl rfl rfl (zA X hx hby d6_31 rfl rfl rfl kt))) ?_
  have E_xa := (E_xa.keep K11.1)
  have F_kind_xa := ((((F_kind_xa.ext E3).ext E6).keep K9.1 nin0).keep K11.1 nin0)
  obtain ⟨T, h, X, e0, W13, st⟩ := putF X hx hZ hown (host := "") (Or.inl (oW hw 88 rfl)) Via.refl e0 F_kind_xa E_xa (Or.inr ⟨(oW hw 89 rfl), rfl, hnm⟩) (oW hw 8 rfl) (ty := (.object Y7)) (by decide) rfl rfl (g := (mkF m 32 #[rv xa, rv xi, rv xs, rv nl9, rv nl11] [(.ref xi), (.ref xa)])) rfl rfl (hb hby d6_32)
  refine oWk.st st ?_
  have K := K.wr W13 (Or.inl (List.mem_of_getElem? (i := 0) rfl))
  have B := B.wr W13 oSf
  have F_kind_xa := F_kind_xa.same W13
  refine oWk.st (fun _ kt => zA X hx hby d6_35 rfl rfl rfl (zA X hx hby d6_36 rfl rfl rfl kt)) ?_
  have E_xa := (E_xa.wr W13)
  have F_name_xa := (((((F_name_xa.ext E3).ext E6).keep K9.1 nin0).keep K11.1 nin0).other W13 (Or.inr (slot_ne (Or.inr (oW hw 91 rfl)) (Or.inr (oW hw 89 rfl)) (by decide) (t := (.object Y9)) (t' := (.object Y7)) (by decide) (by decide))))
  obtain ⟨T, h, X, e0, W14, st⟩ := putF X hx hZ hown (host := "") (Or.inl (oW hw 90 rfl)) Via.refl e0 F_name_xa E_xa (Or.inr ⟨(oW hw 91 rfl), rfl, hnm⟩) (oW hw 8 rfl) (ty := (.object Y9)) (by decide) rfl rfl (g := (mkF m 37 #[rv xa, rv xi, rv xs, rv nl9, rv nl11] [(.ref xs), (.ref xa)])) rfl rfl (hb hby d6_37)
  refine oWk.st st ?_
  have K := K.wr W14 (Or.inl (List.mem_of_getElem? (i := 0) rfl))
  have B := B.wr W14 oSf
  have F_name_xa := F_name_xa.same W14
  refine oWk.st (fun _ kt => zA X hx hby d6_40 rfl rfl rfl (zA X hx hby d6_41 rfl rfl rfl kt)) ?_
  have E_xa := (E_xa.wr W14)
  have F_ordered_xa := ((((((F_ordered_xa.ext E3).ext E6).keep K9.1 nin0).keep K11.1 nin0).other W13 (Or.inr (slot_ne (Or.inr (oW hw 93 rfl)) (Or.inr (oW hw 89 rfl)) (by decide) (t := (.object Y3)) (t' := (.object Y7)) (by decide) (by decide)))).other W14 (Or.inr (slot_ne (Or.inr (oW hw 93 rfl)) (Or.inr (oW hw 91 rfl)) (by decide) (t := (.object Y3)) (t' := (.object Y9)) (by decide) (by decide))))
  obtain ⟨T, h, X, e0, W15, st⟩ := putF X hx hZ hown (host := "") (Or.inl (oW hw 92 rfl)) Via.refl e0 F_ordered_xa E_xa (Or.inr ⟨(oW hw 93 rfl), rfl, hnm⟩) (oW hw 8 rfl) (ty := (.object Y3)) (by decide) rfl rfl (g := (mkF m 42 #[rv xa, rv xi, rv xs, rv nl9, rv nl11] [(.ref nl9), (.ref xa)])) rfl rfl (hb hby d6_42)
  refine oWk.st st ?_
  have K := K.wr W15 (Or.inl (List.mem_of_getElem? (i := 0) rfl))
  have B := B.wr W15 oSf
  have F_ordered_xa := F_ordered_xa.same W15
  refine oWk.st (fun _ kt => zA X hx hby d6_45 rfl rfl rfl (zB X hx hby d6_46 rfl rfl rfl kt)) ?_
  have E_xa := (E_xa.wr W15)
  have F_unordered_xa := (((((((F_unordered_xa.ext E3).ext E6).keep K9.1 nin0).keep K11.1 nin0).other W13 (Or.inr (slot_ne (Or.inr (oW hw 95 rfl)) (Or.inr (oW hw 89 rfl)) (by decide) (t := (.object Y3)) (t' := (.object Y7)) (by decide) (by decide)))).other W14 (Or.inr (slot_ne (Or.inr (oW hw 95 rfl)) (Or.inr (oW hw 91 rfl)) (by decide) (t := (.object Y3)) (t' := (.object Y9)) (by decide) (by decide)))).other W15 (Or.inr (slot_ne (Or.inr (oW hw 95 rfl)) (Or.inr (oW hw 93 rfl)) (by decide) (t := (.object Y3)) (t' := (.object Y3)) (by decide) (by decide))))
  obtain ⟨T, h, X, e0, W16, st⟩ := putF X hx hZ hown (host := "") (Or.inl (oW hw 94 rfl)) Via.refl e0 F_unordered_xa E_xa (Or.inr ⟨(oW hw 95 rfl), rfl, hnm⟩) (oW hw 8 rfl) (ty := (.object Y3)) (by decide) rfl rfl (g := (mkF m 48 #[rv xa, rv xi, rv xs, rv nl9, rv nl11] [(.ref nl11), (.ref xa)])) rfl rfl (hb hby d6_48)
  refine oWk.st st ?_
  have K := K.wr W16 (Or.inl (List.mem_of_getElem? (i := 0) rfl))
  have B := B.wr W16 oSf
  have F_unordered_xa := F_unordered_xa.same W16
  have E_xa := (E_xa.wr W16)
  have F_ordered_xa := (F_ordered_xa.other W16 (Or.inr (slot_ne (Or.inr (oW hw 93 rfl)) (Or.inr (oW hw 95 rfl)) (by decide) (t := (.object Y3)) (t' := (.object Y3)) (by decide) (by decide))))
  have E_nl9 := (((((E_nl9.keep K11.1).wr W13).wr W14).wr W15).wr W16)
  have F_elements_nl9 := (((((F_elements_nl9.keep K11.1 nin0).other W13 (Or.inl (Ne.symm ne_xa_nl9))).other W14 (Or.inl (Ne.symm ne_xa_nl9))).other W15 (Or.inl (Ne.symm ne_xa_nl9))).other W16 (Or.inl (Ne.symm ne_xa_nl9)))
  have V_ng9 := (((((V_ng9.keep K11.1 nin0).other W13 (Ne.symm ne_xa_ng9)).other W14 (Ne.symm ne_xa_ng9)).other W15 (Ne.symm ne_xa_ng9)).other W16 (Ne.symm ne_xa_ng9))
  exact oRetHV X hx hlk hZ (oELw hw) e0 B hret (hb hby d6_51) (by rw [e0]; exact ⟨nl9, ng9, nj9, rfl, K, E_xa, F_ordered_xa, E_nl9, F_elements_nl9, V_ng9⟩) (by decide) (by decide)
theorem rLaw (l : Launch) (Z : State) (a0 : Array Value) (hw : oHW a0 Z) (ws : List Jvm.Cond) (p0 p1 p2 : Int32) (kTRIPLE kPATH kJOIN xd : Addr) (xk : ClassId) (xl xq xmr : Addr) (h0 : Heap) (O0 : Ext Z.heap h0) (S_TRIPLE : Sta Z Z.heap Y7 "TRIPLE" Y13 (.ref kTRIPLE)) (S_PATH : Sta Z Z.heap Y7 "PATH" Y13 (.ref kPATH)) (S_JOIN : Sta Z Z.heap Y7 "JOIN" Y13 (.ref kJOIN)) (S_DEFAULTCAPACITY_EMPTY_ELEMENTDATA : Sta Z Z.heap Y1 Y16 Y2 (.ref xd)) (V_xd : Arv Z h0 xd xk (.object Y0) (0 : Int32) [] .null) (S_EMPTY_LIST : Sta Z Z.heap Y12 "EMPTY_LIST" Y15 (.ref xl)) (S_EMPTY : Sta Z Z.heap Y12 "EMPTY" Y10 (.ref xq)) (E_xq : Exa Z h0 xq Y0) (mm_ : oMir Z Y2 xmr) :
    oConH l Z oEL x code maxLocals ret ws room_1 #[(.int p0), (.int p1), (.int p2)] h0 [] (Q_rLaw Z p0 p1 p2 kTRIPLE kPATH kJOIN xd xk xl xq xmr h0) := by
  refine oConH.of (plainFor_of_name pn_8) ?_
  intro p e s m below meth c T vm X hx hby hml hown hnm hret hlk hZ e0 B hsf
  have hml : c.maxLocals = 16 := hml
  have K : oKp h0 h0 [] [] := oKp.nil _ _
  refine oWk.cast (g' := (mkF m 0 #[iv p0, iv p1, iv p2, uu, uu, uu, uu, uu, uu, uu, uu, uu, uu, uu, uu, uu] [])) (by first | rfl | (simp [entryFrame, mkF, argsToLocals, Value.category, maxLocals]; done)) ?_
  have Oh := K.old O0 all0
  obtain ⟨T, X, e0, st⟩ := getS2 X hx hZ hown (host := "") (Or.inl (oW hw 0 rfl)) Via.refl e0 (S_TRIPLE.ext Oh) (g := (mkF m 0 #[iv p0, iv p1, iv p2, uu, uu, uu, uu, uu, uu, uu, uu, uu, uu, uu, uu, uu] [])) rfl (hb hby at_0)
  refine oWk.st st ?_
  have lt_xd := V_xd.lt
  have lt_xq := E_xq.lt
  obtain ⟨_, _, ⟨T, L2, k2, n2⟩, -, X, hS, hgr, ⟨Lc2, hQ, l2, y2, z2, C⟩, st⟩ := callSS X hx (y := yy11) hown (mvT hZ (oW hw 3 rfl)) (mvT hZ (oW hw 4 rfl)) (mvT hZ (oW hw 5 rfl)) (mvT hZ (oW hw 6 rfl)) (by decide) (oBackH (W := 0) (rCh l Z a0 hw [] kTRIPLE xd xl h0 Oh S_DEFAULTCAPACITY_EMPTY_ELEMENTDATA S_EMPTY_LIST) hZ (oW hw 6 rfl) (oW hw 5 rfl) (by decide) (by decide) (oELw hw) B.2.1 all0) (g := (mkF m 3 #[iv p0, iv p1, iv p2, uu, uu, uu, uu, uu, uu, uu, uu, uu, uu, uu, uu, uu] [(.ref kTRIPLE)])) rfl (by rw [hml]; rfl) (argsL := [(.ref kTRIPLE)]) (rest := []) (lenOf pd_6 rfl) rfl (Nat.le_of_eq rfl) (hb hby at_3) (fun _ _ => ⟨rfl, e0, (by decide : 0 + 9 ≤ _), (by decide : 0 + 54 ≤ _)⟩)
  dsimp only [Pt.U, Pt.locs, Pt.cells, Pt.slots] at X l2 y2 z2 st hQ C hS hgr
  subst l2 y2 z2
  have X : Stand p l e _ (s.setVm T.vm) m _ below meth c T _ _ _ := X
  obtain ⟨h, e2⟩ : ∃ z, T.heap = z := ⟨_, rfl⟩
  have B := B.call e0 hS hgr C e2
  obtain ⟨hZ, hown⟩ := oWide hZ hown hS
  rw [e2] at hQ C
  have e0 := e2
  obtain ⟨c0, rfl, K1, gn_c0, E_c0⟩ := hQ
  have ge_c0 := Nat.le_trans K.le gn_c0
  have ne_xd_c0 : xd ≠ c0 := Nat.ne_of_lt (Nat.lt_of_lt_of_le lt_xd gn_c0)
  have ne_xq_c0 : xq ≠ c0 := Nat.ne_of_lt (Nat.lt_of_lt_of_le lt_xq gn_c0)
  have K := K.call K1 all0
  refine oWk.tr st ?_
  refine oWk.st (fun _ kt => zTn X hx hby at_6 rfl rfl rfl (l' := #[iv p0, iv p1, iv p2, rv c0, uu, uu, uu, uu, uu, uu, uu, uu, uu, uu, uu, uu]) rfl kt) ?_
  have Oh := K.old O0 all0
  obtain ⟨T, X, e0, st⟩ := getS2 X hx hZ hown (host := "") (Or.inl (oW hw 0 rfl)) Via.refl e0 (S_TRIPLE.ext Oh) (g := (mkF m 7 #[iv p0, iv p1, iv p2, rv c0, uu, uu, uu, uu, uu, uu, uu, uu, uu, uu, uu, uu] [])) rfl (hb hby at_7)
  refine oWk.st st ?_
  have V_xd := (V_xd.keep K1.1 nin0)
  have lt_xd := V_xd.lt
  have E_xq := (E_xq.keep K1.1)
  have lt_xq := E_xq.lt
  have lt_c0 := E_c0.lt
  obtain ⟨_, _, ⟨T, L4, k4, n4⟩, -, X, hS, hgr, ⟨Lc4, hQ, l4, y4, z4, C⟩, st⟩ := callSS X hx (y := yy11) hown (mvT hZ (oW hw 3 rfl)) (mvT hZ (oW hw 4 rfl)) (mvT hZ (oW hw 5 rfl)) (mvT hZ (oW hw 6 rfl)) (by decide) (oBackH (W := 0) (rCh l Z a0 hw [] kTRIPLE xd xl h Oh S_DEFAULTCAPACITY_EMPTY_ELEMENTDATA S_EMPTY_LIST) hZ (oW hw 6 rfl) (oW hw 5 rfl) (by decide) (by decide) (oELw hw) B.2.1 all0) (g := (mkF m 10 #[iv p0, iv p1, iv p2, rv c0, uu, uu, uu, uu, uu, uu, uu, uu, uu, uu, uu, uu] [(.ref kTRIPLE)])) rfl (by rw [hml]; rfl) (argsL := [(.ref kTRIPLE)]) (rest := []) (lenOf pd_6 rfl) rfl (Nat.le_of_eq rfl) (hb hby at_10) (fun _ _ => ⟨rfl, e0, (by decide : 9 + 9 ≤ _), (by decide : 54 + 54 ≤ _)⟩)
  dsimp only [Pt.U, Pt.locs, Pt.cells, Pt.slots] at X l4 y4 z4 st hQ C hS hgr
  subst l4 y4 z4
  have X : Stand p l e _ (s.setVm T.vm) m _ below meth c T _ _ _ := X
  obtain ⟨h, e2⟩ : ∃ z, T.heap = z := ⟨_, rfl⟩
  have B := B.call e0 hS hgr C e2
  obtain ⟨hZ, hown⟩ := oWide hZ hown hS
  rw [e2] at hQ C
  have e0 := e2
  obtain ⟨c1, rfl, K3, gn_c1, E_c1⟩ := hQ
  have ge_c1 := Nat.le_trans K.le gn_c1
  have ne_xd_c1 : xd ≠ c1 := Nat.ne_of_lt (Nat.lt_of_lt_of_le lt_xd gn_c1)
  have ne_xq_c1 : xq ≠ c1 := Nat.ne_of_lt (Nat.lt_of_lt_of_le lt_xq gn_c1)
  have ne_c0_c1 : c0 ≠ c1 := Nat.ne_of_lt (Nat.lt_of_lt_of_le lt_c0 gn_c1)
  have K := K.call K3 all0
  refine oWk.tr st ?_
  refine oWk.st (fun _ kt => zT X hx hby at_13 rfl rfl rfl (l' := #[iv p0, iv p1, iv p2, rv c0, rv c1, uu, uu, uu, uu, uu, uu, uu, uu, uu, uu, uu]) rfl kt) ?_
  have Oh := K.old O0 all0
  obtain ⟨T, X, e0, st⟩ := getS2 X hx hZ hown (host := "") (Or.inl (oW hw 96 rfl)) Via.refl e0 (S_PATH.ext Oh) (g := (mkF m 15 #[iv p0, iv p1, iv p2, rv c0, rv c1, uu, uu, uu, uu, uu, uu, uu, uu, uu, uu, uu] [])) rfl (hb hby at_15)
  refine oWk.st st ?_
  have V_xd := (V_xd.keep K3.1 nin0)
  have lt_xd := V_xd.lt
  have E_xq := (E_xq.keep K3.1)
  have lt_xq := E_xq.lt
  have E_c0 := (E_c0.keep K3.1)
  have lt_c0 := E_c0.lt
  have lt_c1 := E_c1.lt
  obtain ⟨_, _, ⟨T, L6, k6, n6⟩, -, X, hS, hgr, ⟨Lc6, hQ, l6, y6, z6, C⟩, st⟩ := callSS X hx (y := yy11) hown (mvT hZ (oW hw 3 rfl)) (mvT hZ (oW hw 4 rfl)) (mvT hZ (oW hw 5 rfl)) (mvT hZ (oW hw 6 rfl)) (by decide) (oBackH (W := 0) (rCh l Z a0 hw [] kPATH xd xl h Oh S_DEFAULTCAPACITY_EMPTY_ELEMENTDATA S_EMPTY_LIST) hZ (oW hw 6 rfl) (oW hw 5 rfl) (by decide) (by decide) (oELw hw) B.2.1 all0) (g := (mkF m 18 #[iv p0, iv p1, iv p2, rv c0, rv c1, uu, uu, uu, uu, uu, uu, uu, uu, uu, uu, uu] [(.ref kPATH)])) rfl (by rw [hml]; rfl) (argsL := [(.ref kPATH)]) (rest := []) (lenOf pd_6 rfl) rfl (Nat.le_of_eq rfl) (hb hby at_18) (fun _ _ => ⟨rfl, e0, (by decide : 18 + 9 ≤ _), (by decide : 108 + 54 ≤ _)⟩)
  dsimp only [Pt.U, Pt.locs, Pt.cells, Pt.slots] at X l6 y6 z6 st hQ C hS hgr
  subst l6 y6 z6
  have X : Stand p l e _ (s.setVm T.vm) m _ below meth c T _ _ _ := X
  obtain ⟨h, e2⟩ : ∃ z, T.heap = z := ⟨_, rfl⟩
  have B := B.call e0 hS hgr C e2
  obtain ⟨hZ, hown⟩ := oWide hZ hown hS
  rw [e2] at hQ C
  have e0 := e2
  obtain ⟨c2, rfl, K5, gn_c2, E_c2⟩ := hQ
  have ge_c2 := Nat.le_trans K.le gn_c2
  have ne_xd_c2 : xd ≠ c2 := Nat.ne_of_lt (Nat.lt_of_lt_of_le lt_xd gn_c2)
  have ne_xq_c2 : xq ≠ c2 := Nat.ne_of_lt (Nat.lt_of_lt_of_le lt_xq gn_c2)
  have ne_c0_c2 : c0 ≠ c2 := Nat.ne_of_lt (Nat.lt_of_lt_of_le lt_c0 gn_c2)
  have ne_c1_c2 : c1 ≠ c2 := Nat.ne_of_lt (Nat.lt_of_lt_of_le lt_c1 gn_c2)
  have K := K.call K5 all0
  refine oWk.tr st ?_
  refine oWk.st (fun _ kt => zT X hx hby at_21 rfl rfl rfl (l' := #[iv p0, iv p1, iv p2, rv c0, rv c1, rv c2, uu, uu, uu, uu, uu, uu, uu, uu, uu, uu]) rfl kt) ?_
  have Oh := K.old O0 all0
  obtain ⟨T, X, e0, st⟩ := getS2 X hx hZ hown (host := "") (Or.inl (oW hw 98 rfl)) Via.refl e0 (S_JOIN.ext Oh) (g := (mkF m 23 #[iv p0, iv p1, iv p2, rv c0, rv c1, rv c2, uu, uu, uu, uu, uu, uu, uu, uu, uu, uu] [])) rfl (hb hby at_23)
  refine oWk.st st ?_
  have V_xd := (V_xd.keep K5.1 nin0)
  have lt_xd := V_xd.lt
  have E_xq := (E_xq.keep K5.1)
  have lt_xq := E_xq.lt
  have E_c0 := (E_c0.keep K5.1)
  have lt_c0 := E_c0.lt
  have E_c1 := (E_c1.keep K5.1)
  have lt_c1 := E_c1.lt
  have lt_c2 := E_c2.lt
  obtain ⟨_, _, ⟨T, L8, k8, n8⟩, -, X, hS, hgr, ⟨Lc8, hQ, l8, y8, z8, C⟩, st⟩ := callSS X hx (y := yy11) hown (mvT hZ (oW hw 3 rfl)) (mvT hZ (oW hw 4 rfl)) (mvT hZ (oW hw 5 rfl)) (mvT hZ (oW hw 6 rfl)) (by decide) (oBackH (W := 0) (rCh l Z a0 hw [] kJOIN xd xl h Oh S_DEFAULTCAPACITY_EMPTY_ELEMENTDATA S_EMPTY_LIST) hZ (oW hw 6 rfl) (oW hw 5 rfl) (by decide) (by decide) (oELw hw) B.2.1 all0) (g := (mkF m 26 #[iv p0, iv p1, iv p2, rv c0, rv c1, rv c2, uu, uu, uu, uu, uu, uu, uu, uu, uu, uu] [(.ref kJOIN)])) rfl (by rw [hml]; rfl) (argsL := [(.ref kJOIN)]) (rest := []) (lenOf pd_6 rfl) rfl (Nat.le_of_eq rfl) (hb hby at_26) (fun _ _ => ⟨rfl, e0, (by decide : 27 + 9 ≤ _), (by decide : 162 + 54 ≤ _)⟩)
  dsimp only [Pt.U, Pt.locs, Pt.cells, Pt.slots] at X l8 y8 z8 st hQ C hS hgr
  subst l8 y8 z8
  have X : Stand p l e _ (s.setVm T.vm) m _ below meth c T _ _ _ := X
  obtain ⟨h, e2⟩ : ∃ z, T.heap = z := ⟨_, rfl⟩
  have B := B.call e0 hS hgr C e2
  obtain ⟨hZ, hown⟩ := oWide hZ hown hS
  rw [e2] at hQ C
  have e0 := e2
  obtain ⟨c3, rfl, K7, gn_c3, E_c3⟩ := hQ
  have ge_c3 := Nat.le_trans K.le gn_c3
  have ne_xd_c3 : xd ≠ c3 := Nat.ne_of_lt (Nat.lt_of_lt_of_le lt_xd gn_c3)
  have ne_xq_c3 : xq ≠ c3 := Nat.ne_of_lt (Nat.lt_of_lt_of_le lt_xq gn_c3)
  have ne_c0_c3 : c0 ≠ c3 := Nat.ne_of_lt (Nat.lt_of_lt_of_le lt_c0 gn_c3)
  have ne_c1_c3 : c1 ≠ c3 := Nat.ne_of_lt (Nat.lt_of_lt_of_le lt_c1 gn_c3)
  have ne_c2_c3 : c2 ≠ c3 := Nat.ne_of_lt (Nat.lt_of_lt_of_le lt_c2 gn_c3)
  have K := K.call K7 all0
  refine oWk.tr st ?_
  refine oWk.st (fun _ kt => zT X hx hby at_29 rfl rfl rfl (l' := #[iv p0, iv p1, iv p2, rv c0, rv c1, rv c2, rv c3, uu, uu, uu, uu, uu, uu, uu, uu, uu]) rfl kt) ?_
  have Oh := K.old O0 all0
  obtain ⟨T, X, e0, st⟩ := getS2 X hx hZ hown (host := "") (Or.inl (oW hw 0 rfl)) Via.refl e0 (S_TRIPLE.ext Oh) (g := (mkF m 31 #[iv p0, iv p1, iv p2, rv c0, rv c1, rv c2, rv c3, uu, uu, uu, uu, uu, uu, uu, uu, uu] [])) rfl (hb hby at_31)
  refine oWk.st st ?_
  have V_xd := (V_xd.keep K7.1 nin0)
  have lt_xd := V_xd.lt
  have E_xq := (E_xq.keep K7.1)
  have lt_xq := E_xq.lt
  have E_c0 := (E_c0.keep K7.1)
  have lt_c0 := E_c0.lt
  have E_c1 := (E_c1.keep K7.1)
  have lt_c1 := E_c1.lt
  have E_c2 := (E_c2.keep K7.1)
  have lt_c2 := E_c2.lt
  have lt_c3 := E_c3.lt
  obtain ⟨_, _, ⟨T, L10, k10, n10⟩, -, X, hS, hgr, ⟨Lc10, hQ, l10, y10, z10, C⟩, st⟩ := callSS X hx (y := yy11) hown (mvT hZ (oW hw 3 rfl)) (mvT hZ (oW hw 4 rfl)) (mvT hZ (oW hw 5 rfl)) (mvT hZ (oW hw 6 rfl)) (by decide) (oBackH (W := 0) (rCh l Z a0 hw [] kTRIPLE xd xl h Oh S_DEFAULTCAPACITY_EMPTY_ELEMENTDATA S_EMPTY_LIST) hZ (oW hw 6 rfl) (oW hw 5 rfl) (by decide) (by decide) (oELw hw) B.2.1 all0) (g := (mkF m 34 #[iv p0, iv p1, iv p2, rv c0, rv c1, rv c2, rv c3, uu, uu, uu, uu, uu, uu, uu, uu, uu] [(.ref kTRIPLE)])) rfl (by rw [hml]; rfl) (argsL := [(.ref kTRIPLE)]) (rest := []) (lenOf pd_6 rfl) rfl (Nat.le_of_eq rfl) (hb hby at_34) (fun _ _ => ⟨rfl, e0, (by decide : 36 + 9 ≤ _), (by decide : 216 + 54 ≤ _)⟩)
  dsimp only [Pt.U, Pt.locs, Pt.cells, Pt.slots] at X l10 y10 z10 st hQ C hS hgr
  subst l10 y10 z10
  have X : Stand p l e _ (s.setVm T.vm) m _ below meth c T _ _ _ := X
  obtain ⟨h, e2⟩ : ∃ z, T.heap = z := ⟨_, rfl⟩
  have B := B.call e0 hS hgr C e2
  obtain ⟨hZ, hown⟩ := oWide hZ hown hS
  rw [e2] at hQ C
  have e0 := e2
  obtain ⟨u0, rfl, K9, gn_u0, E_u0⟩ := hQ
  have ge_u0 := Nat.le_trans K.le gn_u0
  have ne_xd_u0 : xd ≠ u0 := Nat.ne_of_lt (Nat.lt_of_lt_of_le lt_xd gn_u0)
  have ne_xq_u0 : xq ≠ u0 := Nat.ne_of_lt (Nat.lt_of_lt_of_le lt_xq gn_u0)
  have ne_c0_u0 : c0 ≠ u0 := Nat.ne_of_lt (Nat.lt_of_lt_of_le lt_c0 gn_u0)
  have ne_c1_u0 : c1 ≠ u0 := Nat.ne_of_lt (Nat.lt_of_lt_of_le lt_c1 gn_u0)
  have ne_c2_u0 : c2 ≠ u0 := Nat.ne_of_lt (Nat.lt_of_lt_of_le lt_c2 gn_u0)
  have ne_c3_u0 : c3 ≠ u0 := Nat.ne_of_lt (Nat.lt_of_lt_of_le lt_c3 gn_u0)
  have K := K.call K9 all0
  refine oWk.tr st ?_
  refine oWk.st (fun _ kt => zT X hx hby at_37 rfl rfl rfl (l' := #[iv p0, iv p1, iv p2, rv c0, rv c1, rv c2, rv c3, rv u0, uu, uu, uu, uu, uu, uu, uu, uu]) rfl kt) ?_
  have Oh := K.old O0 all0
  obtain ⟨T, X, e0, st⟩ := getS2 X hx hZ hown (host := "") (Or.inl (oW hw 0 rfl)) Via.refl e0 (S_TRIPLE.ext Oh) (g := (mkF m 39 #[iv p0, iv p1, iv p2, rv c0, rv c1, rv c2, rv c3, rv u0, uu, uu, uu, uu, uu, uu, uu, uu] [])) rfl (hb hby at_39)
  refine oWk.st st ?_
  have V_xd := (V_xd.keep K9.1 nin0)
  have lt_xd := V_xd.lt
  have E_xq := (E_xq.keep K9.1)
  have lt_xq := E_xq.lt
  have E_c0 := (E_c0.keep K9.1)
  have lt_c0 := E_c0.lt
  have E_c1 := (E_c1.keep K9.1)
  have lt_c1 := E_c1.lt
  have E_c2 := (E_c2.keep K9.1)
  have lt_c2 := E_c2.lt
  have E_c3 := (E_c3.keep K9.1)
  have lt_c3 := E_c3.lt
  have lt_u0 := E_u0.lt
  obtain ⟨_, _, ⟨T, L12, k12, n12⟩, -, X, hS, hgr, ⟨Lc12, hQ, l12, y12, z12, C⟩, st⟩ := callSS X hx (y := yy11) hown (mvT hZ (oW hw 3 rfl)) (mvT hZ (oW hw 4 rfl)) (mvT hZ (oW hw 5 rfl)) (mvT hZ (oW hw 6 rfl)) (by decide) (oBackH (W := 0) (rCh l Z a0 hw [] kTRIPLE xd xl h Oh S_DEFAULTCAPACITY_EMPTY_ELEMENTDATA S_EMPTY_LIST) hZ (oW hw 6 rfl) (oW hw 5 rfl) (by decide) (by decide) (oELw hw) B.2.1 all0) (g := (mkF m 42 #[iv p0, iv p1, iv p2, rv c0, rv c1, rv c2, rv c3, rv u0, uu, uu, uu, uu, uu, uu, uu, uu] [(.ref kTRIPLE)])) rfl (by rw [hml]; rfl) (argsL := [(.ref kTRIPLE)]) (rest := []) (lenOf pd_6 rfl) rfl (Nat.le_of_eq rfl) (hb hby at_42) (fun _ _ => ⟨rfl, e0, (by decide : 45 + 9 ≤ _), (by decide : 270 + 54 ≤ _)⟩)
  dsimp only [Pt.U, Pt.locs, Pt.cells, Pt.slots] at X l12 y12 z12 st hQ C hS hgr
  subst l12 y12 z12
  have X : Stand p l e _ (s.setVm T.vm) m _ below meth c T _ _ _ := X
  obtain ⟨h, e2⟩ : ∃ z, T.heap = z := ⟨_, rfl⟩
  have B := B.call e0 hS hgr C e2
  obtain ⟨hZ, hown⟩ := oWide hZ hown hS
  rw [e2] at hQ C
  have e0 := e2
  obtain ⟨u1, rfl, K11, gn_u1, E_u1⟩ := hQ
  have ge_u1 := Nat.le_trans K.le gn_u1
  have ne_xd_u1 : xd ≠ u1 := Nat.ne_of_lt (Nat.lt_of_lt_of_le lt_xd gn_u1)
  have ne_xq_u1 : xq ≠ u1 := Nat.ne_of_lt (Nat.lt_of_lt_of_le lt_xq gn_u1)
  have ne_c0_u1 : c0 ≠ u1 := Nat.ne_of_lt (Nat.lt_of_lt_of_le lt_c0 gn_u1)
  have ne_c1_u1 : c1 ≠ u1 := Nat.ne_of_lt (Nat.lt_of_lt_of_le lt_c1 gn_u1)
  have ne_c2_u1 : c2 ≠ u1 := Nat.ne_of_lt (Nat.lt_of_lt_of_le lt_c2 gn_u1)
  have ne_c3_u1 : c3 ≠ u1 := Nat.ne_of_lt (Nat.lt_of_lt_of_le lt_c3 gn_u1)
  have ne_u0_u1 : u0 ≠ u1 := Nat.ne_of_lt (Nat.lt_of_lt_of_le lt_u0 gn_u1)
  have K := K.call K11 all0
  refine oWk.tr st ?_
  refine oWk.st (fun _ kt => zT X hx hby at_45 rfl rfl rfl (l' := #[iv p0, iv p1, iv p2, rv c0, rv c1, rv c2, rv c3, rv u0, rv u1, uu, uu, uu, uu, uu, uu, uu]) rfl (zK X hx hby at_47 rfl (zI X hx hby at_48 rfl rfl (zK X hx hby at_49 rfl (XS.iand X.here hx rfl (hb hby at_50) rfl (XS.iadd X.here hx rfl (hb hby at_51) rfl kt)))))) ?_
  show oWk _ _ _ _ T (mkF m 52 #[iv p0, iv p1, iv p2, rv c0, rv c1, rv c2, rv c3, rv u0, rv u1, uu, uu, uu, uu, uu, uu, uu] [(.int ((1 : Int32) + (p0 &&& (3 : Int32))))])
  generalize hnn : ((1 : Int32) + (p0 &&& (3 : Int32))) = nn
  show oWk _ _ _ _ T (mkF m 52 #[iv p0, iv p1, iv p2, rv c0, rv c1, rv c2, rv c3, rv u0, rv u1, uu, uu, uu, uu, uu, uu, uu] [(.int nn)])
  refine oWk.st (fun _ kt => zS X hx hby at_52 rfl rfl (l' := #[iv p0, iv p1, iv p2, rv c0, rv c1, rv c2, rv c3, rv u0, rv u1, iv nn, uu, uu, uu, uu, uu, uu]) rfl (zI X hx hby at_54 rfl rfl kt)) ?_
  refine oWk.st (fun _ kt => X.ldcI hx hown (mvT hZ (oW hw 100 rfl)) rfl (hb hby at_55) (XS.iand X.here hx rfl (hb hby at_57) rfl (zK X hx hby at_58 rfl (iremM X hx rfl (hb hby at_59) rfl (by decide) kt)))) ?_
  show oWk _ _ _ _ T (mkF m 60 #[iv p0, iv p1, iv p2, rv c0, rv c1, rv c2, rv c3, rv u0, rv u1, iv nn, uu, uu, uu, uu, uu, uu] [(.int ((p2 &&& (2147483647 : Int32)) % (3 : Int32)))])
  generalize hmm : ((p2 &&& (2147483647 : Int32)) % (3 : Int32)) = mm
  show oWk _ _ _ _ T (mkF m 60 #[iv p0, iv p1, iv p2, rv c0, rv c1, rv c2, rv c3, rv u0, rv u1, iv nn, uu, uu, uu, uu, uu, uu] [(.int mm)])
  refine oWk.st (fun _ kt => zS X hx hby at_60 rfl rfl (l' := #[iv p0, iv p1, iv p2, rv c0, rv c1, rv c2, rv c3, rv u0, rv u1, iv nn, iv mm, uu, uu, uu, uu, uu]) rfl kt) ?_
  show oWk _ _ _ _ T (mkF m 62 #[iv p0, iv p1, iv p2, rv c0, rv c1, rv c2, rv c3, rv u0, rv u1, iv nn, iv mm, uu, uu, uu, uu, uu] [])
  have cn := oOne4 hnn
  rcases cn with rfl | rfl | rfl | rfl
  · show oWk _ _ _ _ T (mkF m 62 #[iv p0, iv p1, iv p2, rv c0, rv c1, rv c2, rv c3, rv u0, rv u1, iv 1, iv mm, uu, uu, uu, uu, uu] [])
    refine oWk.st (fun _ kt => zI X hx hby at_62 rfl rfl kt) ?_
    refine oWk.st (fun _ kt => X.ldcI hx hown (mvT hZ (oW hw 100 rfl)) rfl (hb hby at_63) (XS.iand X.here hx rfl (hb hby at_65) rfl (zJ X hx hby at_66 rfl rfl (iremM X hx rfl (hb hby at_68) rfl (by decide) kt)))) ?_
    show oWk _ _ _ _ T (mkF m 69 #[iv p0, iv p1, iv p2, rv c0, rv c1, rv c2, rv c3, rv u0, rv u1, iv 1, iv mm, uu, uu, uu, uu, uu] [(.int ((p1 &&& (2147483647 : Int32)) % (1 : Int32)))])
    generalize hix : ((p1 &&& (2147483647 : Int32)) % (1 : Int32)) = ix
    show oWk _ _ _ _ T (mkF m 69 #[iv p0, iv p1, iv p2, rv c0, rv c1, rv c2, rv c3, rv u0, rv u1, iv 1, iv mm, uu, uu, uu, uu, uu] [(.int ix)])
    refine oWk.st (fun _ kt => zS X hx hby at_69 rfl rfl (l' := #[iv p0, iv p1, iv p2, rv c0, rv c1, rv c2, rv c3, rv u0, rv u1, iv 1, iv mm, iv ix, uu, uu, uu, uu]) rfl kt) ?_
    obtain ⟨ord, g13⟩ : ∃ z, z = h.size := ⟨_, rfl⟩
    have V_xd := (V_xd.keep K11.1 nin0)
    have ne_xd_ord : xd ≠ ord := Nat.ne_of_lt (Nat.lt_of_lt_of_le V_xd.lt (Nat.le_of_eq g13.symm))
    have E_xq := (E_xq.keep K11.1)
    have ne_xq_ord : xq ≠ ord := Nat.ne_of_lt (Nat.lt_of_lt_of_le E_xq.lt (Nat.le_of_eq g13.symm))
    have E_c0 := (E_c0.keep K11.1)
    have ne_c0_ord : c0 ≠ ord := Nat.ne_of_lt (Nat.lt_of_lt_of_le E_c0.lt (Nat.le_of_eq g13.symm))
    have E_c1 := (E_c1.keep K11.1)
    have ne_c1_ord : c1 ≠ ord := Nat.ne_of_lt (Nat.lt_of_lt_of_le E_c1.lt (Nat.le_of_eq g13.symm))
    have E_c2 := (E_c2.keep K11.1)
    have ne_c2_ord : c2 ≠ ord := Nat.ne_of_lt (Nat.lt_of_lt_of_le E_c2.lt (Nat.le_of_eq g13.symm))
    have E_c3 := (E_c3.keep K11.1)
    have ne_c3_ord : c3 ≠ ord := Nat.ne_of_lt (Nat.lt_of_lt_of_le E_c3.lt (Nat.le_of_eq g13.symm))
    have E_u0 := (E_u0.keep K11.1)
    have ne_u0_ord : u0 ≠ ord := Nat.ne_of_lt (Nat.lt_of_lt_of_le E_u0.lt (Nat.le_of_eq g13.symm))
    have ne_u1_ord : u1 ≠ ord := Nat.ne_of_lt (Nat.lt_of_lt_of_le E_u1.lt (Nat.le_of_eq g13.symm))
    have ge_ord : h0.size ≤ ord := Nat.le_trans K.le (Nat.le_of_eq g13.symm)
    obtain ⟨T, h, X, e0, E13, A13, D13, -, st⟩ := newO X hx hZ hown (oW hw 18 rfl) (oW hw 19 rfl) (oW hw 20 rfl) e0 (g := (mkF m 71 #[iv p0, iv p1, iv p2, rv c0, rv c1, rv c2, rv c3, rv u0, rv u1, iv 1, iv mm, iv ix, uu, uu, uu, uu] [])) rfl (hb hby at_71) (by decide) (by decide)
    rw [← g13] at A13 D13 st
    refine oWk.st st ?_
    have K := K.ext E13
    have B := B.ext E13
    have E_ord := A13
    have F_modCount_ord : Fld Z h ord Y11 "modCount" "I" (.int (0 : Int32)) := D13 (Or.inl (oW hw 40 rfl)) (ty := .int) (by decide)
    have F_elementData_ord : Fld Z h ord Y1 "elementData" Y2 .null := D13 (Or.inl (oW hw 43 rfl)) (ty := (.array (.object Y0))) (by decide)
    have F_size_ord : Fld Z h ord Y1 "size" "I" (.int (0 : Int32)) := D13 (Or.inl (oW hw 83 rfl)) (ty := .int) (by decide)
    refine oWk.st (fun _ kt => zD X hx hby at_74 rfl rfl rfl kt) ?_
    have Oh := K.old O0 all0
    obtain ⟨_, T, h, Lc15, X, e0, hQ, st⟩ := (cs7 hw).run X hx hZ hown e0 (A := [(.ref ord)]) ⟨rfl, _, _, rfl⟩ (rAL l Z a0 hw [] ord xd (.int (0 : Int32)) .null h Oh S_DEFAULTCAPACITY_EMPTY_ELEMENTDATA (Nat.le_trans O0.1 ge_ord) E_ord F_elementData_ord F_size_ord F_modCount_ord) (W := 1) (by decide) hml (Ls := #[iv p0, iv p1, iv p2, rv c0, rv c1, rv c2, rv c3, rv u0, rv u1, iv 1, iv mm, iv ix, uu, uu, uu, uu]) rfl (rest := [(.ref ord)]) rfl rfl hby at_75
    obtain ⟨rfl, K14, E_ord, F_elementData_ord, F_size_ord, F_modCount_ord⟩ := hQ
    have K := K.call K14 (allS (Or.inr ge_ord) all0)
    have B := B.keep K14.1 (fun _ _ => oSf)
    refine oWk.st st ?_
    refine oWk.st (fun _ kt => zT X hx hby at_78 rfl rfl rfl (l' := #[iv p0, iv p1, iv p2, rv c0, rv c1, rv c2, rv c3, rv u0, rv u1, iv 1, iv mm, iv ix, rv ord, uu, uu, uu]) rfl (zB X hx hby at_80 rfl rfl rfl (zA X hx hby at_82 rfl rfl rfl kt))) ?_
    have V_xd := ((V_xd.ext E13).keep K14.1 (ninS ne_xd_ord nin0))
    have E_c0 := ((E_c0.ext E13).keep K14.1)
    have lt_xd := V_xd.lt
    have E_xq := ((E_xq.ext E13).keep K14.1)
    have lt_xq := E_xq.lt
    have lt_c0 := E_c0.lt
    have E_c1 := ((E_c1.ext E13).keep K14.1)
    have lt_c1 := E_c1.lt
    have E_c2 := ((E_c2.ext E13).keep K14.1)
    have lt_c2 := E_c2.lt
    have E_c3 := ((E_c3.ext E13).keep K14.1)
    have lt_c3 := E_c3.lt
    have E_u0 := ((E_u0.ext E13).keep K14.1)
    have lt_u0 := E_u0.lt
    have E_u1 := ((E_u1.ext E13).keep K14.1)
    have lt_u1 := E_u1.lt
    have lt_ord := E_ord.lt
    have Oh := K.old O0 all0
    obtain ⟨_, T, h, Lc17, X, e0, hQ, st⟩ := (cs12 hw).run X hx hZ hown e0 (A := [(.ref ord), (.ref c0)]) ⟨rfl, _, _, rfl, E_ord⟩ (rAd_0 l Z a0 hw [] ord c0 xd xk (0 : Int32) h Oh S_DEFAULTCAPACITY_EMPTY_ELEMENTDATA (Nat.le_trans O0.1 ge_ord) E_ord F_elementData_ord F_size_ord F_modCount_ord V_xd (Ins.of_exa E_c0 (oW hw 129 rfl)) (Ne.symm ne_c0_ord) (Ne.symm ne_xd_ord)) (W := 0) (by decide) hml (Ls := #[iv p0, iv p1, iv p2, rv c0, rv c1, rv c2, rv c3, rv u0, rv u1, iv 1, iv mm, iv ix, rv ord, uu, uu, uu]) rfl (rest := []) rfl rfl hby at_83
    obtain ⟨nd83, nk83, rfl, K16, E_ord, F_elementData_ord, F_size_ord, F_modCount_ord, gn_nd83, E_nd83, V_nd83, ov_nk83⟩ := hQ
    have ge_nd83 := Nat.le_trans K.le gn_nd83
    have ne_xd_nd83 : xd ≠ nd83 := Nat.ne_of_lt (Nat.lt_of_lt_of_le lt_xd gn_nd83)
    have ne_xq_nd83 : xq ≠ nd83 := Nat.ne_of_lt (Nat.lt_of_lt_of_le lt_xq gn_nd83)
    have ne_c0_nd83 : c0 ≠ nd83 := Nat.ne_of_lt (Nat.lt_of_lt_of_le lt_c0 gn_nd83)
    have ne_c1_nd83 : c1 ≠ nd83 := Nat.ne_of_lt (Nat.lt_of_lt_of_le lt_c1 gn_nd83)
    have ne_c2_nd83 : c2 ≠ nd83 := Nat.ne_of_lt (Nat.lt_of_lt_of_le lt_c2 gn_nd83)
    have ne_c3_nd83 : c3 ≠ nd83 := Nat.ne_of_lt (Nat.lt_of_lt_of_le lt_c3 gn_nd83)
    have ne_u0_nd83 : u0 ≠ nd83 := Nat.ne_of_lt (Nat.lt_of_lt_of_le lt_u0 gn_nd83)
    have ne_u1_nd83 : u1 ≠ nd83 := Nat.ne_of_lt (Nat.lt_of_lt_of_le lt_u1 gn_nd83)
    have ne_ord_nd83 : ord ≠ nd83 := Nat.ne_of_lt (Nat.lt_of_lt_of_le lt_ord gn_nd83)
    have K := K.call K16 (allS (Or.inr ge_ord) all0)
    have B := B.keep K16.1 (fun _ _ => oSf)
    refine oWk.st st ?_
    refine oWk.st (fun _ kt => XS.pop X.here hx rfl (hb hby at_86) rfl rfl (zJ X hx hby at_87 rfl rfl (zK X hx hby at_89 rfl (zY X hx hby at_90 rfl rfl (tlt (by decide)).1 (pc' := 101) rfl (zJ X hx hby at_101 rfl rfl (zK X hx hby at_103 rfl (zY X hx hby at_104 rfl rfl (tlt (by decide)).1 (pc' := 115) rfl (zJ X hx hby at_115 rfl rfl kt)))))))) ?_
    show oWk _ _ _ _ T (mkF m 117 #[iv p0, iv p1, iv p2, rv c0, rv c1, rv c2, rv c3, rv u0, rv u1, iv 1, iv mm, iv ix, rv ord, uu, uu, uu] [(.int 1)])
    refine oWk.st (fun _ kt => zK X hx hby at_117 rfl (zY X hx hby at_118 rfl rfl (tlt (by decide)).1 (pc' := 129) rfl kt)) ?_
    obtain ⟨uno, g18⟩ : ∃ z, z = h.size := ⟨_, rfl⟩
    have V_xd := (V_xd.keep K16.1 (ninS ne_xd_ord nin0))
    have ne_xd_uno : xd ≠ uno := Nat.ne_of_lt (Nat.lt_of_lt_of_le V_xd.lt (Nat.le_of_eq g18.symm))
    have E_xq := (E_xq.keep K16.1)
    have ne_xq_uno : xq ≠ uno := Nat.ne_of_lt (Nat.lt_of_lt_of_le E_xq.lt (Nat.le_of_eq g18.symm))
    have E_c0 := (E_c0.keep K16.1)
    have ne_c0_uno : c0 ≠ uno := Nat.ne_of_lt (Nat.lt_of_lt_of_le E_c0.lt (Nat.le_of_eq g18.symm))
    have E_c1 := (E_c1.keep K16.1)
    have ne_c1_uno : c1 ≠ uno := Nat.ne_of_lt (Nat.lt_of_lt_of_le E_c1.lt (Nat.le_of_eq g18.symm))
    have E_c2 := (E_c2.keep K16.1)
    have ne_c2_uno : c2 ≠ uno := Nat.ne_of_lt (Nat.lt_of_lt_of_le E_c2.lt (Nat.le_of_eq g18.symm))
    have E_c3 := (E_c3.keep K16.1)
    have ne_c3_uno : c3 ≠ uno := Nat.ne_of_lt (Nat.lt_of_lt_of_le E_c3.lt (Nat.le_of_eq g18.symm))
    have E_u0 := (E_u0.keep K16.1)
    have ne_u0_uno : u0 ≠ uno := Nat.ne_of_lt (Nat.lt_of_lt_of_le E_u0.lt (Nat.le_of_eq g18.symm))
    have E_u1 := (E_u1.keep K16.1)
    have ne_u1_uno : u1 ≠ uno := Nat.ne_of_lt (Nat.lt_of_lt_of_le E_u1.lt (Nat.le_of_eq g18.symm))
    have ne_ord_uno : ord ≠ uno := Nat.ne_of_lt (Nat.lt_of_lt_of_le E_ord.lt (Nat.le_of_eq g18.symm))
    have ne_nd83_uno : nd83 ≠ uno := Nat.ne_of_lt (Nat.lt_of_lt_of_le E_nd83.lt (Nat.le_of_eq g18.symm))
    have ge_uno : h0.size ≤ uno := Nat.le_trans K.le (Nat.le_of_eq g18.symm)
    obtain ⟨T, h, X, e0, E18, A18, D18, -, st⟩ := newO X hx hZ hown (oW hw 18 rfl) (oW hw 19 rfl) (oW hw 20 rfl) e0 (g := (mkF m 129 #[iv p0, iv p1, iv p2, rv c0, rv c1, rv c2, rv c3, rv u0, rv u1, iv 1, iv mm, iv ix, rv ord, uu, uu, uu] [])) rfl (hb hby at_129) (by decide) (by decide)
    rw [← g18] at A18 D18 st
    refine oWk.st st ?_
    have K := K.ext E18
    have B := B.ext E18
    have E_uno := A18
    have F_modCount_uno : Fld Z h uno Y11 "modCount" "I" (.int (0 : Int32)) := D18 (Or.inl (oW hw 40 rfl)) (ty := .int) (by decide)
    have F_elementData_uno : Fld Z h uno Y1 "elementData" Y2 .null := D18 (Or.inl (oW hw 43 rfl)) (ty := (.array (.object Y0))) (by decide)
    have F_size_uno : Fld Z h uno Y1 "size" "I" (.int (0 : Int32)) := D18 (Or.inl (oW hw 83 rfl)) (ty := .int) (by decide)
    refine oWk.st (fun _ kt => zD X hx hby at_132 rfl rfl rfl kt) ?_
    have Oh := K.old O0 all0
    obtain ⟨_, T, h, Lc20, X, e0, hQ, st⟩ := (cs7 hw).run X hx hZ hown e0 (A := [(.ref uno)]) ⟨rfl, _, _, rfl⟩ (rAL l Z a0 hw [] uno xd (.int (0 : Int32)) .null h Oh S_DEFAULTCAPACITY_EMPTY_ELEMENTDATA (Nat.le_trans O0.1 ge_uno) E_uno F_elementData_uno F_size_uno F_modCount_uno) (W := 1) (by decide) hml (Ls := #[iv p0, iv p1, iv p2, rv c0, rv c1, rv c2, rv c3, rv u0, rv u1, iv 1, iv mm, iv ix, rv ord, uu, uu, uu]) rfl (rest := [(.ref uno)]) rfl rfl hby at_133
    obtain ⟨rfl, K19, E_uno, F_elementData_uno, F_size_uno, F_modCount_uno⟩ := hQ
    have K := K.call K19 (allS (Or.inr ge_uno) all0)
    have B := B.keep K19.1 (fun _ _ => oSf)
    refine oWk.st st ?_
    refine oWk.st (fun _ kt => zT X hx hby at_136 rfl rfl rfl (l' := #[iv p0, iv p1, iv p2, rv c0, rv c1, rv c2, rv c3, rv u0, rv u1, iv 1, iv mm, iv ix, rv ord, rv uno, uu, uu]) rfl kt) ?_
    show oWk _ _ _ _ T (mkF m 138 #[iv p0, iv p1, iv p2, rv c0, rv c1, rv c2, rv c3, rv u0, rv u1, iv 1, iv mm, iv ix, rv ord, rv uno, uu, uu] [])
    have cm := oRem3 hmm
    rcases cm with rfl | rfl | rfl
    · show oWk _ _ _ _ T (mkF m 138 #[iv p0, iv p1, iv p2, rv c0, rv c1, rv c2, rv c3, rv u0, rv u1, iv 1, iv 0, iv ix, rv ord, rv uno, uu, uu] [])
      refine oWk.st (fun _ kt => zJ X hx hby at_138 rfl rfl (zK X hx hby at_140 rfl (zY X hx hby at_141 rfl rfl (tlt (by decide)).1 (pc' := 152) rfl (zJ X hx hby at_152 rfl rfl (zK X hx hby at_154 rfl (zY X hx hby at_155 rfl rfl (tlt (by decide)).1 (pc' := 166) rfl kt)))))) ?_
      obtain ⟨par, g21⟩ : ∃ z, z = h.size := ⟨_, rfl⟩
      have V_xd := ((V_xd.ext E18).keep K19.1 (ninS ne_xd_uno nin0))
      have ne_xd_par : xd ≠ par := Nat.ne_of_lt (Nat.lt_of_lt_of_le V_xd.lt (Nat.le_of_eq g21.symm))
      have E_xq := ((E_xq.ext E18).keep K19.1)
      have ne_xq_par : xq ≠ par := Nat.ne_of_lt (Nat.lt_of_lt_of_le E_xq.lt (Nat.le_of_eq g21.symm))
      have E_c0 := ((E_c0.ext E18).keep K19.1)
      have ne_c0_par : c0 ≠ par := Nat.ne_of_lt (Nat.lt_of_lt_of_le E_c0.lt (Nat.le_of_eq g21.symm))
      have E_c1 := ((E_c1.ext E18).keep K19.1)
      have ne_c1_par : c1 ≠ par := Nat.ne_of_lt (Nat.lt_of_lt_of_le E_c1.lt (Nat.le_of_eq g21.symm))
      have E_c2 := ((E_c2.ext E18).keep K19.1)
      have ne_c2_par : c2 ≠ par := Nat.ne_of_lt (Nat.lt_of_lt_of_le E_c2.lt (Nat.le_of_eq g21.symm))
      have E_c3 := ((E_c3.ext E18).keep K19.1)
      have ne_c3_par : c3 ≠ par := Nat.ne_of_lt (Nat.lt_of_lt_of_le E_c3.lt (Nat.le_of_eq g21.symm))
      have E_u0 := ((E_u0.ext E18).keep K19.1)
      have ne_u0_par : u0 ≠ par := Nat.ne_of_lt (Nat.lt_of_lt_of_le E_u0.lt (Nat.le_of_eq g21.symm))
      have E_u1 := ((E_u1.ext E18).keep K19.1)
      have ne_u1_par : u1 ≠ par := Nat.ne_of_lt (Nat.lt_of_lt_of_le E_u1.lt (Nat.le_of_eq g21.symm))
      have E_ord := ((E_ord.ext E18).keep K19.1)
      have ne_ord_par : ord ≠ par := Nat.ne_of_lt (Nat.lt_of_lt_of_le E_ord.lt (Nat.le_of_eq g21.symm))
      have E_nd83 := ((E_nd83.ext E18).keep K19.1)
      have ne_nd83_par : nd83 ≠ par := Nat.ne_of_lt (Nat.lt_of_lt_of_le E_nd83.lt (Nat.le_of_eq g21.symm))
      have ne_uno_par : uno ≠ par := Nat.ne_of_lt (Nat.lt_of_lt_of_le E_uno.lt (Nat.le_of_eq g21.symm))
      have ge_par : h0.size ≤ par := Nat.le_trans K.le (Nat.le_of_eq g21.symm)
      obtain ⟨T, h, X, e0, E21, A21, D21, -, st⟩ := newO X hx hZ hown (oW hw 7 rfl) (oW hw 8 rfl) (oW hw 9 rfl) e0 (g := (mkF m 166 #[iv p0, iv p1, iv p2, rv c0, rv c1, rv c2, rv c3, rv u0, rv u1, iv 1, iv 0, iv ix, rv ord, rv uno, uu, uu] [])) rfl (hb hby at_166) (by decide) (by decide)
      rw [← g21] at A21 D21 st
      refine oWk.st st ?_
      have K := K.ext E21
      have B := B.ext E21
      have E_par := A21
      have F_kind_par : Fld Z h par Y4 "kind" Y13 .null := D21 (Or.inr (oW hw 89 rfl)) (ty := (.object Y7)) (by decide)
      have F_name_par : Fld Z h par Y4 "name" Y14 .null := D21 (Or.inr (oW hw 91 rfl)) (ty := (.object Y9)) (by decide)
      have F_ordered_par : Fld Z h par Y4 "ordered" Y5 .null := D21 (Or.inr (oW hw 93 rfl)) (ty := (.object Y3)) (by decide)
      have F_unordered_par : Fld Z h par Y4 "unordered" Y5 .null := D21 (Or.inr (oW hw 95 rfl)) (ty := (.object Y3)) (by decide)
      refine oWk.st (fun _ kt => zD X hx hby at_169 rfl rfl rfl kt) ?_
      have Oh := K.old O0 all0
      obtain ⟨T, X, e0, st⟩ := getS2 X hx hZ hown (host := "") (Or.inl (oW hw 98 rfl)) Via.refl e0 (S_JOIN.ext Oh) (g := (mkF m 170 #[iv p0, iv p1, iv p2, rv c0, rv c1, rv c2, rv c3, rv u0, rv u1, iv 1, iv 0, iv ix, rv ord, rv uno, uu, uu] [(.ref par), (.ref par)])) rfl (hb hby at_170)
      refine oWk.st st ?_
      obtain ⟨lit, T, h, X, e2, E22, hZ, hown, B, C, st⟩ := oLdcO X hx hZ hown (oW hw 10 rfl) (oSA hw) e0 (oELw hw) B (g := (mkF m 173 #[iv p0, iv p1, iv p2, rv c0, rv c1, rv c2, rv c3, rv u0, rv u1, iv 1, iv 0, iv ix, rv ord, rv uno, uu, uu] [(.ref kJOIN), (.ref par), (.ref par)])) rfl (hb hby at_173) (n := 0) (by decide) (by decide) (by decide) (by decide)
      have e0 := e2
      refine oWk.st st ?_
      have K := K.ext E22
      refine oWk.st (fun _ kt => zB X hx hby at_175 rfl rfl rfl (zB X hx hby at_177 rfl rfl rfl kt)) ?_
      have E_par := (E_par.ext E22)
      have F_kind_par := (F_kind_par.ext E22)
      have F_name_par := (F_name_par.ext E22)
      have F_ordered_par := (F_ordered_par.ext E22)
      have F_unordered_par := (F_unordered_par.ext E22)
      have E_ord := ((E_ord.ext E21).ext E22)
      have F_elementData_ord := ((((F_elementData_ord.ext E18).keep K19.1 (ninS ne_ord_uno nin0)).ext E21).ext E22)
      have F_size_ord := ((((F_size_ord.ext E18).keep K19.1 (ninS ne_ord_uno nin0)).ext E21).ext E22)
      have E_nd83 := ((E_nd83.ext E21).ext E22)
      have V_nd83 := ((((V_nd83.ext E18).keep K19.1 (ninS ne_nd83_uno nin0)).ext E21).ext E22)
      have E_c0 := ((E_c0.ext E21).ext E22)
      have E_uno := ((E_uno.ext E21).ext E22)
      have F_size_uno := ((F_size_uno.ext E21).ext E22)
      have Oh := K.old O0 all0
      obtain ⟨_, _, ⟨T, L24, k24, n24⟩, -, X, hS, hgr, ⟨Lc24, hQ, l24, y24, z24, C⟩, st⟩ := X.specialBackS hx (y := yy7) rfl hown (mvT hZ (oW hw 44 rfl)) (mvT hZ (oW hw 45 rfl)) (mvT hZ (oW hw 46 rfl)) (by decide) (oBackH (W := 1) (rNI_1_0 l Z a0 hw [] par kJOIN lit .null .null .null .null ord nd83 nk83 c0 uno xl xq xmr h Oh S_EMPTY_LIST S_EMPTY mm_ (Nat.le_trans O0.1 ge_par) E_par F_kind_par F_name_par F_ordered_par F_unordered_par E_ord F_elementData_ord F_size_ord E_nd83 V_nd83 (Ins.of_exa E_c0 (oW hw 129 rfl)) E_uno F_size_uno) hZ (oW hw 46 rfl) (oW hw 9 rfl) (by decide) (by decide) (oELw hw) B.2.1 (allS ⟨E_par.lt, oSf⟩ all0)) (g := (mkF m 179 #[iv p0, iv p1, iv p2, rv c0, rv c1, rv c2, rv c3, rv u0, rv u1, iv 1, iv 0, iv ix, rv ord, rv uno, uu, uu] [(.ref uno), (.ref ord), (.ref lit), (.ref kJOIN), (.ref par), (.ref par)])) rfl (by rw [hml]; rfl) (Steps.refl _) (a := par) (argsL := [(.ref kJOIN), (.ref lit), (.ref ord), (.ref uno)]) (rest := [(.ref par)]) (lenOf pd_5 rfl) rfl (Nat.le_of_eq rfl) (hb hby at_179) (fun _ _ => ⟨rfl, e0, (by decide : 60 + 6 ≤ _), (by decide : 348 + 43 ≤ _)⟩)
      dsimp only [Pt.U, Pt.locs, Pt.cells, Pt.slots] at X l24 y24 z24 st hQ C hS hgr
      subst l24 y24 z24
      have X : Stand p l e _ (s.setVm T.vm) m _ below meth c T _ _ _ := X
      obtain ⟨h, e2⟩ : ∃ z, T.heap = z := ⟨_, rfl⟩
      have B := B.call e0 hS hgr C e2
      obtain ⟨hZ, hown⟩ := oWide hZ hown hS
      rw [e2] at hQ C
      have e0 := e2
      obtain ⟨nl, rfl, K23, E_par, F_ordered_par, E_nl, F_e0_nl, F_e1_nl⟩ := hQ
      have K := K.call K23 (allS (Or.inr ge_par) all0)
      refine oWk.tr st ?_
      refine oWk.st (fun _ kt => zT X hx hby at_182 rfl rfl rfl (l' := #[iv p0, iv p1, iv p2, rv c0, rv c1, rv c2, rv c3, rv u0, rv u1, iv 1, iv 0, iv ix, rv ord, rv uno, rv par, uu]) rfl kt) ?_
      show oWk _ _ _ _ T (mkF m 184 #[iv p0, iv p1, iv p2, rv c0, rv c1, rv c2, rv c3, rv u0, rv u1, iv 1, iv 0, iv ix, rv ord, rv uno, rv par, uu] [])
      have ci := oRem1 hix
      rcases ci with rfl
      · show oWk _ _ _ _ T (mkF m 184 #[iv p0, iv p1, iv p2, rv c0, rv c1, rv c2, rv c3, rv u0, rv u1, iv 1, iv 0, iv 0, rv ord, rv uno, rv par, uu] [])
        refine oWk.st (fun _ kt => zJ X hx hby at_184 rfl rfl (zH X hx hby at_186 rfl rfl ((if0 _ _).trans (teq (by decide)).2) (zA X hx hby at_189 rfl rfl rfl (zT X hx hby at_190 rfl rfl rfl (l' := #[iv p0, iv p1, iv p2, rv c0, rv c1, rv c2, rv c3, rv u0, rv u1, iv 1, iv 0, iv 0, rv ord, rv uno, rv par, rv c0]) rfl (zG X hx hby at_192 rfl (pc' := 225) rfl (zB X hx hby at_225 rfl rfl rfl (zJ X hx hby at_227 rfl rfl kt))))))) ?_
        have E_c0 := (E_c0.keep K23.1)
        have Oh := K.old O0 all0
        obtain ⟨T, L26, X, e0, K, st⟩ := (cs22 hw).pure X hx hZ hown e0 K (A := [(.ref par), (.int (0 : Int32))]) ⟨rfl, _, _, rfl, E_par⟩ (rNd_1_0 l Z a0 hw [] par nl c0 xq h Oh S_EMPTY F_ordered_par E_nl F_e0_nl F_e1_nl E_c0) (fun _ _ _ q => q) (W := 0) (by decide) hml (Ls := #[iv p0, iv p1, iv p2, rv c0, rv c1, rv c2, rv c3, rv u0, rv u1, iv 1, iv 0, iv 0, rv ord, rv uno, rv par, rv c0]) rfl (rest := []) rfl rfl hby at_229
        refine oWk.st st ?_
        refine oWk.st (fun _ kt => zB X hx hby at_232 rfl rfl rfl kt) ?_
        refine oWk.st (fun _ kt => Jvm.RoadKit.acmp (g := (mkF m 234 #[iv p0, iv p1, iv p2, rv c0, rv c1, rv c2, rv c3, rv u0, rv u1, iv 1, iv 0, iv 0, rv ord, rv uno, rv par, rv c0] [(.ref c0), (.ref c0)])) X hx rfl rfl rfl (pc0 := 234) (pc' := 237) (same := true) rfl (hb hby at_234) rfl (decide_eq_true rfl) (by decide) (by decide) kt) ?_
        show oWk _ _ _ _ T (mkF m 237 #[iv p0, iv p1, iv p2, rv c0, rv c1, rv c2, rv c3, rv u0, rv u1, iv 1, iv 0, iv 0, rv ord, rv uno, rv par, rv c0] [])
        refine oWk.st (fun _ kt => zK X hx hby at_237 rfl (zG X hx hby at_238 rfl (pc' := 242) rfl kt)) ?_
        show oWk _ _ _ _ T (mkF m 242 #[iv p0, iv p1, iv p2, rv c0, rv c1, rv c2, rv c3, rv u0, rv u1, iv 1, iv 0, iv 0, rv ord, rv uno, rv par, rv c0] [(.int 1)])
        exact oRetH X hx hlk hZ (oELw hw) e0 B hret (oNar01 (Or.inr rfl)) (Or.inl ⟨rfl, Or.inr (Or.inl rfl), _, rfl⟩) (hb hby at_242) (by rw [e0]; exact ⟨rfl, K.fr⟩) (by decide) (by decide)
    · show oWk _ _ _ _ T (mkF m 138 #[iv p0, iv p1, iv p2, rv c0, rv c1, rv c2, rv c3, rv u0, rv u1, iv 1, iv 1, iv ix, rv ord, rv uno, uu, uu] [])
      refine oWk.st (fun _ kt => zJ X hx hby at_138 rfl rfl (zK X hx hby at_140 rfl (zN X hx hby at_141 rfl rfl (flt (by decide)).1 (zB X hx hby at_144 rfl rfl rfl (zB X hx hby at_146 rfl rfl rfl kt))))) ?_
      have V_xd := ((V_xd.ext E18).keep K19.1 (ninS ne_xd_uno nin0))
      have E_u0 := ((E_u0.ext E18).keep K19.1)
      have lt_xd := V_xd.lt
      have E_xq := ((E_xq.ext E18).keep K19.1)
      have lt_xq := E_xq.lt
      have E_c0 := ((E_c0.ext E18).keep K19.1)
      have lt_c0 := E_c0.lt
      have E_c1 := ((E_c1.ext E18).keep K19.1)
      have lt_c1 := E_c1.lt
      have E_c2 := ((E_c2.ext E18).keep K19.1)
      have lt_c2 := E_c2.lt
      have E_c3 := ((E_c3.ext E18).keep K19.1)
      have lt_c3 := E_c3.lt
      have lt_u0 := E_u0.lt
      have E_u1 := ((E_u1.ext E18).keep K19.1)
      have lt_u1 := E_u1.lt
      have E_ord := ((E_ord.ext E18).keep K19.1)
      have lt_ord := E_ord.lt
      have E_nd83 := ((E_nd83.ext E18).keep K19.1)
      have lt_nd83 := E_nd83.lt
      have lt_uno := E_uno.lt
      have Oh := K.old O0 all0
      obtain ⟨_, T, h, Lc28, X, e0, hQ, st⟩ := (cs12 hw).run X hx hZ hown e0 (A := [(.ref uno), (.ref u0)]) ⟨rfl, _, _, rfl, E_uno⟩ (rAd_0 l Z a0 hw [] uno u0 xd xk (0 : Int32) h Oh S_DEFAULTCAPACITY_EMPTY_ELEMENTDATA (Nat.le_trans O0.1 ge_uno) E_uno F_elementData_uno F_size_uno F_modCount_uno V_xd (Ins.of_exa E_u0 (oW hw 129 rfl)) (Ne.symm ne_u0_uno) (Ne.symm ne_xd_uno)) (W := 0) (by decide) hml (Ls := #[iv p0, iv p1, iv p2, rv c0, rv c1, rv c2, rv c3, rv u0, rv u1, iv 1, iv 1, iv ix, rv ord, rv uno, uu, uu]) rfl (rest := []) rfl rfl hby at_148
      obtain ⟨nd148, nk148, rfl, K27, E_uno, F_elementData_uno, F_size_uno, F_modCount_uno, gn_nd148, E_nd148, V_nd148, ov_nk148⟩ := hQ
      have ge_nd148 := Nat.le_trans K.le gn_nd148
      have ne_xd_nd148 : xd ≠ nd148 := Nat.ne_of_lt (Nat.lt_of_lt_of_le lt_xd gn_nd148)
      have ne_xq_nd148 : xq ≠ nd148 := Nat.ne_of_lt (Nat.lt_of_lt_of_le lt_xq gn_nd148)
      have ne_c0_nd148 : c0 ≠ nd148 := Nat.ne_of_lt (Nat.lt_of_lt_of_le lt_c0 gn_nd148)
      have ne_c1_nd148 : c1 ≠ nd148 := Nat.ne_of_lt (Nat.lt_of_lt_of_le lt_c1 gn_nd148)
      have ne_c2_nd148 : c2 ≠ nd148 := Nat.ne_of_lt (Nat.lt_of_lt_of_le lt_c2 gn_nd148)
      have ne_c3_nd148 : c3 ≠ nd148 := Nat.ne_of_lt (Nat.lt_of_lt_of_le lt_c3 gn_nd148)
      have ne_u0_nd148 : u0 ≠ nd148 := Nat.ne_of_lt (Nat.lt_of_lt_of_le lt_u0 gn_nd148)
      have ne_u1_nd148 : u1 ≠ nd148 := Nat.ne_of_lt (Nat.lt_of_lt_of_le lt_u1 gn_nd148)
      have ne_ord_nd148 : ord ≠ nd148 := Nat.ne_of_lt (Nat.lt_of_lt_of_le lt_ord gn_nd148)
      have ne_nd83_nd148 : nd83 ≠ nd148 := Nat.ne_of_lt (Nat.lt_of_lt_of_le lt_nd83 gn_nd148)
      have ne_uno_nd148 : uno ≠ nd148 := Nat.ne_of_lt (Nat.lt_of_lt_of_le lt_uno gn_nd148)
      have K := K.call K27 (allS (Or.inr ge_uno) all0)
      have B := B.keep K27.1 (fun _ _ => oSf)
      refine oWk.st st ?_
      refine oWk.st (fun _ kt => XS.pop X.here hx rfl (hb hby at_151) rfl rfl (zJ X hx hby at_152 rfl rfl (zK X hx hby at_154 rfl (zY X hx hby at_155 rfl rfl (tlt (by decide)).1 (pc' := 166) rfl kt)))) ?_
      obtain ⟨par, g29⟩ : ∃ z, z = h.size := ⟨_, rfl⟩
      have V_xd := (V_xd.keep K27.1 (ninS ne_xd_uno nin0))
      have ne_xd_par : xd ≠ par := Nat.ne_of_lt (Nat.lt_of_lt_of_le V_xd.lt (Nat.le_of_eq g29.symm))
      have E_xq := (E_xq.keep K27.1)
      have ne_xq_par : xq ≠ par := Nat.ne_of_lt (Nat.lt_of_lt_of_le E_xq.lt (Nat.le_of_eq g29.symm))
      have E_c0 := (E_c0.keep K27.1)
      have ne_c0_par : c0 ≠ par := Nat.ne_of_lt (Nat.lt_of_lt_of_le E_c0.lt (Nat.le_of_eq g29.symm))
      have E_c1 := (E_c1.keep K27.1)
      have ne_c1_par : c1 ≠ par := Nat.ne_of_lt (Nat.lt_of_lt_of_le E_c1.lt (Nat.le_of_eq g29.symm))
      have E_c2 := (E_c2.keep K27.1)
      have ne_c2_par : c2 ≠ par := Nat.ne_of_lt (Nat.lt_of_lt_of_le E_c2.lt (Nat.le_of_eq g29.symm))
      have E_c3 := (E_c3.keep K27.1)
      have ne_c3_par : c3 ≠ par := Nat.ne_of_lt (Nat.lt_of_lt_of_le E_c3.lt (Nat.le_of_eq g29.symm))
      have E_u0 := (E_u0.keep K27.1)
      have ne_u0_par : u0 ≠ par := Nat.ne_of_lt (Nat.lt_of_lt_of_le E_u0.lt (Nat.le_of_eq g29.symm))
      have E_u1 := (E_u1.keep K27.1)
      have ne_u1_par : u1 ≠ par := Nat.ne_of_lt (Nat.lt_of_lt_of_le E_u1.lt (Nat.le_of_eq g29.symm))
      have E_ord := (E_ord.keep K27.1)
      have ne_ord_par : ord ≠ par := Nat.ne_of_lt (Nat.lt_of_lt_of_le E_ord.lt (Nat.le_of_eq g29.symm))
      have E_nd83 := (E_nd83.keep K27.1)
      have ne_nd83_par : nd83 ≠ par := Nat.ne_of_lt (Nat.lt_of_lt_of_le E_nd83.lt (Nat.le_of_eq g29.symm))
      have ne_uno_par : uno ≠ par := Nat.ne_of_lt (Nat.lt_of_lt_of_le E_uno.lt (Nat.le_of_eq g29.symm))
      have ne_nd148_par : nd148 ≠ par := Nat.ne_of_lt (Nat.lt_of_lt_of_le E_nd148.lt (Nat.le_of_eq g29.symm))
      have ge_par : h0.size ≤ par := Nat.le_trans K.le (Nat.le_of_eq g29.symm)
      obtain ⟨T, h, X, e0, E29, A29, D29, -, st⟩ := newO X hx hZ hown (oW hw 7 rfl) (oW hw 8 rfl) (oW hw 9 rfl) e0 (g := (mkF m 166 #[iv p0, iv p1, iv p2, rv c0, rv c1, rv c2, rv c3, rv u0, rv u1, iv 1, iv 1, iv ix, rv ord, rv uno, uu, uu] [])) rfl (hb hby at_166) (by decide) (by decide)
      rw [← g29] at A29 D29 st
      refine oWk.st st ?_
      have K := K.ext E29
      have B := B.ext E29
      have E_par := A29
      have F_kind_par : Fld Z h par Y4 "kind" Y13 .null := D29 (Or.inr (oW hw 89 rfl)) (ty := (.object Y7)) (by decide)
      have F_name_par : Fld Z h par Y4 "name" Y14 .null := D29 (Or.inr (oW hw 91 rfl)) (ty := (.object Y9)) (by decide)
      have F_ordered_par : Fld Z h par Y4 "ordered" Y5 .null := D29 (Or.inr (oW hw 93 rfl)) (ty := (.object Y3)) (by decide)
      have F_unordered_par : Fld Z h par Y4 "unordered" Y5 .null := D29 (Or.inr (oW hw 95 rfl)) (ty := (.object Y3)) (by decide)
      refine oWk.st (fun _ kt => zD X hx hby at_169 rfl rfl rfl kt) ?_
      have Oh := K.old O0 all0
      obtain ⟨T, X, e0, st⟩ := getS2 X hx hZ hown (host := "") (Or.inl (oW hw 98 rfl)) Via.refl e0 (S_JOIN.ext Oh) (g := (mkF m 170 #[iv p0, iv p1, iv p2, rv c0, rv c1, rv c2, rv c3, rv u0, rv u1, iv 1, iv 1, iv ix, rv ord, rv uno, uu, uu] [(.ref par), (.ref par)])) rfl (hb hby at_170)
      refine oWk.st st ?_
      obtain ⟨lit, T, h, X, e2, E30, hZ, hown, B, C, st⟩ := oLdcO X hx hZ hown (oW hw 10 rfl) (oSA hw) e0 (oELw hw) B (g := (mkF m 173 #[iv p0, iv p1, iv p2, rv c0, rv c1, rv c2, rv c3, rv u0, rv u1, iv 1, iv 1, iv ix, rv ord, rv uno, uu, uu] [(.ref kJOIN), (.ref par), (.ref par)])) rfl (hb hby at_173) (n := 0) (by decide) (by decide) (by decide) (by decide)
      have e0 := e2
      refine oWk.st st ?_
      have K := K.ext E30
      refine oWk.st (fun _ kt => zB X hx hby at_175 rfl rfl rfl (zB X hx hby at_177 rfl rfl rfl kt)) ?_
      have E_par := (E_par.ext E30)
      have F_kind_par := (F_kind_par.ext E30)
      have F_name_par := (F_name_par.ext E30)
      have F_ordered_par := (F_ordered_par.ext E30)
      have F_unordered_par := (F_unordered_par.ext E30)
      have E_ord := ((E_ord.ext E29).ext E30)
      have F_elementData_ord := (((((F_elementData_ord.ext E18).keep K19.1 (ninS ne_ord_uno nin0)).keep K27.1 (ninS ne_ord_uno nin0)).ext E29).ext E30)
      have F_size_ord := (((((F_size_ord.ext E18).keep K19.1 (ninS ne_ord_uno nin0)).keep K27.1 (ninS ne_ord_uno nin0)).ext E29).ext E30)
      have E_nd83 := ((E_nd83.ext E29).ext E30)
      have V_nd83 := (((((V_nd83.ext E18).keep K19.1 (ninS ne_nd83_uno nin0)).keep K27.1 (ninS ne_nd83_uno nin0)).ext E29).ext E30)
      have E_c0 := ((E_c0.ext E29).ext E30)
      have E_uno := ((E_uno.ext E29).ext E30)
      have F_elementData_uno := ((F_elementData_uno.ext E29).ext E30)
      have F_size_uno := ((F_size_uno.ext E29).ext E30)
      have E_nd148 := ((E_nd148.ext E29).ext E30)
      have V_nd148 := ((V_nd148.ext E29).ext E30)
      have E_u0 := ((E_u0.ext E29).ext E30)
      have Oh := K.old O0 all0
      obtain ⟨_, _, ⟨T, L32, k32, n32⟩, -, X, hS, hgr, ⟨Lc32, hQ, l32, y32, z32, C⟩, st⟩ := X.specialBackS hx (y := yy7) rfl hown (mvT hZ (oW hw 44 rfl)) (mvT hZ (oW hw 45 rfl)) (mvT hZ (oW hw 46 rfl)) (by decide) (oBackH (W := 1) (rNI_1_1 l Z a0 hw [] par kJOIN lit .null .null .null .null ord nd83 nk83 c0 uno nd148 nk148 u0 xq xmr h Oh S_EMPTY mm_ (Nat.le_trans O0.1 ge_par) E_par F_kind_par F_name_par F_ordered_par F_unordered_par E_ord F_elementData_ord F_size_ord E_nd83 V_nd83 (Ins.of_exa E_c0 (oW hw 129 rfl)) E_uno F_elementData_uno F_size_uno E_nd148 V_nd148 (Ins.of_exa E_u0 (oW hw 129 rfl))) hZ (oW hw 46 rfl) (oW hw 9 rfl) (by decide) (by decide) (oELw hw) B.2.1 (allS ⟨E_par.lt, oSf⟩ all0)) (g := (mkF m 179 #[iv p0, iv p1, iv p2, rv c0, rv c1, rv c2, rv c3, rv u0, rv u1, iv 1, iv 1, iv ix, rv ord, rv uno, uu, uu] [(.ref uno), (.ref ord), (.ref lit), (.ref kJOIN), (.ref par), (.ref par)])) rfl (by rw [hml]; rfl) (Steps.refl _) (a := par) (argsL := [(.ref kJOIN), (.ref lit), (.ref ord), (.ref uno)]) (rest := [(.ref par)]) (lenOf pd_5 rfl) rfl (Nat.le_of_eq rfl) (hb hby at_179) (fun _ _ => ⟨rfl, e0, (by decide : 61 + 8 ≤ _), (by decide : 358 + 46 ≤ _)⟩)
      dsimp only [Pt.U, Pt.locs, Pt.cells, Pt.slots] at X l32 y32 z32 st hQ C hS hgr
      subst l32 y32 z32
      have X : Stand p l e _ (s.setVm T.vm) m _ below meth c T _ _ _ := X
      obtain ⟨h, e2⟩ : ∃ z, T.heap = z := ⟨_, rfl⟩
      have B := B.call e0 hS hgr C e2
      obtain ⟨hZ, hown⟩ := oWide hZ hown hS
      rw [e2] at hQ C
      have e0 := e2
      obtain ⟨nl, rfl, K31, E_par, F_ordered_par, E_nl, F_e0_nl, F_e1_nl⟩ := hQ
      have K := K.call K31 (allS (Or.inr ge_par) all0)
      refine oWk.tr st ?_
      refine oWk.st (fun _ kt => zT X hx hby at_182 rfl rfl rfl (l' := #[iv p0, iv p1, iv p2, rv c0, rv c1, rv c2, rv c3, rv u0, rv u1, iv 1, iv 1, iv ix, rv ord, rv uno, rv par, uu]) rfl kt) ?_
      show oWk _ _ _ _ T (mkF m 184 #[iv p0, iv p1, iv p2, rv c0, rv c1, rv c2, rv c3, rv u0, rv u1, iv 1, iv 1, iv ix, rv ord, rv uno, rv par, uu] [])
      have ci := oRem1 hix
      rcases ci with rfl
      · show oWk _ _ _ _ T (mkF m 184 #[iv p0, iv p1, iv p2, rv c0, rv c1, rv c2, rv c3, rv u0, rv u1, iv 1, iv 1, iv 0, rv ord, rv uno, rv par, uu] [])
        refine oWk.st (fun _ kt => zJ X hx hby at_184 rfl rfl (zH X hx hby at_186 rfl rfl ((if0 _ _).trans (teq (by decide)).2) (zA X hx hby at_189 rfl rfl rfl (zT X hx hby at_190 rfl rfl rfl (l' := #[iv p0, iv p1, iv p2, rv c0, rv c1, rv c2, rv c3, rv u0, rv u1, iv 1, iv 1, iv 0, rv ord, rv uno, rv par, rv c0]) rfl (zG X hx hby at_192 rfl (pc' := 225) rfl (zB X hx hby at_225 rfl rfl rfl (zJ X hx hby at_227 rfl rfl kt))))))) ?_
        have E_c0 := (E_c0.keep K31.1)
        have Oh := K.old O0 all0
        obtain ⟨T, L34, X, e0, K, st⟩ := (cs22 hw).pure X hx hZ hown e0 K (A := [(.ref par), (.int (0 : Int32))]) ⟨rfl, _, _, rfl, E_par⟩ (rNd_1_0 l Z a0 hw [] par nl c0 xq h Oh S_EMPTY F_ordered_par E_nl F_e0_nl F_e1_nl E_c0) (fun _ _ _ q => q) (W := 0) (by decide) hml (Ls := #[iv p0, iv p1, iv p2, rv c0, rv c1, rv c2, rv c3, rv u0, rv u1, iv 1, iv 1, iv 0, rv ord, rv uno, rv par, rv c0]) rfl (rest := []) rfl rfl hby at_229
        refine oWk.st st ?_
        refine oWk.st (fun _ kt => zB X hx hby at_232 rfl rfl rfl kt) ?_
        refine oWk.st (fun _ kt => Jvm.RoadKit.acmp (g := (mkF m 234 #[iv p0, iv p1, iv p2, rv c0, rv c1, rv c2, rv c3, rv u0, rv u1, iv 1, iv 1, iv 0, rv ord, rv uno, rv par, rv c0] [(.ref c0), (.ref c0)])) X hx rfl rfl rfl (pc0 := 234) (pc' := 237) (same := true) rfl (hb hby at_234) rfl (decide_eq_true rfl) (by decide) (by decide) kt) ?_
        show oWk _ _ _ _ T (mkF m 237 #[iv p0, iv p1, iv p2, rv c0, rv c1, rv c2, rv c3, rv u0, rv u1, iv 1, iv 1, iv 0, rv ord, rv uno, rv par, rv c0] [])
        refine oWk.st (fun _ kt => zK X hx hby at_237 rfl (zG X hx hby at_238 rfl (pc' := 242) rfl kt)) ?_
        show oWk _ _ _ _ T (mkF m 242 #[iv p0, iv p1, iv p2, rv c0, rv c1, rv c2, rv c3, rv u0, rv u1, iv 1, iv 1, iv 0, rv ord, rv uno, rv par, rv c0] [(.int 1)])
        exact oRetH X hx hlk hZ (oELw hw) e0 B hret (oNar01 (Or.inr rfl)) (Or.inl ⟨rfl, Or.inr (Or.inl rfl), _, rfl⟩) (hb hby at_242) (by rw [e0]; exact ⟨rfl, K.fr⟩) (by decide) (by decide)
    · show oWk _ _ _ _ T (mkF m 138 #[iv p0, iv p1, iv p2, rv c0, rv c1, rv c2, rv c3, rv u0, rv u1, iv 1, iv 2, iv ix, rv ord, rv uno, uu, uu] [])
      refine oWk.st (fun _ kt => zJ X hx hby at_138 rfl rfl (zK X hx hby at_140 rfl (zN X hx hby at_141 rfl rfl (flt (by decide)).1 (zB X hx hby at_144 rfl rfl rfl (zB X hx hby at_146 rfl rfl rfl kt))))) ?_
      have V_xd := ((V_xd.ext E18).keep K19.1 (ninS ne_xd_uno nin0))
      have E_u0 := ((E_u0.ext E18).keep K19.1)
      have lt_xd := V_xd.lt
      have E_xq := ((E_xq.ext E18).keep K19.1)
      have lt_xq := E_xq.lt
      have E_c0 := ((E_c0.ext E18).keep K19.1)
      have lt_c0 := E_c0.lt
      have E_c1 := ((E_c1.ext E18).keep K19.1)
      have lt_c1 := E_c1.lt
      have E_c2 := ((E_c2.ext E18).keep K19.1)
      have lt_c2 := E_c2.lt
      have E_c3 := ((E_c3.ext E18).keep K19.1)
      have lt_c3 := E_c3.lt
      have lt_u0 := E_u0.lt
      have E_u1 := ((E_u1.ext E18).keep K19.1)
      have lt_u1 := E_u1.lt
      have E_ord := ((E_ord.ext E18).keep K19.1)
      have lt_ord := E_ord.lt
      have E_nd83 := ((E_nd83.ext E18).keep K19.1)
      have lt_nd83 := E_nd83.lt
      have lt_uno := E_uno.lt
      have Oh := K.old O0 all0
      obtain ⟨_, T, h, Lc36, X, e0, hQ, st⟩ := (cs12 hw).run X hx hZ hown e0 (A := [(.ref uno), (.ref u0)]) ⟨rfl, _, _, rfl, E_uno⟩ (rAd_0 l Z a0 hw [] uno u0 xd xk (0 : Int32) h Oh S_DEFAULTCAPACITY_EMPTY_ELEMENTDATA (Nat.le_trans O0.1 ge_uno) E_uno F_elementData_uno F_size_uno F_modCount_uno V_xd (Ins.of_exa E_u0 (oW hw 129 rfl)) (Ne.symm ne_u0_uno) (Ne.symm ne_xd_uno)) (W := 0) (by decide) hml (Ls := #[iv p0, iv p1, iv p2, rv c0, rv c1, rv c2, rv c3, rv u0, rv u1, iv 1, iv 2, iv ix, rv ord, rv uno, uu, uu]) rfl (rest := []) rfl rfl hby at_148
      obtain ⟨nd148, nk148, rfl, K35, E_uno, F_elementData_uno, F_size_uno, F_modCount_uno, gn_nd148, E_nd148, V_nd148, ov_nk148⟩ := hQ
      have ge_nd148 := Nat.le_trans K.le gn_nd148
      have ne_xd_nd148 : xd ≠ nd148 := Nat.ne_of_lt (Nat.lt_of_lt_of_le lt_xd gn_nd148)
      have ne_xq_nd148 : xq ≠ nd148 := Nat.ne_of_lt (Nat.lt_of_lt_of_le lt_xq gn_nd148)
      have ne_c0_nd148 : c0 ≠ nd148 := Nat.ne_of_lt (Nat.lt_of_lt_of_le lt_c0 gn_nd148)
      have ne_c1_nd148 : c1 ≠ nd148 := Nat.ne_of_lt (Nat.lt_of_lt_of_le lt_c1 gn_nd148)
      have ne_c2_nd148 : c2 ≠ nd148 := Nat.ne_of_lt (Nat.lt_of_lt_of_le lt_c2 gn_nd148)
      have ne_c3_nd148 : c3 ≠ nd148 := Nat.ne_of_lt (Nat.lt_of_lt_of_le lt_c3 gn_nd148)
      have ne_u0_nd148 : u0 ≠ nd148 := Nat.ne_of_lt (Nat.lt_of_lt_of_le lt_u0 gn_nd148)
      have ne_u1_nd148 : u1 ≠ nd148 := Nat.ne_of_lt (Nat.lt_of_lt_of_le lt_u1 gn_nd148)
      have ne_ord_nd148 : ord ≠ nd148 := Nat.ne_of_lt (Nat.lt_of_lt_of_le lt_ord gn_nd148)
      have ne_nd83_nd148 : nd83 ≠ nd148 := Nat.ne_of_lt (Nat.lt_of_lt_of_le lt_nd83 gn_nd148)
      have ne_uno_nd148 : uno ≠ nd148 := Nat.ne_of_lt (Nat.lt_of_lt_of_le lt_uno gn_nd148)
      have K := K.call K35 (allS (Or.inr ge_uno) all0)
      have B := B.keep K35.1 (fun _ _ => oSf)
      refine oWk.st st ?_
      refine oWk.st (fun _ kt => XS.pop X.here hx rfl (hb hby at_151) rfl rfl (zJ X hx hby at_152 rfl rfl (zK X hx hby at_154 rfl (zN X hx hby at_155 rfl rfl (flt (by decide)).1 (zB X hx hby at_158 rfl rfl rfl (zB X hx hby at_160 rfl rfl rfl kt)))))) ?_
      have E_u1 := (E_u1.keep K35.1)
      have Oh := K.old O0 all0
      obtain ⟨_, T, h, Lc38, X, e0, hQ, st⟩ := (cs12 hw).run X hx hZ hown e0 (A := [(.ref uno), (.ref u1)]) ⟨rfl, _, _, rfl, E_uno⟩ (rAd_1 l Z a0 hw [] uno u1 nd148 nk148 ((0 : Int32) + (1 : Int32)) u0 h Oh (Nat.le_trans O0.1 ge_uno) (Nat.le_trans O0.1 ge_nd148) ne_uno_nd148 E_uno F_elementData_uno F_size_uno F_modCount_uno E_nd148 V_nd148 ov_nk148 (Ins.of_exa E_u1 (oW hw 129 rfl))) (W := 0) (by decide) hml (Ls := #[iv p0, iv p1, iv p2, rv c0, rv c1, rv c2, rv c3, rv u0, rv u1, iv 1, iv 2, iv ix, rv ord, rv uno, uu, uu]) rfl (rest := []) rfl rfl hby at_162
      obtain ⟨rfl, K37, E_uno, F_elementData_uno, F_size_uno, F_modCount_uno, E_nd148, V_nd148⟩ := hQ
      have K := K.call K37 (allS (Or.inr ge_uno) (allS (Or.inr ge_nd148) all0))
      have B := B.keep K37.1 (fun _ _ => oSf)
      refine oWk.st st ?_
      refine oWk.st (fun _ kt => XS.pop X.here hx rfl (hb hby at_165) rfl rfl kt) ?_
      obtain ⟨par, g39⟩ : ∃ z, z = h.size := ⟨_, rfl⟩
      have V_xd := ((V_xd.keep K35.1 (ninS ne_xd_uno nin0)).keep K37.1 (ninS ne_xd_uno (ninS ne_xd_nd148 nin0)))
      have ne_xd_par : xd ≠ par := Nat.ne_of_lt (Nat.lt_of_lt_of_le V_xd.lt (Nat.le_of_eq g39.symm))
      have E_xq := ((E_xq.keep K35.1).keep K37.1)
      have ne_xq_par : xq ≠ par := Nat.ne_of_lt (Nat.lt_of_lt_of_le E_xq.lt (Nat.le_of_eq g39.symm))
      have E_c0 := ((E_c0.keep K35.1).keep K37.1)
      have ne_c0_par : c0 ≠ par := Nat.ne_of_lt (Nat.lt_of_lt_of_le E_c0.lt (Nat.le_of_eq g39.symm))
      have E_c1 := ((E_c1.keep K35.1).keep K37.1)
      have ne_c1_par : c1 ≠ par := Nat.ne_of_lt (Nat.lt_of_lt_of_le E_c1.lt (Nat.le_of_eq g39.symm))
      have E_c2 := ((E_c2.keep K35.1).keep K37.1)
      have ne_c2_par : c2 ≠ par := Nat.ne_of_lt (Nat.lt_of_lt_of_le E_c2.lt (Nat.le_of_eq g39.symm))
      have E_c3 := ((E_c3.keep K35.1).keep K37.1)
      have ne_c3_par : c3 ≠ par := Nat.ne_of_lt (Nat.lt_of_lt_of_le E_c3.lt (Nat.le_of_eq g39.symm))
      have E_u0 := ((E_u0.keep K35.1).keep K37.1)
      have ne_u0_par : u0 ≠ par := Nat.ne_of_lt (Nat.lt_of_lt_of_le E_u0.lt (Nat.le_of_eq g39.symm))
      have E_u1 := (E_u1.keep K37.1)
      have ne_u1_par : u1 ≠ par := Nat.ne_of_lt (Nat.lt_of_lt_of_le E_u1.lt (Nat.le_of_eq g39.symm))
      have E_ord := ((E_ord.keep K35.1).keep K37.1)
      have ne_ord_par : ord ≠ par := Nat.ne_of_lt (Nat.lt_of_lt_of_le E_ord.lt (Nat.le_of_eq g39.symm))
      have E_nd83 := ((E_nd83.keep K35.1).keep K37.1)
      have ne_nd83_par : nd83 ≠ par := Nat.ne_of_lt (Nat.lt_of_lt_of_le E_nd83.lt (Nat.le_of_eq g39.symm))
      have ne_uno_par : uno ≠ par := Nat.ne_of_lt (Nat.lt_of_lt_of_le E_uno.lt (Nat.le_of_eq g39.symm))
      have ne_nd148_par : nd148 ≠ par := Nat.ne_of_lt (Nat.lt_of_lt_of_le E_nd148.lt (Nat.le_of_eq g39.symm))
      have ge_par : h0.size ≤ par := Nat.le_trans K.le (Nat.le_of_eq g39.symm)
      obtain ⟨T, h, X, e0, E39, A39, D39, -, st⟩ := newO X hx hZ hown (oW hw 7 rfl) (oW hw 8 rfl) (oW hw 9 rfl) e0 (g := (mkF m 166 #[iv p0, iv p1, iv p2, rv c0, rv c1, rv c2, rv c3, rv u0, rv u1, iv 1, iv 2, iv ix, rv ord, rv uno, uu, uu] [])) rfl (hb hby at_166) (by decide) (by decide)
      rw [← g39] at A39 D39 st
      refine oWk.st st ?_
      have K := K.ext E39
      have B := B.ext E39
      have E_par := A39
      have F_kind_par : Fld Z h par Y4 "kind" Y13 .null := D39 (Or.inr (oW hw 89 rfl)) (ty := (.object Y7)) (by decide)
      have F_name_par : Fld Z h par Y4 "name" Y14 .null := D39 (Or.inr (oW hw 91 rfl)) (ty := (.object Y9)) (by decide)
      have F_ordered_par : Fld Z h par Y4 "ordered" Y5 .null := D39 (Or.inr (oW hw 93 rfl)) (ty := (.object Y3)) (by decide)
      have F_unordered_par : Fld Z h par Y4 "unordered" Y5 .null := D39 (Or.inr (oW hw 95 rfl)) (ty := (.object Y3)) (by decide)
      refine oWk.st (fun _ kt => zD X hx hby at_169 rfl rfl rfl kt) ?_
      have Oh := K.old O0 all0
      obtain ⟨T, X, e0, st⟩ := getS2 X hx hZ hown (host := "") (Or.inl (oW hw 98 rfl)) Via.refl e0 (S_JOIN.ext Oh) (g := (mkF m 170 #[iv p0, iv p1, iv p2, rv c0, rv c1, rv c2, rv c3, rv u0, rv u1, iv 1, iv 2, iv ix, rv ord, rv uno, uu, uu] [(.ref par), (.ref par)])) rfl (hb hby at_170)
      refine oWk.st st ?_
      obtain ⟨lit, T, h, X, e2, E40, hZ, hown, B, C, st⟩ := oLdcO X hx hZ hown (oW hw 10 rfl) (oSA hw) e0 (oELw hw) B (g := (mkF m 173 #[iv p0, iv p1, iv p2, rv c0, rv c1, rv c2, rv c3, rv u0, rv u1, iv 1, iv 2, iv ix, rv ord, rv uno, uu, uu] [(.ref kJOIN), (.ref par), (.ref par)])) rfl (hb hby at_173) (n := 0) (by decide) (by decide) (by decide) (by decide)
      have e0 := e2
      refine oWk.st st ?_
      have K := K.ext E40
      refine oWk.st (fun _ kt => zB X hx hby at_175 rfl rfl rfl (zB X hx hby at_177 rfl rfl rfl kt)) ?_
      have E_par := (E_par.ext E40)
      have F_kind_par := (F_kind_par.ext E40)
      have F_name_par := (F_name_par.ext E40)
      have F_ordered_par := (F_ordered_par.ext E40)
      have F_unordered_par := (F_unordered_par.ext E40)
      have E_ord := ((E_ord.ext E39).ext E40)
      have F_elementData_ord := ((((((F_elementData_ord.ext E18).keep K19.1 (ninS ne_ord_uno nin0)).keep K35.1 (ninS ne_ord_uno nin0)).keep K37.1 (ninS ne_ord_uno (ninS ne_ord_nd148 nin0))).ext E39).ext E40)
      have F_size_ord := ((((((F_size_ord.ext E18).keep K19.1 (ninS ne_ord_uno nin0)).keep K35.1 (ninS ne_ord_uno nin0)).keep K37.1 (ninS ne_ord_uno (ninS ne_ord_nd148 nin0))).ext E39).ext E40)
      have E_nd83 := ((E_nd83.ext E39).ext E40)
      have V_nd83 := ((((((V_nd83.ext E18).keep K19.1 (ninS ne_nd83_uno nin0)).keep K35.1 (ninS ne_nd83_uno nin0)).keep K37.1 (ninS ne_nd83_uno (ninS ne_nd83_nd148 nin0))).ext E39).ext E40)
      have E_c0 := ((E_c0.ext E39).ext E40)
      have E_uno := ((E_uno.ext E39).ext E40)
      have F_elementData_uno := ((F_elementData_uno.ext E39).ext E40)
      have F_size_uno := ((F_size_uno.ext E39).ext E40)
      have E_nd148 := ((E_nd148.ext E39).ext E40)
      have V_nd148 := ((V_nd148.ext E39).ext E40)
      have E_u0 := ((E_u0.ext E39).ext E40)
      have E_u1 := ((E_u1.ext E39).ext E40)
      have Oh := K.old O0 all0
      obtain ⟨_, _, ⟨T, L42, k42, n42⟩, -, X, hS, hgr, ⟨Lc42, hQ, l42, y42, z42, C⟩, st⟩ := X.specialBackS hx (y := yy7) rfl hown (mvT hZ (oW hw 44 rfl)) (mvT hZ (oW hw 45 rfl)) (mvT hZ (oW hw 46 rfl)) (by decide) (oBackH (W := 1) (rNI_1_2 l Z a0 hw [] par kJOIN lit .null .null .null .null ord nd83 nk83 c0 uno nd148 nk148 u0 u1 xq xmr h Oh S_EMPTY mm_ (Nat.le_trans O0.1 ge_par) E_par F_kind_par F_name_par F_ordered_par F_unordered_par E_ord F_elementData_ord F_size_ord E_nd83 V_nd83 (Ins.of_exa E_c0 (oW hw 129 rfl)) E_uno F_elementData_uno F_size_uno E_nd148 V_nd148 (Ins.of_exa E_u0 (oW hw 129 rfl)) (Ins.of_exa E_u1 (oW hw 129 rfl))) hZ (oW hw 46 rfl) (oW hw 9 rfl) (by decide) (by decide) (oELw hw) B.2.1 (allS ⟨E_par.lt, oSf⟩ all0)) (g := (mkF m 179 #[iv p0, iv p1, iv p2, rv c0, rv c1, rv c2, rv c3, rv u0, rv u1, iv 1, iv 2, iv ix, rv ord, rv uno, uu, uu] [(.ref uno), (.ref ord), (.ref lit), (.ref kJOIN), (.ref par), (.ref par)])) rfl (by rw [hml]; rfl) (Steps.refl _) (a := par) (argsL := [(.ref kJOIN), (.ref lit), (.ref ord), (.ref uno)]) (rest := [(.ref par)]) (lenOf pd_5 rfl) rfl (Nat.le_of_eq rfl) (hb hby at_179) (fun _ _ => ⟨rfl, e0, (by decide : 61 + 8 ≤ _), (by decide : 358 + 47 ≤ _)⟩)
      dsimp only [Pt.U, Pt.locs, Pt.cells, Pt.slots] at X l42 y42 z42 st hQ C hS hgr
      subst l42 y42 z42
      have X : Stand p l e _ (s.setVm T.vm) m _ below meth c T _ _ _ := X
      obtain ⟨h, e2⟩ : ∃ z, T.heap = z := ⟨_, rfl⟩
      have B := B.call e0 hS hgr C e2
      obtain ⟨hZ, hown⟩ := oWide hZ hown hS
      rw [e2] at hQ C
      have e0 := e2
      obtain ⟨nl, rfl, K41, E_par, F_ordered_par, E_nl, F_e0_nl, F_e1_nl⟩ := hQ
      have K := K.call K41 (allS (Or.inr ge_par) all0)
      refine oWk.tr st ?_
      refine oWk.st (fun _ kt => zT X hx hby at_182 rfl rfl rfl (l' := #[iv p0, iv p1, iv p2, rv c0, rv c1, rv c2, rv c3, rv u0, rv u1, iv 1, iv 2, iv ix, rv ord, rv uno, rv par, uu]) rfl kt) ?_
      show oWk _ _ _ _ T (mkF m 184 #[iv p0, iv p1, iv p2, rv c0, rv c1, rv c2, rv c3, rv u0, rv u1, iv 1, iv 2, iv ix, rv ord, rv uno, rv par, uu] [])
      have ci := oRem1 hix
      rcases ci with rfl
      · show oWk _ _ _ _ T (mkF m 184 #[iv p0, iv p1, iv p2, rv c0, rv c1, rv c2, rv c3, rv u0, rv u1, iv 1, iv 2, iv 0, rv ord, rv uno, rv par, uu] [])
        refine oWk.st (fun _ kt => zJ X hx hby at_184 rfl rfl (zH X hx hby at_186 rfl rfl ((if0 _ _).trans (teq (by decide)).2) (zA X hx hby at_189 rfl rfl rfl (zT X hx hby at_190 rfl rfl rfl (l' := #[iv p0, iv p1, iv p2, rv c0, rv c1, rv c2, rv c3, rv u0, rv u1, iv 1, iv 2, iv 0, rv ord, rv uno, rv par, rv c0]) rfl (zG X hx hby at_192 rfl (pc' := 225) rfl (zB X hx hby at_225 rfl rfl rfl (zJ X hx hby at_227 rfl rfl kt))))))) ?_
        have E_c0 := (E_c0.keep K41.1)
        have Oh := K.old O0 all0
        obtain ⟨T, L44, X, e0, K, st⟩ := (cs22 hw).pure X hx hZ hown e0 K (A := [(.ref par), (.int (0 : Int32))]) ⟨rfl, _, _, rfl, E_par⟩ (rNd_1_0 l Z a0 hw [] par nl c0 xq h Oh S_EMPTY F_ordered_par E_nl F_e0_nl F_e1_nl E_c0) (fun _ _ _ q => q) (W := 0) (by decide) hml (Ls := #[iv p0, iv p1, iv p2, rv c0, rv c1, rv c2, rv c3, rv u0, rv u1, iv 1, iv 2, iv 0, rv ord, rv uno, rv par, rv c0]) rfl (rest := []) rfl rfl hby at_229
        refine oWk.st st ?_
        refine oWk.st (fun _ kt => zB X hx hby at_232 rfl rfl rfl kt) ?_
        refine oWk.st (fun _ kt => Jvm.RoadKit.acmp (g := (mkF m 234 #[iv p0, iv p1, iv p2, rv c0, rv c1, rv c2, rv c3, rv u0, rv u1, iv 1, iv 2, iv 0, rv ord, rv uno, rv par, rv c0] [(.ref c0), (.ref c0)])) X hx rfl rfl rfl (pc0 := 234) (pc' := 237) (same := true) rfl (hb hby at_234) rfl (decide_eq_true rfl) (by decide) (by decide) kt) ?_
        show oWk _ _ _ _ T (mkF m 237 #[iv p0, iv p1, iv p2, rv c0, rv c1, rv c2, rv c3, rv u0, rv u1, iv 1, iv 2, iv 0, rv ord, rv uno, rv par, rv c0] [])
        refine oWk.st (fun _ kt => zK X hx hby at_237 rfl (zG X hx hby at_238 rfl (pc' := 242) rfl kt)) ?_
        show oWk _ _ _ _ T (mkF m 242 #[iv p0, iv p1, iv p2, rv c0, rv c1, rv c2, rv c3, rv u0, rv u1, iv 1, iv 2, iv 0, rv ord, rv uno, rv par, rv c0] [(.int 1)])
        exact oRetH X hx hlk hZ (oELw hw) e0 B hret (oNar01 (Or.inr rfl)) (Or.inl ⟨rfl, Or.inr (Or.inl rfl), _, rfl⟩) (hb hby at_242) (by rw [e0]; exact ⟨rfl, K.fr⟩) (by decide) (by decide)
  · show oWk _ _ _ _ T (mkF m 62 #[iv p0, iv p1, iv p2, rv c0, rv c1, rv c2, rv c3, rv u0, rv u1, iv 2, iv mm, uu, uu, uu, uu, uu] [])
    refine oWk.st (fun _ kt => zI X hx hby at_62 rfl rfl kt) ?_
    refine oWk.st (fun _ kt => X.ldcI hx hown (mvT hZ (oW hw 100 rfl)) rfl (hb hby at_63) (XS.iand X.here hx rfl (hb hby at_65) rfl (zJ X hx hby at_66 rfl rfl (iremM X hx rfl (hb hby at_68) rfl (by decide) kt)))) ?_
    show oWk _ _ _ _ T (mkF m 69 #[iv p0, iv p1, iv p2, rv c0, rv c1, rv c2, rv c3, rv u0, rv u1, iv 2, iv mm, uu, uu, uu, uu, uu] [(.int ((p1 &&& (2147483647 : Int32)) % (2 : Int32)))])
    generalize hix : ((p1 &&& (2147483647 : Int32)) % (2 : Int32)) = ix
    show oWk _ _ _ _ T (mkF m 69 #[iv p0, iv p1, iv p2, rv c0, rv c1, rv c2, rv c3, rv u0, rv u1, iv 2, iv mm, uu, uu, uu, uu, uu] [(.int ix)])
    refine oWk.st (fun _ kt => zS X hx hby at_69 rfl rfl (l' := #[iv p0, iv p1, iv p2, rv c0, rv c1, rv c2, rv c3, rv u0, rv u1, iv 2, iv mm, iv ix, uu, uu, uu, uu]) rfl kt) ?_
    obtain ⟨ord, g45⟩ : ∃ z, z = h.size := ⟨_, rfl⟩
    have V_xd := (V_xd.keep K11.1 nin0)
    have ne_xd_ord : xd ≠ ord := Nat.ne_of_lt (Nat.lt_of_lt_of_le V_xd.lt (Nat.le_of_eq g45.symm))
    have E_xq := (E_xq.keep K11.1)
    have ne_xq_ord : xq ≠ ord := Nat.ne_of_lt (Nat.lt_of_lt_of_le E_xq.lt (Nat.le_of_eq g45.symm))
    have E_c0 := (E_c0.keep K11.1)
    have ne_c0_ord : c0 ≠ ord := Nat.ne_of_lt (Nat.lt_of_lt_of_le E_c0.lt (Nat.le_of_eq g45.symm))
    have E_c1 := (E_c1.keep K11.1)
    have ne_c1_ord : c1 ≠ ord := Nat.ne_of_lt (Nat.lt_of_lt_of_le E_c1.lt (Nat.le_of_eq g45.symm))
    have E_c2 := (E_c2.keep K11.1)
    have ne_c2_ord : c2 ≠ ord := Nat.ne_of_lt (Nat.lt_of_lt_of_le E_c2.lt (Nat.le_of_eq g45.symm))
    have E_c3 := (E_c3.keep K11.1)
    have ne_c3_ord : c3 ≠ ord := Nat.ne_of_lt (Nat.lt_of_lt_of_le E_c3.lt (Nat.le_of_eq g45.symm))
    have E_u0 := (E_u0.keep K11.1)
    have ne_u0_ord : u0 ≠ ord := Nat.ne_of_lt (Nat.lt_of_lt_of_le E_u0.lt (Nat.le_of_eq g45.symm))
    have ne_u1_ord : u1 ≠ ord := Nat.ne_of_lt (Nat.lt_of_lt_of_le E_u1.lt (Nat.le_of_eq g45.symm))
    have ge_ord : h0.size ≤ ord := Nat.le_trans K.le (Nat.le_of_eq g45.symm)
    obtain ⟨T, h, X, e0, E45, A45, D45, -, st⟩ := newO X hx hZ hown (oW hw 18 rfl) (oW hw 19 rfl) (oW hw 20 rfl) e0 (g := (mkF m 71 #[iv p0, iv p1, iv p2, rv c0, rv c1, rv c2, rv c3, rv u0, rv u1, iv 2, iv mm, iv ix, uu, uu, uu, uu] [])) rfl (hb hby at_71) (by decide) (by decide)
    rw [← g45] at A45 D45 st
    refine oWk.st st ?_
    have K := K.ext E45
    have B := B.ext E45
    have E_ord := A45
    have F_modCount_ord : Fld Z h ord Y11 "modCount" "I" (.int (0 : Int32)) := D45 (Or.inl (oW hw 40 rfl)) (ty := .int) (by decide)
    have F_elementData_ord : Fld Z h ord Y1 "elementData" Y2 .null := D45 (Or.inl (oW hw 43 rfl)) (ty := (.array (.object Y0))) (by decide)
    have F_size_ord : Fld Z h ord Y1 "size" "I" (.int (0 : Int32)) := D45 (Or.inl (oW hw 83 rfl)) (ty := .int) (by decide)
    refine oWk.st (fun _ kt => zD X hx hby at_74 rfl rfl rfl kt) ?_
    have Oh := K.old O0 all0
    obtain ⟨_, T, h, Lc47, X, e0, hQ, st⟩ := (cs7 hw).run X hx hZ hown e0 (A := [(.ref ord)]) ⟨rfl, _, _, rfl⟩ (rAL l Z a0 hw [] ord xd (.int (0 : Int32)) .null h Oh S_DEFAULTCAPACITY_EMPTY_ELEMENTDATA (Nat.le_trans O0.1 ge_ord) E_ord F_elementData_ord F_size_ord F_modCount_ord) (W := 1) (by decide) hml (Ls := #[iv p0, iv p1, iv p2, rv c0, rv c1, rv c2, rv c3, rv u0, rv u1, iv 2, iv mm, iv ix, uu, uu, uu, uu]) rfl (rest := [(.ref ord)]) rfl rfl hby at_75
    obtain ⟨rfl, K46, E_ord, F_elementData_ord, F_size_ord, F_modCount_ord⟩ := hQ
    have K := K.call K46 (allS (Or.inr ge_ord) all0)
    have B := B.keep K46.1 (fun _ _ => oSf)
    refine oWk.st st ?_
    refine oWk.st (fun _ kt => zT X hx hby at_78 rfl rfl rfl (l' := #[iv p0, iv p1, iv p2, rv c0, rv c1, rv c2, rv c3, rv u0, rv u1, iv 2, iv mm, iv ix, rv ord, uu, uu, uu]) rfl (zB X hx hby at_80 rfl rfl rfl (zA X hx hby at_82 rfl rfl rfl kt))) ?_
    have V_xd := ((V_xd.ext E45).keep K46.1 (ninS ne_xd_ord nin0))
    have E_c0 := ((E_c0.ext E45).keep K46.1)
    have lt_xd := V_xd.lt
    have E_xq := ((E_xq.ext E45).keep K46.1)
    have lt_xq := E_xq.lt
    have lt_c0 := E_c0.lt
    have E_c1 := ((E_c1.ext E45).keep K46.1)
    have lt_c1 := E_c1.lt
    have E_c2 := ((E_c2.ext E45).keep K46.1)
    have lt_c2 := E_c2.lt
    have E_c3 := ((E_c3.ext E45).keep K46.1)
    have lt_c3 := E_c3.lt
    have E_u0 := ((E_u0.ext E45).keep K46.1)
    have lt_u0 := E_u0.lt
    have E_u1 := ((E_u1.ext E45).keep K46.1)
    have lt_u1 := E_u1.lt
    have lt_ord := E_ord.lt
    have Oh := K.old O0 all0
    obtain ⟨_, T, h, Lc49, X, e0, hQ, st⟩ := (cs12 hw).run X hx hZ hown e0 (A := [(.ref ord), (.ref c0)]) ⟨rfl, _, _, rfl, E_ord⟩ (rAd_0 l Z a0 hw [] ord c0 xd xk (0 : Int32) h Oh S_DEFAULTCAPACITY_EMPTY_ELEMENTDATA (Nat.le_trans O0.1 ge_ord) E_ord F_elementData_ord F_size_ord F_modCount_ord V_xd (Ins.of_exa E_c0 (oW hw 129 rfl)) (Ne.symm ne_c0_ord) (Ne.symm ne_xd_ord)) (W := 0) (by decide) hml (Ls := #[iv p0, iv p1, iv p2, rv c0, rv c1, rv c2, rv c3, rv u0, rv u1, iv 2, iv mm, iv ix, rv ord, uu, uu, uu]) rfl (rest := []) rfl rfl hby at_83
    obtain ⟨nd83, nk83, rfl, K48, E_ord, F_elementData_ord, F_size_ord, F_modCount_ord, gn_nd83, E_nd83, V_nd83, ov_nk83⟩ := hQ
    have ge_nd83 := Nat.le_trans K.le gn_nd83
    have ne_xd_nd83 : xd ≠ nd83 := Nat.ne_of_lt (Nat.lt_of_lt_of_le lt_xd gn_nd83)
    have ne_xq_nd83 : xq ≠ nd83 := Nat.ne_of_lt (Nat.lt_of_lt_of_le lt_xq gn_nd83)
    have ne_c0_nd83 : c0 ≠ nd83 := Nat.ne_of_lt (Nat.lt_of_lt_of_le lt_c0 gn_nd83)
    have ne_c1_nd83 : c1 ≠ nd83 := Nat.ne_of_lt (Nat.lt_of_lt_of_le lt_c1 gn_nd83)
    have ne_c2_nd83 : c2 ≠ nd83 := Nat.ne_of_lt (Nat.lt_of_lt_of_le lt_c2 gn_nd83)
    have ne_c3_nd83 : c3 ≠ nd83 := Nat.ne_of_lt (Nat.lt_of_lt_of_le lt_c3 gn_nd83)
    have ne_u0_nd83 : u0 ≠ nd83 := Nat.ne_of_lt (Nat.lt_of_lt_of_le lt_u0 gn_nd83)
    have ne_u1_nd83 : u1 ≠ nd83 := Nat.ne_of_lt (Nat.lt_of_lt_of_le lt_u1 gn_nd83)
    have ne_ord_nd83 : ord ≠ nd83 := Nat.ne_of_lt (Nat.lt_of_lt_of_le lt_ord gn_nd83)
    have K := K.call K48 (allS (Or.inr ge_ord) all0)
    have B := B.keep K48.1 (fun _ _ => oSf)
    refine oWk.st st ?_
    refine oWk.st (fun _ kt => XS.pop X.here hx rfl (hb hby at_86) rfl rfl (zJ X hx hby at_87 rfl rfl (zK X hx hby at_89 rfl (zN X hx hby at_90 rfl rfl (flt (by decide)).1 (zB X hx hby at_93 rfl rfl rfl (zB X hx hby at_95 rfl rfl rfl kt)))))) ?_
    have E_c1 := (E_c1.keep K48.1)
    have Oh := K.old O0 all0
    obtain ⟨_, T, h, Lc51, X, e0, hQ, st⟩ := (cs12 hw).run X hx hZ hown e0 (A := [(.ref ord), (.ref c1)]) ⟨rfl, _, _, rfl, E_ord⟩ (rAd_1 l Z a0 hw [] ord c1 nd83 nk83 ((0 : Int32) + (1 : Int32)) c0 h Oh (Nat.le_trans O0.1 ge_ord) (Nat.le_trans O0.1 ge_nd83) ne_ord_nd83 E_ord F_elementData_ord F_size_ord F_modCount_ord E_nd83 V_nd83 ov_nk83 (Ins.of_exa E_c1 (oW hw 129 rfl))) (W := 0) (by decide) hml (Ls := #[iv p0, iv p1, iv p2, rv c0, rv c1, rv c2, rv c3, rv u0, rv u1, iv 2, iv mm, iv ix, rv ord, uu, uu, uu]) rfl (rest := []) rfl rfl hby at_97
    obtain ⟨rfl, K50, E_ord, F_elementData_ord, F_size_ord, F_modCount_ord, E_nd83, V_nd83⟩ := hQ
    have K := K.call K50 (allS (Or.inr ge_ord) (allS (Or.inr ge_nd83) all0))
    have B := B.keep K50.1 (fun _ _ => oSf)
    refine oWk.st st ?_
    refine oWk.st (fun _ kt => XS.pop X.here hx rfl (hb hby at_100) rfl rfl (zJ X hx hby at_101 rfl rfl (zK X hx hby at_103 rfl (zY X hx hby at_104 rfl rfl (tlt (by decide)).1 (pc' := 115) rfl (zJ X hx hby at_115 rfl rfl (zK X hx hby at_117 rfl (zY X hx hby at_118 rfl rfl (tlt (by decide)).1 (pc' := 129) rfl kt))))))) ?_
    obtain ⟨uno, g52⟩ : ∃ z, z = h.size := ⟨_, rfl⟩
    have V_xd := ((V_xd.keep K48.1 (ninS ne_xd_ord nin0)).keep K50.1 (ninS ne_xd_ord (ninS ne_xd_nd83 nin0)))
    have ne_xd_uno : xd ≠ uno := Nat.ne_of_lt (Nat.lt_of_lt_of_le V_xd.lt (Nat.le_of_eq g52.symm))
    have E_xq := ((E_xq.keep K48.1).keep K50.1)
    have ne_xq_uno : xq ≠ uno := Nat.ne_of_lt (Nat.lt_of_lt_of_le E_xq.lt (Nat.le_of_eq g52.symm))
    have E_c0 := ((E_c0.keep K48.1).keep K50.1)
    have ne_c0_uno : c0 ≠ uno := Nat.ne_of_lt (Nat.lt_of_lt_of_le E_c0.lt (Nat.le_of_eq g52.symm))
    have E_c1 := (E_c1.keep K50.1)
    have ne_c1_uno : c1 ≠ uno := Nat.ne_of_lt (Nat.lt_of_lt_of_le E_c1.lt (Nat.le_of_eq g52.symm))
    have E_c2 := ((E_c2.keep K48.1).keep K50.1)
    have ne_c2_uno : c2 ≠ uno := Nat.ne_of_lt (Nat.lt_of_lt_of_le E_c2.lt (Nat.le_of_eq g52.symm))
    have E_c3 := ((E_c3.keep K48.1).keep K50.1)
    have ne_c3_uno : c3 ≠ uno := Nat.ne_of_lt (Nat.lt_of_lt_of_le E_c3.lt (Nat.le_of_eq g52.symm))
    have E_u0 := ((E_u0.keep K48.1).keep K50.1)
    have ne_u0_uno : u0 ≠ uno := Nat.ne_of_lt (Nat.lt_of_lt_of_le E_u0.lt (Nat.le_of_eq g52.symm))
    have E_u1 := ((E_u1.keep K48.1).keep K50.1)
    have ne_u1_uno : u1 ≠ uno := Nat.ne_of_lt (Nat.lt_of_lt_of_le E_u1.lt (Nat.le_of_eq g52.symm))
    have ne_ord_uno : ord ≠ uno := Nat.ne_of_lt (Nat.lt_of_lt_of_le E_ord.lt (Nat.le_of_eq g52.symm))
    have ne_nd83_uno : nd83 ≠ uno := Nat.ne_of_lt (Nat.lt_of_lt_of_le E_nd83.lt (Nat.le_of_eq g52.symm))
    have ge_uno : h0.size ≤ uno := Nat.le_trans K.le (Nat.le_of_eq g52.symm)
    obtain ⟨T, h, X, e0, E52, A52, D52, -, st⟩ := newO X hx hZ hown (oW hw 18 rfl) (oW hw 19 rfl) (oW hw 20 rfl) e0 (g := (mkF m 129 #[iv p0, iv p1, iv p2, rv c0, rv c1, rv c2, rv c3, rv u0, rv u1, iv 2, iv mm, iv ix, rv ord, uu, uu, uu] [])) rfl (hb hby at_129) (by decide) (by decide)
    rw [← g52] at A52 D52 st
    refine oWk.st st ?_
    have K := K.ext E52
    have B := B.ext E52
    have E_uno := A52
    have F_modCount_uno : Fld Z h uno Y11 "modCount" "I" (.int (0 : Int32)) := D52 (Or.inl (oW hw 40 rfl)) (ty := .int) (by decide)
    have F_elementData_uno : Fld Z h uno Y1 "elementData" Y2 .null := D52 (Or.inl (oW hw 43 rfl)) (ty := (.array (.object Y0))) (by decide)
    have F_size_uno : Fld Z h uno Y1 "size" "I" (.int (0 : Int32)) := D52 (Or.inl (oW hw 83 rfl)) (ty := .int) (by decide)
    refine oWk.st (fun _ kt => zD X hx hby at_132 rfl rfl rfl kt) ?_
    have Oh := K.old O0 all0
    obtain ⟨_, T, h, Lc54, X, e0, hQ, st⟩ := (cs7 hw).run X hx hZ hown e0 (A := [(.ref uno)]) ⟨rfl, _, _, rfl⟩ (rAL l Z a0 hw [] uno xd (.int (0 : Int32)) .null h Oh S_DEFAULTCAPACITY_EMPTY_ELEMENTDATA (Nat.le_trans O0.1 ge_uno) E_uno F_elementData_uno F_size_uno F_modCount_uno) (W := 1) (by decide) hml (Ls := #[iv p0, iv p1, iv p2, rv c0, rv c1, rv c2, rv c3, rv u0, rv u1, iv 2, iv mm, iv ix, rv ord, uu, uu, uu]) rfl (rest := [(.ref uno)]) rfl rfl hby at_133
    obtain ⟨rfl, K53, E_uno, F_elementData_uno, F_size_uno, F_modCount_uno⟩ := hQ
    have K := K.call K53 (allS (Or.inr ge_uno) all0)
    have B := B.keep K53.1 (fun _ _ => oSf)
    refine oWk.st st ?_
    refine oWk.st (fun _ kt => zT X hx hby at_136 rfl rfl rfl (l' := #[iv p0, iv p1, iv p2, rv c0, rv c1, rv c2, rv c3, rv u0, rv u1, iv 2, iv mm, iv ix, rv ord, rv uno, uu, uu]) rfl kt) ?_
    show oWk _ _ _ _ T (mkF m 138 #[iv p0, iv p1, iv p2, rv c0, rv c1, rv c2, rv c3, rv u0, rv u1, iv 2, iv mm, iv ix, rv ord, rv uno, uu, uu] [])
    have cm := oRem3 hmm
    rcases cm with rfl | rfl | rfl
    · show oWk _ _ _ _ T (mkF m 138 #[iv p0, iv p1, iv p2, rv c0, rv c1, rv c2, rv c3, rv u0, rv u1, iv 2, iv 0, iv ix, rv ord, rv uno, uu, uu] [])
      refine oWk.st (fun _ kt => zJ X hx hby at_138 rfl rfl (zK X hx hby at_140 rfl (zY X hx hby at_141 rfl rfl (tlt (by decide)).1 (pc' := 152) rfl (zJ X hx hby at_152 rfl rfl (zK X hx hby at_154 rfl (zY X hx hby at_155 rfl rfl (tlt (by decide)).1 (pc' := 166) rfl kt)))))) ?_
      obtain ⟨par, g55⟩ : ∃ z, z = h.size := ⟨_, rfl⟩
      have V_xd := ((V_xd.ext E52).keep K53.1 (ninS ne_xd_uno nin0))
      have ne_xd_par : xd ≠ par := Nat.ne_of_lt (Nat.lt_of_lt_of_le V_xd.lt (Nat.le_of_eq g55.symm))
      have E_xq := ((E_xq.ext E52).keep K53.1)
      have ne_xq_par : xq ≠ par := Nat.ne_of_lt (Nat.lt_of_lt_of_le E_xq.lt (Nat.le_of_eq g55.symm))
      have E_c0 := ((E_c0.ext E52).keep K53.1)
      have ne_c0_par : c0 ≠ par := Nat.ne_of_lt (Nat.lt_of_lt_of_le E_c0.lt (Nat.le_of_eq g55.symm))
      have E_c1 := ((E_c1.ext E52).keep K53.1)
      have ne_c1_par : c1 ≠ par := Nat.ne_of_lt (Nat.lt_of_lt_of_le E_c1.lt (Nat.le_of_eq g55.symm))
      have E_c2 := ((E_c2.ext E52).keep K53.1)
      have ne_c2_par : c2 ≠ par := Nat.ne_of_lt (Nat.lt_of_lt_of_le E_c2.lt (Nat.le_of_eq g55.symm))
      have E_c3 := ((E_c3.ext E52).keep K53.1)
      have ne_c3_par : c3 ≠ par := Nat.ne_of_lt (Nat.lt_of_lt_of_le E_c3.lt (Nat.le_of_eq g55.symm))
      have E_u0 := ((E_u0.ext E52).keep K53.1)
      have ne_u0_par : u0 ≠ par := Nat.ne_of_lt (Nat.lt_of_lt_of_le E_u0.lt (Nat.le_of_eq g55.symm))
      have E_u1 := ((E_u1.ext E52).keep K53.1)
      have ne_u1_par : u1 ≠ par := Nat.ne_of_lt (Nat.lt_of_lt_of_le E_u1.lt (Nat.le_of_eq g55.symm))
      have E_ord := ((E_ord.ext E52).keep K53.1)
      have ne_ord_par : ord ≠ par := Nat.ne_of_lt (Nat.lt_of_lt_of_le E_ord.lt (Nat.le_of_eq g55.symm))
      have E_nd83 := ((E_nd83.ext E52).keep K53.1)
      have ne_nd83_par : nd83 ≠ par := Nat.ne_of_lt (Nat.lt_of_lt_of_le E_nd83.lt (Nat.le_of_eq g55.symm))
      have ne_uno_par : uno ≠ par := Nat.ne_of_lt (Nat.lt_of_lt_of_le E_uno.lt (Nat.le_of_eq g55.symm))
      have ge_par : h0.size ≤ par := Nat.le_trans K.le (Nat.le_of_eq g55.symm)
      obtain ⟨T, h, X, e0, E55, A55, D55, -, st⟩ := newO X hx hZ hown (oW hw 7 rfl) (oW hw 8 rfl) (oW hw 9 rfl) e0 (g := (mkF m 166 #[iv p0, iv p1, iv p2, rv c0, rv c1, rv c2, rv c3, rv u0, rv u1, iv 2, iv 0, iv ix, rv ord, rv uno, uu, uu] [])) rfl (hb hby at_166) (by decide) (by decide)
      rw [← g55] at A55 D55 st
      refine oWk.st st ?_
      have K := K.ext E55
      have B := B.ext E55
      have E_par := A55
      have F_kind_par : Fld Z h par Y4 "kind" Y13 .null := D55 (Or.inr (oW hw 89 rfl)) (ty := (.object Y7)) (by decide)
      have F_name_par : Fld Z h par Y4 "name" Y14 .null := D55 (Or.inr (oW hw 91 rfl)) (ty := (.object Y9)) (by decide)
      have F_ordered_par : Fld Z h par Y4 "ordered" Y5 .null := D55 (Or.inr (oW hw 93 rfl)) (ty := (.object Y3)) (by decide)
      have F_unordered_par : Fld Z h par Y4 "unordered" Y5 .null := D55 (Or.inr (oW hw 95 rfl)) (ty := (.object Y3)) (by decide)
      refine oWk.st (fun _ kt => zD X hx hby at_169 rfl rfl rfl kt) ?_
      have Oh := K.old O0 all0
      obtain ⟨T, X, e0, st⟩ := getS2 X hx hZ hown (host := "") (Or.inl (oW hw 98 rfl)) Via.refl e0 (S_JOIN.ext Oh) (g := (mkF m 170 #[iv p0, iv p1, iv p2, rv c0, rv c1, rv c2, rv c3, rv u0, rv u1, iv 2, iv 0, iv ix, rv ord, rv uno, uu, uu] [(.ref par), (.ref par)])) rfl (hb hby at_170)
      refine oWk.st st ?_
      obtain ⟨lit, T, h, X, e2, E56, hZ, hown, B, C, st⟩ := oLdcO X hx hZ hown (oW hw 10 rfl) (oSA hw) e0 (oELw hw) B (g := (mkF m 173 #[iv p0, iv p1, iv p2, rv c0, rv c1, rv c2, rv c3, rv u0, rv u1, iv 2, iv 0, iv ix, rv ord, rv uno, uu, uu] [(.ref kJOIN), (.ref par), (.ref par)])) rfl (hb hby at_173) (n := 0) (by decide) (by decide) (by decide) (by decide)
      have e0 := e2
      refine oWk.st st ?_
      have K := K.ext E56
      refine oWk.st (fun _ kt => zB X hx hby at_175 rfl rfl rfl (zB X hx hby at_177 rfl rfl rfl kt)) ?_
      have E_par := (E_par.ext E56)
      have F_kind_par := (F_kind_par.ext E56)
      have F_name_par := (F_name_par.ext E56)
      have F_ordered_par := (F_ordered_par.ext E56)
      have F_unordered_par := (F_unordered_par.ext E56)
      have E_ord := ((E_ord.ext E55).ext E56)
      have F_elementData_ord := ((((F_elementData_ord.ext E52).keep K53.1 (ninS ne_ord_uno nin0)).ext E55).ext E56)
      have F_size_ord := ((((F_size_ord.ext E52).keep K53.1 (ninS ne_ord_uno nin0)).ext E55).ext E56)
      have E_nd83 := ((E_nd83.ext E55).ext E56)
      have V_nd83 := ((((V_nd83.ext E52).keep K53.1 (ninS ne_nd83_uno nin0)).ext E55).ext E56)
      have E_c0 := ((E_c0.ext E55).ext E56)
      have E_c1 := ((E_c1.ext E55).ext E56)
      have E_uno := ((E_uno.ext E55).ext E56)
      have F_size_uno := ((F_size_uno.ext E55).ext E56)
      have Oh := K.old O0 all0
      obtain ⟨_, _, ⟨T, L58, k58, n58⟩, -, X, hS, hgr, ⟨Lc58, hQ, l58, y58, z58, C⟩, st⟩ := X.specialBackS hx (y := yy7) rfl hown (mvT hZ (oW hw 44 rfl)) (mvT hZ (oW hw 45 rfl)) (mvT hZ (oW hw 46 rfl)) (by decide) (oBackH (W := 1) (rNI_2_0 l Z a0 hw [] par kJOIN lit .null .null .null .null ord nd83 nk83 c0 c1 uno xl xmr h Oh S_EMPTY_LIST mm_ (Nat.le_trans O0.1 ge_par) E_par F_kind_par F_name_par F_ordered_par F_unordered_par E_ord F_elementData_ord F_size_ord E_nd83 V_nd83 (Ins.of_exa E_c0 (oW hw 129 rfl)) (Ins.of_exa E_c1 (oW hw 129 rfl)) E_uno F_size_uno) hZ (oW hw 46 rfl) (oW hw 9 rfl) (by decide) (by decide) (oELw hw) B.2.1 (allS ⟨E_par.lt, oSf⟩ all0)) (g := (mkF m 179 #[iv p0, iv p1, iv p2, rv c0, rv c1, rv c2, rv c3, rv u0, rv u1, iv 2, iv 0, iv ix, rv ord, rv uno, uu, uu] [(.ref uno), (.ref ord), (.ref lit), (.ref kJOIN), (.ref par), (.ref par)])) rfl (by rw [hml]; rfl) (Steps.refl _) (a := par) (argsL := [(.ref kJOIN), (.ref lit), (.ref ord), (.ref uno)]) (rest := [(.ref par)]) (lenOf pd_5 rfl) rfl (Nat.le_of_eq rfl) (hb hby at_179) (fun _ _ => ⟨rfl, e0, (by decide : 60 + 6 ≤ _), (by decide : 348 + 44 ≤ _)⟩)
      dsimp only [Pt.U, Pt.locs, Pt.cells, Pt.slots] at X l58 y58 z58 st hQ C hS hgr
      subst l58 y58 z58
      have X : Stand p l e _ (s.setVm T.vm) m _ below meth c T _ _ _ := X
      obtain ⟨h, e2⟩ : ∃ z, T.heap = z := ⟨_, rfl⟩
      have B := B.call e0 hS hgr C e2
      obtain ⟨hZ, hown⟩ := oWide hZ hown hS
      rw [e2] at hQ C
      have e0 := e2
      obtain ⟨nl, rfl, K57, E_par, F_ordered_par, E_nl, F_e0_nl, F_e1_nl⟩ := hQ
      have K := K.call K57 (allS (Or.inr ge_par) all0)
      refine oWk.tr st ?_
      refine oWk.st (fun _ kt => zT X hx hby at_182 rfl rfl rfl (l' := #[iv p0, iv p1, iv p2, rv c0, rv c1, rv c2, rv c3, rv u0, rv u1, iv 2, iv 0, iv ix, rv ord, rv uno, rv par, uu]) rfl kt) ?_
      show oWk _ _ _ _ T (mkF m 184 #[iv p0, iv p1, iv p2, rv c0, rv c1, rv c2, rv c3, rv u0, rv u1, iv 2, iv 0, iv ix, rv ord, rv uno, rv par, uu] [])
      have ci := oRem2 hix
      rcases ci with rfl | rfl
      · show oWk _ _ _ _ T (mkF m 184 #[iv p0, iv p1, iv p2, rv c0, rv c1, rv c2, rv c3, rv u0, rv u1, iv 2, iv 0, iv 0, rv ord, rv uno, rv par, uu] [])
        refine oWk.st (fun _ kt => zJ X hx hby at_184 rfl rfl (zH X hx hby at_186 rfl rfl ((if0 _ _).trans (teq (by decide)).2) (zA X hx hby at_189 rfl rfl rfl (zT X hx hby at_190 rfl rfl rfl (l' := #[iv p0, iv p1, iv p2, rv c0, rv c1, rv c2, rv c3, rv u0, rv u1, iv 2, iv 0, iv 0, rv ord, rv uno, rv par, rv c0]) rfl (zG X hx hby at_192 rfl (pc' := 225) rfl (zB X hx hby at_225 rfl rfl rfl (zJ X hx hby at_227 rfl rfl kt))))))) ?_
        have E_c0 := (E_c0.keep K57.1)
        have Oh := K.old O0 all0
        obtain ⟨T, L60, X, e0, K, st⟩ := (cs22 hw).pure X hx hZ hown e0 K (A := [(.ref par), (.int (0 : Int32))]) ⟨rfl, _, _, rfl, E_par⟩ (rNd_2_0 l Z a0 hw [] par nl c0 c1 xq h Oh S_EMPTY F_ordered_par E_nl F_e0_nl F_e1_nl E_c0) (fun _ _ _ q => q) (W := 0) (by decide) hml (Ls := #[iv p0, iv p1, iv p2, rv c0, rv c1, rv c2, rv c3, rv u0, rv u1, iv 2, iv 0, iv 0, rv ord, rv uno, rv par, rv c0]) rfl (rest := []) rfl rfl hby at_229
        refine oWk.st st ?_
        refine oWk.st (fun _ kt => zB X hx hby at_232 rfl rfl rfl kt) ?_
        refine oWk.st (fun _ kt => Jvm.RoadKit.acmp (g := (mkF m 234 #[iv p0, iv p1, iv p2, rv c0, rv c1, rv c2, rv c3, rv u0, rv u1, iv 2, iv 0, iv 0, rv ord, rv uno, rv par, rv c0] [(.ref c0), (.ref c0)])) X hx rfl rfl rfl (pc0 := 234) (pc' := 237) (same := true) rfl (hb hby at_234) rfl (decide_eq_true rfl) (by decide) (by decide) kt) ?_
        show oWk _ _ _ _ T (mkF m 237 #[iv p0, iv p1, iv p2, rv c0, rv c1, rv c2, rv c3, rv u0, rv u1, iv 2, iv 0, iv 0, rv ord, rv uno, rv par, rv c0] [])
        refine oWk.st (fun _ kt => zK X hx hby at_237 rfl (zG X hx hby at_238 rfl (pc' := 242) rfl kt)) ?_
        show oWk _ _ _ _ T (mkF m 242 #[iv p0, iv p1, iv p2, rv c0, rv c1, rv c2, rv c3, rv u0, rv u1, iv 2, iv 0, iv 0, rv ord, rv uno, rv par, rv c0] [(.int 1)])
        exact oRetH X hx hlk hZ (oELw hw) e0 B hret (oNar01 (Or.inr rfl)) (Or.inl ⟨rfl, Or.inr (Or.inl rfl), _, rfl⟩) (hb hby at_242) (by rw [e0]; exact ⟨rfl, K.fr⟩) (by decide) (by decide)
      · show oWk _ _ _ _ T (mkF m 184 #[iv p0, iv p1, iv p2, rv c0, rv c1, rv c2, rv c3, rv u0, rv u1, iv 2, iv 0, iv 1, rv ord, rv uno, rv par, uu] [])
        refine oWk.st (fun _ kt => zJ X hx hby at_184 rfl rfl (zF X hx hby at_186 rfl rfl ((if0 _ _).trans (feq (by decide)).2) (pc' := 195) rfl (zJ X hx hby at_195 rfl rfl (zK X hx hby at_197 rfl (zN X hx hby at_198 rfl rfl (teq (by decide)).2 (zB X hx hby at_201 rfl rfl rfl (zT X hx hby at_203 rfl rfl rfl (l' := #[iv p0, iv p1, iv p2, rv c0, rv c1, rv c2, rv c3, rv u0, rv u1, iv 2, iv 0, iv 1, rv ord, rv uno, rv par, rv c1]) rfl (zG X hx hby at_205 rfl (pc' := 225) rfl kt)))))))) ?_
        show oWk _ _ _ _ T (mkF m 225 #[iv p0, iv p1, iv p2, rv c0, rv c1, rv c2, rv c3, rv u0, rv u1, iv 2, iv 0, iv 1, rv ord, rv uno, rv par, rv c1] [])
        refine oWk.st (fun _ kt => zB X hx hby at_225 rfl rfl rfl (zJ X hx hby at_227 rfl rfl kt)) ?_
        have E_c1 := (E_c1.keep K57.1)
        have Oh := K.old O0 all0
        obtain ⟨T, L62, X, e0, K, st⟩ := (cs22 hw).pure X hx hZ hown e0 K (A := [(.ref par), (.int (1 : Int32))]) ⟨rfl, _, _, rfl, E_par⟩ (rNd_2_1 l Z a0 hw [] par nl c0 c1 xq h Oh S_EMPTY F_ordered_par E_nl F_e0_nl F_e1_nl E_c1 (Ne.symm ne_xq_c1)) (fun _ _ _ q => q) (W := 0) (by decide) hml (Ls := #[iv p0, iv p1, iv p2, rv c0, rv c1, rv c2, rv c3, rv u0, rv u1, iv 2, iv 0, iv 1, rv ord, rv uno, rv par, rv c1]) rfl (rest := []) rfl rfl hby at_229
        refine oWk.st st ?_
        refine oWk.st (fun _ kt => zB X hx hby at_232 rfl rfl rfl kt) ?_
        refine oWk.st (fun _ kt => Jvm.RoadKit.acmp (g := (mkF m 234 #[iv p0, iv p1, iv p2, rv c0, rv c1, rv c2, rv c3, rv u0, rv u1, iv 2, iv 0, iv 1, rv ord, rv uno, rv par, rv c1] [(.ref c1), (.ref c1)])) X hx rfl rfl rfl (pc0 := 234) (pc' := 237) (same := true) rfl (hb hby at_234) rfl (decide_eq_true rfl) (by decide) (by decide) kt) ?_
        show oWk _ _ _ _ T (mkF m 237 #[iv p0, iv p1, iv p2, rv c0, rv c1, rv c2, rv c3, rv u0, rv u1, iv 2, iv 0, iv 1, rv ord, rv uno, rv par, rv c1] [])
        refine oWk.st (fun _ kt => zK X hx hby at_237 rfl (zG X hx hby at_238 rfl (pc' := 242) rfl kt)) ?_
        show oWk _ _ _ _ T (mkF m 242 #[iv p0, iv p1, iv p2, rv c0, rv c1, rv c2, rv c3, rv u0, rv u1, iv 2, iv 0, iv 1, rv ord, rv uno, rv par, rv c1] [(.int 1)])
        exact oRetH X hx hlk hZ (oELw hw) e0 B hret (oNar01 (Or.inr rfl)) (Or.inl ⟨rfl, Or.inr (Or.inl rfl), _, rfl⟩) (hb hby at_242) (by rw [e0]; exact ⟨rfl, K.fr⟩) (by decide) (by decide)
    · show oWk _ _ _ _ T (mkF m 138 #[iv p0, iv p1, iv p2, rv c0, rv c1, rv c2, rv c3, rv u0, rv u1, iv 2, iv 1, iv ix, rv ord, rv uno, uu, uu] [])
      refine oWk.st (fun _ kt => zJ X hx hby at_138 rfl rfl (zK X hx hby at_140 rfl (zN X hx hby at_141 rfl rfl (flt (by decide)).1 (zB X hx hby at_144 rfl rfl rfl (zB X hx hby at_146 rfl rfl rfl kt))))) ?_
      have V_xd := ((V_xd.ext E52).keep K53.1 (ninS ne_xd_uno nin0))
      have E_u0 := ((E_u0.ext E52).keep K53.1)
      have lt_xd := V_xd.lt
      have E_xq := ((E_xq.ext E52).keep K53.1)
      have lt_xq := E_xq.lt
      have E_c0 := ((E_c0.ext E52).keep K53.1)
      have lt_c0 := E_c0.lt
      have E_c1 := ((E_c1.ext E52).keep K53.1)
      have lt_c1 := E_c1.lt
      have E_c2 := ((E_c2.ext E52).keep K53.1)
      have lt_c2 := E_c2.lt
      have E_c3 := ((E_c3.ext E52).keep K53.1)
      have lt_c3 := E_c3.lt
      have lt_u0 := E_u0.lt
      have E_u1 := ((E_u1.ext E52).keep K53.1)
      have lt_u1 := E_u1.lt
      have E_ord := ((E_ord.ext E52).keep K53.1)
      have lt_ord := E_ord.lt
      have E_nd83 := ((E_nd83.ext E52).keep K53.1)
      have lt_nd83 := E_nd83.lt
      have lt_uno := E_uno.lt
      have Oh := K.old O0 all0
      obtain ⟨_, T, h, Lc64, X, e0, hQ, st⟩ := (cs12 hw).run X hx hZ hown e0 (A := [(.ref uno), (.ref u0)]) ⟨rfl, _, _, rfl, E_uno⟩ (rAd_0 l Z a0 hw [] uno u0 xd xk (0 : Int32) h Oh S_DEFAULTCAPACITY_EMPTY_ELEMENTDATA (Nat.le_trans O0.1 ge_uno) E_uno F_elementData_uno F_size_uno F_modCount_uno V_xd (Ins.of_exa E_u0 (oW hw 129 rfl)) (Ne.symm ne_u0_uno) (Ne.symm ne_xd_uno)) (W := 0) (by decide) hml (Ls := #[iv p0, iv p1, iv p2, rv c0, rv c1, rv c2, rv c3, rv u0, rv u1, iv 2, iv 1, iv ix, rv ord, rv uno, uu, uu]) rfl (rest := []) rfl rfl hby at_148
      obtain ⟨nd148, nk148, rfl, K63, E_uno, F_elementData_uno, F_size_uno, F_modCount_uno, gn_nd148, E_nd148, V_nd148, ov_nk148⟩ := hQ
      have ge_nd148 := Nat.le_trans K.le gn_nd148
      have ne_xd_nd148 : xd ≠ nd148 := Nat.ne_of_lt (Nat.lt_of_lt_of_le lt_xd gn_nd148)
      have ne_xq_nd148 : xq ≠ nd148 := Nat.ne_of_lt (Nat.lt_of_lt_of_le lt_xq gn_nd148)
      have ne_c0_nd148 : c0 ≠ nd148 := Nat.ne_of_lt (Nat.lt_of_lt_of_le lt_c0 gn_nd148)
      have ne_c1_nd148 : c1 ≠ nd148 := Nat.ne_of_lt (Nat.lt_of_lt_of_le lt_c1 gn_nd148)
      have ne_c2_nd148 : c2 ≠ nd148 := Nat.ne_of_lt (Nat.lt_of_lt_of_le lt_c2 gn_nd148)
      have ne_c3_nd148 : c3 ≠ nd148 := Nat.ne_of_lt (Nat.lt_of_lt_of_le lt_c3 gn_nd148)
      have ne_u0_nd148 : u0 ≠ nd148 := Nat.ne_of_lt (Nat.lt_of_lt_of_le lt_u0 gn_nd148)
      have ne_u1_nd148 : u1 ≠ nd148 := Nat.ne_of_lt (Nat.lt_of_lt_of_le lt_u1 gn_nd148)
      have ne_ord_nd148 : ord ≠ nd148 := Nat.ne_of_lt (Nat.lt_of_lt_of_le lt_ord gn_nd148)
      have ne_nd83_nd148 : nd83 ≠ nd148 := Nat.ne_of_lt (Nat.lt_of_lt_of_le lt_nd83 gn_nd148)
      have ne_uno_nd148 : uno ≠ nd148 := Nat.ne_of_lt (Nat.lt_of_lt_of_le lt_uno gn_nd148)
      have K := K.call K63 (allS (Or.inr ge_uno) all0)
      have B := B.keep K63.1 (fun _ _ => oSf)
      refine oWk.st st ?_
      refine oWk.st (fun _ kt => XS.pop X.here hx rfl (hb hby at_151) rfl rfl (zJ X hx hby at_152 rfl rfl (zK X hx hby at_154 rfl (zY X hx hby at_155 rfl rfl (tlt (by decide)).1 (pc' := 166) rfl kt)))) ?_
      obtain ⟨par, g65⟩ : ∃ z, z = h.size := ⟨_, rfl⟩
      have V_xd := (V_xd.keep K63.1 (ninS ne_xd_uno nin0))
      have ne_xd_par : xd ≠ par := Nat.ne_of_lt (Nat.lt_of_lt_of_le V_xd.lt (Nat.le_of_eq g65.symm))
      have E_xq := (E_xq.keep K63.1)
      have ne_xq_par : xq ≠ par := Nat.ne_of_lt (Nat.lt_of_lt_of_le E_xq.lt (Nat.le_of_eq g65.symm))
      have E_c0 := (E_c0.keep K63.1)
      have ne_c0_par : c0 ≠ par := Nat.ne_of_lt (Nat.lt_of_lt_of_le E_c0.lt (Nat.le_of_eq g65.symm))
      have E_c1 := (E_c1.keep K63.1)
      have ne_c1_par : c1 ≠ par := Nat.ne_of_lt (Nat.lt_of_lt_of_le E_c1.lt (Nat.le_of_eq g65.symm))
      have E_c2 := (E_c2.keep K63.1)
      have ne_c2_par : c2 ≠ par := Nat.ne_of_lt (Nat.lt_of_lt_of_le E_c2.lt (Nat.le_of_eq g65.symm))
      have E_c3 := (E_c3.keep K63.1)
      have ne_c3_par : c3 ≠ par := Nat.ne_of_lt (Nat.lt_of_lt_of_le E_c3.lt (Nat.le_of_eq g65.symm))
      have E_u0 := (E_u0.keep K63.1)
      have ne_u0_par : u0 ≠ par := Nat.ne_of_lt (Nat.lt_of_lt_of_le E_u0.lt (Nat.le_of_eq g65.symm))
      have E_u1 := (E_u1.keep K63.1)
      have ne_u1_par : u1 ≠ par := Nat.ne_of_lt (Nat.lt_of_lt_of_le E_u1.lt (Nat.le_of_eq g65.symm))
      have E_ord := (E_ord.keep K63.1)
      have ne_ord_par : ord ≠ par := Nat.ne_of_lt (Nat.lt_of_lt_of_le E_ord.lt (Nat.le_of_eq g65.symm))
      have E_nd83 := (E_nd83.keep K63.1)
      have ne_nd83_par : nd83 ≠ par := Nat.ne_of_lt (Nat.lt_of_lt_of_le E_nd83.lt (Nat.le_of_eq g65.symm))
      have ne_uno_par : uno ≠ par := Nat.ne_of_lt (Nat.lt_of_lt_of_le E_uno.lt (Nat.le_of_eq g65.symm))
      have ne_nd148_par : nd148 ≠ par := Nat.ne_of_lt (Nat.lt_of_lt_of_le E_nd148.lt (Nat.le_of_eq g65.symm))
      have ge_par : h0.size ≤ par := Nat.le_trans K.le (Nat.le_of_eq g65.symm)
      obtain ⟨T, h, X, e0, E65, A65, D65, -, st⟩ := newO X hx hZ hown (oW hw 7 rfl) (oW hw 8 rfl) (oW hw 9 rfl) e0 (g := (mkF m 166 #[iv p0, iv p1, iv p2, rv c0, rv c1, rv c2, rv c3, rv u0, rv u1, iv 2, iv 1, iv ix, rv ord, rv uno, uu, uu] [])) rfl (hb hby at_166) (by decide) (by decide)
      rw [← g65] at A65 D65 st
      refine oWk.st st ?_
      have K := K.ext E65
      have B := B.ext E65
      have E_par := A65
      have F_kind_par : Fld Z h par Y4 "kind" Y13 .null := D65 (Or.inr (oW hw 89 rfl)) (ty := (.object Y7)) (by decide)
      have F_name_par : Fld Z h par Y4 "name" Y14 .null := D65 (Or.inr (oW hw 91 rfl)) (ty := (.object Y9)) (by decide)
      have F_ordered_par : Fld Z h par Y4 "ordered" Y5 .null := D65 (Or.inr (oW hw 93 rfl)) (ty := (.object Y3)) (by decide)
      have F_unordered_par : Fld Z h par Y4 "unordered" Y5 .null := D65 (Or.inr (oW hw 95 rfl)) (ty := (.object Y3)) (by decide)
      refine oWk.st (fun _ kt => zD X hx hby at_169 rfl rfl rfl kt) ?_
      have Oh := K.old O0 all0
      obtain ⟨T, X, e0, st⟩ := getS2 X hx hZ hown (host := "") (Or.inl (oW hw 98 rfl)) Via.refl e0 (S_JOIN.ext Oh) (g := (mkF m 170 #[iv p0, iv p1, iv p2, rv c0, rv c1, rv c2, rv c3, rv u0, rv u1, iv 2, iv 1, iv ix, rv ord, rv uno, uu, uu] [(.ref par), (.ref par)])) rfl (hb hby at_170)
      refine oWk.st st ?_
      obtain ⟨lit, T, h, X, e2, E66, hZ, hown, B, C, st⟩ := oLdcO X hx hZ hown (oW hw 10 rfl) (oSA hw) e0 (oELw hw) B (g := (mkF m 173 #[iv p0, iv p1, iv p2, rv c0, rv c1, rv c2, rv c3, rv u0, rv u1, iv 2, iv 1, iv ix, rv ord, rv uno, uu, uu] [(.ref kJOIN), (.ref par), (.ref par)])) rfl (hb hby at_173) (n := 0) (by decide) (by decide) (by decide) (by decide)
      have e0 := e2
      refine oWk.st st ?_
      have K := K.ext E66
      refine oWk.st (fun _ kt => zB X hx hby at_175 rfl rfl rfl (zB X hx hby at_177 rfl rfl rfl kt)) ?_
      have E_par := (E_par.ext E66)
      have F_kind_par := (F_kind_par.ext E66)
      have F_name_par := (F_name_par.ext E66)
      have F_ordered_par := (F_ordered_par.ext E66)
      have F_unordered_par := (F_unordered_par.ext E66)
      have E_ord := ((E_ord.ext E65).ext E66)
      have F_elementData_ord := (((((F_elementData_ord.ext E52).keep K53.1 (ninS ne_ord_uno nin0)).keep K63.1 (ninS ne_ord_uno nin0)).ext E65).ext E66)
      have F_size_ord := (((((F_size_ord.ext E52).keep K53.1 (ninS ne_ord_uno nin0)).keep K63.1 (ninS ne_ord_uno nin0)).ext E65).ext E66)
      have E_nd83 := ((E_nd83.ext E65).ext E66)
      have V_nd83 := (((((V_nd83.ext E52).keep K53.1 (ninS ne_nd83_uno nin0)).keep K63.1 (ninS ne_nd83_uno nin0)).ext E65).ext E66)
      have E_c0 := ((E_c0.ext E65).ext E66)
      have E_c1 := ((E_c1.ext E65).ext E66)
      have E_uno := ((E_uno.ext E65).ext E66)
      have F_elementData_uno := ((F_elementData_uno.ext E65).ext E66)
      have F_size_uno := ((F_size_uno.ext E65).ext E66)
      have E_nd148 := ((E_nd148.ext E65).ext E66)
      have V_nd148 := ((V_nd148.ext E65).ext E66)
      have E_u0 := ((E_u0.ext E65).ext E66)
      have Oh := K.old O0 all0
      obtain ⟨_, _, ⟨T, L68, k68, n68⟩, -, X, hS, hgr, ⟨Lc68, hQ, l68, y68, z68, C⟩, st⟩ := X.specialBackS hx (y := yy7) rfl hown (mvT hZ (oW hw 44 rfl)) (mvT hZ (oW hw 45 rfl)) (mvT hZ (oW hw 46 rfl)) (by decide) (oBackH (W := 1) (rNI_2_1 l Z a0 hw [] par kJOIN lit .null .null .null .null ord nd83 nk83 c0 c1 uno nd148 nk148 u0 xq xmr h Oh S_EMPTY mm_ (Nat.le_trans O0.1 ge_par) E_par F_kind_par F_name_par F_ordered_par F_unordered_par E_ord F_elementData_ord F_size_ord E_nd83 V_nd83 (Ins.of_exa E_c0 (oW hw 129 rfl)) (Ins.of_exa E_c1 (oW hw 129 rfl)) E_uno F_elementData_uno F_size_uno E_nd148 V_nd148 (Ins.of_exa E_u0 (oW hw 129 rfl))) hZ (oW hw 46 rfl) (oW hw 9 rfl) (by decide) (by decide) (oELw hw) B.2.1 (allS ⟨E_par.lt, oSf⟩ all0)) (g := (mkF m 179 #[iv p0, iv p1, iv p2, rv c0, rv c1, rv c2, rv c3, rv u0, rv u1, iv 2, iv 1, iv ix, rv ord, rv uno, uu, uu] [(.ref uno), (.ref ord), (.ref lit), (.ref kJOIN), (.ref par), (.ref par)])) rfl (by rw [hml]; rfl) (Steps.refl _) (a := par) (argsL := [(.ref kJOIN), (.ref lit), (.ref ord), (.ref uno)]) (rest := [(.ref par)]) (lenOf pd_5 rfl) rfl (Nat.le_of_eq rfl) (hb hby at_179) (fun _ _ => ⟨rfl, e0, (by decide : 61 + 8 ≤ _), (by decide : 358 + 47 ≤ _)⟩)
      dsimp only [Pt.U, Pt.locs, Pt.cells, Pt.slots] at X l68 y68 z68 st hQ C hS hgr
      subst l68 y68 z68
      have X : Stand p l e _ (s.setVm T.vm) m _ below meth c T _ _ _ := X
      obtain ⟨h, e2⟩ : ∃ z, T.heap = z := ⟨_, rfl⟩
      have B := B.call e0 hS hgr C e2
      obtain ⟨hZ, hown⟩ := oWide hZ hown hS
      rw [e2] at hQ C
      have e0 := e2
      obtain ⟨nl, rfl, K67, E_par, F_ordered_par, E_nl, F_e0_nl, F_e1_nl⟩ := hQ
      have K := K.call K67 (allS (Or.inr ge_par) all0)
      refine oWk.tr st ?_
      refine oWk.st (fun _ kt => zT X hx hby at_182 rfl rfl rfl (l' := #[iv p0, iv p1, iv p2, rv c0, rv c1, rv c2, rv c3, rv u0, rv u1, iv 2, iv 1, iv ix, rv ord, rv uno, rv par, uu]) rfl kt) ?_
      show oWk _ _ _ _ T (mkF m 184 #[iv p0, iv p1, iv p2, rv c0, rv c1, rv c2, rv c3, rv u0, rv u1, iv 2, iv 1, iv ix, rv ord, rv uno, rv par, uu] [])
      have ci := oRem2 hix
      rcases ci with rfl | rfl
      · show oWk _ _ _ _ T (mkF m 184 #[iv p0, iv p1, iv p2, rv c0, rv c1, rv c2, rv c3, rv u0, rv u1, iv 2, iv 1, iv 0, rv ord, rv uno, rv par, uu] [])
        refine oWk.st (fun _ kt => zJ X hx hby at_184 rfl rfl (zH X hx hby at_186 rfl rfl ((if0 _ _).trans (teq (by decide)).2) (zA X hx hby at_189 rfl rfl rfl (zT X hx hby at_190 rfl rfl rfl (l' := #[iv p0, iv p1, iv p2, rv c0, rv c1, rv c2, rv c3, rv u0, rv u1, iv 2, iv 1, iv 0, rv ord, rv uno, rv par, rv c0]) rfl (zG X hx hby at_192 rfl (pc' := 225) rfl (zB X hx hby at_225 rfl rfl rfl (zJ X hx hby at_227 rfl rfl kt))))))) ?_
        have E_c0 := (E_c0.keep K67.1)
        have Oh := K.old O0 all0
        obtain ⟨T, L70, X, e0, K, st⟩ := (cs22 hw).pure X hx hZ hown e0 K (A := [(.ref par), (.int (0 : Int32))]) ⟨rfl, _, _, rfl, E_par⟩ (rNd_2_0 l Z a0 hw [] par nl c0 c1 xq h Oh S_EMPTY F_ordered_par E_nl F_e0_nl F_e1_nl E_c0) (fun _ _ _ q => q) (W := 0) (by decide) hml (Ls := #[iv p0, iv p1, iv p2, rv c0, rv c1, rv c2, rv c3, rv u0, rv u1, iv 2, iv 1, iv 0, rv ord, rv uno, rv par, rv c0]) rfl (rest := []) rfl rfl hby at_229
        refine oWk.st st ?_
        refine oWk.st (fun _ kt => zB X hx hby at_232 rfl rfl rfl kt) ?_
        refine oWk.st (fun _ kt => Jvm.RoadKit.acmp (g := (mkF m 234 #[iv p0, iv p1, iv p2, rv c0, rv c1, rv c2, rv c3, rv u0, rv u1, iv 2, iv 1, iv 0, rv ord, rv uno, rv par, rv c0] [(.ref c0), (.ref c0)])) X hx rfl rfl rfl (pc0 := 234) (pc' := 237) (same := true) rfl (hb hby at_234) rfl (decide_eq_true rfl) (by decide) (by decide) kt) ?_
        show oWk _ _ _ _ T (mkF m 237 #[iv p0, iv p1, iv p2, rv c0, rv c1, rv c2, rv c3, rv u0, rv u1, iv 2, iv 1, iv 0, rv ord, rv uno, rv par, rv c0] [])
        refine oWk.st (fun _ kt => zK X hx hby at_237 rfl (zG X hx hby at_238 rfl (pc' := 242) rfl kt)) ?_
        show oWk _ _ _ _ T (mkF m 242 #[iv p0, iv p1, iv p2, rv c0, rv c1, rv c2, rv c3, rv u0, rv u1, iv 2, iv 1, iv 0, rv ord, rv uno, rv par, rv c0] [(.int 1)])
        exact oRetH X hx hlk hZ (oELw hw) e0 B hret (oNar01 (Or.inr rfl)) (Or.inl ⟨rfl, Or.inr (Or.inl rfl), _, rfl⟩) (hb hby at_242) (by rw [e0]; exact ⟨rfl, K.fr⟩) (by decide) (by decide)
      · show oWk _ _ _ _ T (mkF m 184 #[iv p0, iv p1, iv p2, rv c0, rv c1, rv c2, rv c3, rv u0, rv u1, iv 2, iv 1, iv 1, rv ord, rv uno, rv par, uu] [])
        refine oWk.st (fun _ kt => zJ X hx hby at_184 rfl rfl (zF X hx hby at_186 rfl rfl ((if0 _ _).trans (feq (by decide)).2) (pc' := 195) rfl (zJ X hx hby at_195 rfl rfl (zK X hx hby at_197 rfl (zN X hx hby at_198 rfl rfl (teq (by decide)).2 (zB X hx hby at_201 rfl rfl rfl (zT X hx hby at_203 rfl rfl rfl (l' := #[iv p0, iv p1, iv p2, rv c0, rv c1, rv c2, rv c3, rv u0, rv u1, iv 2, iv 1, iv 1, rv ord, rv uno, rv par, rv c1]) rfl (zG X hx hby at_205 rfl (pc' := 225) rfl kt)))))))) ?_
        show oWk _ _ _ _ T (mkF m 225 #[iv p0, iv p1, iv p2, rv c0, rv c1, rv c2, rv c3, rv u0, rv u1, iv 2, iv 1, iv 1, rv ord, rv uno, rv par, rv c1] [])
        refine oWk.st (fun _ kt => zB X hx hby at_225 rfl rfl rfl (zJ X hx hby at_227 rfl rfl kt)) ?_
        have E_c1 := (E_c1.keep K67.1)
        have Oh := K.old O0 all0
        obtain ⟨T, L72, X, e0, K, st⟩ := (cs22 hw).pure X hx hZ hown e0 K (A := [(.ref par), (.int (1 : Int32))]) ⟨rfl, _, _, rfl, E_par⟩ (rNd_2_1 l Z a0 hw [] par nl c0 c1 xq h Oh S_EMPTY F_ordered_par E_nl F_e0_nl F_e1_nl E_c1 (Ne.symm ne_xq_c1)) (fun _ _ _ q => q) (W := 0) (by decide) hml (Ls := #[iv p0, iv p1, iv p2, rv c0, rv c1, rv c2, rv c3, rv u0, rv u1, iv 2, iv 1, iv 1, rv ord, rv uno, rv par, rv c1]) rfl (rest := []) rfl rfl hby at_229
        refine oWk.st st ?_
        refine oWk.st (fun _ kt => zB X hx hby at_232 rfl rfl rfl kt) ?_
        refine oWk.st (fun _ kt => Jvm.RoadKit.acmp (g := (mkF m 234 #[iv p0, iv p1, iv p2, rv c0, rv c1, rv c2, rv c3, rv u0, rv u1, iv 2, iv 1, iv 1, rv ord, rv uno, rv par, rv c1] [(.ref c1), (.ref c1)])) X hx rfl rfl rfl (pc0 := 234) (pc' := 237) (same := true) rfl (hb hby at_234) rfl (decide_eq_true rfl) (by decide) (by decide) kt) ?_
        show oWk _ _ _ _ T (mkF m 237 #[iv p0, iv p1, iv p2, rv c0, rv c1, rv c2, rv c3, rv u0, rv u1, iv 2, iv 1, iv 1, rv ord, rv uno, rv par, rv c1] [])
        refine oWk.st (fun _ kt => zK X hx hby at_237 rfl (zG X hx hby at_238 rfl (pc' := 242) rfl kt)) ?_
        show oWk _ _ _ _ T (mkF m 242 #[iv p0, iv p1, iv p2, rv c0, rv c1, rv c2, rv c3, rv u0, rv u1, iv 2, iv 1, iv 1, rv ord, rv uno, rv par, rv c1] [(.int 1)])
        exact oRetH X hx hlk hZ (oELw hw) e0 B hret (oNar01 (Or.inr rfl)) (Or.inl ⟨rfl, Or.inr (Or.inl rfl), _, rfl⟩) (hb hby at_242) (by rw [e0]; exact ⟨rfl, K.fr⟩) (by decide) (by decide)
    · show oWk _ _ _ _ T (mkF m 138 #[iv p0, iv p1, iv p2, rv c0, rv c1, rv c2, rv c3, rv u0, rv u1, iv 2, iv 2, iv ix, rv ord, rv uno, uu, uu] [])
      refine oWk.st (fun _ kt => zJ X hx hby at_138 rfl rfl (zK X hx hby at_140 rfl (zN X hx hby at_141 rfl rfl (flt (by decide)).1 (zB X hx hby at_144 rfl rfl rfl (zB X hx hby at_146 rfl rfl rfl kt))))) ?_
      have V_xd := ((V_xd.ext E52).keep K53.1 (ninS ne_xd_uno nin0))
      have E_u0 := ((E_u0.ext E52).keep K53.1)
      have lt_xd := V_xd.lt
      have E_xq := ((E_xq.ext E52).keep K53.1)
      have lt_xq := E_xq.lt
      have E_c0 := ((E_c0.ext E52).keep K53.1)
      have lt_c0 := E_c0.lt
      have E_c1 := ((E_c1.ext E52).keep K53.1)
      have lt_c1 := E_c1.lt
      have E_c2 := ((E_c2.ext E52).keep K53.1)
      have lt_c2 := E_c2.lt
      have E_c3 := ((E_c3.ext E52).keep K53.1)
      have lt_c3 := E_c3.lt
      have lt_u0 := E_u0.lt
      have E_u1 := ((E_u1.ext E52).keep K53.1)
      have lt_u1 := E_u1.lt
      have E_ord := ((E_ord.ext E52).keep K53.1)
      have lt_ord := E_ord.lt
      have E_nd83 := ((E_nd83.ext E52).keep K53.1)
      have lt_nd83 := E_nd83.lt
      have lt_uno := E_uno.lt
      have Oh := K.old O0 all0
      obtain ⟨_, T, h, Lc74, X, e0, hQ, st⟩ := (cs12 hw).run X hx hZ hown e0 (A := [(.ref uno), (.ref u0)]) ⟨rfl, _, _, rfl, E_uno⟩ (rAd_0 l Z a0 hw [] uno u0 xd xk (0 : Int32) h Oh S_DEFAULTCAPACITY_EMPTY_ELEMENTDATA (Nat.le_trans O0.1 ge_uno) E_uno F_elementData_uno F_size_uno F_modCount_uno V_xd (Ins.of_exa E_u0 (oW hw 129 rfl)) (Ne.symm ne_u0_uno) (Ne.symm ne_xd_uno)) (W := 0) (by decide) hml (Ls := #[iv p0, iv p1, iv p2, rv c0, rv c1, rv c2, rv c3, rv u0, rv u1, iv 2, iv 2, iv ix, rv ord, rv uno, uu, uu]) rfl (rest := []) rfl rfl hby at_148
      obtain ⟨nd148, nk148, rfl, K73, E_uno, F_elementData_uno, F_size_uno, F_modCount_uno, gn_nd148, E_nd148, V_nd148, ov_nk148⟩ := hQ
      have ge_nd148 := Nat.le_trans K.le gn_nd148
      have ne_xd_nd148 : xd ≠ nd148 := Nat.ne_of_lt (Nat.lt_of_lt_of_le lt_xd gn_nd148)
      have ne_xq_nd148 : xq ≠ nd148 := Nat.ne_of_lt (Nat.lt_of_lt_of_le lt_xq gn_nd148)
      have ne_c0_nd148 : c0 ≠ nd148 := Nat.ne_of_lt (Nat.lt_of_lt_of_le lt_c0 gn_nd148)
      have ne_c1_nd148 : c1 ≠ nd148 := Nat.ne_of_lt (Nat.lt_of_lt_of_le lt_c1 gn_nd148)
      have ne_c2_nd148 : c2 ≠ nd148 := Nat.ne_of_lt (Nat.lt_of_lt_of_le lt_c2 gn_nd148)
      have ne_c3_nd148 : c3 ≠ nd148 := Nat.ne_of_lt (Nat.lt_of_lt_of_le lt_c3 gn_nd148)
      have ne_u0_nd148 : u0 ≠ nd148 := Nat.ne_of_lt (Nat.lt_of_lt_of_le lt_u0 gn_nd148)
      have ne_u1_nd148 : u1 ≠ nd148 := Nat.ne_of_lt (Nat.lt_of_lt_of_le lt_u1 gn_nd148)
      have ne_ord_nd148 : ord ≠ nd148 := Nat.ne_of_lt (Nat.lt_of_lt_of_le lt_ord gn_nd148)
      have ne_nd83_nd148 : nd83 ≠ nd148 := Nat.ne_of_lt (Nat.lt_of_lt_of_le lt_nd83 gn_nd148)
      have ne_uno_nd148 : uno ≠ nd148 := Nat.ne_of_lt (Nat.lt_of_lt_of_le lt_uno gn_nd148)
      have K := K.call K73 (allS (Or.inr ge_uno) all0)
      have B := B.keep K73.1 (fun _ _ => oSf)
      refine oWk.st st ?_
      refine oWk.st (fun _ kt => XS.pop X.here hx rfl (hb hby at_151) rfl rfl (zJ X hx hby at_152 rfl rfl (zK X hx hby at_154 rfl (zN X hx hby at_155 rfl rfl (flt (by decide)).1 (zB X hx hby at_158 rfl rfl rfl (zB X hx hby at_160 rfl rfl rfl kt)))))) ?_
      have E_u1 := (E_u1.keep K73.1)
      have Oh := K.old O0 all0
      obtain ⟨_, T, h, Lc76, X, e0, hQ, st⟩ := (cs12 hw).run X hx hZ hown e0 (A := [(.ref uno), (.ref u1)]) ⟨rfl, _, _, rfl, E_uno⟩ (rAd_1 l Z a0 hw [] uno u1 nd148 nk148 ((0 : Int32) + (1 : Int32)) u0 h Oh (Nat.le_trans O0.1 ge_uno) (Nat.le_trans O0.1 ge_nd148) ne_uno_nd148 E_uno F_elementData_uno F_size_uno F_modCount_uno E_nd148 V_nd148 ov_nk148 (Ins.of_exa E_u1 (oW hw 129 rfl))) (W := 0) (by decide) hml (Ls := #[iv p0, iv p1, iv p2, rv c0, rv c1, rv c2, rv c3, rv u0, rv u1, iv 2, iv 2, iv ix, rv ord, rv uno, uu, uu]) rfl (rest := []) rfl rfl hby at_162
      obtain ⟨rfl, K75, E_uno, F_elementData_uno, F_size_uno, F_modCount_uno, E_nd148, V_nd148⟩ := hQ
      have K := K.call K75 (allS (Or.inr ge_uno) (allS (Or.inr ge_nd148) all0))
      have B := B.keep K75.1 (fun _ _ => oSf)
      refine oWk.st st ?_
      refine oWk.st (fun _ kt => XS.pop X.here hx rfl (hb hby at_165) rfl rfl kt) ?_
      obtain ⟨par, g77⟩ : ∃ z, z = h.size := ⟨_, rfl⟩
      have V_xd := ((V_xd.keep K73.1 (ninS ne_xd_uno nin0)).keep K75.1 (ninS ne_xd_uno (ninS ne_xd_nd148 nin0)))
      have ne_xd_par : xd ≠ par := Nat.ne_of_lt (Nat.lt_of_lt_of_le V_xd.lt (Nat.le_of_eq g77.symm))
      have E_xq := ((E_xq.keep K73.1).keep K75.1)
      have ne_xq_par : xq ≠ par := Nat.ne_of_lt (Nat.lt_of_lt_of_le E_xq.lt (Nat.le_of_eq g77.symm))
      have E_c0 := ((E_c0.keep K73.1).keep K75.1)
      have ne_c0_par : c0 ≠ par := Nat.ne_of_lt (Nat.lt_of_lt_of_le E_c0.lt (Nat.le_of_eq g77.symm))
      have E_c1 := ((E_c1.keep K73.1).keep K75.1)
      have ne_c1_par : c1 ≠ par := Nat.ne_of_lt (Nat.lt_of_lt_of_le E_c1.lt (Nat.le_of_eq g77.symm))
      have E_c2 := ((E_c2.keep K73.1).keep K75.1)
      have ne_c2_par : c2 ≠ par := Nat.ne_of_lt (Nat.lt_of_lt_of_le E_c2.lt (Nat.le_of_eq g77.symm))
      have E_c3 := ((E_c3.keep K73.1).keep K75.1)
      have ne_c3_par : c3 ≠ par := Nat.ne_of_lt (Nat.lt_of_lt_of_le E_c3.lt (Nat.le_of_eq g77.symm))
      have E_u0 := ((E_u0.keep K73.1).keep K75.1)
      have ne_u0_par : u0 ≠ par := Nat.ne_of_lt (Nat.lt_of_lt_of_le E_u0.lt (Nat.le_of_eq g77.symm))
      have E_u1 := (E_u1.keep K75.1)
      have ne_u1_par : u1 ≠ par := Nat.ne_of_lt (Nat.lt_of_lt_of_le E_u1.lt (Nat.le_of_eq g77.symm))
      have E_ord := ((E_ord.keep K73.1).keep K75.1)
      have ne_ord_par : ord ≠ par := Nat.ne_of_lt (Nat.lt_of_lt_of_le E_ord.lt (Nat.le_of_eq g77.symm))
      have E_nd83 := ((E_nd83.keep K73.1).keep K75.1)
      have ne_nd83_par : nd83 ≠ par := Nat.ne_of_lt (Nat.lt_of_lt_of_le E_nd83.lt (Nat.le_of_eq g77.symm))
      have ne_uno_par : uno ≠ par := Nat.ne_of_lt (Nat.lt_of_lt_of_le E_uno.lt (Nat.le_of_eq g77.symm))
      have ne_nd148_par : nd148 ≠ par := Nat.ne_of_lt (Nat.lt_of_lt_of_le E_nd148.lt (Nat.le_of_eq g77.symm))
      have ge_par : h0.size ≤ par := Nat.le_trans K.le (Nat.le_of_eq g77.symm)
      obtain ⟨T, h, X, e0, E77, A77, D77, -, st⟩ := newO X hx hZ hown (oW hw 7 rfl) (oW hw 8 rfl) (oW hw 9 rfl) e0 (g := (mkF m 166 #[iv p0, iv p1, iv p2, rv c0, rv c1, rv c2, rv c3, rv u0, rv u1, iv 2, iv 2, iv ix, rv ord, rv uno, uu, uu] [])) rfl (hb hby at_166) (by decide) (by decide)
      rw [← g77] at A77 D77 st
      refine oWk.st st ?_
      have K := K.ext E77
      have B := B.ext E77
      have E_par := A77
      have F_kind_par : Fld Z h par Y4 "kind" Y13 .null := D77 (Or.inr (oW hw 89 rfl)) (ty := (.object Y7)) (by decide)
      have F_name_par : Fld Z h par Y4 "name" Y14 .null := D77 (Or.inr (oW hw 91 rfl)) (ty := (.object Y9)) (by decide)
      have F_ordered_par : Fld Z h par Y4 "ordered" Y5 .null := D77 (Or.inr (oW hw 93 rfl)) (ty := (.object Y3)) (by decide)
      have F_unordered_par : Fld Z h par Y4 "unordered" Y5 .null := D77 (Or.inr (oW hw 95 rfl)) (ty := (.object Y3)) (by decide)
      refine oWk.st (fun _ kt => zD X hx hby at_169 rfl rfl rfl kt) ?_
      have Oh := K.old O0 all0
      obtain ⟨T, X, e0, st⟩ := getS2 X hx hZ hown (host := "") (Or.inl (oW hw 98 rfl)) Via.refl e0 (S_JOIN.ext Oh) (g := (mkF m 170 #[iv p0, iv p1, iv p2, rv c0, rv c1, rv c2, rv c3, rv u0, rv u1, iv 2, iv 2, iv ix, rv ord, rv uno, uu, uu] [(.ref par), (.ref par)])) rfl (hb hby at_170)
      refine oWk.st st ?_
      obtain ⟨lit, T, h, X, e2, E78, hZ, hown, B, C, st⟩ := oLdcO X hx hZ hown (oW hw 10 rfl) (oSA hw) e0 (oELw hw) B (g := (mkF m 173 #[iv p0, iv p1, iv p2, rv c0, rv c1, rv c2, rv c3, rv u0, rv u1, iv 2, iv 2, iv ix, rv ord, rv uno, uu, uu] [(.ref kJOIN), (.ref par), (.ref par)])) rfl (hb hby at_173) (n := 0) (by decide) (by decide) (by decide) (by decide)
      have e0 := e2
      refine oWk.st st ?_
      have K := K.ext E78
      refine oWk.st (fun _ kt => zB X hx hby at_175 rfl rfl rfl (zB X hx hby at_177 rfl rfl rfl kt)) ?_
      have E_par := (E_par.ext E78)
      have F_kind_par := (F_kind_par.ext E78)
      have F_name_par := (F_name_par.ext E78)
      have F_ordered_par := (F_ordered_par.ext E78)
      have F_unordered_par := (F_unordered_par.ext E78)
      have E_ord := ((E_ord.ext E77).ext E78)
      have F_elementData_ord := ((((((F_elementData_ord.ext E52).keep K53.1 (ninS ne_ord_uno nin0)).keep K73.1 (ninS ne_ord_uno nin0)).keep K75.1 (ninS ne_ord_uno (ninS ne_ord_nd148 nin0))).ext E77).ext E78)
      have F_size_ord := ((((((F_size_ord.ext E52).keep K53.1 (ninS ne_ord_uno nin0)).keep K73.1 (ninS ne_ord_uno nin0)).keep K75.1 (ninS ne_ord_uno (ninS ne_ord_nd148 nin0))).ext E77).ext E78)
      have E_nd83 := ((E_nd83.ext E77).ext E78)
      have V_nd83 := ((((((V_nd83.ext E52).keep K53.1 (ninS ne_nd83_uno nin0)).keep K73.1 (ninS ne_nd83_uno nin0)).keep K75.1 (ninS ne_nd83_uno (ninS ne_nd83_nd148 nin0))).ext E77).ext E78)
      have E_c0 := ((E_c0.ext E77).ext E78)
      have E_c1 := ((E_c1.ext E77).ext E78)
      have E_uno := ((E_uno.ext E77).ext E78)
      have F_elementData_uno := ((F_elementData_uno.ext E77).ext E78)
      have F_size_uno := ((F_size_uno.ext E77).ext E78)
      have E_nd148 := ((E_nd148.ext E77).ext E78)
      have V_nd148 := ((V_nd148.ext E77).ext E78)
      have E_u0 := ((E_u0.ext E77).ext E78)
      have E_u1 := ((E_u1.ext E77).ext E78)
      have Oh := K.old O0 all0
      obtain ⟨_, _, ⟨T, L80, k80, n80⟩, -, X, hS, hgr, ⟨Lc80, hQ, l80, y80, z80, C⟩, st⟩ := X.specialBackS hx (y := yy7) rfl hown (mvT hZ (oW hw 44 rfl)) (mvT hZ (oW hw 45 rfl)) (mvT hZ (oW hw 46 rfl)) (by decide) (oBackH (W := 1) (rNI_2_2 l Z a0 hw [] par kJOIN lit .null .null .null .null ord nd83 nk83 c0 c1 uno nd148 nk148 u0 u1 xmr h Oh mm_ (Nat.le_trans O0.1 ge_par) E_par F_kind_par F_name_par F_ordered_par F_unordered_par E_ord F_elementData_ord F_size_ord E_nd83 V_nd83 (Ins.of_exa E_c0 (oW hw 129 rfl)) (Ins.of_exa E_c1 (oW hw 129 rfl)) E_uno F_elementData_uno F_size_uno E_nd148 V_nd148 (Ins.of_exa E_u0 (oW hw 129 rfl)) (Ins.of_exa E_u1 (oW hw 129 rfl))) hZ (oW hw 46 rfl) (oW hw 9 rfl) (by decide) (by decide) (oELw hw) B.2.1 (allS ⟨E_par.lt, oSf⟩ all0)) (g := (mkF m 179 #[iv p0, iv p1, iv p2, rv c0, rv c1, rv c2, rv c3, rv u0, rv u1, iv 2, iv 2, iv ix, rv ord, rv uno, uu, uu] [(.ref uno), (.ref ord), (.ref lit), (.ref kJOIN), (.ref par), (.ref par)])) rfl (by rw [hml]; rfl) (Steps.refl _) (a := par) (argsL := [(.ref kJOIN), (.ref lit), (.ref ord), (.ref uno)]) (rest := [(.ref par)]) (lenOf pd_5 rfl) rfl (Nat.le_of_eq rfl) (hb hby at_179) (fun _ _ => ⟨rfl, e0, (by decide : 61 + 8 ≤ _), (by decide : 358 + 48 ≤ _)⟩)
      dsimp only [Pt.U, Pt.locs, Pt.cells, Pt.slots] at X l80 y80 z80 st hQ C hS hgr
      subst l80 y80 z80
      have X : Stand p l e _ (s.setVm T.vm) m _ below meth c T _ _ _ := X
      obtain ⟨h, e2⟩ : ∃ z, T.heap = z := ⟨_, rfl⟩
      have B := B.call e0 hS hgr C e2
      obtain ⟨hZ, hown⟩ := oWide hZ hown hS
      rw [e2] at hQ C
      have e0 := e2
      obtain ⟨nl, rfl, K79, E_par, F_ordered_par, E_nl, F_e0_nl, F_e1_nl⟩ := hQ
      have K := K.call K79 (allS (Or.inr ge_par) all0)
      refine oWk.tr st ?_
      refine oWk.st (fun _ kt => zT X hx hby at_182 rfl rfl rfl (l' := #[iv p0, iv p1, iv p2, rv c0, rv c1, rv c2, rv c3, rv u0, rv u1, iv 2, iv 2, iv ix, rv ord, rv uno, rv par, uu]) rfl kt) ?_
      show oWk _ _ _ _ T (mkF m 184 #[iv p0, iv p1, iv p2, rv c0, rv c1, rv c2, rv c3, rv u0, rv u1, iv 2, iv 2, iv ix, rv ord, rv uno, rv par, uu] [])
      have ci := oRem2 hix
      rcases ci with rfl | rfl
      · show oWk _ _ _ _ T (mkF m 184 #[iv p0, iv p1, iv p2, rv c0, rv c1, rv c2, rv c3, rv u0, rv u1, iv 2, iv 2, iv 0, rv ord, rv uno, rv par, uu] [])
        refine oWk.st (fun _ kt => zJ X hx hby at_184 rfl rfl (zH X hx hby at_186 rfl rfl ((if0 _ _).trans (teq (by decide)).2) (zA X hx hby at_189 rfl rfl rfl (zT X hx hby at_190 rfl rfl rfl (l' := #[iv p0, iv p1, iv p2, rv c0, rv c1, rv c2, rv c3, rv u0, rv u1, iv 2, iv 2, iv 0, rv ord, rv uno, rv par, rv c0]) rfl (zG X hx hby at_192 rfl (pc' := 225) rfl (zB X hx hby at_225 rfl rfl rfl (zJ X hx hby at_227 rfl rfl kt))))))) ?_
        have E_c0 := (E_c0.keep K79.1)
        have Oh := K.old O0 all0
        obtain ⟨T, L82, X, e0, K, st⟩ := (cs22 hw).pure X hx hZ hown e0 K (A := [(.ref par), (.int (0 : Int32))]) ⟨rfl, _, _, rfl, E_par⟩ (rNd_2_0 l Z a0 hw [] par nl c0 c1 xq h Oh S_EMPTY F_ordered_par E_nl F_e0_nl F_e1_nl E_c0) (fun _ _ _ q => q) (W := 0) (by decide) hml (Ls := #[iv p0, iv p1, iv p2, rv c0, rv c1, rv c2, rv c3, rv u0, rv u1, iv 2, iv 2, iv 0, rv ord, rv uno, rv par, rv c0]) rfl (rest := []) rfl rfl hby at_229
        refine oWk.st st ?_
        refine oWk.st (fun _ kt => zB X hx hby at_232 rfl rfl rfl kt) ?_
        refine oWk.st (fun _ kt => Jvm.RoadKit.acmp (g := (mkF m 234 #[iv p0, iv p1, iv p2, rv c0, rv c1, rv c2, rv c3, rv u0, rv u1, iv 2, iv 2, iv 0, rv ord, rv uno, rv par, rv c0] [(.ref c0), (.ref c0)])) X hx rfl rfl rfl (pc0 := 234) (pc' := 237) (same := true) rfl (hb hby at_234) rfl (decide_eq_true rfl) (by decide) (by decide) kt) ?_
        show oWk _ _ _ _ T (mkF m 237 #[iv p0, iv p1, iv p2, rv c0, rv c1, rv c2, rv c3, rv u0, rv u1, iv 2, iv 2, iv 0, rv ord, rv uno, rv par, rv c0] [])
        refine oWk.st (fun _ kt => zK X hx hby at_237 rfl (zG X hx hby at_238 rfl (pc' := 242) rfl kt)) ?_
        show oWk _ _ _ _ T (mkF m 242 #[iv p0, iv p1, iv p2, rv c0, rv c1, rv c2, rv c3, rv u0, rv u1, iv 2, iv 2, iv 0, rv ord, rv uno, rv par, rv c0] [(.int 1)])
        exact oRetH X hx hlk hZ (oELw hw) e0 B hret (oNar01 (Or.inr rfl)) (Or.inl ⟨rfl, Or.inr (Or.inl rfl), _, rfl⟩) (hb hby at_242) (by rw [e0]; exact ⟨rfl, K.fr⟩) (by decide) (by decide)
      · show oWk _ _ _ _ T (mkF m 184 #[iv p0, iv p1, iv p2, rv c0, rv c1, rv c2, rv c3, rv u0, rv u1, iv 2, iv 2, iv 1, rv ord, rv uno, rv par, uu] [])
        refine oWk.st (fun _ kt => zJ X hx hby at_184 rfl rfl (zF X hx hby at_186 rfl rfl ((if0 _ _).trans (feq (by decide)).2) (pc' := 195) rfl (zJ X hx hby at_195 rfl rfl (zK X hx hby at_197 rfl (zN X hx hby at_198 rfl rfl (teq (by decide)).2 (zB X hx hby at_201 rfl rfl rfl (zT X hx hby at_203 rfl rfl rfl (l' := #[iv p0, iv p1, iv p2, rv c0, rv c1, rv c2, rv c3, rv u0, rv u1, iv 2, iv 2, iv 1, rv ord, rv uno, rv par, rv c1]) rfl (zG X hx hby at_205 rfl (pc' := 225) rfl kt)))))))) ?_
        show oWk _ _ _ _ T (mkF m 225 #[iv p0, iv p1, iv p2, rv c0, rv c1, rv c2, rv c3, rv u0, rv u1, iv 2, iv 2, iv 1, rv ord, rv uno, rv par, rv c1] [])
        refine oWk.st (fun _ kt => zB X hx hby at_225 rfl rfl rfl (zJ X hx hby at_227 rfl rfl kt)) ?_
        have E_c1 := (E_c1.keep K79.1)
        have Oh := K.old O0 all0
        obtain ⟨T, L84, X, e0, K, st⟩ := (cs22 hw).pure X hx hZ hown e0 K (A := [(.ref par), (.int (1 : Int32))]) ⟨rfl, _, _, rfl, E_par⟩ (rNd_2_1 l Z a0 hw [] par nl c0 c1 xq h Oh S_EMPTY F_ordered_par E_nl F_e0_nl F_e1_nl E_c1 (Ne.symm ne_xq_c1)) (fun _ _ _ q => q) (W := 0) (by decide) hml (Ls := #[iv p0, iv p1, iv p2, rv c0, rv c1, rv c2, rv c3, rv u0, rv u1, iv 2, iv 2, iv 1, rv ord, rv uno, rv par, rv c1]) rfl (rest := []) rfl rfl hby at_229
        refine oWk.st st ?_
        refine oWk.st (fun _ kt => zB X hx hby at_232 rfl rfl rfl kt) ?_
        refine oWk.st (fun _ kt => Jvm.RoadKit.acmp (g := (mkF m 234 #[iv p0, iv p1, iv p2, rv c0, rv c1, rv c2, rv c3, rv u0, rv u1, iv 2, iv 2, iv 1, rv ord, rv uno, rv par, rv c1] [(.ref c1), (.ref c1)])) X hx rfl rfl rfl (pc0 := 234) (pc' := 237) (same := true) rfl (hb hby at_234) rfl (decide_eq_true rfl) (by decide) (by decide) kt) ?_
        show oWk _ _ _ _ T (mkF m 237 #[iv p0, iv p1, iv p2, rv c0, rv c1, rv c2, rv c3, rv u0, rv u1, iv 2, iv 2, iv 1, rv ord, rv uno, rv par, rv c1] [])
        refine oWk.st (fun _ kt => zK X hx hby at_237 rfl (zG X hx hby at_238 rfl (pc' := 242) rfl kt)) ?_
        show oWk _ _ _ _ T (mkF m 242 #[iv p0, iv p1, iv p2, rv c0, rv c1, rv c2, rv c3, rv u0, rv u1, iv 2, iv 2, iv 1, rv ord, rv uno, rv par, rv c1] [(.int 1)])
        exact oRetH X hx hlk hZ (oELw hw) e0 B hret (oNar01 (Or.inr rfl)) (Or.inl ⟨rfl, Or.inr (Or.inl rfl), _, rfl⟩) (hb hby at_242) (by rw [e0]; exact ⟨rfl, K.fr⟩) (by decide) (by decide)
  · show oWk _ _ _ _ T (mkF m 62 #[iv p0, iv p1, iv p2, rv c0, rv c1, rv c2, rv c3, rv u0, rv u1, iv 3, iv mm, uu, uu, uu, uu, uu] [])
    refine oWk.st (fun _ kt => zI X hx hby at_62 rfl rfl kt) ?_
    refine oWk.st (fun _ kt => X.ldcI hx hown (mvT hZ (oW hw 100 rfl)) rfl (hb hby at_63) (XS.iand X.here hx rfl (hb hby at_65) rfl (zJ X hx hby at_66 rfl rfl (iremM X hx rfl (hb hby at_68) rfl (by decide) kt)))) ?_
    show oWk _ _ _ _ T (mkF m 69 #[iv p0, iv p1, iv p2, rv c0, rv c1, rv c2, rv c3, rv u0, rv u1, iv 3, iv mm, uu, uu, uu, uu, uu] [(.int ((p1 &&& (2147483647 : Int32)) % (3 : Int32)))])
    generalize hix : ((p1 &&& (2147483647 : Int32)) % (3 : Int32)) = ix
    show oWk _ _ _ _ T (mkF m 69 #[iv p0, iv p1, iv p2, rv c0, rv c1, rv c2, rv c3, rv u0, rv u1, iv 3, iv mm, uu, uu, uu, uu, uu] [(.int ix)])
    refine oWk.st (fun _ kt => zS X hx hby at_69 rfl rfl (l' := #[iv p0, iv p1, iv p2, rv c0, rv c1, rv c2, rv c3, rv u0, rv u1, iv 3, iv mm, iv ix, uu, uu, uu, uu]) rfl kt) ?_
    obtain ⟨ord, g85⟩ : ∃ z, z = h.size := ⟨_, rfl⟩
    have V_xd := (V_xd.keep K11.1 nin0)
    have ne_xd_ord : xd ≠ ord := Nat.ne_of_lt (Nat.lt_of_lt_of_le V_xd.lt (Nat.le_of_eq g85.symm))
    have E_xq := (E_xq.keep K11.1)
    have ne_xq_ord : xq ≠ ord := Nat.ne_of_lt (Nat.lt_of_lt_of_le E_xq.lt (Nat.le_of_eq g85.symm))
    have E_c0 := (E_c0.keep K11.1)
    have ne_c0_ord : c0 ≠ ord := Nat.ne_of_lt (Nat.lt_of_lt_of_le E_c0.lt (Nat.le_of_eq g85.symm))
    have E_c1 := (E_c1.keep K11.1)
    have ne_c1_ord : c1 ≠ ord := Nat.ne_of_lt (Nat.lt_of_lt_of_le E_c1.lt (Nat.le_of_eq g85.symm))
    have E_c2 := (E_c2.keep K11.1)
    have ne_c2_ord : c2 ≠ ord := Nat.ne_of_lt (Nat.lt_of_lt_of_le E_c2.lt (Nat.le_of_eq g85.symm))
    have E_c3 := (E_c3.keep K11.1)
    have ne_c3_ord : c3 ≠ ord := Nat.ne_of_lt (Nat.lt_of_lt_of_le E_c3.lt (Nat.le_of_eq g85.symm))
    have E_u0 := (E_u0.keep K11.1)
    have ne_u0_ord : u0 ≠ ord := Nat.ne_of_lt (Nat.lt_of_lt_of_le E_u0.lt (Nat.le_of_eq g85.symm))
    have ne_u1_ord : u1 ≠ ord := Nat.ne_of_lt (Nat.lt_of_lt_of_le E_u1.lt (Nat.le_of_eq g85.symm))
    have ge_ord : h0.size ≤ ord := Nat.le_trans K.le (Nat.le_of_eq g85.symm)
    obtain ⟨T, h, X, e0, E85, A85, D85, -, st⟩ := newO X hx hZ hown (oW hw 18 rfl) (oW hw 19 rfl) (oW hw 20 rfl) e0 (g := (mkF m 71 #[iv p0, iv p1, iv p2, rv c0, rv c1, rv c2, rv c3, rv u0, rv u1, iv 3, iv mm, iv ix, uu, uu, uu, uu] [])) rfl (hb hby at_71) (by decide) (by decide)
    rw [← g85] at A85 D85 st
    refine oWk.st st ?_
    have K := K.ext E85
    have B := B.ext E85
    have E_ord := A85
    have F_modCount_ord : Fld Z h ord Y11 "modCount" "I" (.int (0 : Int32)) := D85 (Or.inl (oW hw 40 rfl)) (ty := .int) (by decide)
    have F_elementData_ord : Fld Z h ord Y1 "elementData" Y2 .null := D85 (Or.inl (oW hw 43 rfl)) (ty := (.array (.object Y0))) (by decide)
    have F_size_ord : Fld Z h ord Y1 "size" "I" (.int (0 : Int32)) := D85 (Or.inl (oW hw 83 rfl)) (ty := .int) (by decide)
    refine oWk.st (fun _ kt => zD X hx hby at_74 rfl rfl rfl kt) ?_
    have Oh := K.old O0 all0
    obtain ⟨_, T, h, Lc87, X, e0, hQ, st⟩ := (cs7 hw).run X hx hZ hown e0 (A := [(.ref ord)]) ⟨rfl, _, _, rfl⟩ (rAL l Z a0 hw [] ord xd (.int (0 : Int32)) .null h Oh S_DEFAULTCAPACITY_EMPTY_ELEMENTDATA (Nat.le_trans O0.1 ge_ord) E_ord F_elementData_ord F_size_ord F_modCount_ord) (W := 1) (by decide) hml (Ls := #[iv p0, iv p1, iv p2, rv c0, rv c1, rv c2, rv c3, rv u0, rv u1, iv 3, iv mm, iv ix, uu, uu, uu, uu]) rfl (rest := [(.ref ord)]) rfl rfl hby at_75
    obtain ⟨rfl, K86, E_ord, F_elementData_ord, F_size_ord, F_modCount_ord⟩ := hQ
    have K := K.call K86 (allS (Or.inr ge_ord) all0)
    have B := B.keep K86.1 (fun _ _ => oSf)
    refine oWk.st st ?_
    refine oWk.st (fun _ kt => zT X hx hby at_78 rfl rfl rfl (l' := #[iv p0, iv p1, iv p2, rv c0, rv c1, rv c2, rv c3, rv u0, rv u1, iv 3, iv mm, iv ix, rv ord, uu, uu, uu]) rfl (zB X hx hby at_80 rfl rfl rfl (zA X hx hby at_82 rfl rfl rfl kt))) ?_
    have V_xd := ((V_xd.ext E85).keep K86.1 (ninS ne_xd_ord nin0))
    have E_c0 := ((E_c0.ext E85).keep K86.1)
    have lt_xd := V_xd.lt
    have E_xq := ((E_xq.ext E85).keep K86.1)
    have lt_xq := E_xq.lt
    have lt_c0 := E_c0.lt
    have E_c1 := ((E_c1.ext E85).keep K86.1)
    have lt_c1 := E_c1.lt
    have E_c2 := ((E_c2.ext E85).keep K86.1)
    have lt_c2 := E_c2.lt
    have E_c3 := ((E_c3.ext E85).keep K86.1)
    have lt_c3 := E_c3.lt
    have E_u0 := ((E_u0.ext E85).keep K86.1)
    have lt_u0 := E_u0.lt
    have E_u1 := ((E_u1.ext E85).keep K86.1)
    have lt_u1 := E_u1.lt
    have lt_ord := E_ord.lt
    have Oh := K.old O0 all0
    obtain ⟨_, T, h, Lc89, X, e0, hQ, st⟩ := (cs12 hw).run X hx hZ hown e0 (A := [(.ref ord), (.ref c0)]) ⟨rfl, _, _, rfl, E_ord⟩ (rAd_0 l Z a0 hw [] ord c0 xd xk (0 : Int32) h Oh S_DEFAULTCAPACITY_EMPTY_ELEMENTDATA (Nat.le_trans O0.1 ge_ord) E_ord F_elementData_ord F_size_ord F_modCount_ord V_xd (Ins.of_exa E_c0 (oW hw 129 rfl)) (Ne.symm ne_c0_ord) (Ne.symm ne_xd_ord)) (W := 0) (by decide) hml (Ls := #[iv p0, iv p1, iv p2, rv c0, rv c1, rv c2, rv c3, rv u0, rv u1, iv 3, iv mm, iv ix, rv ord, uu, uu, uu]) rfl (rest := []) rfl rfl hby at_83
    obtain ⟨nd83, nk83, rfl, K88, E_ord, F_elementData_ord, F_size_ord, F_modCount_ord, gn_nd83, E_nd83, V_nd83, ov_nk83⟩ := hQ
    have ge_nd83 := Nat.le_trans K.le gn_nd83
    have ne_xd_nd83 : xd ≠ nd83 := Nat.ne_of_lt (Nat.lt_of_lt_of_le lt_xd gn_nd83)
    have ne_xq_nd83 : xq ≠ nd83 := Nat.ne_of_lt (Nat.lt_of_lt_of_le lt_xq gn_nd83)
    have ne_c0_nd83 : c0 ≠ nd83 := Nat.ne_of_lt (Nat.lt_of_lt_of_le lt_c0 gn_nd83)
    have ne_c1_nd83 : c1 ≠ nd83 := Nat.ne_of_lt (Nat.lt_of_lt_of_le lt_c1 gn_nd83)
    have ne_c2_nd83 : c2 ≠ nd83 := Nat.ne_of_lt (Nat.lt_of_lt_of_le lt_c2 gn_nd83)
    have ne_c3_nd83 : c3 ≠ nd83 := Nat.ne_of_lt (Nat.lt_of_lt_of_le lt_c3 gn_nd83)
    have ne_u0_nd83 : u0 ≠ nd83 := Nat.ne_of_lt (Nat.lt_of_lt_of_le lt_u0 gn_nd83)
    have ne_u1_nd83 : u1 ≠ nd83 := Nat.ne_of_lt (Nat.lt_of_lt_of_le lt_u1 gn_nd83)
    have ne_ord_nd83 : ord ≠ nd83 := Nat.ne_of_lt (Nat.lt_of_lt_of_le lt_ord gn_nd83)
    have K := K.call K88 (allS (Or.inr ge_ord) all0)
    have B := B.keep K88.1 (fun _ _ => oSf)
    refine oWk.st st ?_
    refine oWk.st (fun _ kt => XS.pop X.here hx rfl (hb hby at_86) rfl rfl (zJ X hx hby at_87 rfl rfl (zK X hx hby at_89 rfl (zN X hx hby at_90 rfl rfl (flt (by decide)).1 (zB X hx hby at_93 rfl rfl rfl (zB X hx hby at_95 rfl rfl rfl kt)))))) ?_
    have E_c1 := (E_c1.keep K88.1)
    have Oh := K.old O0 all0
    obtain ⟨_, T, h, Lc91, X, e0, hQ, st⟩ := (cs12 hw).run X hx hZ hown e0 (A := [(.ref ord), (.ref c1)]) ⟨rfl, _, _, rfl, E_ord⟩ (rAd_1 l Z a0 hw [] ord c1 nd83 nk83 ((0 : Int32) + (1 : Int32)) c0 h Oh (Nat.le_trans O0.1 ge_ord) (Nat.le_trans O0.1 ge_nd83) ne_ord_nd83 E_ord F_elementData_ord F_size_ord F_modCount_ord E_nd83 V_nd83 ov_nk83 (Ins.of_exa E_c1 (oW hw 129 rfl))) (W := 0) (by decide) hml (Ls := #[iv p0, iv p1, iv p2, rv c0, rv c1, rv c2, rv c3, rv u0, rv u1, iv 3, iv mm, iv ix, rv ord, uu, uu, uu]) rfl (rest := []) rfl rfl hby at_97
    obtain ⟨rfl, K90, E_ord, F_elementData_ord, F_size_ord, F_modCount_ord, E_nd83, V_nd83⟩ := hQ
    have K := K.call K90 (allS (Or.inr ge_ord) (allS (Or.inr ge_nd83) all0))
    have B := B.keep K90.1 (fun _ _ => oSf)
    refine oWk.st st ?_
    refine oWk.st (fun _ kt => XS.pop X.here hx rfl (hb hby at_100) rfl rfl (zJ X hx hby at_101 rfl rfl (zK X hx hby at_103 rfl (zN X hx hby at_104 rfl rfl (flt (by decide)).1 (zB X hx hby at_107 rfl rfl rfl (zB X hx hby at_109 rfl rfl rfl kt)))))) ?_
    have E_c2 := ((E_c2.keep K88.1).keep K90.1)
    have Oh := K.old O0 all0
    obtain ⟨_, T, h, Lc93, X, e0, hQ, st⟩ := (cs12 hw).run X hx hZ hown e0 (A := [(.ref ord), (.ref c2)]) ⟨rfl, _, _, rfl, E_ord⟩ (rAd_2 l Z a0 hw [] ord c2 nd83 nk83 (((0 : Int32) + (1 : Int32)) + (1 : Int32)) c0 c1 h Oh (Nat.le_trans O0.1 ge_ord) (Nat.le_trans O0.1 ge_nd83) ne_ord_nd83 E_ord F_elementData_ord F_size_ord F_modCount_ord E_nd83 V_nd83 ov_nk83 (Ins.of_exa E_c2 (oW hw 129 rfl))) (W := 0) (by decide) hml (Ls := #[iv p0, iv p1, iv p2, rv c0, rv c1, rv c2, rv c3, rv u0, rv u1, iv 3, iv mm, iv ix, rv ord, uu, uu, uu]) rfl (rest := []) rfl rfl hby at_111
    obtain ⟨rfl, K92, E_ord, F_elementData_ord, F_size_ord, F_modCount_ord, E_nd83, V_nd83⟩ := hQ
    have K := K.call K92 (allS (Or.inr ge_ord) (allS (Or.inr ge_nd83) all0))
    have B := B.keep K92.1 (fun _ _ => oSf)
    refine oWk.st st ?_
    refine oWk.st (fun _ kt => XS.pop X.here hx rfl (hb hby at_114) rfl rfl (zJ X hx hby at_115 rfl rfl (zK X hx hby at_117 rfl (zY X hx hby at_118 rfl rfl (tlt (by decide)).1 (pc' := 129) rfl kt)))) ?_
    obtain ⟨uno, g94⟩ : ∃ z, z = h.size := ⟨_, rfl⟩
    have V_xd := (((V_xd.keep K88.1 (ninS ne_xd_ord nin0)).keep K90.1 (ninS ne_xd_ord (ninS ne_xd_nd83 nin0))).keep K92.1 (ninS ne_xd_ord (ninS ne_xd_nd83 nin0)))
    have ne_xd_uno : xd ≠ uno := Nat.ne_of_lt (Nat.lt_of_lt_of_le V_xd.lt (Nat.le_of_eq g94.symm))
    have E_xq := (((E_xq.keep K88.1).keep K90.1).keep K92.1)
    have ne_xq_uno : xq ≠ uno := Nat.ne_of_lt (Nat.lt_of_lt_of_le E_xq.lt (Nat.le_of_eq g94.symm))
    have E_c0 := (((E_c0.keep K88.1).keep K90.1).keep K92.1)
    have ne_c0_uno : c0 ≠ uno := Nat.ne_of_lt (Nat.lt_of_lt_of_le E_c0.lt (Nat.le_of_eq g94.symm))
    have E_c1 := ((E_c1.keep K90.1).keep K92.1)
    have ne_c1_uno : c1 ≠ uno := Nat.ne_of_lt (Nat.lt_of_lt_of_le E_c1.lt (Nat.le_of_eq g94.symm))
    have E_c2 := (E_c2.keep K92.1)
    have ne_c2_uno : c2 ≠ uno := Nat.ne_of_lt (Nat.lt_of_lt_of_le E_c2.lt (Nat.le_of_eq g94.symm))
    have E_c3 := (((E_c3.keep K88.1).keep K90.1).keep K92.1)
    have ne_c3_uno : c3 ≠ uno := Nat.ne_of_lt (Nat.lt_of_lt_of_le E_c3.lt (Nat.le_of_eq g94.symm))
    have E_u0 := (((E_u0.keep K88.1).keep K90.1).keep K92.1)
    have ne_u0_uno : u0 ≠ uno := Nat.ne_of_lt (Nat.lt_of_lt_of_le E_u0.lt (Nat.le_of_eq g94.symm))
    have E_u1 := (((E_u1.keep K88.1).keep K90.1).keep K92.1)
    have ne_u1_uno : u1 ≠ uno := Nat.ne_of_lt (Nat.lt_of_lt_of_le E_u1.lt (Nat.le_of_eq g94.symm))
    have ne_ord_uno : ord ≠ uno := Nat.ne_of_lt (Nat.lt_of_lt_of_le E_ord.lt (Nat.le_of_eq g94.symm))
    have ne_nd83_uno : nd83 ≠ uno := Nat.ne_of_lt (Nat.lt_of_lt_of_le E_nd83.lt (Nat.le_of_eq g94.symm))
    have ge_uno : h0.size ≤ uno := Nat.le_trans K.le (Nat.le_of_eq g94.symm)
    obtain ⟨T, h, X, e0, E94, A94, D94, -, st⟩ := newO X hx hZ hown (oW hw 18 rfl) (oW hw 19 rfl) (oW hw 20 rfl) e0 (g := (mkF m 129 #[iv p0, iv p1, iv p2, rv c0, rv c1, rv c2, rv c3, rv u0, rv u1, iv 3, iv mm, iv ix, rv ord, uu, uu, uu] [])) rfl (hb hby at_129) (by decide) (by decide)
    rw [← g94] at A94 D94 st
    refine oWk.st st ?_
    have K := K.ext E94
    have B := B.ext E94
    have E_uno := A94
    have F_modCount_uno : Fld Z h uno Y11 "modCount" "I" (.int (0 : Int32)) := D94 (Or.inl (oW hw 40 rfl)) (ty := .int) (by decide)
    have F_elementData_uno : Fld Z h uno Y1 "elementData" Y2 .null := D94 (Or.inl (oW hw 43 rfl)) (ty := (.array (.object Y0))) (by decide)
    have F_size_uno : Fld Z h uno Y1 "size" "I" (.int (0 : Int32)) := D94 (Or.inl (oW hw 83 rfl)) (ty := .int) (by decide)
    refine oWk.st (fun _ kt => zD X hx hby at_132 rfl rfl rfl kt) ?_
    have Oh := K.old O0 all0
    obtain ⟨_, T, h, Lc96, X, e0, hQ, st⟩ := (cs7 hw).run X hx hZ hown e0 (A := [(.ref uno)]) ⟨rfl, _, _, rfl⟩ (rAL l Z a0 hw [] uno xd (.int (0 : Int32)) .null h Oh S_DEFAULTCAPACITY_EMPTY_ELEMENTDATA (Nat.le_trans O0.1 ge_uno) E_uno F_elementData_uno F_size_uno F_modCount_uno) (W := 1) (by decide) hml (Ls := #[iv p0, iv p1, iv p2, rv c0, rv c1, rv c2, rv c3, rv u0, rv u1, iv 3, iv mm, iv ix, rv ord, uu, uu, uu]) rfl (rest := [(.ref uno)]) rfl rfl hby at_133
    obtain ⟨rfl, K95, E_uno, F_elementData_uno, F_size_uno, F_modCount_uno⟩ := hQ
    have K := K.call K95 (allS (Or.inr ge_uno) all0)
    have B := B.keep K95.1 (fun _ _ => oSf)
    refine oWk.st st ?_
    refine oWk.st (fun _ kt => zT X hx hby at_136 rfl rfl rfl (l' := #[iv p0, iv p1, iv p2, rv c0, rv c1, rv c2, rv c3, rv u0, rv u1, iv 3, iv mm, iv ix, rv ord, rv uno, uu, uu]) rfl kt) ?_
    show oWk _ _ _ _ T (mkF m 138 #[iv p0, iv p1, iv p2, rv c0, rv c1, rv c2, rv c3, rv u0, rv u1, iv 3, iv mm, iv ix, rv ord, rv uno, uu, uu] [])
    have cm := oRem3 hmm
    rcases cm with rfl | rfl | rfl
    · show oWk _ _ _ _ T (mkF m 138 #[iv p0, iv p1, iv p2, rv c0, rv c1, rv c2, rv c3, rv u0, rv u1, iv 3, iv 0, iv ix, rv ord, rv uno, uu, uu] [])
      refine oWk.st (fun _ kt => zJ X hx hby at_138 rfl rfl (zK X hx hby at_140 rfl (zY X hx hby at_141 rfl rfl (tlt (by decide)).1 (pc' := 152) rfl (zJ X hx hby at_152 rfl rfl (zK X hx hby at_154 rfl (zY X hx hby at_155 rfl rfl (tlt (by decide)).1 (pc' := 166) rfl kt)))))) ?_
      obtain ⟨par, g97⟩ : ∃ z, z = h.size := ⟨_, rfl⟩
      have V_xd := ((V_xd.ext E94).keep K95.1 (ninS ne_xd_uno nin0))
      have ne_xd_par : xd ≠ par := Nat.ne_of_lt (Nat.lt_of_lt_of_le V_xd.lt (Nat.le_of_eq g97.symm))
      have E_xq := ((E_xq.ext E94).keep K95.1)
      have ne_xq_par : xq ≠ par := Nat.ne_of_lt (Nat.lt_of_lt_of_le E_xq.lt (Nat.le_of_eq g97.symm))
      have E_c0 := ((E_c0.ext E94).keep K95.1)
      have ne_c0_par : c0 ≠ par := Nat.ne_of_lt (Nat.lt_of_lt_of_le E_c0.lt (Nat.le_of_eq g97.symm))
      have E_c1 := ((E_c1.ext E94).keep K95.1)
      have ne_c1_par : c1 ≠ par := Nat.ne_of_lt (Nat.lt_of_lt_of_le E_c1.lt (Nat.le_of_eq g97.symm))
      have E_c2 := ((E_c2.ext E94).keep K95.1)
      have ne_c2_par : c2 ≠ par := Nat.ne_of_lt (Nat.lt_of_lt_of_le E_c2.lt (Nat.le_of_eq g97.symm))
      have E_c3 := ((E_c3.ext E94).keep K95.1)
      have ne_c3_par : c3 ≠ par := Nat.ne_of_lt (Nat.lt_of_lt_of_le E_c3.lt (Nat.le_of_eq g97.symm))
      have E_u0 := ((E_u0.ext E94).keep K95.1)
      have ne_u0_par : u0 ≠ par := Nat.ne_of_lt (Nat.lt_of_lt_of_le E_u0.lt (Nat.le_of_eq g97.symm))
      have E_u1 := ((E_u1.ext E94).keep K95.1)
      have ne_u1_par : u1 ≠ par := Nat.ne_of_lt (Nat.lt_of_lt_of_le E_u1.lt (Nat.le_of_eq g97.symm))
      have E_ord := ((E_ord.ext E94).keep K95.1)
      have ne_ord_par : ord ≠ par := Nat.ne_of_lt (Nat.lt_of_lt_of_le E_ord.lt (Nat.le_of_eq g97.symm))
      have E_nd83 := ((E_nd83.ext E94).keep K95.1)
      have ne_nd83_par : nd83 ≠ par := Nat.ne_of_lt (Nat.lt_of_lt_of_le E_nd83.lt (Nat.le_of_eq g97.symm))
      have ne_uno_par : uno ≠ par := Nat.ne_of_lt (Nat.lt_of_lt_of_le E_uno.lt (Nat.le_of_eq g97.symm))
      have ge_par : h0.size ≤ par := Nat.le_trans K.le (Nat.le_of_eq g97.symm)
      obtain ⟨T, h, X, e0, E97, A97, D97, -, st⟩ := newO X hx hZ hown (oW hw 7 rfl) (oW hw 8 rfl) (oW hw 9 rfl) e0 (g := (mkF m 166 #[iv p0, iv p1, iv p2, rv c0, rv c1, rv c2, rv c3, rv u0, rv u1, iv 3, iv 0, iv ix, rv ord, rv uno, uu, uu] [])) rfl (hb hby at_166) (by decide) (by decide)
      rw [← g97] at A97 D97 st
      refine oWk.st st ?_
      have K := K.ext E97
      have B := B.ext E97
      have E_par := A97
      have F_kind_par : Fld Z h par Y4 "kind" Y13 .null := D97 (Or.inr (oW hw 89 rfl)) (ty := (.object Y7)) (by decide)
      have F_name_par : Fld Z h par Y4 "name" Y14 .null := D97 (Or.inr (oW hw 91 rfl)) (ty := (.object Y9)) (by decide)
      have F_ordered_par : Fld Z h par Y4 "ordered" Y5 .null := D97 (Or.inr (oW hw 93 rfl)) (ty := (.object Y3)) (by decide)
      have F_unordered_par : Fld Z h par Y4 "unordered" Y5 .null := D97 (Or.inr (oW hw 95 rfl)) (ty := (.object Y3)) (by decide)
      refine oWk.st (fun _ kt => zD X hx hby at_169 rfl rfl rfl kt) ?_
      have Oh := K.old O0 all0
      obtain ⟨T, X, e0, st⟩ := getS2 X hx hZ hown (host := "") (Or.inl (oW hw 98 rfl)) Via.refl e0 (S_JOIN.ext Oh) (g := (mkF m 170 #[iv p0, iv p1, iv p2, rv c0, rv c1, rv c2, rv c3, rv u0, rv u1, iv 3, iv 0, iv ix, rv ord, rv uno, uu, uu] [(.ref par), (.ref par)])) rfl (hb hby at_170)
      refine oWk.st st ?_
      obtain ⟨lit, T, h, X, e2, E98, hZ, hown, B, C, st⟩ := oLdcO X hx hZ hown (oW hw 10 rfl) (oSA hw) e0 (oELw hw) B (g := (mkF m 173 #[iv p0, iv p1, iv p2, rv c0, rv c1, rv c2, rv c3, rv u0, rv u1, iv 3, iv 0, iv ix, rv ord, rv uno, uu, uu] [(.ref kJOIN), (.ref par), (.ref par)])) rfl (hb hby at_173) (n := 0) (by decide) (by decide) (by decide) (by decide)
      have e0 := e2
      refine oWk.st st ?_
      have K := K.ext E98
      refine oWk.st (fun _ kt => zB X hx hby at_175 rfl rfl rfl (zB X hx hby at_177 rfl rfl rfl kt)) ?_
      have E_par := (E_par.ext E98)
      have F_kind_par := (F_kind_par.ext E98)
      have F_name_par := (F_name_par.ext E98)
      have F_ordered_par := (F_ordered_par.ext E98)
      have F_unordered_par := (F_unordered_par.ext E98)
      have E_ord := ((E_ord.ext E97).ext E98)
      have F_elementData_ord := ((((F_elementData_ord.ext E94).keep K95.1 (ninS ne_ord_uno nin0)).ext E97).ext E98)
      have F_size_ord := ((((F_size_ord.ext E94).keep K95.1 (ninS ne_ord_uno nin0)).ext E97).ext E98)
      have E_nd83 := ((E_nd83.ext E97).ext E98)
      have V_nd83 := ((((V_nd83.ext E94).keep K95.1 (ninS ne_nd83_uno nin0)).ext E97).ext E98)
      have E_c0 := ((E_c0.ext E97).ext E98)
      have E_c1 := ((E_c1.ext E97).ext E98)
      have E_c2 := ((E_c2.ext E97).ext E98)
      have E_uno := ((E_uno.ext E97).ext E98)
      have F_size_uno := ((F_size_uno.ext E97).ext E98)
      have Oh := K.old O0 all0
      obtain ⟨_, _, ⟨T, L100, k100, n100⟩, -, X, hS, hgr, ⟨Lc100, hQ, l100, y100, z100, C⟩, st⟩ := X.specialBackS hx (y := yy7) rfl hown (mvT hZ (oW hw 44 rfl)) (mvT hZ (oW hw 45 rfl)) (mvT hZ (oW hw 46 rfl)) (by decide) (oBackH (W := 1) (rNI_3_0 l Z a0 hw [] par kJOIN lit .null .null .null .null ord nd83 nk83 c0 c1 c2 uno xl xmr h Oh S_EMPTY_LIST mm_ (Nat.le_trans O0.1 ge_par) E_par F_kind_par F_name_par F_ordered_par F_unordered_par E_ord F_elementData_ord F_size_ord E_nd83 V_nd83 (Ins.of_exa E_c0 (oW hw 129 rfl)) (Ins.of_exa E_c1 (oW hw 129 rfl)) (Ins.of_exa E_c2 (oW hw 129 rfl)) E_uno F_size_uno) hZ (oW hw 46 rfl) (oW hw 9 rfl) (by decide) (by decide) (oELw hw) B.2.1 (allS ⟨E_par.lt, oSf⟩ all0)) (g := (mkF m 179 #[iv p0, iv p1, iv p2, rv c0, rv c1, rv c2, rv c3, rv u0, rv u1, iv 3, iv 0, iv ix, rv ord, rv uno, uu, uu] [(.ref uno), (.ref ord), (.ref lit), (.ref kJOIN), (.ref par), (.ref par)])) rfl (by rw [hml]; rfl) (Steps.refl _) (a := par) (argsL := [(.ref kJOIN), (.ref lit), (.ref ord), (.ref uno)]) (rest := [(.ref par)]) (lenOf pd_5 rfl) rfl (Nat.le_of_eq rfl) (hb hby at_179) (fun _ _ => ⟨rfl, e0, (by decide : 60 + 7 ≤ _), (by decide : 348 + 48 ≤ _)⟩)
      dsimp only [Pt.U, Pt.locs, Pt.cells, Pt.slots] at X l100 y100 z100 st hQ C hS hgr
      subst l100 y100 z100
      have X : Stand p l e _ (s.setVm T.vm) m _ below meth c T _ _ _ := X
      obtain ⟨h, e2⟩ : ∃ z, T.heap = z := ⟨_, rfl⟩
      have B := B.call e0 hS hgr C e2
      obtain ⟨hZ, hown⟩ := oWide hZ hown hS
      rw [e2] at hQ C
      have e0 := e2
      obtain ⟨nl, ng, nj, rfl, K99, E_par, F_ordered_par, E_nl, F_elements_nl, V_ng⟩ := hQ
      have K := K.call K99 (allS (Or.inr ge_par) all0)
      refine oWk.tr st ?_
      refine oWk.st (fun _ kt => zT X hx hby at_182 rfl rfl rfl (l' := #[iv p0, iv p1, iv p2, rv c0, rv c1, rv c2, rv c3, rv u0, rv u1, iv 3, iv 0, iv ix, rv ord, rv uno, rv par, uu]) rfl kt) ?_
      show oWk _ _ _ _ T (mkF m 184 #[iv p0, iv p1, iv p2, rv c0, rv c1, rv c2, rv c3, rv u0, rv u1, iv 3, iv 0, iv ix, rv ord, rv uno, rv par, uu] [])
      have ci := oRem3 hix
      rcases ci with rfl | rfl | rfl
      · show oWk _ _ _ _ T (mkF m 184 #[iv p0, iv p1, iv p2, rv c0, rv c1, rv c2, rv c3, rv u0, rv u1, iv 3, iv 0, iv 0, rv ord, rv uno, rv par, uu] [])
        refine oWk.st (fun _ kt => zJ X hx hby at_184 rfl rfl (zH X hx hby at_186 rfl rfl ((if0 _ _).trans (teq (by decide)).2) (zA X hx hby at_189 rfl rfl rfl (zT X hx hby at_190 rfl rfl rfl (l' := #[iv p0, iv p1, iv p2, rv c0, rv c1, rv c2, rv c3, rv u0, rv u1, iv 3, iv 0, iv 0, rv ord, rv uno, rv par, rv c0]) rfl (zG X hx hby at_192 rfl (pc' := 225) rfl (zB X hx hby at_225 rfl rfl rfl (zJ X hx hby at_227 rfl rfl kt))))))) ?_
        have E_c0 := (E_c0.keep K99.1)
        have Oh := K.old O0 all0
        obtain ⟨T, L102, X, e0, K, st⟩ := (cs22 hw).pure X hx hZ hown e0 K (A := [(.ref par), (.int (0 : Int32))]) ⟨rfl, _, _, rfl, E_par⟩ (rNd_3_0 l Z a0 hw [] par nl c0 c1 c2 ng nj h Oh F_ordered_par E_nl F_elements_nl V_ng E_c0) (fun _ _ _ q => q) (W := 0) (by decide) hml (Ls := #[iv p0, iv p1, iv p2, rv c0, rv c1, rv c2, rv c3, rv u0, rv u1, iv 3, iv 0, iv 0, rv ord, rv uno, rv par, rv c0]) rfl (rest := []) rfl rfl hby at_229
        refine oWk.st st ?_
        refine oWk.st (fun _ kt => zB X hx hby at_232 rfl rfl rfl kt) ?_
        refine oWk.st (fun _ kt => Jvm.RoadKit.acmp (g := (mkF m 234 #[iv p0, iv p1, iv p2, rv c0, rv c1, rv c2, rv c3, rv u0, rv u1, iv 3, iv 0, iv 0, rv ord, rv uno, rv par, rv c0] [(.ref c0), (.ref c0)])) X hx rfl rfl rfl (pc0 := 234) (pc' := 237) (same := true) rfl (hb hby at_234) rfl (decide_eq_true rfl) (by decide) (by decide) kt) ?_
        show oWk _ _ _ _ T (mkF m 237 #[iv p0, iv p1, iv p2, rv c0, rv c1, rv c2, rv c3, rv u0, rv u1, iv 3, iv 0, iv 0, rv ord, rv uno, rv par, rv c0] [])
        refine oWk.st (fun _ kt => zK X hx hby at_237 rfl (zG X hx hby at_238 rfl (pc' := 242) rfl kt)) ?_
        show oWk _ _ _ _ T (mkF m 242 #[iv p0, iv p1, iv p2, rv c0, rv c1, rv c2, rv c3, rv u0, rv u1, iv 3, iv 0, iv 0, rv ord, rv uno, rv par, rv c0] [(.int 1)])
        exact oRetH X hx hlk hZ (oELw hw) e0 B hret (oNar01 (Or.inr rfl)) (Or.inl ⟨rfl, Or.inr (Or.inl rfl), _, rfl⟩) (hb hby at_242) (by rw [e0]; exact ⟨rfl, K.fr⟩) (by decide) (by decide)
      · show oWk _ _ _ _ T (mkF m 184 #[iv p0, iv p1, iv p2, rv c0, rv c1, rv c2, rv c3, rv u0, rv u1, iv 3, iv 0, iv 1, rv ord, rv uno, rv par, uu] [])
        refine oWk.st (fun _ kt => zJ X hx hby at_184 rfl rfl (zF X hx hby at_186 rfl rfl ((if0 _ _).trans (feq (by decide)).2) (pc' := 195) rfl (zJ X hx hby at_195 rfl rfl (zK X hx hby at_197 rfl (zN X hx hby at_198 rfl rfl (teq (by decide)).2 (zB X hx hby at_201 rfl rfl rfl (zT X hx hby at_203 rfl rfl rfl (l' := #[iv p0, iv p1, iv p2, rv c0, rv c1, rv c2, rv c3, rv u0, rv u1, iv 3, iv 0, iv 1, rv ord, rv uno, rv par, rv c1]) rfl (zG X hx hby at_205 rfl (pc' := 225) rfl kt)))))))) ?_
        show oWk _ _ _ _ T (mkF m 225 #[iv p0, iv p1, iv p2, rv c0, rv c1, rv c2, rv c3, rv u0, rv u1, iv 3, iv 0, iv 1, rv ord, rv uno, rv par, rv c1] [])
        refine oWk.st (fun _ kt => zB X hx hby at_225 rfl rfl rfl (zJ X hx hby at_227 rfl rfl kt)) ?_
        have E_c1 := (E_c1.keep K99.1)
        have Oh := K.old O0 all0
        obtain ⟨T, L104, X, e0, K, st⟩ := (cs22 hw).pure X hx hZ hown e0 K (A := [(.ref par), (.int (1 : Int32))]) ⟨rfl, _, _, rfl, E_par⟩ (rNd_3_1 l Z a0 hw [] par nl c0 c1 c2 ng nj h Oh F_ordered_par E_nl F_elements_nl V_ng E_c1) (fun _ _ _ q => q) (W := 0) (by decide) hml (Ls := #[iv p0, iv p1, iv p2, rv c0, rv c1, rv c2, rv c3, rv u0, rv u1, iv 3, iv 0, iv 1, rv ord, rv uno, rv par, rv c1]) rfl (rest := []) rfl rfl hby at_229
        refine oWk.st st ?_
        refine oWk.st (fun _ kt => zB X hx hby at_232 rfl rfl rfl kt) ?_
        refine oWk.st (fun _ kt => Jvm.RoadKit.acmp (g := (mkF m 234 #[iv p0, iv p1, iv p2, rv c0, rv c1, rv c2, rv c3, rv u0, rv u1, iv 3, iv 0, iv 1, rv ord, rv uno, rv par, rv c1] [(.ref c1), (.ref c1)])) X hx rfl rfl rfl (pc0 := 234) (pc' := 237) (same := true) rfl (hb hby at_234) rfl (decide_eq_true rfl) (by decide) (by decide) kt) ?_
        show oWk _ _ _ _ T (mkF m 237 #[iv p0, iv p1, iv p2, rv c0, rv c1, rv c2, rv c3, rv u0, rv u1, iv 3, iv 0, iv 1, rv ord, rv uno, rv par, rv c1] [])
        refine oWk.st (fun _ kt => zK X hx hby at_237 rfl (zG X hx hby at_238 rfl (pc' := 242) rfl kt)) ?_
        show oWk _ _ _ _ T (mkF m 242 #[iv p0, iv p1, iv p2, rv c0, rv c1, rv c2, rv c3, rv u0, rv u1, iv 3, iv 0, iv 1, rv ord, rv uno, rv par, rv c1] [(.int 1)])
        exact oRetH X hx hlk hZ (oELw hw) e0 B hret (oNar01 (Or.inr rfl)) (Or.inl ⟨rfl, Or.inr (Or.inl rfl), _, rfl⟩) (hb hby at_242) (by rw [e0]; exact ⟨rfl, K.fr⟩) (by decide) (by decide)
      · show oWk _ _ _ _ T (mkF m 184 #[iv p0, iv p1, iv p2, rv c0, rv c1, rv c2, rv c3, rv u0, rv u1, iv 3, iv 0, iv 2, rv ord, rv uno, rv par, uu] [])
        refine oWk.st (fun _ kt => zJ X hx hby at_184 rfl rfl (zF X hx hby at_186 rfl rfl ((if0 _ _).trans (feq (by decide)).2) (pc' := 195) rfl (zJ X hx hby at_195 rfl rfl (zK X hx hby at_197 rfl (zY X hx hby at_198 rfl rfl (feq (by decide)).2 (pc' := 208) rfl (zJ X hx hby at_208 rfl rfl (zK X hx hby at_210 rfl (zN X hx hby at_211 rfl rfl (teq (by decide)).2 kt)))))))) ?_
        show oWk _ _ _ _ T (mkF m 214 #[iv p0, iv p1, iv p2, rv c0, rv c1, rv c2, rv c3, rv u0, rv u1, iv 3, iv 0, iv 2, rv ord, rv uno, rv par, uu] [])
        refine oWk.st (fun _ kt => zB X hx hby at_214 rfl rfl rfl (zT X hx hby at_216 rfl rfl rfl (l' := #[iv p0, iv p1, iv p2, rv c0, rv c1, rv c2, rv c3, rv u0, rv u1, iv 3, iv 0, iv 2, rv ord, rv uno, rv par, rv c2]) rfl (zG X hx hby at_218 rfl (pc' := 225) rfl (zB X hx hby at_225 rfl rfl rfl (zJ X hx hby at_227 rfl rfl kt))))) ?_
        have E_c2 := (E_c2.keep K99.1)
        have Oh := K.old O0 all0
        obtain ⟨T, L106, X, e0, K, st⟩ := (cs22 hw).pure X hx hZ hown e0 K (A := [(.ref par), (.int (2 : Int32))]) ⟨rfl, _, _, rfl, E_par⟩ (rNd_3_2 l Z a0 hw [] par nl c0 c1 c2 ng nj h Oh F_ordered_par E_nl F_elements_nl V_ng E_c2) (fun _ _ _ q => q) (W := 0) (by decide) hml (Ls := #[iv p0, iv p1, iv p2, rv c0, rv c1, rv c2, rv c3, rv u0, rv u1, iv 3, iv 0, iv 2, rv ord, rv uno, rv par, rv c2]) rfl (rest := []) rfl rfl hby at_229
        refine oWk.st st ?_
        refine oWk.st (fun _ kt => zB X hx hby at_232 rfl rfl rfl kt) ?_
        refine oWk.st (fun _ kt => Jvm.RoadKit.acmp (g := (mkF m 234 #[iv p0, iv p1, iv p2, rv c0, rv c1, rv c2, rv c3, rv u0, rv u1, iv 3, iv 0, iv 2, rv ord, rv uno, rv par, rv c2] [(.ref c2), (.ref c2)])) X hx rfl rfl rfl (pc0 := 234) (pc' := 237) (same := true) rfl (hb hby at_234) rfl (decide_eq_true rfl) (by decide) (by decide) kt) ?_
        show oWk _ _ _ _ T (mkF m 237 #[iv p0, iv p1, iv p2, rv c0, rv c1, rv c2, rv c3, rv u0, rv u1, iv 3, iv 0, iv 2, rv ord, rv uno, rv par, rv c2] [])
        refine oWk.st (fun _ kt => zK X hx hby at_237 rfl (zG X hx hby at_238 rfl (pc' := 242) rfl kt)) ?_
        show oWk _ _ _ _ T (mkF m 242 #[iv p0, iv p1, iv p2, rv c0, rv c1, rv c2, rv c3, rv u0, rv u1, iv 3, iv 0, iv 2, rv ord, rv uno, rv par, rv c2] [(.int 1)])
        exact oRetH X hx hlk hZ (oELw hw) e0 B hret (oNar01 (Or.inr rfl)) (Or.inl ⟨rfl, Or.inr (Or.inl rfl), _, rfl⟩) (hb hby at_242) (by rw [e0]; exact ⟨rfl, K.fr⟩) (by decide) (by decide)
    · show oWk _ _ _ _ T (mkF m 138 #[iv p0, iv p1, iv p2, rv c0, rv c1, rv c2, rv c3, rv u0, rv u1, iv 3, iv 1, iv ix, rv ord, rv uno, uu, uu] [])
      refine oWk.st (fun _ kt => zJ X hx hby at_138 rfl rfl (zK X hx hby at_140 rfl (zN X hx hby at_141 rfl rfl (flt (by decide)).1 (zB X hx hby at_144 rfl rfl rfl (zB X hx hby at_146 rfl rfl rfl kt))))) ?_
      have V_xd := ((V_xd.ext E94).keep K95.1 (ninS ne_xd_uno nin0))
      have E_u0 := ((E_u0.ext E94).keep K95.1)
      have lt_xd := V_xd.lt
      have E_xq := ((E_xq.ext E94).keep K95.1)
      have lt_xq := E_xq.lt
      have E_c0 := ((E_c0.ext E94).keep K95.1)
      have lt_c0 := E_c0.lt
      have E_c1 := ((E_c1.ext E94).keep K95.1)
      have lt_c1 := E_c1.lt
      have E_c2 := ((E_c2.ext E94).keep K95.1)
      have lt_c2 := E_c2.lt
      have E_c3 := ((E_c3.ext E94).keep K95.1)
      have lt_c3 := E_c3.lt
      have lt_u0 := E_u0.lt
      have E_u1 := ((E_u1.ext E94).keep K95.1)
      have lt_u1 := E_u1.lt
      have E_ord := ((E_ord.ext E94).keep K95.1)
      have lt_ord := E_ord.lt
      have E_nd83 := ((E_nd83.ext E94).keep K95.1)
      have lt_nd83 := E_nd83.lt
      have lt_uno := E_uno.lt
      have Oh := K.old O0 all0
      obtain ⟨_, T, h, Lc108, X, e0, hQ, st⟩ := (cs12 hw).run X hx hZ hown e0 (A := [(.ref uno), (.ref u0)]) ⟨rfl, _, _, rfl, E_uno⟩ (rAd_0 l Z a0 hw [] uno u0 xd xk (0 : Int32) h Oh S_DEFAULTCAPACITY_EMPTY_ELEMENTDATA (Nat.le_trans O0.1 ge_uno) E_uno F_elementData_uno F_size_uno F_modCount_uno V_xd (Ins.of_exa E_u0 (oW hw 129 rfl)) (Ne.symm ne_u0_uno) (Ne.symm ne_xd_uno)) (W := 0) (by decide) hml (Ls := #[iv p0, iv p1, iv p2, rv c0, rv c1, rv c2, rv c3, rv u0, rv u1, iv 3, iv 1, iv ix, rv ord, rv uno, uu, uu]) rfl (rest := []) rfl rfl hby at_148
      obtain ⟨nd148, nk148, rfl, K107, E_uno, F_elementData_uno, F_size_uno, F_modCount_uno, gn_nd148, E_nd148, V_nd148, ov_nk148⟩ := hQ
      have ge_nd148 := Nat.le_trans K.le gn_nd148
      have ne_xd_nd148 : xd ≠ nd148 := Nat.ne_of_lt (Nat.lt_of_lt_of_le lt_xd gn_nd148)
      have ne_xq_nd148 : xq ≠ nd148 := Nat.ne_of_lt (Nat.lt_of_lt_of_le lt_xq gn_nd148)
      have ne_c0_nd148 : c0 ≠ nd148 := Nat.ne_of_lt (Nat.lt_of_lt_of_le lt_c0 gn_nd148)
      have ne_c1_nd148 : c1 ≠ nd148 := Nat.ne_of_lt (Nat.lt_of_lt_of_le lt_c1 gn_nd148)
      have ne_c2_nd148 : c2 ≠ nd148 := Nat.ne_of_lt (Nat.lt_of_lt_of_le lt_c2 gn_nd148)
      have ne_c3_nd148 : c3 ≠ nd148 := Nat.ne_of_lt (Nat.lt_of_lt_of_le lt_c3 gn_nd148)
      have ne_u0_nd148 : u0 ≠ nd148 := Nat.ne_of_lt (Nat.lt_of_lt_of_le lt_u0 gn_nd148)
      have ne_u1_nd148 : u1 ≠ nd148 := Nat.ne_of_lt (Nat.lt_of_lt_of_le lt_u1 gn_nd148)
      have ne_ord_nd148 : ord ≠ nd148 := Nat.ne_of_lt (Nat.lt_of_lt_of_le lt_ord gn_nd148)
      have ne_nd83_nd148 : nd83 ≠ nd148 := Nat.ne_of_lt (Nat.lt_of_lt_of_le lt_nd83 gn_nd148)
      have ne_uno_nd148 : uno ≠ nd148 := Nat.ne_of_lt (Nat.lt_of_lt_of_le lt_uno gn_nd148)
      have K := K.call K107 (allS (Or.inr ge_uno) all0)
      have B := B.keep K107.1 (fun _ _ => oSf)
      refine oWk.st st ?_
      refine oWk.st (fun _ kt => XS.pop X.here hx rfl (hb hby at_151) rfl rfl (zJ X hx hby at_152 rfl rfl (zK X hx hby at_154 rfl (zY X hx hby at_155 rfl rfl (tlt (by decide)).1 (pc' := 166) rfl kt)))) ?_
      obtain ⟨par, g109⟩ : ∃ z, z = h.size := ⟨_, rfl⟩
      have V_xd := (V_xd.keep K107.1 (ninS ne_xd_uno nin0))
      have ne_xd_par : xd ≠ par := Nat.ne_of_lt (Nat.lt_of_lt_of_le V_xd.lt (Nat.le_of_eq g109.symm))
      have E_xq := (E_xq.keep K107.1)
      have ne_xq_par : xq ≠ par := Nat.ne_of_lt (Nat.lt_of_lt_of_le E_xq.lt (Nat.le_of_eq g109.symm))
      have E_c0 := (E_c0.keep K107.1)
      have ne_c0_par : c0 ≠ par := Nat.ne_of_lt (Nat.lt_of_lt_of_le E_c0.lt (Nat.le_of_eq g109.symm))
      have E_c1 := (E_c1.keep K107.1)
      have ne_c1_par : c1 ≠ par := Nat.ne_of_lt (Nat.lt_of_lt_of_le E_c1.lt (Nat.le_of_eq g109.symm))
      have E_c2 := (E_c2.keep K107.1)
      have ne_c2_par : c2 ≠ par := Nat.ne_of_lt (Nat.lt_of_lt_of_le E_c2.lt (Nat.le_of_eq g109.symm))
      have E_c3 := (E_c3.keep K107.1)
      have ne_c3_par : c3 ≠ par := Nat.ne_of_lt (Nat.lt_of_lt_of_le E_c3.lt (Nat.le_of_eq g109.symm))
      have E_u0 := (E_u0.keep K107.1)
      have ne_u0_par : u0 ≠ par := Nat.ne_of_lt (Nat.lt_of_lt_of_le E_u0.lt (Nat.le_of_eq g109.symm))
      have E_u1 := (E_u1.keep K107.1)
      have ne_u1_par : u1 ≠ par := Nat.ne_of_lt (Nat.lt_of_lt_of_le E_u1.lt (Nat.le_of_eq g109.symm))
      have E_ord := (E_ord.keep K107.1)
      have ne_ord_par : ord ≠ par := Nat.ne_of_lt (Nat.lt_of_lt_of_le E_ord.lt (Nat.le_of_eq g109.symm))
      have E_nd83 := (E_nd83.keep K107.1)
      have ne_nd83_par : nd83 ≠ par := Nat.ne_of_lt (Nat.lt_of_lt_of_le E_nd83.lt (Nat.le_of_eq g109.symm))
      have ne_uno_par : uno ≠ par := Nat.ne_of_lt (Nat.lt_of_lt_of_le E_uno.lt (Nat.le_of_eq g109.symm))
      have ne_nd148_par : nd148 ≠ par := Nat.ne_of_lt (Nat.lt_of_lt_of_le E_nd148.lt (Nat.le_of_eq g109.symm))
      have ge_par : h0.size ≤ par := Nat.le_trans K.le (Nat.le_of_eq g109.symm)
      obtain ⟨T, h, X, e0, E109, A109, D109, -, st⟩ := newO X hx hZ hown (oW hw 7 rfl) (oW hw 8 rfl) (oW hw 9 rfl) e0 (g := (mkF m 166 #[iv p0, iv p1, iv p2, rv c0, rv c1, rv c2, rv c3, rv u0, rv u1, iv 3, iv 1, iv ix, rv ord, rv uno, uu, uu] [])) rfl (hb hby at_166) (by decide) (by decide)
      rw [← g109] at A109 D109 st
      refine oWk.st st ?_
      have K := K.ext E109
      have B := B.ext E109
      have E_par := A109
      have F_kind_par : Fld Z h par Y4 "kind" Y13 .null := D109 (Or.inr (oW hw 89 rfl)) (ty := (.object Y7)) (by decide)
      have F_name_par : Fld Z h par Y4 "name" Y14 .null := D109 (Or.inr (oW hw 91 rfl)) (ty := (.object Y9)) (by decide)
      have F_ordered_par : Fld Z h par Y4 "ordered" Y5 .null := D109 (Or.inr (oW hw 93 rfl)) (ty := (.object Y3)) (by decide)
      have F_unordered_par : Fld Z h par Y4 "unordered" Y5 .null := D109 (Or.inr (oW hw 95 rfl)) (ty := (.object Y3)) (by decide)
      refine oWk.st (fun _ kt => zD X hx hby at_169 rfl rfl rfl kt) ?_
      have Oh := K.old O0 all0
      obtain ⟨T, X, e0, st⟩ := getS2 X hx hZ hown (host := "") (Or.inl (oW hw 98 rfl)) Via.refl e0 (S_JOIN.ext Oh) (g := (mkF m 170 #[iv p0, iv p1, iv p2, rv c0, rv c1, rv c2, rv c3, rv u0, rv u1, iv 3, iv 1, iv ix, rv ord, rv uno, uu, uu] [(.ref par), (.ref par)])) rfl (hb hby at_170)
      refine oWk.st st ?_
      obtain ⟨lit, T, h, X, e2, E110, hZ, hown, B, C, st⟩ := oLdcO X hx hZ hown (oW hw 10 rfl) (oSA hw) e0 (oELw hw) B (g := (mkF m 173 #[iv p0, iv p1, iv p2, rv c0, rv c1, rv c2, rv c3, rv u0, rv u1, iv 3, iv 1, iv ix, rv ord, rv uno, uu, uu] [(.ref kJOIN), (.ref par), (.ref par)])) rfl (hb hby at_173) (n := 0) (by decide) (by decide) (by decide) (by decide)
      have e0 := e2
      refine oWk.st st ?_
      have K := K.ext E110
      refine oWk.st (fun _ kt => zB X hx hby at_175 rfl rfl rfl (zB X hx hby at_177 rfl rfl rfl kt)) ?_
      have E_par := (E_par.ext E110)
      have F_kind_par := (F_kind_par.ext E110)
      have F_name_par := (F_name_par.ext E110)
      have F_ordered_par := (F_ordered_par.ext E110)
      have F_unordered_par := (F_unordered_par.ext E110)
      have E_ord := ((E_ord.ext E109).ext E110)
      have F_elementData_ord := (((((F_elementData_ord.ext E94).keep K95.1 (ninS ne_ord_uno nin0)).keep K107.1 (ninS ne_ord_uno nin0)).ext E109).ext E110)
      have F_size_ord := (((((F_size_ord.ext E94).keep K95.1 (ninS ne_ord_uno nin0)).keep K107.1 (ninS ne_ord_uno nin0)).ext E109).ext E110)
      have E_nd83 := ((E_nd83.ext E109).ext E110)
      have V_nd83 := (((((V_nd83.ext E94).keep K95.1 (ninS ne_nd83_uno nin0)).keep K107.1 (ninS ne_nd83_uno nin0)).ext E109).ext E110)
      have E_c0 := ((E_c0.ext E109).ext E110)
      have E_c1 := ((E_c1.ext E109).ext E110)
      have E_c2 := ((E_c2.ext E109).ext E110)
      have E_uno := ((E_uno.ext E109).ext E110)
      have F_elementData_uno := ((F_elementData_uno.ext E109).ext E110)
      have F_size_uno := ((F_size_uno.ext E109).ext E110)
      have E_nd148 := ((E_nd148.ext E109).ext E110)
      have V_nd148 := ((V_nd148.ext E109).ext E110)
      have E_u0 := ((E_u0.ext E109).ext E110)
      have Oh := K.old O0 all0
      obtain ⟨_, _, ⟨T, L112, k112, n112⟩, -, X, hS, hgr, ⟨Lc112, hQ, l112, y112, z112, C⟩, st⟩ := X.specialBackS hx (y := yy7) rfl hown (mvT hZ (oW hw 44 rfl)) (mvT hZ (oW hw 45 rfl)) (mvT hZ (oW hw 46 rfl)) (by decide) (oBackH (W := 1) (rNI_3_1 l Z a0 hw [] par kJOIN lit .null .null .null .null ord nd83 nk83 c0 c1 c2 uno nd148 nk148 u0 xq xmr h Oh S_EMPTY mm_ (Nat.le_trans O0.1 ge_par) E_par F_kind_par F_name_par F_ordered_par F_unordered_par E_ord F_elementData_ord F_size_ord E_nd83 V_nd83 (Ins.of_exa E_c0 (oW hw 129 rfl)) (Ins.of_exa E_c1 (oW hw 129 rfl)) (Ins.of_exa E_c2 (oW hw 129 rfl)) E_uno F_elementData_uno F_size_uno E_nd148 V_nd148 (Ins.of_exa E_u0 (oW hw 129 rfl))) hZ (oW hw 46 rfl) (oW hw 9 rfl) (by decide) (by decide) (oELw hw) B.2.1 (allS ⟨E_par.lt, oSf⟩ all0)) (g := (mkF m 179 #[iv p0, iv p1, iv p2, rv c0, rv c1, rv c2, rv c3, rv u0, rv u1, iv 3, iv 1, iv ix, rv ord, rv uno, uu, uu] [(.ref uno), (.ref ord), (.ref lit), (.ref kJOIN), (.ref par), (.ref par)])) rfl (by rw [hml]; rfl) (Steps.refl _) (a := par) (argsL := [(.ref kJOIN), (.ref lit), (.ref ord), (.ref uno)]) (rest := [(.ref par)]) (lenOf pd_5 rfl) rfl (Nat.le_of_eq rfl) (hb hby at_179) (fun _ _ => ⟨rfl, e0, (by decide : 61 + 9 ≤ _), (by decide : 358 + 51 ≤ _)⟩)
      dsimp only [Pt.U, Pt.locs, Pt.cells, Pt.slots] at X l112 y112 z112 st hQ C hS hgr
      subst l112 y112 z112
      have X : Stand p l e _ (s.setVm T.vm) m _ below meth c T _ _ _ := X
      obtain ⟨h, e2⟩ : ∃ z, T.heap = z := ⟨_, rfl⟩
      have B := B.call e0 hS hgr C e2
      obtain ⟨hZ, hown⟩ := oWide hZ hown hS
      rw [e2] at hQ C
      have e0 := e2
      obtain ⟨nl, ng, nj, rfl, K111, E_par, F_ordered_par, E_nl, F_elements_nl, V_ng⟩ := hQ
      have K := K.call K111 (allS (Or.inr ge_par) all0)
      refine oWk.tr st ?_
      refine oWk.st (fun _ kt => zT X hx hby at_182 rfl rfl rfl (l' := #[iv p0, iv p1, iv p2, rv c0, rv c1, rv c2, rv c3, rv u0, rv u1, iv 3, iv 1, iv ix, rv ord, rv uno, rv par, uu]) rfl kt) ?_
      show oWk _ _ _ _ T (mkF m 184 #[iv p0, iv p1, iv p2, rv c0, rv c1, rv c2, rv c3, rv u0, rv u1, iv 3, iv 1, iv ix, rv ord, rv uno, rv par, uu] [])
      have ci := oRem3 hix
      rcases ci with rfl | rfl | rfl
      · show oWk _ _ _ _ T (mkF m 184 #[iv p0, iv p1, iv p2, rv c0, rv c1, rv c2, rv c3, rv u0, rv u1, iv 3, iv 1, iv 0, rv ord, rv uno, rv par, uu] [])
        refine oWk.st (fun _ kt => zJ X hx hby at_184 rfl rfl (zH X hx hby at_186 rfl rfl ((if0 _ _).trans (teq (by decide)).2) (zA X hx hby at_189 rfl rfl rfl (zT X hx hby at_190 rfl rfl rfl (l' := #[iv p0, iv p1, iv p2, rv c0, rv c1, rv c2, rv c3, rv u0, rv u1, iv 3, iv 1, iv 0, rv ord, rv uno, rv par, rv c0]) rfl (zG X hx hby at_192 rfl (pc' := 225) rfl (zB X hx hby at_225 rfl rfl rfl (zJ X hx hby at_227 rfl rfl kt))))))) ?_
        have E_c0 := (E_c0.keep K111.1)
        have Oh := K.old O0 all0
        obtain ⟨T, L114, X, e0, K, st⟩ := (cs22 hw).pure X hx hZ hown e0 K (A := [(.ref par), (.int (0 : Int32))]) ⟨rfl, _, _, rfl, E_par⟩ (rNd_3_0 l Z a0 hw [] par nl c0 c1 c2 ng nj h Oh F_ordered_par E_nl F_elements_nl V_ng E_c0) (fun _ _ _ q => q) (W := 0) (by decide) hml (Ls := #[iv p0, iv p1, iv p2, rv c0, rv c1, rv c2, rv c3, rv u0, rv u1, iv 3, iv 1, iv 0, rv ord, rv uno, rv par, rv c0]) rfl (rest := []) rfl rfl hby at_229
        refine oWk.st st ?_
        refine oWk.st (fun _ kt => zB X hx hby at_232 rfl rfl rfl kt) ?_
        refine oWk.st (fun _ kt => Jvm.RoadKit.acmp (g := (mkF m 234 #[iv p0, iv p1, iv p2, rv c0, rv c1, rv c2, rv c3, rv u0, rv u1, iv 3, iv 1, iv 0, rv ord, rv uno, rv par, rv c0] [(.ref c0), (.ref c0)])) X hx rfl rfl rfl (pc0 := 234) (pc' := 237) (same := true) rfl (hb hby at_234) rfl (decide_eq_true rfl) (by decide) (by decide) kt) ?_
        show oWk _ _ _ _ T (mkF m 237 #[iv p0, iv p1, iv p2, rv c0, rv c1, rv c2, rv c3, rv u0, rv u1, iv 3, iv 1, iv 0, rv ord, rv uno, rv par, rv c0] [])
        refine oWk.st (fun _ kt => zK X hx hby at_237 rfl (zG X hx hby at_238 rfl (pc' := 242) rfl kt)) ?_
        show oWk _ _ _ _ T (mkF m 242 #[iv p0, iv p1, iv p2, rv c0, rv c1, rv c2, rv c3, rv u0, rv u1, iv 3, iv 1, iv 0, rv ord, rv uno, rv par, rv c0] [(.int 1)])
        exact oRetH X hx hlk hZ (oELw hw) e0 B hret (oNar01 (Or.inr rfl)) (Or.inl ⟨rfl, Or.inr (Or.inl rfl), _, rfl⟩) (hb hby at_242) (by rw [e0]; exact ⟨rfl, K.fr⟩) (by decide) (by decide)
      · show oWk _ _ _ _ T (mkF m 184 #[iv p0, iv p1, iv p2, rv c0, rv c1, rv c2, rv c3, rv u0, rv u1, iv 3, iv 1, iv 1, rv ord, rv uno, rv par, uu] [])
        refine oWk.st (fun _ kt => zJ X hx hby at_184 rfl rfl (zF X hx hby at_186 rfl rfl ((if0 _ _).trans (feq (by decide)).2) (pc' := 195) rfl (zJ X hx hby at_195 rfl rfl (zK X hx hby at_197 rfl (zN X hx hby at_198 rfl rfl (teq (by decide)).2 (zB X hx hby at_201 rfl rfl rfl (zT X hx hby at_203 rfl rfl rfl (l' := #[iv p0, iv p1, iv p2, rv c0, rv c1, rv c2, rv c3, rv u0, rv u1, iv 3, iv 1, iv 1, rv ord, rv uno, rv par, rv c1]) rfl (zG X hx hby at_205 rfl (pc' := 225) rfl kt)))))))) ?_
        show oWk _ _ _ _ T (mkF m 225 #[iv p0, iv p1, iv p2, rv c0, rv c1, rv c2, rv c3, rv u0, rv u1, iv 3, iv 1, iv 1, rv ord, rv uno, rv par, rv c1] [])
        refine oWk.st (fun _ kt => zB X hx hby at_225 rfl rfl rfl (zJ X hx hby at_227 rfl rfl kt)) ?_
        have E_c1 := (E_c1.keep K111.1)
        have Oh := K.old O0 all0
        obtain ⟨T, L116, X, e0, K, st⟩ := (cs22 hw).pure X hx hZ hown e0 K (A := [(.ref par), (.int (1 : Int32))]) ⟨rfl, _, _, rfl, E_par⟩ (rNd_3_1 l Z a0 hw [] par nl c0 c1 c2 ng nj h Oh F_ordered_par E_nl F_elements_nl V_ng E_c1) (fun _ _ _ q => q) (W := 0) (by decide) hml (Ls := #[iv p0, iv p1, iv p2, rv c0, rv c1, rv c2, rv c3, rv u0, rv u1, iv 3, iv 1, iv 1, rv ord, rv uno, rv par, rv c1]) rfl (rest := []) rfl rfl hby at_229
        refine oWk.st st ?_
        refine oWk.st (fun _ kt => zB X hx hby at_232 rfl rfl rfl kt) ?_
        refine oWk.st (fun _ kt => Jvm.RoadKit.acmp (g := (mkF m 234 #[iv p0, iv p1, iv p2, rv c0, rv c1, rv c2, rv c3, rv u0, rv u1, iv 3, iv 1, iv 1, rv ord, rv uno, rv par, rv c1] [(.ref c1), (.ref c1)])) X hx rfl rfl rfl (pc0 := 234) (pc' := 237) (same := true) rfl (hb hby at_234) rfl (decide_eq_true rfl) (by decide) (by decide) kt) ?_
        show oWk _ _ _ _ T (mkF m 237 #[iv p0, iv p1, iv p2, rv c0, rv c1, rv c2, rv c3, rv u0, rv u1, iv 3, iv 1, iv 1, rv ord, rv uno, rv par, rv c1] [])
        refine oWk.st (fun _ kt => zK X hx hby at_237 rfl (zG X hx hby at_238 rfl (pc' := 242) rfl kt)) ?_
        show oWk _ _ _ _ T (mkF m 242 #[iv p0, iv p1, iv p2, rv c0, rv c1, rv c2, rv c3, rv u0, rv u1, iv 3, iv 1, iv 1, rv ord, rv uno, rv par, rv c1] [(.int 1)])
        exact oRetH X hx hlk hZ (oELw hw) e0 B hret (oNar01 (Or.inr rfl)) (Or.inl ⟨rfl, Or.inr (Or.inl rfl), _, rfl⟩) (hb hby at_242) (by rw [e0]; exact ⟨rfl, K.fr⟩) (by decide) (by decide)
      · show oWk _ _ _ _ T (mkF m 184 #[iv p0, iv p1, iv p2, rv c0, rv c1, rv c2, rv c3, rv u0, rv u1, iv 3, iv 1, iv 2, rv ord, rv uno, rv par, uu] [])
        refine oWk.st (fun _ kt => zJ X hx hby at_184 rfl rfl (zF X hx hby at_186 rfl rfl ((if0 _ _).trans (feq (by decide)).2) (pc' := 195) rfl (zJ X hx hby at_195 rfl rfl (zK X hx hby at_197 rfl (zY X hx hby at_198 rfl rfl (feq (by decide)).2 (pc' := 208) rfl (zJ X hx hby at_208 rfl rfl (zK X hx hby at_210 rfl (zN X hx hby at_211 rfl rfl (teq (by decide)).2 kt)))))))) ?_
        show oWk _ _ _ _ T (mkF m 214 #[iv p0, iv p1, iv p2, rv c0, rv c1, rv c2, rv c3, rv u0, rv u1, iv 3, iv 1, iv 2, rv ord, rv uno, rv par, uu] [])
        refine oWk.st (fun _ kt => zB X hx hby at_214 rfl rfl rfl (zT X hx hby at_216 rfl rfl rfl (l' := #[iv p0, iv p1, iv p2, rv c0, rv c1, rv c2, rv c3, rv u0, rv u1, iv 3, iv 1, iv 2, rv ord, rv uno, rv par, rv c2]) rfl (zG X hx hby at_218 rfl (pc' := 225) rfl (zB X hx hby at_225 rfl rfl rfl (zJ X hx hby at_227 rfl rfl kt))))) ?_
        have E_c2 := (E_c2.keep K111.1)
        have Oh := K.old O0 all0
        obtain ⟨T, L118, X, e0, K, st⟩ := (cs22 hw).pure X hx hZ hown e0 K (A := [(.ref par), (.int (2 : Int32))]) ⟨rfl, _, _, rfl, E_par⟩ (rNd_3_2 l Z a0 hw [] par nl c0 c1 c2 ng nj h Oh F_ordered_par E_nl F_elements_nl V_ng E_c2) (fun _ _ _ q => q) (W := 0) (by decide) hml (Ls := #[iv p0, iv p1, iv p2, rv c0, rv c1, rv c2, rv c3, rv u0, rv u1, iv 3, iv 1, iv 2, rv ord, rv uno, rv par, rv c2]) rfl (rest := []) rfl rfl hby at_229
        refine oWk.st st ?_
        refine oWk.st (fun _ kt => zB X hx hby at_232 rfl rfl rfl kt) ?_
        refine oWk.st (fun _ kt => Jvm.RoadKit.acmp (g := (mkF m 234 #[iv p0, iv p1, iv p2, rv c0, rv c1, rv c2, rv c3, rv u0, rv u1, iv 3, iv 1, iv 2, rv ord, rv uno, rv par, rv c2] [(.ref c2), (.ref c2)])) X hx rfl rfl rfl (pc0 := 234) (pc' := 237) (same := true) rfl (hb hby at_234) rfl (decide_eq_true rfl) (by decide) (by decide) kt) ?_
        show oWk _ _ _ _ T (mkF m 237 #[iv p0, iv p1, iv p2, rv c0, rv c1, rv c2, rv c3, rv u0, rv u1, iv 3, iv 1, iv 2, rv ord, rv uno, rv par, rv c2] [])
        refine oWk.st (fun _ kt => zK X hx hby at_237 rfl (zG X hx hby at_238 rfl (pc' := 242) rfl kt)) ?_
        show oWk _ _ _ _ T (mkF m 242 #[iv p0, iv p1, iv p2, rv c0, rv c1, rv c2, rv c3, rv u0, rv u1, iv 3, iv 1, iv 2, rv ord, rv uno, rv par, rv c2] [(.int 1)])
        exact oRetH X hx hlk hZ (oELw hw) e0 B hret (oNar01 (Or.inr rfl)) (Or.inl ⟨rfl, Or.inr (Or.inl rfl), _, rfl⟩) (hb hby at_242) (by rw [e0]; exact ⟨rfl, K.fr⟩) (by decide) (by decide)
    · show oWk _ _ _ _ T (mkF m 138 #[iv p0, iv p1, iv p2, rv c0, rv c1, rv c2, rv c3, rv u0, rv u1, iv 3, iv 2, iv ix, rv ord, rv uno, uu, uu] [])
      refine oWk.st (fun _ kt => zJ X hx hby at_138 rfl rfl (zK X hx hby at_140 rfl (zN X hx hby at_141 rfl rfl (flt (by decide)).1 (zB X hx hby at_144 rfl rfl rfl (zB X hx hby at_146 rfl rfl rfl kt))))) ?_
      have V_xd := ((V_xd.ext E94).keep K95.1 (ninS ne_xd_uno nin0))
      have E_u0 := ((E_u0.ext E94).keep K95.1)
      have lt_xd := V_xd.lt
      have E_xq := ((E_xq.ext E94).keep K95.1)
      have lt_xq := E_xq.lt
      have E_c0 := ((E_c0.ext E94).keep K95.1)
      have lt_c0 := E_c0.lt
      have E_c1 := ((E_c1.ext E94).keep K95.1)
      have lt_c1 := E_c1.lt
      have E_c2 := ((E_c2.ext E94).keep K95.1)
      have lt_c2 := E_c2.lt
      have E_c3 := ((E_c3.ext E94).keep K95.1)
      have lt_c3 := E_c3.lt
      have lt_u0 := E_u0.lt
      have E_u1 := ((E_u1.ext E94).keep K95.1)
      have lt_u1 := E_u1.lt
      have E_ord := ((E_ord.ext E94).keep K95.1)
      have lt_ord := E_ord.lt
      have E_nd83 := ((E_nd83.ext E94).keep K95.1)
      have lt_nd83 := E_nd83.lt
      have lt_uno := E_uno.lt
      have Oh := K.old O0 all0
      obtain ⟨_, T, h, Lc120, X, e0, hQ, st⟩ := (cs12 hw).run X hx hZ hown e0 (A := [(.ref uno), (.ref u0)]) ⟨rfl, _, _, rfl, E_uno⟩ (rAd_0 l Z a0 hw [] uno u0 xd xk (0 : Int32) h Oh S_DEFAULTCAPACITY_EMPTY_ELEMENTDATA (Nat.le_trans O0.1 ge_uno) E_uno F_elementData_uno F_size_uno F_modCount_uno V_xd (Ins.of_exa E_u0 (oW hw 129 rfl)) (Ne.symm ne_u0_uno) (Ne.symm ne_xd_uno)) (W := 0) (by decide) hml (Ls := #[iv p0, iv p1, iv p2, rv c0, rv c1, rv c2, rv c3, rv u0, rv u1, iv 3, iv 2, iv ix, rv ord, rv uno, uu, uu]) rfl (rest := []) rfl rfl hby at_148
      obtain ⟨nd148, nk148, rfl, K119, E_uno, F_elementData_uno, F_size_uno, F_modCount_uno, gn_nd148, E_nd148, V_nd148, ov_nk148⟩ := hQ
      have ge_nd148 := Nat.le_trans K.le gn_nd148
      have ne_xd_nd148 : xd ≠ nd148 := Nat.ne_of_lt (Nat.lt_of_lt_of_le lt_xd gn_nd148)
      have ne_xq_nd148 : xq ≠ nd148 := Nat.ne_of_lt (Nat.lt_of_lt_of_le lt_xq gn_nd148)
      have ne_c0_nd148 : c0 ≠ nd148 := Nat.ne_of_lt (Nat.lt_of_lt_of_le lt_c0 gn_nd148)
      have ne_c1_nd148 : c1 ≠ nd148 := Nat.ne_of_lt (Nat.lt_of_lt_of_le lt_c1 gn_nd148)
      have ne_c2_nd148 : c2 ≠ nd148 := Nat.ne_of_lt (Nat.lt_of_lt_of_le lt_c2 gn_nd148)
      have ne_c3_nd148 : c3 ≠ nd148 := Nat.ne_of_lt (Nat.lt_of_lt_of_le lt_c3 gn_nd148)
      have ne_u0_nd148 : u0 ≠ nd148 := Nat.ne_of_lt (Nat.lt_of_lt_of_le lt_u0 gn_nd148)
      have ne_u1_nd148 : u1 ≠ nd148 := Nat.ne_of_lt (Nat.lt_of_lt_of_le lt_u1 gn_nd148)
      have ne_ord_nd148 : ord ≠ nd148 := Nat.ne_of_lt (Nat.lt_of_lt_of_le lt_ord gn_nd148)
      have ne_nd83_nd148 : nd83 ≠ nd148 := Nat.ne_of_lt (Nat.lt_of_lt_of_le lt_nd83 gn_nd148)
      have ne_uno_nd148 : uno ≠ nd148 := Nat.ne_of_lt (Nat.lt_of_lt_of_le lt_uno gn_nd148)
      have K := K.call K119 (allS (Or.inr ge_uno) all0)
      have B := B.keep K119.1 (fun _ _ => oSf)
      refine oWk.st st ?_
      refine oWk.st (fun _ kt => XS.pop X.here hx rfl (hb hby at_151) rfl rfl (zJ X hx hby at_152 rfl rfl (zK X hx hby at_154 rfl (zN X hx hby at_155 rfl rfl (flt (by decide)).1 (zB X hx hby at_158 rfl rfl rfl (zB X hx hby at_160 rfl rfl rfl kt)))))) ?_
      have E_u1 := (E_u1.keep K119.1)
      have Oh := K.old O0 all0
      obtain ⟨_, T, h, Lc122, X, e0, hQ, st⟩ := (cs12 hw).run X hx hZ hown e0 (A := [(.ref uno), (.ref u1)]) ⟨rfl, _, _, rfl, E_uno⟩ (rAd_1 l Z a0 hw [] uno u1 nd148 nk148 ((0 : Int32) + (1 : Int32)) u0 h Oh (Nat.le_trans O0.1 ge_uno) (Nat.le_trans O0.1 ge_nd148) ne_uno_nd148 E_uno F_elementData_uno F_size_uno F_modCount_uno E_nd148 V_nd148 ov_nk148 (Ins.of_exa E_u1 (oW hw 129 rfl))) (W := 0) (by decide) hml (Ls := #[iv p0, iv p1, iv p2, rv c0, rv c1, rv c2, rv c3, rv u0, rv u1, iv 3, iv 2, iv ix, rv ord, rv uno, uu, uu]) rfl (rest := []) rfl rfl hby at_162
      obtain ⟨rfl, K121, E_uno, F_elementData_uno, F_size_uno, F_modCount_uno, E_nd148, V_nd148⟩ := hQ
      have K := K.call K121 (allS (Or.inr ge_uno) (allS (Or.inr ge_nd148) all0))
      have B := B.keep K121.1 (fun _ _ => oSf)
      refine oWk.st st ?_
      refine oWk.st (fun _ kt => XS.pop X.here hx rfl (hb hby at_165) rfl rfl kt) ?_
      obtain ⟨par, g123⟩ : ∃ z, z = h.size := ⟨_, rfl⟩
      have V_xd := ((V_xd.keep K119.1 (ninS ne_xd_uno nin0)).keep K121.1 (ninS ne_xd_uno (ninS ne_xd_nd148 nin0)))
      have ne_xd_par : xd ≠ par := Nat.ne_of_lt (Nat.lt_of_lt_of_le V_xd.lt (Nat.le_of_eq g123.symm))
      have E_xq := ((E_xq.keep K119.1).keep K121.1)
      have ne_xq_par : xq ≠ par := Nat.ne_of_lt (Nat.lt_of_lt_of_le E_xq.lt (Nat.le_of_eq g123.symm))
      have E_c0 := ((E_c0.keep K119.1).keep K121.1)
      have ne_c0_par : c0 ≠ par := Nat.ne_of_lt (Nat.lt_of_lt_of_le E_c0.lt (Nat.le_of_eq g123.symm))
      have E_c1 := ((E_c1.keep K119.1).keep K121.1)
      have ne_c1_par : c1 ≠ par := Nat.ne_of_lt (Nat.lt_of_lt_of_le E_c1.lt (Nat.le_of_eq g123.symm))
      have E_c2 := ((E_c2.keep K119.1).keep K121.1)
      have ne_c2_par : c2 ≠ par := Nat.ne_of_lt (Nat.lt_of_lt_of_le E_c2.lt (Nat.le_of_eq g123.symm))
      have E_c3 := ((E_c3.keep K119.1).keep K121.1)
      have ne_c3_par : c3 ≠ par := Nat.ne_of_lt (Nat.lt_of_lt_of_le E_c3.lt (Nat.le_of_eq g123.symm))
      have E_u0 := ((E_u0.keep K119.1).keep K121.1)
      have ne_u0_par : u0 ≠ par := Nat.ne_of_lt (Nat.lt_of_lt_of_le E_u0.lt (Nat.le_of_eq g123.symm))
      have E_u1 := (E_u1.keep K121.1)
      have ne_u1_par : u1 ≠ par := Nat.ne_of_lt (Nat.lt_of_lt_of_le E_u1.lt (Nat.le_of_eq g123.symm))
      have E_ord := ((E_ord.keep K119.1).keep K121.1)
      have ne_ord_par : ord ≠ par := Nat.ne_of_lt (Nat.lt_of_lt_of_le E_ord.lt (Nat.le_of_eq g123.symm))
      have E_nd83 := ((E_nd83.keep K119.1).keep K121.1)
      have ne_nd83_par : nd83 ≠ par := Nat.ne_of_lt (Nat.lt_of_lt_of_le E_nd83.lt (Nat.le_of_eq g123.symm))
      have ne_uno_par : uno ≠ par := Nat.ne_of_lt (Nat.lt_of_lt_of_le E_uno.lt (Nat.le_of_eq g123.symm))
      have ne_nd148_par : nd148 ≠ par := Nat.ne_of_lt (Nat.lt_of_lt_of_le E_nd148.lt (Nat.le_of_eq g123.symm))
      have ge_par : h0.size ≤ par := Nat.le_trans K.le (Nat.le_of_eq g123.symm)
      obtain ⟨T, h, X, e0, E123, A123, D123, -, st⟩ := newO X hx hZ hown (oW hw 7 rfl) (oW hw 8 rfl) (oW hw 9 rfl) e0 (g := (mkF m 166 #[iv p0, iv p1, iv p2, rv c0, rv c1, rv c2, rv c3, rv u0, rv u1, iv 3, iv 2, iv ix, rv ord, rv uno, uu, uu] [])) rfl (hb hby at_166) (by decide) (by decide)
      rw [← g123] at A123 D123 st
      refine oWk.st st ?_
      have K := K.ext E123
      have B := B.ext E123
      have E_par := A123
      have F_kind_par : Fld Z h par Y4 "kind" Y13 .null := D123 (Or.inr (oW hw 89 rfl)) (ty := (.object Y7)) (by decide)
      have F_name_par : Fld Z h par Y4 "name" Y14 .null := D123 (Or.inr (oW hw 91 rfl)) (ty := (.object Y9)) (by decide)
      have F_ordered_par : Fld Z h par Y4 "ordered" Y5 .null := D123 (Or.inr (oW hw 93 rfl)) (ty := (.object Y3)) (by decide)
      have F_unordered_par : Fld Z h par Y4 "unordered" Y5 .null := D123 (Or.inr (oW hw 95 rfl)) (ty := (.object Y3)) (by decide)
      refine oWk.st (fun _ kt => zD X hx hby at_169 rfl rfl rfl kt) ?_
      have Oh := K.old O0 all0
      obtain ⟨T, X, e0, st⟩ := getS2 X hx hZ hown (host := "") (Or.inl (oW hw 98 rfl)) Via.refl e0 (S_JOIN.ext Oh) (g := (mkF m 170 #[iv p0, iv p1, iv p2, rv c0, rv c1, rv c2, rv c3, rv u0, rv u1, iv 3, iv 2, iv ix, rv ord, rv uno, uu, uu] [(.ref par), (.ref par)])) rfl (hb hby at_170)
      refine oWk.st st ?_
      obtain ⟨lit, T, h, X, e2, E124, hZ, hown, B, C, st⟩ := oLdcO X hx hZ hown (oW hw 10 rfl) (oSA hw) e0 (oELw hw) B (g := (mkF m 173 #[iv p0, iv p1, iv p2, rv c0, rv c1, rv c2, rv c3, rv u0, rv u1, iv 3, iv 2, iv ix, rv ord, rv uno, uu, uu] [(.ref kJOIN), (.ref par), (.ref par)])) rfl (hb hby at_173) (n := 0) (by decide) (by decide) (by decide) (by decide)
      have e0 := e2
      refine oWk.st st ?_
      have K := K.ext E124
      refine oWk.st (fun _ kt => zB X hx hby at_175 rfl rfl rfl (zB X hx hby at_177 rfl rfl rfl kt)) ?_
      have E_par := (E_par.ext E124)
      have F_kind_par := (F_kind_par.ext E124)
      have F_name_par := (F_name_par.ext E124)
      have F_ordered_par := (F_ordered_par.ext E124)
      have F_unordered_par := (F_unordered_par.ext E124)
      have E_ord := ((E_ord.ext E123).ext E124)
      have F_elementData_ord := ((((((F_elementData_ord.ext E94).keep K95.1 (ninS ne_ord_uno nin0)).keep K119.1 (ninS ne_ord_uno nin0)).keep K121.1 (ninS ne_ord_uno (ninS ne_ord_nd148 nin0))).ext E123).ext E124)
      have F_size_ord := ((((((F_size_ord.ext E94).keep K95.1 (ninS ne_ord_uno nin0)).keep K119.1 (ninS ne_ord_uno nin0)).keep K121.1 (ninS ne_ord_uno (ninS ne_ord_nd148 nin0))).ext E123).ext E124)
      have E_nd83 := ((E_nd83.ext E123).ext E124)
      have V_nd83 := ((((((V_nd83.ext E94).keep K95.1 (ninS ne_nd83_uno nin0)).keep K119.1 (ninS ne_nd83_uno nin0)).keep K121.1 (ninS ne_nd83_uno (ninS ne_nd83_nd148 nin0))).ext E123).ext E124)
      have E_c0 := ((E_c0.ext E123).ext E124)
      have E_c1 := ((E_c1.ext E123).ext E124)
      have E_c2 := ((E_c2.ext E123).ext E124)
      have E_uno := ((E_uno.ext E123).ext E124)
      have F_elementData_uno := ((F_elementData_uno.ext E123).ext E124)
      have F_size_uno := ((F_size_uno.ext E123).ext E124)
      have E_nd148 := ((E_nd148.ext E123).ext E124)
      have V_nd148 := ((V_nd148.ext E123).ext E124)
      have E_u0 := ((E_u0.ext E123).ext E124)
      have E_u1 := ((E_u1.ext E123).ext E124)
      have Oh := K.old O0 all0
      obtain ⟨_, _, ⟨T, L126, k126, n126⟩, -, X, hS, hgr, ⟨Lc126, hQ, l126, y126, z126, C⟩, st⟩ := X.specialBackS hx (y := yy7) rfl hown (mvT hZ (oW hw 44 rfl)) (mvT hZ (oW hw 45 rfl)) (mvT hZ (oW hw 46 rfl)) (by decide) (oBackH (W := 1) (rNI_3_2 l Z a0 hw [] par kJOIN lit .null .null .null .null ord nd83 nk83 c0 c1 c2 uno nd148 nk148 u0 u1 xmr h Oh mm_ (Nat.le_trans O0.1 ge_par) E_par F_kind_par F_name_par F_ordered_par F_unordered_par E_ord F_elementData_ord F_size_ord E_nd83 V_nd83 (Ins.of_exa E_c0 (oW hw 129 rfl)) (Ins.of_exa E_c1 (oW hw 129 rfl)) (Ins.of_exa E_c2 (oW hw 129 rfl)) E_uno F_elementData_uno F_size_uno E_nd148 V_nd148 (Ins.of_exa E_u0 (oW hw 129 rfl)) (Ins.of_exa E_u1 (oW hw 129 rfl))) hZ (oW hw 46 rfl) (oW hw 9 rfl) (by decide) (by decide) (oELw hw) B.2.1 (allS ⟨E_par.lt, oSf⟩ all0)) (g := (mkF m 179 #[iv p0, iv p1, iv p2, rv c0, rv c1, rv c2, rv c3, rv u0, rv u1, iv 3, iv 2, iv ix, rv ord, rv uno, uu, uu] [(.ref uno), (.ref ord), (.ref lit), (.ref kJOIN), (.ref par), (.ref par)])) rfl (by rw [hml]; rfl) (Steps.refl _) (a := par) (argsL := [(.ref kJOIN), (.ref lit), (.ref ord), (.ref uno)]) (rest := [(.ref par)]) (lenOf pd_5 rfl) rfl (Nat.le_of_eq rfl) (hb hby at_179) (fun _ _ => ⟨rfl, e0, (by decide : 61 + 9 ≤ _), (by decide : 358 + 52 ≤ _)⟩)
      dsimp only [Pt.U, Pt.locs, Pt.cells, Pt.slots] at X l126 y126 z126 st hQ C hS hgr
      subst l126 y126 z126
      have X : Stand p l e _ (s.setVm T.vm) m _ below meth c T _ _ _ := X
      obtain ⟨h, e2⟩ : ∃ z, T.heap = z := ⟨_, rfl⟩
      have B := B.call e0 hS hgr C e2
      obtain ⟨hZ, hown⟩ := oWide hZ hown hS
      rw [e2] at hQ C
      have e0 := e2
      obtain ⟨nl, ng, nj, rfl, K125, E_par, F_ordered_par, E_nl, F_elements_nl, V_ng⟩ := hQ
      have K := K.call K125 (allS (Or.inr ge_par) all0)
      refine oWk.tr st ?_
      refine oWk.st (fun _ kt => zT X hx hby at_182 rfl rfl rfl (l' := #[iv p0, iv p1, iv p2, rv c0, rv c1, rv c2, rv c3, rv u0, rv u1, iv 3, iv 2, iv ix, rv ord, rv uno, rv par, uu]) rfl kt) ?_
      show oWk _ _ _ _ T (mkF m 184 #[iv p0, iv p1, iv p2, rv c0, rv c1, rv c2, rv c3, rv u0, rv u1, iv 3, iv 2, iv ix, rv ord, rv uno, rv par, uu] [])
      have ci := oRem3 hix
      rcases ci with rfl | rfl | rfl
      · show oWk _ _ _ _ T (mkF m 184 #[iv p0, iv p1, iv p2, rv c0, rv c1, rv c2, rv c3, rv u0, rv u1, iv 3, iv 2, iv 0, rv ord, rv uno, rv par, uu] [])
        refine oWk.st (fun _ kt => zJ X hx hby at_184 rfl rfl (zH X hx hby at_186 rfl rfl ((if0 _ _).trans (teq (by decide)).2) (zA X hx hby at_189 rfl rfl rfl (zT X hx hby at_190 rfl rfl rfl (l' := #[iv p0, iv p1, iv p2, rv c0, rv c1, rv c2, rv c3, rv u0, rv u1, iv 3, iv 2, iv 0, rv ord, rv uno, rv par, rv c0]) rfl (zG X hx hby at_192 rfl (pc' := 225) rfl (zB X hx hby at_225 rfl rfl rfl (zJ X hx hby at_227 rfl rfl kt))))))) ?_
        have E_c0 := (E_c0.keep K125.1)
        have Oh := K.old O0 all0
        obtain ⟨T, L128, X, e0, K, st⟩ := (cs22 hw).pure X hx hZ hown e0 K (A := [(.ref par), (.int (0 : Int32))]) ⟨rfl, _, _, rfl, E_par⟩ (rNd_3_0 l Z a0 hw [] par nl c0 c1 c2 ng nj h Oh F_ordered_par E_nl F_elements_nl V_ng E_c0) (fun _ _ _ q => q) (W := 0) (by decide) hml (Ls := #[iv p0, iv p1, iv p2, rv c0, rv c1, rv c2, rv c3, rv u0, rv u1, iv 3, iv 2, iv 0, rv ord, rv uno, rv par, rv c0]) rfl (rest := []) rfl rfl hby at_229
        refine oWk.st st ?_
        refine oWk.st (fun _ kt => zB X hx hby at_232 rfl rfl rfl kt) ?_
        refine oWk.st (fun _ kt => Jvm.RoadKit.acmp (g := (mkF m 234 #[iv p0, iv p1, iv p2, rv c0, rv c1, rv c2, rv c3, rv u0, rv u1, iv 3, iv 2, iv 0, rv ord, rv uno, rv par, rv c0] [(.ref c0), (.ref c0)])) X hx rfl rfl rfl (pc0 := 234) (pc' := 237) (same := true) rfl (hb hby at_234) rfl (decide_eq_true rfl) (by decide) (by decide) kt) ?_
        show oWk _ _ _ _ T (mkF m 237 #[iv p0, iv p1, iv p2, rv c0, rv c1, rv c2, rv c3, rv u0, rv u1, iv 3, iv 2, iv 0, rv ord, rv uno, rv par, rv c0] [])
        refine oWk.st (fun _ kt => zK X hx hby at_237 rfl (zG X hx hby at_238 rfl (pc' := 242) rfl kt)) ?_
        show oWk _ _ _ _ T (mkF m 242 #[iv p0, iv p1, iv p2, rv c0, rv c1, rv c2, rv c3, rv u0, rv u1, iv 3, iv 2, iv 0, rv ord, rv uno, rv par, rv c0] [(.int 1)])
        exact oRetH X hx hlk hZ (oELw hw) e0 B hret (oNar01 (Or.inr rfl)) (Or.inl ⟨rfl, Or.inr (Or.inl rfl), _, rfl⟩) (hb hby at_242) (by rw [e0]; exact ⟨rfl, K.fr⟩) (by decide) (by decide)
      · show oWk _ _ _ _ T (mkF m 184 #[iv p0, iv p1, iv p2, rv c0, rv c1, rv c2, rv c3, rv u0, rv u1, iv 3, iv 2, iv 1, rv ord, rv uno, rv par, uu] [])
        refine oWk.st (fun _ kt => zJ X hx hby at_184 rfl rfl (zF X hx hby at_186 rfl rfl ((if0 _ _).trans (feq (by decide)).2) (pc' := 195) rfl (zJ X hx hby at_195 rfl rfl (zK X hx hby at_197 rfl (zN X hx hby at_198 rfl rfl (teq (by decide)).2 (zB X hx hby at_201 rfl rfl rfl (zT X hx hby at_203 rfl rfl rfl (l' := #[iv p0, iv p1, iv p2, rv c0, rv c1, rv c2, rv c3, rv u0, rv u1, iv 3, iv 2, iv 1, rv ord, rv uno, rv par, rv c1]) rfl (zG X hx hby at_205 rfl (pc' := 225) rfl kt)))))))) ?_
        show oWk _ _ _ _ T (mkF m 225 #[iv p0, iv p1, iv p2, rv c0, rv c1, rv c2, rv c3, rv u0, rv u1, iv 3, iv 2, iv 1, rv ord, rv uno, rv par, rv c1] [])
        refine oWk.st (fun _ kt => zB X hx hby at_225 rfl rfl rfl (zJ X hx hby at_227 rfl rfl kt)) ?_
        have E_c1 := (E_c1.keep K125.1)
        have Oh := K.old O0 all0
        obtain ⟨T, L130, X, e0, K, st⟩ := (cs22 hw).pure X hx hZ hown e0 K (A := [(.ref par), (.int (1 : Int32))]) ⟨rfl, _, _, rfl, E_par⟩ (rNd_3_1 l Z a0 hw [] par nl c0 c1 c2 ng nj h Oh F_ordered_par E_nl F_elements_nl V_ng E_c1) (fun _ _ _ q => q) (W := 0) (by decide) hml (Ls := #[iv p0, iv p1, iv p2, rv c0, rv c1, rv c2, rv c3, rv u0, rv u1, iv 3, iv 2, iv 1, rv ord, rv uno, rv par, rv c1]) rfl (rest := []) rfl rfl hby at_229
        refine oWk.st st ?_
        refine oWk.st (fun _ kt => zB X hx hby at_232 rfl rfl rfl kt) ?_
        refine oWk.st (fun _ kt => Jvm.RoadKit.acmp (g := (mkF m 234 #[iv p0, iv p1, iv p2, rv c0, rv c1, rv c2, rv c3, rv u0, rv u1, iv 3, iv 2, iv 1, rv ord, rv uno, rv par, rv c1] [(.ref c1), (.ref c1)])) X hx rfl rfl rfl (pc0 := 234) (pc' := 237) (same := true) rfl (hb hby at_234) rfl (decide_eq_true rfl) (by decide) (by decide) kt) ?_
        show oWk _ _ _ _ T (mkF m 237 #[iv p0, iv p1, iv p2, rv c0, rv c1, rv c2, rv c3, rv u0, rv u1, iv 3, iv 2, iv 1, rv ord, rv uno, rv par, rv c1] [])
        refine oWk.st (fun _ kt => zK X hx hby at_237 rfl (zG X hx hby at_238 rfl (pc' := 242) rfl kt)) ?_
        show oWk _ _ _ _ T (mkF m 242 #[iv p0, iv p1, iv p2, rv c0, rv c1, rv c2, rv c3, rv u0, rv u1, iv 3, iv 2, iv 1, rv ord, rv uno, rv par, rv c1] [(.int 1)])
        exact oRetH X hx hlk hZ (oELw hw) e0 B hret (oNar01 (Or.inr rfl)) (Or.inl ⟨rfl, Or.inr (Or.inl rfl), _, rfl⟩) (hb hby at_242) (by rw [e0]; exact ⟨rfl, K.fr⟩) (by decide) (by decide)
      · show oWk _ _ _ _ T (mkF m 184 #[iv p0, iv p1, iv p2, rv c0, rv c1, rv c2, rv c3, rv u0, rv u1, iv 3, iv 2, iv 2, rv ord, rv uno, rv par, uu] [])
        refine oWk.st (fun _ kt => zJ X hx hby at_184 rfl rfl (zF X hx hby at_186 rfl rfl ((if0 _ _).trans (feq (by decide)).2) (pc' := 195) rfl (zJ X hx hby at_195 rfl rfl (zK X hx hby at_197 rfl (zY X hx hby at_198 rfl rfl (feq (by decide)).2 (pc' := 208) rfl (zJ X hx hby at_208 rfl rfl (zK X hx hby at_210 rfl (zN X hx hby at_211 rfl rfl (teq (by decide)).2 kt)))))))) ?_
        show oWk _ _ _ _ T (mkF m 214 #[iv p0, iv p1, iv p2, rv c0, rv c1, rv c2, rv c3, rv u0, rv u1, iv 3, iv 2, iv 2, rv ord, rv uno, rv par, uu] [])
        refine oWk.st (fun _ kt => zB X hx hby at_214 rfl rfl rfl (zT X hx hby at_216 rfl rfl rfl (l' := #[iv p0, iv p1, iv p2, rv c0, rv c1, rv c2, rv c3, rv u0, rv u1, iv 3, iv 2, iv 2, rv ord, rv uno, rv par, rv c2]) rfl (zG X hx hby at_218 rfl (pc' := 225) rfl (zB X hx hby at_225 rfl rfl rfl (zJ X hx hby at_227 rfl rfl kt))))) ?_
        have E_c2 := (E_c2.keep K125.1)
        have Oh := K.old O0 all0
        obtain ⟨T, L132, X, e0, K, st⟩ := (cs22 hw).pure X hx hZ hown e0 K (A := [(.ref par), (.int (2 : Int32))]) ⟨rfl, _, _, rfl, E_par⟩ (rNd_3_2 l Z a0 hw [] par nl c0 c1 c2 ng nj h Oh F_ordered_par E_nl F_elements_nl V_ng E_c2) (fun _ _ _ q => q) (W := 0) (by decide) hml (Ls := #[iv p0, iv p1, iv p2, rv c0, rv c1, rv c2, rv c3, rv u0, rv u1, iv 3, iv 2, iv 2, rv ord, rv uno, rv par, rv c2]) rfl (rest := []) rfl rfl hby at_229
        refine oWk.st st ?_
        refine oWk.st (fun _ kt => zB X hx hby at_232 rfl rfl rfl kt) ?_
        refine oWk.st (fun _ kt => Jvm.RoadKit.acmp (g := (mkF m 234 #[iv p0, iv p1, iv p2, rv c0, rv c1, rv c2, rv c3, rv u0, rv u1, iv 3, iv 2, iv 2, rv ord, rv uno, rv par, rv c2] [(.ref c2), (.ref c2)])) X hx rfl rfl rfl (pc0 := 234) (pc' := 237) (same := true) rfl (hb hby at_234) rfl (decide_eq_true rfl) (by decide) (by decide) kt) ?_
        show oWk _ _ _ _ T (mkF m 237 #[iv p0, iv p1, iv p2, rv c0, rv c1, rv c2, rv c3, rv u0, rv u1, iv 3, iv 2, iv 2, rv ord, rv uno, rv par, rv c2] [])
        refine oWk.st (fun _ kt => zK X hx hby at_237 rfl (zG X hx hby at_238 rfl (pc' := 242) rfl kt)) ?_
        show oWk _ _ _ _ T (mkF m 242 #[iv p0, iv p1, iv p2, rv c0, rv c1, rv c2, rv c3, rv u0, rv u1, iv 3, iv 2, iv 2, rv ord, rv uno, rv par, rv c2] [(.int 1)])
        exact oRetH X hx hlk hZ (oELw hw) e0 B hret (oNar01 (Or.inr rfl)) (Or.inl ⟨rfl, Or.inr (Or.inl rfl), _, rfl⟩) (hb hby at_242) (by rw [e0]; exact ⟨rfl, K.fr⟩) (by decide) (by decide)
  · show oWk _ _ _ _ T (mkF m 62 #[iv p0, iv p1, iv p2, rv c0, rv c1, rv c2, rv c3, rv u0, rv u1, iv 4, iv mm, uu, uu, uu, uu, uu] [])
    refine oWk.st (fun _ kt => zI X hx hby at_62 rfl rfl kt) ?_
    refine oWk.st (fun _ kt => X.ldcI hx hown (mvT hZ (oW hw 100 rfl)) rfl (hb hby at_63) (XS.iand X.here hx rfl (hb hby at_65) rfl (zJ X hx hby at_66 rfl rfl (iremM X hx rfl (hb hby at_68) rfl (by decide) kt)))) ?_
    show oWk _ _ _ _ T (mkF m 69 #[iv p0, iv p1, iv p2, rv c0, rv c1, rv c2, rv c3, rv u0, rv u1, iv 4, iv mm, uu, uu, uu, uu, uu] [(.int ((p1 &&& (2147483647 : Int32)) % (4 : Int32)))])
    generalize hix : ((p1 &&& (2147483647 : Int32)) % (4 : Int32)) = ix
    show oWk _ _ _ _ T (mkF m 69 #[iv p0, iv p1, iv p2, rv c0, rv c1, rv c2, rv c3, rv u0, rv u1, iv 4, iv mm, uu, uu, uu, uu, uu] [(.int ix)])
    refine oWk.st (fun _ kt => zS X hx hby at_69 rfl rfl (l' := #[iv p0, iv p1, iv p2, rv c0, rv c1, rv c2, rv c3, rv u0, rv u1, iv 4, iv mm, iv ix, uu, uu, uu, uu]) rfl kt) ?_
    obtain ⟨ord, g133⟩ : ∃ z, z = h.size := ⟨_, rfl⟩
    have V_xd := (V_xd.keep K11.1 nin0)
    have ne_xd_ord : xd ≠ ord := Nat.ne_of_lt (Nat.lt_of_lt_of_le V_xd.lt (Nat.le_of_eq g133.symm))
    have E_xq := (E_xq.keep K11.1)
    have ne_xq_ord : xq ≠ ord := Nat.ne_of_lt (Nat.lt_of_lt_of_le E_xq.lt (Nat.le_of_eq g133.symm))
    have E_c0 := (E_c0.keep K11.1)
    have ne_c0_ord : c0 ≠ ord := Nat.ne_of_lt (Nat.lt_of_lt_of_le E_c0.lt (Nat.le_of_eq g133.symm))
    have E_c1 := (E_c1.keep K11.1)
    have ne_c1_ord : c1 ≠ ord := Nat.ne_of_lt (Nat.lt_of_lt_of_le E_c1.lt (Nat.le_of_eq g133.symm))
    have E_c2 := (E_c2.keep K11.1)
    have ne_c2_ord : c2 ≠ ord := Nat.ne_of_lt (Nat.lt_of_lt_of_le E_c2.lt (Nat.le_of_eq g133.symm))
    have E_c3 := (E_c3.keep K11.1)
    have ne_c3_ord : c3 ≠ ord := Nat.ne_of_lt (Nat.lt_of_lt_of_le E_c3.lt (Nat.le_of_eq g133.symm))
    have E_u0 := (E_u0.keep K11.1)
    have ne_u0_ord : u0 ≠ ord := Nat.ne_of_lt (Nat.lt_of_lt_of_le E_u0.lt (Nat.le_of_eq g133.symm))
    have ne_u1_ord : u1 ≠ ord := Nat.ne_of_lt (Nat.lt_of_lt_of_le E_u1.lt (Nat.le_of_eq g133.symm))
    have ge_ord : h0.size ≤ ord := Nat.le_trans K.le (Nat.le_of_eq g133.symm)
    obtain ⟨T, h, X, e0, E133, A133, D133, -, st⟩ := newO X hx hZ hown (oW hw 18 rfl) (oW hw 19 rfl) (oW hw 20 rfl) e0 (g := (mkF m 71 #[iv p0, iv p1, iv p2, rv c0, rv c1, rv c2, rv c3, rv u0, rv u1, iv 4, iv mm, iv ix, uu, uu, uu, uu] [])) rfl (hb hby at_71) (by decide) (by decide)
    rw [← g133] at A133 D133 st
    refine oWk.st st ?_
    have K := K.ext E133
    have B := B.ext E133
    have E_ord := A133
    have F_modCount_ord : Fld Z h ord Y11 "modCount" "I" (.int (0 : Int32)) := D133 (Or.inl (oW hw 40 rfl)) (ty := .int) (by decide)
    have F_elementData_ord : Fld Z h ord Y1 "elementData" Y2 .null := D133 (Or.inl (oW hw 43 rfl)) (ty := (.array (.object Y0))) (by decide)
    have F_size_ord : Fld Z h ord Y1 "size" "I" (.int (0 : Int32)) := D133 (Or.inl (oW hw 83 rfl)) (ty := .int) (by decide)
    refine oWk.st (fun _ kt => zD X hx hby at_74 rfl rfl rfl kt) ?_
    have Oh := K.old O0 all0
    obtain ⟨_, T, h, Lc135, X, e0, hQ, st⟩ := (cs7 hw).run X hx hZ hown e0 (A := [(.ref ord)]) ⟨rfl, _, _, rfl⟩ (rAL l Z a0 hw [] ord xd (.int (0 : Int32)) .null h Oh S_DEFAULTCAPACITY_EMPTY_ELEMENTDATA (Nat.le_trans O0.1 ge_ord) E_ord F_elementData_ord F_size_ord F_modCount_ord) (W := 1) (by decide) hml (Ls := #[iv p0, iv p1, iv p2, rv c0, rv c1, rv c2, rv c3, rv u0, rv u1, iv 4, iv mm, iv ix, uu, uu, uu, uu]) rfl (rest := [(.ref ord)]) rfl rfl hby at_75
    obtain ⟨rfl, K134, E_ord, F_elementData_ord, F_size_ord, F_modCount_ord⟩ := hQ
    have K := K.call K134 (allS (Or.inr ge_ord) all0)
    have B := B.keep K134.1 (fun _ _ => oSf)
    refine oWk.st st ?_
    refine oWk.st (fun _ kt => zT X hx hby at_78 rfl rfl rfl (l' := #[iv p0, iv p1, iv p2, rv c0, rv c1, rv c2, rv c3, rv u0, rv u1, iv 4, iv mm, iv ix, rv ord, uu, uu, uu]) rfl (zB X hx hby at_80 rfl rfl rfl (zA X hx hby at_82 rfl rfl rfl kt))) ?_
    have V_xd := ((V_xd.ext E133).keep K134.1 (ninS ne_xd_ord nin0))
    have E_c0 := ((E_c0.ext E133).keep K134.1)
    have lt_xd := V_xd.lt
    have E_xq := ((E_xq.ext E133).keep K134.1)
    have lt_xq := E_xq.lt
    have lt_c0 := E_c0.lt
    have E_c1 := ((E_c1.ext E133).keep K134.1)
    have lt_c1 := E_c1.lt
    have E_c2 := ((E_c2.ext E133).keep K134.1)
    have lt_c2 := E_c2.lt
    have E_c3 := ((E_c3.ext E133).keep K134.1)
    have lt_c3 := E_c3.lt
    have E_u0 := ((E_u0.ext E133).keep K134.1)
    have lt_u0 := E_u0.lt
    have E_u1 := ((E_u1.ext E133).keep K134.1)
    have lt_u1 := E_u1.lt
    have lt_ord := E_ord.lt
    have Oh := K.old O0 all0
    obtain ⟨_, T, h, Lc137, X, e0, hQ, st⟩ := (cs12 hw).run X hx hZ hown e0 (A := [(.ref ord), (.ref c0)]) ⟨rfl, _, _, rfl, E_ord⟩ (rAd_0 l Z a0 hw [] ord c0 xd xk (0 : Int32) h Oh S_DEFAULTCAPACITY_EMPTY_ELEMENTDATA (Nat.le_trans O0.1 ge_ord) E_ord F_elementData_ord F_size_ord F_modCount_ord V_xd (Ins.of_exa E_c0 (oW hw 129 rfl)) (Ne.symm ne_c0_ord) (Ne.symm ne_xd_ord)) (W := 0) (by decide) hml (Ls := #[iv p0, iv p1, iv p2, rv c0, rv c1, rv c2, rv c3, rv u0, rv u1, iv 4, iv mm, iv ix, rv ord, uu, uu, uu]) rfl (rest := []) rfl rfl hby at_83
    obtain ⟨nd83, nk83, rfl, K136, E_ord, F_elementData_ord, F_size_ord, F_modCount_ord, gn_nd83, E_nd83, V_nd83, ov_nk83⟩ := hQ
    have ge_nd83 := Nat.le_trans K.le gn_nd83
    have ne_xd_nd83 : xd ≠ nd83 := Nat.ne_of_lt (Nat.lt_of_lt_of_le lt_xd gn_nd83)
    have ne_xq_nd83 : xq ≠ nd83 := Nat.ne_of_lt (Nat.lt_of_lt_of_le lt_xq gn_nd83)
    have ne_c0_nd83 : c0 ≠ nd83 := Nat.ne_of_lt (Nat.lt_of_lt_of_le lt_c0 gn_nd83)
    have ne_c1_nd83 : c1 ≠ nd83 := Nat.ne_of_lt (Nat.lt_of_lt_of_le lt_c1 gn_nd83)
    have ne_c2_nd83 : c2 ≠ nd83 := Nat.ne_of_lt (Nat.lt_of_lt_of_le lt_c2 gn_nd83)
    have ne_c3_nd83 : c3 ≠ nd83 := Nat.ne_of_lt (Nat.lt_of_lt_of_le lt_c3 gn_nd83)
    have ne_u0_nd83 : u0 ≠ nd83 := Nat.ne_of_lt (Nat.lt_of_lt_of_le lt_u0 gn_nd83)
    have ne_u1_nd83 : u1 ≠ nd83 := Nat.ne_of_lt (Nat.lt_of_lt_of_le lt_u1 gn_nd83)
    have ne_ord_nd83 : ord ≠ nd83 := Nat.ne_of_lt (Nat.lt_of_lt_of_le lt_ord gn_nd83)
    have K := K.call K136 (allS (Or.inr ge_ord) all0)
    have B := B.keep K136.1 (fun _ _ => oSf)
    refine oWk.st st ?_
    refine oWk.st (fun _ kt => XS.pop X.here hx rfl (hb hby at_86) rfl rfl (zJ X hx hby at_87 rfl rfl (zK X hx hby at_89 rfl (zN X hx hby at_90 rfl rfl (flt (by decide)).1 (zB X hx hby at_93 rfl rfl rfl (zB X hx hby at_95 rfl rfl rfl kt)))))) ?_
    have E_c1 := (E_c1.keep K136.1)
    have Oh := K.old O0 all0
    obtain ⟨_, T, h, Lc139, X, e0, hQ, st⟩ := (cs12 hw).run X hx hZ hown e0 (A := [(.ref ord), (.ref c1)]) ⟨rfl, _, _, rfl, E_ord⟩ (rAd_1 l Z a0 hw [] ord c1 nd83 nk83 ((0 : Int32) + (1 : Int32)) c0 h Oh (Nat.le_trans O0.1 ge_ord) (Nat.le_trans O0.1 ge_nd83) ne_ord_nd83 E_ord F_elementData_ord F_size_ord F_modCount_ord E_nd83 V_nd83 ov_nk83 (Ins.of_exa E_c1 (oW hw 129 rfl))) (W := 0) (by decide) hml (Ls := #[iv p0, iv p1, iv p2, rv c0, rv c1, rv c2, rv c3, rv u0, rv u1, iv 4, iv mm, iv ix, rv ord, uu, uu, uu]) rfl (rest := []) rfl rfl hby at_97
    obtain ⟨rfl, K138, E_ord, F_elementData_ord, F_size_ord, F_modCount_ord, E_nd83, V_nd83⟩ := hQ
    have K := K.call K138 (allS (Or.inr ge_ord) (allS (Or.inr ge_nd83) all0))
    have B := B.keep K138.1 (fun _ _ => oSf)
    refine oWk.st st ?_
    refine oWk.st (fun _ kt => XS.pop X.here hx rfl (hb hby at_100) rfl rfl (zJ X hx hby at_101 rfl rfl (zK X hx hby at_103 rfl (zN X hx hby at_104 rfl rfl (flt (by decide)).1 (zB X hx hby at_107 rfl rfl rfl (zB X hx hby at_109 rfl rfl rfl kt)))))) ?_
    have E_c2 := ((E_c2.keep K136.1).keep K138.1)
    have Oh := K.old O0 all0
    obtain ⟨_, T, h, Lc141, X, e0, hQ, st⟩ := (cs12 hw).run X hx hZ hown e0 (A := [(.ref ord), (.ref c2)]) ⟨rfl, _, _, rfl, E_ord⟩ (rAd_2 l Z a0 hw [] ord c2 nd83 nk83 (((0 : Int32) + (1 : Int32)) + (1 : Int32)) c0 c1 h Oh (Nat.le_trans O0.1 ge_ord) (Nat.le_trans O0.1 ge_nd83) ne_ord_nd83 E_ord F_elementData_ord F_size_ord F_modCount_ord E_nd83 V_nd83 ov_nk83 (Ins.of_exa E_c2 (oW hw 129 rfl))) (W := 0) (by decide) hml (Ls := #[iv p0, iv p1, iv p2, rv c0, rv c1, rv c2, rv c3, rv u0, rv u1, iv 4, iv mm, iv ix, rv ord, uu, uu, uu]) rfl (rest := []) rfl rfl hby at_111
    obtain ⟨rfl, K140, E_ord, F_elementData_ord, F_size_ord, F_modCount_ord, E_nd83, V_nd83⟩ := hQ
    have K := K.call K140 (allS (Or.inr ge_ord) (allS (Or.inr ge_nd83) all0))
    have B := B.keep K140.1 (fun _ _ => oSf)
    refine oWk.st st ?_
    refine oWk.st (fun _ kt => XS.pop X.here hx rfl (hb hby at_114) rfl rfl (zJ X hx hby at_115 rfl rfl (zK X hx hby at_117 rfl (zN X hx hby at_118 rfl rfl (flt (by decide)).1 (zB X hx hby at_121 rfl rfl rfl (zB X hx hby at_123 rfl rfl rfl kt)))))) ?_
    have E_c3 := (((E_c3.keep K136.1).keep K138.1).keep K140.1)
    have Oh := K.old O0 all0
    obtain ⟨_, T, h, Lc143, X, e0, hQ, st⟩ := (cs12 hw).run X hx hZ hown e0 (A := [(.ref ord), (.ref c3)]) ⟨rfl, _, _, rfl, E_ord⟩ (rAd_3 l Z a0 hw [] ord c3 nd83 nk83 ((((0 : Int32) + (1 : Int32)) + (1 : Int32)) + (1 : Int32)) c0 c1 c2 h Oh (Nat.le_trans O0.1 ge_ord) (Nat.le_trans O0.1 ge_nd83) ne_ord_nd83 E_ord F_elementData_ord F_size_ord F_modCount_ord E_nd83 V_nd83 ov_nk83 (Ins.of_exa E_c3 (oW hw 129 rfl))) (W := 0) (by decide) hml (Ls := #[iv p0, iv p1, iv p2, rv c0, rv c1, rv c2, rv c3, rv u0, rv u1, iv 4, iv mm, iv ix, rv ord, uu, uu, uu]) rfl (rest := []) rfl rfl hby at_125
    obtain ⟨rfl, K142, E_ord, F_elementData_ord, F_size_ord, F_modCount_ord, E_nd83, V_nd83⟩ := hQ
    have K := K.call K142 (allS (Or.inr ge_ord) (allS (Or.inr ge_nd83) all0))
    have B := B.keep K142.1 (fun _ _ => oSf)
    refine oWk.st st ?_
    refine oWk.st (fun _ kt => XS.pop X.here hx rfl (hb hby at_128) rfl rfl kt) ?_
    obtain ⟨uno, g144⟩ : ∃ z, z = h.size := ⟨_, rfl⟩
    have V_xd := ((((V_xd.keep K136.1 (ninS ne_xd_ord nin0)).keep K138.1 (ninS ne_xd_ord (ninS ne_xd_nd83 nin0))).keep K140.1 (ninS ne_xd_ord (ninS ne_xd_nd83 nin0))).keep K142.1 (ninS ne_xd_ord (ninS ne_xd_nd83 nin0)))
    have ne_xd_uno : xd ≠ uno := Nat.ne_of_lt (Nat.lt_of_lt_of_le V_xd.lt (Nat.le_of_eq g144.symm))
    have E_xq := ((((E_xq.keep K136.1).keep K138.1).keep K140.1).keep K142.1)
    have ne_xq_uno : xq ≠ uno := Nat.ne_of_lt (Nat.lt_of_lt_of_le E_xq.lt (Nat.le_of_eq g144.symm))
    have E_c0 := ((((E_c0.keep K136.1).keep K138.1).keep K140.1).keep K142.1)
    have ne_c0_uno : c0 ≠ uno := Nat.ne_of_lt (Nat.lt_of_lt_of_le E_c0.lt (Nat.le_of_eq g144.symm))
    have E_c1 := (((E_c1.keep K138.1).keep K140.1).keep K142.1)
    have ne_c1_uno : c1 ≠ uno := Nat.ne_of_lt (Nat.lt_of_lt_of_le E_c1.lt (Nat.le_of_eq g144.symm))
    have E_c2 := ((E_c2.keep K140.1).keep K142.1)
    have ne_c2_uno : c2 ≠ uno := Nat.ne_of_lt (Nat.lt_of_lt_of_le E_c2.lt (Nat.le_of_eq g144.symm))
    have E_c3 := (E_c3.keep K142.1)
    have ne_c3_uno : c3 ≠ uno := Nat.ne_of_lt (Nat.lt_of_lt_of_le E_c3.lt (Nat.le_of_eq g144.symm))
    have E_u0 := ((((E_u0.keep K136.1).keep K138.1).keep K140.1).keep K142.1)
    have ne_u0_uno : u0 ≠ uno := Nat.ne_of_lt (Nat.lt_of_lt_of_le E_u0.lt (Nat.le_of_eq g144.symm))
    have E_u1 := ((((E_u1.keep K136.1).keep K138.1).keep K140.1).keep K142.1)
    have ne_u1_uno : u1 ≠ uno := Nat.ne_of_lt (Nat.lt_of_lt_of_le E_u1.lt (Nat.le_of_eq g144.symm))
    have ne_ord_uno : ord ≠ uno := Nat.ne_of_lt (Nat.lt_of_lt_of_le E_ord.lt (Nat.le_of_eq g144.symm))
    have ne_nd83_uno : nd83 ≠ uno := Nat.ne_of_lt (Nat.lt_of_lt_of_le E_nd83.lt (Nat.le_of_eq g144.symm))
    have ge_uno : h0.size ≤ uno := Nat.le_trans K.le (Nat.le_of_eq g144.symm)
    obtain ⟨T, h, X, e0, E144, A144, D144, -, st⟩ := newO X hx hZ hown (oW hw 18 rfl) (oW hw 19 rfl) (oW hw 20 rfl) e0 (g := (mkF m 129 #[iv p0, iv p1, iv p2, rv c0, rv c1, rv c2, rv c3, rv u0, rv u1, iv 4, iv mm, iv ix, rv ord, uu, uu, uu] [])) rfl (hb hby at_129) (by decide) (by decide)
    rw [← g144] at A144 D144 st
    refine oWk.st st ?_
    have K := K.ext E144
    have B := B.ext E144
    have E_uno := A144
    have F_modCount_uno : Fld Z h uno Y11 "modCount" "I" (.int (0 : Int32)) := D144 (Or.inl (oW hw 40 rfl)) (ty := .int) (by decide)
    have F_elementData_uno : Fld Z h uno Y1 "elementData" Y2 .null := D144 (Or.inl (oW hw 43 rfl)) (ty := (.array (.object Y0))) (by decide)
    have F_size_uno : Fld Z h uno Y1 "size" "I" (.int (0 : Int32)) := D144 (Or.inl (oW hw 83 rfl)) (ty := .int) (by decide)
    refine oWk.st (fun _ kt => zD X hx hby at_132 rfl rfl rfl kt) ?_
    have Oh := K.old O0 all0
    obtain ⟨_, T, h, Lc146, X, e0, hQ, st⟩ := (cs7 hw).run X hx hZ hown e0 (A := [(.ref uno)]) ⟨rfl, _, _, rfl⟩ (rAL l Z a0 hw [] uno xd (.int (0 : Int32)) .null h Oh S_DEFAULTCAPACITY_EMPTY_ELEMENTDATA (Nat.le_trans O0.1 ge_uno) E_uno F_elementData_uno F_size_uno F_modCount_uno) (W := 1) (by decide) hml (Ls := #[iv p0, iv p1, iv p2, rv c0, rv c1, rv c2, rv c3, rv u0, rv u1, iv 4, iv mm, iv ix, rv ord, uu, uu, uu]) rfl (rest := [(.ref uno)]) rfl rfl hby at_133
    obtain ⟨rfl, K145, E_uno, F_elementData_uno, F_size_uno, F_modCount_uno⟩ := hQ
    have K := K.call K145 (allS (Or.inr ge_uno) all0)
    have B := B.keep K145.1 (fun _ _ => oSf)
    refine oWk.st st ?_
    refine oWk.st (fun _ kt => zT X hx hby at_136 rfl rfl rfl (l' := #[iv p0, iv p1, iv p2, rv c0, rv c1, rv c2, rv c3, rv u0, rv u1, iv 4, iv mm, iv ix, rv ord, rv uno, uu, uu]) rfl kt) ?_
    show oWk _ _ _ _ T (mkF m 138 #[iv p0, iv p1, iv p2, rv c0, rv c1, rv c2, rv c3, rv u0, rv u1, iv 4, iv mm, iv ix, rv ord, rv uno, uu, uu] [])
    have cm := oRem3 hmm
    rcases cm with rfl | rfl | rfl
    · show oWk _ _ _ _ T (mkF m 138 #[iv p0, iv p1, iv p2, rv c0, rv c1, rv c2, rv c3, rv u0, rv u1, iv 4, iv 0, iv ix, rv ord, rv uno, uu, uu] [])
      refine oWk.st (fun _ kt => zJ X hx hby at_138 rfl rfl (zK X hx hby at_140 rfl (zY X hx hby at_141 rfl rfl (tlt (by decide)).1 (pc' := 152) rfl (zJ X hx hby at_152 rfl rfl (zK X hx hby at_154 rfl (zY X hx hby at_155 rfl rfl (tlt (by decide)).1 (pc' := 166) rfl kt)))))) ?_
      obtain ⟨par, g147⟩ : ∃ z, z = h.size := ⟨_, rfl⟩
      have V_xd := ((V_xd.ext E144).keep K145.1 (ninS ne_xd_uno nin0))
      have ne_xd_par : xd ≠ par := Nat.ne_of_lt (Nat.lt_of_lt_of_le V_xd.lt (Nat.le_of_eq g147.symm))
      have E_xq := ((E_xq.ext E144).keep K145.1)
      have ne_xq_par : xq ≠ par := Nat.ne_of_lt (Nat.lt_of_lt_of_le E_xq.lt (Nat.le_of_eq g147.symm))
      have E_c0 := ((E_c0.ext E144).keep K145.1)
      have ne_c0_par : c0 ≠ par := Nat.ne_of_lt (Nat.lt_of_lt_of_le E_c0.lt (Nat.le_of_eq g147.symm))
      have E_c1 := ((E_c1.ext E144).keep K145.1)
      have ne_c1_par : c1 ≠ par := Nat.ne_of_lt (Nat.lt_of_lt_of_le E_c1.lt (Nat.le_of_eq g147.symm))
      have E_c2 := ((E_c2.ext E144).keep K145.1)
      have ne_c2_par : c2 ≠ par := Nat.ne_of_lt (Nat.lt_of_lt_of_le E_c2.lt (Nat.le_of_eq g147.symm))
      have E_c3 := ((E_c3.ext E144).keep K145.1)
      have ne_c3_par : c3 ≠ par := Nat.ne_of_lt (Nat.lt_of_lt_of_le E_c3.lt (Nat.le_of_eq g147.symm))
      have E_u0 := ((E_u0.ext E144).keep K145.1)
      have ne_u0_par : u0 ≠ par := Nat.ne_of_lt (Nat.lt_of_lt_of_le E_u0.lt (Nat.le_of_eq g147.symm))
      have E_u1 := ((E_u1.ext E144).keep K145.1)
      have ne_u1_par : u1 ≠ par := Nat.ne_of_lt (Nat.lt_of_lt_of_le E_u1.lt (Nat.le_of_eq g147.symm))
      have E_ord := ((E_ord.ext E144).keep K145.1)
      have ne_ord_par : ord ≠ par := Nat.ne_of_lt (Nat.lt_of_lt_of_le E_ord.lt (Nat.le_of_eq g147.symm))
      have E_nd83 := ((E_nd83.ext E144).keep K145.1)
      have ne_nd83_par : nd83 ≠ par := Nat.ne_of_lt (Nat.lt_of_lt_of_le E_nd83.lt (Nat.le_of_eq g147.symm))
      have ne_uno_par : uno ≠ par := Nat.ne_of_lt (Nat.lt_of_lt_of_le E_uno.lt (Nat.le_of_eq g147.symm))
      have ge_par : h0.size ≤ par := Nat.le_trans K.le (Nat.le_of_eq g147.symm)
      obtain ⟨T, h, X, e0, E147, A147, D147, -, st⟩ := newO X hx hZ hown (oW hw 7 rfl) (oW hw 8 rfl) (oW hw 9 rfl) e0 (g := (mkF m 166 #[iv p0, iv p1, iv p2, rv c0, rv c1, rv c2, rv c3, rv u0, rv u1, iv 4, iv 0, iv ix, rv ord, rv uno, uu, uu] [])) rfl (hb hby at_166) (by decide) (by decide)
      rw [← g147] at A147 D147 st
      refine oWk.st st ?_
      have K := K.ext E147
      have B := B.ext E147
      have E_par := A147
      have F_kind_par : Fld Z h par Y4 "kind" Y13 .null := D147 (Or.inr (oW hw 89 rfl)) (ty := (.object Y7)) (by decide)
      have F_name_par : Fld Z h par Y4 "name" Y14 .null := D147 (Or.inr (oW hw 91 rfl)) (ty := (.object Y9)) (by decide)
      have F_ordered_par : Fld Z h par Y4 "ordered" Y5 .null := D147 (Or.inr (oW hw 93 rfl)) (ty := (.object Y3)) (by decide)
      have F_unordered_par : Fld Z h par Y4 "unordered" Y5 .null := D147 (Or.inr (oW hw 95 rfl)) (ty := (.object Y3)) (by decide)
      refine oWk.st (fun _ kt => zD X hx hby at_169 rfl rfl rfl kt) ?_
      have Oh := K.old O0 all0
      obtain ⟨T, X, e0, st⟩ := getS2 X hx hZ hown (host := "") (Or.inl (oW hw 98 rfl)) Via.refl e0 (S_JOIN.ext Oh) (g := (mkF m 170 #[iv p0, iv p1, iv p2, rv c0, rv c1, rv c2, rv c3, rv u0, rv u1, iv 4, iv 0, iv ix, rv ord, rv uno, uu, uu] [(.ref par), (.ref par)])) rfl (hb hby at_170)
      refine oWk.st st ?_
      obtain ⟨lit, T, h, X, e2, E148, hZ, hown, B, C, st⟩ := oLdcO X hx hZ hown (oW hw 10 rfl) (oSA hw) e0 (oELw hw) B (g := (mkF m 173 #[iv p0, iv p1, iv p2, rv c0, rv c1, rv c2, rv c3, rv u0, rv u1, iv 4, iv 0, iv ix, rv ord, rv uno, uu, uu] [(.ref kJOIN), (.ref par), (.ref par)])) rfl (hb hby at_173) (n := 0) (by decide) (by decide) (by decide) (by decide)
      have e0 := e2
      refine oWk.st st ?_
      have K := K.ext E148
      refine oWk.st (fun _ kt => zB X hx hby at_175 rfl rfl rfl (zB X hx hby at_177 rfl rfl rfl kt)) ?_
      have E_par := (E_par.ext E148)
      have F_kind_par := (F_kind_par.ext E148)
      have F_name_par := (F_name_par.ext E148)
      have F_ordered_par := (F_ordered_par.ext E148)
      have F_unordered_par := (F_unordered_par.ext E148)
      have E_ord := ((E_ord.ext E147).ext E148)
      have F_elementData_ord := ((((F_elementData_ord.ext E144).keep K145.1 (ninS ne_ord_uno nin0)).ext E147).ext E148)
      have F_size_ord := ((((F_size_ord.ext E144).keep K145.1 (ninS ne_ord_uno nin0)).ext E147).ext E148)
      have E_nd83 := ((E_nd83.ext E147).ext E148)
      have V_nd83 := ((((V_nd83.ext E144).keep K145.1 (ninS ne_nd83_uno nin0)).ext E147).ext E148)
      have E_c0 := ((E_c0.ext E147).ext E148)
      have E_c1 := ((E_c1.ext E147).ext E148)
      have E_c2 := ((E_c2.ext E147).ext E148)
      have E_c3 := ((E_c3.ext E147).ext E148)
      have E_uno := ((E_uno.ext E147).ext E148)
      have F_size_uno := ((F_size_uno.ext E147).ext E148)
      have Oh := K.old O0 all0
      obtain ⟨_, _, ⟨T, L150, k150, n150⟩, -, X, hS, hgr, ⟨Lc150, hQ, l150, y150, z150, C⟩, st⟩ := X.specialBackS hx (y := yy7) rfl hown (mvT hZ (oW hw 44 rfl)) (mvT hZ (oW hw 45 rfl)) (mvT hZ (oW hw 46 rfl)) (by decide) (oBackH (W := 1) (rNI_4_0 l Z a0 hw [] par kJOIN lit .null .null .null .null ord nd83 nk83 c0 c1 c2 c3 uno xl xmr h Oh S_EMPTY_LIST mm_ (Nat.le_trans O0.1 ge_par) E_par F_kind_par F_name_par F_ordered_par F_unordered_par E_ord F_elementData_ord F_size_ord E_nd83 V_nd83 (Ins.of_exa E_c0 (oW hw 129 rfl)) (Ins.of_exa E_c1 (oW hw 129 rfl)) (Ins.of_exa E_c2 (oW hw 129 rfl)) (Ins.of_exa E_c3 (oW hw 129 rfl)) E_uno F_size_uno) hZ (oW hw 46 rfl) (oW hw 9 rfl) (by decide) (by decide) (oELw hw) B.2.1 (allS ⟨E_par.lt, oSf⟩ all0)) (g := (mkF m 179 #[iv p0, iv p1, iv p2, rv c0, rv c1, rv c2, rv c3, rv u0, rv u1, iv 4, iv 0, iv ix, rv ord, rv uno, uu, uu] [(.ref uno), (.ref ord), (.ref lit), (.ref kJOIN), (.ref par), (.ref par)])) rfl (by rw [hml]; rfl) (Steps.refl _) (a := par) (argsL := [(.ref kJOIN), (.ref lit), (.ref ord), (.ref uno)]) (rest := [(.ref par)]) (lenOf pd_5 rfl) rfl (Nat.le_of_eq rfl) (hb hby at_179) (fun _ _ => ⟨rfl, e0, (by decide : 60 + 7 ≤ _), (by decide : 348 + 50 ≤ _)⟩)
      dsimp only [Pt.U, Pt.locs, Pt.cells, Pt.slots] at X l150 y150 z150 st hQ C hS hgr
      subst l150 y150 z150
      have X : Stand p l e _ (s.setVm T.vm) m _ below meth c T _ _ _ := X
      obtain ⟨h, e2⟩ : ∃ z, T.heap = z := ⟨_, rfl⟩
      have B := B.call e0 hS hgr C e2
      obtain ⟨hZ, hown⟩ := oWide hZ hown hS
      rw [e2] at hQ C
      have e0 := e2
      obtain ⟨nl, ng, nj, rfl, K149, E_par, F_ordered_par, E_nl, F_elements_nl, V_ng⟩ := hQ
      have K := K.call K149 (allS (Or.inr ge_par) all0)
      refine oWk.tr st ?_
      refine oWk.st (fun _ kt => zT X hx hby at_182 rfl rfl rfl (l' := #[iv p0, iv p1, iv p2, rv c0, rv c1, rv c2, rv c3, rv u0, rv u1, iv 4, iv 0, iv ix, rv ord, rv uno, rv par, uu]) rfl kt) ?_
      show oWk _ _ _ _ T (mkF m 184 #[iv p0, iv p1, iv p2, rv c0, rv c1, rv c2, rv c3, rv u0, rv u1, iv 4, iv 0, iv ix, rv ord, rv uno, rv par, uu] [])
      have ci := oRem4 hix
      rcases ci with rfl | rfl | rfl | rfl
      · show oWk _ _ _ _ T (mkF m 184 #[iv p0, iv p1, iv p2, rv c0, rv c1, rv c2, rv c3, rv u0, rv u1, iv 4, iv 0, iv 0, rv ord, rv uno, rv par, uu] [])
        refine oWk.st (fun _ kt => zJ X hx hby at_184 rfl rfl (zH X hx hby at_186 rfl rfl ((if0 _ _).trans (teq (by decide)).2) (zA X hx hby at_189 rfl rfl rfl (zT X hx hby at_190 rfl rfl rfl (l' := #[iv p0, iv p1, iv p2, rv c0, rv c1, rv c2, rv c3, rv u0, rv u1, iv 4, iv 0, iv 0, rv ord, rv uno, rv par, rv c0]) rfl (zG X hx hby at_192 rfl (pc' := 225) rfl (zB X hx hby at_225 rfl rfl rfl (zJ X hx hby at_227 rfl rfl kt))))))) ?_
        have E_c0 := (E_c0.keep K149.1)
        have Oh := K.old O0 all0
        obtain ⟨T, L152, X, e0, K, st⟩ := (cs22 hw).pure X hx hZ hown e0 K (A := [(.ref par), (.int (0 : Int32))]) ⟨rfl, _, _, rfl, E_par⟩ (rNd_4_0 l Z a0 hw [] par nl c0 c1 c2 c3 ng nj h Oh F_ordered_par E_nl F_elements_nl V_ng E_c0) (fun _ _ _ q => q) (W := 0) (by decide) hml (Ls := #[iv p0, iv p1, iv p2, rv c0, rv c1, rv c2, rv c3, rv u0, rv u1, iv 4, iv 0, iv 0, rv ord, rv uno, rv par, rv c0]) rfl (rest := []) rfl rfl hby at_229
        refine oWk.st st ?_
        refine oWk.st (fun _ kt => zB X hx hby at_232 rfl rfl rfl kt) ?_
        refine oWk.st (fun _ kt => Jvm.RoadKit.acmp (g := (mkF m 234 #[iv p0, iv p1, iv p2, rv c0, rv c1, rv c2, rv c3, rv u0, rv u1, iv 4, iv 0, iv 0, rv ord, rv uno, rv par, rv c0] [(.ref c0), (.ref c0)])) X hx rfl rfl rfl (pc0 := 234) (pc' := 237) (same := true) rfl (hb hby at_234) rfl (decide_eq_true rfl) (by decide) (by decide) kt) ?_
        show oWk _ _ _ _ T (mkF m 237 #[iv p0, iv p1, iv p2, rv c0, rv c1, rv c2, rv c3, rv u0, rv u1, iv 4, iv 0, iv 0, rv ord, rv uno, rv par, rv c0] [])
        refine oWk.st (fun _ kt => zK X hx hby at_237 rfl (zG X hx hby at_238 rfl (pc' := 242) rfl kt)) ?_
        show oWk _ _ _ _ T (mkF m 242 #[iv p0, iv p1, iv p2, rv c0, rv c1, rv c2, rv c3, rv u0, rv u1, iv 4, iv 0, iv 0, rv ord, rv uno, rv par, rv c0] [(.int 1)])
        exact oRetH X hx hlk hZ (oELw hw) e0 B hret (oNar01 (Or.inr rfl)) (Or.inl ⟨rfl, Or.inr (Or.inl rfl), _, rfl⟩) (hb hby at_242) (by rw [e0]; exact ⟨rfl, K.fr⟩) (by decide) (by decide)
      · show oWk _ _ _ _ T (mkF m 184 #[iv p0, iv p1, iv p2, rv c0, rv c1, rv c2, rv c3, rv u0, rv u1, iv 4, iv 0, iv 1, rv ord, rv uno, rv par, uu] [])
        refine oWk.st (fun _ kt => zJ X hx hby at_184 rfl rfl (zF X hx hby at_186 rfl rfl ((if0 _ _).trans (feq (by decide)).2) (pc' := 195) rfl (zJ X hx hby at_195 rfl rfl (zK X hx hby at_197 rfl (zN X hx hby at_198 rfl rfl (teq (by decide)).2 (zB X hx hby at_201 rfl rfl rfl (zT X hx hby at_203 rfl rfl rfl (l' := #[iv p0, iv p1, iv p2, rv c0, rv c1, rv c2, rv c3, rv u0, rv u1, iv 4, iv 0, iv 1, rv ord, rv uno, rv par, rv c1]) rfl (zG X hx hby at_205 rfl (pc' := 225) rfl kt)))))))) ?_
        show oWk _ _ _ _ T (mkF m 225 #[iv p0, iv p1, iv p2, rv c0, rv c1, rv c2, rv c3, rv u0, rv u1, iv 4, iv 0, iv 1, rv ord, rv uno, rv par, rv c1] [])
        refine oWk.st (fun _ kt => zB X hx hby at_225 rfl rfl rfl (zJ X hx hby at_227 rfl rfl kt)) ?_
        have E_c1 := (E_c1.keep K149.1)
        have Oh := K.old O0 all0
        obtain ⟨T, L154, X, e0, K, st⟩ := (cs22 hw).pure X hx hZ hown e0 K (A := [(.ref par), (.int (1 : Int32))]) ⟨rfl, _, _, rfl, E_par⟩ (rNd_4_1 l Z a0 hw [] par nl c0 c1 c2 c3 ng nj h Oh F_ordered_par E_nl F_elements_nl V_ng E_c1) (fun _ _ _ q => q) (W := 0) (by decide) hml (Ls := #[iv p0, iv p1, iv p2, rv c0, rv c1, rv c2, rv c3, rv u0, rv u1, iv 4, iv 0, iv 1, rv ord, rv uno, rv par, rv c1]) rfl (rest := []) rfl rfl hby at_229
        refine oWk.st st ?_
        refine oWk.st (fun _ kt => zB X hx hby at_232 rfl rfl rfl kt) ?_
        refine oWk.st (fun _ kt => Jvm.RoadKit.acmp (g := (mkF m 234 #[iv p0, iv p1, iv p2, rv c0, rv c1, rv c2, rv c3, rv u0, rv u1, iv 4, iv 0, iv 1, rv ord, rv uno, rv par, rv c1] [(.ref c1), (.ref c1)])) X hx rfl rfl rfl (pc0 := 234) (pc' := 237) (same := true) rfl (hb hby at_234) rfl (decide_eq_true rfl) (by decide) (by decide) kt) ?_
        show oWk _ _ _ _ T (mkF m 237 #[iv p0, iv p1, iv p2, rv c0, rv c1, rv c2, rv c3, rv u0, rv u1, iv 4, iv 0, iv 1, rv ord, rv uno, rv par, rv c1] [])
        refine oWk.st (fun _ kt => zK X hx hby at_237 rfl (zG X hx hby at_238 rfl (pc' := 242) rfl kt)) ?_
        show oWk _ _ _ _ T (mkF m 242 #[iv p0, iv p1, iv p2, rv c0, rv c1, rv c2, rv c3, rv u0, rv u1, iv 4, iv 0, iv 1, rv ord, rv uno, rv par, rv c1] [(.int 1)])
        exact oRetH X hx hlk hZ (oELw hw) e0 B hret (oNar01 (Or.inr rfl)) (Or.inl ⟨rfl, Or.inr (Or.inl rfl), _, rfl⟩) (hb hby at_242) (by rw [e0]; exact ⟨rfl, K.fr⟩) (by decide) (by decide)
      · show oWk _ _ _ _ T (mkF m 184 #[iv p0, iv p1, iv p2, rv c0, rv c1, rv c2, rv c3, rv u0, rv u1, iv 4, iv 0, iv 2, rv ord, rv uno, rv par, uu] [])
        refine oWk.st (fun _ kt => zJ X hx hby at_184 rfl rfl (zF X hx hby at_186 rfl rfl ((if0 _ _).trans (feq (by decide)).2) (pc' := 195) rfl (zJ X hx hby at_195 rfl rfl (zK X hx hby at_197 rfl (zY X hx hby at_198 rfl rfl (feq (by decide)).2 (pc' := 208) rfl (zJ X hx hby at_208 rfl rfl (zK X hx hby at_210 rfl (zN X hx hby at_211 rfl rfl (teq (by decide)).2 kt)))))))) ?_
        show oWk _ _ _ _ T (mkF m 214 #[iv p0, iv p1, iv p2, rv c0, rv c1, rv c2, rv c3, rv u0, rv u1, iv 4, iv 0, iv 2, rv ord, rv uno, rv par, uu] [])
        refine oWk.st (fun _ kt => zB X hx hby at_214 rfl rfl rfl (zT X hx hby at_216 rfl rfl rfl (l' := #[iv p0, iv p1, iv p2, rv c0, rv c1, rv c2, rv c3, rv u0, rv u1, iv 4, iv 0, iv 2, rv ord, rv uno, rv par, rv c2]) rfl (zG X hx hby at_218 rfl (pc' := 225) rfl (zB X hx hby at_225 rfl rfl rfl (zJ X hx hby at_227 rfl rfl kt))))) ?_
        have E_c2 := (E_c2.keep K149.1)
        have Oh := K.old O0 all0
        obtain ⟨T, L156, X, e0, K, st⟩ := (cs22 hw).pure X hx hZ hown e0 K (A := [(.ref par), (.int (2 : Int32))]) ⟨rfl, _, _, rfl, E_par⟩ (rNd_4_2 l Z a0 hw [] par nl c0 c1 c2 c3 ng nj h Oh F_ordered_par E_nl F_elements_nl V_ng E_c2) (fun _ _ _ q => q) (W := 0) (by decide) hml (Ls := #[iv p0, iv p1, iv p2, rv c0, rv c1, rv c2, rv c3, rv u0, rv u1, iv 4, iv 0, iv 2, rv ord, rv uno, rv par, rv c2]) rfl (rest := []) rfl rfl hby at_229
        refine oWk.st st ?_
        refine oWk.st (fun _ kt => zB X hx hby at_232 rfl rfl rfl kt) ?_
        refine oWk.st (fun _ kt => Jvm.RoadKit.acmp (g := (mkF m 234 #[iv p0, iv p1, iv p2, rv c0, rv c1, rv c2, rv c3, rv u0, rv u1, iv 4, iv 0, iv 2, rv ord, rv uno, rv par, rv c2] [(.ref c2), (.ref c2)])) X hx rfl rfl rfl (pc0 := 234) (pc' := 237) (same := true) rfl (hb hby at_234) rfl (decide_eq_true rfl) (by decide) (by decide) kt) ?_
        show oWk _ _ _ _ T (mkF m 237 #[iv p0, iv p1, iv p2, rv c0, rv c1, rv c2, rv c3, rv u0, rv u1, iv 4, iv 0, iv 2, rv ord, rv uno, rv par, rv c2] [])
        refine oWk.st (fun _ kt => zK X hx hby at_237 rfl (zG X hx hby at_238 rfl (pc' := 242) rfl kt)) ?_
        show oWk _ _ _ _ T (mkF m 242 #[iv p0, iv p1, iv p2, rv c0, rv c1, rv c2, rv c3, rv u0, rv u1, iv 4, iv 0, iv 2, rv ord, rv uno, rv par, rv c2] [(.int 1)])
        exact oRetH X hx hlk hZ (oELw hw) e0 B hret (oNar01 (Or.inr rfl)) (Or.inl ⟨rfl, Or.inr (Or.inl rfl), _, rfl⟩) (hb hby at_242) (by rw [e0]; exact ⟨rfl, K.fr⟩) (by decide) (by decide)
      · show oWk _ _ _ _ T (mkF m 184 #[iv p0, iv p1, iv p2, rv c0, rv c1, rv c2, rv c3, rv u0, rv u1, iv 4, iv 0, iv 3, rv ord, rv uno, rv par, uu] [])
        refine oWk.st (fun _ kt => zJ X hx hby at_184 rfl rfl (zF X hx hby at_186 rfl rfl ((if0 _ _).trans (feq (by decide)).2) (pc' := 195) rfl (zJ X hx hby at_195 rfl rfl (zK X hx hby at_197 rfl (zY X hx hby at_198 rfl rfl (feq (by decide)).2 (pc' := 208) rfl (zJ X hx hby at_208 rfl rfl (zK X hx hby at_210 rfl (zY X hx hby at_211 rfl rfl (feq (by decide)).2 (pc' := 221) rfl kt)))))))) ?_
        show oWk _ _ _ _ T (mkF m 221 #[iv p0, iv p1, iv p2, rv c0, rv c1, rv c2, rv c3, rv u0, rv u1, iv 4, iv 0, iv 3, rv ord, rv uno, rv par, uu] [])
        refine oWk.st (fun _ kt => zB X hx hby at_221 rfl rfl rfl (zT X hx hby at_223 rfl rfl rfl (l' := #[iv p0, iv p1, iv p2, rv c0, rv c1, rv c2, rv c3, rv u0, rv u1, iv 4, iv 0, iv 3, rv ord, rv uno, rv par, rv c3]) rfl (zB X hx hby at_225 rfl rfl rfl (zJ X hx hby at_227 rfl rfl kt)))) ?_
        have E_c3 := (E_c3.keep K149.1)
        have Oh := K.old O0 all0
        obtain ⟨T, L158, X, e0, K, st⟩ := (cs22 hw).pure X hx hZ hown e0 K (A := [(.ref par), (.int (3 : Int32))]) ⟨rfl, _, _, rfl, E_par⟩ (rNd_4_3 l Z a0 hw [] par nl c0 c1 c2 c3 ng nj h Oh F_ordered_par E_nl F_elements_nl V_ng E_c3) (fun _ _ _ q => q) (W := 0) (by decide) hml (Ls := #[iv p0, iv p1, iv p2, rv c0, rv c1, rv c2, rv c3, rv u0, rv u1, iv 4, iv 0, iv 3, rv ord, rv uno, rv par, rv c3]) rfl (rest := []) rfl rfl hby at_229
        refine oWk.st st ?_
        refine oWk.st (fun _ kt => zB X hx hby at_232 rfl rfl rfl kt) ?_
        refine oWk.st (fun _ kt => Jvm.RoadKit.acmp (g := (mkF m 234 #[iv p0, iv p1, iv p2, rv c0, rv c1, rv c2, rv c3, rv u0, rv u1, iv 4, iv 0, iv 3, rv ord, rv uno, rv par, rv c3] [(.ref c3), (.ref c3)])) X hx rfl rfl rfl (pc0 := 234) (pc' := 237) (same := true) rfl (hb hby at_234) rfl (decide_eq_true rfl) (by decide) (by decide) kt) ?_
        show oWk _ _ _ _ T (mkF m 237 #[iv p0, iv p1, iv p2, rv c0, rv c1, rv c2, rv c3, rv u0, rv u1, iv 4, iv 0, iv 3, rv ord, rv uno, rv par, rv c3] [])
        refine oWk.st (fun _ kt => zK X hx hby at_237 rfl (zG X hx hby at_238 rfl (pc' := 242) rfl kt)) ?_
        show oWk _ _ _ _ T (mkF m 242 #[iv p0, iv p1, iv p2, rv c0, rv c1, rv c2, rv c3, rv u0, rv u1, iv 4, iv 0, iv 3, rv ord, rv uno, rv par, rv c3] [(.int 1)])
        exact oRetH X hx hlk hZ (oELw hw) e0 B hret (oNar01 (Or.inr rfl)) (Or.inl ⟨rfl, Or.inr (Or.inl rfl), _, rfl⟩) (hb hby at_242) (by rw [e0]; exact ⟨rfl, K.fr⟩) (by decide) (by decide)
    · show oWk _ _ _ _ T (mkF m 138 #[iv p0, iv p1, iv p2, rv c0, rv c1, rv c2, rv c3, rv u0, rv u1, iv 4, iv 1, iv ix, rv ord, rv uno, uu, uu] [])
      refine oWk.st (fun _ kt => zJ X hx hby at_138 rfl rfl (zK X hx hby at_140 rfl (zN X hx hby at_141 rfl rfl (flt (by decide)).1 (zB X hx hby at_144 rfl rfl rfl (zB X hx hby at_146 rfl rfl rfl kt))))) ?_
      have V_xd := ((V_xd.ext E144).keep K145.1 (ninS ne_xd_uno nin0))
      have E_u0 := ((E_u0.ext E144).keep K145.1)
      have lt_xd := V_xd.lt
      have E_xq := ((E_xq.ext E144).keep K145.1)
      have lt_xq := E_xq.lt
      have E_c0 := ((E_c0.ext E144).keep K145.1)
      have lt_c0 := E_c0.lt
      have E_c1 := ((E_c1.ext E144).keep K145.1)
      have lt_c1 := E_c1.lt
      have E_c2 := ((E_c2.ext E144).keep K145.1)
      have lt_c2 := E_c2.lt
      have E_c3 := ((E_c3.ext E144).keep K145.1)
      have lt_c3 := E_c3.lt
      have lt_u0 := E_u0.lt
      have E_u1 := ((E_u1.ext E144).keep K145.1)
      have lt_u1 := E_u1.lt
      have E_ord := ((E_ord.ext E144).keep K145.1)
      have lt_ord := E_ord.lt
      have E_nd83 := ((E_nd83.ext E144).keep K145.1)
      have lt_nd83 := E_nd83.lt
      have lt_uno := E_uno.lt
      have Oh := K.old O0 all0
      obtain ⟨_, T, h, Lc160, X, e0, hQ, st⟩ := (cs12 hw).run X hx hZ hown e0 (A := [(.ref uno), (.ref u0)]) ⟨rfl, _, _, rfl, E_uno⟩ (rAd_0 l Z a0 hw [] uno u0 xd xk (0 : Int32) h Oh S_DEFAULTCAPACITY_EMPTY_ELEMENTDATA (Nat.le_trans O0.1 ge_uno) E_uno F_elementData_uno F_size_uno F_modCount_uno V_xd (Ins.of_exa E_u0 (oW hw 129 rfl)) (Ne.symm ne_u0_uno) (Ne.symm ne_xd_uno)) (W := 0) (by decide) hml (Ls := #[iv p0, iv p1, iv p2, rv c0, rv c1, rv c2, rv c3, rv u0, rv u1, iv 4, iv 1, iv ix, rv ord, rv uno, uu, uu]) rfl (rest := []) rfl rfl hby at_148
      obtain ⟨nd148, nk148, rfl, K159, E_uno, F_elementData_uno, F_size_uno, F_modCount_uno, gn_nd148, E_nd148, V_nd148, ov_nk148⟩ := hQ
      have ge_nd148 := Nat.le_trans K.le gn_nd148
      have ne_xd_nd148 : xd ≠ nd148 := Nat.ne_of_lt (Nat.lt_of_lt_of_le lt_xd gn_nd148)
      have ne_xq_nd148 : xq ≠ nd148 := Nat.ne_of_lt (Nat.lt_of_lt_of_le lt_xq gn_nd148)
      have ne_c0_nd148 : c0 ≠ nd148 := Nat.ne_of_lt (Nat.lt_of_lt_of_le lt_c0 gn_nd148)
      have ne_c1_nd148 : c1 ≠ nd148 := Nat.ne_of_lt (Nat.lt_of_lt_of_le lt_c1 gn_nd148)
      have ne_c2_nd148 : c2 ≠ nd148 := Nat.ne_of_lt (Nat.lt_of_lt_of_le lt_c2 gn_nd148)
      have ne_c3_nd148 : c3 ≠ nd148 := Nat.ne_of_lt (Nat.lt_of_lt_of_le lt_c3 gn_nd148)
      have ne_u0_nd148 : u0 ≠ nd148 := Nat.ne_of_lt (Nat.lt_of_lt_of_le lt_u0 gn_nd148)
      have ne_u1_nd148 : u1 ≠ nd148 := Nat.ne_of_lt (Nat.lt_of_lt_of_le lt_u1 gn_nd148)
      have ne_ord_nd148 : ord ≠ nd148 := Nat.ne_of_lt (Nat.lt_of_lt_of_le lt_ord gn_nd148)
      have ne_nd83_nd148 : nd83 ≠ nd148 := Nat.ne_of_lt (Nat.lt_of_lt_of_le lt_nd83 gn_nd148)
      have ne_uno_nd148 : uno ≠ nd148 := Nat.ne_of_lt (Nat.lt_of_lt_of_le lt_uno gn_nd148)
      have K := K.call K159 (allS (Or.inr ge_uno) all0)
      have B := B.keep K159.1 (fun _ _ => oSf)
      refine oWk.st st ?_
      refine oWk.st (fun _ kt => XS.pop X.here hx rfl (hb hby at_151) rfl rfl (zJ X hx hby at_152 rfl rfl (zK X hx hby at_154 rfl (zY X hx hby at_155 rfl rfl (tlt (by decide)).1 (pc' := 166) rfl kt)))) ?_
      obtain ⟨par, g161⟩ : ∃ z, z = h.size := ⟨_, rfl⟩
      have V_xd := (V_xd.keep K159.1 (ninS ne_xd_uno nin0))
      have ne_xd_par : xd ≠ par := Nat.ne_of_lt (Nat.lt_of_lt_of_le V_xd.lt (Nat.le_of_eq g161.symm))
      have E_xq := (E_xq.keep K159.1)
      have ne_xq_par : xq ≠ par := Nat.ne_of_lt (Nat.lt_of_lt_of_le E_xq.lt (Nat.le_of_eq g161.symm))
      have E_c0 := (E_c0.keep K159.1)
      have ne_c0_par : c0 ≠ par := Nat.ne_of_lt (Nat.lt_of_lt_of_le E_c0.lt (Nat.le_of_eq g161.symm))
      have E_c1 := (E_c1.keep K159.1)
      have ne_c1_par : c1 ≠ par := Nat.ne_of_lt (Nat.lt_of_lt_of_le E_c1.lt (Nat.le_of_eq g161.symm))
      have E_c2 := (E_c2.keep K159.1)
      have ne_c2_par : c2 ≠ par := Nat.ne_of_lt (Nat.lt_of_lt_of_le E_c2.lt (Nat.le_of_eq g161.symm))
      have E_c3 := (E_c3.keep K159.1)
      have ne_c3_par : c3 ≠ par := Nat.ne_of_lt (Nat.lt_of_lt_of_le E_c3.lt (Nat.le_of_eq g161.symm))
      have E_u0 := (E_u0.keep K159.1)
      have ne_u0_par : u0 ≠ par := Nat.ne_of_lt (Nat.lt_of_lt_of_le E_u0.lt (Nat.le_of_eq g161.symm))
      have E_u1 := (E_u1.keep K159.1)
      have ne_u1_par : u1 ≠ par := Nat.ne_of_lt (Nat.lt_of_lt_of_le E_u1.lt (Nat.le_of_eq g161.symm))
      have E_ord := (E_ord.keep K159.1)
      have ne_ord_par : ord ≠ par := Nat.ne_of_lt (Nat.lt_of_lt_of_le E_ord.lt (Nat.le_of_eq g161.symm))
      have E_nd83 := (E_nd83.keep K159.1)
      have ne_nd83_par : nd83 ≠ par := Nat.ne_of_lt (Nat.lt_of_lt_of_le E_nd83.lt (Nat.le_of_eq g161.symm))
      have ne_uno_par : uno ≠ par := Nat.ne_of_lt (Nat.lt_of_lt_of_le E_uno.lt (Nat.le_of_eq g161.symm))
      have ne_nd148_par : nd148 ≠ par := Nat.ne_of_lt (Nat.lt_of_lt_of_le E_nd148.lt (Nat.le_of_eq g161.symm))
      have ge_par : h0.size ≤ par := Nat.le_trans K.le (Nat.le_of_eq g161.symm)
      obtain ⟨T, h, X, e0, E161, A161, D161, -, st⟩ := newO X hx hZ hown (oW hw 7 rfl) (oW hw 8 rfl) (oW hw 9 rfl) e0 (g := (mkF m 166 #[iv p0, iv p1, iv p2, rv c0, rv c1, rv c2, rv c3, rv u0, rv u1, iv 4, iv 1, iv ix, rv ord, rv uno, uu, uu] [])) rfl (hb hby at_166) (by decide) (by decide)
      rw [← g161] at A161 D161 st
      refine oWk.st st ?_
      have K := K.ext E161
      have B := B.ext E161
      have E_par := A161
      have F_kind_par : Fld Z h par Y4 "kind" Y13 .null := D161 (Or.inr (oW hw 89 rfl)) (ty := (.object Y7)) (by decide)
      have F_name_par : Fld Z h par Y4 "name" Y14 .null := D161 (Or.inr (oW hw 91 rfl)) (ty := (.object Y9)) (by decide)
      have F_ordered_par : Fld Z h par Y4 "ordered" Y5 .null := D161 (Or.inr (oW hw 93 rfl)) (ty := (.object Y3)) (by decide)
      have F_unordered_par : Fld Z h par Y4 "unordered" Y5 .null := D161 (Or.inr (oW hw 95 rfl)) (ty := (.object Y3)) (by decide)
      refine oWk.st (fun _ kt => zD X hx hby at_169 rfl rfl rfl kt) ?_
      have Oh := K.old O0 all0
      obtain ⟨T, X, e0, st⟩ := getS2 X hx hZ hown (host := "") (Or.inl (oW hw 98 rfl)) Via.refl e0 (S_JOIN.ext Oh) (g := (mkF m 170 #[iv p0, iv p1, iv p2, rv c0, rv c1, rv c2, rv c3, rv u0, rv u1, iv 4, iv 1, iv ix, rv ord, rv uno, uu, uu] [(.ref par), (.ref par)])) rfl (hb hby at_170)
      refine oWk.st st ?_
      obtain ⟨lit, T, h, X, e2, E162, hZ, hown, B, C, st⟩ := oLdcO X hx hZ hown (oW hw 10 rfl) (oSA hw) e0 (oELw hw) B (g := (mkF m 173 #[iv p0, iv p1, iv p2, rv c0, rv c1, rv c2, rv c3, rv u0, rv u1, iv 4, iv 1, iv ix, rv ord, rv uno, uu, uu] [(.ref kJOIN), (.ref par), (.ref par)])) rfl (hb hby at_173) (n := 0) (by decide) (by decide) (by decide) (by decide)
      have e0 := e2
      refine oWk.st st ?_
      have K := K.ext E162
      refine oWk.st (fun _ kt => zB X hx hby at_175 rfl rfl rfl (zB X hx hby at_177 rfl rfl rfl kt)) ?_
      have E_par := (E_par.ext E162)
      have F_kind_par := (F_kind_par.ext E162)
      have F_name_par := (F_name_par.ext E162)
      have F_ordered_par := (F_ordered_par.ext E162)
      have F_unordered_par := (F_unordered_par.ext E162)
      have E_ord := ((E_ord.ext E161).ext E162)
      have F_elementData_ord := (((((F_elementData_ord.ext E144).keep K145.1 (ninS ne_ord_uno nin0)).keep K159.1 (ninS ne_ord_uno nin0)).ext E161).ext E162)
      have F_size_ord := (((((F_size_ord.ext E144).keep K145.1 (ninS ne_ord_uno nin0)).keep K159.1 (ninS ne_ord_uno nin0)).ext E161).ext E162)
      have E_nd83 := ((E_nd83.ext E161).ext E162)
      have V_nd83 := (((((V_nd83.ext E144).keep K145.1 (ninS ne_nd83_uno nin0)).keep K159.1 (ninS ne_nd83_uno nin0)).ext E161).ext E162)
      have E_c0 := ((E_c0.ext E161).ext E162)
      have E_c1 := ((E_c1.ext E161).ext E162)
      have E_c2 := ((E_c2.ext E161).ext E162)
      have E_c3 := ((E_c3.ext E161).ext E162)
      have E_uno := ((E_uno.ext E161).ext E162)
      have F_elementData_uno := ((F_elementData_uno.ext E161).ext E162)
      have F_size_uno := ((F_size_uno.ext E161).ext E162)
      have E_nd148 := ((E_nd148.ext E161).ext E162)
      have V_nd148 := ((V_nd148.ext E161).ext E162)
      have E_u0 := ((E_u0.ext E161).ext E162)
      have Oh := K.old O0 all0
      obtain ⟨_, _, ⟨T, L164, k164, n164⟩, -, X, hS, hgr, ⟨Lc164, hQ, l164, y164, z164, C⟩, st⟩ := X.specialBackS hx (y := yy7) rfl hown (mvT hZ (oW hw 44 rfl)) (mvT hZ (oW hw 45 rfl)) (mvT hZ (oW hw 46 rfl)) (by decide) (oBackH (W := 1) (rNI_4_1 l Z a0 hw [] par kJOIN lit .null .null .null .null ord nd83 nk83 c0 c1 c2 c3 uno nd148 nk148 u0 xq xmr h Oh S_EMPTY mm_ (Nat.le_trans O0.1 ge_par) E_par F_kind_par F_name_par F_ordered_par F_unordered_par E_ord F_elementData_ord F_size_ord E_nd83 V_nd83 (Ins.of_exa E_c0 (oW hw 129 rfl)) (Ins.of_exa E_c1 (oW hw 129 rfl)) (Ins.of_exa E_c2 (oW hw 129 rfl)) (Ins.of_exa E_c3 (oW hw 129 rfl)) E_uno F_elementData_uno F_size_uno E_nd148 V_nd148 (Ins.of_exa E_u0 (oW hw 129 rfl))) hZ (oW hw 46 rfl) (oW hw 9 rfl) (by decide) (by decide) (oELw hw) B.2.1 (allS ⟨E_par.lt, oSf⟩ all0)) (g := (mkF m 179 #[iv p0, iv p1, iv p2, rv c0, rv c1, rv c2, rv c3, rv u0, rv u1, iv 4, iv 1, iv ix, rv ord, rv uno, uu, uu] [(.ref uno), (.ref ord), (.ref lit), (.ref kJOIN), (.ref par), (.ref par)])) rfl (by rw [hml]; rfl) (Steps.refl _) (a := par) (argsL := [(.ref kJOIN), (.ref lit), (.ref ord), (.ref uno)]) (rest := [(.ref par)]) (lenOf pd_5 rfl) rfl (Nat.le_of_eq rfl) (hb hby at_179) (fun _ _ => ⟨rfl, e0, (by decide : 61 + 9 ≤ _), (by decide : 358 + 53 ≤ _)⟩)
      dsimp only [Pt.U, Pt.locs, Pt.cells, Pt.slots] at X l164 y164 z164 st hQ C hS hgr
      subst l164 y164 z164
      have X : Stand p l e _ (s.setVm T.vm) m _ below meth c T _ _ _ := X
      obtain ⟨h, e2⟩ : ∃ z, T.heap = z := ⟨_, rfl⟩
      have B := B.call e0 hS hgr C e2
      obtain ⟨hZ, hown⟩ := oWide hZ hown hS
      rw [e2] at hQ C
      have e0 := e2
      obtain ⟨nl, ng, nj, rfl, K163, E_par, F_ordered_par, E_nl, F_elements_nl, V_ng⟩ := hQ
      have K := K.call K163 (allS (Or.inr ge_par) all0)
      refine oWk.tr st ?_
      refine oWk.st (fun _ kt => zT X hx hby at_182 rfl rfl rfl (l' := #[iv p0, iv p1, iv p2, rv c0, rv c1, rv c2, rv c3, rv u0, rv u1, iv 4, iv 1, iv ix, rv ord, rv uno, rv par, uu]) rfl kt) ?_
      show oWk _ _ _ _ T (mkF m 184 #[iv p0, iv p1, iv p2, rv c0, rv c1, rv c2, rv c3, rv u0, rv u1, iv 4, iv 1, iv ix, rv ord, rv uno, rv par, uu] [])
      have ci := oRem4 hix
      rcases ci with rfl | rfl | rfl | rfl
      · show oWk _ _ _ _ T (mkF m 184 #[iv p0, iv p1, iv p2, rv c0, rv c1, rv c2, rv c3, rv u0, rv u1, iv 4, iv 1, iv 0, rv ord, rv uno, rv par, uu] [])
        refine oWk.st (fun _ kt => zJ X hx hby at_184 rfl rfl (zH X hx hby at_186 rfl rfl ((if0 _ _).trans (teq (by decide)).2) (zA X hx hby at_189 rfl rfl rfl (zT X hx hby at_190 rfl rfl rfl (l' := #[iv p0, iv p1, iv p2, rv c0, rv c1, rv c2, rv c3, rv u0, rv u1, iv 4, iv 1, iv 0, rv ord, rv uno, rv par, rv c0]) rfl (zG X hx hby at_192 rfl (pc' := 225) rfl (zB X hx hby at_225 rfl rfl rfl (zJ X hx hby at_227 rfl rfl kt))))))) ?_
        have E_c0 := (E_c0.keep K163.1)
        have Oh := K.old O0 all0
        obtain ⟨T, L166, X, e0, K, st⟩ := (cs22 hw).pure X hx hZ hown e0 K (A := [(.ref par), (.int (0 : Int32))]) ⟨rfl, _, _, rfl, E_par⟩ (rNd_4_0 l Z a0 hw [] par nl c0 c1 c2 c3 ng nj h Oh F_ordered_par E_nl F_elements_nl V_ng E_c0) (fun _ _ _ q => q) (W := 0) (by decide) hml (Ls := #[iv p0, iv p1, iv p2, rv c0, rv c1, rv c2, rv c3, rv u0, rv u1, iv 4, iv 1, iv 0, rv ord, rv uno, rv par, rv c0]) rfl (rest := []) rfl rfl hby at_229
        refine oWk.st st ?_
        refine oWk.st (fun _ kt => zB X hx hby at_232 rfl rfl rfl kt) ?_
        refine oWk.st (fun _ kt => Jvm.RoadKit.acmp (g := (mkF m 234 #[iv p0, iv p1, iv p2, rv c0, rv c1, rv c2, rv c3, rv u0, rv u1, iv 4, iv 1, iv 0, rv ord, rv uno, rv par, rv c0] [(.ref c0), (.ref c0)])) X hx rfl rfl rfl (pc0 := 234) (pc' := 237) (same := true) rfl (hb hby at_234) rfl (decide_eq_true rfl) (by decide) (by decide) kt) ?_
        show oWk _ _ _ _ T (mkF m 237 #[iv p0, iv p1, iv p2, rv c0, rv c1, rv c2, rv c3, rv u0, rv u1, iv 4, iv 1, iv 0, rv ord, rv uno, rv par, rv c0] [])
        refine oWk.st (fun _ kt => zK X hx hby at_237 rfl (zG X hx hby at_238 rfl (pc' := 242) rfl kt)) ?_
        show oWk _ _ _ _ T (mkF m 242 #[iv p0, iv p1, iv p2, rv c0, rv c1, rv c2, rv c3, rv u0, rv u1, iv 4, iv 1, iv 0, rv ord, rv uno, rv par, rv c0] [(.int 1)])
        exact oRetH X hx hlk hZ (oELw hw) e0 B hret (oNar01 (Or.inr rfl)) (Or.inl ⟨rfl, Or.inr (Or.inl rfl), _, rfl⟩) (hb hby at_242) (by rw [e0]; exact ⟨rfl, K.fr⟩) (by decide) (by decide)
      · show oWk _ _ _ _ T (mkF m 184 #[iv p0, iv p1, iv p2, rv c0, rv c1, rv c2, rv c3, rv u0, rv u1, iv 4, iv 1, iv 1, rv ord, rv uno, rv par, uu] [])
        refine oWk.st (fun _ kt => zJ X hx hby at_184 rfl rfl (zF X hx hby at_186 rfl rfl ((if0 _ _).trans (feq (by decide)).2) (pc' := 195) rfl (zJ X hx hby at_195 rfl rfl (zK X hx hby at_197 rfl (zN X hx hby at_198 rfl rfl (teq (by decide)).2 (zB X hx hby at_201 rfl rfl rfl (zT X hx hby at_203 rfl rfl rfl (l' := #[iv p0, iv p1, iv p2, rv c0, rv c1, rv c2, rv c3, rv u0, rv u1, iv 4, iv 1, iv 1, rv ord, rv uno, rv par, rv c1]) rfl (zG X hx hby at_205 rfl (pc' := 225) rfl kt)))))))) ?_
        show oWk _ _ _ _ T (mkF m 225 #[iv p0, iv p1, iv p2, rv c0, rv c1, rv c2, rv c3, rv u0, rv u1, iv 4, iv 1, iv 1, rv ord, rv uno, rv par, rv c1] [])
        refine oWk.st (fun _ kt => zB X hx hby at_225 rfl rfl rfl (zJ X hx hby at_227 rfl rfl kt)) ?_
        have E_c1 := (E_c1.keep K163.1)
        have Oh := K.old O0 all0
        obtain ⟨T, L168, X, e0, K, st⟩ := (cs22 hw).pure X hx hZ hown e0 K (A := [(.ref par), (.int (1 : Int32))]) ⟨rfl, _, _, rfl, E_par⟩ (rNd_4_1 l Z a0 hw [] par nl c0 c1 c2 c3 ng nj h Oh F_ordered_par E_nl F_elements_nl V_ng E_c1) (fun _ _ _ q => q) (W := 0) (by decide) hml (Ls := #[iv p0, iv p1, iv p2, rv c0, rv c1, rv c2, rv c3, rv u0, rv u1, iv 4, iv 1, iv 1, rv ord, rv uno, rv par, rv c1]) rfl (rest := []) rfl rfl hby at_229
        refine oWk.st st ?_
        refine oWk.st (fun _ kt => zB X hx hby at_232 rfl rfl rfl kt) ?_
        refine oWk.st (fun _ kt => Jvm.RoadKit.acmp (g := (mkF m 234 #[iv p0, iv p1, iv p2, rv c0, rv c1, rv c2, rv c3, rv u0, rv u1, iv 4, iv 1, iv 1, rv ord, rv uno, rv par, rv c1] [(.ref c1), (.ref c1)])) X hx rfl rfl rfl (pc0 := 234) (pc' := 237) (same := true) rfl (hb hby at_234) rfl (decide_eq_true rfl) (by decide) (by decide) kt) ?_
        show oWk _ _ _ _ T (mkF m 237 #[iv p0, iv p1, iv p2, rv c0, rv c1, rv c2, rv c3, rv u0, rv u1, iv 4, iv 1, iv 1, rv ord, rv uno, rv par, rv c1] [])
        refine oWk.st (fun _ kt => zK X hx hby at_237 rfl (zG X hx hby at_238 rfl (pc' := 242) rfl kt)) ?_
        show oWk _ _ _ _ T (mkF m 242 #[iv p0, iv p1, iv p2, rv c0, rv c1, rv c2, rv c3, rv u0, rv u1, iv 4, iv 1, iv 1, rv ord, rv uno, rv par, rv c1] [(.int 1)])
        exact oRetH X hx hlk hZ (oELw hw) e0 B hret (oNar01 (Or.inr rfl)) (Or.inl ⟨rfl, Or.inr (Or.inl rfl), _, rfl⟩) (hb hby at_242) (by rw [e0]; exact ⟨rfl, K.fr⟩) (by decide) (by decide)
      · show oWk _ _ _ _ T (mkF m 184 #[iv p0, iv p1, iv p2, rv c0, rv c1, rv c2, rv c3, rv u0, rv u1, iv 4, iv 1, iv 2, rv ord, rv uno, rv par, uu] [])
        refine oWk.st (fun _ kt => zJ X hx hby at_184 rfl rfl (zF X hx hby at_186 rfl rfl ((if0 _ _).trans (feq (by decide)).2) (pc' := 195) rfl (zJ X hx hby at_195 rfl rfl (zK X hx hby at_197 rfl (zY X hx hby at_198 rfl rfl (feq (by decide)).2 (pc' := 208) rfl (zJ X hx hby at_208 rfl rfl (zK X hx hby at_210 rfl (zN X hx hby at_211 rfl rfl (teq (by decide)).2 kt)))))))) ?_
        show oWk _ _ _ _ T (mkF m 214 #[iv p0, iv p1, iv p2, rv c0, rv c1, rv c2, rv c3, rv u0, rv u1, iv 4, iv 1, iv 2, rv ord, rv uno, rv par, uu] [])
        refine oWk.st (fun _ kt => zB X hx hby at_214 rfl rfl rfl (zT X hx hby at_216 rfl rfl rfl (l' := #[iv p0, iv p1, iv p2, rv c0, rv c1, rv c2, rv c3, rv u0, rv u1, iv 4, iv 1, iv 2, rv ord, rv uno, rv par, rv c2]) rfl (zG X hx hby at_218 rfl (pc' := 225) rfl (zB X hx hby at_225 rfl rfl rfl (zJ X hx hby at_227 rfl rfl kt))))) ?_
        have E_c2 := (E_c2.keep K163.1)
        have Oh := K.old O0 all0
        obtain ⟨T, L170, X, e0, K, st⟩ := (cs22 hw).pure X hx hZ hown e0 K (A := [(.ref par), (.int (2 : Int32))]) ⟨rfl, _, _, rfl, E_par⟩ (rNd_4_2 l Z a0 hw [] par nl c0 c1 c2 c3 ng nj h Oh F_ordered_par E_nl F_elements_nl V_ng E_c2) (fun _ _ _ q => q) (W := 0) (by decide) hml (Ls := #[iv p0, iv p1, iv p2, rv c0, rv c1, rv c2, rv c3, rv u0, rv u1, iv 4, iv 1, iv 2, rv ord, rv uno, rv par, rv c2]) rfl (rest := []) rfl rfl hby at_229
        refine oWk.st st ?_
        refine oWk.st (fun _ kt => zB X hx hby at_232 rfl rfl rfl kt) ?_
        refine oWk.st (fun _ kt => Jvm.RoadKit.acmp (g := (mkF m 234 #[iv p0, iv p1, iv p2, rv c0, rv c1, rv c2, rv c3, rv u0, rv u1, iv 4, iv 1, iv 2, rv ord, rv uno, rv par, rv c2] [(.ref c2), (.ref c2)])) X hx rfl rfl rfl (pc0 := 234) (pc' := 237) (same := true) rfl (hb hby at_234) rfl (decide_eq_true rfl) (by decide) (by decide) kt) ?_
        show oWk _ _ _ _ T (mkF m 237 #[iv p0, iv p1, iv p2, rv c0, rv c1, rv c2, rv c3, rv u0, rv u1, iv 4, iv 1, iv 2, rv ord, rv uno, rv par, rv c2] [])
        refine oWk.st (fun _ kt => zK X hx hby at_237 rfl (zG X hx hby at_238 rfl (pc' := 242) rfl kt)) ?_
        show oWk _ _ _ _ T (mkF m 242 #[iv p0, iv p1, iv p2, rv c0, rv c1, rv c2, rv c3, rv u0, rv u1, iv 4, iv 1, iv 2, rv ord, rv uno, rv par, rv c2] [(.int 1)])
        exact oRetH X hx hlk hZ (oELw hw) e0 B hret (oNar01 (Or.inr rfl)) (Or.inl ⟨rfl, Or.inr (Or.inl rfl), _, rfl⟩) (hb hby at_242) (by rw [e0]; exact ⟨rfl, K.fr⟩) (by decide) (by decide)
      · show oWk _ _ _ _ T (mkF m 184 #[iv p0, iv p1, iv p2, rv c0, rv c1, rv c2, rv c3, rv u0, rv u1, iv 4, iv 1, iv 3, rv ord, rv uno, rv par, uu] [])
        refine oWk.st (fun _ kt => zJ X hx hby at_184 rfl rfl (zF X hx hby at_186 rfl rfl ((if0 _ _).trans (feq (by decide)).2) (pc' := 195) rfl (zJ X hx hby at_195 rfl rfl (zK X hx hby at_197 rfl (zY X hx hby at_198 rfl rfl (feq (by decide)).2 (pc' := 208) rfl (zJ X hx hby at_208 rfl rfl (zK X hx hby at_210 rfl (zY X hx hby at_211 rfl rfl (feq (by decide)).2 (pc' := 221) rfl kt)))))))) ?_
        show oWk _ _ _ _ T (mkF m 221 #[iv p0, iv p1, iv p2, rv c0, rv c1, rv c2, rv c3, rv u0, rv u1, iv 4, iv 1, iv 3, rv ord, rv uno, rv par, uu] [])
        refine oWk.st (fun _ kt => zB X hx hby at_221 rfl rfl rfl (zT X hx hby at_223 rfl rfl rfl (l' := #[iv p0, iv p1, iv p2, rv c0, rv c1, rv c2, rv c3, rv u0, rv u1, iv 4, iv 1, iv 3, rv ord, rv uno, rv par, rv c3]) rfl (zB X hx hby at_225 rfl rfl rfl (zJ X hx hby at_227 rfl rfl kt)))) ?_
        have E_c3 := (E_c3.keep K163.1)
        have Oh := K.old O0 all0
        obtain ⟨T, L172, X, e0, K, st⟩ := (cs22 hw).pure X hx hZ hown e0 K (A := [(.ref par), (.int (3 : Int32))]) ⟨rfl, _, _, rfl, E_par⟩ (rNd_4_3 l Z a0 hw [] par nl c0 c1 c2 c3 ng nj h Oh F_ordered_par E_nl F_elements_nl V_ng E_c3) (fun _ _ _ q => q) (W := 0) (by decide) hml (Ls := #[iv p0, iv p1, iv p2, rv c0, rv c1, rv c2, rv c3, rv u0, rv u1, iv 4, iv 1, iv 3, rv ord, rv uno, rv par, rv c3]) rfl (rest := []) rfl rfl hby at_229
        refine oWk.st st ?_
        refine oWk.st (fun _ kt => zB X hx hby at_232 rfl rfl rfl kt) ?_
        refine oWk.st (fun _ kt => Jvm.RoadKit.acmp (g := (mkF m 234 #[iv p0, iv p1, iv p2, rv c0, rv c1, rv c2, rv c3, rv u0, rv u1, iv 4, iv 1, iv 3, rv ord, rv uno, rv par, rv c3] [(.ref c3), (.ref c3)])) X hx rfl rfl rfl (pc0 := 234) (pc' := 237) (same := true) rfl (hb hby at_234) rfl (decide_eq_true rfl) (by decide) (by decide) kt) ?_
        show oWk _ _ _ _ T (mkF m 237 #[iv p0, iv p1, iv p2, rv c0, rv c1, rv c2, rv c3, rv u0, rv u1, iv 4, iv 1, iv 3, rv ord, rv uno, rv par, rv c3] [])
        refine oWk.st (fun _ kt => zK X hx hby at_237 rfl (zG X hx hby at_238 rfl (pc' := 242) rfl kt)) ?_
        show oWk _ _ _ _ T (mkF m 242 #[iv p0, iv p1, iv p2, rv c0, rv c1, rv c2, rv c3, rv u0, rv u1, iv 4, iv 1, iv 3, rv ord, rv uno, rv par, rv c3] [(.int 1)])
        exact oRetH X hx hlk hZ (oELw hw) e0 B hret (oNar01 (Or.inr rfl)) (Or.inl ⟨rfl, Or.inr (Or.inl rfl), _, rfl⟩) (hb hby at_242) (by rw [e0]; exact ⟨rfl, K.fr⟩) (by decide) (by decide)
    · show oWk _ _ _ _ T (mkF m 138 #[iv p0, iv p1, iv p2, rv c0, rv c1, rv c2, rv c3, rv u0, rv u1, iv 4, iv 2, iv ix, rv ord, rv uno, uu, uu] [])
      refine oWk.st (fun _ kt => zJ X hx hby at_138 rfl rfl (zK X hx hby at_140 rfl (zN X hx hby at_141 rfl rfl (flt (by decide)).1 (zB X hx hby at_144 rfl rfl rfl (zB X hx hby at_146 rfl rfl rfl kt))))) ?_
      have V_xd := ((V_xd.ext E144).keep K145.1 (ninS ne_xd_uno nin0))
      have E_u0 := ((E_u0.ext E144).keep K145.1)
      have lt_xd := V_xd.lt
      have E_xq := ((E_xq.ext E144).keep K145.1)
      have lt_xq := E_xq.lt
      have E_c0 := ((E_c0.ext E144).keep K145.1)
      have lt_c0 := E_c0.lt
      have E_c1 := ((E_c1.ext E144).keep K145.1)
      have lt_c1 := E_c1.lt
      have E_c2 := ((E_c2.ext E144).keep K145.1)
      have lt_c2 := E_c2.lt
      have E_c3 := ((E_c3.ext E144).keep K145.1)
      have lt_c3 := E_c3.lt
      have lt_u0 := E_u0.lt
      have E_u1 := ((E_u1.ext E144).keep K145.1)
      have lt_u1 := E_u1.lt
      have E_ord := ((E_ord.ext E144).keep K145.1)
      have lt_ord := E_ord.lt
      have E_nd83 := ((E_nd83.ext E144).keep K145.1)
      have lt_nd83 := E_nd83.lt
      have lt_uno := E_uno.lt
      have Oh := K.old O0 all0
      obtain ⟨_, T, h, Lc174, X, e0, hQ, st⟩ := (cs12 hw).run X hx hZ hown e0 (A := [(.ref uno), (.ref u0)]) ⟨rfl, _, _, rfl, E_uno⟩ (rAd_0 l Z a0 hw [] uno u0 xd xk (0 : Int32) h Oh S_DEFAULTCAPACITY_EMPTY_ELEMENTDATA (Nat.le_trans O0.1 ge_uno) E_uno F_elementData_uno F_size_uno F_modCount_uno V_xd (Ins.of_exa E_u0 (oW hw 129 rfl)) (Ne.symm ne_u0_uno) (Ne.symm ne_xd_uno)) (W := 0) (by decide) hml (Ls := #[iv p0, iv p1, iv p2, rv c0, rv c1, rv c2, rv c3, rv u0, rv u1, iv 4, iv 2, iv ix, rv ord, rv uno, uu, uu]) rfl (rest := []) rfl rfl hby at_148
      obtain ⟨nd148, nk148, rfl, K173, E_uno, F_elementData_uno, F_size_uno, F_modCount_uno, gn_nd148, E_nd148, V_nd148, ov_nk148⟩ := hQ
      have ge_nd148 := Nat.le_trans K.le gn_nd148
      have ne_xd_nd148 : xd ≠ nd148 := Nat.ne_of_lt (Nat.lt_of_lt_of_le lt_xd gn_nd148)
      have ne_xq_nd148 : xq ≠ nd148 := Nat.ne_of_lt (Nat.lt_of_lt_of_le lt_xq gn_nd148)
      have ne_c0_nd148 : c0 ≠ nd148 := Nat.ne_of_lt (Nat.lt_of_lt_of_le lt_c0 gn_nd148)
      have ne_c1_nd148 : c1 ≠ nd148 := Nat.ne_of_lt (Nat.lt_of_lt_of_le lt_c1 gn_nd148)
      have ne_c2_nd148 : c2 ≠ nd148 := Nat.ne_of_lt (Nat.lt_of_lt_of_le lt_c2 gn_nd148)
      have ne_c3_nd148 : c3 ≠ nd148 := Nat.ne_of_lt (Nat.lt_of_lt_of_le lt_c3 gn_nd148)
      have ne_u0_nd148 : u0 ≠ nd148 := Nat.ne_of_lt (Nat.lt_of_lt_of_le lt_u0 gn_nd148)
      have ne_u1_nd148 : u1 ≠ nd148 := Nat.ne_of_lt (Nat.lt_of_lt_of_le lt_u1 gn_nd148)
      have ne_ord_nd148 : ord ≠ nd148 := Nat.ne_of_lt (Nat.lt_of_lt_of_le lt_ord gn_nd148)
      have ne_nd83_nd148 : nd83 ≠ nd148 := Nat.ne_of_lt (Nat.lt_of_lt_of_le lt_nd83 gn_nd148)
      have ne_uno_nd148 : uno ≠ nd148 := Nat.ne_of_lt (Nat.lt_of_lt_of_le lt_uno gn_nd148)
      have K := K.call K173 (allS (Or.inr ge_uno) all0)
      have B := B.keep K173.1 (fun _ _ => oSf)
      refine oWk.st st ?_
      refine oWk.st (fun _ kt => XS.pop X.here hx rfl (hb hby at_151) rfl rfl (zJ X hx hby at_152 rfl rfl (zK X hx hby at_154 rfl (zN X hx hby at_155 rfl rfl (flt (by decide)).1 (zB X hx hby at_158 rfl rfl rfl (zB X hx hby at_160 rfl rfl rfl kt)))))) ?_
      have E_u1 := (E_u1.keep K173.1)
      have Oh := K.old O0 all0
      obtain ⟨_, T, h, Lc176, X, e0, hQ, st⟩ := (cs12 hw).run X hx hZ hown e0 (A := [(.ref uno), (.ref u1)]) ⟨rfl, _, _, rfl, E_uno⟩ (rAd_1 l Z a0 hw [] uno u1 nd148 nk148 ((0 : Int32) + (1 : Int32)) u0 h Oh (Nat.le_trans O0.1 ge_uno) (Nat.le_trans O0.1 ge_nd148) ne_uno_nd148 E_uno F_elementData_uno F_size_uno F_modCount_uno E_nd148 V_nd148 ov_nk148 (Ins.of_exa E_u1 (oW hw 129 rfl))) (W := 0) (by decide) hml (Ls := #[iv p0, iv p1, iv p2, rv c0, rv c1, rv c2, rv c3, rv u0, rv u1, iv 4, iv 2, iv ix, rv ord, rv uno, uu, uu]) rfl (rest := []) rfl rfl hby at_162
      obtain ⟨rfl, K175, E_uno, F_elementData_uno, F_size_uno, F_modCount_uno, E_nd148, V_nd148⟩ := hQ
      have K := K.call K175 (allS (Or.inr ge_uno) (allS (Or.inr ge_nd148) all0))
      have B := B.keep K175.1 (fun _ _ => oSf)
      refine oWk.st st ?_
      refine oWk.st (fun _ kt => XS.pop X.here hx rfl (hb hby at_165) rfl rfl kt) ?_
      obtain ⟨par, g177⟩ : ∃ z, z = h.size := ⟨_, rfl⟩
      have V_xd := ((V_xd.keep K173.1 (ninS ne_xd_uno nin0)).keep K175.1 (ninS ne_xd_uno (ninS ne_xd_nd148 nin0)))
      have ne_xd_par : xd ≠ par := Nat.ne_of_lt (Nat.lt_of_lt_of_le V_xd.lt (Nat.le_of_eq g177.symm))
      have E_xq := ((E_xq.keep K173.1).keep K175.1)
      have ne_xq_par : xq ≠ par := Nat.ne_of_lt (Nat.lt_of_lt_of_le E_xq.lt (Nat.le_of_eq g177.symm))
      have E_c0 := ((E_c0.keep K173.1).keep K175.1)
      have ne_c0_par : c0 ≠ par := Nat.ne_of_lt (Nat.lt_of_lt_of_le E_c0.lt (Nat.le_of_eq g177.symm))
      have E_c1 := ((E_c1.keep K173.1).keep K175.1)
      have ne_c1_par : c1 ≠ par := Nat.ne_of_lt (Nat.lt_of_lt_of_le E_c1.lt (Nat.le_of_eq g177.symm))
      have E_c2 := ((E_c2.keep K173.1).keep K175.1)
      have ne_c2_par : c2 ≠ par := Nat.ne_of_lt (Nat.lt_of_lt_of_le E_c2.lt (Nat.le_of_eq g177.symm))
      have E_c3 := ((E_c3.keep K173.1).keep K175.1)
      have ne_c3_par : c3 ≠ par := Nat.ne_of_lt (Nat.lt_of_lt_of_le E_c3.lt (Nat.le_of_eq g177.symm))
      have E_u0 := ((E_u0.keep K173.1).keep K175.1)
      have ne_u0_par : u0 ≠ par := Nat.ne_of_lt (Nat.lt_of_lt_of_le E_u0.lt (Nat.le_of_eq g177.symm))
      have E_u1 := (E_u1.keep K175.1)
      have ne_u1_par : u1 ≠ par := Nat.ne_of_lt (Nat.lt_of_lt_of_le E_u1.lt (Nat.le_of_eq g177.symm))
      have E_ord := ((E_ord.keep K173.1).keep K175.1)
      have ne_ord_par : ord ≠ par := Nat.ne_of_lt (Nat.lt_of_lt_of_le E_ord.lt (Nat.le_of_eq g177.symm))
      have E_nd83 := ((E_nd83.keep K173.1).keep K175.1)
      have ne_nd83_par : nd83 ≠ par := Nat.ne_of_lt (Nat.lt_of_lt_of_le E_nd83.lt (Nat.le_of_eq g177.symm))
      have ne_uno_par : uno ≠ par := Nat.ne_of_lt (Nat.lt_of_lt_of_le E_uno.lt (Nat.le_of_eq g177.symm))
      have ne_nd148_par : nd148 ≠ par := Nat.ne_of_lt (Nat.lt_of_lt_of_le E_nd148.lt (Nat.le_of_eq g177.symm))
      have ge_par : h0.size ≤ par := Nat.le_trans K.le (Nat.le_of_eq g177.symm)
      obtain ⟨T, h, X, e0, E177, A177, D177, -, st⟩ := newO X hx hZ hown (oW hw 7 rfl) (oW hw 8 rfl) (oW hw 9 rfl) e0 (g := (mkF m 166 #[iv p0, iv p1, iv p2, rv c0, rv c1, rv c2, rv c3, rv u0, rv u1, iv 4, iv 2, iv ix, rv ord, rv uno, uu, uu] [])) rfl (hb hby at_166) (by decide) (by decide)
      rw [← g177] at A177 D177 st
      refine oWk.st st ?_
      have K := K.ext E177
      have B := B.ext E177
      have E_par := A177
      have F_kind_par : Fld Z h par Y4 "kind" Y13 .null := D177 (Or.inr (oW hw 89 rfl)) (ty := (.object Y7)) (by decide)
      have F_name_par : Fld Z h par Y4 "name" Y14 .null := D177 (Or.inr (oW hw 91 rfl)) (ty := (.object Y9)) (by decide)
      have F_ordered_par : Fld Z h par Y4 "ordered" Y5 .null := D177 (Or.inr (oW hw 93 rfl)) (ty := (.object Y3)) (by decide)
      have F_unordered_par : Fld Z h par Y4 "unordered" Y5 .null := D177 (Or.inr (oW hw 95 rfl)) (ty := (.object Y3)) (by decide)
      refine oWk.st (fun _ kt => zD X hx hby at_169 rfl rfl rfl kt) ?_
      have Oh := K.old O0 all0
      obtain ⟨T, X, e0, st⟩ := getS2 X hx hZ hown (host := "") (Or.inl (oW hw 98 rfl)) Via.refl e0 (S_JOIN.ext Oh) (g := (mkF m 170 #[iv p0, iv p1, iv p2, rv c0, rv c1, rv c2, rv c3, rv u0, rv u1, iv 4, iv 2, iv ix, rv ord, rv uno, uu, uu] [(.ref par), (.ref par)])) rfl (hb hby at_170)
      refine oWk.st st ?_
      obtain ⟨lit, T, h, X, e2, E178, hZ, hown, B, C, st⟩ := oLdcO X hx hZ hown (oW hw 10 rfl) (oSA hw) e0 (oELw hw) B (g := (mkF m 173 #[iv p0, iv p1, iv p2, rv c0, rv c1, rv c2, rv c3, rv u0, rv u1, iv 4, iv 2, iv ix, rv ord, rv uno, uu, uu] [(.ref kJOIN), (.ref par), (.ref par)])) rfl (hb hby at_173) (n := 0) (by decide) (by decide) (by decide) (by decide)
      have e0 := e2
      refine oWk.st st ?_
      have K := K.ext E178
      refine oWk.st (fun _ kt => zB X hx hby at_175 rfl rfl rfl (zB X hx hby at_177 rfl rfl rfl kt)) ?_
      have E_par := (E_par.ext E178)
      have F_kind_par := (F_kind_par.ext E178)
      have F_name_par := (F_name_par.ext E178)
      have F_ordered_par := (F_ordered_par.ext E178)
      have F_unordered_par := (F_unordered_par.ext E178)
      have E_ord := ((E_ord.ext E177).ext E178)
      have F_elementData_ord := ((((((F_elementData_ord.ext E144).keep K145.1 (ninS ne_ord_uno nin0)).keep K173.1 (ninS ne_ord_uno nin0)).keep K175.1 (ninS ne_ord_uno (ninS ne_ord_nd148 nin0))).ext E177).ext E178)
      have F_size_ord := ((((((F_size_ord.ext E144).keep K145.1 (ninS ne_ord_uno nin0)).keep K173.1 (ninS ne_ord_uno nin0)).keep K175.1 (ninS ne_ord_uno (ninS ne_ord_nd148 nin0))).ext E177).ext E178)
      have E_nd83 := ((E_nd83.ext E177).ext E178)
      have V_nd83 := ((((((V_nd83.ext E144).keep K145.1 (ninS ne_nd83_uno nin0)).keep K173.1 (ninS ne_nd83_uno nin0)).keep K175.1 (ninS ne_nd83_uno (ninS ne_nd83_nd148 nin0))).ext E177).ext E178)
      have E_c0 := ((E_c0.ext E177).ext E178)
      have E_c1 := ((E_c1.ext E177).ext E178)
      have E_c2 := ((E_c2.ext E177).ext E178)
      have E_c3 := ((E_c3.ext E177).ext E178)
      have E_uno := ((E_uno.ext E177).ext E178)
      have F_elementData_uno := ((F_elementData_uno.ext E177).ext E178)
      have F_size_uno := ((F_size_uno.ext E177).ext E178)
      have E_nd148 := ((E_nd148.ext E177).ext E178)
      have V_nd148 := ((V_nd148.ext E177).ext E178)
      have E_u0 := ((E_u0.ext E177).ext E178)
      have E_u1 := ((E_u1.ext E177).ext E178)
      have Oh := K.old O0 all0
      obtain ⟨_, _, ⟨T, L180, k180, n180⟩, -, X, hS, hgr, ⟨Lc180, hQ, l180, y180, z180, C⟩, st⟩ := X.specialBackS hx (y := yy7) rfl hown (mvT hZ (oW hw 44 rfl)) (mvT hZ (oW hw 45 rfl)) (mvT hZ (oW hw 46 rfl)) (by decide) (oBackH (W := 1) (rNI_4_2 l Z a0 hw [] par kJOIN lit .null .null .null .null ord nd83 nk83 c0 c1 c2 c3 uno nd148 nk148 u0 u1 xmr h Oh mm_ (Nat.le_trans O0.1 ge_par) E_par F_kind_par F_name_par F_ordered_par F_unordered_par E_ord F_elementData_ord F_size_ord E_nd83 V_nd83 (Ins.of_exa E_c0 (oW hw 129 rfl)) (Ins.of_exa E_c1 (oW hw 129 rfl)) (Ins.of_exa E_c2 (oW hw 129 rfl)) (Ins.of_exa E_c3 (oW hw 129 rfl)) E_uno F_elementData_uno F_size_uno E_nd148 V_nd148 (Ins.of_exa E_u0 (oW hw 129 rfl)) (Ins.of_exa E_u1 (oW hw 129 rfl))) hZ (oW hw 46 rfl) (oW hw 9 rfl) (by decide) (by decide) (oELw hw) B.2.1 (allS ⟨E_par.lt, oSf⟩ all0)) (g := (mkF m 179 #[iv p0, iv p1, iv p2, rv c0, rv c1, rv c2, rv c3, rv u0, rv u1, iv 4, iv 2, iv ix, rv ord, rv uno, uu, uu] [(.ref uno), (.ref ord), (.ref lit), (.ref kJOIN), (.ref par), (.ref par)])) rfl (by rw [hml]; rfl) (Steps.refl _) (a := par) (argsL := [(.ref kJOIN), (.ref lit), (.ref ord), (.ref uno)]) (rest := [(.ref par)]) (lenOf pd_5 rfl) rfl (Nat.le_of_eq rfl) (hb hby at_179) (fun _ _ => ⟨rfl, e0, (by decide : 61 + 9 ≤ _), (by decide : 358 + 54 ≤ _)⟩)
      dsimp only [Pt.U, Pt.locs, Pt.cells, Pt.slots] at X l180 y180 z180 st hQ C hS hgr
      subst l180 y180 z180
      have X : Stand p l e _ (s.setVm T.vm) m _ below meth c T _ _ _ := X
      obtain ⟨h, e2⟩ : ∃ z, T.heap = z := ⟨_, rfl⟩
      have B := B.call e0 hS hgr C e2
      obtain ⟨hZ, hown⟩ := oWide hZ hown hS
      rw [e2] at hQ C
      have e0 := e2
      obtain ⟨nl, ng, nj, rfl, K179, E_par, F_ordered_par, E_nl, F_elements_nl, V_ng⟩ := hQ
      have K := K.call K179 (allS (Or.inr ge_par) all0)
      refine oWk.tr st ?_
      refine oWk.st (fun _ kt => zT X hx hby at_182 rfl rfl rfl (l' := #[iv p0, iv p1, iv p2, rv c0, rv c1, rv c2, rv c3, rv u0, rv u1, iv 4, iv 2, iv ix, rv ord, rv uno, rv par, uu]) rfl kt) ?_
      show oWk _ _ _ _ T (mkF m 184 #[iv p0, iv p1, iv p2, rv c0, rv c1, rv c2, rv c3, rv u0, rv u1, iv 4, iv 2, iv ix, rv ord, rv uno, rv par, uu] [])
      have ci := oRem4 hix
      rcases ci with rfl | rfl | rfl | rfl
      · show oWk _ _ _ _ T (mkF m 184 #[iv p0, iv p1, iv p2, rv c0, rv c1, rv c2, rv c3, rv u0, rv u1, iv 4, iv 2, iv 0, rv ord, rv uno, rv par, uu] [])
        refine oWk.st (fun _ kt => zJ X hx hby at_184 rfl rfl (zH X hx hby at_186 rfl rfl ((if0 _ _).trans (teq (by decide)).2) (zA X hx hby at_189 rfl rfl rfl (zT X hx hby at_190 rfl rfl rfl (l' := #[iv p0, iv p1, iv p2, rv c0, rv c1, rv c2, rv c3, rv u0, rv u1, iv 4, iv 2, iv 0, rv ord, rv uno, rv par, rv c0]) rfl (zG X hx hby at_192 rfl (pc' := 225) rfl (zB X hx hby at_225 rfl rfl rfl (zJ X hx hby at_227 rfl rfl kt))))))) ?_
        have E_c0 := (E_c0.keep K179.1)
        have Oh := K.old O0 all0
        obtain ⟨T, L182, X, e0, K, st⟩ := (cs22 hw).pure X hx hZ hown e0 K (A := [(.ref par), (.int (0 : Int32))]) ⟨rfl, _, _, rfl, E_par⟩ (rNd_4_0 l Z a0 hw [] par nl c0 c1 c2 c3 ng nj h Oh F_ordered_par E_nl F_elements_nl V_ng E_c0) (fun _ _ _ q => q) (W := 0) (by decide) hml (Ls := #[iv p0, iv p1, iv p2, rv c0, rv c1, rv c2, rv c3, rv u0, rv u1, iv 4, iv 2, iv 0, rv ord, rv uno, rv par, rv c0]) rfl (rest := []) rfl rfl hby at_229
        refine oWk.st st ?_
        refine oWk.st (fun _ kt => zB X hx hby at_232 rfl rfl rfl kt) ?_
        refine oWk.st (fun _ kt => Jvm.RoadKit.acmp (g := (mkF m 234 #[iv p0, iv p1, iv p2, rv c0, rv c1, rv c2, rv c3, rv u0, rv u1, iv 4, iv 2, iv 0, rv ord, rv uno, rv par, rv c0] [(.ref c0), (.ref c0)])) X hx rfl rfl rfl (pc0 := 234) (pc' := 237) (same := true) rfl (hb hby at_234) rfl (decide_eq_true rfl) (by decide) (by decide) kt) ?_
        show oWk _ _ _ _ T (mkF m 237 #[iv p0, iv p1, iv p2, rv c0, rv c1, rv c2, rv c3, rv u0, rv u1, iv 4, iv 2, iv 0, rv ord, rv uno, rv par, rv c0] [])
        refine oWk.st (fun _ kt => zK X hx hby at_237 rfl (zG X hx hby at_238 rfl (pc' := 242) rfl kt)) ?_
        show oWk _ _ _ _ T (mkF m 242 #[iv p0, iv p1, iv p2, rv c0, rv c1, rv c2, rv c3, rv u0, rv u1, iv 4, iv 2, iv 0, rv ord, rv uno, rv par, rv c0] [(.int 1)])
        exact oRetH X hx hlk hZ (oELw hw) e0 B hret (oNar01 (Or.inr rfl)) (Or.inl ⟨rfl, Or.inr (Or.inl rfl), _, rfl⟩) (hb hby at_242) (by rw [e0]; exact ⟨rfl, K.fr⟩) (by decide) (by decide)
      · show oWk _ _ _ _ T (mkF m 184 #[iv p0, iv p1, iv p2, rv c0, rv c1, rv c2, rv c3, rv u0, rv u1, iv 4, iv 2, iv 1, rv ord, rv uno, rv par, uu] [])
        refine oWk.st (fun _ kt => zJ X hx hby at_184 rfl rfl (zF X hx hby at_186 rfl rfl ((if0 _ _).trans (feq (by decide)).2) (pc' := 195) rfl (zJ X hx hby at_195 rfl rfl (zK X hx hby at_197 rfl (zN X hx hby at_198 rfl rfl (teq (by decide)).2 (zB X hx hby at_201 rfl rfl rfl (zT X hx hby at_203 rfl rfl rfl (l' := #[iv p0, iv p1, iv p2, rv c0, rv c1, rv c2, rv c3, rv u0, rv u1, iv 4, iv 2, iv 1, rv ord, rv uno, rv par, rv c1]) rfl (zG X hx hby at_205 rfl (pc' := 225) rfl kt)))))))) ?_
        show oWk _ _ _ _ T (mkF m 225 #[iv p0, iv p1, iv p2, rv c0, rv c1, rv c2, rv c3, rv u0, rv u1, iv 4, iv 2, iv 1, rv ord, rv uno, rv par, rv c1] [])
        refine oWk.st (fun _ kt => zB X hx hby at_225 rfl rfl rfl (zJ X hx hby at_227 rfl rfl kt)) ?_
        have E_c1 := (E_c1.keep K179.1)
        have Oh := K.old O0 all0
        obtain ⟨T, L184, X, e0, K, st⟩ := (cs22 hw).pure X hx hZ hown e0 K (A := [(.ref par), (.int (1 : Int32))]) ⟨rfl, _, _, rfl, E_par⟩ (rNd_4_1 l Z a0 hw [] par nl c0 c1 c2 c3 ng nj h Oh F_ordered_par E_nl F_elements_nl V_ng E_c1) (fun _ _ _ q => q) (W := 0) (by decide) hml (Ls := #[iv p0, iv p1, iv p2, rv c0, rv c1, rv c2, rv c3, rv u0, rv u1, iv 4, iv 2, iv 1, rv ord, rv uno, rv par, rv c1]) rfl (rest := []) rfl rfl hby at_229
        refine oWk.st st ?_
        refine oWk.st (fun _ kt => zB X hx hby at_232 rfl rfl rfl kt) ?_
        refine oWk.st (fun _ kt => Jvm.RoadKit.acmp (g := (mkF m 234 #[iv p0, iv p1, iv p2, rv c0, rv c1, rv c2, rv c3, rv u0, rv u1, iv 4, iv 2, iv 1, rv ord, rv uno, rv par, rv c1] [(.ref c1), (.ref c1)])) X hx rfl rfl rfl (pc0 := 234) (pc' := 237) (same := true) rfl (hb hby at_234) rfl (decide_eq_true rfl) (by decide) (by decide) kt) ?_
        show oWk _ _ _ _ T (mkF m 237 #[iv p0, iv p1, iv p2, rv c0, rv c1, rv c2, rv c3, rv u0, rv u1, iv 4, iv 2, iv 1, rv ord, rv uno, rv par, rv c1] [])
        refine oWk.st (fun _ kt => zK X hx hby at_237 rfl (zG X hx hby at_238 rfl (pc' := 242) rfl kt)) ?_
        show oWk _ _ _ _ T (mkF m 242 #[iv p0, iv p1, iv p2, rv c0, rv c1, rv c2, rv c3, rv u0, rv u1, iv 4, iv 2, iv 1, rv ord, rv uno, rv par, rv c1] [(.int 1)])
        exact oRetH X hx hlk hZ (oELw hw) e0 B hret (oNar01 (Or.inr rfl)) (Or.inl ⟨rfl, Or.inr (Or.inl rfl), _, rfl⟩) (hb hby at_242) (by rw [e0]; exact ⟨rfl, K.fr⟩) (by decide) (by decide)
      · show oWk _ _ _ _ T (mkF m 184 #[iv p0, iv p1, iv p2, rv c0, rv c1, rv c2, rv c3, rv u0, rv u1, iv 4, iv 2, iv 2, rv ord, rv uno, rv par, uu] [])
        refine oWk.st (fun _ kt => zJ X hx hby at_184 rfl rfl (zF X hx hby at_186 rfl rfl ((if0 _ _).trans (feq (by decide)).2) (pc' := 195) rfl (zJ X hx hby at_195 rfl rfl (zK X hx hby at_197 rfl (zY X hx hby at_198 rfl rfl (feq (by decide)).2 (pc' := 208) rfl (zJ X hx hby at_208 rfl rfl (zK X hx hby at_210 rfl (zN X hx hby at_211 rfl rfl (teq (by decide)).2 kt)))))))) ?_
        show oWk _ _ _ _ T (mkF m 214 #[iv p0, iv p1, iv p2, rv c0, rv c1, rv c2, rv c3, rv u0, rv u1, iv 4, iv 2, iv 2, rv ord, rv uno, rv par, uu] [])
        refine oWk.st (fun _ kt => zB X hx hby at_214 rfl rfl rfl (zT X hx hby at_216 rfl rfl rfl (l' := #[iv p0, iv p1, iv p2, rv c0, rv c1, rv c2, rv c3, rv u0, rv u1, iv 4, iv 2, iv 2, rv ord, rv uno, rv par, rv c2]) rfl (zG X hx hby at_218 rfl (pc' := 225) rfl (zB X hx hby at_225 rfl rfl rfl (zJ X hx hby at_227 rfl rfl kt))))) ?_
        have E_c2 := (E_c2.keep K179.1)
        have Oh := K.old O0 all0
        obtain ⟨T, L186, X, e0, K, st⟩ := (cs22 hw).pure X hx hZ hown e0 K (A := [(.ref par), (.int (2 : Int32))]) ⟨rfl, _, _, rfl, E_par⟩ (rNd_4_2 l Z a0 hw [] par nl c0 c1 c2 c3 ng nj h Oh F_ordered_par E_nl F_elements_nl V_ng E_c2) (fun _ _ _ q => q) (W := 0) (by decide) hml (Ls := #[iv p0, iv p1, iv p2, rv c0, rv c1, rv c2, rv c3, rv u0, rv u1, iv 4, iv 2, iv 2, rv ord, rv uno, rv par, rv c2]) rfl (rest := []) rfl rfl hby at_229
        refine oWk.st st ?_
        refine oWk.st (fun _ kt => zB X hx hby at_232 rfl rfl rfl kt) ?_
        refine oWk.st (fun _ kt => Jvm.RoadKit.acmp (g := (mkF m 234 #[iv p0, iv p1, iv p2, rv c0, rv c1, rv c2, rv c3, rv u0, rv u1, iv 4, iv 2, iv 2, rv ord, rv uno, rv par, rv c2] [(.ref c2), (.ref c2)])) X hx rfl rfl rfl (pc0 := 234) (pc' := 237) (same := true) rfl (hb hby at_234) rfl (decide_eq_true rfl) (by decide) (by decide) kt) ?_
        show oWk _ _ _ _ T (mkF m 237 #[iv p0, iv p1, iv p2, rv c0, rv c1, rv c2, rv c3, rv u0, rv u1, iv 4, iv 2, iv 2, rv ord, rv uno, rv par, rv c2] [])
        refine oWk.st (fun _ kt => zK X hx hby at_237 rfl (zG X hx hby at_238 rfl (pc' := 242) rfl kt)) ?_
        show oWk _ _ _ _ T (mkF m 242 #[iv p0, iv p1, iv p2, rv c0, rv c1, rv c2, rv c3, rv u0, rv u1, iv 4, iv 2, iv 2, rv ord, rv uno, rv par, rv c2] [(.int 1)])
        exact oRetH X hx hlk hZ (oELw hw) e0 B hret (oNar01 (Or.inr rfl)) (Or.inl ⟨rfl, Or.inr (Or.inl rfl), _, rfl⟩) (hb hby at_242) (by rw [e0]; exact ⟨rfl, K.fr⟩) (by decide) (by decide)
      · show oWk _ _ _ _ T (mkF m 184 #[iv p0, iv p1, iv p2, rv c0, rv c1, rv c2, rv c3, rv u0, rv u1, iv 4, iv 2, iv 3, rv ord, rv uno, rv par, uu] [])
        refine oWk.st (fun _ kt => zJ X hx hby at_184 rfl rfl (zF X hx hby at_186 rfl rfl ((if0 _ _).trans (feq (by decide)).2) (pc' := 195) rfl (zJ X hx hby at_195 rfl rfl (zK X hx hby at_197 rfl (zY X hx hby at_198 rfl rfl (feq (by decide)).2 (pc' := 208) rfl (zJ X hx hby at_208 rfl rfl (zK X hx hby at_210 rfl (zY X hx hby at_211 rfl rfl (feq (by decide)).2 (pc' := 221) rfl kt)))))))) ?_
        show oWk _ _ _ _ T (mkF m 221 #[iv p0, iv p1, iv p2, rv c0, rv c1, rv c2, rv c3, rv u0, rv u1, iv 4, iv 2, iv 3, rv ord, rv uno, rv par, uu] [])
        refine oWk.st (fun _ kt => zB X hx hby at_221 rfl rfl rfl (zT X hx hby at_223 rfl rfl rfl (l' := #[iv p0, iv p1, iv p2, rv c0, rv c1, rv c2, rv c3, rv u0, rv u1, iv 4, iv 2, iv 3, rv ord, rv uno, rv par, rv c3]) rfl (zB X hx hby at_225 rfl rfl rfl (zJ X hx hby at_227 rfl rfl kt)))) ?_
        have E_c3 := (E_c3.keep K179.1)
        have Oh := K.old O0 all0
        obtain ⟨T, L188, X, e0, K, st⟩ := (cs22 hw).pure X hx hZ hown e0 K (A := [(.ref par), (.int (3 : Int32))]) ⟨rfl, _, _, rfl, E_par⟩ (rNd_4_3 l Z a0 hw [] par nl c0 c1 c2 c3 ng nj h Oh F_ordered_par E_nl F_elements_nl V_ng E_c3) (fun _ _ _ q => q) (W := 0) (by decide) hml (Ls := #[iv p0, iv p1, iv p2, rv c0, rv c1, rv c2, rv c3, rv u0, rv u1, iv 4, iv 2, iv 3, rv ord, rv uno, rv par, rv c3]) rfl (rest := []) rfl rfl hby at_229
        refine oWk.st st ?_
        refine oWk.st (fun _ kt => zB X hx hby at_232 rfl rfl rfl kt) ?_
        refine oWk.st (fun _ kt => Jvm.RoadKit.acmp (g := (mkF m 234 #[iv p0, iv p1, iv p2, rv c0, rv c1, rv c2, rv c3, rv u0, rv u1, iv 4, iv 2, iv 3, rv ord, rv uno, rv par, rv c3] [(.ref c3), (.ref c3)])) X hx rfl rfl rfl (pc0 := 234) (pc' := 237) (same := true) rfl (hb hby at_234) rfl (decide_eq_true rfl) (by decide) (by decide) kt) ?_
        show oWk _ _ _ _ T (mkF m 237 #[iv p0, iv p1, iv p2, rv c0, rv c1, rv c2, rv c3, rv u0, rv u1, iv 4, iv 2, iv 3, rv ord, rv uno, rv par, rv c3] [])
        refine oWk.st (fun _ kt => zK X hx hby at_237 rfl (zG X hx hby at_238 rfl (pc' := 242) rfl kt)) ?_
        show oWk _ _ _ _ T (mkF m 242 #[iv p0, iv p1, iv p2, rv c0, rv c1, rv c2, rv c3, rv u0, rv u1, iv 4, iv 2, iv 3, rv ord, rv uno, rv par, rv c3] [(.int 1)])
        exact oRetH X hx hlk hZ (oELw hw) e0 B hret (oNar01 (Or.inr rfl)) (Or.inl ⟨rfl, Or.inr (Or.inl rfl), _, rfl⟩) (hb hby at_242) (by rw [e0]; exact ⟨rfl, K.fr⟩) (by decide) (by decide)
theorem comes_1 {Post : Tables → Env → Array Value → State → Outcome → State → Prop} (hpost : ∀ tb e args s v u, (limb_1_1.after args s (.returned v) u = true ∧ limb_1_2.after args s (.returned v) u = true ∧ True) → ReturnedEndW s (.returned v) u (Jvm.fieldLocs frame_1_writes args s ++ Jvm.arrayLocs frame_1_arrays args s ++ Jvm.staticLocs frame_1_statics s) 72 3392 → Post tb e args s (.returned v) u) :
    ArmFor flags0 classFile x code maxLocals ret World_1 tables_1 room_1 Calls_1 rest_1 Pre_1 Post := by
  intro l hfl _ _ p e ha hc hk s m args below hf hA hF happ hP
  obtain ⟨hcalls, hrest, hpre⟩ := hP
  obtain ⟨-, -, -, hnamed, -, -, -, hat⟩ := (Spec.applies_iff hf).mp happ
  obtain ⟨hg, hn⟩ := and_e (Cond.before_iff.mp (show (Jvm.Cond.and given_1 narrow_1).before args s = true from hpre))
  obtain ⟨n1, n2⟩ := and_e hg
  obtain ⟨n3, n4⟩ := and_e n2
  obtain ⟨n5, n6⟩ := and_e n4
  obtain ⟨w0, w1, w2, rfl⟩ : ∃ w0 w1 w2 : Value, args = #[w0, w1, w2] := by
    have hs : args.size = 3 := by simpa [Cond.value, given_1] using n1
    obtain ⟨L⟩ := args
    match L, hs with
    | [w0, w1, w2], _ => exact ⟨w0, w1, w2, rfl⟩
  have hw := fun d (hd : d ∈ tables_1) => atoms_spec (ws := Jvm.Cond.code x code maxLocals ret :: tables_1) hat d (List.mem_cons_of_mem _ hd)
  have hfit : Fit s := fun {y c} hc i hi => by
    obtain ⟨ha, rfl⟩ := Array.getElem?_eq_some_iff.mp hc
    have q := List.all_eq_true.mp ((Array.all_eq_true_iff_forall_mem.mp hF) _ (Array.getElem_mem ha)) i (List.mem_range.mpr hi)
    simpa [Array.getElem?_eq_getElem hi] using q
  obtain ⟨hsets, hown0⟩ := atoms_of _ (rest_1_c_eq ▸ (show rest_1_c.before _ s = true from hrest))
  have hr0 := Cond.before_iff.mp hown0
  obtain ⟨i0, ei0⟩ := is_v n3
  obtain rfl : w0 = (.int i0) := Option.some.inj ei0
  obtain ⟨i1, ei1⟩ := is_v n5
  obtain rfl : w1 = (.int i1) := Option.some.inj ei1
  obtain ⟨i2, ei2⟩ := is_v n6
  obtain rfl : w2 = (.int i2) := Option.some.inj ei2
  obtain ⟨n7, n8⟩ := and_e hn
  obtain ⟨n9, n10⟩ := and_e n8
  obtain ⟨m_TRIPLE_11, v_m_TRIPLE_11⟩ := exa_v n7
  have E_m_TRIPLE_11 := Exa.start v_m_TRIPLE_11 n7
  have S_m_TRIPLE_11 := Sta.start v_m_TRIPLE_11 (Or.inr ⟨(oW hw 1 rfl), (oW hw 2 rfl)⟩)
  obtain ⟨m_PATH_12, v_m_PATH_12⟩ := exa_v n9
  have E_m_PATH_12 := Exa.start v_m_PATH_12 n9
  have S_m_PATH_12 := Sta.start v_m_PATH_12 (Or.inr ⟨(oW hw 1 rfl), (oW hw 97 rfl)⟩)
  obtain ⟨m_JOIN_13, v_m_JOIN_13⟩ := exa_v n10
  have E_m_JOIN_13 := Exa.start v_m_JOIN_13 n10
  have S_m_JOIN_13 := Sta.start v_m_JOIN_13 (Or.inr ⟨(oW hw 1 rfl), (oW hw 99 rfl)⟩)
  obtain ⟨xd, vd⟩ := exa_v (Cond.before_iff.mp (hsets _ (List.mem_of_getElem? (i := 7) rfl)))
  have S_D := Sta.start vd (Or.inr ⟨(oW hw 20 rfl), (hsets _ (List.mem_of_getElem? (i := 2) rfl))⟩)
  obtain ⟨xk, V_D⟩ := oArr0 (dv := .null) hfit vd (Cond.before_iff.mp (hsets _ (List.mem_of_getElem? (i := 6) rfl))) (Cond.before_iff.mp (hsets _ (List.mem_of_getElem? (i := 8) rfl)))
  obtain ⟨xl, vl⟩ := exa_v (Cond.before_iff.mp (hsets _ (List.mem_of_getElem? (i := 11) rfl)))
  have S_L := Sta.start vl (Or.inl (hsets _ (List.mem_of_getElem? (i := 10) rfl)))
  obtain ⟨xq, vq⟩ := exa_v (Cond.before_iff.mp (hsets _ (List.mem_of_getElem? (i := 18) rfl)))
  have S_Q := Sta.start vq (Or.inl (hsets _ (List.mem_of_getElem? (i := 17) rfl)))
  have E_Q := Exa.start vq (Cond.before_iff.mp (hsets _ (List.mem_of_getElem? (i := 18) rfl)))
  obtain ⟨mc, mk, xmr, mr1, mr2, mr3, -⟩ := hcalls.1
  obtain ⟨n, o, h1, h2, h3, _, L, rfl, ⟨rfl, N⟩, -, hq⟩ := rLaw l s _ hw tables_1 i0 i1 i2 m_TRIPLE_11 m_PATH_12 m_JOIN_13 xd xk xl xq xmr s.heap (oExtRefl _) S_m_TRIPLE_11 S_m_PATH_12 S_m_JOIN_13 S_D V_D S_L S_Q E_Q ⟨mc, mk, mr1, mr2, mr3⟩ p e ha hc hk s m _ below hf ((Spec.applies_iff_loose hf).mp happ).1 ⟨rfl, State.Warmed39.refl s, rfl, (fun _ q => nomatch q), (fun _ q => nomatch q)⟩ trivial
  refine ⟨n, _, h1, h2, h3, hpost _ _ _ _ _ _ ⟨Cond.after_iff.mpr rfl, Cond.after_iff.mpr (eq_i res_at (Term.int_eval (1)) rfl), trivial⟩ ⟨hq.1, hq.2.1, hq.2.2.1, (hq.2.2.2.sift fun y hy => Or.inr (N y hy)).mono (by decide) (by decide)⟩⟩
theorem main_1_1 : Claimed_1_1 := comes_1 fun _ _ _ _ _ _ h hF => ⟨h.1, hF⟩
theorem main_1_2 : Claimed_1_2 := comes_1 fun _ _ _ _ _ _ h hF => ⟨h.2.1, hF⟩
end Jvm.Pilot.@@N@@
namespace Jvm.Pilot.@@N@@
open Jvm Jvm.ClassFile Sem Op Lib Jvm.Free Jvm.Stand Jvm.Pilot.@@N@@.Jvm.D
/-! MADE BY PROGRAM (witnessworld.py) out of the Statement's table words and the real class files: 37 classes; the members and pool entries that the words name. The judged class is class 1, her method 2. -/
namespace start1
open Jvm.ClassFile
def u (s : String) : CpInfo := .utf8 (stringToUtf16 s)
/-- a pool by its gaps: so many unusable entries, then the entry; so many at the end -/
def gap : Nat → List CpInfo → List CpInfo
  | 0, r => r
  | n + 1, r => .unusable :: gap n r
def poolList (es : List (Nat × CpInfo)) (last : Nat) : List CpInfo := es.foldr (fun e r => gap e.1 (e.2 :: r)) (gap last [])
def pool (es : List (Nat × CpInfo)) (last : Nat) : Array CpInfo := ⟨poolList es last⟩
def fileOf (pool : Array CpInfo) (this : Nat) (attrs : Array Attribute := #[]) (ms : Array MethodInfo := #[]) (fl : Nat := 33) (sup : Nat := 0) (ifs : Array Nat := #[]) (fds : Array FieldInfo := #[]) : ClassFile where
  minorVersion := 0
  majorVersion := 65
  constantPool := pool
  accessFlags := fl
  thisClass := this
  superClass := sup
  interfaces := ifs
  fields := fds
  methods := ms
  attributes := attrs
def plain (name : String) (sup : Option ClassId) : Class where
  name := name
  kind := .ordinary
  loader := none
  accessFlags := 33
  super := sup
  interfaces := #[]
  cf := none
  fields := #[]
  methods := #[]
  instanceTypes := #[]
  staticTypes := #[]
  resolved := #[]
  callSites := []
  init := .initialized
  statics := none
  mirror := none

def pool0 : Array CpInfo := pool [(5, u "<init>"), (0, u "()V"), (1, .class_ 10), (1, u "java/lang/Object"), (0, u "getClass"), (0, u "()Ljava/lang/Class;")] 111

def k0c0 : Code := { maxStack := 0, maxLocals := 1, code := object_method_1_code, exceptionTable := #[], attributes := #[] }
def k0m0 : Method := { name := "<init>", desc := "()V", sig := { parameters := [], returnType := none }, accessFlags := 1, code := some k0c0 }
def k0m1 : Method := { name := "getClass", desc := "()Ljava/lang/Class;", sig := { parameters := [], returnType := some (.object "java/lang/Class") }, accessFlags := 273, code := none }
/-- java/lang/Object -/
def k0 : Class := { plain "java/lang/Object" none with
  accessFlags := 33
  interfaces := #[]
  cf := some (fileOf pool0 8 #[] #[{ accessFlags := 1, nameIndex := 5, descriptorIndex := 6, attributes := #[] }, { accessFlags := 273, nameIndex := 11, descriptorIndex := 12, attributes := #[] }] 33 0 #[] #[])
  fields := #[]
  methods := #[k0m0, k0m1]
  instanceTypes := #[]
  staticTypes := #[]
  resolved := Array.replicate 124 none
  statics := none }

def pool1 : Array CpInfo := pool [(2, .class_ 4), (0, .nameAndType 5 6), (0, u "java/lang/Object"), (0, u "<init>"), (0, u "()V"), (0, .class_ 8), (0, u "com/example/congruent/congruent/core/Tree$Node"), (0, .string 10), (0, u ""), (0, .class_ 12), (0, u "java/util/ArrayList"), (0, .methodref 11 3), (0, .methodref 7 15), (0, .nameAndType 5 16), (0, u "(Lcom/example/congruent/congruent/core/Tree$Kind;Ljava/lang/String;Ljava/util/List;Ljava/util/List;)V"), (0, .fieldref 18 19), (0, .class_ 20), (0, .nameAndType 21 22), (0, u "com/example/congruent/congruent/core/Tree$Kind"), (0, u "TRIPLE"), (0, u "Lcom/example/congruent/congruent/core/Tree$Kind;"), (0, .methodref 24 25), (0, .class_ 26), (0, .nameAndType 27 28), (0, u "com/example/congruent/congruent/core/TreeNodePinLaw"), (0, u "child"), (0, u "(Lcom/example/congruent/congruent/core/Tree$Kind;)Lcom/example/congruent/congruent/core/Tree$Node;"), (0, .fieldref 18 30), (0, .nameAndType 31 22), (0, u "PATH"), (0, .fieldref 18 33), (0, .nameAndType 34 22), (0, u "JOIN"), (0, .integer 2147483647), (0, .methodref 11 37), (0, .nameAndType 38 39), (0, u "add"), (0, u "(Ljava/lang/Object;)Z"), (0, .methodref 7 41), (0, .nameAndType 42 43), (0, u "node"), (0, u "(I)Lcom/example/congruent/congruent/core/Tree$Node;"), (2, u "law"), (0, u "(III)Z")] 8

def k1m0 : Method := { name := "<init>", desc := "()V", sig := { parameters := [], returnType := none }, accessFlags := 1, code := none }
def k1c1 : Code := { maxStack := 7, maxLocals := 1, code := method_2_code, exceptionTable := #[], attributes := #[] }
def k1m1 : Method := { name := "child", desc := "(Lcom/example/congruent/congruent/core/Tree$Kind;)Lcom/example/congruent/congruent/core/Tree$Node;", sig := { parameters := [(.object "com/example/congruent/congruent/core/Tree$Kind")], returnType := some (.object "com/example/congruent/congruent/core/Tree$Node") }, accessFlags := 10, code := some k1c1 }
def k1c2 : Code := { maxStack := 6, maxLocals := 16, code := code, exceptionTable := #[], attributes := #[] }
def k1m2 : Method := { name := "law", desc := "(III)Z", sig := { parameters := [.int, .int, .int], returnType := some .boolean }, accessFlags := 9, code := some k1c2 }
/-- com/example/congruent/congruent/core/TreeNodePinLaw -/
def k1 : Class := { plain "com/example/congruent/congruent/core/TreeNodePinLaw" (some 0) with
  accessFlags := 49
  interfaces := #[]
  cf := some (fileOf pool1 24 #[] #[{ accessFlags := 1, nameIndex := 5, descriptorIndex := 6, attributes := #[] }, { accessFlags := 10, nameIndex := 27, descriptorIndex := 28, attributes := #[] }, { accessFlags := 9, nameIndex := 46, descriptorIndex := 47, attributes := #[] }] 49 2 #[] #[])
  fields := #[]
  methods := #[k1m0, k1m1, k1m2]
  instanceTypes := #[]
  staticTypes := #[]
  resolved := Array.replicate 56 none
  statics := none }

def pool2 : Array CpInfo := pool [(1, .class_ 2), (0, u "java/lang/constant/Constable"), (0, .class_ 4), (0, u "java/lang/Object")] 6

/-- java/lang/constant/Constable -/
def k2 : Class := { plain "java/lang/constant/Constable" (some 0) with
  accessFlags := 1537
  interfaces := #[]
  cf := some (fileOf pool2 1 #[] #[] 1537 3 #[] #[])
  fields := #[]
  methods := #[]
  instanceTypes := #[]
  staticTypes := #[]
  resolved := Array.replicate 11 none
  statics := none }

def pool3 : Array CpInfo := pool [(1, .class_ 2), (0, u "java/lang/Comparable"), (0, .class_ 4), (0, u "java/lang/Object")] 7

/-- java/lang/Comparable -/
def k3 : Class := { plain "java/lang/Comparable" (some 0) with
  accessFlags := 1537
  interfaces := #[]
  cf := some (fileOf pool3 1 #[] #[] 1537 3 #[] #[])
  fields := #[]
  methods := #[]
  instanceTypes := #[]
  staticTypes := #[]
  resolved := Array.replicate 12 none
  statics := none }

def pool4 : Array CpInfo := pool [(1, .class_ 2), (0, u "java/io/Serializable"), (0, .class_ 4), (0, u "java/lang/Object")] 2

/-- java/io/Serializable -/
def k4 : Class := { plain "java/io/Serializable" (some 0) with
  accessFlags := 1537
  interfaces := #[]
  cf := some (fileOf pool4 1 #[] #[] 1537 3 #[] #[])
  fields := #[]
  methods := #[]
  instanceTypes := #[]
  staticTypes := #[]
  resolved := Array.replicate 7 none
  statics := none }

def pool5 : Array CpInfo := pool [(2, .class_ 4), (1, u "java/lang/Enum"), (0, u "name"), (0, u "Ljava/lang/String;"), (2, u "ordinal"), (0, u "I"), (1, .class_ 14), (1, u "java/lang/Object"), (4, u "hash"), (86, .class_ 108), (1, u "java/lang/Enum$EnumDesc"), (2, .class_ 112), (0, u "java/lang/constant/Constable"), (0, .class_ 114), (0, u "java/lang/Comparable"), (0, .class_ 116), (0, u "java/io/Serializable")] 87

/-- java/lang/Enum -/
def k5 : Class := { plain "java/lang/Enum" (some 0) with
  accessFlags := 1057
  interfaces := #[2, 3, 4]
  cf := some (fileOf pool5 2 #[.nestMembers #[106]] #[] 1057 12 #[111, 113, 115] #[{ accessFlags := 18, nameIndex := 5, descriptorIndex := 6, attributes := #[] }, { accessFlags := 18, nameIndex := 9, descriptorIndex := 10, attributes := #[] }, { accessFlags := 2, nameIndex := 19, descriptorIndex := 10, attributes := #[] }])
  fields := #[{ name := "name", type := (.object "java/lang/String"), accessFlags := 18, slot := 0, constantValue := 0 }, { name := "ordinal", type := .int, accessFlags := 18, slot := 1, constantValue := 0 }, { name := "hash", type := .int, accessFlags := 2, slot := 2, constantValue := 0 }]
  methods := #[]
  instanceTypes := #[(.object "java/lang/String"), .int, .int]
  staticTypes := #[]
  resolved := Array.replicate 204 none
  statics := none }

def pool6 : Array CpInfo := pool [(1, .class_ 2), (0, u "com/example/congruent/congruent/core/Tree$Kind"), (2, u "QUERY"), (0, u "Lcom/example/congruent/congruent/core/Tree$Kind;"), (2, u "SELECT"), (2, u "ASK"), (2, u "CONSTRUCT"), (2, u "DESCRIBE"), (2, u "FROM"), (2, u "FROM_NAMED"), (2, u "ORDER"), (2, u "ASCENDING"), (2, u "DESCENDING"), (2, u "LIMIT"), (2, u "OFFSET"), (2, u "JOIN"), (2, u "UNION"), (2, u "TRIPLE"), (2, u "PATH"), (2, u "OPTIONAL"), (2, u "OPTIONALS"), (2, u "OPTIONAL_PART"), (2, u "MINUS"), (2, u "FILTER"), (2, u "BIND"), (2, u "GROUP"), (2, u "KEY"), (2, u "VALUES"), (2, u "ROW"), (2, u "CELL"), (2, u "GRAPH"), (2, u "SERVICE"), (2, u "LINK"), (2, u "INVERSE"), (2, u "SEQUENCE"), (2, u "ALTERNATIVE"), (2, u "ZERO_OR_MORE"), (2, u "ONE_OR_MORE"), (2, u "ZERO_OR_ONE"), (2, u "NEGATED"), (2, u "CALL"), (2, u "OPERATOR"), (2, u "FUNCTION"), (2, u "IN"), (2, u "NOT_IN"), (2, u "EXISTS"), (2, u "NOT_EXISTS"), (2, u "AGGREGATE"), (2, u "$VALUES"), (0, u "[Lcom/example/congruent/congruent/core/Tree$Kind;"), (6, .class_ 151), (1, u "java/lang/Enum"), (68, .class_ 221), (0, u "com/example/congruent/congruent/core/Tree")] 2

/-- com/example/congruent/congruent/core/Tree$Kind -/
def k6 : Class := { plain "com/example/congruent/congruent/core/Tree$Kind" (some 5) with
  accessFlags := 16433
  interfaces := #[]
  cf := some (fileOf pool6 1 #[.nestHost 220] #[] 16433 149 #[] #[{ accessFlags := 16409, nameIndex := 5, descriptorIndex := 6, attributes := #[] }, { accessFlags := 16409, nameIndex := 9, descriptorIndex := 6, attributes := #[] }, { accessFlags := 16409, nameIndex := 12, descriptorIndex := 6, attributes := #[] }, { accessFlags := 16409, nameIndex := 15, descriptorIndex := 6, attributes := #[] }, { accessFlags := 16409, nameIndex := 18, descriptorIndex := 6, attributes := #[] }, { accessFlags := 16409, nameIndex := 21, descriptorIndex := 6, attributes := #[] }, { accessFlags := 16409, nameIndex := 24, descriptorIndex := 6, attributes := #[] }, { accessFlags := 16409, nameIndex := 27, descriptorIndex := 6, attributes := #[] }, { accessFlags := 16409, nameIndex := 30, descriptorIndex := 6, attributes := #[] }, { accessFlags := 16409, nameIndex := 33, descriptorIndex := 6, attributes := #[] }, { accessFlags := 16409, nameIndex := 36, descriptorIndex := 6, attributes := #[] }, { accessFlags := 16409, nameIndex := 39, descriptorIndex := 6, attributes := #[] }, { accessFlags := 16409, nameIndex := 42, descriptorIndex := 6, attributes := #[] }, { accessFlags := 16409, nameIndex := 45, descriptorIndex := 6, attributes := #[] }, { accessFlags := 16409, nameIndex := 48, descriptorIndex := 6, attributes := #[] }, { accessFlags := 16409, nameIndex := 51, descriptorIndex := 6, attributes := #[] }, { accessFlags := 16409, nameIndex := 54, descriptorIndex := 6, attributes := #[] }, { accessFlags := 16409, nameIndex := 57, descriptorIndex := 6, attributes := #[] }, { accessFlags := 16409, nameIndex := 60, descriptorIndex := 6, attributes := #[] }, { accessFlags := 16409, nameIndex := 63, descriptorIndex := 6, attributes := #[] }, { accessFlags := 16409, nameIndex := 66, descriptorIndex := 6, attributes := #[] }, { accessFlags := 16409, nameIndex := 69, descriptorIndex := 6, attributes := #[] }, { accessFlags := 16409, nameIndex := 72, descriptorIndex := 6, attributes := #[] }, { accessFlags := 16409, nameIndex := 75, descriptorIndex := 6, attributes := #[] }, { accessFlags := 16409, nameIndex := 78, descriptorIndex := 6, attributes := #[] }, { accessFlags := 16409, nameIndex := 81, descriptorIndex := 6, attributes := #[] }, { accessFlags := 16409, nameIndex := 84, descriptorIndex := 6, attributes := #[] }, { accessFlags := 16409, nameIndex := 87, descriptorIndex := 6, attributes := #[] }, { accessFlags := 16409, nameIndex := 90, descriptorIndex := 6, attributes := #[] }, { accessFlags := 16409, nameIndex := 93, descriptorIndex := 6, attributes := #[] }, { accessFlags := 16409, nameIndex := 96, descriptorIndex := 6, attributes := #[] }, { accessFlags := 16409, nameIndex := 99, descriptorIndex := 6, attributes := #[] }, { accessFlags := 16409, nameIndex := 102, descriptorIndex := 6, attributes := #[] }, { accessFlags := 16409, nameIndex := 105, descriptorIndex := 6, attributes := #[] }, { accessFlags := 16409, nameIndex := 108, descriptorIndex := 6, attributes := #[] }, { accessFlags := 16409, nameIndex := 111, descriptorIndex := 6, attributes := #[] }, { accessFlags := 16409, nameIndex := 114, descriptorIndex := 6, attributes := #[] }, { accessFlags := 16409, nameIndex := 117, descriptorIndex := 6, attributes := #[] }, { accessFlags := 16409, nameIndex := 120, descriptorIndex := 6, attributes := #[] }, { accessFlags := 16409, nameIndex := 123, descriptorIndex := 6, attributes := #[] }, { accessFlags := 16409, nameIndex := 126, descriptorIndex := 6, attributes := #[] }, { accessFlags := 16409, nameIndex := 129, descriptorIndex := 6, attributes := #[] }, { accessFlags := 16409, nameIndex := 132, descriptorIndex := 6, attributes := #[] }, { accessFlags := 16409, nameIndex := 135, descriptorIndex := 6, attributes := #[] }, { accessFlags := 16409, nameIndex := 138, descriptorIndex := 6, attributes := #[] }, { accessFlags := 4122, nameIndex := 141, descriptorIndex := 142, attributes := #[] }])
  fields := #[{ name := "QUERY", type := (.object "com/example/congruent/congruent/core/Tree$Kind"), accessFlags := 16409, slot := 0, constantValue := 0 }, { name := "SELECT", type := (.object "com/example/congruent/congruent/core/Tree$Kind"), accessFlags := 16409, slot := 1, constantValue := 0 }, { name := "ASK", type := (.object "com/example/congruent/congruent/core/Tree$Kind"), accessFlags := 16409, slot := 2, constantValue := 0 }, { name := "CONSTRUCT", type := (.object "com/example/congruent/congruent/core/Tree$Kind"), accessFlags := 16409, slot := 3, constantValue := 0 }, { name := "DESCRIBE", type := (.object "com/example/congruent/congruent/core/Tree$Kind"), accessFlags := 16409, slot := 4, constantValue := 0 }, { name := "FROM", type := (.object "com/example/congruent/congruent/core/Tree$Kind"), accessFlags := 16409, slot := 5, constantValue := 0 }, { name := "FROM_NAMED", type := (.object "com/example/congruent/congruent/core/Tree$Kind"), accessFlags := 16409, slot := 6, constantValue := 0 }, { name := "ORDER", type := (.object "com/example/congruent/congruent/core/Tree$Kind"), accessFlags := 16409, slot := 7, constantValue := 0 }, { name := "ASCENDING", type := (.object "com/example/congruent/congruent/core/Tree$Kind"), accessFlags := 16409, slot := 8, constantValue := 0 }, { name := "DESCENDING", type := (.object "com/example/congruent/congruent/core/Tree$Kind"), accessFlags := 16409, slot := 9, constantValue := 0 }, { name := "LIMIT", type := (.object "com/example/congruent/congruent/core/Tree$Kind"), accessFlags := 16409, slot := 10, constantValue := 0 }, { name := "OFFSET", type := (.object "com/example/congruent/congruent/core/Tree$Kind"), accessFlags := 16409, slot := 11, constantValue := 0 }, { name := "JOIN", type := (.object "com/example/congruent/congruent/core/Tree$Kind"), accessFlags := 16409, slot := 12, constantValue := 0 }, { name := "UNION", type := (.object "com/example/congruent/congruent/core/Tree$Kind"), accessFlags := 16409, slot := 13, constantValue := 0 }, { name := "TRIPLE", type := (.object "com/example/congruent/congruent/core/Tree$Kind"), accessFlags := 16409, slot := 14, constantValue := 0 }, { name := "PATH", type := (.object "com/example/congruent/congruent/core/Tree$Kind"), accessFlags := 16409, slot := 15, constantValue := 0 }, { name := "OPTIONAL", type := (.object "com/example/congruent/congruent/core/Tree$Kind"), accessFlags := 16409, slot := 16, constantValue := 0 }, { name := "OPTIONALS", type := (.object "com/example/congruent/congruent/core/Tree$Kind"), accessFlags := 16409, slot := 17, constantValue := 0 }, { name := "OPTIONAL_PART", type := (.object "com/example/congruent/congruent/core/Tree$Kind"), accessFlags := 16409, slot := 18, constantValue := 0 }, { name := "MINUS", type := (.object "com/example/congruent/congruent/core/Tree$Kind"), accessFlags := 16409, slot := 19, constantValue := 0 }, { name := "FILTER", type := (.object "com/example/congruent/congruent/core/Tree$Kind"), accessFlags := 16409, slot := 20, constantValue := 0 }, { name := "BIND", type := (.object "com/example/congruent/congruent/core/Tree$Kind"), accessFlags := 16409, slot := 21, constantValue := 0 }, { name := "GROUP", type := (.object "com/example/congruent/congruent/core/Tree$Kind"), accessFlags := 16409, slot := 22, constantValue := 0 }, { name := "KEY", type := (.object "com/example/congruent/congruent/core/Tree$Kind"), accessFlags := 16409, slot := 23, constantValue := 0 }, { name := "VALUES", type := (.object "com/example/congruent/congruent/core/Tree$Kind"), accessFlags := 16409, slot := 24, constantValue := 0 }, { name := "ROW", type := (.object "com/example/congruent/congruent/core/Tree$Kind"), accessFlags := 16409, slot := 25, constantValue := 0 }, { name := "CELL", type := (.object "com/example/congruent/congruent/core/Tree$Kind"), accessFlags := 16409, slot := 26, constantValue := 0 }, { name := "GRAPH", type := (.object "com/example/congruent/congruent/core/Tree$Kind"), accessFlags := 16409, slot := 27, constantValue := 0 }, { name := "SERVICE", type := (.object "com/example/congruent/congruent/core/Tree$Kind"), accessFlags := 16409, slot := 28, constantValue := 0 }, { name := "LINK", type := (.object "com/example/congruent/congruent/core/Tree$Kind"), accessFlags := 16409, slot := 29, constantValue := 0 }, { name := "INVERSE", type := (.object "com/example/congruent/congruent/core/Tree$Kind"), accessFlags := 16409, slot := 30, constantValue := 0 }, { name := "SEQUENCE", type := (.object "com/example/congruent/congruent/core/Tree$Kind"), accessFlags := 16409, slot := 31, constantValue := 0 }, { name := "ALTERNATIVE", type := (.object "com/example/congruent/congruent/core/Tree$Kind"), accessFlags := 16409, slot := 32, constantValue := 0 }, { name := "ZERO_OR_MORE", type := (.object "com/example/congruent/congruent/core/Tree$Kind"), accessFlags := 16409, slot := 33, constantValue := 0 }, { name := "ONE_OR_MORE", type := (.object "com/example/congruent/congruent/core/Tree$Kind"), accessFlags := 16409, slot := 34, constantValue := 0 }, { name := "ZERO_OR_ONE", type := (.object "com/example/congruent/congruent/core/Tree$Kind"), accessFlags := 16409, slot := 35, constantValue := 0 }, { name := "NEGATED", type := (.object "com/example/congruent/congruent/core/Tree$Kind"), accessFlags := 16409, slot := 36, constantValue := 0 }, { name := "CALL", type := (.object "com/example/congruent/congruent/core/Tree$Kind"), accessFlags := 16409, slot := 37, constantValue := 0 }, { name := "OPERATOR", type := (.object "com/example/congruent/congruent/core/Tree$Kind"), accessFlags := 16409, slot := 38, constantValue := 0 }, { name := "FUNCTION", type := (.object "com/example/congruent/congruent/core/Tree$Kind"), accessFlags := 16409, slot := 39, constantValue := 0 }, { name := "IN", type := (.object "com/example/congruent/congruent/core/Tree$Kind"), accessFlags := 16409, slot := 40, constantValue := 0 }, { name := "NOT_IN", type := (.object "com/example/congruent/congruent/core/Tree$Kind"), accessFlags := 16409, slot := 41, constantValue := 0 }, { name := "EXISTS", type := (.object "com/example/congruent/congruent/core/Tree$Kind"), accessFlags := 16409, slot := 42, constantValue := 0 }, { name := "NOT_EXISTS", type := (.object "com/example/congruent/congruent/core/Tree$Kind"), accessFlags := 16409, slot := 43, constantValue := 0 }, { name := "AGGREGATE", type := (.object "com/example/congruent/congruent/core/Tree$Kind"), accessFlags := 16409, slot := 44, constantValue := 0 }, { name := "$VALUES", type := (.array (.object "com/example/congruent/congruent/core/Tree$Kind")), accessFlags := 4122, slot := 45, constantValue := 0 }]
  methods := #[]
  instanceTypes := #[(.object "java/lang/String"), .int, .int]
  staticTypes := #[(.object "com/example/congruent/congruent/core/Tree$Kind"), (.object "com/example/congruent/congruent/core/Tree$Kind"), (.object "com/example/congruent/congruent/core/Tree$Kind"), (.object "com/example/congruent/congruent/core/Tree$Kind"), (.object "com/example/congruent/congruent/core/Tree$Kind"), (.object "com/example/congruent/congruent/core/Tree$Kind"), (.object "com/example/congruent/congruent/core/Tree$Kind"), (.object "com/example/congruent/congruent/core/Tree$Kind"), (.object "com/example/congruent/congruent/core/Tree$Kind"), (.object "com/example/congruent/congruent/core/Tree$Kind"), (.object "com/example/congruent/congruent/core/Tree$Kind"), (.object "com/example/congruent/congruent/core/Tree$Kind"), (.object "com/example/congruent/congruent/core/Tree$Kind"), (.object "com/example/congruent/congruent/core/Tree$Kind"), (.object "com/example/congruent/congruent/core/Tree$Kind"), (.object "com/example/congruent/congruent/core/Tree$Kind"), (.object "com/example/congruent/congruent/core/Tree$Kind"), (.object "com/example/congruent/congruent/core/Tree$Kind"), (.object "com/example/congruent/congruent/core/Tree$Kind"), (.object "com/example/congruent/congruent/core/Tree$Kind"), (.object "com/example/congruent/congruent/core/Tree$Kind"), (.object "com/example/congruent/congruent/core/Tree$Kind"), (.object "com/example/congruent/congruent/core/Tree$Kind"), (.object "com/example/congruent/congruent/core/Tree$Kind"), (.object "com/example/congruent/congruent/core/Tree$Kind"), (.object "com/example/congruent/congruent/core/Tree$Kind"), (.object "com/example/congruent/congruent/core/Tree$Kind"), (.object "com/example/congruent/congruent/core/Tree$Kind"), (.object "com/example/congruent/congruent/core/Tree$Kind"), (.object "com/example/congruent/congruent/core/Tree$Kind"), (.object "com/example/congruent/congruent/core/Tree$Kind"), (.object "com/example/congruent/congruent/core/Tree$Kind"), (.object "com/example/congruent/congruent/core/Tree$Kind"), (.object "com/example/congruent/congruent/core/Tree$Kind"), (.object "com/example/congruent/congruent/core/Tree$Kind"), (.object "com/example/congruent/congruent/core/Tree$Kind"), (.object "com/example/congruent/congruent/core/Tree$Kind"), (.object "com/example/congruent/congruent/core/Tree$Kind"), (.object "com/example/congruent/congruent/core/Tree$Kind"), (.object "com/example/congruent/congruent/core/Tree$Kind"), (.object "com/example/congruent/congruent/core/Tree$Kind"), (.object "com/example/congruent/congruent/core/Tree$Kind"), (.object "com/example/congruent/congruent/core/Tree$Kind"), (.object "com/example/congruent/congruent/core/Tree$Kind"), (.object "com/example/congruent/congruent/core/Tree$Kind"), (.array (.object "com/example/congruent/congruent/core/Tree$Kind"))]
  resolved := Array.replicate 224 none
  statics := some 0 }

def pool7 : Array CpInfo := pool [(1, .methodref 2 3), (0, .class_ 4), (0, .nameAndType 5 6), (0, u "java/lang/Object"), (0, u "<init>"), (0, u "()V"), (0, .class_ 8), (0, u "java/lang/Record")] 13

def k7c0 : Code := { maxStack := 1, maxLocals := 1, code := jdk_30_method_1_code, exceptionTable := #[], attributes := #[] }
def k7m0 : Method := { name := "<init>", desc := "()V", sig := { parameters := [], returnType := none }, accessFlags := 4, code := some k7c0 }
/-- java/lang/Record -/
def k7 : Class := { plain "java/lang/Record" (some 0) with
  accessFlags := 1057
  interfaces := #[]
  cf := some (fileOf pool7 7 #[] #[{ accessFlags := 4, nameIndex := 5, descriptorIndex := 6, attributes := #[] }] 1057 2 #[] #[])
  fields := #[]
  methods := #[k7m0]
  instanceTypes := #[]
  staticTypes := #[]
  resolved := Array.replicate 22 none
  statics := none }

def pool8 : Array CpInfo := pool [(2, .class_ 4), (1, u "com/example/congruent/congruent/core/Tree$Kind"), (3, .class_ 10), (1, u "com/example/congruent/congruent/core/Tree"), (12, .class_ 24), (0, u "com/example/congruent/congruent/core/Tree$Node"), (206, .class_ 232), (0, u "com/example/congruent/congruent/core/Tree$Leaf"), (20, .class_ 254), (0, u "com/example/congruent/congruent/core/Tree$Depth"), (57, .class_ 313), (0, u "java/lang/Object")] 138

/-- com/example/congruent/congruent/core/Tree -/
def k8 : Class := { plain "com/example/congruent/congruent/core/Tree" (some 0) with
  accessFlags := 1536
  interfaces := #[]
  cf := some (fileOf pool8 8 #[.nestMembers #[231, 23, 253, 2]] #[] 1536 312 #[] #[])
  fields := #[]
  methods := #[]
  instanceTypes := #[]
  staticTypes := #[]
  resolved := Array.replicate 452 none
  statics := none }

def pool9 : Array CpInfo := pool [(1, .methodref 2 3), (0, .class_ 4), (0, .nameAndType 5 6), (0, u "java/lang/Record"), (0, u "<init>"), (0, u "()V"), (0, .string 8), (0, u "kind"), (0, .methodref 10 11), (0, .class_ 12), (0, .nameAndType 13 14), (0, u "java/util/Objects"), (0, u "requireNonNull"), (0, u "(Ljava/lang/Object;Ljava/lang/String;)Ljava/lang/Object;"), (0, .string 16), (0, u "name"), (0, .interfaceMethodref 18 19), (0, .class_ 20), (0, .nameAndType 21 22), (0, u "java/util/List"), (0, u "copyOf"), (0, u "(Ljava/util/Collection;)Ljava/util/List;"), (0, .fieldref 24 25), (0, .class_ 26), (0, .nameAndType 8 27), (0, u "com/example/congruent/congruent/core/Tree$Node"), (0, u "Lcom/example/congruent/congruent/core/Tree$Kind;"), (0, .fieldref 24 29), (0, .nameAndType 16 30), (0, u "Ljava/lang/String;"), (0, .fieldref 24 32), (0, .nameAndType 33 34), (0, u "ordered"), (0, u "Ljava/util/List;"), (0, .fieldref 24 36), (0, .nameAndType 37 34), (0, u "unordered"), (11, u "(Lcom/example/congruent/congruent/core/Tree$Kind;Ljava/lang/String;Ljava/util/List;Ljava/util/List;)V"), (0, .interfaceMethodref 18 51), (0, .nameAndType 52 53), (0, u "get"), (0, u "(I)Ljava/lang/Object;"), (18, .class_ 73), (0, u "com/example/congruent/congruent/core/Tree"), (9, u "node"), (0, u "(I)Lcom/example/congruent/congruent/core/Tree$Node;")] 35

def k9c0 : Code := { maxStack := 2, maxLocals := 5, code := prog_27_method_1_code, exceptionTable := #[], attributes := #[] }
def k9m0 : Method := { name := "<init>", desc := "(Lcom/example/congruent/congruent/core/Tree$Kind;Ljava/lang/String;Ljava/util/List;Ljava/util/List;)V", sig := { parameters := [(.object "com/example/congruent/congruent/core/Tree$Kind"), (.object "java/lang/String"), (.object "java/util/List"), (.object "java/util/List")], returnType := none }, accessFlags := 1, code := some k9c0 }
def k9c1 : Code := { maxStack := 2, maxLocals := 2, code := prog_27_method_4_code, exceptionTable := #[], attributes := #[] }
def k9m1 : Method := { name := "node", desc := "(I)Lcom/example/congruent/congruent/core/Tree$Node;", sig := { parameters := [.int], returnType := some (.object "com/example/congruent/congruent/core/Tree$Node") }, accessFlags := 0, code := some k9c1 }
/-- com/example/congruent/congruent/core/Tree$Node -/
def k9 : Class := { plain "com/example/congruent/congruent/core/Tree$Node" (some 7) with
  accessFlags := 49
  interfaces := #[8]
  cf := some (fileOf pool9 24 #[.nestHost 72] #[{ accessFlags := 1, nameIndex := 5, descriptorIndex := 49, attributes := #[] }, { accessFlags := 0, nameIndex := 83, descriptorIndex := 84, attributes := #[] }] 49 2 #[72] #[{ accessFlags := 18, nameIndex := 8, descriptorIndex := 27, attributes := #[] }, { accessFlags := 18, nameIndex := 16, descriptorIndex := 30, attributes := #[] }, { accessFlags := 18, nameIndex := 33, descriptorIndex := 34, attributes := #[] }, { accessFlags := 18, nameIndex := 37, descriptorIndex := 34, attributes := #[] }])
  fields := #[{ name := "kind", type := (.object "com/example/congruent/congruent/core/Tree$Kind"), accessFlags := 18, slot := 0, constantValue := 0 }, { name := "name", type := (.object "java/lang/String"), accessFlags := 18, slot := 1, constantValue := 0 }, { name := "ordered", type := (.object "java/util/List"), accessFlags := 18, slot := 2, constantValue := 0 }, { name := "unordered", type := (.object "java/util/List"), accessFlags := 18, slot := 3, constantValue := 0 }]
  methods := #[k9m0, k9m1]
  instanceTypes := #[(.object "com/example/congruent/congruent/core/Tree$Kind"), (.object "java/lang/String"), (.object "java/util/List"), (.object "java/util/List")]
  staticTypes := #[]
  resolved := Array.replicate 120 none
  statics := none }

def pool10 : Array CpInfo := pool [(2, .class_ 4), (1, u "java/lang/CharSequence"), (42, .class_ 48), (0, u "java/lang/CharSequence$1CodePointIterator"), (10, .class_ 60), (0, u "java/lang/CharSequence$1CharIterator"), (5, .class_ 67), (0, u "java/lang/Object")] 63

/-- java/lang/CharSequence -/
def k10 : Class := { plain "java/lang/CharSequence" (some 0) with
  accessFlags := 1537
  interfaces := #[]
  cf := some (fileOf pool10 2 #[.nestMembers #[47, 59]] #[] 1537 66 #[] #[])
  fields := #[]
  methods := #[]
  instanceTypes := #[]
  staticTypes := #[]
  resolved := Array.replicate 131 none
  statics := none }

def pool11 : Array CpInfo := pool [(1, .class_ 2), (0, u "java/lang/constant/ConstantDesc"), (0, .class_ 4), (0, u "java/lang/Object")] 32

/-- java/lang/constant/ConstantDesc -/
def k11 : Class := { plain "java/lang/constant/ConstantDesc" (some 0) with
  accessFlags := 1537
  interfaces := #[]
  cf := some (fileOf pool11 1 #[] #[] 1537 3 #[] #[])
  fields := #[]
  methods := #[]
  instanceTypes := #[]
  staticTypes := #[]
  resolved := Array.replicate 37 none
  statics := none }

def pool12 : Array CpInfo := pool [(2, .class_ 4), (1, u "java/lang/Object"), (0, u "<init>"), (0, u "()V"), (3, .class_ 12), (1, u "java/lang/String"), (0, u "value"), (0, u "[B"), (2, u "coder"), (0, u "B"), (2, u "hash"), (0, u "I"), (2, u "hashIsZero"), (0, u "Z"), (13, u "COMPACT_STRINGS"), (534, .class_ 576), (0, u "java/lang/CharSequence"), (22, u "CASE_INSENSITIVE_ORDER"), (0, u "Ljava/util/Comparator;"), (500, u "serialPersistentFields"), (0, u "[Ljava/io/ObjectStreamField;"), (0, .class_ 1104), (0, u "java/lang/String$CaseInsensitiveComparator"), (1, .class_ 1107), (0, u "java/io/Serializable"), (0, .class_ 1109), (0, u "java/lang/Comparable"), (0, .class_ 1111), (0, u "java/lang/constant/Constable"), (0, .class_ 1113), (0, u "java/lang/constant/ConstantDesc"), (2, u "serialVersionUID"), (0, u "J"), (3, u "REPL"), (0, u "C"), (2, u "LATIN1"), (1, u "UTF16")] 323

def k12m0 : Method := { name := "<init>", desc := "()V", sig := { parameters := [], returnType := none }, accessFlags := 1, code := none }
/-- java/lang/String -/
def k12 : Class := { plain "java/lang/String" (some 0) with
  accessFlags := 49
  interfaces := #[4, 3, 10, 2, 11]
  cf := some (fileOf pool12 10 #[.nestMembers #[1103]] #[{ accessFlags := 1, nameIndex := 5, descriptorIndex := 6, attributes := #[] }] 49 2 #[1106, 1108, 575, 1110, 1112] #[{ accessFlags := 18, nameIndex := 13, descriptorIndex := 14, attributes := #[] }, { accessFlags := 18, nameIndex := 17, descriptorIndex := 18, attributes := #[] }, { accessFlags := 2, nameIndex := 21, descriptorIndex := 22, attributes := #[] }, { accessFlags := 2, nameIndex := 25, descriptorIndex := 26, attributes := #[] }, { accessFlags := 26, nameIndex := 1116, descriptorIndex := 1117, attributes := #[] }, { accessFlags := 24, nameIndex := 40, descriptorIndex := 26, attributes := #[] }, { accessFlags := 26, nameIndex := 1101, descriptorIndex := 1102, attributes := #[] }, { accessFlags := 26, nameIndex := 1121, descriptorIndex := 1122, attributes := #[] }, { accessFlags := 25, nameIndex := 599, descriptorIndex := 600, attributes := #[] }, { accessFlags := 24, nameIndex := 1125, descriptorIndex := 18, attributes := #[] }, { accessFlags := 24, nameIndex := 1127, descriptorIndex := 18, attributes := #[] }])
  fields := #[{ name := "value", type := (.array .byte), accessFlags := 18, slot := 0, constantValue := 0 }, { name := "coder", type := .byte, accessFlags := 18, slot := 1, constantValue := 0 }, { name := "hash", type := .int, accessFlags := 2, slot := 2, constantValue := 0 }, { name := "hashIsZero", type := .boolean, accessFlags := 2, slot := 3, constantValue := 0 }, { name := "serialVersionUID", type := .long, accessFlags := 26, slot := 0, constantValue := 0 }, { name := "COMPACT_STRINGS", type := .boolean, accessFlags := 24, slot := 1, constantValue := 0 }, { name := "serialPersistentFields", type := (.array (.object "java/io/ObjectStreamField")), accessFlags := 26, slot := 2, constantValue := 0 }, { name := "REPL", type := .char, accessFlags := 26, slot := 3, constantValue := 0 }, { name := "CASE_INSENSITIVE_ORDER", type := (.object "java/util/Comparator"), accessFlags := 25, slot := 4, constantValue := 0 }, { name := "LATIN1", type := .byte, accessFlags := 24, slot := 5, constantValue := 0 }, { name := "UTF16", type := .byte, accessFlags := 24, slot := 6, constantValue := 0 }]
  methods := #[k12m0]
  instanceTypes := #[(.array .byte), .byte, .int, .boolean]
  staticTypes := #[.long, .boolean, (.array (.object "java/io/ObjectStreamField")), .char, (.object "java/util/Comparator"), .byte, .byte]
  resolved := Array.replicate 1451 none
  statics := none }

def pool13 : Array CpInfo := pool [(8, .class_ 10), (1, u "java/lang/Iterable"), (24, .class_ 36), (0, u "java/lang/Object")] 25

/-- java/lang/Iterable -/
def k13 : Class := { plain "java/lang/Iterable" (some 0) with
  accessFlags := 1537
  interfaces := #[]
  cf := some (fileOf pool13 8 #[] #[] 1537 35 #[] #[])
  fields := #[]
  methods := #[]
  instanceTypes := #[]
  staticTypes := #[]
  resolved := Array.replicate 62 none
  statics := none }

def pool14 : Array CpInfo := pool [(10, .class_ 12), (1, u "java/util/Collection"), (0, u "toArray"), (16, u "()Z"), (29, .class_ 61), (0, u "java/lang/Object"), (0, .class_ 63), (0, u "java/lang/Iterable"), (2, u "isEmpty"), (3, u "()[Ljava/lang/Object;")] 44

def k14m0 : Method := { name := "isEmpty", desc := "()Z", sig := { parameters := [], returnType := some .boolean }, accessFlags := 1025, code := none }
def k14m1 : Method := { name := "toArray", desc := "()[Ljava/lang/Object;", sig := { parameters := [], returnType := some (.array (.object "java/lang/Object")) }, accessFlags := 1025, code := none }
/-- java/util/Collection -/
def k14 : Class := { plain "java/util/Collection" (some 0) with
  accessFlags := 1537
  interfaces := #[13]
  cf := some (fileOf pool14 10 #[] #[{ accessFlags := 1025, nameIndex := 66, descriptorIndex := 30, attributes := #[] }, { accessFlags := 1025, nameIndex := 13, descriptorIndex := 70, attributes := #[] }] 1537 60 #[62] #[])
  fields := #[]
  methods := #[k14m0, k14m1]
  instanceTypes := #[]
  staticTypes := #[]
  resolved := Array.replicate 115 none
  statics := none }

def pool15 : Array CpInfo := pool [(1, .methodref 2 3), (0, .class_ 4), (0, .nameAndType 5 6), (0, u "java/lang/Object"), (0, u "<init>"), (0, u "()V"), (1, .class_ 10), (1, u "java/util/AbstractCollection"), (66, .class_ 78), (0, u "java/util/Collection")] 81

def k15c0 : Code := { maxStack := 1, maxLocals := 1, code := jdk_22_method_1_code, exceptionTable := #[], attributes := #[] }
def k15m0 : Method := { name := "<init>", desc := "()V", sig := { parameters := [], returnType := none }, accessFlags := 4, code := some k15c0 }
/-- java/util/AbstractCollection -/
def k15 : Class := { plain "java/util/AbstractCollection" (some 0) with
  accessFlags := 1057
  interfaces := #[14]
  cf := some (fileOf pool15 8 #[] #[{ accessFlags := 4, nameIndex := 5, descriptorIndex := 6, attributes := #[] }] 1057 2 #[77] #[])
  fields := #[]
  methods := #[k15m0]
  instanceTypes := #[]
  staticTypes := #[]
  resolved := Array.replicate 160 none
  statics := none }

def pool16 : Array CpInfo := pool [(8, .class_ 10), (1, u "java/util/SequencedCollection"), (15, .class_ 27), (0, u "java/lang/Object"), (0, .class_ 29), (0, u "java/util/Collection")] 27

/-- java/util/SequencedCollection -/
def k16 : Class := { plain "java/util/SequencedCollection" (some 0) with
  accessFlags := 1537
  interfaces := #[14]
  cf := some (fileOf pool16 8 #[] #[] 1537 26 #[28] #[])
  fields := #[]
  methods := #[]
  instanceTypes := #[]
  staticTypes := #[]
  resolved := Array.replicate 57 none
  statics := none }

def pool17 : Array CpInfo := pool [(8, .class_ 10), (1, u "java/util/List"), (20, u "(Ljava/lang/Object;)V"), (16, u "<init>"), (26, u "get"), (0, u "(I)Ljava/lang/Object;"), (11, u "of"), (1, .fieldref 91 92), (0, .class_ 93), (0, .nameAndType 94 95), (0, u "java/util/ImmutableCollections"), (0, u "EMPTY_LIST"), (0, u "Ljava/util/ImmutableCollections$ListN;"), (0, .class_ 97), (0, u "java/util/ImmutableCollections$List12"), (0, .methodref 96 99), (0, .nameAndType 48 31), (0, .methodref 96 101), (0, .nameAndType 48 102), (0, u "(Ljava/lang/Object;Ljava/lang/Object;)V"), (0, .class_ 104), (0, u "java/lang/Object"), (3, u "([Ljava/lang/Object;)Ljava/util/List;"), (0, .methodref 91 110), (0, .nameAndType 111 108), (0, u "listFromArray"), (0, .methodref 91 113), (0, .nameAndType 114 115), (0, u "listCopy"), (0, u "(Ljava/util/Collection;)Ljava/util/List;"), (3, u "()Ljava/util/List;"), (0, .class_ 121), (0, u "java/util/SequencedCollection"), (112, u "copyOf")] 16

def k17m0 : Method := { name := "get", desc := "(I)Ljava/lang/Object;", sig := { parameters := [.int], returnType := some (.object "java/lang/Object") }, accessFlags := 1025, code := none }
def k17c1 : Code := { maxStack := 1, maxLocals := 0, code := jdk_40_method_36_code, exceptionTable := #[], attributes := #[] }
def k17m1 : Method := { name := "of", desc := "()Ljava/util/List;", sig := { parameters := [], returnType := some (.object "java/util/List") }, accessFlags := 9, code := some k17c1 }
def k17c2 : Code := { maxStack := 5, maxLocals := 2, code := jdk_40_method_47_code, exceptionTable := #[], attributes := #[] }
def k17m2 : Method := { name := "of", desc := "([Ljava/lang/Object;)Ljava/util/List;", sig := { parameters := [(.array (.object "java/lang/Object"))], returnType := some (.object "java/util/List") }, accessFlags := 137, code := some k17c2 }
def k17c3 : Code := { maxStack := 1, maxLocals := 1, code := jdk_40_method_48_code, exceptionTable := #[], attributes := #[] }
def k17m3 : Method := { name := "copyOf", desc := "(Ljava/util/Collection;)Ljava/util/List;", sig := { parameters := [(.object "java/util/Collection")], returnType := some (.object "java/util/List") }, accessFlags := 9, code := some k17c3 }
/-- java/util/List -/
def k17 : Class := { plain "java/util/List" (some 0) with
  accessFlags := 1537
  interfaces := #[16]
  cf := some (fileOf pool17 8 #[] #[{ accessFlags := 1025, nameIndex := 75, descriptorIndex := 76, attributes := #[] }, { accessFlags := 9, nameIndex := 88, descriptorIndex := 119, attributes := #[] }, { accessFlags := 137, nameIndex := 88, descriptorIndex := 108, attributes := #[] }, { accessFlags := 9, nameIndex := 234, descriptorIndex := 115, attributes := #[] }] 1537 103 #[120] #[])
  fields := #[]
  methods := #[k17m0, k17m1, k17m2, k17m3]
  instanceTypes := #[]
  staticTypes := #[]
  resolved := Array.replicate 251 none
  statics := none }

def pool18 : Array CpInfo := pool [(1, .methodref 2 3), (0, .class_ 4), (0, .nameAndType 5 6), (0, u "java/util/AbstractCollection"), (0, u "<init>"), (0, u "()V"), (0, .fieldref 8 9), (0, .class_ 10), (0, .nameAndType 11 12), (0, u "java/util/AbstractList"), (0, u "modCount"), (0, u "I"), (64, .class_ 78), (0, u "java/util/AbstractList$Itr"), (3, .class_ 83), (0, u "java/util/AbstractList$ListItr"), (9, .class_ 94), (0, u "java/util/AbstractList$RandomAccessSubList"), (3, .class_ 99), (0, u "java/util/AbstractList$SubList"), (33, .class_ 134), (0, u "java/util/List"), (73, .class_ 209), (0, u "java/util/AbstractList$SubList$1"), (0, .class_ 211), (0, u "java/util/AbstractList$RandomAccessSpliterator")] 6

def k18c0 : Code := { maxStack := 2, maxLocals := 1, code := jdk_39_method_1_code, exceptionTable := #[], attributes := #[] }
def k18m0 : Method := { name := "<init>", desc := "()V", sig := { parameters := [], returnType := none }, accessFlags := 4, code := some k18c0 }
/-- java/util/AbstractList -/
def k18 : Class := { plain "java/util/AbstractList" (some 15) with
  accessFlags := 1057
  interfaces := #[17]
  cf := some (fileOf pool18 8 #[.nestMembers #[93, 98, 208, 210, 82, 77]] #[{ accessFlags := 4, nameIndex := 5, descriptorIndex := 6, attributes := #[] }] 1057 2 #[133] #[{ accessFlags := 132, nameIndex := 11, descriptorIndex := 12, attributes := #[] }])
  fields := #[{ name := "modCount", type := .int, accessFlags := 132, slot := 0, constantValue := 0 }]
  methods := #[k18m0]
  instanceTypes := #[.int]
  staticTypes := #[]
  resolved := Array.replicate 218 none
  statics := none }

def pool19 : Array CpInfo := pool [(1, .class_ 2), (0, u "java/util/RandomAccess"), (0, .class_ 4), (0, u "java/lang/Object")] 2

/-- java/util/RandomAccess -/
def k19 : Class := { plain "java/util/RandomAccess" (some 0) with
  accessFlags := 1537
  interfaces := #[]
  cf := some (fileOf pool19 1 #[] #[] 1537 3 #[] #[])
  fields := #[]
  methods := #[]
  instanceTypes := #[]
  staticTypes := #[]
  resolved := Array.replicate 7 none
  statics := none }

def pool20 : Array CpInfo := pool [(1, .class_ 2), (0, u "java/lang/Cloneable"), (0, .class_ 4), (0, u "java/lang/Object")] 2

/-- java/lang/Cloneable -/
def k20 : Class := { plain "java/lang/Cloneable" (some 0) with
  accessFlags := 1537
  interfaces := #[]
  cf := some (fileOf pool20 1 #[] #[] 1537 3 #[] #[])
  fields := #[]
  methods := #[]
  instanceTypes := #[]
  staticTypes := #[]
  resolved := Array.replicate 7 none
  statics := none }

def pool21 : Array CpInfo := pool [(1, .methodref 2 3), (0, .class_ 4), (0, .nameAndType 5 6), (0, u "java/util/AbstractList"), (0, u "<init>"), (0, u "()V"), (0, .class_ 8), (0, u "java/lang/Object"), (0, .fieldref 10 11), (0, .class_ 12), (0, .nameAndType 13 14), (0, u "java/util/ArrayList"), (0, u "elementData"), (0, u "[Ljava/lang/Object;"), (2, u "EMPTY_ELEMENTDATA"), (21, .fieldref 10 40), (0, .nameAndType 41 14), (0, u "DEFAULTCAPACITY_EMPTY_ELEMENTDATA"), (4, u "toArray"), (0, u "()[Ljava/lang/Object;"), (0, .fieldref 10 49), (0, .nameAndType 50 51), (0, u "size"), (0, u "I"), (6, .class_ 60), (1, u "java/util/Arrays"), (0, u "copyOf"), (1, .fieldref 10 64), (0, .nameAndType 65 51), (0, u "modCount"), (0, .methodref 58 67), (0, .nameAndType 61 68), (0, u "([Ljava/lang/Object;I)[Ljava/lang/Object;"), (0, .methodref 10 70), (0, .nameAndType 71 72), (0, u "grow"), (0, u "(I)[Ljava/lang/Object;"), (6, .methodref 80 81), (0, .class_ 82), (0, .nameAndType 83 84), (0, u "java/lang/Math"), (0, u "max"), (0, u "(II)I"), (11, u "(Ljava/lang/Object;)Z"), (32, .methodref 10 130), (0, .nameAndType 71 47), (0, .methodref 10 132), (0, .nameAndType 133 134), (0, u "add"), (0, u "(Ljava/lang/Object;[Ljava/lang/Object;I)V"), (13, .class_ 149), (0, u "java/util/List"), (23, u "()Z"), (88, .class_ 263), (0, u "java/util/ArrayList$ListItr"), (3, .class_ 268), (0, u "java/util/ArrayList$Itr"), (7, .class_ 277), (0, u "java/util/ArrayList$SubList"), (12, .class_ 291), (0, u "java/util/ArrayList$ArrayListSpliterator"), (37, .class_ 330), (0, u "java/util/RandomAccess"), (0, .class_ 332), (0, u "java/lang/Cloneable"), (0, .class_ 334), (0, u "java/io/Serializable"), (0, u "serialVersionUID"), (0, u "J"), (3, u "DEFAULT_CAPACITY"), (22, u "isEmpty"), (136, .class_ 501), (0, u "java/util/ArrayList$SubList$2"), (0, .class_ 503), (0, u "java/util/ArrayList$SubList$1")] 5

def k21c0 : Code := { maxStack := 2, maxLocals := 1, code := jdk_38_method_2_code, exceptionTable := #[], attributes := #[] }
def k21m0 : Method := { name := "<init>", desc := "()V", sig := { parameters := [], returnType := none }, accessFlags := 1, code := some k21c0 }
def k21c1 : Code := { maxStack := 4, maxLocals := 4, code := jdk_38_method_6_code, exceptionTable := #[], attributes := #[] }
def k21m1 : Method := { name := "grow", desc := "(I)[Ljava/lang/Object;", sig := { parameters := [.int], returnType := some (.array (.object "java/lang/Object")) }, accessFlags := 2, code := some k21c1 }
def k21c2 : Code := { maxStack := 3, maxLocals := 1, code := jdk_38_method_7_code, exceptionTable := #[], attributes := #[] }
def k21m2 : Method := { name := "grow", desc := "()[Ljava/lang/Object;", sig := { parameters := [], returnType := some (.array (.object "java/lang/Object")) }, accessFlags := 2, code := some k21c2 }
def k21c3 : Code := { maxStack := 1, maxLocals := 1, code := jdk_38_method_9_code, exceptionTable := #[], attributes := #[] }
def k21m3 : Method := { name := "isEmpty", desc := "()Z", sig := { parameters := [], returnType := some .boolean }, accessFlags := 1, code := some k21c3 }
def k21c4 : Code := { maxStack := 2, maxLocals := 1, code := jdk_38_method_16_code, exceptionTable := #[], attributes := #[] }
def k21m4 : Method := { name := "toArray", desc := "()[Ljava/lang/Object;", sig := { parameters := [], returnType := some (.array (.object "java/lang/Object")) }, accessFlags := 1, code := some k21c4 }
def k21c5 : Code := { maxStack := 3, maxLocals := 4, code := jdk_38_method_24_code, exceptionTable := #[], attributes := #[] }
def k21m5 : Method := { name := "add", desc := "(Ljava/lang/Object;[Ljava/lang/Object;I)V", sig := { parameters := [(.object "java/lang/Object"), (.array (.object "java/lang/Object")), .int], returnType := none }, accessFlags := 2, code := some k21c5 }
def k21c6 : Code := { maxStack := 4, maxLocals := 2, code := jdk_38_method_25_code, exceptionTable := #[], attributes := #[] }
def k21m6 : Method := { name := "add", desc := "(Ljava/lang/Object;)Z", sig := { parameters := [(.object "java/lang/Object")], returnType := some .boolean }, accessFlags := 1, code := some k21c6 }
/-- java/util/ArrayList -/
def k21 : Class := { plain "java/util/ArrayList" (some 18) with
  accessFlags := 33
  interfaces := #[17, 19, 20, 4]
  cf := some (fileOf pool21 10 #[.nestMembers #[290, 276, 500, 502, 262, 267]] #[{ accessFlags := 1, nameIndex := 5, descriptorIndex := 6, attributes := #[] }, { accessFlags := 2, nameIndex := 71, descriptorIndex := 72, attributes := #[] }, { accessFlags := 2, nameIndex := 71, descriptorIndex := 47, attributes := #[] }, { accessFlags := 1, nameIndex := 363, descriptorIndex := 173, attributes := #[] }, { accessFlags := 1, nameIndex := 46, descriptorIndex := 47, attributes := #[] }, { accessFlags := 2, nameIndex := 133, descriptorIndex := 134, attributes := #[] }, { accessFlags := 1, nameIndex := 133, descriptorIndex := 96, attributes := #[] }] 33 2 #[148, 329, 331, 333] #[{ accessFlags := 26, nameIndex := 335, descriptorIndex := 336, attributes := #[] }, { accessFlags := 26, nameIndex := 340, descriptorIndex := 51, attributes := #[] }, { accessFlags := 26, nameIndex := 17, descriptorIndex := 14, attributes := #[] }, { accessFlags := 26, nameIndex := 41, descriptorIndex := 14, attributes := #[] }, { accessFlags := 128, nameIndex := 13, descriptorIndex := 14, attributes := #[] }, { accessFlags := 2, nameIndex := 50, descriptorIndex := 51, attributes := #[] }])
  fields := #[{ name := "serialVersionUID", type := .long, accessFlags := 26, slot := 0, constantValue := 0 }, { name := "DEFAULT_CAPACITY", type := .int, accessFlags := 26, slot := 1, constantValue := 0 }, { name := "EMPTY_ELEMENTDATA", type := (.array (.object "java/lang/Object")), accessFlags := 26, slot := 2, constantValue := 0 }, { name := "DEFAULTCAPACITY_EMPTY_ELEMENTDATA", type := (.array (.object "java/lang/Object")), accessFlags := 26, slot := 3, constantValue := 0 }, { name := "elementData", type := (.array (.object "java/lang/Object")), accessFlags := 128, slot := 1, constantValue := 0 }, { name := "size", type := .int, accessFlags := 2, slot := 2, constantValue := 0 }]
  methods := #[k21m0, k21m1, k21m2, k21m3, k21m4, k21m5, k21m6]
  instanceTypes := #[.int, (.array (.object "java/lang/Object")), .int]
  staticTypes := #[.long, .int, (.array (.object "java/lang/Object")), (.array (.object "java/lang/Object"))]
  resolved := Array.replicate 509 none
  statics := some 1 }

def pool22 : Array CpInfo := pool [(2, .class_ 4), (1, u "java/lang/Object"), (0, u "<init>"), (0, u "()V"), (35, .class_ 44), (1, u "java/util/Objects"), (0, u "requireNonNull"), (0, u "(Ljava/lang/Object;)Ljava/lang/Object;"), (47, u "(Ljava/lang/Object;Ljava/lang/String;)Ljava/lang/Object;")] 89

def k22m0 : Method := { name := "<init>", desc := "()V", sig := { parameters := [], returnType := none }, accessFlags := 2, code := none }
def k22c1 : Code := { maxStack := 2, maxLocals := 1, code := jdk_31_method_10_code, exceptionTable := #[], attributes := #[] }
def k22m1 : Method := { name := "requireNonNull", desc := "(Ljava/lang/Object;)Ljava/lang/Object;", sig := { parameters := [(.object "java/lang/Object")], returnType := some (.object "java/lang/Object") }, accessFlags := 9, code := some k22c1 }
def k22c2 : Code := { maxStack := 3, maxLocals := 2, code := jdk_31_method_11_code, exceptionTable := #[], attributes := #[] }
def k22m2 : Method := { name := "requireNonNull", desc := "(Ljava/lang/Object;Ljava/lang/String;)Ljava/lang/Object;", sig := { parameters := [(.object "java/lang/Object"), (.object "java/lang/String")], returnType := some (.object "java/lang/Object") }, accessFlags := 9, code := some k22c2 }
/-- java/util/Objects -/
def k22 : Class := { plain "java/util/Objects" (some 0) with
  accessFlags := 49
  interfaces := #[]
  cf := some (fileOf pool22 42 #[] #[{ accessFlags := 2, nameIndex := 5, descriptorIndex := 6, attributes := #[] }, { accessFlags := 9, nameIndex := 45, descriptorIndex := 46, attributes := #[] }, { accessFlags := 9, nameIndex := 45, descriptorIndex := 94, attributes := #[] }] 49 2 #[] #[])
  fields := #[]
  methods := #[k22m0, k22m1, k22m2]
  instanceTypes := #[]
  staticTypes := #[]
  resolved := Array.replicate 184 none
  statics := none }

def pool23 : Array CpInfo := pool [(2, .class_ 4), (1, u "java/lang/Object"), (0, u "<init>"), (0, u "()V"), (3, .class_ 11), (0, u "java/util/ImmutableCollections$List12"), (0, .class_ 13), (0, u "java/util/ImmutableCollections$ListN"), (3, u "Z"), (0, .class_ 19), (0, u "java/util/List"), (0, .interfaceMethodref 21 22), (0, .class_ 23), (0, .nameAndType 24 25), (0, u "java/util/Collection"), (0, u "isEmpty"), (0, u "()Z"), (0, .interfaceMethodref 18 27), (0, .nameAndType 28 29), (0, u "of"), (0, u "()Ljava/util/List;"), (0, .interfaceMethodref 21 31), (0, .nameAndType 32 33), (0, u "toArray"), (0, u "()[Ljava/lang/Object;"), (0, .interfaceMethodref 18 35), (0, .nameAndType 28 36), (0, u "([Ljava/lang/Object;)Ljava/util/List;"), (0, .methodref 38 39), (0, .class_ 40), (0, .nameAndType 41 42), (0, u "java/util/Objects"), (0, u "requireNonNull"), (0, u "(Ljava/lang/Object;)Ljava/lang/Object;"), (0, .methodref 12 44), (0, .nameAndType 5 45), (0, u "([Ljava/lang/Object;Z)V"), (1, .class_ 49), (1, u "java/util/ImmutableCollections"), (0, u "$assertionsDisabled"), (5, u "[Ljava/lang/Object;"), (5, u "EMPTY_LIST"), (0, u "Ljava/util/ImmutableCollections$ListN;"), (8, u "EMPTY_LIST_NULLS"), (22, u "SALT32L"), (0, u "J"), (2, u "REVERSE"), (6, u "archivedObjects"), (2, u "EMPTY"), (0, u "Ljava/lang/Object;"), (0, .class_ 112), (0, u "java/util/ImmutableCollections$SetN"), (5, u "EMPTY_SET"), (0, u "Ljava/util/ImmutableCollections$SetN;"), (0, .class_ 121), (0, u "java/util/ImmutableCollections$MapN"), (3, u "EMPTY_MAP"), (0, u "Ljava/util/ImmutableCollections$MapN;"), (4, u "EXPAND_FACTOR"), (0, u "I"), (9, u "listCopy"), (0, u "(Ljava/util/Collection;)Ljava/util/List;"), (7, u "listFromArray"), (17, .class_ 170), (0, u "java/util/ImmutableCollections$MapN$MapNIterator"), (0, .class_ 172), (0, u "java/util/ImmutableCollections$MapN$1"), (0, .class_ 174), (0, u "java/util/ImmutableCollections$Map1"), (0, .class_ 176), (0, u "java/util/ImmutableCollections$AbstractImmutableMap"), (0, .class_ 178), (0, u "java/util/ImmutableCollections$SetN$SetNIterator"), (0, .class_ 180), (0, u "java/util/ImmutableCollections$Set12"), (0, .class_ 182), (0, u "java/util/ImmutableCollections$Set12$1"), (0, .class_ 184), (0, u "java/util/ImmutableCollections$AbstractImmutableSet"), (0, .class_ 186), (0, u "java/util/ImmutableCollections$SubList"), (0, .class_ 188), (0, u "java/util/ImmutableCollections$ListItr"), (0, .class_ 190), (0, u "java/util/ImmutableCollections$AbstractImmutableList"), (0, .class_ 192), (0, u "java/util/ImmutableCollections$AbstractImmutableCollection"), (0, .class_ 194), (0, u "java/util/ImmutableCollections$Access"), (0, .class_ 196), (0, u "java/util/ImmutableCollections$Access$1")] 16

def k23m0 : Method := { name := "<init>", desc := "()V", sig := { parameters := [], returnType := none }, accessFlags := 2, code := none }
def k23c1 : Code := { maxStack := 1, maxLocals := 2, code := jdk_56_method_3_code, exceptionTable := #[], attributes := #[] }
def k23m1 : Method := { name := "listCopy", desc := "(Ljava/util/Collection;)Ljava/util/List;", sig := { parameters := [(.object "java/util/Collection")], returnType := some (.object "java/util/List") }, accessFlags := 8, code := some k23c1 }
def k23c2 : Code := { maxStack := 4, maxLocals := 3, code := jdk_56_method_4_code, exceptionTable := #[], attributes := #[] }
def k23m2 : Method := { name := "listFromArray", desc := "([Ljava/lang/Object;)Ljava/util/List;", sig := { parameters := [(.array (.object "java/lang/Object"))], returnType := some (.object "java/util/List") }, accessFlags := 136, code := some k23c2 }
/-- java/util/ImmutableCollections -/
def k23 : Class := { plain "java/util/ImmutableCollections" (some 0) with
  accessFlags := 32
  interfaces := #[]
  cf := some (fileOf pool23 47 #[.nestMembers #[120, 169, 171, 173, 175, 111, 177, 179, 181, 183, 12, 10, 185, 187, 189, 191, 193, 195]] #[{ accessFlags := 2, nameIndex := 5, descriptorIndex := 6, attributes := #[] }, { accessFlags := 8, nameIndex := 142, descriptorIndex := 143, attributes := #[] }, { accessFlags := 136, nameIndex := 151, descriptorIndex := 36, attributes := #[] }] 32 2 #[] #[{ accessFlags := 26, nameIndex := 95, descriptorIndex := 96, attributes := #[] }, { accessFlags := 26, nameIndex := 99, descriptorIndex := 17, attributes := #[] }, { accessFlags := 10, nameIndex := 106, descriptorIndex := 56, attributes := #[] }, { accessFlags := 26, nameIndex := 109, descriptorIndex := 110, attributes := #[] }, { accessFlags := 24, nameIndex := 62, descriptorIndex := 63, attributes := #[] }, { accessFlags := 24, nameIndex := 72, descriptorIndex := 63, attributes := #[] }, { accessFlags := 24, nameIndex := 118, descriptorIndex := 119, attributes := #[] }, { accessFlags := 24, nameIndex := 125, descriptorIndex := 126, attributes := #[] }, { accessFlags := 24, nameIndex := 131, descriptorIndex := 132, attributes := #[] }, { accessFlags := 4120, nameIndex := 50, descriptorIndex := 17, attributes := #[] }])
  fields := #[{ name := "SALT32L", type := .long, accessFlags := 26, slot := 0, constantValue := 0 }, { name := "REVERSE", type := .boolean, accessFlags := 26, slot := 1, constantValue := 0 }, { name := "archivedObjects", type := (.array (.object "java/lang/Object")), accessFlags := 10, slot := 2, constantValue := 0 }, { name := "EMPTY", type := (.object "java/lang/Object"), accessFlags := 26, slot := 3, constantValue := 0 }, { name := "EMPTY_LIST", type := (.object "java/util/ImmutableCollections$ListN"), accessFlags := 24, slot := 4, constantValue := 0 }, { name := "EMPTY_LIST_NULLS", type := (.object "java/util/ImmutableCollections$ListN"), accessFlags := 24, slot := 5, constantValue := 0 }, { name := "EMPTY_SET", type := (.object "java/util/ImmutableCollections$SetN"), accessFlags := 24, slot := 6, constantValue := 0 }, { name := "EMPTY_MAP", type := (.object "java/util/ImmutableCollections$MapN"), accessFlags := 24, slot := 7, constantValue := 0 }, { name := "EXPAND_FACTOR", type := .int, accessFlags := 24, slot := 8, constantValue := 0 }, { name := "$assertionsDisabled", type := .boolean, accessFlags := 4120, slot := 9, constantValue := 0 }]
  methods := #[k23m0, k23m1, k23m2]
  instanceTypes := #[]
  staticTypes := #[.long, .boolean, (.array (.object "java/lang/Object")), (.object "java/lang/Object"), (.object "java/util/ImmutableCollections$ListN"), (.object "java/util/ImmutableCollections$ListN"), (.object "java/util/ImmutableCollections$SetN"), (.object "java/util/ImmutableCollections$MapN"), .int, .boolean]
  resolved := Array.replicate 213 none
  statics := some 2 }

def pool24 : Array CpInfo := pool [(1, .methodref 2 3), (0, .class_ 4), (0, .nameAndType 5 6), (0, u "java/util/AbstractCollection"), (0, u "<init>"), (0, u "()V"), (1, .class_ 10), (1, u "java/util/ImmutableCollections"), (2, .class_ 14), (0, u "java/util/ImmutableCollections$AbstractImmutableCollection")] 41

def k24c0 : Code := { maxStack := 1, maxLocals := 1, code := jdk_47_method_1_code, exceptionTable := #[], attributes := #[] }
def k24m0 : Method := { name := "<init>", desc := "()V", sig := { parameters := [], returnType := none }, accessFlags := 0, code := some k24c0 }
/-- java/util/ImmutableCollections$AbstractImmutableCollection -/
def k24 : Class := { plain "java/util/ImmutableCollections$AbstractImmutableCollection" (some 15) with
  accessFlags := 1056
  interfaces := #[]
  cf := some (fileOf pool24 13 #[.nestHost 8] #[{ accessFlags := 0, nameIndex := 5, descriptorIndex := 6, attributes := #[] }] 1056 2 #[] #[])
  fields := #[]
  methods := #[k24m0]
  instanceTypes := #[]
  staticTypes := #[]
  resolved := Array.replicate 56 none
  statics := none }

def pool25 : Array CpInfo := pool [(1, .methodref 2 3), (0, .class_ 4), (0, .nameAndType 5 6), (0, u "java/util/ImmutableCollections$AbstractImmutableCollection"), (0, u "<init>"), (0, u "()V"), (1, .class_ 10), (1, u "java/util/ImmutableCollections"), (3, .class_ 16), (1, u "java/util/ImmutableCollections$AbstractImmutableList"), (60, .class_ 78), (0, u "java/util/List"), (45, .class_ 125), (0, u "java/util/RandomAccess")] 70

def k25c0 : Code := { maxStack := 1, maxLocals := 1, code := jdk_46_method_1_code, exceptionTable := #[], attributes := #[] }
def k25m0 : Method := { name := "<init>", desc := "()V", sig := { parameters := [], returnType := none }, accessFlags := 0, code := some k25c0 }
/-- java/util/ImmutableCollections$AbstractImmutableList -/
def k25 : Class := { plain "java/util/ImmutableCollections$AbstractImmutableList" (some 24) with
  accessFlags := 1056
  interfaces := #[17, 19]
  cf := some (fileOf pool25 14 #[.nestHost 8] #[{ accessFlags := 0, nameIndex := 5, descriptorIndex := 6, attributes := #[] }] 1056 2 #[77, 124] #[])
  fields := #[]
  methods := #[k25m0]
  instanceTypes := #[]
  staticTypes := #[]
  resolved := Array.replicate 196 none
  statics := none }

def pool26 : Array CpInfo := pool [(1, .methodref 2 3), (0, .class_ 4), (0, .nameAndType 5 6), (0, u "java/util/ImmutableCollections$AbstractImmutableList"), (0, u "<init>"), (0, u "()V"), (0, .methodref 8 9), (0, .class_ 10), (0, .nameAndType 11 12), (0, u "java/util/Objects"), (0, u "requireNonNull"), (0, u "(Ljava/lang/Object;)Ljava/lang/Object;"), (0, .fieldref 14 15), (0, .class_ 16), (0, .nameAndType 17 18), (0, u "java/util/ImmutableCollections$List12"), (0, u "e0"), (0, u "Ljava/lang/Object;"), (0, .fieldref 20 21), (0, .class_ 22), (0, .nameAndType 23 18), (0, u "java/util/ImmutableCollections"), (0, u "EMPTY"), (0, .fieldref 14 25), (0, .nameAndType 26 18), (0, u "e1"), (43, .class_ 71), (0, u "java/io/Serializable"), (4, u "(Ljava/lang/Object;)V"), (8, u "(Ljava/lang/Object;Ljava/lang/Object;)V"), (4, u "get"), (0, u "(I)Ljava/lang/Object;")] 33

def k26c0 : Code := { maxStack := 2, maxLocals := 2, code := jdk_44_method_1_code, exceptionTable := #[], attributes := #[] }
def k26m0 : Method := { name := "<init>", desc := "(Ljava/lang/Object;)V", sig := { parameters := [(.object "java/lang/Object")], returnType := none }, accessFlags := 0, code := some k26c0 }
def k26c1 : Code := { maxStack := 2, maxLocals := 3, code := jdk_44_method_2_code, exceptionTable := #[], attributes := #[] }
def k26m1 : Method := { name := "<init>", desc := "(Ljava/lang/Object;Ljava/lang/Object;)V", sig := { parameters := [(.object "java/lang/Object"), (.object "java/lang/Object")], returnType := none }, accessFlags := 0, code := some k26c1 }
def k26c2 : Code := { maxStack := 2, maxLocals := 2, code := jdk_44_method_5_code, exceptionTable := #[], attributes := #[] }
def k26m2 : Method := { name := "get", desc := "(I)Ljava/lang/Object;", sig := { parameters := [.int], returnType := some (.object "java/lang/Object") }, accessFlags := 1, code := some k26c2 }
/-- java/util/ImmutableCollections$List12 -/
def k26 : Class := { plain "java/util/ImmutableCollections$List12" (some 25) with
  accessFlags := 48
  interfaces := #[4]
  cf := some (fileOf pool26 14 #[.nestHost 20] #[{ accessFlags := 0, nameIndex := 5, descriptorIndex := 76, attributes := #[] }, { accessFlags := 0, nameIndex := 5, descriptorIndex := 85, attributes := #[] }, { accessFlags := 1, nameIndex := 90, descriptorIndex := 91, attributes := #[] }] 48 2 #[70] #[{ accessFlags := 18, nameIndex := 17, descriptorIndex := 18, attributes := #[] }, { accessFlags := 18, nameIndex := 26, descriptorIndex := 18, attributes := #[] }])
  fields := #[{ name := "e0", type := (.object "java/lang/Object"), accessFlags := 18, slot := 0, constantValue := 0 }, { name := "e1", type := (.object "java/lang/Object"), accessFlags := 18, slot := 1, constantValue := 0 }]
  methods := #[k26m0, k26m1, k26m2]
  instanceTypes := #[(.object "java/lang/Object"), (.object "java/lang/Object")]
  staticTypes := #[]
  resolved := Array.replicate 125 none
  statics := none }

def pool27 : Array CpInfo := pool [(1, .methodref 2 3), (0, .class_ 4), (0, .nameAndType 5 6), (0, u "java/util/ImmutableCollections$AbstractImmutableList"), (0, u "<init>"), (0, u "()V"), (0, .fieldref 8 9), (0, .class_ 10), (0, .nameAndType 11 12), (0, u "java/util/ImmutableCollections$ListN"), (0, u "elements"), (0, u "[Ljava/lang/Object;"), (0, .fieldref 8 14), (0, .nameAndType 15 16), (0, u "allowNulls"), (0, u "Z"), (42, .class_ 60), (0, u "java/io/Serializable"), (4, u "([Ljava/lang/Object;Z)V"), (13, u "get"), (0, u "(I)Ljava/lang/Object;"), (33, .class_ 115), (0, u "java/util/ImmutableCollections")] 3

def k27c0 : Code := { maxStack := 2, maxLocals := 3, code := jdk_45_method_1_code, exceptionTable := #[], attributes := #[] }
def k27m0 : Method := { name := "<init>", desc := "([Ljava/lang/Object;Z)V", sig := { parameters := [(.array (.object "java/lang/Object")), .boolean], returnType := none }, accessFlags := 2, code := some k27c0 }
def k27c1 : Code := { maxStack := 2, maxLocals := 2, code := jdk_45_method_4_code, exceptionTable := #[], attributes := #[] }
def k27m1 : Method := { name := "get", desc := "(I)Ljava/lang/Object;", sig := { parameters := [.int], returnType := some (.object "java/lang/Object") }, accessFlags := 1, code := some k27c1 }
/-- java/util/ImmutableCollections$ListN -/
def k27 : Class := { plain "java/util/ImmutableCollections$ListN" (some 25) with
  accessFlags := 48
  interfaces := #[4]
  cf := some (fileOf pool27 8 #[.nestHost 114] #[{ accessFlags := 2, nameIndex := 5, descriptorIndex := 65, attributes := #[] }, { accessFlags := 1, nameIndex := 79, descriptorIndex := 80, attributes := #[] }] 48 2 #[59] #[{ accessFlags := 18, nameIndex := 11, descriptorIndex := 12, attributes := #[] }, { accessFlags := 18, nameIndex := 15, descriptorIndex := 16, attributes := #[] }])
  fields := #[{ name := "elements", type := (.array (.object "java/lang/Object")), accessFlags := 18, slot := 0, constantValue := 0 }, { name := "allowNulls", type := .boolean, accessFlags := 18, slot := 1, constantValue := 0 }]
  methods := #[k27m0, k27m1]
  instanceTypes := #[(.array (.object "java/lang/Object")), .boolean]
  staticTypes := #[]
  resolved := Array.replicate 119 none
  statics := none }

def pool28 : Array CpInfo := pool [(1, .class_ 2), (0, u "java/lang/Math"), (1, .class_ 6), (1, u "java/lang/Object"), (0, u "<init>"), (0, u "()V"), (89, .class_ 100), (1, u "java/lang/Math$RandomNumberGeneratorHolder"), (71, u "negativeZeroFloatBits"), (0, u "J"), (2, u "negativeZeroDoubleBits"), (21, u "max"), (2, u "min"), (43, u "$assertionsDisabled"), (0, u "Z"), (88, u "(II)I"), (2, u "twoToTheDoubleScaleDown"), (0, u "D"), (4, u "twoToTheDoubleScaleUp"), (9, u "E"), (3, u "PI"), (2, u "TAU"), (2, u "DEGREES_TO_RADIANS"), (0, u "RADIANS_TO_DEGREES")] 94

def k28m0 : Method := { name := "<init>", desc := "()V", sig := { parameters := [], returnType := none }, accessFlags := 2, code := none }
def k28c1 : Code := { maxStack := 2, maxLocals := 2, code := jdk_29_method_65_code, exceptionTable := #[], attributes := #[] }
def k28m1 : Method := { name := "max", desc := "(II)I", sig := { parameters := [.int, .int], returnType := some .int }, accessFlags := 9, code := some k28c1 }
def k28c2 : Code := { maxStack := 2, maxLocals := 2, code := jdk_29_method_69_code, exceptionTable := #[], attributes := #[] }
def k28m2 : Method := { name := "min", desc := "(II)I", sig := { parameters := [.int, .int], returnType := some .int }, accessFlags := 9, code := some k28c2 }
/-- java/lang/Math -/
def k28 : Class := { plain "java/lang/Math" (some 0) with
  accessFlags := 49
  interfaces := #[]
  cf := some (fileOf pool28 1 #[.nestMembers #[98]] #[{ accessFlags := 2, nameIndex := 7, descriptorIndex := 8, attributes := #[] }, { accessFlags := 9, nameIndex := 198, descriptorIndex := 335, attributes := #[] }, { accessFlags := 9, nameIndex := 201, descriptorIndex := 335, attributes := #[] }] 49 4 #[] #[{ accessFlags := 25, nameIndex := 354, descriptorIndex := 339, attributes := #[] }, { accessFlags := 25, nameIndex := 358, descriptorIndex := 339, attributes := #[] }, { accessFlags := 25, nameIndex := 361, descriptorIndex := 339, attributes := #[] }, { accessFlags := 26, nameIndex := 364, descriptorIndex := 339, attributes := #[] }, { accessFlags := 26, nameIndex := 365, descriptorIndex := 339, attributes := #[] }, { accessFlags := 26, nameIndex := 172, descriptorIndex := 173, attributes := #[] }, { accessFlags := 26, nameIndex := 176, descriptorIndex := 173, attributes := #[] }, { accessFlags := 8, nameIndex := 344, descriptorIndex := 339, attributes := #[] }, { accessFlags := 8, nameIndex := 338, descriptorIndex := 339, attributes := #[] }, { accessFlags := 4120, nameIndex := 245, descriptorIndex := 246, attributes := #[] }])
  fields := #[{ name := "E", type := .double, accessFlags := 25, slot := 0, constantValue := 0 }, { name := "PI", type := .double, accessFlags := 25, slot := 1, constantValue := 0 }, { name := "TAU", type := .double, accessFlags := 25, slot := 2, constantValue := 0 }, { name := "DEGREES_TO_RADIANS", type := .double, accessFlags := 26, slot := 3, constantValue := 0 }, { name := "RADIANS_TO_DEGREES", type := .double, accessFlags := 26, slot := 4, constantValue := 0 }, { name := "negativeZeroFloatBits", type := .long, accessFlags := 26, slot := 5, constantValue := 0 }, { name := "negativeZeroDoubleBits", type := .long, accessFlags := 26, slot := 6, constantValue := 0 }, { name := "twoToTheDoubleScaleUp", type := .double, accessFlags := 8, slot := 7, constantValue := 0 }, { name := "twoToTheDoubleScaleDown", type := .double, accessFlags := 8, slot := 8, constantValue := 0 }, { name := "$assertionsDisabled", type := .boolean, accessFlags := 4120, slot := 9, constantValue := 0 }]
  methods := #[k28m0, k28m1, k28m2]
  instanceTypes := #[]
  staticTypes := #[.double, .double, .double, .double, .double, .long, .long, .double, .double, .boolean]
  resolved := Array.replicate 460 none
  statics := none }

def pool29 : Array CpInfo := pool [(2, .class_ 4), (1, u "java/lang/Object"), (0, u "<init>"), (0, u "()V"), (7, .class_ 16), (1, u "java/util/Arrays"), (57, .class_ 76), (1, u "java/util/Arrays$NaturalOrder"), (9, .methodref 2 87), (0, .nameAndType 88 89), (0, u "getClass"), (0, u "()Ljava/lang/Class;"), (20, .class_ 111), (0, u "[Ljava/lang/Object;"), (1, .class_ 115), (1, u "java/util/Arrays$LegacyMergeSort"), (1, u "Z"), (32, .methodref 151 152), (0, .class_ 153), (0, .nameAndType 154 155), (0, u "java/lang/System"), (0, u "arraycopy"), (0, u "(Ljava/lang/Object;ILjava/lang/Object;II)V"), (144, .methodref 14 301), (0, .nameAndType 302 303), (0, u "copyOf"), (0, u "([Ljava/lang/Object;ILjava/lang/Class;)[Ljava/lang/Object;"), (0, .methodref 305 306), (0, .class_ 307), (0, .nameAndType 308 309), (0, u "java/lang/Math"), (0, u "min"), (0, u "(II)I"), (65, .class_ 376), (0, u "java/util/Arrays$ArrayList"), (68, u "$assertionsDisabled"), (269, u "MIN_ARRAY_SORT_GRAN"), (0, u "I"), (2, u "INSERTIONSORT_THRESHOLD"), (140, u "([Ljava/lang/Object;I)[Ljava/lang/Object;"), (114, .class_ 976), (0, u "java/util/Arrays$ArrayItr")] 52

def k29m0 : Method := { name := "<init>", desc := "()V", sig := { parameters := [], returnType := none }, accessFlags := 2, code := none }
def k29c1 : Code := { maxStack := 3, maxLocals := 2, code := jdk_65_method_119_code, exceptionTable := #[], attributes := #[] }
def k29m1 : Method := { name := "copyOf", desc := "([Ljava/lang/Object;I)[Ljava/lang/Object;", sig := { parameters := [(.array (.object "java/lang/Object")), .int], returnType := some (.array (.object "java/lang/Object")) }, accessFlags := 9, code := some k29c1 }
def k29c2 : Code := { maxStack := 6, maxLocals := 4, code := jdk_65_method_120_code, exceptionTable := #[], attributes := #[] }
def k29m2 : Method := { name := "copyOf", desc := "([Ljava/lang/Object;ILjava/lang/Class;)[Ljava/lang/Object;", sig := { parameters := [(.array (.object "java/lang/Object")), .int, (.object "java/lang/Class")], returnType := some (.array (.object "java/lang/Object")) }, accessFlags := 9, code := some k29c2 }
/-- java/util/Arrays -/
def k29 : Class := { plain "java/util/Arrays" (some 0) with
  accessFlags := 49
  interfaces := #[]
  cf := some (fileOf pool29 14 #[.nestMembers #[975, 375, 113, 74]] #[{ accessFlags := 2, nameIndex := 5, descriptorIndex := 6, attributes := #[] }, { accessFlags := 9, nameIndex := 302, descriptorIndex := 860, attributes := #[] }, { accessFlags := 9, nameIndex := 302, descriptorIndex := 303, attributes := #[] }] 49 2 #[] #[{ accessFlags := 26, nameIndex := 715, descriptorIndex := 716, attributes := #[] }, { accessFlags := 26, nameIndex := 719, descriptorIndex := 716, attributes := #[] }, { accessFlags := 4120, nameIndex := 445, descriptorIndex := 117, attributes := #[] }])
  fields := #[{ name := "MIN_ARRAY_SORT_GRAN", type := .int, accessFlags := 26, slot := 0, constantValue := 0 }, { name := "INSERTIONSORT_THRESHOLD", type := .int, accessFlags := 26, slot := 1, constantValue := 0 }, { name := "$assertionsDisabled", type := .boolean, accessFlags := 4120, slot := 2, constantValue := 0 }]
  methods := #[k29m0, k29m1, k29m2]
  instanceTypes := #[]
  staticTypes := #[.int, .int, .boolean]
  resolved := Array.replicate 1029 none
  statics := none }

def pool30 : Array CpInfo := pool [(2, .class_ 4), (1, u "java/lang/Object"), (0, u "<init>"), (0, u "()V"), (1, .class_ 10), (1, u "java/lang/System"), (0, u "allowSecurityManager"), (0, u "I"), (16, u "cons"), (0, u "Ljava/io/Console;"), (77, .class_ 110), (1, u "java/lang/System$CallersHolder"), (43, u "initialErrStream"), (0, u "Ljava/io/PrintStream;"), (19, u "security"), (0, u "Ljava/lang/SecurityManager;"), (31, .class_ 209), (0, u "java/lang/System$1"), (7, u "props"), (0, u "Ljava/util/Properties;"), (2, u "lineSeparator"), (0, u "Ljava/lang/String;"), (96, .class_ 321), (1, u "java/lang/System$LoggerFinder"), (5, .class_ 328), (0, u "java/lang/System$Logger"), (67, u "err"), (2, u "out"), (91, u "notSupportedJnuEncoding"), (15, u "in"), (17, u "initialIn"), (0, u "Ljava/io/InputStream;"), (35, u "bootLayer"), (0, u "Ljava/lang/ModuleLayer;"), (99, .class_ 664), (0, u "java/lang/System$2"), (9, u "NEVER"), (2, u "MAYBE"), (49, u "arraycopy"), (0, u "(Ljava/lang/Object;ILjava/lang/Object;II)V"), (72, .class_ 802), (0, u "java/lang/System$Logger$Level")] 31

def k30m0 : Method := { name := "<init>", desc := "()V", sig := { parameters := [], returnType := none }, accessFlags := 2, code := none }
def k30m1 : Method := { name := "arraycopy", desc := "(Ljava/lang/Object;ILjava/lang/Object;II)V", sig := { parameters := [(.object "java/lang/Object"), .int, (.object "java/lang/Object"), .int, .int], returnType := none }, accessFlags := 265, code := none }
/-- java/lang/System -/
def k30 : Class := { plain "java/lang/System" (some 0) with
  accessFlags := 49
  interfaces := #[]
  cf := some (fileOf pool30 8 #[.nestMembers #[319, 327, 801, 108, 663, 208]] #[{ accessFlags := 2, nameIndex := 5, descriptorIndex := 6, attributes := #[] }, { accessFlags := 265, nameIndex := 727, descriptorIndex := 728, attributes := #[] }] 49 2 #[] #[{ accessFlags := 25, nameIndex := 507, descriptorIndex := 526, attributes := #[] }, { accessFlags := 25, nameIndex := 399, descriptorIndex := 155, attributes := #[] }, { accessFlags := 25, nameIndex := 396, descriptorIndex := 155, attributes := #[] }, { accessFlags := 10, nameIndex := 525, descriptorIndex := 526, attributes := #[] }, { accessFlags := 26, nameIndex := 674, descriptorIndex := 12, attributes := #[] }, { accessFlags := 26, nameIndex := 677, descriptorIndex := 12, attributes := #[] }, { accessFlags := 10, nameIndex := 11, descriptorIndex := 12, attributes := #[] }, { accessFlags := 74, nameIndex := 175, descriptorIndex := 176, attributes := #[] }, { accessFlags := 10, nameIndex := 491, descriptorIndex := 222, attributes := #[] }, { accessFlags := 74, nameIndex := 29, descriptorIndex := 30, attributes := #[] }, { accessFlags := 74, nameIndex := 154, descriptorIndex := 155, attributes := #[] }, { accessFlags := 10, nameIndex := 217, descriptorIndex := 218, attributes := #[] }, { accessFlags := 10, nameIndex := 221, descriptorIndex := 222, attributes := #[] }, { accessFlags := 8, nameIndex := 562, descriptorIndex := 563, attributes := #[] }])
  fields := #[{ name := "in", type := (.object "java/io/InputStream"), accessFlags := 25, slot := 0, constantValue := 0 }, { name := "out", type := (.object "java/io/PrintStream"), accessFlags := 25, slot := 1, constantValue := 0 }, { name := "err", type := (.object "java/io/PrintStream"), accessFlags := 25, slot := 2, constantValue := 0 }, { name := "initialIn", type := (.object "java/io/InputStream"), accessFlags := 10, slot := 3, constantValue := 0 }, { name := "NEVER", type := .int, accessFlags := 26, slot := 4, constantValue := 0 }, { name := "MAYBE", type := .int, accessFlags := 26, slot := 5, constantValue := 0 }, { name := "allowSecurityManager", type := .int, accessFlags := 10, slot := 6, constantValue := 0 }, { name := "security", type := (.object "java/lang/SecurityManager"), accessFlags := 74, slot := 7, constantValue := 0 }, { name := "notSupportedJnuEncoding", type := (.object "java/lang/String"), accessFlags := 10, slot := 8, constantValue := 0 }, { name := "cons", type := (.object "java/io/Console"), accessFlags := 74, slot := 9, constantValue := 0 }, { name := "initialErrStream", type := (.object "java/io/PrintStream"), accessFlags := 74, slot := 10, constantValue := 0 }, { name := "props", type := (.object "java/util/Properties"), accessFlags := 10, slot := 11, constantValue := 0 }, { name := "lineSeparator", type := (.object "java/lang/String"), accessFlags := 10, slot := 12, constantValue := 0 }, { name := "bootLayer", type := (.object "java/lang/ModuleLayer"), accessFlags := 8, slot := 13, constantValue := 0 }]
  methods := #[k30m0, k30m1]
  instanceTypes := #[]
  staticTypes := #[(.object "java/io/InputStream"), (.object "java/io/PrintStream"), (.object "java/io/PrintStream"), (.object "java/io/InputStream"), .int, .int, .int, (.object "java/lang/SecurityManager"), (.object "java/lang/String"), (.object "java/io/Console"), (.object "java/io/PrintStream"), (.object "java/util/Properties"), (.object "java/lang/String"), (.object "java/lang/ModuleLayer")]
  resolved := Array.replicate 834 none
  statics := none }

def pool31 : Array CpInfo := pool [(1, u "java/lang/Class"), (0, .class_ 1), (0, u "java/lang/Object"), (0, .class_ 3)] 0

/-- java/lang/Class -/
def k31 : Class := { plain "java/lang/Class" (some 0) with
  accessFlags := 49
  interfaces := #[]
  cf := some (fileOf pool31 2 #[] #[] 49 4 #[] #[])
  fields := #[]
  methods := #[]
  instanceTypes := #[]
  staticTypes := #[]
  resolved := Array.replicate 5 none
  statics := none }

/-- the primitive byte -/
def k32 : Class := { plain "byte" none with kind := .primitive 'B', accessFlags := 0x411 }
/-- [B -/
def k33 : Class := { plain "[B" (some 0) with kind := .array 32 .byte, interfaces := #[20, 4], accessFlags := 1041 }

/-- the primitive int -/
def k34 : Class := { plain "int" none with kind := .primitive 'I', accessFlags := 0x411 }
/-- [I -/
def k35 : Class := { plain "[I" (some 0) with kind := .array 34 .int, interfaces := #[20, 4], accessFlags := 1041 }

/-- [Ljava/lang/Object; -/
def k36 : Class := { plain "[Ljava/lang/Object;" (some 0) with kind := .array 0 (.object "java/lang/Object"), interfaces := #[20, 4], accessFlags := 1041, mirror := some 3 }

def heap : Heap := #[{ cls := 6, slots := #[.null, .null, .null, .null, .null, .null, .null, .null, .null, .null, .null, .null, .ref 6, .null, .ref 4, .ref 5, .null, .null, .null, .null, .null, .null, .null, .null, .null, .null, .null, .null, .null, .null, .null, .null, .null, .null, .null, .null, .null, .null, .null, .null, .null, .null, .null, .null, .null, .null], vm := .statics 6 },
  { cls := 21, slots := #[.long 0, .int 0, .ref 7, .ref 8], vm := .statics 21 },
  { cls := 23, slots := #[.long 0, .int 0, .null, .ref 10, .ref 9, .null, .null, .null, .int 0, .int 1], vm := .statics 23 },
  { cls := 31, slots := #[], vm := .mirror 36 },
  { cls := 6, slots := #[.null, .int 0, .int 0], vm := .none },
  { cls := 6, slots := #[.null, .int 1, .int 0], vm := .none },
  { cls := 6, slots := #[.null, .int 2, .int 0], vm := .none },
  { cls := 36, slots := #[], vm := .none },
  { cls := 36, slots := #[], vm := .none },
  { cls := 27, slots := #[.ref 7, .int 0], vm := .none },
  { cls := 0, slots := #[], vm := .none }]
def classes : Array Class := #[k0, k1, k2, k3, k4, k5, k6, k7, k8, k9, k10, k11, k12, k13, k14, k15, k16, k17, k18, k19, k20, k21, k22, k23, k24, k25, k26, k27, k28, k29, k30, k31, k32, k33, k34, k35, k36]
def interned : List (Array UInt16 × Addr) := []
def slotsUsed : Nat := 71
def theMethod : MethodId := ⟨1, 2⟩
def args0 : Array Value := #[.int 65, .int 5, .int 15]
def aboutOver (below : List Frame) : State where
  vm := { classes := classes, interned := interned.toArray }
  heap := heap
  slotsUsed := slotsUsed
  threads := #[{ frames := .invoking theMethod args0 :: below }]
def below0 : List Frame := [.native { method := ⟨0, 0⟩, args := #[] }]
def about1 : State := aboutOver below0
def p0 : Program := .bare "" "" ""
def e0 : Env := launch0.env 0 0 0
theorem w_frames : about1.frames = Frame.invoking theMethod args0 :: below0 := rfl
set_option maxRecDepth 65536 in
theorem w_args : argsFit about1.vm theMethod args0 = true := by decide +kernel
set_option maxRecDepth 65536 in
theorem w_heap : heapFits about1 = true := by decide +kernel
set_option maxRecDepth 65536 in
theorem w_runnable : about1.curStatus? = some .runnable := by decide +kernel
set_option maxRecDepth 65536 in
theorem w_alone : about1.alone = true := by decide +kernel
set_option maxRecDepth 65536 in
theorem w_named : about1.methodNamed? x = some theMethod := by decide +kernel
set_option maxRecDepth 65536 in
theorem w_hears : about1.hears theMethod below0 = true := by decide +kernel
set_option maxRecDepth 65536 in
theorem w_ripe : about1.ripe theMethod args0 below0 = true := by decide +kernel
theorem w_running : about1.status = .running := rfl
set_option maxRecDepth 65536 in
theorem w_room : about1.hasRoom e0.platform room_1 = true :=
  launch0.hasRoom_least _ room_1 (by decide +kernel) (by decide +kernel) (by decide +kernel) (by decide +kernel) (by decide +kernel) (by decide +kernel)
theorem allAtoms_all (ts : List Jvm.Cond) (a : Array Jvm.Value) (st : Jvm.State) : (allAtoms ts).before a st = ts.all (fun c => c.before a st) := by
  induction ts with
  | nil => rfl
  | cons c t ih =>
    show (Jvm.Cond.and c (allAtoms t)).before a st = _
    rw [Jvm.Cond.before_and, ih, List.all_cons]
def words1 : List Jvm.Cond := Jvm.Cond.code x code maxLocals ret :: tables_1
/-- a 'code' word, met by the world's own term for the bytes: nothing is compared byte by byte -/
theorem code_word {y : MethodName} {bytes : ByteArray} {mx : Nat} {rt : Option FieldType} {a : Array Value} {s : State} {m : MethodId} {meth : Method} {c : Code} (h1 : s.methodNamed? y = some m) (h2 : s.vm.method? m = some meth) (h3 : meth.code = some c) (h4 : c.code = bytes)
    (h5 : (c.maxLocals == mx && c.exceptionTable.isEmpty && decide (c.maxStack ≤ mostOperands) && decide (meth.sig.returnType = rt) && !meth.locks && decide (parseMethodDescriptor y.desc = some meth.sig)) = true) : (Jvm.Cond.code y bytes mx rt).before a s = true := by
  simp only [Bool.and_eq_true, beq_iff_eq, Bool.not_eq_true', decide_eq_true_eq] at h5
  obtain ⟨⟨⟨⟨⟨g1, g2⟩, g3⟩, g4⟩, g5⟩, g6⟩ := h5
  simp [Cond.before, Cond.holds, Cond.value, h1, h2, h3, h4, g1, g2, g3, g4, g5, g6]
def isCode : Jvm.Cond → Bool
  | .code _ _ _ _ => true
  | _ => false
theorem all_split {L : List Jvm.Cond} {P : Jvm.Cond → Bool} (h1 : L.all (fun c => isCode c || P c) = true) (h2 : ∀ c ∈ L.filter isCode, P c = true) : L.all P = true := by
  refine List.all_eq_true.mpr fun c hc => ?_
  have h := List.all_eq_true.mp h1 c hc
  rcases Bool.eq_false_or_eq_true (isCode c) with hi | hi
  · exact h2 c (List.mem_filter.mpr ⟨hc, hi⟩)
  · simpa [hi] using h
set_option maxRecDepth 65536 in
theorem w_c0 : (Jvm.Cond.code x code maxLocals ret).before args0 about1 = true := code_word (m := ⟨1, 2⟩) (meth := k1m2) (c := k1c2) (by decide +kernel) rfl rfl rfl (by decide +kernel)
set_option maxRecDepth 65536 in
theorem w_c1 : (Jvm.Cond.code ({ cls := "com/example/congruent/congruent/core/TreeNodePinLaw", name := "child", desc := "(Lcom/example/congruent/congruent/core/Tree$Kind;)Lcom/example/congruent/congruent/core/Tree$Node;" } : Jvm.MethodName) method_2_code (1 : Nat) (Option.some (Jvm.ClassFile.FieldType.object "com/example/congruent/congruent/core/Tree$Node"))).before args0 about1 = true := code_word (m := ⟨1, 1⟩) (meth := k1m1) (c := k1c1) (by decide +kernel) rfl rfl rfl (by decide +kernel)
set_option maxRecDepth 65536 in
theorem w_c2 : (Jvm.Cond.code ({ cls := "java/util/ArrayList", name := "<init>", desc := "()V" } : Jvm.MethodName) jdk_38_method_2_code (1 : Nat) (Option.none : Option Jvm.ClassFile.FieldType)).before args0 about1 = true := code_word (m := ⟨21, 0⟩) (meth := k21m0) (c := k21c0) (by decide +kernel) rfl rfl rfl (by decide +kernel)
set_option maxRecDepth 65536 in
theorem w_c3 : (Jvm.Cond.code ({ cls := "java/util/AbstractList", name := "<init>", desc := "()V" } : Jvm.MethodName) jdk_39_method_1_code (1 : Nat) (Option.none : Option Jvm.ClassFile.FieldType)).before args0 about1 = true := code_word (m := ⟨18, 0⟩) (meth := k18m0) (c := k18c0) (by decide +kernel) rfl rfl rfl (by decide +kernel)
set_option maxRecDepth 65536 in
theorem w_c4 : (Jvm.Cond.code ({ cls := "java/util/AbstractCollection", name := "<init>", desc := "()V" } : Jvm.MethodName) jdk_22_method_1_code (1 : Nat) (Option.none : Option Jvm.ClassFile.FieldType)).before args0 about1 = true := code_word (m := ⟨15, 0⟩) (meth := k15m0) (c := k15c0) (by decide +kernel) rfl rfl rfl (by decide +kernel)
set_option maxRecDepth 65536 in
theorem w_c5 : (Jvm.Cond.code ({ cls := "java/lang/Object", name := "<init>", desc := "()V" } : Jvm.MethodName) object_method_1_code (1 : Nat) (Option.none : Option Jvm.ClassFile.FieldType)).before args0 about1 = true := code_word (m := ⟨0, 0⟩) (meth := k0m0) (c := k0c0) (by decide +kernel) rfl rfl rfl (by decide +kernel)
set_option maxRecDepth 65536 in
theorem w_c6 : (Jvm.Cond.code ({ cls := "com/example/congruent/congruent/core/Tree$Node", name := "<init>", desc := "(Lcom/example/congruent/congruent/core/Tree$Kind;Ljava/lang/String;Ljava/util/List;Ljava/util/List;)V" } : Jvm.MethodName) prog_27_method_1_code (5 : Nat) (Option.none : Option Jvm.ClassFile.FieldType)).before args0 about1 = true := code_word (m := ⟨9, 0⟩) (meth := k9m0) (c := k9c0) (by decide +kernel) rfl rfl rfl (by decide +kernel)
set_option maxRecDepth 65536 in
theorem w_c7 : (Jvm.Cond.code ({ cls := "java/lang/Record", name := "<init>", desc := "()V" } : Jvm.MethodName) jdk_30_method_1_code (1 : Nat) (Option.none : Option Jvm.ClassFile.FieldType)).before args0 about1 = true := code_word (m := ⟨7, 0⟩) (meth := k7m0) (c := k7c0) (by decide +kernel) rfl rfl rfl (by decide +kernel)
set_option maxRecDepth 65536 in
theorem w_c8 : (Jvm.Cond.code ({ cls := "java/util/Objects", name := "requireNonNull", desc := "(Ljava/lang/Object;Ljava/lang/String;)Ljava/lang/Object;" } : Jvm.MethodName) jdk_31_method_11_code (2 : Nat) (Option.some (Jvm.ClassFile.FieldType.object "java/lang/Object"))).before args0 about1 = true := code_word (m := ⟨22, 2⟩) (meth := k22m2) (c := k22c2) (by decide +kernel) rfl rfl rfl (by decide +kernel)
set_option maxRecDepth 65536 in
theorem w_c9 : (Jvm.Cond.code ({ cls := "java/util/List", name := "copyOf", desc := "(Ljava/util/Collection;)Ljava/util/List;" } : Jvm.MethodName) jdk_40_method_48_code (1 : Nat) (Option.some (Jvm.ClassFile.FieldType.object "java/util/List"))).before args0 about1 = true := code_word (m := ⟨17, 3⟩) (meth := k17m3) (c := k17c3) (by decide +kernel) rfl rfl rfl (by decide +kernel)
set_option maxRecDepth 65536 in
theorem w_c10 : (Jvm.Cond.code ({ cls := "java/util/ImmutableCollections", name := "listCopy", desc := "(Ljava/util/Collection;)Ljava/util/List;" } : Jvm.MethodName) jdk_56_method_3_code (2 : Nat) (Option.some (Jvm.ClassFile.FieldType.object "java/util/List"))).before args0 about1 = true := code_word (m := ⟨23, 1⟩) (meth := k23m1) (c := k23c1) (by decide +kernel) rfl rfl rfl (by decide +kernel)
set_option maxRecDepth 65536 in
theorem w_c11 : (Jvm.Cond.code ({ cls := "java/util/ArrayList", name := "isEmpty", desc := "()Z" } : Jvm.MethodName) jdk_38_method_9_code (1 : Nat) (Option.some Jvm.ClassFile.FieldType.boolean)).before args0 about1 = true := code_word (m := ⟨21, 3⟩) (meth := k21m3) (c := k21c3) (by decide +kernel) rfl rfl rfl (by decide +kernel)
set_option maxRecDepth 65536 in
theorem w_c12 : (Jvm.Cond.code ({ cls := "java/util/List", name := "of", desc := "()Ljava/util/List;" } : Jvm.MethodName) jdk_40_method_36_code (0 : Nat) (Option.some (Jvm.ClassFile.FieldType.object "java/util/List"))).before args0 about1 = true := code_word (m := ⟨17, 1⟩) (meth := k17m1) (c := k17c1) (by decide +kernel) rfl rfl rfl (by decide +kernel)
set_option maxRecDepth 65536 in
theorem w_c13 : (Jvm.Cond.code ({ cls := "java/util/ArrayList", name := "add", desc := "(Ljava/lang/Object;)Z" } : Jvm.MethodName) jdk_38_method_25_code (2 : Nat) (Option.some Jvm.ClassFile.FieldType.boolean)).before args0 about1 = true := code_word (m := ⟨21, 6⟩) (meth := k21m6) (c := k21c6) (by decide +kernel) rfl rfl rfl (by decide +kernel)
set_option maxRecDepth 65536 in
theorem w_c14 : (Jvm.Cond.code ({ cls := "java/util/ArrayList", name := "add", desc := "(Ljava/lang/Object;[Ljava/lang/Object;I)V" } : Jvm.MethodName) jdk_38_method_24_code (4 : Nat) (Option.none : Option Jvm.ClassFile.FieldType)).before args0 about1 = true := code_word (m := ⟨21, 5⟩) (meth := k21m5) (c := k21c5) (by decide +kernel) rfl rfl rfl (by decide +kernel)
set_option maxRecDepth 65536 in
theorem w_c15 : (Jvm.Cond.code ({ cls := "java/util/ArrayList", name := "grow", desc := "()[Ljava/lang/Object;" } : Jvm.MethodName) jdk_38_method_7_code (1 : Nat) (Option.some (Jvm.ClassFile.FieldType.array (Jvm.ClassFile.FieldType.object "java/lang/Object")))).before args0 about1 = true := code_word (m := ⟨21, 2⟩) (meth := k21m2) (c := k21c2) (by decide +kernel) rfl rfl rfl (by decide +kernel)
set_option maxRecDepth 65536 in
theorem w_c16 : (Jvm.Cond.code ({ cls := "java/util/ArrayList", name := "grow", desc := "(I)[Ljava/lang/Object;" } : Jvm.MethodName) jdk_38_method_6_code (4 : Nat) (Option.some (Jvm.ClassFile.FieldType.array (Jvm.ClassFile.FieldType.object "java/lang/Object")))).before args0 about1 = true := code_word (m := ⟨21, 1⟩) (meth := k21m1) (c := k21c1) (by decide +kernel) rfl rfl rfl (by decide +kernel)
set_option maxRecDepth 65536 in
theorem w_c17 : (Jvm.Cond.code ({ cls := "java/lang/Math", name := "max", desc := "(II)I" } : Jvm.MethodName) jdk_29_method_65_code (2 : Nat) (Option.some Jvm.ClassFile.FieldType.int)).before args0 about1 = true := code_word (m := ⟨28, 1⟩) (meth := k28m1) (c := k28c1) (by decide +kernel) rfl rfl rfl (by decide +kernel)
set_option maxRecDepth 65536 in
theorem w_c18 : (Jvm.Cond.code ({ cls := "java/util/ArrayList", name := "toArray", desc := "()[Ljava/lang/Object;" } : Jvm.MethodName) jdk_38_method_16_code (1 : Nat) (Option.some (Jvm.ClassFile.FieldType.array (Jvm.ClassFile.FieldType.object "java/lang/Object")))).before args0 about1 = true := code_word (m := ⟨21, 4⟩) (meth := k21m4) (c := k21c4) (by decide +kernel) rfl rfl rfl (by decide +kernel)
set_option maxRecDepth 65536 in
theorem w_c19 : (Jvm.Cond.code ({ cls := "java/util/Arrays", name := "copyOf", desc := "([Ljava/lang/Object;I)[Ljava/lang/Object;" } : Jvm.MethodName) jdk_65_method_119_code (2 : Nat) (Option.some (Jvm.ClassFile.FieldType.array (Jvm.ClassFile.FieldType.object "java/lang/Object")))).before args0 about1 = true := code_word (m := ⟨29, 1⟩) (meth := k29m1) (c := k29c1) (by decide +kernel) rfl rfl rfl (by decide +kernel)
set_option maxRecDepth 65536 in
theorem w_c20 : (Jvm.Cond.code ({ cls := "java/util/Arrays", name := "copyOf", desc := "([Ljava/lang/Object;ILjava/lang/Class;)[Ljava/lang/Object;" } : Jvm.MethodName) jdk_65_method_120_code (4 : Nat) (Option.some (Jvm.ClassFile.FieldType.array (Jvm.ClassFile.FieldType.object "java/lang/Object")))).before args0 about1 = true := code_word (m := ⟨29, 2⟩) (meth := k29m2) (c := k29c2) (by decide +kernel) rfl rfl rfl (by decide +kernel)
set_option maxRecDepth 65536 in
theorem w_c21 : (Jvm.Cond.code ({ cls := "java/lang/Math", name := "min", desc := "(II)I" } : Jvm.MethodName) jdk_29_method_69_code (2 : Nat) (Option.some Jvm.ClassFile.FieldType.int)).before args0 about1 = true := code_word (m := ⟨28, 2⟩) (meth := k28m2) (c := k28c2) (by decide +kernel) rfl rfl rfl (by decide +kernel)
set_option maxRecDepth 65536 in
theorem w_c22 : (Jvm.Cond.code ({ cls := "java/util/List", name := "of", desc := "([Ljava/lang/Object;)Ljava/util/List;" } : Jvm.MethodName) jdk_40_method_47_code (2 : Nat) (Option.some (Jvm.ClassFile.FieldType.object "java/util/List"))).before args0 about1 = true := code_word (m := ⟨17, 2⟩) (meth := k17m2) (c := k17c2) (by decide +kernel) rfl rfl rfl (by decide +kernel)
set_option maxRecDepth 65536 in
theorem w_c23 : (Jvm.Cond.code ({ cls := "java/util/ImmutableCollections$List12", name := "<init>", desc := "(Ljava/lang/Object;)V" } : Jvm.MethodName) jdk_44_method_1_code (2 : Nat) (Option.none : Option Jvm.ClassFile.FieldType)).before args0 about1 = true := code_word (m := ⟨26, 0⟩) (meth := k26m0) (c := k26c0) (by decide +kernel) rfl rfl rfl (by decide +kernel)
set_option maxRecDepth 65536 in
theorem w_c24 : (Jvm.Cond.code ({ cls := "java/util/ImmutableCollections$AbstractImmutableList", name := "<init>", desc := "()V" } : Jvm.MethodName) jdk_46_method_1_code (1 : Nat) (Option.none : Option Jvm.ClassFile.FieldType)).before args0 about1 = true := code_word (m := ⟨25, 0⟩) (meth := k25m0) (c := k25c0) (by decide +kernel) rfl rfl rfl (by decide +kernel)
set_option maxRecDepth 65536 in
theorem w_c25 : (Jvm.Cond.code ({ cls := "java/util/ImmutableCollections$AbstractImmutableCollection", name := "<init>", desc := "()V" } : Jvm.MethodName) jdk_47_method_1_code (1 : Nat) (Option.none : Option Jvm.ClassFile.FieldType)).before args0 about1 = true := code_word (m := ⟨24, 0⟩) (meth := k24m0) (c := k24c0) (by decide +kernel) rfl rfl rfl (by decide +kernel)
set_option maxRecDepth 65536 in
theorem w_c26 : (Jvm.Cond.code ({ cls := "java/util/Objects", name := "requireNonNull", desc := "(Ljava/lang/Object;)Ljava/lang/Object;" } : Jvm.MethodName) jdk_31_method_10_code (1 : Nat) (Option.some (Jvm.ClassFile.FieldType.object "java/lang/Object"))).before args0 about1 = true := code_word (m := ⟨22, 1⟩) (meth := k22m1) (c := k22c1) (by decide +kernel) rfl rfl rfl (by decide +kernel)
set_option maxRecDepth 65536 in
theorem w_c27 : (Jvm.Cond.code ({ cls := "java/util/ImmutableCollections$List12", name := "<init>", desc := "(Ljava/lang/Object;Ljava/lang/Object;)V" } : Jvm.MethodName) jdk_44_method_2_code (3 : Nat) (Option.none : Option Jvm.ClassFile.FieldType)).before args0 about1 = true := code_word (m := ⟨26, 1⟩) (meth := k26m1) (c := k26c1) (by decide +kernel) rfl rfl rfl (by decide +kernel)
set_option maxRecDepth 65536 in
theorem w_c28 : (Jvm.Cond.code ({ cls := "com/example/congruent/congruent/core/Tree$Node", name := "node", desc := "(I)Lcom/example/congruent/congruent/core/Tree$Node;" } : Jvm.MethodName) prog_27_method_4_code (2 : Nat) (Option.some (Jvm.ClassFile.FieldType.object "com/example/congruent/congruent/core/Tree$Node"))).before args0 about1 = true := code_word (m := ⟨9, 1⟩) (meth := k9m1) (c := k9c1) (by decide +kernel) rfl rfl rfl (by decide +kernel)
set_option maxRecDepth 65536 in
theorem w_c29 : (Jvm.Cond.code ({ cls := "java/util/ImmutableCollections$List12", name := "get", desc := "(I)Ljava/lang/Object;" } : Jvm.MethodName) jdk_44_method_5_code (2 : Nat) (Option.some (Jvm.ClassFile.FieldType.object "java/lang/Object"))).before args0 about1 = true := code_word (m := ⟨26, 2⟩) (meth := k26m2) (c := k26c2) (by decide +kernel) rfl rfl rfl (by decide +kernel)
set_option maxRecDepth 65536 in
theorem w_c30 : (Jvm.Cond.code ({ cls := "java/util/ImmutableCollections", name := "listFromArray", desc := "([Ljava/lang/Object;)Ljava/util/List;" } : Jvm.MethodName) jdk_56_method_4_code (3 : Nat) (Option.some (Jvm.ClassFile.FieldType.object "java/util/List"))).before args0 about1 = true := code_word (m := ⟨23, 2⟩) (meth := k23m2) (c := k23c2) (by decide +kernel) rfl rfl rfl (by decide +kernel)
set_option maxRecDepth 65536 in
theorem w_c31 : (Jvm.Cond.code ({ cls := "java/util/ImmutableCollections$ListN", name := "<init>", desc := "([Ljava/lang/Object;Z)V" } : Jvm.MethodName) jdk_45_method_1_code (3 : Nat) (Option.none : Option Jvm.ClassFile.FieldType)).before args0 about1 = true := code_word (m := ⟨27, 0⟩) (meth := k27m0) (c := k27c0) (by decide +kernel) rfl rfl rfl (by decide +kernel)
set_option maxRecDepth 65536 in
theorem w_c32 : (Jvm.Cond.code ({ cls := "java/util/ImmutableCollections$ListN", name := "get", desc := "(I)Ljava/lang/Object;" } : Jvm.MethodName) jdk_45_method_4_code (2 : Nat) (Option.some (Jvm.ClassFile.FieldType.object "java/lang/Object"))).before args0 about1 = true := code_word (m := ⟨27, 1⟩) (meth := k27m1) (c := k27c1) (by decide +kernel) rfl rfl rfl (by decide +kernel)
def codes1 : List Jvm.Cond := [Jvm.Cond.code x code maxLocals ret, Jvm.Cond.code ({ cls := "com/example/congruent/congruent/core/TreeNodePinLaw", name := "child", desc := "(Lcom/example/congruent/congruent/core/Tree$Kind;)Lcom/example/congruent/congruent/core/Tree$Node;" } : Jvm.MethodName) method_2_code (1 : Nat) (Option.some (Jvm.ClassFile.FieldType.object "com/example/congruent/congruent/core/Tree$Node")), Jvm.Cond.code ({ cls := "java/util/ArrayList", name := "<init>", desc := "()V" } : Jvm.MethodName) jdk_38_method_2_code (1 : Nat) (Option.none : Option Jvm.ClassFile.FieldType), Jvm.Cond.code ({ cls := "java/util/AbstractList", name := "<init>", desc := "()V" } : Jvm.MethodName) jdk_39_method_1_code (1 : Nat) (Option.none : Option Jvm.ClassFile.FieldType), Jvm.Cond.code ({ cls := "java/util/AbstractCollection", name := "<init>", desc := "()V" } : Jvm.MethodName) jdk_22_method_1_code (1 : Nat) (Option.none : Option Jvm.ClassFile.FieldType), Jvm.Cond.code ({ cls := "java/lang/Object", name := "<init>", desc := "()V" } : Jvm.MethodName) object_method_1_code (1 : Nat) (Option.none : Option Jvm.ClassFile.FieldType), Jvm.Cond.code ({ cls := "com/example/congruent/congruent/core/Tree$Node", name := "<init>", desc := "(Lcom/example/congruent/congruent/core/Tree$Kind;Ljava/lang/String;Ljava/util/List;Ljava/util/List;)V" } : Jvm.MethodName) prog_27_method_1_code (5 : Nat) (Option.none : Option Jvm.ClassFile.FieldType), Jvm.Cond.code ({ cls := "java/lang/Record", name := "<init>", desc := "()V" } : Jvm.MethodName) jdk_30_method_1_code (1 : Nat) (Option.none : Option Jvm.ClassFile.FieldType), Jvm.Cond.code ({ cls := "java/util/Objects", name := "requireNonNull", desc := "(Ljava/lang/Object;Ljava/lang/String;)Ljava/lang/Object;" } : Jvm.MethodName) jdk_31_method_11_code (2 : Nat) (Option.some (Jvm.ClassFile.FieldType.object "java/lang/Object")), Jvm.Cond.code ({ cls := "java/util/List", name := "copyOf", desc := "(Ljava/util/Collection;)Ljava/util/List;" } : Jvm.MethodName) jdk_40_method_48_code (1 : Nat) (Option.some (Jvm.ClassFile.FieldType.object "java/util/List")), Jvm.Cond.code ({ cls := "java/util/ImmutableCollections", name := "listCopy", desc := "(Ljava/util/Collection;)Ljava/util/List;" } : Jvm.MethodName) jdk_56_method_3_code (2 : Nat) (Option.some (Jvm.ClassFile.FieldType.object "java/util/List")), Jvm.Cond.code ({ cls := "java/util/ArrayList", name := "isEmpty", desc := "()Z" } : Jvm.MethodName) jdk_38_method_9_code (1 : Nat) (Option.some Jvm.ClassFile.FieldType.boolean), Jvm.Cond.code ({ cls := "java/util/List", name := "of", desc := "()Ljava/util/List;" } : Jvm.MethodName) jdk_40_method_36_code (0 : Nat) (Option.some (Jvm.ClassFile.FieldType.object "java/util/List")), Jvm.Cond.code ({ cls := "java/util/ArrayList", name := "add", desc := "(Ljava/lang/Object;)Z" } : Jvm.MethodName) jdk_38_method_25_code (2 : Nat) (Option.some Jvm.ClassFile.FieldType.boolean), Jvm.Cond.code ({ cls := "java/util/ArrayList", name := "add", desc := "(Ljava/lang/Object;[Ljava/lang/Object;I)V" } : Jvm.MethodName) jdk_38_method_24_code (4 : Nat) (Option.none : Option Jvm.ClassFile.FieldType), Jvm.Cond.code ({ cls := "java/util/ArrayList", name := "grow", desc := "()[Ljava/lang/Object;" } : Jvm.MethodName) jdk_38_method_7_code (1 : Nat) (Option.some (Jvm.ClassFile.FieldType.array (Jvm.ClassFile.FieldType.object "java/lang/Object"))), Jvm.Cond.code ({ cls := "java/util/ArrayList", name := "grow", desc := "(I)[Ljava/lang/Object;" } : Jvm.MethodName) jdk_38_method_6_code (4 : Nat) (Option.some (Jvm.ClassFile.FieldType.array (Jvm.ClassFile.FieldType.object "java/lang/Object"))), Jvm.Cond.code ({ cls := "java/lang/Math", name := "max", desc := "(II)I" } : Jvm.MethodName) jdk_29_method_65_code (2 : Nat) (Option.some Jvm.ClassFile.FieldType.int), Jvm.Cond.code ({ cls := "java/util/ArrayList", name := "toArray", desc := "()[Ljava/lang/Object;" } : Jvm.MethodName) jdk_38_method_16_code (1 : Nat) (Option.some (Jvm.ClassFile.FieldType.array (Jvm.ClassFile.FieldType.object "java/lang/Object"))), Jvm.Cond.code ({ cls := "java/util/Arrays", name := "copyOf", desc := "([Ljava/lang/Object;I)[Ljava/lang/Object;" } : Jvm.MethodName) jdk_65_method_119_code (2 : Nat) (Option.some (Jvm.ClassFile.FieldType.array (Jvm.ClassFile.FieldType.object "java/lang/Object"))), Jvm.Cond.code ({ cls := "java/util/Arrays", name := "copyOf", desc := "([Ljava/lang/Object;ILjava/lang/Class;)[Ljava/lang/Object;" } : Jvm.MethodName) jdk_65_method_120_code (4 : Nat) (Option.some (Jvm.ClassFile.FieldType.array (Jvm.ClassFile.FieldType.object "java/lang/Object"))), Jvm.Cond.code ({ cls := "java/lang/Math", name := "min", desc := "(II)I" } : Jvm.MethodName) jdk_29_method_69_code (2 : Nat) (Option.some Jvm.ClassFile.FieldType.int), Jvm.Cond.code ({ cls := "java/util/List", name := "of", desc := "([Ljava/lang/Object;)Ljava/util/List;" } : Jvm.MethodName) jdk_40_method_47_code (2 : Nat) (Option.some (Jvm.ClassFile.FieldType.object "java/util/List")), Jvm.Cond.code ({ cls := "java/util/ImmutableCollections$List12", name := "<init>", desc := "(Ljava/lang/Object;)V" } : Jvm.MethodName) jdk_44_method_1_code (2 : Nat) (Option.none : Option Jvm.ClassFile.FieldType), Jvm.Cond.code ({ cls := "java/util/ImmutableCollections$AbstractImmutableList", name := "<init>", desc := "()V" } : Jvm.MethodName) jdk_46_method_1_code (1 : Nat) (Option.none : Option Jvm.ClassFile.FieldType), Jvm.Cond.code ({ cls := "java/util/ImmutableCollections$AbstractImmutableCollection", name := "<init>", desc := "()V" } : Jvm.MethodName) jdk_47_method_1_code (1 : Nat) (Option.none : Option Jvm.ClassFile.FieldType), Jvm.Cond.code ({ cls := "java/util/Objects", name := "requireNonNull", desc := "(Ljava/lang/Object;)Ljava/lang/Object;" } : Jvm.MethodName) jdk_31_method_10_code (1 : Nat) (Option.some (Jvm.ClassFile.FieldType.object "java/lang/Object")), Jvm.Cond.code ({ cls := "java/util/ImmutableCollections$List12", name := "<init>", desc := "(Ljava/lang/Object;Ljava/lang/Object;)V" } : Jvm.MethodName) jdk_44_method_2_code (3 : Nat) (Option.none : Option Jvm.ClassFile.FieldType), Jvm.Cond.code ({ cls := "com/example/congruent/congruent/core/Tree$Node", name := "node", desc := "(I)Lcom/example/congruent/congruent/core/Tree$Node;" } : Jvm.MethodName) prog_27_method_4_code (2 : Nat) (Option.some (Jvm.ClassFile.FieldType.object "com/example/congruent/congruent/core/Tree$Node")), Jvm.Cond.code ({ cls := "java/util/ImmutableCollections$List12", name := "get", desc := "(I)Ljava/lang/Object;" } : Jvm.MethodName) jdk_44_method_5_code (2 : Nat) (Option.some (Jvm.ClassFile.FieldType.object "java/lang/Object")), Jvm.Cond.code ({ cls := "java/util/ImmutableCollections", name := "listFromArray", desc := "([Ljava/lang/Object;)Ljava/util/List;" } : Jvm.MethodName) jdk_56_method_4_code (3 : Nat) (Option.some (Jvm.ClassFile.FieldType.object "java/util/List")), Jvm.Cond.code ({ cls := "java/util/ImmutableCollections$ListN", name := "<init>", desc := "([Ljava/lang/Object;Z)V" } : Jvm.MethodName) jdk_45_method_1_code (3 : Nat) (Option.none : Option Jvm.ClassFile.FieldType), Jvm.Cond.code ({ cls := "java/util/ImmutableCollections$ListN", name := "get", desc := "(I)Ljava/lang/Object;" } : Jvm.MethodName) jdk_45_method_4_code (2 : Nat) (Option.some (Jvm.ClassFile.FieldType.object "java/lang/Object"))]
set_option maxRecDepth 65536 in
theorem codes_eq : words1.filter isCode = codes1 := rfl
theorem w_codes : ∀ c ∈ words1.filter isCode, c.before args0 about1 = true := by
  rw [codes_eq]
  intro c hc
  simp only [codes1, List.mem_cons, List.not_mem_nil, or_false] at hc
  rcases hc with rfl | rfl | rfl | rfl | rfl | rfl | rfl | rfl | rfl | rfl | rfl | rfl | rfl | rfl | rfl | rfl | rfl | rfl | rfl | rfl | rfl | rfl | rfl | rfl | rfl | rfl | rfl | rfl | rfl | rfl | rfl | rfl | rfl
  · exact w_c0
  · exact w_c1
  · exact w_c2
  · exact w_c3
  · exact w_c4
  · exact w_c5
  · exact w_c6
  · exact w_c7
  · exact w_c8
  · exact w_c9
  · exact w_c10
  · exact w_c11
  · exact w_c12
  · exact w_c13
  · exact w_c14
  · exact w_c15
  · exact w_c16
  · exact w_c17
  · exact w_c18
  · exact w_c19
  · exact w_c20
  · exact w_c21
  · exact w_c22
  · exact w_c23
  · exact w_c24
  · exact w_c25
  · exact w_c26
  · exact w_c27
  · exact w_c28
  · exact w_c29
  · exact w_c30
  · exact w_c31
  · exact w_c32
set_option maxRecDepth 65536 in
theorem w_t1 : (words1.take 24).all (fun c => isCode c || c.before args0 about1) = true := by decide +kernel
set_option maxRecDepth 65536 in
theorem w_t2 : ((words1.drop 24).take 24).all (fun c => isCode c || c.before args0 about1) = true := by decide +kernel
set_option maxRecDepth 65536 in
theorem w_t3 : (((words1.drop 24).drop 24).take 24).all (fun c => isCode c || c.before args0 about1) = true := by decide +kernel
set_option maxRecDepth 65536 in
theorem w_t4 : ((((words1.drop 24).drop 24).drop 24).take 24).all (fun c => isCode c || c.before args0 about1) = true := by decide +kernel
set_option maxRecDepth 65536 in
theorem w_t5 : (((((words1.drop 24).drop 24).drop 24).drop 24).take 24).all (fun c => isCode c || c.before args0 about1) = true := by decide +kernel
set_option maxRecDepth 65536 in
theorem w_t6 : ((((((words1.drop 24).drop 24).drop 24).drop 24).drop 24).take 24).all (fun c => isCode c || c.before args0 about1) = true := by decide +kernel
set_option maxRecDepth 65536 in
theorem w_t7 : (((((((words1.drop 24).drop 24).drop 24).drop 24).drop 24).drop 24).take 24).all (fun c => isCode c || c.before args0 about1) = true := by decide +kernel
set_option maxRecDepth 65536 in
theorem w_t8 : ((((((((words1.drop 24).drop 24).drop 24).drop 24).drop 24).drop 24).drop 24).take 24).all (fun c => isCode c || c.before args0 about1) = true := by decide +kernel
set_option maxRecDepth 65536 in
theorem w_t9 : (((((((((words1.drop 24).drop 24).drop 24).drop 24).drop 24).drop 24).drop 24).drop 24).take 24).all (fun c => isCode c || c.before args0 about1) = true := by decide +kernel
set_option maxRecDepth 65536 in
theorem w_t10 : (((((((((words1.drop 24).drop 24).drop 24).drop 24).drop 24).drop 24).drop 24).drop 24).drop 24).all (fun c => isCode c || c.before args0 about1) = true := by decide +kernel
theorem w_tables : (allAtoms (Jvm.Cond.code x code maxLocals ret :: tables_1)).before args0 about1 = true := by
  rw [allAtoms_all]
  show words1.all (fun c => c.before args0 about1) = true
  refine all_split ?_ w_codes
  rw [← List.take_append_drop 24 words1, List.all_append, w_t1, ← List.take_append_drop 24 (words1.drop 24), List.all_append, w_t2, ← List.take_append_drop 24 ((words1.drop 24).drop 24), List.all_append, w_t3, ← List.take_append_drop 24 (((words1.drop 24).drop 24).drop 24), List.all_append, w_t4, ← List.take_append_drop 24 ((((words1.drop 24).drop 24).drop 24).drop 24), List.all_append, w_t5, ← List.take_append_drop 24 (((((words1.drop 24).drop 24).drop 24).drop 24).drop 24), List.all_append, w_t6, ← List.take_append_drop 24 ((((((words1.drop 24).drop 24).drop 24).drop 24).drop 24).drop 24), List.all_append, w_t7, ← List.take_append_drop 24 (((((((words1.drop 24).drop 24).drop 24).drop 24).drop 24).drop 24).drop 24), List.all_append, w_t8, ← List.take_append_drop 24 ((((((((words1.drop 24).drop 24).drop 24).drop 24).drop 24).drop 24).drop 24).drop 24), List.all_append, w_t9, w_t10]
  rfl
set_option maxRecDepth 65536 in
theorem w_rest : rest_1_c.before args0 about1 = true := by decide +kernel
set_option maxRecDepth 65536 in
theorem w_case : (Jvm.Cond.and given_1 narrow_1).before args0 about1 = true := by decide +kernel
theorem w_applies : (headSpec (Jvm.Cond.code x code maxLocals ret :: tables_1) room_1).applies x e0.platform about1 = true :=
  (Spec.applies_iff w_frames).mpr ⟨w_running, w_runnable, w_alone, w_named, w_hears, w_ripe, w_room, w_tables⟩
theorem atStart : AtStart classFile x code maxLocals ret World_1 tables_1 room_1 Calls_1 rest_1 Pre_1 launch0 p0 e0 about1 theMethod args0 below0 :=
  ⟨lists_1, trivial, launch0.admits_env _ _ _, launch0.least_env, fairChoices_fair.cas, fairChoices_fair.clock, w_frames, w_args, w_heap, w_applies, ⟨⟨36, k36, 3, by decide +kernel, rfl, rfl, _, rfl, rfl⟩, trivial⟩, w_rest, w_case⟩
end start1
theorem witness_1 : WitnessClaimed_1 := ⟨start1.p0, start1.e0, start1.about1, start1.theMethod, start1.args0, start1.below0, start1.atStart⟩
end Jvm.Pilot.@@N@@
