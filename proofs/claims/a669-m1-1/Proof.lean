import JvmDerived
import JvmDerived.Pilot.@@N@@Statement
import JvmDerived.Pilot.@@N@@Code
set_option linter.unusedVariables false
set_option linter.unusedSimpArgs false
set_option maxRecDepth 65536
set_option maxHeartbeats 40000000
namespace Jvm.Pilot.@@N@@
open Jvm Jvm.ClassFile Sem Op Lib Jvm.Free Jvm.Stand Jvm.LawKit Jvm.RoadKit Bundle Jvm.Pilot.@@N@@.Jvm.D
theorem oW {a0 : Array Value} {Z : State} (hw : ∀ d ∈ tables_1, d.before a0 Z = true) {d : Jvm.Cond} (i : Nat) (h : tables_1[i]? = some d) : d.before a0 Z = true := hw _ (List.mem_of_getElem? h)
theorem oMvM {Z s : State} {a0 args : Array Value} {own host : String} {index : Nat} {x : MethodName} (hZ : Z.Warmed39 s.vm) (w : (Jvm.Cond.methodLinkNest own index x host).before a0 Z = true) : (Jvm.Cond.methodLinkNest own index x host).before args s = true := (Cond.methodLinkNest_wide hZ w :)
abbrev uu : Slot := .unset
abbrev ss : Slot := .second
/-- the run from T with g on top comes to a state of which P holds -/
def oWk (tb : Tables) (e : Env) (below : List Frame) (P : State → Prop) (T : State) (g : JFrame) : Prop := ∃ t, Steps tb e below (T.setTop g) t ∧ P t
section OwnA
variable {tb : Tables} {e : Env} {below : List Frame} {P : State → Prop} {T T' : State} {g g' : JFrame}
theorem oWk.st (f : ∀ t, Steps tb e below (T'.setTop g') t → Steps tb e below (T.setTop g) t) (k : oWk tb e below P T' g') : oWk tb e below P T g := k.elim fun t q => ⟨t, f t q.1, q.2⟩
theorem oWk.tr (f : Steps tb e below (T.setTop g) (T'.setTop g')) (k : oWk tb e below P T' g') : oWk tb e below P T g := k.elim fun t q => ⟨t, f.trans q.1, q.2⟩
theorem oWk.cast (q : g = g') (k : oWk tb e below P T g') : oWk tb e below P T g := q ▸ k
end OwnA
/-- the invocation has ended: a value, the heap, the places written -/
def oDn (s : State) (below : List Frame) (Q : Option Value → Heap → List Loc → Prop) (k n : Nat) (t : State) : Prop := t.status = .running ∧ ∃ v L, Ended t below (.returned v) ∧ Q v t.heap L ∧ FrameEnd s (.returned v) t L k n
/-- a contract: called with these arguments on this heap the body returns and Q holds -/
abbrev oCon (l : Launch) (Z : State) (y : MethodName) (bytes : ByteArray) (maxL : Nat) (ret : Option FieldType) (ws : List Jvm.Cond) (rm : Room) (as' : Array Value) (h0 : Heap) (Q : Option Value → Heap → List Loc → Prop) : Prop :=
  MetFree l y (head1 (Jvm.Cond.code y bytes maxL ret :: ws) rm) (fun a U => a = as' ∧ Z.Warmed39 U.vm ∧ U.heap = h0) (fun _ _ _ _ _ => True) (fun _ U o U' => ∃ v L, o = .returned v ∧ Q v U'.heap L ∧ FrameEnd U o U' L rm.cells rm.slots)
theorem oCon.of {l : Launch} {Z : State} {y : MethodName} {bytes : ByteArray} {maxL : Nat} {ret : Option FieldType} {ws : List Jvm.Cond} {rm : Room} {as' : Array Value} {h0 : Heap} {Q : Option Value → Heap → List Loc → Prop} (hp : plainFor y = true)
    (body : ∀ (p : Program) (e : Env) (s : State) (m : MethodId) (below : List Frame) (meth : Method) (c : Code) (T : State), Stand p l e rm s m as' below meth c T [] 0 0 → p.tables.exec = Jvm.exec → c.code = bytes → c.maxLocals = maxL → s.vm.findClass y.cls = some m.cls → meth.name = y.name → meth.sig.returnType = ret → meth.locks = false → Z.Warmed39 s.vm → T.heap = h0 → oWk p.tables e below (oDn s below Q rm.cells rm.slots) T (entryFrame m as' maxL)) :
    oCon l Z y bytes maxL ret ws rm as' h0 Q := by
  refine MetFree.of_bodySF hp hisR ?_
  intro p e s m args below meth c s₁ Bd hml0 hP hK
  obtain ⟨rfl, hZ, hh⟩ := hP
  have e0 : s₁.heap = h0 := by rw [← hh, Bd.state]; rfl
  obtain ⟨t, h1, h2, v, L, h3, h4, h5⟩ := body p e s m below meth c s₁ (Stand.of_body Bd) Bd.exec Bd.bytes hml0 (findClass_of_methodNamed Bd.named) (name_of_methodNamed Bd.named Bd.method).1 Bd.returns Bd.notSynchronized hZ e0
  exact ⟨t, _, h1, h2, h3, v, L, rfl, h4, h5⟩
section OwnB
variable {p : Program} {l : Launch} {e : Env} {R : Room} {s : State} {m : MethodId} {args : Array Value} {below : List Frame} {meth : Method} {c : Code} {T : State} {locs : List Loc} {cells slots : Nat} {Q : Option Value → Heap → List Loc → Prop} {k n pc : Nat} {Ls : Array Slot}
theorem oRet (X : Stand p l e R s m args below meth c T locs cells slots) (hx : p.tables.exec = Jvm.exec) (hlk : meth.locks = false) {w : Value} {t : FieldType} {i : Instr} {rest : List Value} (hret : meth.sig.returnType = some t) (hn : narrow t w = w)
    (hi : (i = .ireturn ∧ (t = .int ∨ t = .boolean ∨ t = .byte ∨ t = .char ∨ t = .short) ∧ ∃ z, w = .int z) ∨ (i = .lreturn ∧ t = .long ∧ ∃ z, w = .long z) ∨ (i = .dreturn ∧ t = .double ∧ ∃ z, w = .double z) ∨ (i = .freturn ∧ t = .float ∧ ∃ z, w = .float z) ∨ (i = .areturn ∧ t.isReference = true ∧ w.isRef = true))
    (hd : decode c.code pc = .ok (i, 1)) (hQ : Q (some w) T.heap locs) (hk : cells ≤ k) (hs : slots ≤ n) : oWk p.tables e below (oDn s below Q k n) T (mkF m pc Ls (w :: rest)) := by
  obtain ⟨fs, hr, hrun, hended, hW, hsame⟩ := X.leave (v := some w) (fun h => by rw [hret] at h; cases h) hlk
  exact ⟨_, retOut X hx hret hn hi hd hr, hrun, _, _, hended, hQ, ⟨_, rfl⟩, hW, hsame.mono hk hs⟩
theorem oRetI (X : Stand p l e R s m args below meth c T locs cells slots) (hx : p.tables.exec = Jvm.exec) (hlk : meth.locks = false) {z : Int32} {rest : List Value} (hret : meth.sig.returnType = some .int) (hd : decode c.code pc = .ok (.ireturn, 1)) (hQ : Q (some (.int z)) T.heap locs) (hk : cells ≤ k) (hs : slots ≤ n) :
    oWk p.tables e below (oDn s below Q k n) T (mkF m pc Ls (.int z :: rest)) := oRet X hx hlk hret rfl (Or.inl ⟨rfl, Or.inl rfl, _, rfl⟩) hd hQ hk hs
theorem oRetZ (X : Stand p l e R s m args below meth c T locs cells slots) (hx : p.tables.exec = Jvm.exec) (hlk : meth.locks = false) {z : Int32} {rest : List Value} (hret : meth.sig.returnType = some .boolean) (hd : decode c.code pc = .ok (.ireturn, 1)) (hz : z = 0 ∨ z = 1) (hQ : Q (some (.int z)) T.heap locs) (hk : cells ≤ k) (hs : slots ≤ n) :
    oWk p.tables e below (oDn s below Q k n) T (mkF m pc Ls (.int z :: rest)) := oRet X hx hlk hret (by rcases hz with rfl | rfl <;> rfl) (Or.inl ⟨rfl, Or.inr (Or.inl rfl), _, rfl⟩) hd hQ hk hs
theorem oRetN (X : Stand p l e R s m args below meth c T locs cells slots) (hx : p.tables.exec = Jvm.exec) (hlk : meth.locks = false) {z : Int32} {t : FieldType} {rest : List Value} (hret : meth.sig.returnType = some t) (ht : t = .byte ∨ t = .char ∨ t = .short) (hn : narrow t (.int z) = .int z) (hd : decode c.code pc = .ok (.ireturn, 1)) (hQ : Q (some (.int z)) T.heap locs) (hk : cells ≤ k) (hs : slots ≤ n) :
    oWk p.tables e below (oDn s below Q k n) T (mkF m pc Ls (.int z :: rest)) := oRet X hx hlk hret hn (Or.inl ⟨rfl, Or.inr (Or.inr ht), _, rfl⟩) hd hQ hk hs
theorem oRetD (X : Stand p l e R s m args below meth c T locs cells slots) (hx : p.tables.exec = Jvm.exec) (hlk : meth.locks = false) {z : UInt64} {rest : List Value} (hret : meth.sig.returnType = some .double) (hd : decode c.code pc = .ok (.dreturn, 1)) (hQ : Q (some (.double z)) T.heap locs) (hk : cells ≤ k) (hs : slots ≤ n) :
    oWk p.tables e below (oDn s below Q k n) T (mkF m pc Ls (.double z :: rest)) := oRet X hx hlk hret rfl (Or.inr (Or.inr (Or.inl ⟨rfl, rfl, _, rfl⟩))) hd hQ hk hs
theorem oNarR {t : FieldType} {w : Value} (ht : t.isReference = true) (hw : w.isRef = true) : narrow t w = w := by cases t <;> cases w <;> simp_all [narrow, FieldType.isReference, Value.isRef]
theorem oRetA (X : Stand p l e R s m args below meth c T locs cells slots) (hx : p.tables.exec = Jvm.exec) (hlk : meth.locks = false) {w : Value} {t : FieldType} {rest : List Value} (hret : meth.sig.returnType = some t) (ht : t.isReference = true) (hw : w.isRef = true) (hd : decode c.code pc = .ok (.areturn, 1)) (hQ : Q (some w) T.heap locs) (hk : cells ≤ k) (hs : slots ≤ n) :
    oWk p.tables e below (oDn s below Q k n) T (mkF m pc Ls (w :: rest)) := oRet X hx hlk hret (oNarR ht hw) (Or.inr (Or.inr (Or.inr (Or.inr ⟨rfl, ht, hw⟩)))) hd hQ hk hs
theorem oRetV (X : Stand p l e R s m args below meth c T locs cells slots) (hx : p.tables.exec = Jvm.exec) (hlk : meth.locks = false) (hret : meth.sig.returnType = none) (hd : decode c.code pc = .ok (.return_, 1)) (hQ : Q none T.heap locs) (hk : cells ≤ k) (hs : slots ≤ n) :
    oWk p.tables e below (oDn s below Q k n) T (mkF m pc Ls []) := by
  obtain ⟨fs, hr, hrun, hended, hW, hsame⟩ := X.leave (v := none) (fun _ => rfl) hlk
  exact ⟨_, X.returnOut hx hret hd hr, hrun, _, _, hended, hQ, ⟨_, rfl⟩, hW, hsame.mono hk hs⟩
end OwnB
/-- the heap is kept but for ws and new cells; the places written lie there -/
def oKp (h0 h : Heap) (ws : List Addr) (L : List Loc) : Prop := Keep h0 h ws ∧ ∀ y ∈ L, y.base ∈ ws ∨ h0.size ≤ y.base
section OwnC
variable {Z : State} {h0 h h' : Heap} {ws ws' : List Addr} {L L' : List Loc} {a : Addr} {sl : Nat} {v : Value}
theorem oKp.nil (h : Heap) (ws : List Addr) : oKp h h ws [] := ⟨Keep.refl _ _, fun _ q => nomatch q⟩
theorem oKp.ext (K : oKp h0 h ws L) (E : Ext h h') : oKp h0 h' ws L := ⟨K.1.ext E, K.2⟩
theorem oKp.wr (K : oKp h0 h ws L) (W : Wr h h' a sl v) (q : a ∈ ws ∨ h0.size ≤ a) : oKp h0 h' ws (L ++ [⟨a, sl⟩]) := ⟨K.1.wr W q, fun y hy => (List.mem_append.mp hy).elim (K.2 y) fun hy => by cases List.mem_singleton.mp hy; exact q⟩
theorem oKp.call (K : oKp h0 h ws L) (K' : oKp h h' ws' L') (q : ∀ x ∈ ws', x ∈ ws ∨ h0.size ≤ x) : oKp h0 h' ws (L ++ L') := ⟨K.1.trans K'.1 q, fun y hy => (List.mem_append.mp hy).elim (K.2 y) fun hy => (K'.2 y hy).elim (q _) fun z => Or.inr (Nat.le_trans K.1.1 z)⟩
theorem oKp.le (K : oKp h0 h ws L) : h0.size ≤ h.size := K.1.1
theorem oKp.old (K : oKp h0 h ws L) (O : Ext Z.heap h0) (q : ∀ x ∈ ws, Z.heap.size ≤ x) : Ext Z.heap h := ⟨Nat.le_trans O.1 K.1.1, fun x c hc => K.1.2.1 x c (O.2 x c hc) fun hx => absurd (Array.getElem?_eq_some_iff.mp hc).1 (Nat.not_lt.mpr (q x hx))⟩
theorem oKp.fr (K : oKp h0 h [] L) : Fr h0.size L := fun y hy => (K.2 y hy).elim (fun q => nomatch q) id
theorem oExtRefl (h : Heap) : Ext h h := ⟨Nat.le_refl _, fun _ _ q => q⟩
theorem Ext.keep0 (E : Ext h h') : Keep h h' [] := ⟨E.1, fun x c q _ => E.2 x c q, fun x c q => ⟨c, E.2 x c q, rfl, rfl, rfl⟩⟩
end OwnC
/-- a truth as an int -/
def oBi (P : Prop) [Decidable P] : Int32 := if P then 1 else 0
theorem oBi_t {P : Prop} [Decidable P] (h : P) : oBi P = 1 := if_pos h
theorem oBi_f {P : Prop} [Decidable P] (h : ¬ P) : oBi P = 0 := if_neg h
theorem oBi_ne {P : Prop} [Decidable P] (h : P) : ¬ oBi P = 0 := by rw [oBi_t h]; decide
theorem oBi_01 (P : Prop) [Decidable P] : oBi P = 0 ∨ oBi P = 1 := by by_cases h : P; exact Or.inr (if_pos h); exact Or.inl (if_neg h)
theorem oBi_0 {P : Prop} [Decidable P] (h : oBi P = 0) : ¬ P := fun q => oBi_ne q h
theorem oBi_1 {P : Prop} [Decidable P] (h : ¬ oBi P = 0) : P := Decidable.byContradiction fun q => h (oBi_f q)
section OwnD
variable {args : Array Value} {Z : State} {t u : Term} {C n d K : String} {a b : Addr} {k : Int32}
theorem oFldR (ht : t.eval args Z none [] Z = some (.ref a)) (hu : u.eval args Z none [] Z = some (.ref b)) (h : (Jvm.Cond.eq (.field t C n d) u).value args Z none Z [] = some true) : Fld Z Z.heap a C n d (.ref b) := by
  obtain ⟨x, y, e1, e2, k1, k2⟩ := cmp_v (Or.inl h)
  cases hu.symm.trans e2
  have hx : x.isRef = true := k2.2
  have q := gotT (eq_R e1 e2 hx rfl) h
  subst q
  exact Fld.start ((fld_at ht).symm.trans e1)
theorem oFldI (ht : t.eval args Z none [] Z = some (.ref a)) (h : (Jvm.Cond.eq (.field t C n d) (.int k)).value args Z none Z [] = some true) : Fld Z Z.heap a C n d (.int k) := by
  obtain ⟨x, y, e1, e2, k1, k2⟩ := cmp_v (Or.inl h)
  cases (Option.some.inj e2 : Value.int k = y)
  obtain ⟨z, rfl⟩ := (k2 : ∃ z, x = .int z)
  have q : z = k := by
    have h' := h
    simp only [Cond.value, e1, e2] at h'
    simpa using h'
  subst q
  exact Fld.start ((fld_at ht).symm.trans e1)
theorem oFldX (ht : t.eval args Z none [] Z = some (.ref a)) (h : (Jvm.Cond.exactly (.field t C n d) K).value args Z none Z [] = some true) : ∃ b, (Term.field t C n d).eval args Z none [] Z = some (.ref b) ∧ Fld Z Z.heap a C n d (.ref b) ∧ Exa Z Z.heap b K := by
  obtain ⟨b, e1⟩ := exa_v h
  exact ⟨b, e1, Fld.start ((fld_at ht).symm.trans e1), Exa.start e1 h⟩
theorem oNe32 {x y : Int32} (h : ¬ x = y) : x.toInt ≠ y.toInt := fun q => h (Int32.toInt_inj.mp q)
end OwnD
section OwnE
variable {Z : State} {a0 : Array Value} {C O K : String} {n : Nat} {h h' : Heap} {a : Addr} {ws : List Addr}
theorem oNSroot (wo : (Jvm.Cond.noSuperclass O).before a0 Z = true) (wk : (Jvm.Cond.instantiable K n).before a0 Z = true) (h2 : O ≠ K) : NS Z O K := by
  obtain ⟨t, kt, g1, -⟩ := Cond.instantiable_spec wk
  obtain ⟨c, k, a1, a2, a3, -, -⟩ := Cond.noSuperclass_spec wo
  have ne := ids_ne a1 g1 h2
  refine ⟨c, t, a1, g1, fun fuel => ?_⟩
  cases fuel with
  | zero => rfl
  | succ f => simp [Vm.isSubclassAux, ne, a2, a3]
theorem oNSno (w : (Jvm.Cond.superclass C O).before a0 Z = true) (wk : (Jvm.Cond.instantiable K n).before a0 Z = true) (N : NS Z C K) (h1 : C ≠ K) : ∃ c t, Z.vm.findClass C = some c ∧ Z.vm.findClass K = some t ∧ Z.vm.assignable c t = false := by
  obtain ⟨t, kt, g1, g2, g3, g4, -⟩ := Cond.instantiable_spec wk
  obtain ⟨c, t', b0, b1, b2⟩ := N
  cases g1.symm.trans b1
  obtain ⟨p, k, kp, e1, e2, e3, e4, e5, -, e7⟩ := Cond.superclass_spec b0 w
  have ne := ids_ne b0 g1 h1
  have gi : kt.isInterface = false := by simp only [Bool.or_eq_false_iff] at g4; exact g4.1
  refine ⟨c, t, b0, g1, ?_⟩
  show Z.vm.assignableAux (255 + 1) c t = false
  simp [Vm.assignableAux, ne, e2, g2, e5, g3, gi, Vm.isSubclass, b2]
theorem oNotInst (w : (Jvm.Cond.superclass C O).before a0 Z = true) (wo : (Jvm.Cond.noSuperclass O).before a0 Z = true) (wk : (Jvm.Cond.instantiable K n).before a0 Z = true) (h1 : C ≠ K) (h2 : O ≠ K) : ∃ c t, Z.vm.findClass C = some c ∧ Z.vm.findClass K = some t ∧ Z.vm.assignable c t = false :=
  oNSno w wk (NS.step w (oNSroot wo wk h2) h1) h1
theorem oInsKeep {b : Bool} (F : Ins Z h a K b) (H : Keep h h' ws) : Ins Z h' a K b := by
  obtain ⟨cell, cT, h1, h2, h3⟩ := F
  obtain ⟨c', e1, e2, e3, -⟩ := H.2.2 _ _ h1
  exact ⟨c', cT, e1, h2, by rw [e2, e3]; exact h3⟩
end OwnE
theorem oNot0 {args : Array Value} {Z : State} {t : Term} {x : Int32} (h : t.eval args Z none [] Z = some (.int x)) (hn : (Jvm.Cond.not (.eq t (.int 0))).value args Z none Z [] = some true) : ¬ x = (0 : Int32) := fun q => by
  subst q
  have e : (Jvm.Cond.eq t (.int 0)).value args Z none Z [] = some true := eq_i h (Term.int_eval 0) rfl
  simp [Cond.value] at hn e
  rw [e] at hn
  simp at hn
theorem oFldD {args : Array Value} {Z : State} {t : Term} {C n d : String} {a : Addr} {k : Int64} (ht : t.eval args Z none [] Z = some (.ref a)) (h : (Jvm.Cond.eq (.field t C n d) (.op1 .bitsD (.long k))).value args Z none Z [] = some true) : Fld Z Z.heap a C n d (.double k.toUInt64) := by
  obtain ⟨x, y, e1, e2, k1, k2⟩ := cmp_v (Or.inl h)
  have e3 : (Term.op1 .bitsD (.long k)).eval args Z none [] Z = some (.double k.toUInt64) := rfl
  cases e3.symm.trans e2
  obtain ⟨z, rfl⟩ := (k2 : ∃ z, x = .double z)
  have q : z = k.toUInt64 := by
    have h' := h
    simp only [Cond.value, e1, e2] at h'
    simpa using h'
  subst q
  exact Fld.start ((fld_at ht).symm.trans e1)
section OwnF
variable {p : Program} {l : Launch} {e : Env} {R : Room} {s : State} {m : MethodId} {args : Array Value} {below : List Frame} {meth : Method} {c : Code} {T : State} {locs : List Loc} {cells slots : Nat} {Z : State} {a0 : Array Value} {h : Heap} {own C : String} {index : Nat} {a mr : Addr}
/-- the Class object of C has been made: mr -/
def oMir (Z : State) (C : String) (mr : Addr) : Prop := ∃ (c : ClassId) (k : Class), Z.vm.findClass C = some c ∧ Z.vm.classes[c]? = some k ∧ k.mirror = some mr
abbrev oGc : MethodName := ⟨"java/lang/Object", "getClass", "()Ljava/lang/Class;"⟩
theorem oGcls (X : Stand p l e R s m args below meth c T locs cells slots) (hx : p.tables.exec = Jvm.exec) (hZ : Z.Warmed39 s.vm) (hown : s.vm.findClass own = some m.cls) (w1 : (Jvm.Cond.methodLink own index oGc).before a0 Z = true) (w2 : (Jvm.Cond.declares oGc).before a0 Z = true) (w4 : (Jvm.Cond.selects C oGc oGc).before a0 Z = true) (w5 : (Jvm.Cond.instanceMethod oGc).before a0 Z = true) (w6 : (Jvm.Cond.native oGc).before a0 Z = true) (eT : T.heap = h) (E : Exa Z h a C) (M : oMir Z C mr)
    {g : JFrame} (hg : g.method = m) (hsize : g.locals.size = c.maxLocals) {rest : List Value} (hs : g.stack = .ref a :: rest) (hd : decode c.code g.pc = .ok (.invokevirtual index, 3)) (hf : 1 ≤ R.frames) {W : Nat} (hW : 2 * g.monitorRoom + (rest.map fun v => v.category).sum ≤ W) (hl : W + (nativeFrameWords "java/lang/Object" "getClass" 1 + 11) ≤ R.locals) :
    ∃ T', Stand p l e R s m args below meth c T' locs cells slots ∧ T'.heap = h ∧ ∀ target, Steps p.tables e below (T'.setTop { g with pc := g.pc + 3, stack := .ref mr :: rest }) target → Steps p.tables e below (T.setTop g) target := by
  obtain ⟨cB, kB, i1, i2, i3⟩ := isOf hZ eT E
  obtain ⟨cc, kc, m1, m2, m3⟩ := M
  have i0 := i1
  rw [hZ.alike.findClass] at i1
  cases i1.symm.trans m1
  obtain ⟨k', q, ek⟩ := hZ.alike.2.2 _ _ m2
  obtain ⟨vm', X', st⟩ := X.getClassOf hx hown (mvT hZ w1) (mvT hZ w2) (notFace_of_selects (args := #[]) (mvT hZ w4)) (mvT hZ w4) (mvT hZ w5) (mvT hZ w6) i0 i3 q (by rw [ek]; exact m3) hg hsize hs hd hf (by omega)
  exact ⟨_, X', eT, st⟩
theorem oLdcM (X : Stand p l e R s m args below meth c T locs cells slots) (hx : p.tables.exec = Jvm.exec) (hZ : Z.Warmed39 s.vm) (hown : s.vm.findClass own = some m.cls) (w : (Jvm.Cond.classLink own index C).before a0 Z = true) (eT : T.heap = h) (M : oMir Z C mr)
    {g : JFrame} (hg : g.method = m) (hd : decode c.code g.pc = .ok (.ldc index, 2)) : ∃ T', Stand p l e R s m args below meth c T' locs cells slots ∧ T'.heap = h ∧ ∀ target, Steps p.tables e below (T'.setTop { g with pc := g.pc + 2, stack := .ref mr :: g.stack }) target → Steps p.tables e below (T.setTop g) target := by
  obtain ⟨cc, kc, m1, m2, m3⟩ := M
  obtain ⟨k', q, ek⟩ := hZ.alike.2.2 _ _ m2
  have f1 : s.vm.findClass C = some cc := by rw [hZ.alike.findClass]; exact m1
  have f2 : k'.mirror = some mr := by rw [ek]; exact m3
  obtain ⟨vm', X', st⟩ := X.ldcMirror hx hown (mvT hZ w) (a := mr) (by simp [Term.eval, f1, q, f2]) hg hd
  exact ⟨_, X', eT, st⟩
end OwnF
theorem oArr0 {args : Array Value} {Z : State} {t : Term} {a : Addr} {ty : FieldType} {dv : Value} (hf : Fit Z) (ev : t.eval args Z none [] Z = some (.ref a)) (h1 : (Jvm.Cond.arrayOf t ty).value args Z none Z [] = some true) (h2 : (Jvm.Cond.eq (.length t) (.int 0)).value args Z none Z [] = some true) : ∃ k, Arv Z Z.heap a k ty 0 [] dv := by
  obtain ⟨cl, A⟩ := Arr.start ev h1
  have ha : Z.arrayAt? a = some cl := Arr.fin (Vm.Alike.refl _) A
  have hlt : cl.slots.size < 2 ^ 31 := by
    apply Decidable.byContradiction
    intro q
    have e : (Term.length t).eval args Z none [] Z = none := by
      cases hv : (Term.length t).eval args Z none [] Z with
      | none => rfl
      | some y =>
        simp only [Term.eval, Option.bind_eq_bind] at hv
        rw [ev] at hv
        simp [ha, q] at hv
    simp [Cond.value, e] at h2
  have e : (Term.length t).eval args Z none [] Z = some (.int cl.slots.size.toInt32) := len_f ev ha hlt
  have z : cl.slots.size.toInt32 = 0 := by
    have h' := h2
    simp only [Cond.value, e, Term.int_eval] at h'
    simpa using h'
  have z' : cl.slots.size = 0 := by
    have := len_toInt hlt
    rw [z] at this
    have r : (0 : Int32).toInt = 0 := by decide
    omega
  exact ⟨_, Arv.start hf A hlt z (by decide) rfl trivial⟩
theorem oNar01 {z : Int32} (hz : z = 0 ∨ z = 1) : narrow .boolean (.int z) = .int z := by rcases hz with rfl | rfl <;> rfl
theorem oFitC {x : Int32} (h : 0 ≤ x.toInt ∧ x.toInt < 256) : fits .char (.int x) = true := by
  have e : x.toUInt32.toUInt16.toUInt32.toInt32 = x := by
    have a := c_i2c x
    apply Int32.toInt_inj.mp
    omega
  have q := fits_nar_char x
  have r : nar .char x = x := e
  rw [r] at q; exact q
theorem oB8 (x : Int32) : x.toInt8.toInt32.toInt8.toInt32 = x.toInt8.toInt32 := by rw [Int8.toInt8_toInt32]
theorem oB8inj {x y : Int32} (hx : 0 ≤ x.toInt ∧ x.toInt < 256) (hy : 0 ≤ y.toInt ∧ y.toInt < 256) (h : x.toInt8.toInt32 = y.toInt8.toInt32) : x = y := by
  have a := c_i2b x
  have b := c_i2b y
  rw [h] at a
  apply Int32.toInt_inj.mp
  omega
theorem oCmp {P R : Prop} [Decidable P] [Decidable R] (h : P ↔ R) : oBi P = oBi R := by
  by_cases q : P
  · rw [oBi_t q, oBi_t (h.mp q)]
  · rw [oBi_f q, oBi_f (fun r => q (h.mpr r))]
theorem oM255 (x : Int32) : 0 ≤ (x &&& 255).toInt ∧ (x &&& 255).toInt < 256 := by
  have q := c_mask x 255 8 (by decide) (by decide)
  omega
theorem oChr {x : Int32} (h : 0 ≤ x.toInt ∧ x.toInt < 256) : x.toUInt32.toUInt16.toUInt32.toInt32 = x := by
  have a := c_i2c x
  apply Int32.toInt_inj.mp
  omega
theorem oLe255 {x : Int32} (h : 0 ≤ x.toInt ∧ x.toInt < 256) : ¬ (255 : Int32) < x := fun q => by
  have r : (255 : Int32).toInt < x.toInt := Int32.lt_iff_toInt_lt.mp q
  have s : (255 : Int32).toInt = 255 := by decide
  omega

def Q_rCan (Z : State) (xp : Int32) (h0 : Heap) (v : Option Value) (h : Heap) (L : List Loc) : Prop := v = some (.int (1 : Int32)) ∧ h = h0 ∧ oKp h0 h [] L
theorem pn_0 : plainName "java/lang/StringLatin1" = true := by first | (simp [plainName, overriddenIn]; done) | decide +kernel
abbrev yy0 : MethodName := ⟨"java/lang/StringLatin1", "canEncode", "(C)Z"⟩
theorem d2_0 : decode jdk_43_method_3_code 0 = .ok (.iload_n 0, 1) := by decide +kernel
theorem d2_1 : decode jdk_43_method_3_code 1 = .ok (.sipush 255, 3) := by decide +kernel
theorem d2_4 : decode jdk_43_method_3_code 4 = .ok (.if_icmp .gt 7, 3) := by decide +kernel
theorem d2_7 : decode jdk_43_method_3_code 7 = .ok (.iconst 1, 1) := by decide +kernel
theorem d2_8 : decode jdk_43_method_3_code 8 = .ok (.goto 4, 3) := by decide +kernel
theorem d2_12 : decode jdk_43_method_3_code 12 = .ok (.ireturn, 1) := by decide +kernel
theorem rCan (l : Launch) (Z : State) (a0 : Array Value) (hw : ∀ d ∈ tables_1, d.before a0 Z = true) (ws : List Jvm.Cond) (xp : Int32) (h0 : Heap) (O0 : Ext Z.heap h0) (hle : ¬ (255 : Int32) < xp) :
    oCon l Z yy0 jdk_43_method_3_code 1 (some .boolean) ws ({ frames := 0, cells := 0, slots := 0, locals := 0 } : Room) #[(.int xp)] h0 (Q_rCan Z xp h0) := by
  refine oCon.of (plainFor_of_name pn_0) ?_
  intro p e s m below meth c T X hx hby hml hown hnm hret hlk hZ e0
  have hml : c.maxLocals = 1 := hml
  have K : oKp h0 h0 [] [] := oKp.nil _ _
  refine oWk.cast (g' := (mkF m 0 #[iv xp] [])) (by first | rfl | (simp [entryFrame, mkF, argsToLocals, Value.category]; done)) ?_
  refine oWk.st (fun _ kt => XS.iloadN X.here hx rfl (hb hby d2_0) rfl (XS.sipush X.here hx rfl (hb hby d2_1) (XS.icmpNo X.here hx rfl (hb hby d2_4) rfl (flt hle).2.2.1 (XS.iconst X.here hx rfl (hb hby d2_7) (XS.goto X.here hx rfl (pc0 := 8) (pc' := 12) rfl (hb hby d2_8) (by decide) (by decide) kt))))) ?_
  show oWk _ _ _ _ T (mkF m 12 #[iv xp] [(.int 1)])
  exact oRetZ X hx hlk hret (hb hby d2_12) (Or.inr rfl) (by rw [e0]; exact ⟨rfl, rfl, K⟩) (by decide) (by decide)
def Q_rToB (Z : State) (xp : Int32) (h0 : Heap) (v : Option Value) (h : Heap) (L : List Loc) : Prop := ∃ (nb : Addr) (nk : ClassId), v = some (.ref nb) ∧ oKp h0 h [] L ∧ (h0.size ≤ nb) ∧ (Arv Z h nb nk .byte (1 : Int32) [(.int (xp.toInt8.toInt32))] (.int (0 : Int32)))
abbrev yy1 : MethodName := ⟨"java/lang/StringLatin1", "toBytes", "(C)[B"⟩
theorem d3_0 : decode jdk_43_method_46_code 0 = .ok (.iconst 1, 1) := by decide +kernel
theorem d3_1 : decode jdk_43_method_46_code 1 = .ok (.newarray .byte, 2) := by decide +kernel
theorem d3_3 : decode jdk_43_method_46_code 3 = .ok (.dup, 1) := by decide +kernel
theorem d3_4 : decode jdk_43_method_46_code 4 = .ok (.iconst 0, 1) := by decide +kernel
theorem d3_5 : decode jdk_43_method_46_code 5 = .ok (.iload_n 0, 1) := by decide +kernel
theorem d3_6 : decode jdk_43_method_46_code 6 = .ok (.i2b, 1) := by decide +kernel
theorem d3_7 : decode jdk_43_method_46_code 7 = .ok (.bastore, 1) := by decide +kernel
theorem d3_8 : decode jdk_43_method_46_code 8 = .ok (.areturn, 1) := by decide +kernel
theorem rToB (l : Launch) (Z : State) (a0 : Array Value) (hw : ∀ d ∈ tables_1, d.before a0 Z = true) (ws : List Jvm.Cond) (xp : Int32) (h0 : Heap) (O0 : Ext Z.heap h0)  :
    oCon l Z yy1 jdk_43_method_46_code 1 (some (.array .byte)) ws ({ frames := 0, cells := 1, slots := 1, locals := 0 } : Room) #[(.int xp)] h0 (Q_rToB Z xp h0) := by
  refine oCon.of (plainFor_of_name pn_0) ?_
  intro p e s m below meth c T X hx hby hml hown hnm hret hlk hZ e0
  have hml : c.maxLocals = 1 := hml
  have K : oKp h0 h0 [] [] := oKp.nil _ _
  refine oWk.cast (g' := (mkF m 0 #[iv xp] [])) (by first | rfl | (simp [entryFrame, mkF, argsToLocals, Value.category]; done)) ?_
  refine oWk.st (fun _ kt => XS.iconst X.here hx rfl (hb hby d3_0) kt) ?_
  obtain ⟨o1, g1⟩ : ∃ z, z = h0.size := ⟨_, rfl⟩
  have ge_o1 : h0.size ≤ o1 := Nat.le_trans K.le (Nat.le_of_eq g1.symm)
  obtain ⟨T, h, k1, X, e0, E1, A1, st⟩ := newP X hx hZ (oW hw 14 rfl) e0 (g := (mkF m 1 #[iv xp] [(.int 1)])) rfl (hb hby d3_1) rfl (by decide) (cap := 1) (by decide) (by decide) (by decide) (by decide)
  rw [← g1] at A1 st
  refine oWk.st st ?_
  have K := K.ext E1
  have V_o1 : Arv Z h o1 k1 .byte (1 : Int32) [(.int (0 : Int32))] (.int (0 : Int32)) := (Arv.new A1 (by decide)).pad (pad_rep [] (.int (0 : Int32)) 1)
  refine oWk.st (fun _ kt => XS.dup X.here hx rfl (hb hby d3_3) rfl rfl (XS.iconst X.here hx rfl (hb hby d3_4) (XS.iloadN X.here hx rfl (hb hby d3_5) rfl (XS.i2b X.here hx rfl (hb hby d3_6) rfl kt)))) ?_
  obtain ⟨cl2, Ar2, q2, Sz2, Nn2, Hs2, Ft2⟩ := id V_o1
  have hin2 : ¬ ((0 : Int32) < 0 ∨ cl2.slots.size ≤ ((0 : Int32)).toNatClampNeg) := inb_of Sz2 ⟨by decide, by decide⟩
  obtain ⟨T, h, X, e0, W2, st⟩ := stB X hx hZ e0 Ar2 (j := (0 : Int32)) hin2 (g := (mkF m 7 #[iv xp] [(.int (xp.toInt8.toInt32)), (.int 0), (.ref o1), (.ref o1)])) rfl rfl (hb hby d3_7)
  refine oWk.st st ?_
  have K := K.wr W2 (Or.inr ge_o1)
  have V_o1 := Arv.set Ar2 q2 Sz2 Nn2 Hs2 Ft2 (fits_nar_byte _) W2 0 rfl (Nat.le_of_ble_eq_true rfl)
  rw [oB8 xp] at V_o1
  replace V_o1 : Arv Z h o1 k1 .byte (1 : Int32) [(.int (xp.toInt8.toInt32))] (.int (0 : Int32)) := V_o1
  exact oRetA X hx hlk hret rfl rfl (hb hby d3_8) (by rw [e0]; exact ⟨o1, k1, rfl, K, ge_o1, V_o1⟩) (by decide) (by decide)
def Q_rSIn (Z : State) (xa : Addr) (xb : Addr) (xu : Value) (xv : Value) (h0 : Heap) (v : Option Value) (h : Heap) (L : List Loc) : Prop := v = none ∧ oKp h0 h [xa] L ∧ (Exa Z h xa "java/lang/String") ∧ (Fld Z h xa "java/lang/String" "value" "[B" (.ref xb)) ∧ (Fld Z h xa "java/lang/String" "coder" "B" (.int (0 : Int32)))
theorem pn_1 : plainName "java/lang/String" = true := by first | (simp [plainName, overriddenIn]; done) | decide +kernel
abbrev yy2 : MethodName := ⟨"java/lang/String", "<init>", "([BB)V"⟩
theorem d4_0 : decode jdk_42_method_151_code 0 = .ok (.aload_n 0, 1) := by decide +kernel
theorem d4_1 : decode jdk_42_method_151_code 1 = .ok (.invokespecial 1, 3) := by decide +kernel
theorem d4_4 : decode jdk_42_method_151_code 4 = .ok (.aload_n 0, 1) := by decide +kernel
theorem d4_5 : decode jdk_42_method_151_code 5 = .ok (.aload_n 1, 1) := by decide +kernel
theorem d4_6 : decode jdk_42_method_151_code 6 = .ok (.putfield 9, 3) := by decide +kernel
theorem d4_9 : decode jdk_42_method_151_code 9 = .ok (.aload_n 0, 1) := by decide +kernel
theorem d4_10 : decode jdk_42_method_151_code 10 = .ok (.iload_n 2, 1) := by decide +kernel
theorem d4_11 : decode jdk_42_method_151_code 11 = .ok (.putfield 15, 3) := by decide +kernel
theorem d4_14 : decode jdk_42_method_151_code 14 = .ok (.return_, 1) := by decide +kernel
theorem rSIn (l : Launch) (Z : State) (a0 : Array Value) (hw : ∀ d ∈ tables_1, d.before a0 Z = true) (ws : List Jvm.Cond) (xa : Addr) (xb : Addr) (xu : Value) (xv : Value) (h0 : Heap) (O0 : Ext Z.heap h0) (og_xa : Z.heap.size ≤ xa) (E_xa : Exa Z h0 xa "java/lang/String") (F_value_xa : Fld Z h0 xa "java/lang/String" "value" "[B" xu) (F_coder_xa : Fld Z h0 xa "java/lang/String" "coder" "B" xv) :
    oCon l Z yy2 jdk_42_method_151_code 3 none ws ({ frames := 1, cells := 0, slots := 0, locals := 12 } : Room) #[(.ref xa), (.ref xb), (.int (0 : Int32))] h0 (Q_rSIn Z xa xb xu xv h0) := by
  refine oCon.of (plainFor_of_name pn_1) ?_
  intro p e s m below meth c T X hx hby hml hown hnm hret hlk hZ e0
  have hml : c.maxLocals = 3 := hml
  have K : oKp h0 h0 [xa] [] := oKp.nil _ _
  refine oWk.cast (g' := (mkF m 0 #[rv xa, rv xb, iv 0] [])) (by first | rfl | (simp [entryFrame, mkF, argsToLocals, Value.category]; done)) ?_
  refine oWk.st (fun _ kt => XS.aloadN X.here hx rfl (hb hby d4_0) rfl rfl kt) ?_
  obtain ⟨T, X, e0, st⟩ := initO X hx hZ hown (oW hw 19 rfl) (oW hw 20 rfl) (oW hw 21 rfl) e0 (g := (mkF m 1 #[rv xa, rv xb, iv 0] [(.ref xa)])) rfl (by rw [hml]; rfl) rfl (hb hby d4_1) (by decide) (W := 0) (Nat.le_of_eq rfl) (by decide)
  refine oWk.st st ?_
  refine oWk.st (fun _ kt => XS.aloadN X.here hx rfl (hb hby d4_4) rfl rfl (XS.aloadN X.here hx rfl (hb hby d4_5) rfl rfl kt)) ?_
  obtain ⟨T, h, X, e0, W1, st⟩ := putF X hx hZ hown (host := "") (Or.inl (oW hw 22 rfl)) Via.refl e0 F_value_xa E_xa (Or.inr ⟨(oW hw 23 rfl), rfl, hnm⟩) (oW hw 10 rfl) (ty := (.array .byte)) (by decide) rfl rfl (g := (mkF m 6 #[rv xa, rv xb, iv 0] [(.ref xb), (.ref xa)])) rfl rfl (hb hby d4_6)
  refine oWk.st st ?_
  have K := K.wr W1 (Or.inl (List.mem_of_getElem? (i := 0) rfl))
  have F_value_xa := F_value_xa.same W1
  refine oWk.st (fun _ kt => XS.aloadN X.here hx rfl (hb hby d4_9) rfl rfl (XS.iloadN X.here hx rfl (hb hby d4_10) rfl kt)) ?_
  have E_xa := (E_xa.wr W1)
  have F_coder_xa := (F_coder_xa.other W1 (Or.inr (slot_ne (Or.inr (oW hw 25 rfl)) (Or.inr (oW hw 23 rfl)) (by decide) (t := .byte) (t' := (.array .byte)) (by decide) (by decide))))
  obtain ⟨T, h, X, e0, W2, st⟩ := putFN X hx hZ hown (oW hw 24 rfl) Via.refl e0 F_coder_xa E_xa (Or.inr ⟨(oW hw 25 rfl), rfl, hnm⟩) (oW hw 10 rfl) (ty := .byte) (v' := .int (0 : Int32)) (by decide) rfl (by decide) (g := (mkF m 11 #[rv xa, rv xb, iv 0] [(.int 0), (.ref xa)])) rfl rfl (hb hby d4_11)
  refine oWk.st st ?_
  have K := K.wr W2 (Or.inl (List.mem_of_getElem? (i := 0) rfl))
  have F_coder_xa := F_coder_xa.same W2
  have E_xa := (E_xa.wr W2)
  have F_value_xa := (F_value_xa.other W2 (Or.inr (slot_ne (Or.inr (oW hw 23 rfl)) (Or.inr (oW hw 25 rfl)) (by decide) (t := (.array .byte)) (t' := .byte) (by decide) (by decide))))
  exact oRetV X hx hlk hret (hb hby d4_14) (by rw [e0]; exact ⟨rfl, K, E_xa, F_value_xa, F_coder_xa⟩) (by decide) (by decide)
def Q_rVal (Z : State) (xp : Int32) (xz : Int32) (h0 : Heap) (v : Option Value) (h : Heap) (L : List Loc) : Prop := ∃ (nr : Addr) (nb : Addr) (nk : ClassId), v = some (.ref nr) ∧ oKp h0 h [] L ∧ (h0.size ≤ nr) ∧ (h0.size ≤ nb) ∧ (Exa Z h nr "java/lang/String") ∧ (Fld Z h nr "java/lang/String" "value" "[B" (.ref nb)) ∧ (Fld Z h nr "java/lang/String" "coder" "B" (.int (0 : Int32))) ∧ (Arv Z h nb nk .byte (1 : Int32) [(.int (xp.toInt8.toInt32))] (.int (0 : Int32))) ∧ (nr ≠ nb)
abbrev yy3 : MethodName := ⟨"java/lang/String", "valueOf", "(C)Ljava/lang/String;"⟩
theorem d1_0 : decode jdk_42_method_139_code 0 = .ok (.getstatic 38, 3) := by decide +kernel
theorem d1_3 : decode jdk_42_method_139_code 3 = .ok (.ifCond .eq 23, 3) := by decide +kernel
theorem d1_6 : decode jdk_42_method_139_code 6 = .ok (.iload_n 0, 1) := by decide +kernel
theorem d1_7 : decode jdk_42_method_139_code 7 = .ok (.invokestatic 1015, 3) := by decide +kernel
theorem pd_0 : parseMethodDescriptor "(C)Z" = some ⟨[.char], some .boolean⟩ := by decide +kernel
theorem d1_10 : decode jdk_42_method_139_code 10 = .ok (.ifCond .eq 16, 3) := by decide +kernel
theorem d1_13 : decode jdk_42_method_139_code 13 = .ok (.new 10, 3) := by decide +kernel
theorem d1_16 : decode jdk_42_method_139_code 16 = .ok (.dup, 1) := by decide +kernel
theorem d1_17 : decode jdk_42_method_139_code 17 = .ok (.iload_n 0, 1) := by decide +kernel
theorem d1_18 : decode jdk_42_method_139_code 18 = .ok (.invokestatic 1018, 3) := by decide +kernel
theorem pd_1 : parseMethodDescriptor "(C)[B" = some ⟨[.char], some (.array .byte)⟩ := by decide +kernel
theorem d1_21 : decode jdk_42_method_139_code 21 = .ok (.iconst 0, 1) := by decide +kernel
theorem d1_22 : decode jdk_42_method_139_code 22 = .ok (.invokespecial 209, 3) := by decide +kernel
theorem pd_2 : parseMethodDescriptor "([BB)V" = some ⟨[(.array .byte), .byte], none⟩ := by decide +kernel
theorem d1_25 : decode jdk_42_method_139_code 25 = .ok (.areturn, 1) := by decide +kernel
theorem rVal (l : Launch) (Z : State) (a0 : Array Value) (hw : ∀ d ∈ tables_1, d.before a0 Z = true) (ws : List Jvm.Cond) (xp : Int32) (xz : Int32) (h0 : Heap) (O0 : Ext Z.heap h0) (S_COMPACT_STRINGS : Sta Z Z.heap "java/lang/String" "COMPACT_STRINGS" "Z" (.int xz)) (hz : ¬ xz = (0 : Int32)) (hle : ¬ (255 : Int32) < xp) :
    oCon l Z yy3 jdk_42_method_139_code 1 (some (.object "java/lang/String")) ws ({ frames := 2, cells := 2, slots := 5, locals := 27 } : Room) #[(.int xp)] h0 (Q_rVal Z xp xz h0) := by
  refine oCon.of (plainFor_of_name pn_1) ?_
  intro p e s m below meth c T X hx hby hml hown hnm hret hlk hZ e0
  have hml : c.maxLocals = 1 := hml
  have K : oKp h0 h0 [] [] := oKp.nil _ _
  refine oWk.cast (g' := (mkF m 0 #[iv xp] [])) (by first | rfl | (simp [entryFrame, mkF, argsToLocals, Value.category]; done)) ?_
  have Oh := K.old O0 all0
  obtain ⟨T, X, e0, st⟩ := getS2 X hx hZ hown (host := "") (Or.inl (oW hw 4 rfl)) Via.refl e0 (S_COMPACT_STRINGS.ext Oh) (g := (mkF m 0 #[iv xp] [])) rfl (hb hby d1_0)
  refine oWk.st st ?_
  refine oWk.st (fun _ kt => XS.ifNo X.here hx rfl (hb hby d1_3) rfl ((if0 _ _).trans (feq hz).1) (XS.iloadN X.here hx rfl (hb hby d1_6) rfl kt)) ?_
  have Oh := K.old O0 all0
  obtain ⟨_, _, ⟨T, L2, k2, n2⟩, -, X, ⟨Lc2, hQ, l2, y2, z2⟩, st⟩ := Jvm.LawKit.callS X hx (y := yy0) hown (mvT hZ (oW hw 5 rfl)) (mvT hZ (oW hw 6 rfl)) (mvT hZ (oW hw 7 rfl)) (mvT hZ (oW hw 8 rfl)) (by decide) (backOf (W := 0) (rCan l Z a0 hw [] xp h0 Oh hle) hZ (oW hw 8 rfl) (oW hw 7 rfl) (by decide) (by decide)) (g := (mkF m 7 #[iv xp] [(.int xp)])) rfl (by rw [hml]; rfl) (argsL := [(.int xp)]) (rest := []) (lenOf pd_0 rfl) rfl (Nat.le_of_eq rfl) (hb hby d1_7) (fun _ _ => ⟨rfl, e0, (by decide : 0 + 0 ≤ _), (by decide : 0 + 0 ≤ _)⟩)
  dsimp only [Pt.U, Pt.locs, Pt.cells, Pt.slots] at X l2 y2 z2 st hQ
  subst l2 y2 z2
  obtain ⟨rfl, e0, K1⟩ := hQ
  have K := K.call K1 all0
  rw [e0] at K
  refine oWk.st st ?_
  refine oWk.st (fun _ kt => XS.ifNo X.here hx rfl (hb hby d1_10) rfl ((if0 _ _).trans (feq (by decide)).1) kt) ?_
  obtain ⟨o3, g3⟩ : ∃ z, z = h0.size := ⟨_, rfl⟩
  have ge_o3 : h0.size ≤ o3 := Nat.le_trans K.le (Nat.le_of_eq g3.symm)
  obtain ⟨T, h, X, e0, E3, A3, D3, -, st⟩ := newO X hx hZ hown (oW hw 9 rfl) (oW hw 10 rfl) (oW hw 2 rfl) e0 (g := (mkF m 13 #[iv xp] [])) rfl (hb hby d1_13) (by decide) (by decide)
  rw [← g3] at A3 D3 st
  refine oWk.st st ?_
  have K := K.ext E3
  have E_o3 := A3
  have F_value_o3 : Fld Z h o3 "java/lang/String" "value" "[B" .null := D3 (Or.inr (oW hw 23 rfl)) (ty := (.array .byte)) (by decide)
  have F_coder_o3 : Fld Z h o3 "java/lang/String" "coder" "B" (.int (0 : Int32)) := D3 (Or.inr (oW hw 25 rfl)) (ty := .byte) (by decide)
  refine oWk.st (fun _ kt => XS.dup X.here hx rfl (hb hby d1_16) rfl rfl (XS.iloadN X.here hx rfl (hb hby d1_17) rfl kt)) ?_
  have lt_o3 := E_o3.lt
  have Oh := K.old O0 all0
  obtain ⟨_, _, ⟨T, L5, k5, n5⟩, -, X, ⟨Lc5, hQ, l5, y5, z5⟩, st⟩ := Jvm.LawKit.callS X hx (y := yy1) hown (mvT hZ (oW hw 11 rfl)) (mvT hZ (oW hw 12 rfl)) (mvT hZ (oW hw 7 rfl)) (mvT hZ (oW hw 13 rfl)) (by decide) (backOf (W := 2) (rToB l Z a0 hw [] xp h Oh ) hZ (oW hw 13 rfl) (oW hw 7 rfl) (by decide) (by decide)) (g := (mkF m 18 #[iv xp] [(.int xp), (.ref o3), (.ref o3)])) rfl (by rw [hml]; rfl) (argsL := [(.int xp)]) (rest := [(.ref o3), (.ref o3)]) (lenOf pd_1 rfl) rfl (Nat.le_of_eq rfl) (hb hby d1_18) (fun _ _ => ⟨rfl, e0, (by decide : 1 + 1 ≤ _), (by decide : 4 + 1 ≤ _)⟩)
  dsimp only [Pt.U, Pt.locs, Pt.cells, Pt.slots] at X l5 y5 z5 st hQ
  subst l5 y5 z5
  obtain ⟨h, e0⟩ : ∃ z, T.heap = z := ⟨_, rfl⟩
  rw [e0] at hQ
  obtain ⟨nb4, nk4, rfl, K4, gn_nb4, V_nb4⟩ := hQ
  have ge_nb4 := Nat.le_trans K.le gn_nb4
  have ne_o3_nb4 : o3 ≠ nb4 := Nat.ne_of_lt (Nat.lt_of_lt_of_le lt_o3 gn_nb4)
  have K := K.call K4 all0
  refine oWk.st st ?_
  refine oWk.st (fun _ kt => XS.iconst X.here hx rfl (hb hby d1_21) kt) ?_
  have E_o3 := (E_o3.keep K4.1)
  have F_value_o3 := (F_value_o3.keep K4.1 nin0)
  have F_coder_o3 := (F_coder_o3.keep K4.1 nin0)
  have Oh := K.old O0 all0
  obtain ⟨_, _, ⟨T, L7, k7, n7⟩, -, X, ⟨Lc7, hQ, l7, y7, z7⟩, st⟩ := X.specialBack hx (y := yy2) rfl hown (mvT hZ (oW hw 15 rfl)) (mvT hZ (oW hw 16 rfl)) (mvT hZ (oW hw 18 rfl)) (by decide) (backOf (W := 1) (rSIn l Z a0 hw [] o3 nb4 .null (.int (0 : Int32)) h Oh (Nat.le_trans O0.1 ge_o3) E_o3 F_value_o3 F_coder_o3) hZ (oW hw 18 rfl) (oW hw 2 rfl) (by decide) (by decide)) (g := (mkF m 22 #[iv xp] [(.int 0), (.ref nb4), (.ref o3), (.ref o3)])) rfl (by rw [hml]; rfl) (Steps.refl _) (a := o3) (argsL := [(.ref nb4), (.int (0 : Int32))]) (rest := [(.ref o3)]) (lenOf pd_2 rfl) rfl (Nat.le_of_eq rfl) (hb hby d1_22) (fun _ _ => ⟨rfl, e0, (by decide : 2 + 0 ≤ _), (by decide : 5 + 0 ≤ _)⟩)
  dsimp only [Pt.U, Pt.locs, Pt.cells, Pt.slots] at X l7 y7 z7 st hQ
  subst l7 y7 z7
  obtain ⟨h, e0⟩ : ∃ z, T.heap = z := ⟨_, rfl⟩
  rw [e0] at hQ
  obtain ⟨rfl, K6, E_o3, F_value_o3, F_coder_o3⟩ := hQ
  have K := K.call K6 (allS (Or.inr ge_o3) all0)
  refine oWk.tr st ?_
  have V_nb4 := (V_nb4.keep K6.1 (ninS (Ne.symm ne_o3_nb4) nin0))
  exact oRetA X hx hlk hret rfl rfl (hb hby d1_25) (by rw [e0]; exact ⟨o3, nb4, nk4, rfl, K, ge_o3, ge_nb4, E_o3, F_value_o3, F_coder_o3, V_nb4, (ne_o3_nb4)⟩) (by decide) (by decide)
def Q_rRec (Z : State) (xa : Addr) (h0 : Heap) (v : Option Value) (h : Heap) (L : List Loc) : Prop := v = none ∧ h = h0 ∧ oKp h0 h [] L
theorem pn_2 : plainName "java/lang/Record" = true := by first | (simp [plainName, overriddenIn]; done) | decide +kernel
abbrev yy4 : MethodName := ⟨"java/lang/Record", "<init>", "()V"⟩
theorem d10_0 : decode jdk_30_method_1_code 0 = .ok (.aload_n 0, 1) := by decide +kernel
theorem d10_1 : decode jdk_30_method_1_code 1 = .ok (.invokespecial 1, 3) := by decide +kernel
theorem d10_4 : decode jdk_30_method_1_code 4 = .ok (.return_, 1) := by decide +kernel
theorem rRec (l : Launch) (Z : State) (a0 : Array Value) (hw : ∀ d ∈ tables_1, d.before a0 Z = true) (ws : List Jvm.Cond) (xa : Addr) (h0 : Heap) (O0 : Ext Z.heap h0)  :
    oCon l Z yy4 jdk_30_method_1_code 1 none ws ({ frames := 1, cells := 0, slots := 0, locals := 12 } : Room) #[(.ref xa)] h0 (Q_rRec Z xa h0) := by
  refine oCon.of (plainFor_of_name pn_2) ?_
  intro p e s m below meth c T X hx hby hml hown hnm hret hlk hZ e0
  have hml : c.maxLocals = 1 := hml
  have K : oKp h0 h0 [] [] := oKp.nil _ _
  refine oWk.cast (g' := (mkF m 0 #[rv xa] [])) (by first | rfl | (simp [entryFrame, mkF, argsToLocals, Value.category]; done)) ?_
  refine oWk.st (fun _ kt => XS.aloadN X.here hx rfl (hb hby d10_0) rfl rfl kt) ?_
  obtain ⟨T, X, e0, st⟩ := initO X hx hZ hown (oW hw 61 rfl) (oW hw 20 rfl) (oW hw 21 rfl) e0 (g := (mkF m 1 #[rv xa] [(.ref xa)])) rfl (by rw [hml]; rfl) rfl (hb hby d10_1) (by decide) (W := 0) (Nat.le_of_eq rfl) (by decide)
  refine oWk.st st ?_
  exact oRetV X hx hlk hret (hb hby d10_4) (by rw [e0]; exact ⟨rfl, rfl, K⟩) (by decide) (by decide)
def Q_rMk (Z : State) (xa : Addr) (xc : Int32) (xl : Int32) (u1 : Value) (u2 : Value) (h0 : Heap) (v : Option Value) (h : Heap) (L : List Loc) : Prop := v = none ∧ oKp h0 h [xa] L ∧ (Exa Z h xa "com/example/modwright/modwright/script/Argument$Mark")
theorem pn_3 : plainName "com/example/modwright/modwright/script/Argument$Mark" = true := by first | (simp [plainName, overriddenIn]; done) | decide +kernel
abbrev yy5 : MethodName := ⟨"com/example/modwright/modwright/script/Argument$Mark", "<init>", "(CI)V"⟩
theorem d22_0 : decode prog_40_method_1_code 0 = .ok (.aload_n 0, 1) := by decide +kernel
theorem d22_1 : decode prog_40_method_1_code 1 = .ok (.invokespecial 1, 3) := by decide +kernel
theorem pd_3 : parseMethodDescriptor "()V" = some ⟨[], none⟩ := by decide +kernel
theorem d22_4 : decode prog_40_method_1_code 4 = .ok (.aload_n 0, 1) := by decide +kernel
theorem d22_5 : decode prog_40_method_1_code 5 = .ok (.iload_n 1, 1) := by decide +kernel
theorem d22_6 : decode prog_40_method_1_code 6 = .ok (.putfield 7, 3) := by decide +kernel
theorem d22_9 : decode prog_40_method_1_code 9 = .ok (.aload_n 0, 1) := by decide +kernel
theorem d22_10 : decode prog_40_method_1_code 10 = .ok (.iload_n 2, 1) := by decide +kernel
theorem d22_11 : decode prog_40_method_1_code 11 = .ok (.putfield 13, 3) := by decide +kernel
theorem d22_14 : decode prog_40_method_1_code 14 = .ok (.return_, 1) := by decide +kernel
theorem rMk (l : Launch) (Z : State) (a0 : Array Value) (hw : ∀ d ∈ tables_1, d.before a0 Z = true) (ws : List Jvm.Cond) (xa : Addr) (xc : Int32) (xl : Int32) (u1 : Value) (u2 : Value) (h0 : Heap) (O0 : Ext Z.heap h0) (og_xa : Z.heap.size ≤ xa) (E_xa : Exa Z h0 xa "com/example/modwright/modwright/script/Argument$Mark") (F_symbol_xa : Fld Z h0 xa "com/example/modwright/modwright/script/Argument$Mark" "symbol" "C" u1) (F_line_xa : Fld Z h0 xa "com/example/modwright/modwright/script/Argument$Mark" "line" "I" u2) (hr : 0 ≤ xc.toInt ∧ xc.toInt < 256) :
    oCon l Z yy5 prog_40_method_1_code 3 none ws ({ frames := 2, cells := 0, slots := 0, locals := 24 } : Room) #[(.ref xa), (.int xc), (.int xl)] h0 (Q_rMk Z xa xc xl u1 u2 h0) := by
  refine oCon.of (plainFor_of_name pn_3) ?_
  intro p e s m below meth c T X hx hby hml hown hnm hret hlk hZ e0
  have hml : c.maxLocals = 3 := hml
  have K : oKp h0 h0 [xa] [] := oKp.nil _ _
  refine oWk.cast (g' := (mkF m 0 #[rv xa, iv xc, iv xl] [])) (by first | rfl | (simp [entryFrame, mkF, argsToLocals, Value.category]; done)) ?_
  refine oWk.st (fun _ kt => XS.aloadN X.here hx rfl (hb hby d22_0) rfl rfl kt) ?_
  have Oh := K.old O0 (allS og_xa all0)
  obtain ⟨_, _, ⟨T, L2, k2, n2⟩, -, X, ⟨Lc2, hQ, l2, y2, z2⟩, st⟩ := X.specialBack hx (y := yy4) rfl hown (mvT hZ (oW hw 144 rfl)) (mvT hZ (oW hw 57 rfl)) (mvT hZ (oW hw 60 rfl)) (by decide) (backOf (W := 0) (rRec l Z a0 hw [] xa h0 Oh ) hZ (oW hw 60 rfl) (oW hw 59 rfl) (by decide) (by decide)) (g := (mkF m 1 #[rv xa, iv xc, iv xl] [(.ref xa)])) rfl (by rw [hml]; rfl) (Steps.refl _) (a := xa) (argsL := []) (rest := []) (lenOf pd_3 rfl) rfl (Nat.le_of_eq rfl) (hb hby d22_1) (fun _ _ => ⟨rfl, e0, (by decide : 0 + 0 ≤ _), (by decide : 0 + 0 ≤ _)⟩)
  dsimp only [Pt.U, Pt.locs, Pt.cells, Pt.slots] at X l2 y2 z2 st hQ
  subst l2 y2 z2
  obtain ⟨rfl, e0, K1⟩ := hQ
  have K := K.call K1 all0
  rw [e0] at K
  refine oWk.tr st ?_
  refine oWk.st (fun _ kt => XS.aloadN X.here hx rfl (hb hby d22_4) rfl rfl (XS.iloadN X.here hx rfl (hb hby d22_5) rfl kt)) ?_
  obtain ⟨T, h, X, e0, W3, st⟩ := putFN X hx hZ hown (oW hw 145 rfl) Via.refl e0 F_symbol_xa E_xa (Or.inr ⟨(oW hw 146 rfl), rfl, hnm⟩) (oW hw 139 rfl) (ty := .char) (v' := .int xc) (by decide) (show narrow .char (.int xc) = .int xc from congrArg Value.int (oChr hr)) (oFitC hr) (g := (mkF m 6 #[rv xa, iv xc, iv xl] [(.int xc), (.ref xa)])) rfl rfl (hb hby d22_6)
  refine oWk.st st ?_
  have K := K.wr W3 (Or.inl (List.mem_of_getElem? (i := 0) rfl))
  have F_symbol_xa := F_symbol_xa.same W3
  refine oWk.st (fun _ kt => XS.aloadN X.here hx rfl (hb hby d22_9) rfl rfl (XS.iloadN X.here hx rfl (hb hby d22_10) rfl kt)) ?_
  have E_xa := (E_xa.wr W3)
  have F_line_xa := (F_line_xa.other W3 (Or.inr (slot_ne (Or.inr (oW hw 148 rfl)) (Or.inr (oW hw 146 rfl)) (by decide) (t := .int) (t' := .char) (by decide) (by decide))))
  obtain ⟨T, h, X, e0, W4, st⟩ := putF X hx hZ hown (host := "") (Or.inl (oW hw 147 rfl)) Via.refl e0 F_line_xa E_xa (Or.inr ⟨(oW hw 148 rfl), rfl, hnm⟩) (oW hw 139 rfl) (ty := .int) (by decide) rfl rfl (g := (mkF m 11 #[rv xa, iv xc, iv xl] [(.int xl), (.ref xa)])) rfl rfl (hb hby d22_11)
  refine oWk.st st ?_
  have K := K.wr W4 (Or.inl (List.mem_of_getElem? (i := 0) rfl))
  have F_line_xa := F_line_xa.same W4
  have E_xa := (E_xa.wr W4)
  exact oRetV X hx hlk hret (hb hby d22_14) (by rw [e0]; exact ⟨rfl, K, E_xa⟩) (by decide) (by decide)

def Q_rHB0 (Z : State) (xa : Addr) (h0 : Heap) (v : Option Value) (h : Heap) (L : List Loc) : Prop := v = some (.int (0 : Int32)) ∧ h = h0 ∧ oKp h0 h [] L
theorem pn_4 : plainName "com/example/modwright/modwright/script/Directive" = true := by first | (simp [plainName, overriddenIn]; done) | decide +kernel
abbrev yy6 : MethodName := ⟨"com/example/modwright/modwright/script/Directive", "hasBlock", "()Z"⟩
theorem d20_0 : decode prog_45_method_2_code 0 = .ok (.aconst_null, 1) := by decide +kernel
theorem d20_1 : decode prog_45_method_2_code 1 = .ok (.aload_n 0, 1) := by decide +kernel
theorem d20_2 : decode prog_45_method_2_code 2 = .ok (.getfield 36, 3) := by decide +kernel
theorem d20_5 : decode prog_45_method_2_code 5 = .ok (.if_acmp .eq 7, 3) := by decide +kernel
theorem d20_12 : decode prog_45_method_2_code 12 = .ok (.iconst 0, 1) := by decide +kernel
theorem d20_13 : decode prog_45_method_2_code 13 = .ok (.ireturn, 1) := by decide +kernel
theorem rHB0 (l : Launch) (Z : State) (a0 : Array Value) (hw : ∀ d ∈ tables_1, d.before a0 Z = true) (ws : List Jvm.Cond) (xa : Addr) (h0 : Heap) (O0 : Ext Z.heap h0) (F_block_xa : Fld Z h0 xa "com/example/modwright/modwright/script/Directive" "block" "Ljava/util/List;" .null) :
    oCon l Z yy6 prog_45_method_2_code 1 (some .boolean) ws ({ frames := 0, cells := 0, slots := 0, locals := 0 } : Room) #[(.ref xa)] h0 (Q_rHB0 Z xa h0) := by
  refine oCon.of (plainFor_of_name pn_4) ?_
  intro p e s m below meth c T X hx hby hml hown hnm hret hlk hZ e0
  have hml : c.maxLocals = 1 := hml
  have K : oKp h0 h0 [] [] := oKp.nil _ _
  refine oWk.cast (g' := (mkF m 0 #[rv xa] [])) (by first | rfl | (simp [entryFrame, mkF, argsToLocals, Value.category]; done)) ?_
  refine oWk.st (fun _ kt => XS.aconstNull X.here hx rfl (hb hby d20_0) (XS.aloadN X.here hx rfl (hb hby d20_1) rfl rfl kt)) ?_
  obtain ⟨T, X, e0, st⟩ := getF X hx hZ hown (host := "") (Or.inl (oW hw 97 rfl)) Via.refl e0 F_block_xa (g := (mkF m 2 #[rv xa] [(.ref xa), .null])) rfl rfl (hb hby d20_2)
  refine oWk.st st ?_
  refine oWk.st (fun _ kt => Jvm.RoadKit.acmp (g := (mkF m 5 #[rv xa] [.null, .null])) X hx rfl rfl rfl (pc0 := 5) (pc' := 12) (same := true) rfl (hb hby d20_5) rfl (decide_eq_true rfl) (by decide) (by decide) kt) ?_
  show oWk _ _ _ _ T (mkF m 12 #[rv xa] [])
  refine oWk.st (fun _ kt => XS.iconst X.here hx rfl (hb hby d20_12) kt) ?_
  show oWk _ _ _ _ T (mkF m 13 #[rv xa] [(.int 0)])
  exact oRetZ X hx hlk hret (hb hby d20_13) (Or.inl rfl) (by rw [e0]; exact ⟨rfl, rfl, K⟩) (by decide) (by decide)
def Q_rHB1 (Z : State) (xa : Addr) (xb : Addr) (h0 : Heap) (v : Option Value) (h : Heap) (L : List Loc) : Prop := v = some (.int (1 : Int32)) ∧ h = h0 ∧ oKp h0 h [] L
theorem d20_8 : decode prog_45_method_2_code 8 = .ok (.iconst 1, 1) := by decide +kernel
theorem d20_9 : decode prog_45_method_2_code 9 = .ok (.goto 4, 3) := by decide +kernel
theorem rHB1 (l : Launch) (Z : State) (a0 : Array Value) (hw : ∀ d ∈ tables_1, d.before a0 Z = true) (ws : List Jvm.Cond) (xa : Addr) (xb : Addr) (h0 : Heap) (O0 : Ext Z.heap h0) (F_block_xa : Fld Z h0 xa "com/example/modwright/modwright/script/Directive" "block" "Ljava/util/List;" (.ref xb)) :
    oCon l Z yy6 prog_45_method_2_code 1 (some .boolean) ws ({ frames := 0, cells := 0, slots := 0, locals := 0 } : Room) #[(.ref xa)] h0 (Q_rHB1 Z xa xb h0) := by
  refine oCon.of (plainFor_of_name pn_4) ?_
  intro p e s m below meth c T X hx hby hml hown hnm hret hlk hZ e0
  have hml : c.maxLocals = 1 := hml
  have K : oKp h0 h0 [] [] := oKp.nil _ _
  refine oWk.cast (g' := (mkF m 0 #[rv xa] [])) (by first | rfl | (simp [entryFrame, mkF, argsToLocals, Value.category]; done)) ?_
  refine oWk.st (fun _ kt => XS.aconstNull X.here hx rfl (hb hby d20_0) (XS.aloadN X.here hx rfl (hb hby d20_1) rfl rfl kt)) ?_
  obtain ⟨T, X, e0, st⟩ := getF X hx hZ hown (host := "") (Or.inl (oW hw 97 rfl)) Via.refl e0 F_block_xa (g := (mkF m 2 #[rv xa] [(.ref xa), .null])) rfl rfl (hb hby d20_2)
  refine oWk.st st ?_
  refine oWk.st (fun _ kt => Jvm.RoadKit.acmp (g := (mkF m 5 #[rv xa] [(.ref xb), .null])) X hx rfl rfl rfl (pc0 := 5) (pc' := 8) (same := false) rfl (hb hby d20_5) rfl (decide_eq_false nofun) (by decide) (by decide) kt) ?_
  show oWk _ _ _ _ T (mkF m 8 #[rv xa] [])
  refine oWk.st (fun _ kt => XS.iconst X.here hx rfl (hb hby d20_8) (XS.goto X.here hx rfl (pc0 := 9) (pc' := 13) rfl (hb hby d20_9) (by decide) (by decide) kt)) ?_
  show oWk _ _ _ _ T (mkF m 13 #[rv xa] [(.int 1)])
  exact oRetZ X hx hlk hret (hb hby d20_13) (Or.inr rfl) (by rw [e0]; exact ⟨rfl, rfl, K⟩) (by decide) (by decide)
def Q_rBL0 (Z : State) (xa : Addr) (h0 : Heap) (v : Option Value) (h : Heap) (L : List Loc) : Prop := v = some .null ∧ h = h0 ∧ oKp h0 h [] L
abbrev yy7 : MethodName := ⟨"com/example/modwright/modwright/script/Directive", "block", "()Ljava/util/List;"⟩
theorem d21_0 : decode prog_45_method_9_code 0 = .ok (.aload_n 0, 1) := by decide +kernel
theorem d21_1 : decode prog_45_method_9_code 1 = .ok (.getfield 36, 3) := by decide +kernel
theorem d21_4 : decode prog_45_method_9_code 4 = .ok (.areturn, 1) := by decide +kernel
theorem rBL0 (l : Launch) (Z : State) (a0 : Array Value) (hw : ∀ d ∈ tables_1, d.before a0 Z = true) (ws : List Jvm.Cond) (xa : Addr) (h0 : Heap) (O0 : Ext Z.heap h0) (F_block_xa : Fld Z h0 xa "com/example/modwright/modwright/script/Directive" "block" "Ljava/util/List;" .null) :
    oCon l Z yy7 prog_45_method_9_code 1 (some (.object "java/util/List")) ws ({ frames := 0, cells := 0, slots := 0, locals := 0 } : Room) #[(.ref xa)] h0 (Q_rBL0 Z xa h0) := by
  refine oCon.of (plainFor_of_name pn_4) ?_
  intro p e s m below meth c T X hx hby hml hown hnm hret hlk hZ e0
  have hml : c.maxLocals = 1 := hml
  have K : oKp h0 h0 [] [] := oKp.nil _ _
  refine oWk.cast (g' := (mkF m 0 #[rv xa] [])) (by first | rfl | (simp [entryFrame, mkF, argsToLocals, Value.category]; done)) ?_
  refine oWk.st (fun _ kt => XS.aloadN X.here hx rfl (hb hby d21_0) rfl rfl kt) ?_
  obtain ⟨T, X, e0, st⟩ := getF X hx hZ hown (host := "") (Or.inl (oW hw 97 rfl)) Via.refl e0 F_block_xa (g := (mkF m 1 #[rv xa] [(.ref xa)])) rfl rfl (hb hby d21_1)
  refine oWk.st st ?_
  exact oRetA X hx hlk hret rfl rfl (hb hby d21_4) (by rw [e0]; exact ⟨rfl, rfl, K⟩) (by decide) (by decide)
def Q_rBL1 (Z : State) (xa : Addr) (xb : Addr) (h0 : Heap) (v : Option Value) (h : Heap) (L : List Loc) : Prop := v = some (.ref xb) ∧ h = h0 ∧ oKp h0 h [] L
theorem rBL1 (l : Launch) (Z : State) (a0 : Array Value) (hw : ∀ d ∈ tables_1, d.before a0 Z = true) (ws : List Jvm.Cond) (xa : Addr) (xb : Addr) (h0 : Heap) (O0 : Ext Z.heap h0) (F_block_xa : Fld Z h0 xa "com/example/modwright/modwright/script/Directive" "block" "Ljava/util/List;" (.ref xb)) :
    oCon l Z yy7 prog_45_method_9_code 1 (some (.object "java/util/List")) ws ({ frames := 0, cells := 0, slots := 0, locals := 0 } : Room) #[(.ref xa)] h0 (Q_rBL1 Z xa xb h0) := by
  refine oCon.of (plainFor_of_name pn_4) ?_
  intro p e s m below meth c T X hx hby hml hown hnm hret hlk hZ e0
  have hml : c.maxLocals = 1 := hml
  have K : oKp h0 h0 [] [] := oKp.nil _ _
  refine oWk.cast (g' := (mkF m 0 #[rv xa] [])) (by first | rfl | (simp [entryFrame, mkF, argsToLocals, Value.category]; done)) ?_
  refine oWk.st (fun _ kt => XS.aloadN X.here hx rfl (hb hby d21_0) rfl rfl kt) ?_
  obtain ⟨T, X, e0, st⟩ := getF X hx hZ hown (host := "") (Or.inl (oW hw 97 rfl)) Via.refl e0 F_block_xa (g := (mkF m 1 #[rv xa] [(.ref xa)])) rfl rfl (hb hby d21_1)
  refine oWk.st st ?_
  exact oRetA X hx hlk hret rfl rfl (hb hby d21_4) (by rw [e0]; exact ⟨rfl, rfl, K⟩) (by decide) (by decide)
theorem oM3 (x : Int32) : (x &&& 3) = 0 ∨ (x &&& 3) = 1 ∨ (x &&& 3) = 2 ∨ (x &&& 3) = 3 := by
  have q := c_mask x 3 2 (by decide) (by decide)
  have e : ∀ j : Int32, (x &&& 3).toInt = j.toInt → (x &&& 3) = j := fun j q => Int32.toInt_inj.mp q
  have d : (x &&& 3).toInt = 0 ∨ (x &&& 3).toInt = 1 ∨ (x &&& 3).toInt = 2 ∨ (x &&& 3).toInt = 3 := by omega
  exact d.imp (e 0) (Or.imp (e 1) (Or.imp (e 2) (e 3)))
def Q_rABC (Z : State) (xa : Addr) (h0 : Heap) (v : Option Value) (h : Heap) (L : List Loc) : Prop := v = none ∧ h = h0 ∧ oKp h0 h [] L
theorem pn_5 : plainName "java/util/AbstractCollection" = true := by first | (simp [plainName, overriddenIn]; done) | decide +kernel
abbrev yy8 : MethodName := ⟨"java/util/AbstractCollection", "<init>", "()V"⟩
theorem d8_0 : decode jdk_22_method_1_code 0 = .ok (.aload_n 0, 1) := by decide +kernel
theorem d8_1 : decode jdk_22_method_1_code 1 = .ok (.invokespecial 1, 3) := by decide +kernel
theorem d8_4 : decode jdk_22_method_1_code 4 = .ok (.return_, 1) := by decide +kernel
theorem rABC (l : Launch) (Z : State) (a0 : Array Value) (hw : ∀ d ∈ tables_1, d.before a0 Z = true) (ws : List Jvm.Cond) (xa : Addr) (h0 : Heap) (O0 : Ext Z.heap h0)  :
    oCon l Z yy8 jdk_22_method_1_code 1 none ws ({ frames := 1, cells := 0, slots := 0, locals := 12 } : Room) #[(.ref xa)] h0 (Q_rABC Z xa h0) := by
  refine oCon.of (plainFor_of_name pn_5) ?_
  intro p e s m below meth c T X hx hby hml hown hnm hret hlk hZ e0
  have hml : c.maxLocals = 1 := hml
  have K : oKp h0 h0 [] [] := oKp.nil _ _
  refine oWk.cast (g' := (mkF m 0 #[rv xa] [])) (by first | rfl | (simp [entryFrame, mkF, argsToLocals, Value.category]; done)) ?_
  refine oWk.st (fun _ kt => XS.aloadN X.here hx rfl (hb hby d8_0) rfl rfl kt) ?_
  obtain ⟨T, X, e0, st⟩ := initO X hx hZ hown (oW hw 44 rfl) (oW hw 20 rfl) (oW hw 21 rfl) e0 (g := (mkF m 1 #[rv xa] [(.ref xa)])) rfl (by rw [hml]; rfl) rfl (hb hby d8_1) (by decide) (W := 0) (Nat.le_of_eq rfl) (by decide)
  refine oWk.st st ?_
  exact oRetV X hx hlk hret (hb hby d8_4) (by rw [e0]; exact ⟨rfl, rfl, K⟩) (by decide) (by decide)
def Q_rABL (Z : State) (xa : Addr) (xm : Value) (xe : Value) (xn : Int32) (h0 : Heap) (v : Option Value) (h : Heap) (L : List Loc) : Prop := v = none ∧ oKp h0 h [xa] L ∧ (Exa Z h xa "java/util/ArrayList") ∧ (Fld Z h xa "java/util/AbstractList" "modCount" "I" (.int (0 : Int32))) ∧ (Fld Z h xa "java/util/ArrayList" "elementData" "[Ljava/lang/Object;" xe) ∧ (Fld Z h xa "java/util/ArrayList" "size" "I" (.int xn))
theorem pn_6 : plainName "java/util/AbstractList" = true := by first | (simp [plainName, overriddenIn]; done) | decide +kernel
abbrev yy9 : MethodName := ⟨"java/util/AbstractList", "<init>", "()V"⟩
theorem d7_0 : decode jdk_39_method_1_code 0 = .ok (.aload_n 0, 1) := by decide +kernel
theorem d7_1 : decode jdk_39_method_1_code 1 = .ok (.invokespecial 1, 3) := by decide +kernel
theorem d7_4 : decode jdk_39_method_1_code 4 = .ok (.aload_n 0, 1) := by decide +kernel
theorem d7_5 : decode jdk_39_method_1_code 5 = .ok (.iconst 0, 1) := by decide +kernel
theorem d7_6 : decode jdk_39_method_1_code 6 = .ok (.putfield 7, 3) := by decide +kernel
theorem d7_9 : decode jdk_39_method_1_code 9 = .ok (.return_, 1) := by decide +kernel
theorem rABL (l : Launch) (Z : State) (a0 : Array Value) (hw : ∀ d ∈ tables_1, d.before a0 Z = true) (ws : List Jvm.Cond) (xa : Addr) (xm : Value) (xe : Value) (xn : Int32) (h0 : Heap) (O0 : Ext Z.heap h0) (og_xa : Z.heap.size ≤ xa) (E_xa : Exa Z h0 xa "java/util/ArrayList") (F_modCount_xa : Fld Z h0 xa "java/util/AbstractList" "modCount" "I" xm) (F_elementData_xa : Fld Z h0 xa "java/util/ArrayList" "elementData" "[Ljava/lang/Object;" xe) (F_size_xa : Fld Z h0 xa "java/util/ArrayList" "size" "I" (.int xn)) :
    oCon l Z yy9 jdk_39_method_1_code 1 none ws ({ frames := 2, cells := 0, slots := 0, locals := 24 } : Room) #[(.ref xa)] h0 (Q_rABL Z xa xm xe xn h0) := by
  refine oCon.of (plainFor_of_name pn_6) ?_
  intro p e s m below meth c T X hx hby hml hown hnm hret hlk hZ e0
  have hml : c.maxLocals = 1 := hml
  have K : oKp h0 h0 [xa] [] := oKp.nil _ _
  refine oWk.cast (g' := (mkF m 0 #[rv xa] [])) (by first | rfl | (simp [entryFrame, mkF, argsToLocals, Value.category]; done)) ?_
  refine oWk.st (fun _ kt => XS.aloadN X.here hx rfl (hb hby d7_0) rfl rfl kt) ?_
  have Oh := K.old O0 (allS og_xa all0)
  obtain ⟨_, _, ⟨T, L2, k2, n2⟩, -, X, ⟨Lc2, hQ, l2, y2, z2⟩, st⟩ := X.specialBack hx (y := yy8) rfl hown (mvT hZ (oW hw 38 rfl)) (mvT hZ (oW hw 39 rfl)) (mvT hZ (oW hw 43 rfl)) (by decide) (backOf (W := 0) (rABC l Z a0 hw [] xa h0 Oh ) hZ (oW hw 43 rfl) (oW hw 42 rfl) (by decide) (by decide)) (g := (mkF m 1 #[rv xa] [(.ref xa)])) rfl (by rw [hml]; rfl) (Steps.refl _) (a := xa) (argsL := []) (rest := []) (lenOf pd_3 rfl) rfl (Nat.le_of_eq rfl) (hb hby d7_1) (fun _ _ => ⟨rfl, e0, (by decide : 0 + 0 ≤ _), (by decide : 0 + 0 ≤ _)⟩)
  dsimp only [Pt.U, Pt.locs, Pt.cells, Pt.slots] at X l2 y2 z2 st hQ
  subst l2 y2 z2
  obtain ⟨rfl, e0, K1⟩ := hQ
  have K := K.call K1 all0
  rw [e0] at K
  refine oWk.tr st ?_
  refine oWk.st (fun _ kt => XS.aloadN X.here hx rfl (hb hby d7_4) rfl rfl (XS.iconst X.here hx rfl (hb hby d7_5) kt)) ?_
  obtain ⟨T, h, X, e0, W3, st⟩ := putF X hx hZ hown (host := "") (Or.inl (oW hw 45 rfl)) Via.refl e0 F_modCount_xa E_xa (Or.inl (oW hw 46 rfl)) (oW hw 27 rfl) (ty := .int) (by decide) rfl rfl (g := (mkF m 6 #[rv xa] [(.int 0), (.ref xa)])) rfl rfl (hb hby d7_6)
  refine oWk.st st ?_
  have K := K.wr W3 (Or.inl (List.mem_of_getElem? (i := 0) rfl))
  have F_modCount_xa := F_modCount_xa.same W3
  have E_xa := (E_xa.wr W3)
  have F_elementData_xa := (F_elementData_xa.other W3 (Or.inr (slot_ne (Or.inl (oW hw 49 rfl)) (Or.inl (oW hw 46 rfl)) (by decide) (t := (.array (.object "java/lang/Object"))) (t' := .int) (by decide) (by decide))))
  have F_size_xa := (F_size_xa.other W3 (Or.inr (slot_ne (Or.inl (oW hw 86 rfl)) (Or.inl (oW hw 46 rfl)) (by decide) (t := .int) (t' := .int) (by decide) (by decide))))
  exact oRetV X hx hlk hret (hb hby d7_9) (by rw [e0]; exact ⟨rfl, K, E_xa, F_modCount_xa, F_elementData_xa, F_size_xa⟩) (by decide) (by decide)
def Q_rAL (Z : State) (xa : Addr) (xd : Addr) (xm : Value) (xe : Value) (h0 : Heap) (v : Option Value) (h : Heap) (L : List Loc) : Prop := v = none ∧ oKp h0 h [xa] L ∧ (Exa Z h xa "java/util/ArrayList") ∧ (Fld Z h xa "java/util/ArrayList" "elementData" "[Ljava/lang/Object;" (.ref xd)) ∧ (Fld Z h xa "java/util/ArrayList" "size" "I" (.int (0 : Int32))) ∧ (Fld Z h xa "java/util/AbstractList" "modCount" "I" (.int (0 : Int32)))
theorem pn_7 : plainName "java/util/ArrayList" = true := by first | (simp [plainName, overriddenIn]; done) | decide +kernel
abbrev yy10 : MethodName := ⟨"java/util/ArrayList", "<init>", "()V"⟩
theorem d6_0 : decode jdk_38_method_2_code 0 = .ok (.aload_n 0, 1) := by decide +kernel
theorem d6_1 : decode jdk_38_method_2_code 1 = .ok (.invokespecial 1, 3) := by decide +kernel
theorem d6_4 : decode jdk_38_method_2_code 4 = .ok (.aload_n 0, 1) := by decide +kernel
theorem d6_5 : decode jdk_38_method_2_code 5 = .ok (.getstatic 39, 3) := by decide +kernel
theorem d6_8 : decode jdk_38_method_2_code 8 = .ok (.putfield 9, 3) := by decide +kernel
theorem d6_11 : decode jdk_38_method_2_code 11 = .ok (.return_, 1) := by decide +kernel
theorem rAL (l : Launch) (Z : State) (a0 : Array Value) (hw : ∀ d ∈ tables_1, d.before a0 Z = true) (ws : List Jvm.Cond) (xa : Addr) (xd : Addr) (xm : Value) (xe : Value) (h0 : Heap) (O0 : Ext Z.heap h0) (S_DEFAULTCAPACITY_EMPTY_ELEMENTDATA : Sta Z Z.heap "java/util/ArrayList" "DEFAULTCAPACITY_EMPTY_ELEMENTDATA" "[Ljava/lang/Object;" (.ref xd)) (og_xa : Z.heap.size ≤ xa) (E_xa : Exa Z h0 xa "java/util/ArrayList") (F_elementData_xa : Fld Z h0 xa "java/util/ArrayList" "elementData" "[Ljava/lang/Object;" xe) (F_size_xa : Fld Z h0 xa "java/util/ArrayList" "size" "I" (.int (0 : Int32))) (F_modCount_xa : Fld Z h0 xa "java/util/AbstractList" "modCount" "I" xm) :
    oCon l Z yy10 jdk_38_method_2_code 1 none ws ({ frames := 3, cells := 0, slots := 0, locals := 36 } : Room) #[(.ref xa)] h0 (Q_rAL Z xa xd xm xe h0) := by
  refine oCon.of (plainFor_of_name pn_7) ?_
  intro p e s m below meth c T X hx hby hml hown hnm hret hlk hZ e0
  have hml : c.maxLocals = 1 := hml
  have K : oKp h0 h0 [xa] [] := oKp.nil _ _
  refine oWk.cast (g' := (mkF m 0 #[rv xa] [])) (by first | rfl | (simp [entryFrame, mkF, argsToLocals, Value.category]; done)) ?_
  refine oWk.st (fun _ kt => XS.aloadN X.here hx rfl (hb hby d6_0) rfl rfl kt) ?_
  have Oh := K.old O0 (allS og_xa all0)
  obtain ⟨_, _, ⟨T, L2, k2, n2⟩, -, X, ⟨Lc2, hQ, l2, y2, z2⟩, st⟩ := X.specialBack hx (y := yy9) rfl hown (mvT hZ (oW hw 32 rfl)) (mvT hZ (oW hw 33 rfl)) (mvT hZ (oW hw 37 rfl)) (by decide) (backOf (W := 0) (rABL l Z a0 hw [] xa xm xe (0 : Int32) h0 Oh og_xa E_xa F_modCount_xa F_elementData_xa F_size_xa) hZ (oW hw 37 rfl) (oW hw 36 rfl) (by decide) (by decide)) (g := (mkF m 1 #[rv xa] [(.ref xa)])) rfl (by rw [hml]; rfl) (Steps.refl _) (a := xa) (argsL := []) (rest := []) (lenOf pd_3 rfl) rfl (Nat.le_of_eq rfl) (hb hby d6_1) (fun _ _ => ⟨rfl, e0, (by decide : 0 + 0 ≤ _), (by decide : 0 + 0 ≤ _)⟩)
  dsimp only [Pt.U, Pt.locs, Pt.cells, Pt.slots] at X l2 y2 z2 st hQ
  subst l2 y2 z2
  obtain ⟨h, e0⟩ : ∃ z, T.heap = z := ⟨_, rfl⟩
  rw [e0] at hQ
  obtain ⟨rfl, K1, E_xa, F_modCount_xa, F_elementData_xa, F_size_xa⟩ := hQ
  have K := K.call K1 (allS (Or.inl (List.mem_of_getElem? (i := 0) rfl)) all0)
  refine oWk.tr st ?_
  refine oWk.st (fun _ kt => XS.aloadN X.here hx rfl (hb hby d6_4) rfl rfl kt) ?_
  have Oh := K.old O0 (allS og_xa all0)
  obtain ⟨T, X, e0, st⟩ := getS2 X hx hZ hown (host := "") (Or.inl (oW hw 47 rfl)) Via.refl e0 (S_DEFAULTCAPACITY_EMPTY_ELEMENTDATA.ext Oh) (g := (mkF m 5 #[rv xa] [(.ref xa)])) rfl (hb hby d6_5)
  refine oWk.st st ?_
  obtain ⟨T, h, X, e0, W3, st⟩ := putF X hx hZ hown (host := "") (Or.inl (oW hw 48 rfl)) Via.refl e0 F_elementData_xa E_xa (Or.inl (oW hw 49 rfl)) (oW hw 27 rfl) (ty := (.array (.object "java/lang/Object"))) (by decide) rfl rfl (g := (mkF m 8 #[rv xa] [(.ref xd), (.ref xa)])) rfl rfl (hb hby d6_8)
  refine oWk.st st ?_
  have K := K.wr W3 (Or.inl (List.mem_of_getElem? (i := 0) rfl))
  have F_elementData_xa := F_elementData_xa.same W3
  have E_xa := (E_xa.wr W3)
  have F_size_xa := (F_size_xa.other W3 (Or.inr (slot_ne (Or.inl (oW hw 86 rfl)) (Or.inl (oW hw 49 rfl)) (by decide) (t := .int) (t' := (.array (.object "java/lang/Object"))) (by decide) (by decide))))
  have F_modCount_xa := (F_modCount_xa.other W3 (Or.inr (slot_ne (Or.inl (oW hw 46 rfl)) (Or.inl (oW hw 49 rfl)) (by decide) (t := .int) (t' := (.array (.object "java/lang/Object"))) (by decide) (by decide))))
  exact oRetV X hx hlk hret (hb hby d6_11) (by rw [e0]; exact ⟨rfl, K, E_xa, F_elementData_xa, F_size_xa, F_modCount_xa⟩) (by decide) (by decide)
def Q_rLaw (Z : State) (p0 : Int32) (p1 : Int32) (p2 : Int32) (p3 : Int32) (xd : Addr) (xk : ClassId) (xl : Addr) (xq : Addr) (xmr : Addr) (xz : Int32) (h0 : Heap) (v : Option Value) (h : Heap) (L : List Loc) : Prop := v = some (.int (1 : Int32)) ∧ Fr h0.size L
theorem pn_8 : plainName "com/example/modwright/modwright/script/DirectiveHasBlockPinLaw" = true := by first | (simp [plainName, overriddenIn]; done) | decide +kernel
theorem pd_4 : parseMethodDescriptor "(C)Ljava/lang/String;" = some ⟨[.char], some (.object "java/lang/String")⟩ := by decide +kernel
def Q_rEmp0 (Z : State) (xa : Addr) (h0 : Heap) (v : Option Value) (h : Heap) (L : List Loc) : Prop := v = some (.int (1 : Int32)) ∧ h = h0 ∧ oKp h0 h [] L
abbrev yy11 : MethodName := ⟨"java/util/ArrayList", "isEmpty", "()Z"⟩
theorem d13_0 : decode jdk_38_method_9_code 0 = .ok (.aload_n 0, 1) := by decide +kernel
theorem d13_1 : decode jdk_38_method_9_code 1 = .ok (.getfield 48, 3) := by decide +kernel
theorem d13_4 : decode jdk_38_method_9_code 4 = .ok (.ifCond .ne 7, 3) := by decide +kernel
theorem d13_7 : decode jdk_38_method_9_code 7 = .ok (.iconst 1, 1) := by decide +kernel
theorem d13_8 : decode jdk_38_method_9_code 8 = .ok (.goto 4, 3) := by decide +kernel
theorem d13_12 : decode jdk_38_method_9_code 12 = .ok (.ireturn, 1) := by decide +kernel
theorem rEmp0 (l : Launch) (Z : State) (a0 : Array Value) (hw : ∀ d ∈ tables_1, d.before a0 Z = true) (ws : List Jvm.Cond) (xa : Addr) (h0 : Heap) (O0 : Ext Z.heap h0) (F_size_xa : Fld Z h0 xa "java/util/ArrayList" "size" "I" (.int (0 : Int32))) :
    oCon l Z yy11 jdk_38_method_9_code 1 (some .boolean) ws ({ frames := 0, cells := 0, slots := 0, locals := 0 } : Room) #[(.ref xa)] h0 (Q_rEmp0 Z xa h0) := by
  refine oCon.of (plainFor_of_name pn_7) ?_
  intro p e s m below meth c T X hx hby hml hown hnm hret hlk hZ e0
  have hml : c.maxLocals = 1 := hml
  have K : oKp h0 h0 [] [] := oKp.nil _ _
  refine oWk.cast (g' := (mkF m 0 #[rv xa] [])) (by first | rfl | (simp [entryFrame, mkF, argsToLocals, Value.category]; done)) ?_
  refine oWk.st (fun _ kt => XS.aloadN X.here hx rfl (hb hby d13_0) rfl rfl kt) ?_
  obtain ⟨T, X, e0, st⟩ := getF X hx hZ hown (host := "") (Or.inl (oW hw 85 rfl)) Via.refl e0 F_size_xa (g := (mkF m 1 #[rv xa] [(.ref xa)])) rfl rfl (hb hby d13_1)
  refine oWk.st st ?_
  refine oWk.st (fun _ kt => XS.ifNo X.here hx rfl (hb hby d13_4) rfl ((if0 _ _).trans (teq (by decide)).2) (XS.iconst X.here hx rfl (hb hby d13_7) (XS.goto X.here hx rfl (pc0 := 8) (pc' := 12) rfl (hb hby d13_8) (by decide) (by decide) kt))) ?_
  show oWk _ _ _ _ T (mkF m 12 #[rv xa] [(.int 1)])
  exact oRetZ X hx hlk hret (hb hby d13_12) (Or.inr rfl) (by rw [e0]; exact ⟨rfl, rfl, K⟩) (by decide) (by decide)
def Q_rOf0 (Z : State) (xl : Addr) (h0 : Heap) (v : Option Value) (h : Heap) (L : List Loc) : Prop := v = some (.ref xl) ∧ h = h0 ∧ oKp h0 h [] L
theorem pn_9 : plainName "java/util/List" = true := by first | (simp [plainName, overriddenIn]; done) | decide +kernel
abbrev yy12 : MethodName := ⟨"java/util/List", "of", "()Ljava/util/List;"⟩
theorem d14_0 : decode jdk_40_method_36_code 0 = .ok (.getstatic 90, 3) := by decide +kernel
theorem d14_3 : decode jdk_40_method_36_code 3 = .ok (.areturn, 1) := by decide +kernel
theorem rOf0 (l : Launch) (Z : State) (a0 : Array Value) (hw : ∀ d ∈ tables_1, d.before a0 Z = true) (ws : List Jvm.Cond) (xl : Addr) (h0 : Heap) (O0 : Ext Z.heap h0) (S_EMPTY_LIST : Sta Z Z.heap "java/util/ImmutableCollections" "EMPTY_LIST" "Ljava/util/ImmutableCollections$ListN;" (.ref xl)) :
    oCon l Z yy12 jdk_40_method_36_code 0 (some (.object "java/util/List")) ws ({ frames := 0, cells := 0, slots := 0, locals := 0 } : Room) #[] h0 (Q_rOf0 Z xl h0) := by
  refine oCon.of (plainFor_of_name pn_9) ?_
  intro p e s m below meth c T X hx hby hml hown hnm hret hlk hZ e0
  have hml : c.maxLocals = 0 := hml
  have K : oKp h0 h0 [] [] := oKp.nil _ _
  refine oWk.cast (g' := (mkF m 0 #[] [])) (by first | rfl | (simp [entryFrame, mkF, argsToLocals, Value.category]; done)) ?_
  have Oh := K.old O0 all0
  obtain ⟨T, X, e0, st⟩ := getS2 X hx hZ hown (host := "") (Or.inl (oW hw 90 rfl)) Via.refl e0 (S_EMPTY_LIST.ext Oh) (g := (mkF m 0 #[] [])) rfl (hb hby d14_0)
  refine oWk.st st ?_
  exact oRetA X hx hlk hret rfl rfl (hb hby d14_3) (by rw [e0]; exact ⟨rfl, rfl, K⟩) (by decide) (by decide)
def Q_rLC0 (Z : State) (xa : Addr) (xl : Addr) (h0 : Heap) (v : Option Value) (h : Heap) (L : List Loc) : Prop := v = some (.ref xl) ∧ h = h0 ∧ oKp h0 h [] L
theorem pn_10 : plainName "java/util/ImmutableCollections" = true := by first | (simp [plainName, overriddenIn]; done) | decide +kernel
abbrev yy13 : MethodName := ⟨"java/util/ImmutableCollections", "listCopy", "(Ljava/util/Collection;)Ljava/util/List;"⟩
theorem d12_0 : decode jdk_56_method_3_code 0 = .ok (.aload_n 0, 1) := by decide +kernel
theorem d12_1 : decode jdk_56_method_3_code 1 = .ok (.instanceof 10, 3) := by decide +kernel
theorem d12_4 : decode jdk_56_method_3_code 4 = .ok (.ifCond .ne 22, 3) := by decide +kernel
theorem d12_7 : decode jdk_56_method_3_code 7 = .ok (.aload_n 0, 1) := by decide +kernel
theorem d12_8 : decode jdk_56_method_3_code 8 = .ok (.instanceof 12, 3) := by decide +kernel
theorem d12_11 : decode jdk_56_method_3_code 11 = .ok (.ifCond .eq 20, 3) := by decide +kernel
theorem d12_31 : decode jdk_56_method_3_code 31 = .ok (.aload_n 0, 1) := by decide +kernel
theorem d12_32 : decode jdk_56_method_3_code 32 = .ok (.invokeinterface 20 1, 5) := by decide +kernel
theorem pd_5 : parseMethodDescriptor "()Z" = some ⟨[], some .boolean⟩ := by decide +kernel
abbrev yy14 : MethodName := ⟨"java/util/Collection", "isEmpty", "()Z"⟩
theorem d12_37 : decode jdk_56_method_3_code 37 = .ok (.ifCond .eq 7, 3) := by decide +kernel
theorem d12_40 : decode jdk_56_method_3_code 40 = .ok (.invokestatic 26, 3) := by decide +kernel
theorem pd_6 : parseMethodDescriptor "()Ljava/util/List;" = some ⟨[], some (.object "java/util/List")⟩ := by decide +kernel
theorem d12_43 : decode jdk_56_method_3_code 43 = .ok (.areturn, 1) := by decide +kernel
theorem rLC0 (l : Launch) (Z : State) (a0 : Array Value) (hw : ∀ d ∈ tables_1, d.before a0 Z = true) (ws : List Jvm.Cond) (xa : Addr) (xl : Addr) (h0 : Heap) (O0 : Ext Z.heap h0) (S_EMPTY_LIST : Sta Z Z.heap "java/util/ImmutableCollections" "EMPTY_LIST" "Ljava/util/ImmutableCollections$ListN;" (.ref xl)) (E_xa : Exa Z h0 xa "java/util/ArrayList") (F_size_xa : Fld Z h0 xa "java/util/ArrayList" "size" "I" (.int (0 : Int32))) :
    oCon l Z yy13 jdk_56_method_3_code 2 (some (.object "java/util/List")) ws ({ frames := 1, cells := 0, slots := 0, locals := 12 } : Room) #[(.ref xa)] h0 (Q_rLC0 Z xa xl h0) := by
  refine oCon.of (plainFor_of_name pn_10) ?_
  intro p e s m below meth c T X hx hby hml hown hnm hret hlk hZ e0
  have hml : c.maxLocals = 2 := hml
  have K : oKp h0 h0 [] [] := oKp.nil _ _
  refine oWk.cast (g' := (mkF m 0 #[rv xa, uu] [])) (by first | rfl | (simp [entryFrame, mkF, argsToLocals, Value.category]; done)) ?_
  refine oWk.st (fun _ kt => XS.aloadN X.here hx rfl (hb hby d12_0) rfl rfl kt) ?_
  obtain ⟨T, X, e0, st⟩ := instNo X hx hZ hown (oW hw 70 rfl) e0 E_xa (oNSno (oW hw 71 rfl) (oW hw 184 rfl) (NS.step (oW hw 71 rfl) (NS.step (oW hw 72 rfl) (NS.step (oW hw 73 rfl) (oNSroot (oW hw 74 rfl) (oW hw 184 rfl) (by decide)) (by decide)) (by decide)) (by decide)) (by decide)) (g := (mkF m 1 #[rv xa, uu] [(.ref xa)])) rfl rfl (hb hby d12_1)
  refine oWk.st st ?_
  refine oWk.st (fun _ kt => XS.ifNo X.here hx rfl (hb hby d12_4) rfl ((if0 _ _).trans (teq (by decide)).2) (XS.aloadN X.here hx rfl (hb hby d12_7) rfl rfl kt)) ?_
  obtain ⟨T, X, e0, st⟩ := instNo X hx hZ hown (oW hw 75 rfl) e0 E_xa (oNSno (oW hw 71 rfl) (oW hw 218 rfl) (NS.step (oW hw 71 rfl) (NS.step (oW hw 72 rfl) (NS.step (oW hw 73 rfl) (oNSroot (oW hw 74 rfl) (oW hw 218 rfl) (by decide)) (by decide)) (by decide)) (by decide)) (by decide)) (g := (mkF m 8 #[rv xa, uu] [(.ref xa)])) rfl rfl (hb hby d12_8)
  refine oWk.st st ?_
  refine oWk.st (fun _ kt => XS.ifYes X.here hx rfl (pc0 := 11) (pc' := 31) rfl (hb hby d12_11) rfl ((if0 _ _).trans (teq (by decide)).1) (by decide) (by decide) (XS.aloadN X.here hx rfl (hb hby d12_31) rfl rfl kt)) ?_
  have Oh := K.old O0 all0
  obtain ⟨cq2, kq2, q2a, q2b, q2c⟩ := isOf hZ e0 E_xa
  obtain ⟨_, _, ⟨T, L2, k2, n2⟩, -, X, ⟨Lc2, hQ, l2, y2, z2⟩, st⟩ := X.interfaceBack hx (xi := yy14) (y := yy11) hown (mvT hZ (oW hw 76 rfl)) (mvT hZ (oW hw 77 rfl)) (mvT hZ (oW hw 78 rfl)) (mvT hZ (oW hw 79 rfl)) (mvT hZ (oW hw 80 rfl)) (mvT hZ (oW hw 81 rfl)) (mvT hZ (oW hw 82 rfl)) (mvT hZ (oW hw 83 rfl)) (by decide) (backOf (W := 0) (rEmp0 l Z a0 hw [] xa h0 Oh F_size_xa) hZ (oW hw 84 rfl) (oW hw 28 rfl) (by decide) (by decide)) q2a q2b q2c (g := (mkF m 32 #[rv xa, uu] [(.ref xa)])) rfl (by rw [hml]; rfl) (Steps.refl _) (argsL := []) (rest := []) (lenOf pd_5 rfl) rfl (Nat.le_of_eq rfl) (hb hby d12_32) (fun _ _ => ⟨rfl, e0, (by decide : 0 + 0 ≤ _), (by decide : 0 + 0 ≤ _)⟩)
  dsimp only [Pt.U, Pt.locs, Pt.cells, Pt.slots] at X l2 y2 z2 st hQ
  subst l2 y2 z2
  obtain ⟨rfl, e0, K1⟩ := hQ
  have K := K.call K1 all0
  rw [e0] at K
  refine oWk.tr st ?_
  refine oWk.st (fun _ kt => XS.ifNo X.here hx rfl (hb hby d12_37) rfl ((if0 _ _).trans (feq (by decide)).1) kt) ?_
  have Oh := K.old O0 all0
  obtain ⟨_, _, ⟨T, L4, k4, n4⟩, -, X, ⟨Lc4, hQ, l4, y4, z4⟩, st⟩ := Jvm.LawKit.callS X hx (y := yy12) hown (mvT hZ (oW hw 87 rfl)) (mvT hZ (oW hw 88 rfl)) (mvT hZ (oW hw 64 rfl)) (mvT hZ (oW hw 89 rfl)) (by decide) (backOf (W := 0) (rOf0 l Z a0 hw [] xl h0 Oh S_EMPTY_LIST) hZ (oW hw 89 rfl) (oW hw 64 rfl) (by decide) (by decide)) (g := (mkF m 40 #[rv xa, uu] [])) rfl (by rw [hml]; rfl) (argsL := []) (rest := []) (lenOf pd_6 rfl) rfl (Nat.le_of_eq rfl) (hb hby d12_40) (fun _ _ => ⟨rfl, e0, (by decide : 0 + 0 ≤ _), (by decide : 0 + 0 ≤ _)⟩)
  dsimp only [Pt.U, Pt.locs, Pt.cells, Pt.slots] at X l4 y4 z4 st hQ
  subst l4 y4 z4
  obtain ⟨rfl, e0, K3⟩ := hQ
  have K := K.call K3 all0
  rw [e0] at K
  refine oWk.st st ?_
  exact oRetA X hx hlk hret rfl rfl (hb hby d12_43) (by rw [e0]; exact ⟨rfl, rfl, K⟩) (by decide) (by decide)
def Q_rCO0 (Z : State) (xa : Addr) (xl : Addr) (h0 : Heap) (v : Option Value) (h : Heap) (L : List Loc) : Prop := v = some (.ref xl) ∧ h = h0 ∧ oKp h0 h [] L
abbrev yy15 : MethodName := ⟨"java/util/List", "copyOf", "(Ljava/util/Collection;)Ljava/util/List;"⟩
theorem d11_0 : decode jdk_40_method_48_code 0 = .ok (.aload_n 0, 1) := by decide +kernel
theorem d11_1 : decode jdk_40_method_48_code 1 = .ok (.invokestatic 112, 3) := by decide +kernel
theorem pd_7 : parseMethodDescriptor "(Ljava/util/Collection;)Ljava/util/List;" = some ⟨[(.object "java/util/Collection")], some (.object "java/util/List")⟩ := by decide +kernel
theorem d11_4 : decode jdk_40_method_48_code 4 = .ok (.areturn, 1) := by decide +kernel
theorem rCO0 (l : Launch) (Z : State) (a0 : Array Value) (hw : ∀ d ∈ tables_1, d.before a0 Z = true) (ws : List Jvm.Cond) (xa : Addr) (xl : Addr) (h0 : Heap) (O0 : Ext Z.heap h0) (S_EMPTY_LIST : Sta Z Z.heap "java/util/ImmutableCollections" "EMPTY_LIST" "Ljava/util/ImmutableCollections$ListN;" (.ref xl)) (E_xa : Exa Z h0 xa "java/util/ArrayList") (F_size_xa : Fld Z h0 xa "java/util/ArrayList" "size" "I" (.int (0 : Int32))) :
    oCon l Z yy15 jdk_40_method_48_code 1 (some (.object "java/util/List")) ws ({ frames := 2, cells := 0, slots := 0, locals := 25 } : Room) #[(.ref xa)] h0 (Q_rCO0 Z xa xl h0) := by
  refine oCon.of (plainFor_of_name pn_9) ?_
  intro p e s m below meth c T X hx hby hml hown hnm hret hlk hZ e0
  have hml : c.maxLocals = 1 := hml
  have K : oKp h0 h0 [] [] := oKp.nil _ _
  refine oWk.cast (g' := (mkF m 0 #[rv xa] [])) (by first | rfl | (simp [entryFrame, mkF, argsToLocals, Value.category]; done)) ?_
  refine oWk.st (fun _ kt => XS.aloadN X.here hx rfl (hb hby d11_0) rfl rfl kt) ?_
  have Oh := K.old O0 all0
  obtain ⟨_, _, ⟨T, L2, k2, n2⟩, -, X, ⟨Lc2, hQ, l2, y2, z2⟩, st⟩ := Jvm.LawKit.callS X hx (y := yy13) hown (mvT hZ (oW hw 66 rfl)) (mvT hZ (oW hw 67 rfl)) (mvT hZ (oW hw 68 rfl)) (mvT hZ (oW hw 69 rfl)) (by decide) (backOf (W := 0) (rLC0 l Z a0 hw [] xa xl h0 Oh S_EMPTY_LIST E_xa F_size_xa) hZ (oW hw 69 rfl) (oW hw 68 rfl) (by decide) (by decide)) (g := (mkF m 1 #[rv xa] [(.ref xa)])) rfl (by rw [hml]; rfl) (argsL := [(.ref xa)]) (rest := []) (lenOf pd_7 rfl) rfl (Nat.le_of_eq rfl) (hb hby d11_1) (fun _ _ => ⟨rfl, e0, (by decide : 0 + 0 ≤ _), (by decide : 0 + 0 ≤ _)⟩)
  dsimp only [Pt.U, Pt.locs, Pt.cells, Pt.slots] at X l2 y2 z2 st hQ
  subst l2 y2 z2
  obtain ⟨rfl, e0, K1⟩ := hQ
  have K := K.call K1 all0
  rw [e0] at K
  refine oWk.st st ?_
  exact oRetA X hx hlk hret rfl rfl (hb hby d11_4) (by rw [e0]; exact ⟨rfl, rfl, K⟩) (by decide) (by decide)
def Q_rDI_0_N (Z : State) (xa : Addr) (xs : Addr) (xi : Int32) (u1 : Value) (u2 : Value) (u3 : Value) (u4 : Value) (xg : Addr) (xl : Addr) (h0 : Heap) (v : Option Value) (h : Heap) (L : List Loc) : Prop := v = none ∧ oKp h0 h [xa] L ∧ (Exa Z h xa "com/example/modwright/modwright/script/Directive") ∧ (Fld Z h xa "com/example/modwright/modwright/script/Directive" "block" "Ljava/util/List;" .null)
abbrev yy16 : MethodName := ⟨"com/example/modwright/modwright/script/Directive", "<init>", "(Ljava/lang/String;ILjava/util/List;Ljava/util/List;)V"⟩
theorem d9_0 : decode prog_45_method_1_code 0 = .ok (.aload_n 0, 1) := by decide +kernel
theorem d9_1 : decode prog_45_method_1_code 1 = .ok (.invokespecial 1, 3) := by decide +kernel
theorem d9_4 : decode prog_45_method_1_code 4 = .ok (.aconst_null, 1) := by decide +kernel
theorem d9_5 : decode prog_45_method_1_code 5 = .ok (.aload_n 1, 1) := by decide +kernel
theorem d9_6 : decode prog_45_method_1_code 6 = .ok (.if_acmp .ne 17, 3) := by decide +kernel
theorem d9_23 : decode prog_45_method_1_code 23 = .ok (.aload_n 3, 1) := by decide +kernel
theorem d9_24 : decode prog_45_method_1_code 24 = .ok (.invokestatic 16, 3) := by decide +kernel
theorem d9_27 : decode prog_45_method_1_code 27 = .ok (.astore_n 3, 1) := by decide +kernel
theorem d9_28 : decode prog_45_method_1_code 28 = .ok (.aconst_null, 1) := by decide +kernel
theorem d9_29 : decode prog_45_method_1_code 29 = .ok (.aload 4, 2) := by decide +kernel
theorem d9_31 : decode prog_45_method_1_code 31 = .ok (.if_acmp .eq 10, 3) := by decide +kernel
theorem d9_41 : decode prog_45_method_1_code 41 = .ok (.aload_n 0, 1) := by decide +kernel
theorem d9_42 : decode prog_45_method_1_code 42 = .ok (.aload_n 1, 1) := by decide +kernel
theorem d9_43 : decode prog_45_method_1_code 43 = .ok (.putfield 22, 3) := by decide +kernel
theorem d9_46 : decode prog_45_method_1_code 46 = .ok (.aload_n 0, 1) := by decide +kernel
theorem d9_47 : decode prog_45_method_1_code 47 = .ok (.iload_n 2, 1) := by decide +kernel
theorem d9_48 : decode prog_45_method_1_code 48 = .ok (.putfield 28, 3) := by decide +kernel
theorem d9_51 : decode prog_45_method_1_code 51 = .ok (.aload_n 0, 1) := by decide +kernel
theorem d9_52 : decode prog_45_method_1_code 52 = .ok (.aload_n 3, 1) := by decide +kernel
theorem d9_53 : decode prog_45_method_1_code 53 = .ok (.putfield 32, 3) := by decide +kernel
theorem d9_56 : decode prog_45_method_1_code 56 = .ok (.aload_n 0, 1) := by decide +kernel
theorem d9_57 : decode prog_45_method_1_code 57 = .ok (.aload 4, 2) := by decide +kernel
theorem d9_59 : decode prog_45_method_1_code 59 = .ok (.putfield 36, 3) := by decide +kernel
theorem d9_62 : decode prog_45_method_1_code 62 = .ok (.return_, 1) := by decide +kernel
theorem rDI_0_N (l : Launch) (Z : State) (a0 : Array Value) (hw : ∀ d ∈ tables_1, d.before a0 Z = true) (ws : List Jvm.Cond) (xa : Addr) (xs : Addr) (xi : Int32) (u1 : Value) (u2 : Value) (u3 : Value) (u4 : Value) (xg : Addr) (xl : Addr) (h0 : Heap) (O0 : Ext Z.heap h0) (S_EMPTY_LIST : Sta Z Z.heap "java/util/ImmutableCollections" "EMPTY_LIST" "Ljava/util/ImmutableCollections$ListN;" (.ref xl)) (og_xa : Z.heap.size ≤ xa) (E_xa : Exa Z h0 xa "com/example/modwright/modwright/script/Directive") (F_name_xa : Fld Z h0 xa "com/example/modwright/modwright/script/Directive" "name" "Ljava/lang/String;" u1) (F_line_xa : Fld Z h0 xa "com/example/modwright/modwright/script/Directive" "line" "I" u2) (F_arguments_xa : Fld Z h0 xa "com/example/modwright/modwright/script/Directive" "arguments" "Ljava/util/List;" u3) (F_block_xa : Fld Z h0 xa "com/example/modwright/modwright/script/Directive" "block" "Ljava/util/List;" u4) (E_xg : Exa Z h0 xg "java/util/ArrayList") (F_size_xg : Fld Z h0 xg "java/util/ArrayList" "size" "I" (.int (0 : Int32))) :
    oCon l Z yy16 prog_45_method_1_code 5 none ws ({ frames := 3, cells := 0, slots := 0, locals := 37 } : Room) #[(.ref xa), (.ref xs), (.int xi), (.ref xg), .null] h0 (Q_rDI_0_N Z xa xs xi u1 u2 u3 u4 xg xl h0) := by
  refine oCon.of (plainFor_of_name pn_4) ?_
  intro p e s m below meth c T X hx hby hml hown hnm hret hlk hZ e0
  have hml : c.maxLocals = 5 := hml
  have K : oKp h0 h0 [xa] [] := oKp.nil _ _
  refine oWk.cast (g' := (mkF m 0 #[rv xa, rv xs, iv xi, rv xg, .val .null] [])) (by first | rfl | (simp [entryFrame, mkF, argsToLocals, Value.category]; done)) ?_
  refine oWk.st (fun _ kt => XS.aloadN X.here hx rfl (hb hby d9_0) rfl rfl kt) ?_
  have Oh := K.old O0 (allS og_xa all0)
  obtain ⟨_, _, ⟨T, L2, k2, n2⟩, -, X, ⟨Lc2, hQ, l2, y2, z2⟩, st⟩ := X.specialBack hx (y := yy4) rfl hown (mvT hZ (oW hw 56 rfl)) (mvT hZ (oW hw 57 rfl)) (mvT hZ (oW hw 60 rfl)) (by decide) (backOf (W := 0) (rRec l Z a0 hw [] xa h0 Oh ) hZ (oW hw 60 rfl) (oW hw 59 rfl) (by decide) (by decide)) (g := (mkF m 1 #[rv xa, rv xs, iv xi, rv xg, .val .null] [(.ref xa)])) rfl (by rw [hml]; rfl) (Steps.refl _) (a := xa) (argsL := []) (rest := []) (lenOf pd_3 rfl) rfl (Nat.le_of_eq rfl) (hb hby d9_1) (fun _ _ => ⟨rfl, e0, (by decide : 0 + 0 ≤ _), (by decide : 0 + 0 ≤ _)⟩)
  dsimp only [Pt.U, Pt.locs, Pt.cells, Pt.slots] at X l2 y2 z2 st hQ
  subst l2 y2 z2
  obtain ⟨rfl, e0, K1⟩ := hQ
  have K := K.call K1 all0
  rw [e0] at K
  refine oWk.tr st ?_
  refine oWk.st (fun _ kt => XS.aconstNull X.here hx rfl (hb hby d9_4) (XS.aloadN X.here hx rfl (hb hby d9_5) rfl rfl kt)) ?_
  refine oWk.st (fun _ kt => Jvm.RoadKit.acmp (g := (mkF m 6 #[rv xa, rv xs, iv xi, rv xg, .val .null] [(.ref xs), .null])) X hx rfl rfl rfl (pc0 := 6) (pc' := 23) (same := false) rfl (hb hby d9_6) rfl (decide_eq_false nofun) (by decide) (by decide) kt) ?_
  show oWk _ _ _ _ T (mkF m 23 #[rv xa, rv xs, iv xi, rv xg, .val .null] [])
  refine oWk.st (fun _ kt => XS.aloadN X.here hx rfl (hb hby d9_23) rfl rfl kt) ?_
  have Oh := K.old O0 (allS og_xa all0)
  obtain ⟨_, _, ⟨T, L4, k4, n4⟩, -, X, ⟨Lc4, hQ, l4, y4, z4⟩, st⟩ := Jvm.LawKit.callS X hx (y := yy15) hown (mvT hZ (oW hw 62 rfl)) (mvT hZ (oW hw 63 rfl)) (mvT hZ (oW hw 64 rfl)) (mvT hZ (oW hw 65 rfl)) (by decide) (backOf (W := 0) (rCO0 l Z a0 hw [] xg xl h0 Oh S_EMPTY_LIST E_xg F_size_xg) hZ (oW hw 65 rfl) (oW hw 64 rfl) (by decide) (by decide)) (g := (mkF m 24 #[rv xa, rv xs, iv xi, rv xg, .val .null] [(.ref xg)])) rfl (by rw [hml]; rfl) (argsL := [(.ref xg)]) (rest := []) (lenOf pd_7 rfl) rfl (Nat.le_of_eq rfl) (hb hby d9_24) (fun _ _ => ⟨rfl, e0, (by decide : 0 + 0 ≤ _), (by decide : 0 + 0 ≤ _)⟩)
  dsimp only [Pt.U, Pt.locs, Pt.cells, Pt.slots] at X l4 y4 z4 st hQ
  subst l4 y4 z4
  obtain ⟨rfl, e0, K3⟩ := hQ
  have K := K.call K3 all0
  rw [e0] at K
  refine oWk.st st ?_
  refine oWk.st (fun _ kt => XS.astoreN X.here hx rfl (hb hby d9_27) rfl rfl (l' := #[rv xa, rv xs, iv xi, rv xl, .val .null]) rfl (XS.aconstNull X.here hx rfl (hb hby d9_28) (XS.aload X.here hx rfl (hb hby d9_29) rfl rfl kt))) ?_
  refine oWk.st (fun _ kt => Jvm.RoadKit.acmp (g := (mkF m 31 #[rv xa, rv xs, iv xi, rv xl, .val .null] [.null, .null])) X hx rfl rfl rfl (pc0 := 31) (pc' := 41) (same := true) rfl (hb hby d9_31) rfl (decide_eq_true rfl) (by decide) (by decide) kt) ?_
  show oWk _ _ _ _ T (mkF m 41 #[rv xa, rv xs, iv xi, rv xl, .val .null] [])
  refine oWk.st (fun _ kt => XS.aloadN X.here hx rfl (hb hby d9_41) rfl rfl (XS.aloadN X.here hx rfl (hb hby d9_42) rfl rfl kt)) ?_
  obtain ⟨T, h, X, e0, W5, st⟩ := putF X hx hZ hown (host := "") (Or.inl (oW hw 91 rfl)) Via.refl e0 F_name_xa E_xa (Or.inr ⟨(oW hw 92 rfl), rfl, hnm⟩) (oW hw 51 rfl) (ty := (.object "java/lang/String")) (by decide) rfl rfl (g := (mkF m 43 #[rv xa, rv xs, iv xi, rv xl, .val .null] [(.ref xs), (.ref xa)])) rfl rfl (hb hby d9_43)
  refine oWk.st st ?_
  have K := K.wr W5 (Or.inl (List.mem_of_getElem? (i := 0) rfl))
  have F_name_xa := F_name_xa.same W5
  refine oWk.st (fun _ kt => XS.aloadN X.here hx rfl (hb hby d9_46) rfl rfl (XS.iloadN X.here hx rfl (hb hby d9_47) rfl kt)) ?_
  have E_xa := (E_xa.wr W5)
  have F_line_xa := (F_line_xa.other W5 (Or.inr (slot_ne (Or.inr (oW hw 94 rfl)) (Or.inr (oW hw 92 rfl)) (by decide) (t := .int) (t' := (.object "java/lang/String")) (by decide) (by decide))))
  obtain ⟨T, h, X, e0, W6, st⟩ := putF X hx hZ hown (host := "") (Or.inl (oW hw 93 rfl)) Via.refl e0 F_line_xa E_xa (Or.inr ⟨(oW hw 94 rfl), rfl, hnm⟩) (oW hw 51 rfl) (ty := .int) (by decide) rfl rfl (g := (mkF m 48 #[rv xa, rv xs, iv xi, rv xl, .val .null] [(.int xi), (.ref xa)])) rfl rfl (hb hby d9_48)
  refine oWk.st st ?_
  have K := K.wr W6 (Or.inl (List.mem_of_getElem? (i := 0) rfl))
  have F_line_xa := F_line_xa.same W6
  refine oWk.st (fun _ kt => XS.aloadN X.here hx rfl (hb hby d9_51) rfl rfl (XS.aloadN X.here hx rfl (hb hby d9_52) rfl rfl kt)) ?_
  have E_xa := (E_xa.wr W6)
  have F_arguments_xa := ((F_arguments_xa.other W5 (Or.inr (slot_ne (Or.inr (oW hw 96 rfl)) (Or.inr (oW hw 92 rfl)) (by decide) (t := (.object "java/util/List")) (t' := (.object "java/lang/String")) (by decide) (by decide)))).other W6 (Or.inr (slot_ne (Or.inr (oW hw 96 rfl)) (Or.inr (oW hw 94 rfl)) (by decide) (t := (.object "java/util/List")) (t' := .int) (by decide) (by decide))))
  obtain ⟨T, h, X, e0, W7, st⟩ := putF X hx hZ hown (host := "") (Or.inl (oW hw 95 rfl)) Via.refl e0 F_arguments_xa E_xa (Or.inr ⟨(oW hw 96 rfl), rfl, hnm⟩) (oW hw 51 rfl) (ty := (.object "java/util/List")) (by decide) rfl rfl (g := (mkF m 53 #[rv xa, rv xs, iv xi, rv xl, .val .null] [(.ref xl), (.ref xa)])) rfl rfl (hb hby d9_53)
  refine oWk.st st ?_
  have K := K.wr W7 (Or.inl (List.mem_of_getElem? (i := 0) rfl))
  have F_arguments_xa := F_arguments_xa.same W7
  refine oWk.st (fun _ kt => XS.aloadN X.here hx rfl (hb hby d9_56) rfl rfl (XS.aload X.here hx rfl (hb hby d9_57) rfl rfl kt)) ?_
  have E_xa := (E_xa.wr W7)
  have F_block_xa := (((F_block_xa.other W5 (Or.inr (slot_ne (Or.inr (oW hw 98 rfl)) (Or.inr (oW hw 92 rfl)) (by decide) (t := (.object "java/util/List")) (t' := (.object "java/lang/String")) (by decide) (by decide)))).other W6 (Or.inr (slot_ne (Or.inr (oW hw 98 rfl)) (Or.inr (oW hw 94 rfl)) (by decide) (t := (.object "java/util/List")) (t' := .int) (by decide) (by decide)))).other W7 (Or.inr (slot_ne (Or.inr (oW hw 98 rfl)) (Or.inr (oW hw 96 rfl)) (by decide) (t := (.object "java/util/List")) (t' := (.object "java/util/List")) (by decide) (by decide))))
  obtain ⟨T, h, X, e0, W8, st⟩ := putF X hx hZ hown (host := "") (Or.inl (oW hw 97 rfl)) Via.refl e0 F_block_xa E_xa (Or.inr ⟨(oW hw 98 rfl), rfl, hnm⟩) (oW hw 51 rfl) (ty := (.object "java/util/List")) (by decide) rfl rfl (g := (mkF m 59 #[rv xa, rv xs, iv xi, rv xl, .val .null] [.null, (.ref xa)])) rfl rfl (hb hby d9_59)
  refine oWk.st st ?_
  have K := K.wr W8 (Or.inl (List.mem_of_getElem? (i := 0) rfl))
  have F_block_xa := F_block_xa.same W8
  have E_xa := (E_xa.wr W8)
  exact oRetV X hx hlk hret (hb hby d9_62) (by rw [e0]; exact ⟨rfl, K, E_xa, F_block_xa⟩) (by decide) (by decide)
theorem pd_8 : parseMethodDescriptor "(Ljava/lang/String;ILjava/util/List;Ljava/util/List;)V" = some ⟨[(.object "java/lang/String"), .int, (.object "java/util/List"), (.object "java/util/List")], none⟩ := by decide +kernel
def Q_rDI_0_0 (Z : State) (xa : Addr) (xs : Addr) (xi : Int32) (u1 : Value) (u2 : Value) (u3 : Value) (u4 : Value) (xg : Addr) (xh : Addr) (xl : Addr) (h0 : Heap) (v : Option Value) (h : Heap) (L : List Loc) : Prop := v = none ∧ oKp h0 h [xa] L ∧ (Exa Z h xa "com/example/modwright/modwright/script/Directive") ∧ (Fld Z h xa "com/example/modwright/modwright/script/Directive" "block" "Ljava/util/List;" (.ref xl))
theorem d9_34 : decode prog_45_method_1_code 34 = .ok (.aload 4, 2) := by decide +kernel
theorem d9_36 : decode prog_45_method_1_code 36 = .ok (.invokestatic 16, 3) := by decide +kernel
theorem d9_39 : decode prog_45_method_1_code 39 = .ok (.astore 4, 2) := by decide +kernel
theorem rDI_0_0 (l : Launch) (Z : State) (a0 : Array Value) (hw : ∀ d ∈ tables_1, d.before a0 Z = true) (ws : List Jvm.Cond) (xa : Addr) (xs : Addr) (xi : Int32) (u1 : Value) (u2 : Value) (u3 : Value) (u4 : Value) (xg : Addr) (xh : Addr) (xl : Addr) (h0 : Heap) (O0 : Ext Z.heap h0) (S_EMPTY_LIST : Sta Z Z.heap "java/util/ImmutableCollections" "EMPTY_LIST" "Ljava/util/ImmutableCollections$ListN;" (.ref xl)) (og_xa : Z.heap.size ≤ xa) (E_xa : Exa Z h0 xa "com/example/modwright/modwright/script/Directive") (F_name_xa : Fld Z h0 xa "com/example/modwright/modwright/script/Directive" "name" "Ljava/lang/String;" u1) (F_line_xa : Fld Z h0 xa "com/example/modwright/modwright/script/Directive" "line" "I" u2) (F_arguments_xa : Fld Z h0 xa "com/example/modwright/modwright/script/Directive" "arguments" "Ljava/util/List;" u3) (F_block_xa : Fld Z h0 xa "com/example/modwright/modwright/script/Directive" "block" "Ljava/util/List;" u4) (E_xg : Exa Z h0 xg "java/util/ArrayList") (F_size_xg : Fld Z h0 xg "java/util/ArrayList" "size" "I" (.int (0 : Int32))) (E_xh : Exa Z h0 xh "java/util/ArrayList") (F_size_xh : Fld Z h0 xh "java/util/ArrayList" "size" "I" (.int (0 : Int32))) :
    oCon l Z yy16 prog_45_method_1_code 5 none ws ({ frames := 3, cells := 0, slots := 0, locals := 37 } : Room) #[(.ref xa), (.ref xs), (.int xi), (.ref xg), (.ref xh)] h0 (Q_rDI_0_0 Z xa xs xi u1 u2 u3 u4 xg xh xl h0) := by
  refine oCon.of (plainFor_of_name pn_4) ?_
  intro p e s m below meth c T X hx hby hml hown hnm hret hlk hZ e0
  have hml : c.maxLocals = 5 := hml
  have K : oKp h0 h0 [xa] [] := oKp.nil _ _
  refine oWk.cast (g' := (mkF m 0 #[rv xa, rv xs, iv xi, rv xg, rv xh] [])) (by first | rfl | (simp [entryFrame, mkF, argsToLocals, Value.category]; done)) ?_
  refine oWk.st (fun _ kt => XS.aloadN X.here hx rfl (hb hby d9_0) rfl rfl kt) ?_
  have Oh := K.old O0 (allS og_xa all0)
  obtain ⟨_, _, ⟨T, L2, k2, n2⟩, -, X, ⟨Lc2, hQ, l2, y2, z2⟩, st⟩ := X.specialBack hx (y := yy4) rfl hown (mvT hZ (oW hw 56 rfl)) (mvT hZ (oW hw 57 rfl)) (mvT hZ (oW hw 60 rfl)) (by decide) (backOf (W := 0) (rRec l Z a0 hw [] xa h0 Oh ) hZ (oW hw 60 rfl) (oW hw 59 rfl) (by decide) (by decide)) (g := (mkF m 1 #[rv xa, rv xs, iv xi, rv xg, rv xh] [(.ref xa)])) rfl (by rw [hml]; rfl) (Steps.refl _) (a := xa) (argsL := []) (rest := []) (lenOf pd_3 rfl) rfl (Nat.le_of_eq rfl) (hb hby d9_1) (fun _ _ => ⟨rfl, e0, (by decide : 0 + 0 ≤ _), (by decide : 0 + 0 ≤ _)⟩)
  dsimp only [Pt.U, Pt.locs, Pt.cells, Pt.slots] at X l2 y2 z2 st hQ
  subst l2 y2 z2
  obtain ⟨rfl, e0, K1⟩ := hQ
  have K := K.call K1 all0
  rw [e0] at K
  refine oWk.tr st ?_
  refine oWk.st (fun _ kt => XS.aconstNull X.here hx rfl (hb hby d9_4) (XS.aloadN X.here hx rfl (hb hby d9_5) rfl rfl kt)) ?_
  refine oWk.st (fun _ kt => Jvm.RoadKit.acmp (g := (mkF m 6 #[rv xa, rv xs, iv xi, rv xg, rv xh] [(.ref xs), .null])) X hx rfl rfl rfl (pc0 := 6) (pc' := 23) (same := false) rfl (hb hby d9_6) rfl (decide_eq_false nofun) (by decide) (by decide) kt) ?_
  show oWk _ _ _ _ T (mkF m 23 #[rv xa, rv xs, iv xi, rv xg, rv xh] [])
  refine oWk.st (fun _ kt => XS.aloadN X.here hx rfl (hb hby d9_23) rfl rfl kt) ?_
  have Oh := K.old O0 (allS og_xa all0)
  obtain ⟨_, _, ⟨T, L4, k4, n4⟩, -, X, ⟨Lc4, hQ, l4, y4, z4⟩, st⟩ := Jvm.LawKit.callS X hx (y := yy15) hown (mvT hZ (oW hw 62 rfl)) (mvT hZ (oW hw 63 rfl)) (mvT hZ (oW hw 64 rfl)) (mvT hZ (oW hw 65 rfl)) (by decide) (backOf (W := 0) (rCO0 l Z a0 hw [] xg xl h0 Oh S_EMPTY_LIST E_xg F_size_xg) hZ (oW hw 65 rfl) (oW hw 64 rfl) (by decide) (by decide)) (g := (mkF m 24 #[rv xa, rv xs, iv xi, rv xg, rv xh] [(.ref xg)])) rfl (by rw [hml]; rfl) (argsL := [(.ref xg)]) (rest := []) (lenOf pd_7 rfl) rfl (Nat.le_of_eq rfl) (hb hby d9_24) (fun _ _ => ⟨rfl, e0, (by decide : 0 + 0 ≤ _), (by decide : 0 + 0 ≤ _)⟩)
  dsimp only [Pt.U, Pt.locs, Pt.cells, Pt.slots] at X l4 y4 z4 st hQ
  subst l4 y4 z4
  obtain ⟨rfl, e0, K3⟩ := hQ
  have K := K.call K3 all0
  rw [e0] at K
  refine oWk.st st ?_
  refine oWk.st (fun _ kt => XS.astoreN X.here hx rfl (hb hby d9_27) rfl rfl (l' := #[rv xa, rv xs, iv xi, rv xl, rv xh]) rfl (XS.aconstNull X.here hx rfl (hb hby d9_28) (XS.aload X.here hx rfl (hb hby d9_29) rfl rfl kt))) ?_
  refine oWk.st (fun _ kt => Jvm.RoadKit.acmp (g := (mkF m 31 #[rv xa, rv xs, iv xi, rv xl, rv xh] [(.ref xh), .null])) X hx rfl rfl rfl (pc0 := 31) (pc' := 34) (same := false) rfl (hb hby d9_31) rfl (decide_eq_false nofun) (by decide) (by decide) kt) ?_
  show oWk _ _ _ _ T (mkF m 34 #[rv xa, rv xs, iv xi, rv xl, rv xh] [])
  refine oWk.st (fun _ kt => XS.aload X.here hx rfl (hb hby d9_34) rfl rfl kt) ?_
  have Oh := K.old O0 (allS og_xa all0)
  obtain ⟨_, _, ⟨T, L6, k6, n6⟩, -, X, ⟨Lc6, hQ, l6, y6, z6⟩, st⟩ := Jvm.LawKit.callS X hx (y := yy15) hown (mvT hZ (oW hw 62 rfl)) (mvT hZ (oW hw 63 rfl)) (mvT hZ (oW hw 64 rfl)) (mvT hZ (oW hw 65 rfl)) (by decide) (backOf (W := 0) (rCO0 l Z a0 hw [] xh xl h0 Oh S_EMPTY_LIST E_xh F_size_xh) hZ (oW hw 65 rfl) (oW hw 64 rfl) (by decide) (by decide)) (g := (mkF m 36 #[rv xa, rv xs, iv xi, rv xl, rv xh] [(.ref xh)])) rfl (by rw [hml]; rfl) (argsL := [(.ref xh)]) (rest := []) (lenOf pd_7 rfl) rfl (Nat.le_of_eq rfl) (hb hby d9_36) (fun _ _ => ⟨rfl, e0, (by decide : 0 + 0 ≤ _), (by decide : 0 + 0 ≤ _)⟩)
  dsimp only [Pt.U, Pt.locs, Pt.cells, Pt.slots] at X l6 y6 z6 st hQ
  subst l6 y6 z6
  obtain ⟨rfl, e0, K5⟩ := hQ
  have K := K.call K5 all0
  rw [e0] at K
  refine oWk.st st ?_
  refine oWk.st (fun _ kt => XS.astore X.here hx rfl (hb hby d9_39) rfl rfl (l' := #[rv xa, rv xs, iv xi, rv xl, rv xl]) rfl (XS.aloadN X.here hx rfl (hb hby d9_41) rfl rfl (XS.aloadN X.here hx rfl (hb hby d9_42) rfl rfl kt))) ?_
  obtain ⟨T, h, X, e0, W7, st⟩ := putF X hx hZ hown (host := "") (Or.inl (oW hw 91 rfl)) Via.refl e0 F_name_xa E_xa (Or.inr ⟨(oW hw 92 rfl), rfl, hnm⟩) (oW hw 51 rfl) (ty := (.object "java/lang/String")) (by decide) rfl rfl (g := (mkF m 43 #[rv xa, rv xs, iv xi, rv xl, rv xl] [(.ref xs), (.ref xa)])) rfl rfl (hb hby d9_43)
  refine oWk.st st ?_
  have K := K.wr W7 (Or.inl (List.mem_of_getElem? (i := 0) rfl))
  have F_name_xa := F_name_xa.same W7
  refine oWk.st (fun _ kt => XS.aloadN X.here hx rfl (hb hby d9_46) rfl rfl (XS.iloadN X.here hx rfl (hb hby d9_47) rfl kt)) ?_
  have E_xa := (E_xa.wr W7)
  have F_line_xa := (F_line_xa.other W7 (Or.inr (slot_ne (Or.inr (oW hw 94 rfl)) (Or.inr (oW hw 92 rfl)) (by decide) (t := .int) (t' := (.object "java/lang/String")) (by decide) (by decide))))
  obtain ⟨T, h, X, e0, W8, st⟩ := putF X hx hZ hown (host := "") (Or.inl (oW hw 93 rfl)) Via.refl e0 F_line_xa E_xa (Or.inr ⟨(oW hw 94 rfl), rfl, hnm⟩) (oW hw 51 rfl) (ty := .int) (by decide) rfl rfl (g := (mkF m 48 #[rv xa, rv xs, iv xi, rv xl, rv xl] [(.int xi), (.ref xa)])) rfl rfl (hb hby d9_48)
  refine oWk.st st ?_
  have K := K.wr W8 (Or.inl (List.mem_of_getElem? (i := 0) rfl))
  have F_line_xa := F_line_xa.same W8
  refine oWk.st (fun _ kt => XS.aloadN X.here hx rfl (hb hby d9_51) rfl rfl (XS.aloadN X.here hx rfl (hb hby d9_52) rfl rfl kt)) ?_
  have E_xa := (E_xa.wr W8)
  have F_arguments_xa := ((F_arguments_xa.other W7 (Or.inr (slot_ne (Or.inr (oW hw 96 rfl)) (Or.inr (oW hw 92 rfl)) (by decide) (t := (.object "java/util/List")) (t' := (.object "java/lang/String")) (by decide) (by decide)))).other W8 (Or.inr (slot_ne (Or.inr (oW hw 96 rfl)) (Or.inr (oW hw 94 rfl)) (by decide) (t := (.object "java/util/List")) (t' := .int) (by decide) (by decide))))
  obtain ⟨T, h, X, e0, W9, st⟩ := putF X hx hZ hown (host := "") (Or.inl (oW hw 95 rfl)) Via.refl e0 F_arguments_xa E_xa (Or.inr ⟨(oW hw 96 rfl), rfl, hnm⟩) (oW hw 51 rfl) (ty := (.object "java/util/List")) (by decide) rfl rfl (g := (mkF m 53 #[rv xa, rv xs, iv xi, rv xl, rv xl] [(.ref xl), (.ref xa)])) rfl rfl (hb hby d9_53)
  refine oWk.st st ?_
  have K := K.wr W9 (Or.inl (List.mem_of_getElem? (i := 0) rfl))
  have F_arguments_xa := F_arguments_xa.same W9
  refine oWk.st (fun _ kt => XS.aloadN X.here hx rfl (hb hby d9_56) rfl rfl (XS.aload X.here hx rfl (hb hby d9_57) rfl rfl kt)) ?_
  have E_xa := (E_xa.wr W9)
  have F_block_xa := (((F_block_xa.other W7 (Or.inr (slot_ne (Or.inr (oW hw 98 rfl)) (Or.inr (oW hw 92 rfl)) (by decide) (t := (.object "java/util/List")) (t' := (.object "java/lang/String")) (by decide) (by decide)))).other W8 (Or.inr (slot_ne (Or.inr (oW hw 98 rfl)) (Or.inr (oW hw 94 rfl)) (by decide) (t := (.object "java/util/List")) (t' := .int) (by decide) (by decide)))).other W9 (Or.inr (slot_ne (Or.inr (oW hw 98 rfl)) (Or.inr (oW hw 96 rfl)) (by decide) (t := (.object "java/util/List")) (t' := (.object "java/util/List")) (by decide) (by decide))))
  obtain ⟨T, h, X, e0, W10, st⟩ := putF X hx hZ hown (host := "") (Or.inl (oW hw 97 rfl)) Via.refl e0 F_block_xa E_xa (Or.inr ⟨(oW hw 98 rfl), rfl, hnm⟩) (oW hw 51 rfl) (ty := (.object "java/util/List")) (by decide) rfl rfl (g := (mkF m 59 #[rv xa, rv xs, iv xi, rv xl, rv xl] [(.ref xl), (.ref xa)])) rfl rfl (hb hby d9_59)
  refine oWk.st st ?_
  have K := K.wr W10 (Or.inl (List.mem_of_getElem? (i := 0) rfl))
  have F_block_xa := F_block_xa.same W10
  have E_xa := (E_xa.wr W10)
  exact oRetV X hx hlk hret (hb hby d9_62) (by rw [e0]; exact ⟨rfl, K, E_xa, F_block_xa⟩) (by decide) (by decide)
def Q_rMax (Z : State)  (h0 : Heap) (v : Option Value) (h : Heap) (L : List Loc) : Prop := v = some (.int (10 : Int32)) ∧ h = h0 ∧ oKp h0 h [] L
abbrev yy17 : MethodName := ⟨"java/lang/Math", "max", "(II)I"⟩
theorem d19_0 : decode jdk_29_method_65_code 0 = .ok (.iload_n 0, 1) := by decide +kernel
theorem d19_1 : decode jdk_29_method_65_code 1 = .ok (.iload_n 1, 1) := by decide +kernel
theorem d19_2 : decode jdk_29_method_65_code 2 = .ok (.if_icmp .lt 7, 3) := by decide +kernel
theorem d19_5 : decode jdk_29_method_65_code 5 = .ok (.iload_n 0, 1) := by decide +kernel
theorem d19_6 : decode jdk_29_method_65_code 6 = .ok (.goto 4, 3) := by decide +kernel
theorem d19_10 : decode jdk_29_method_65_code 10 = .ok (.ireturn, 1) := by decide +kernel
theorem rMax (l : Launch) (Z : State) (a0 : Array Value) (hw : ∀ d ∈ tables_1, d.before a0 Z = true) (ws : List Jvm.Cond)  (h0 : Heap) (O0 : Ext Z.heap h0)  :
    oCon l Z yy17 jdk_29_method_65_code 2 (some .int) ws ({ frames := 0, cells := 0, slots := 0, locals := 0 } : Room) #[(.int (10 : Int32)), (.int (1 : Int32))] h0 (Q_rMax Z  h0) := by
  refine oCon.of (Jvm.Free.JP.mathPlain rfl (by decide +kernel)) ?_
  intro p e s m below meth c T X hx hby hml hown hnm hret hlk hZ e0
  have hml : c.maxLocals = 2 := hml
  have K : oKp h0 h0 [] [] := oKp.nil _ _
  refine oWk.cast (g' := (mkF m 0 #[iv 10, iv 1] [])) (by first | rfl | (simp [entryFrame, mkF, argsToLocals, Value.category]; done)) ?_
  refine oWk.st (fun _ kt => XS.iloadN X.here hx rfl (hb hby d19_0) rfl (XS.iloadN X.here hx rfl (hb hby d19_1) rfl (XS.icmpNo X.here hx rfl (hb hby d19_2) rfl (flt (by decide)).1 (XS.iloadN X.here hx rfl (hb hby d19_5) rfl (XS.goto X.here hx rfl (pc0 := 6) (pc' := 10) rfl (hb hby d19_6) (by decide) (by decide) kt))))) ?_
  show oWk _ _ _ _ T (mkF m 10 #[iv 10, iv 1] [(.int 10)])
  exact oRetI X hx hlk hret (hb hby d19_10) (by rw [e0]; exact ⟨rfl, rfl, K⟩) (by decide) (by decide)
def Q_rGr1 (Z : State) (xa : Addr) (xd : Addr) (xk : ClassId) (xm : Int32) (h0 : Heap) (v : Option Value) (h : Heap) (L : List Loc) : Prop := ∃ (nd : Addr) (nk : ClassId), v = some (.ref nd) ∧ oKp h0 h [xa] L ∧ (Exa Z h xa "java/util/ArrayList") ∧ (Fld Z h xa "java/util/ArrayList" "elementData" "[Ljava/lang/Object;" (.ref nd)) ∧ (Fld Z h xa "java/util/ArrayList" "size" "I" (.int (0 : Int32))) ∧ (Fld Z h xa "java/util/AbstractList" "modCount" "I" (.int xm)) ∧ (h0.size ≤ nd) ∧ (Exa Z h nd "[Ljava/lang/Object;") ∧ (Arv Z h nd nk (.object "java/lang/Object") (10 : Int32) [.null, .null, .null, .null, .null, .null, .null, .null, .null, .null] .null) ∧ (Ovr Z nk "java/lang/Object")
abbrev yy18 : MethodName := ⟨"java/util/ArrayList", "grow", "(I)[Ljava/lang/Object;"⟩
theorem d18_0 : decode jdk_38_method_6_code 0 = .ok (.aload_n 0, 1) := by decide +kernel
theorem d18_1 : decode jdk_38_method_6_code 1 = .ok (.getfield 9, 3) := by decide +kernel
theorem d18_4 : decode jdk_38_method_6_code 4 = .ok (.arraylength, 1) := by decide +kernel
theorem d18_5 : decode jdk_38_method_6_code 5 = .ok (.istore_n 2, 1) := by decide +kernel
theorem d18_6 : decode jdk_38_method_6_code 6 = .ok (.iload_n 2, 1) := by decide +kernel
theorem d18_7 : decode jdk_38_method_6_code 7 = .ok (.ifCond .gt 13, 3) := by decide +kernel
theorem d18_10 : decode jdk_38_method_6_code 10 = .ok (.aload_n 0, 1) := by decide +kernel
theorem d18_11 : decode jdk_38_method_6_code 11 = .ok (.getfield 9, 3) := by decide +kernel
theorem d18_14 : decode jdk_38_method_6_code 14 = .ok (.getstatic 39, 3) := by decide +kernel
theorem d18_17 : decode jdk_38_method_6_code 17 = .ok (.if_acmp .eq 28, 3) := by decide +kernel
theorem d18_45 : decode jdk_38_method_6_code 45 = .ok (.aload_n 0, 1) := by decide +kernel
theorem d18_46 : decode jdk_38_method_6_code 46 = .ok (.bipush 10, 2) := by decide +kernel
theorem d18_48 : decode jdk_38_method_6_code 48 = .ok (.iload_n 1, 1) := by decide +kernel
theorem d18_49 : decode jdk_38_method_6_code 49 = .ok (.invokestatic 79, 3) := by decide +kernel
theorem pd_9 : parseMethodDescriptor "(II)I" = some ⟨[.int, .int], some .int⟩ := by decide +kernel
theorem d18_52 : decode jdk_38_method_6_code 52 = .ok (.anewarray 7, 3) := by decide +kernel
theorem d18_55 : decode jdk_38_method_6_code 55 = .ok (.dup_x1, 1) := by decide +kernel
theorem d18_56 : decode jdk_38_method_6_code 56 = .ok (.putfield 9, 3) := by decide +kernel
theorem d18_59 : decode jdk_38_method_6_code 59 = .ok (.areturn, 1) := by decide +kernel
theorem rGr1 (l : Launch) (Z : State) (a0 : Array Value) (hw : ∀ d ∈ tables_1, d.before a0 Z = true) (ws : List Jvm.Cond) (xa : Addr) (xd : Addr) (xk : ClassId) (xm : Int32) (h0 : Heap) (O0 : Ext Z.heap h0) (S_DEFAULTCAPACITY_EMPTY_ELEMENTDATA : Sta Z Z.heap "java/util/ArrayList" "DEFAULTCAPACITY_EMPTY_ELEMENTDATA" "[Ljava/lang/Object;" (.ref xd)) (og_xa : Z.heap.size ≤ xa) (E_xa : Exa Z h0 xa "java/util/ArrayList") (F_elementData_xa : Fld Z h0 xa "java/util/ArrayList" "elementData" "[Ljava/lang/Object;" (.ref xd)) (F_size_xa : Fld Z h0 xa "java/util/ArrayList" "size" "I" (.int (0 : Int32))) (F_modCount_xa : Fld Z h0 xa "java/util/AbstractList" "modCount" "I" (.int xm)) (V_xd : Arv Z h0 xd xk (.object "java/lang/Object") (0 : Int32) [] .null) :
    oCon l Z yy18 jdk_38_method_6_code 4 (some (.array (.object "java/lang/Object"))) ws ({ frames := 1, cells := 1, slots := 10, locals := 14 } : Room) #[(.ref xa), (.int (1 : Int32))] h0 (Q_rGr1 Z xa xd xk xm h0) := by
  refine oCon.of (plainFor_of_name pn_7) ?_
  intro p e s m below meth c T X hx hby hml hown hnm hret hlk hZ e0
  have hml : c.maxLocals = 4 := hml
  have K : oKp h0 h0 [xa] [] := oKp.nil _ _
  refine oWk.cast (g' := (mkF m 0 #[rv xa, iv 1, uu, uu] [])) (by first | rfl | (simp [entryFrame, mkF, argsToLocals, Value.category]; done)) ?_
  refine oWk.st (fun _ kt => XS.aloadN X.here hx rfl (hb hby d18_0) rfl rfl kt) ?_
  obtain ⟨T, X, e0, st⟩ := getF X hx hZ hown (host := "") (Or.inl (oW hw 48 rfl)) Via.refl e0 F_elementData_xa (g := (mkF m 1 #[rv xa, iv 1, uu, uu] [(.ref xa)])) rfl rfl (hb hby d18_1)
  refine oWk.st st ?_
  obtain ⟨cl1, Ar1, q1, Sz1, Nn1, Hs1, Ft1⟩ := id V_xd
  refine oWk.st (fun _ kt => X.arraylength hx (by rw [e0]; exact Ar1.1) (State.isArrayOf_alike hZ.alike Ar1.2.1) (g := (mkF m 4 #[rv xa, iv 1, uu, uu] [(.ref xd)])) rfl rfl (hb hby d18_4) _ kt) ?_
  rw [len_of Sz1 Nn1]
  refine oWk.st (fun _ kt => XS.istoreN X.here hx rfl (hb hby d18_5) rfl (l' := #[rv xa, iv 1, iv 0, uu]) rfl (XS.iloadN X.here hx rfl (hb hby d18_6) rfl (XS.ifNo X.here hx rfl (hb hby d18_7) rfl ((if0 _ _).trans (flt (by decide)).2.2.1) (XS.aloadN X.here hx rfl (hb hby d18_10) rfl rfl kt)))) ?_
  obtain ⟨T, X, e0, st⟩ := getF X hx hZ hown (host := "") (Or.inl (oW hw 48 rfl)) Via.refl e0 F_elementData_xa (g := (mkF m 11 #[rv xa, iv 1, iv 0, uu] [(.ref xa)])) rfl rfl (hb hby d18_11)
  refine oWk.st st ?_
  have Oh := K.old O0 (allS og_xa all0)
  obtain ⟨T, X, e0, st⟩ := getS2 X hx hZ hown (host := "") (Or.inl (oW hw 47 rfl)) Via.refl e0 (S_DEFAULTCAPACITY_EMPTY_ELEMENTDATA.ext Oh) (g := (mkF m 14 #[rv xa, iv 1, iv 0, uu] [(.ref xd)])) rfl (hb hby d18_14)
  refine oWk.st st ?_
  refine oWk.st (fun _ kt => Jvm.RoadKit.acmp (g := (mkF m 17 #[rv xa, iv 1, iv 0, uu] [(.ref xd), (.ref xd)])) X hx rfl rfl rfl (pc0 := 17) (pc' := 45) (same := true) rfl (hb hby d18_17) rfl (decide_eq_true rfl) (by decide) (by decide) kt) ?_
  show oWk _ _ _ _ T (mkF m 45 #[rv xa, iv 1, iv 0, uu] [])
  refine oWk.st (fun _ kt => XS.aloadN X.here hx rfl (hb hby d18_45) rfl rfl (XS.bipush X.here hx rfl (hb hby d18_46) (XS.iloadN X.here hx rfl (hb hby d18_48) rfl kt))) ?_
  have Oh := K.old O0 (allS og_xa all0)
  obtain ⟨_, _, ⟨T, L3, k3, n3⟩, -, X, ⟨Lc3, hQ, l3, y3, z3⟩, st⟩ := Jvm.LawKit.callS X hx (y := yy17) hown (mvT hZ (oW hw 121 rfl)) (mvT hZ (oW hw 122 rfl)) (mvT hZ (oW hw 123 rfl)) (mvT hZ (oW hw 124 rfl)) (by decide) (backOf (W := 1) (rMax l Z a0 hw []  h0 Oh ) hZ (oW hw 124 rfl) (oW hw 123 rfl) (by decide) (by decide)) (g := (mkF m 49 #[rv xa, iv 1, iv 0, uu] [(.int 1), (.int 10), (.ref xa)])) rfl (by rw [hml]; rfl) (argsL := [(.int (10 : Int32)), (.int (1 : Int32))]) (rest := [(.ref xa)]) (lenOf pd_9 rfl) rfl (Nat.le_of_eq rfl) (hb hby d18_49) (fun _ _ => ⟨rfl, e0, (by decide : 0 + 0 ≤ _), (by decide : 0 + 0 ≤ _)⟩)
  dsimp only [Pt.U, Pt.locs, Pt.cells, Pt.slots] at X l3 y3 z3 st hQ
  subst l3 y3 z3
  obtain ⟨rfl, e0, K2⟩ := hQ
  have K := K.call K2 all0
  rw [e0] at K
  refine oWk.st st ?_
  obtain ⟨o4, g4⟩ : ∃ z, z = h0.size := ⟨_, rfl⟩
  have ne_xa_o4 : xa ≠ o4 := Nat.ne_of_lt (Nat.lt_of_lt_of_le E_xa.lt (Nat.le_of_eq g4.symm))
  have ne_xd_o4 : xd ≠ o4 := Nat.ne_of_lt (Nat.lt_of_lt_of_le V_xd.lt (Nat.le_of_eq g4.symm))
  have ge_o4 : h0.size ≤ o4 := Nat.le_trans K.le (Nat.le_of_eq g4.symm)
  obtain ⟨T, h, k4, X, e0, E4, A4, E_o4, O4, st⟩ := newRE X hx hZ hown (oW hw 125 rfl) (oW hw 126 rfl) e0 (g := (mkF m 52 #[rv xa, iv 1, iv 0, uu] [(.int 10), (.ref xa)])) rfl (hb hby d18_52) rfl (by decide) (cap := 10) (by decide) (by decide) (by decide) (by decide) (ad := "[Ljava/lang/Object;") (by decide)
  rw [← g4] at A4 E_o4 st
  refine oWk.st st ?_
  have K := K.ext E4
  have V_o4 : Arv Z h o4 k4 (.object "java/lang/Object") (10 : Int32) [.null, .null, .null, .null, .null, .null, .null, .null, .null, .null] .null := (Arv.new A4 (by decide)).pad (pad_rep [] .null 10)
  refine oWk.st (fun _ kt => XS.dupX1 X.here hx rfl (hb hby d18_55) rfl rfl rfl kt) ?_
  have E_xa := (E_xa.ext E4)
  have F_elementData_xa := (F_elementData_xa.ext E4)
  obtain ⟨T, h, X, e0, W5, st⟩ := putF X hx hZ hown (host := "") (Or.inl (oW hw 48 rfl)) Via.refl e0 F_elementData_xa E_xa (Or.inl (oW hw 49 rfl)) (oW hw 27 rfl) (ty := (.array (.object "java/lang/Object"))) (by decide) rfl rfl (g := (mkF m 56 #[rv xa, iv 1, iv 0, uu] [(.ref o4), (.ref xa), (.ref o4)])) rfl rfl (hb hby d18_56)
  refine oWk.st st ?_
  have K := K.wr W5 (Or.inl (List.mem_of_getElem? (i := 0) rfl))
  have F_elementData_xa := F_elementData_xa.same W5
  have E_xa := (E_xa.wr W5)
  have F_size_xa := ((F_size_xa.ext E4).other W5 (Or.inr (slot_ne (Or.inl (oW hw 86 rfl)) (Or.inl (oW hw 49 rfl)) (by decide) (t := .int) (t' := (.array (.object "java/lang/Object"))) (by decide) (by decide))))
  have F_modCount_xa := ((F_modCount_xa.ext E4).other W5 (Or.inr (slot_ne (Or.inl (oW hw 46 rfl)) (Or.inl (oW hw 49 rfl)) (by decide) (t := .int) (t' := (.array (.object "java/lang/Object"))) (by decide) (by decide))))
  have E_o4 := (E_o4.wr W5)
  have V_o4 := (V_o4.other W5 (Ne.symm ne_xa_o4))
  exact oRetA X hx hlk hret rfl rfl (hb hby d18_59) (by rw [e0]; exact ⟨o4, k4, rfl, K, E_xa, F_elementData_xa, F_size_xa, F_modCount_xa, ge_o4, E_o4, V_o4, O4⟩) (by decide) (by decide)
def Q_rGr0 (Z : State) (xa : Addr) (xd : Addr) (xk : ClassId) (xm : Int32) (h0 : Heap) (v : Option Value) (h : Heap) (L : List Loc) : Prop := ∃ (nd : Addr) (nk : ClassId), v = some (.ref nd) ∧ oKp h0 h [xa] L ∧ (Exa Z h xa "java/util/ArrayList") ∧ (Fld Z h xa "java/util/ArrayList" "elementData" "[Ljava/lang/Object;" (.ref nd)) ∧ (Fld Z h xa "java/util/ArrayList" "size" "I" (.int (0 : Int32))) ∧ (Fld Z h xa "java/util/AbstractList" "modCount" "I" (.int xm)) ∧ (h0.size ≤ nd) ∧ (Exa Z h nd "[Ljava/lang/Object;") ∧ (Arv Z h nd nk (.object "java/lang/Object") (10 : Int32) [.null, .null, .null, .null, .null, .null, .null, .null, .null, .null] .null) ∧ (Ovr Z nk "java/lang/Object")
abbrev yy19 : MethodName := ⟨"java/util/ArrayList", "grow", "()[Ljava/lang/Object;"⟩
theorem d17_0 : decode jdk_38_method_7_code 0 = .ok (.aload_n 0, 1) := by decide +kernel
theorem d17_1 : decode jdk_38_method_7_code 1 = .ok (.aload_n 0, 1) := by decide +kernel
theorem d17_2 : decode jdk_38_method_7_code 2 = .ok (.getfield 48, 3) := by decide +kernel
theorem d17_5 : decode jdk_38_method_7_code 5 = .ok (.iconst 1, 1) := by decide +kernel
theorem d17_6 : decode jdk_38_method_7_code 6 = .ok (.iadd, 1) := by decide +kernel
theorem d17_7 : decode jdk_38_method_7_code 7 = .ok (.invokevirtual 69, 3) := by decide +kernel
theorem pd_10 : parseMethodDescriptor "(I)[Ljava/lang/Object;" = some ⟨[.int], some (.array (.object "java/lang/Object"))⟩ := by decide +kernel
theorem d17_10 : decode jdk_38_method_7_code 10 = .ok (.areturn, 1) := by decide +kernel
theorem rGr0 (l : Launch) (Z : State) (a0 : Array Value) (hw : ∀ d ∈ tables_1, d.before a0 Z = true) (ws : List Jvm.Cond) (xa : Addr) (xd : Addr) (xk : ClassId) (xm : Int32) (h0 : Heap) (O0 : Ext Z.heap h0) (S_DEFAULTCAPACITY_EMPTY_ELEMENTDATA : Sta Z Z.heap "java/util/ArrayList" "DEFAULTCAPACITY_EMPTY_ELEMENTDATA" "[Ljava/lang/Object;" (.ref xd)) (og_xa : Z.heap.size ≤ xa) (E_xa : Exa Z h0 xa "java/util/ArrayList") (F_elementData_xa : Fld Z h0 xa "java/util/ArrayList" "elementData" "[Ljava/lang/Object;" (.ref xd)) (F_size_xa : Fld Z h0 xa "java/util/ArrayList" "size" "I" (.int (0 : Int32))) (F_modCount_xa : Fld Z h0 xa "java/util/AbstractList" "modCount" "I" (.int xm)) (V_xd : Arv Z h0 xd xk (.object "java/lang/Object") (0 : Int32) [] .null) :
    oCon l Z yy19 jdk_38_method_7_code 1 (some (.array (.object "java/lang/Object"))) ws ({ frames := 2, cells := 1, slots := 10, locals := 29 } : Room) #[(.ref xa)] h0 (Q_rGr0 Z xa xd xk xm h0) := by
  refine oCon.of (plainFor_of_name pn_7) ?_
  intro p e s m below meth c T X hx hby hml hown hnm hret hlk hZ e0
  have hml : c.maxLocals = 1 := hml
  have K : oKp h0 h0 [xa] [] := oKp.nil _ _
  refine oWk.cast (g' := (mkF m 0 #[rv xa] [])) (by first | rfl | (simp [entryFrame, mkF, argsToLocals, Value.category]; done)) ?_
  refine oWk.st (fun _ kt => XS.aloadN X.here hx rfl (hb hby d17_0) rfl rfl (XS.aloadN X.here hx rfl (hb hby d17_1) rfl rfl kt)) ?_
  obtain ⟨T, X, e0, st⟩ := getF X hx hZ hown (host := "") (Or.inl (oW hw 85 rfl)) Via.refl e0 F_size_xa (g := (mkF m 2 #[rv xa] [(.ref xa), (.ref xa)])) rfl rfl (hb hby d17_2)
  refine oWk.st st ?_
  refine oWk.st (fun _ kt => XS.iconst X.here hx rfl (hb hby d17_5) (XS.iadd X.here hx rfl (hb hby d17_6) rfl kt)) ?_
  show oWk _ _ _ _ T (mkF m 7 #[rv xa] [(.int ((0 : Int32) + (1 : Int32))), (.ref xa)])
  rw [show ((0 : Int32) + (1 : Int32)) = (1 : Int32) from by decide]
  show oWk _ _ _ _ T (mkF m 7 #[rv xa] [(.int 1), (.ref xa)])
  have lt_xa := E_xa.lt
  have lt_xd := V_xd.lt
  have Oh := K.old O0 (allS og_xa all0)
  obtain ⟨cq2, q2, q2'⟩ := E_xa.cell
  obtain ⟨_, _, ⟨T, L2, k2, n2⟩, -, X, ⟨Lc2, hQ, l2, y2, z2⟩, st⟩ := X.privateBack hx (y := yy18) hown (mvT hZ (oW hw 116 rfl)) (mvT hZ (oW hw 117 rfl)) (mvT hZ (oW hw 119 rfl)) (Cond.privateMethod_at (mvP hZ (oW hw 118 rfl) (args := #[]))) (mvT hZ (oW hw 120 rfl)) (by decide) (backOf (W := 0) (rGr1 l Z a0 hw [] xa xd xk xm h0 Oh S_DEFAULTCAPACITY_EMPTY_ELEMENTDATA og_xa E_xa F_elementData_xa F_size_xa F_modCount_xa V_xd) hZ (oW hw 120 rfl) (oW hw 28 rfl) (by decide) (by decide)) (g := (mkF m 7 #[rv xa] [(.int 1), (.ref xa)])) rfl (by rw [hml]; rfl) (Steps.refl _) (a := xa) (by rw [e0]; exact q2) q2' (argsL := [(.int (1 : Int32))]) (rest := []) (lenOf pd_10 rfl) rfl (Nat.le_of_eq rfl) (hb hby d17_7) (fun _ _ => ⟨rfl, e0, (by decide : 0 + 1 ≤ _), (by decide : 0 + 10 ≤ _)⟩)
  dsimp only [Pt.U, Pt.locs, Pt.cells, Pt.slots] at X l2 y2 z2 st hQ
  subst l2 y2 z2
  obtain ⟨h, e0⟩ : ∃ z, T.heap = z := ⟨_, rfl⟩
  rw [e0] at hQ
  obtain ⟨nd1, nk1, rfl, K1, E_xa, F_elementData_xa, F_size_xa, F_modCount_xa, gn_nd1, E_nd1, V_nd1, ov_nk1⟩ := hQ
  have ge_nd1 := Nat.le_trans K.le gn_nd1
  have ne_xa_nd1 : xa ≠ nd1 := Nat.ne_of_lt (Nat.lt_of_lt_of_le lt_xa gn_nd1)
  have ne_xd_nd1 : xd ≠ nd1 := Nat.ne_of_lt (Nat.lt_of_lt_of_le lt_xd gn_nd1)
  have K := K.call K1 (allS (Or.inl (List.mem_of_getElem? (i := 0) rfl)) all0)
  refine oWk.tr st ?_
  exact oRetA X hx hlk hret rfl rfl (hb hby d17_10) (by rw [e0]; exact ⟨nd1, nk1, rfl, K, E_xa, F_elementData_xa, F_size_xa, F_modCount_xa, ge_nd1, E_nd1, V_nd1, ov_nk1⟩) (by decide) (by decide)
def Q_rA3_0 (Z : State) (xa : Addr) (xx : Addr) (xd : Addr) (xk : ClassId) (xm : Int32) (h0 : Heap) (v : Option Value) (h : Heap) (L : List Loc) : Prop := ∃ (nd : Addr) (nk : ClassId), v = none ∧ oKp h0 h [xa] L ∧ (Exa Z h xa "java/util/ArrayList") ∧ (Fld Z h xa "java/util/ArrayList" "elementData" "[Ljava/lang/Object;" (.ref nd)) ∧ (Fld Z h xa "java/util/ArrayList" "size" "I" (.int (1 : Int32))) ∧ (Fld Z h xa "java/util/AbstractList" "modCount" "I" (.int xm)) ∧ (h0.size ≤ nd) ∧ (Exa Z h nd "[Ljava/lang/Object;") ∧ (Arv Z h nd nk (.object "java/lang/Object") (10 : Int32) [(.ref xx), .null, .null, .null, .null, .null, .null, .null, .null, .null] .null) ∧ (Ovr Z nk "java/lang/Object")
abbrev yy20 : MethodName := ⟨"java/util/ArrayList", "add", "(Ljava/lang/Object;[Ljava/lang/Object;I)V"⟩
theorem d16_0 : decode jdk_38_method_24_code 0 = .ok (.iload_n 3, 1) := by decide +kernel
theorem d16_1 : decode jdk_38_method_24_code 1 = .ok (.aload_n 2, 1) := by decide +kernel
theorem d16_2 : decode jdk_38_method_24_code 2 = .ok (.arraylength, 1) := by decide +kernel
theorem d16_3 : decode jdk_38_method_24_code 3 = .ok (.if_icmp .ne 8, 3) := by decide +kernel
theorem d16_6 : decode jdk_38_method_24_code 6 = .ok (.aload_n 0, 1) := by decide +kernel
theorem d16_7 : decode jdk_38_method_24_code 7 = .ok (.invokevirtual 129, 3) := by decide +kernel
theorem pd_11 : parseMethodDescriptor "()[Ljava/lang/Object;" = some ⟨[], some (.array (.object "java/lang/Object"))⟩ := by decide +kernel
theorem d16_10 : decode jdk_38_method_24_code 10 = .ok (.astore_n 2, 1) := by decide +kernel
theorem d16_11 : decode jdk_38_method_24_code 11 = .ok (.aload_n 2, 1) := by decide +kernel
theorem d16_12 : decode jdk_38_method_24_code 12 = .ok (.iload_n 3, 1) := by decide +kernel
theorem d16_13 : decode jdk_38_method_24_code 13 = .ok (.aload_n 1, 1) := by decide +kernel
theorem d16_14 : decode jdk_38_method_24_code 14 = .ok (.aastore, 1) := by decide +kernel
theorem d16_15 : decode jdk_38_method_24_code 15 = .ok (.aload_n 0, 1) := by decide +kernel
theorem d16_16 : decode jdk_38_method_24_code 16 = .ok (.iload_n 3, 1) := by decide +kernel
theorem d16_17 : decode jdk_38_method_24_code 17 = .ok (.iconst 1, 1) := by decide +kernel
theorem d16_18 : decode jdk_38_method_24_code 18 = .ok (.iadd, 1) := by decide +kernel
theorem d16_19 : decode jdk_38_method_24_code 19 = .ok (.putfield 48, 3) := by decide +kernel
theorem d16_22 : decode jdk_38_method_24_code 22 = .ok (.return_, 1) := by decide +kernel
theorem rA3_0 (l : Launch) (Z : State) (a0 : Array Value) (hw : ∀ d ∈ tables_1, d.before a0 Z = true) (ws : List Jvm.Cond) (xa : Addr) (xx : Addr) (xd : Addr) (xk : ClassId) (xm : Int32) (h0 : Heap) (O0 : Ext Z.heap h0) (S_DEFAULTCAPACITY_EMPTY_ELEMENTDATA : Sta Z Z.heap "java/util/ArrayList" "DEFAULTCAPACITY_EMPTY_ELEMENTDATA" "[Ljava/lang/Object;" (.ref xd)) (og_xa : Z.heap.size ≤ xa) (E_xa : Exa Z h0 xa "java/util/ArrayList") (F_elementData_xa : Fld Z h0 xa "java/util/ArrayList" "elementData" "[Ljava/lang/Object;" (.ref xd)) (F_size_xa : Fld Z h0 xa "java/util/ArrayList" "size" "I" (.int (0 : Int32))) (F_modCount_xa : Fld Z h0 xa "java/util/AbstractList" "modCount" "I" (.int xm)) (V_xd : Arv Z h0 xd xk (.object "java/lang/Object") (0 : Int32) [] .null) (I_xx : Ins Z h0 xx "java/lang/Object" true) (ne_xa_xx : xa ≠ xx) :
    oCon l Z yy20 jdk_38_method_24_code 4 none ws ({ frames := 3, cells := 1, slots := 10, locals := 41 } : Room) #[(.ref xa), (.ref xx), (.ref xd), (.int (0 : Int32))] h0 (Q_rA3_0 Z xa xx xd xk xm h0) := by
  refine oCon.of (plainFor_of_name pn_7) ?_
  intro p e s m below meth c T X hx hby hml hown hnm hret hlk hZ e0
  have hml : c.maxLocals = 4 := hml
  have K : oKp h0 h0 [xa] [] := oKp.nil _ _
  refine oWk.cast (g' := (mkF m 0 #[rv xa, rv xx, rv xd, iv 0] [])) (by first | rfl | (simp [entryFrame, mkF, argsToLocals, Value.category]; done)) ?_
  refine oWk.st (fun _ kt => XS.iloadN X.here hx rfl (hb hby d16_0) rfl (XS.aloadN X.here hx rfl (hb hby d16_1) rfl rfl kt)) ?_
  obtain ⟨cl1, Ar1, q1, Sz1, Nn1, Hs1, Ft1⟩ := id V_xd
  refine oWk.st (fun _ kt => X.arraylength hx (by rw [e0]; exact Ar1.1) (State.isArrayOf_alike hZ.alike Ar1.2.1) (g := (mkF m 2 #[rv xa, rv xx, rv xd, iv 0] [(.ref xd), (.int 0)])) rfl rfl (hb hby d16_2) _ kt) ?_
  rw [len_of Sz1 Nn1]
  refine oWk.st (fun _ kt => XS.icmpNo X.here hx rfl (hb hby d16_3) rfl (teq (by decide)).2 (XS.aloadN X.here hx rfl (hb hby d16_6) rfl rfl kt)) ?_
  have lt_xa := E_xa.lt
  have lt_xd := V_xd.lt
  have Oh := K.old O0 (allS og_xa all0)
  obtain ⟨cq3, q3, q3'⟩ := E_xa.cell
  obtain ⟨_, _, ⟨T, L3, k3, n3⟩, -, X, ⟨Lc3, hQ, l3, y3, z3⟩, st⟩ := X.privateBack hx (y := yy19) hown (mvT hZ (oW hw 111 rfl)) (mvT hZ (oW hw 112 rfl)) (mvT hZ (oW hw 114 rfl)) (Cond.privateMethod_at (mvP hZ (oW hw 113 rfl) (args := #[]))) (mvT hZ (oW hw 115 rfl)) (by decide) (backOf (W := 0) (rGr0 l Z a0 hw [] xa xd xk xm h0 Oh S_DEFAULTCAPACITY_EMPTY_ELEMENTDATA og_xa E_xa F_elementData_xa F_size_xa F_modCount_xa V_xd) hZ (oW hw 115 rfl) (oW hw 28 rfl) (by decide) (by decide)) (g := (mkF m 7 #[rv xa, rv xx, rv xd, iv 0] [(.ref xa)])) rfl (by rw [hml]; rfl) (Steps.refl _) (a := xa) (by rw [e0]; exact q3) q3' (argsL := []) (rest := []) (lenOf pd_11 rfl) rfl (Nat.le_of_eq rfl) (hb hby d16_7) (fun _ _ => ⟨rfl, e0, (by decide : 0 + 1 ≤ _), (by decide : 0 + 10 ≤ _)⟩)
  dsimp only [Pt.U, Pt.locs, Pt.cells, Pt.slots] at X l3 y3 z3 st hQ
  subst l3 y3 z3
  obtain ⟨h, e0⟩ : ∃ z, T.heap = z := ⟨_, rfl⟩
  rw [e0] at hQ
  obtain ⟨nd2, nk2, rfl, K2, E_xa, F_elementData_xa, F_size_xa, F_modCount_xa, gn_nd2, E_nd2, V_nd2, ov_nk2⟩ := hQ
  have ge_nd2 := Nat.le_trans K.le gn_nd2
  have ne_xa_nd2 : xa ≠ nd2 := Nat.ne_of_lt (Nat.lt_of_lt_of_le lt_xa gn_nd2)
  have ne_xd_nd2 : xd ≠ nd2 := Nat.ne_of_lt (Nat.lt_of_lt_of_le lt_xd gn_nd2)
  have K := K.call K2 (allS (Or.inl (List.mem_of_getElem? (i := 0) rfl)) all0)
  refine oWk.tr st ?_
  refine oWk.st (fun _ kt => XS.astoreN X.here hx rfl (hb hby d16_10) rfl rfl (l' := #[rv xa, rv xx, rv nd2, iv 0]) rfl (XS.aloadN X.here hx rfl (hb hby d16_11) rfl rfl (XS.iloadN X.here hx rfl (hb hby d16_12) rfl (XS.aloadN X.here hx rfl (hb hby d16_13) rfl rfl kt)))) ?_
  have I_xx := (oInsKeep I_xx K2.1)
  obtain ⟨cl4, Ar4, q4, Sz4, Nn4, Hs4, Ft4⟩ := id V_nd2
  have hin4 : ¬ ((0 : Int32) < 0 ∨ cl4.slots.size ≤ ((0 : Int32)).toNatClampNeg) := inb_of Sz4 ⟨by decide, by decide⟩
  obtain ⟨T, h, X, e0, W4, st⟩ := stR X hx hZ e0 Ar4 (j := (0 : Int32)) hin4 rfl (Sto.ofV Ar4 q4 ov_nk2 I_xx) (g := (mkF m 14 #[rv xa, rv xx, rv nd2, iv 0] [(.ref xx), (.int 0), (.ref nd2)])) rfl rfl (hb hby d16_14)
  refine oWk.st st ?_
  have K := K.wr W4 (Or.inr ge_nd2)
  have V_nd2 : Arv Z h nd2 nk2 (.object "java/lang/Object") (10 : Int32) [(.ref xx), .null, .null, .null, .null, .null, .null, .null, .null, .null] .null := Arv.set Ar4 q4 Sz4 Nn4 Hs4 Ft4 rfl W4 0 rfl (Nat.le_of_ble_eq_true rfl)
  refine oWk.st (fun _ kt => XS.aloadN X.here hx rfl (hb hby d16_15) rfl rfl (XS.iloadN X.here hx rfl (hb hby d16_16) rfl (XS.iconst X.here hx rfl (hb hby d16_17) (XS.iadd X.here hx rfl (hb hby d16_18) rfl kt)))) ?_
  show oWk _ _ _ _ T (mkF m 19 #[rv xa, rv xx, rv nd2, iv 0] [(.int ((0 : Int32) + (1 : Int32))), (.ref xa)])
  rw [show ((0 : Int32) + (1 : Int32)) = (1 : Int32) from by decide]
  show oWk _ _ _ _ T (mkF m 19 #[rv xa, rv xx, rv nd2, iv 0] [(.int 1), (.ref xa)])
  have E_xa := (E_xa.wr W4)
  have F_size_xa := (F_size_xa.other W4 (Or.inl ne_xa_nd2))
  obtain ⟨T, h, X, e0, W5, st⟩ := putF X hx hZ hown (host := "") (Or.inl (oW hw 85 rfl)) Via.refl e0 F_size_xa E_xa (Or.inl (oW hw 86 rfl)) (oW hw 27 rfl) (ty := .int) (by decide) rfl rfl (g := (mkF m 19 #[rv xa, rv xx, rv nd2, iv 0] [(.int 1), (.ref xa)])) rfl rfl (hb hby d16_19)
  refine oWk.st st ?_
  have K := K.wr W5 (Or.inl (List.mem_of_getElem? (i := 0) rfl))
  have F_size_xa := F_size_xa.same W5
  have E_xa := (E_xa.wr W5)
  have F_elementData_xa := ((F_elementData_xa.other W4 (Or.inl ne_xa_nd2)).other W5 (Or.inr (slot_ne (Or.inl (oW hw 49 rfl)) (Or.inl (oW hw 86 rfl)) (by decide) (t := (.array (.object "java/lang/Object"))) (t' := .int) (by decide) (by decide))))
  have F_modCount_xa := ((F_modCount_xa.other W4 (Or.inl ne_xa_nd2)).other W5 (Or.inr (slot_ne (Or.inl (oW hw 46 rfl)) (Or.inl (oW hw 86 rfl)) (by decide) (t := .int) (t' := .int) (by decide) (by decide))))
  have E_nd2 := ((E_nd2.wr W4).wr W5)
  have V_nd2 := (V_nd2.other W5 (Ne.symm ne_xa_nd2))
  exact oRetV X hx hlk hret (hb hby d16_22) (by rw [e0]; exact ⟨nd2, nk2, rfl, K, E_xa, F_elementData_xa, F_size_xa, F_modCount_xa, ge_nd2, E_nd2, V_nd2, ov_nk2⟩) (by decide) (by decide)
def Q_rAd_0 (Z : State) (xa : Addr) (xx : Addr) (xd : Addr) (xk : ClassId) (xm : Int32) (h0 : Heap) (v : Option Value) (h : Heap) (L : List Loc) : Prop := ∃ (nd : Addr) (nk : ClassId), v = some (.int (1 : Int32)) ∧ oKp h0 h [xa] L ∧ (Exa Z h xa "java/util/ArrayList") ∧ (Fld Z h xa "java/util/ArrayList" "elementData" "[Ljava/lang/Object;" (.ref nd)) ∧ (Fld Z h xa "java/util/ArrayList" "size" "I" (.int (1 : Int32))) ∧ (Fld Z h xa "java/util/AbstractList" "modCount" "I" (.int (xm + (1 : Int32)))) ∧ (h0.size ≤ nd) ∧ (Exa Z h nd "[Ljava/lang/Object;") ∧ (Arv Z h nd nk (.object "java/lang/Object") (10 : Int32) [(.ref xx), .null, .null, .null, .null, .null, .null, .null, .null, .null] .null) ∧ (Ovr Z nk "java/lang/Object")
abbrev yy21 : MethodName := ⟨"java/util/ArrayList", "add", "(Ljava/lang/Object;)Z"⟩
theorem d15_0 : decode jdk_38_method_25_code 0 = .ok (.aload_n 0, 1) := by decide +kernel
theorem d15_1 : decode jdk_38_method_25_code 1 = .ok (.dup, 1) := by decide +kernel
theorem d15_2 : decode jdk_38_method_25_code 2 = .ok (.getfield 63, 3) := by decide +kernel
theorem d15_5 : decode jdk_38_method_25_code 5 = .ok (.iconst 1, 1) := by decide +kernel
theorem d15_6 : decode jdk_38_method_25_code 6 = .ok (.iadd, 1) := by decide +kernel
theorem d15_7 : decode jdk_38_method_25_code 7 = .ok (.putfield 63, 3) := by decide +kernel
theorem d15_10 : decode jdk_38_method_25_code 10 = .ok (.aload_n 0, 1) := by decide +kernel
theorem d15_11 : decode jdk_38_method_25_code 11 = .ok (.aload_n 1, 1) := by decide +kernel
theorem d15_12 : decode jdk_38_method_25_code 12 = .ok (.aload_n 0, 1) := by decide +kernel
theorem d15_13 : decode jdk_38_method_25_code 13 = .ok (.getfield 9, 3) := by decide +kernel
theorem d15_16 : decode jdk_38_method_25_code 16 = .ok (.aload_n 0, 1) := by decide +kernel
theorem d15_17 : decode jdk_38_method_25_code 17 = .ok (.getfield 48, 3) := by decide +kernel
theorem d15_20 : decode jdk_38_method_25_code 20 = .ok (.invokevirtual 131, 3) := by decide +kernel
theorem pd_12 : parseMethodDescriptor "(Ljava/lang/Object;[Ljava/lang/Object;I)V" = some ⟨[(.object "java/lang/Object"), (.array (.object "java/lang/Object")), .int], none⟩ := by decide +kernel
theorem d15_23 : decode jdk_38_method_25_code 23 = .ok (.iconst 1, 1) := by decide +kernel
theorem d15_24 : decode jdk_38_method_25_code 24 = .ok (.ireturn, 1) := by decide +kernel
theorem rAd_0 (l : Launch) (Z : State) (a0 : Array Value) (hw : ∀ d ∈ tables_1, d.before a0 Z = true) (ws : List Jvm.Cond) (xa : Addr) (xx : Addr) (xd : Addr) (xk : ClassId) (xm : Int32) (h0 : Heap) (O0 : Ext Z.heap h0) (S_DEFAULTCAPACITY_EMPTY_ELEMENTDATA : Sta Z Z.heap "java/util/ArrayList" "DEFAULTCAPACITY_EMPTY_ELEMENTDATA" "[Ljava/lang/Object;" (.ref xd)) (og_xa : Z.heap.size ≤ xa) (E_xa : Exa Z h0 xa "java/util/ArrayList") (F_elementData_xa : Fld Z h0 xa "java/util/ArrayList" "elementData" "[Ljava/lang/Object;" (.ref xd)) (F_size_xa : Fld Z h0 xa "java/util/ArrayList" "size" "I" (.int (0 : Int32))) (F_modCount_xa : Fld Z h0 xa "java/util/AbstractList" "modCount" "I" (.int xm)) (V_xd : Arv Z h0 xd xk (.object "java/lang/Object") (0 : Int32) [] .null) (I_xx : Ins Z h0 xx "java/lang/Object" true) (ne_xa_xx : xa ≠ xx) (ne_xa_xd : xa ≠ xd) :
    oCon l Z yy21 jdk_38_method_25_code 2 (some .boolean) ws ({ frames := 4, cells := 1, slots := 10, locals := 56 } : Room) #[(.ref xa), (.ref xx)] h0 (Q_rAd_0 Z xa xx xd xk xm h0) := by
  refine oCon.of (plainFor_of_name pn_7) ?_
  intro p e s m below meth c T X hx hby hml hown hnm hret hlk hZ e0
  have hml : c.maxLocals = 2 := hml
  have K : oKp h0 h0 [xa] [] := oKp.nil _ _
  refine oWk.cast (g' := (mkF m 0 #[rv xa, rv xx] [])) (by first | rfl | (simp [entryFrame, mkF, argsToLocals, Value.category]; done)) ?_
  refine oWk.st (fun _ kt => XS.aloadN X.here hx rfl (hb hby d15_0) rfl rfl (XS.dup X.here hx rfl (hb hby d15_1) rfl rfl kt)) ?_
  obtain ⟨T, X, e0, st⟩ := getF X hx hZ hown (host := "") (Or.inl (oW hw 104 rfl)) (Via.of (oW hw 105 rfl)) e0 F_modCount_xa (g := (mkF m 2 #[rv xa, rv xx] [(.ref xa), (.ref xa)])) rfl rfl (hb hby d15_2)
  refine oWk.st st ?_
  refine oWk.st (fun _ kt => XS.iconst X.here hx rfl (hb hby d15_5) (XS.iadd X.here hx rfl (hb hby d15_6) rfl kt)) ?_
  obtain ⟨T, h, X, e0, W1, st⟩ := putF X hx hZ hown (host := "") (Or.inl (oW hw 104 rfl)) (Via.of (oW hw 105 rfl)) e0 F_modCount_xa E_xa (Or.inl (oW hw 46 rfl)) (oW hw 27 rfl) (ty := .int) (by decide) rfl rfl (g := (mkF m 7 #[rv xa, rv xx] [(.int (xm + (1 : Int32))), (.ref xa)])) rfl rfl (hb hby d15_7)
  refine oWk.st st ?_
  have K := K.wr W1 (Or.inl (List.mem_of_getElem? (i := 0) rfl))
  have F_modCount_xa := F_modCount_xa.same W1
  refine oWk.st (fun _ kt => XS.aloadN X.here hx rfl (hb hby d15_10) rfl rfl (XS.aloadN X.here hx rfl (hb hby d15_11) rfl rfl (XS.aloadN X.here hx rfl (hb hby d15_12) rfl rfl kt))) ?_
  have F_elementData_xa := (F_elementData_xa.other W1 (Or.inr (slot_ne (Or.inl (oW hw 49 rfl)) (Or.inl (oW hw 46 rfl)) (by decide) (t := (.array (.object "java/lang/Object"))) (t' := .int) (by decide) (by decide))))
  obtain ⟨T, X, e0, st⟩ := getF X hx hZ hown (host := "") (Or.inl (oW hw 48 rfl)) Via.refl e0 F_elementData_xa (g := (mkF m 13 #[rv xa, rv xx] [(.ref xa), (.ref xx), (.ref xa)])) rfl rfl (hb hby d15_13)
  refine oWk.st st ?_
  refine oWk.st (fun _ kt => XS.aloadN X.here hx rfl (hb hby d15_16) rfl rfl kt) ?_
  have F_size_xa := (F_size_xa.other W1 (Or.inr (slot_ne (Or.inl (oW hw 86 rfl)) (Or.inl (oW hw 46 rfl)) (by decide) (t := .int) (t' := .int) (by decide) (by decide))))
  obtain ⟨T, X, e0, st⟩ := getF X hx hZ hown (host := "") (Or.inl (oW hw 85 rfl)) Via.refl e0 F_size_xa (g := (mkF m 17 #[rv xa, rv xx] [(.ref xa), (.ref xd), (.ref xx), (.ref xa)])) rfl rfl (hb hby d15_17)
  refine oWk.st st ?_
  have E_xa := (E_xa.wr W1)
  have V_xd := (V_xd.other W1 (Ne.symm ne_xa_xd))
  have I_xx := (I_xx.wr W1)
  have lt_xa := E_xa.lt
  have lt_xd := V_xd.lt
  have Oh := K.old O0 (allS og_xa all0)
  obtain ⟨cq3, q3, q3'⟩ := E_xa.cell
  obtain ⟨_, _, ⟨T, L3, k3, n3⟩, -, X, ⟨Lc3, hQ, l3, y3, z3⟩, st⟩ := X.privateBack hx (y := yy20) hown (mvT hZ (oW hw 106 rfl)) (mvT hZ (oW hw 107 rfl)) (mvT hZ (oW hw 109 rfl)) (Cond.privateMethod_at (mvP hZ (oW hw 108 rfl) (args := #[]))) (mvT hZ (oW hw 110 rfl)) (by decide) (backOf (W := 0) (rA3_0 l Z a0 hw [] xa xx xd xk (xm + (1 : Int32)) h Oh S_DEFAULTCAPACITY_EMPTY_ELEMENTDATA og_xa E_xa F_elementData_xa F_size_xa F_modCount_xa V_xd I_xx ne_xa_xx) hZ (oW hw 110 rfl) (oW hw 28 rfl) (by decide) (by decide)) (g := (mkF m 20 #[rv xa, rv xx] [(.int 0), (.ref xd), (.ref xx), (.ref xa)])) rfl (by rw [hml]; rfl) (Steps.refl _) (a := xa) (by rw [e0]; exact q3) q3' (argsL := [(.ref xx), (.ref xd), (.int (0 : Int32))]) (rest := []) (lenOf pd_12 rfl) rfl (Nat.le_of_eq rfl) (hb hby d15_20) (fun _ _ => ⟨rfl, e0, (by decide : 0 + 1 ≤ _), (by decide : 0 + 10 ≤ _)⟩)
  dsimp only [Pt.U, Pt.locs, Pt.cells, Pt.slots] at X l3 y3 z3 st hQ
  subst l3 y3 z3
  obtain ⟨h, e0⟩ : ∃ z, T.heap = z := ⟨_, rfl⟩
  rw [e0] at hQ
  obtain ⟨nd2, nk2, rfl, K2, E_xa, F_elementData_xa, F_size_xa, F_modCount_xa, gn_nd2, E_nd2, V_nd2, ov_nk2⟩ := hQ
  have ge_nd2 := Nat.le_trans K.le gn_nd2
  have ne_xa_nd2 : xa ≠ nd2 := Nat.ne_of_lt (Nat.lt_of_lt_of_le lt_xa gn_nd2)
  have ne_xd_nd2 : xd ≠ nd2 := Nat.ne_of_lt (Nat.lt_of_lt_of_le lt_xd gn_nd2)
  have K := K.call K2 (allS (Or.inl (List.mem_of_getElem? (i := 0) rfl)) all0)
  refine oWk.tr st ?_
  refine oWk.st (fun _ kt => XS.iconst X.here hx rfl (hb hby d15_23) kt) ?_
  show oWk _ _ _ _ T (mkF m 24 #[rv xa, rv xx] [(.int 1)])
  exact oRetZ X hx hlk hret (hb hby d15_24) (Or.inr rfl) (by rw [e0]; exact ⟨nd2, nk2, rfl, K, E_xa, F_elementData_xa, F_size_xa, F_modCount_xa, ge_nd2, E_nd2, V_nd2, ov_nk2⟩) (by decide) (by decide)
theorem pd_13 : parseMethodDescriptor "(Ljava/lang/Object;)Z" = some ⟨[(.object "java/lang/Object")], some .boolean⟩ := by decide +kernel
def Q_rEmp1 (Z : State) (xa : Addr) (h0 : Heap) (v : Option Value) (h : Heap) (L : List Loc) : Prop := v = some (.int (0 : Int32)) ∧ h = h0 ∧ oKp h0 h [] L
theorem d13_11 : decode jdk_38_method_9_code 11 = .ok (.iconst 0, 1) := by decide +kernel
theorem rEmp1 (l : Launch) (Z : State) (a0 : Array Value) (hw : ∀ d ∈ tables_1, d.before a0 Z = true) (ws : List Jvm.Cond) (xa : Addr) (h0 : Heap) (O0 : Ext Z.heap h0) (F_size_xa : Fld Z h0 xa "java/util/ArrayList" "size" "I" (.int (1 : Int32))) :
    oCon l Z yy11 jdk_38_method_9_code 1 (some .boolean) ws ({ frames := 0, cells := 0, slots := 0, locals := 0 } : Room) #[(.ref xa)] h0 (Q_rEmp1 Z xa h0) := by
  refine oCon.of (plainFor_of_name pn_7) ?_
  intro p e s m below meth c T X hx hby hml hown hnm hret hlk hZ e0
  have hml : c.maxLocals = 1 := hml
  have K : oKp h0 h0 [] [] := oKp.nil _ _
  refine oWk.cast (g' := (mkF m 0 #[rv xa] [])) (by first | rfl | (simp [entryFrame, mkF, argsToLocals, Value.category]; done)) ?_
  refine oWk.st (fun _ kt => XS.aloadN X.here hx rfl (hb hby d13_0) rfl rfl kt) ?_
  obtain ⟨T, X, e0, st⟩ := getF X hx hZ hown (host := "") (Or.inl (oW hw 85 rfl)) Via.refl e0 F_size_xa (g := (mkF m 1 #[rv xa] [(.ref xa)])) rfl rfl (hb hby d13_1)
  refine oWk.st st ?_
  refine oWk.st (fun _ kt => XS.ifYes X.here hx rfl (pc0 := 4) (pc' := 11) rfl (hb hby d13_4) rfl ((if0 _ _).trans (feq (by decide)).2) (by decide) (by decide) (XS.iconst X.here hx rfl (hb hby d13_11) kt)) ?_
  show oWk _ _ _ _ T (mkF m 12 #[rv xa] [(.int 0)])
  exact oRetZ X hx hlk hret (hb hby d13_12) (Or.inl rfl) (by rw [e0]; exact ⟨rfl, rfl, K⟩) (by decide) (by decide)
def Q_rMin1 (Z : State)  (h0 : Heap) (v : Option Value) (h : Heap) (L : List Loc) : Prop := v = some (.int (1 : Int32)) ∧ h = h0 ∧ oKp h0 h [] L
abbrev yy22 : MethodName := ⟨"java/lang/Math", "min", "(II)I"⟩
theorem d26_0 : decode jdk_29_method_69_code 0 = .ok (.iload_n 0, 1) := by decide +kernel
theorem d26_1 : decode jdk_29_method_69_code 1 = .ok (.iload_n 1, 1) := by decide +kernel
theorem d26_2 : decode jdk_29_method_69_code 2 = .ok (.if_icmp .gt 7, 3) := by decide +kernel
theorem d26_9 : decode jdk_29_method_69_code 9 = .ok (.iload_n 1, 1) := by decide +kernel
theorem d26_10 : decode jdk_29_method_69_code 10 = .ok (.ireturn, 1) := by decide +kernel
theorem rMin1 (l : Launch) (Z : State) (a0 : Array Value) (hw : ∀ d ∈ tables_1, d.before a0 Z = true) (ws : List Jvm.Cond)  (h0 : Heap) (O0 : Ext Z.heap h0)  :
    oCon l Z yy22 jdk_29_method_69_code 2 (some .int) ws ({ frames := 0, cells := 0, slots := 0, locals := 0 } : Room) #[(.int (10 : Int32)), (.int (1 : Int32))] h0 (Q_rMin1 Z  h0) := by
  refine oCon.of (Jvm.Free.JP.mathPlain rfl (by decide +kernel)) ?_
  intro p e s m below meth c T X hx hby hml hown hnm hret hlk hZ e0
  have hml : c.maxLocals = 2 := hml
  have K : oKp h0 h0 [] [] := oKp.nil _ _
  refine oWk.cast (g' := (mkF m 0 #[iv 10, iv 1] [])) (by first | rfl | (simp [entryFrame, mkF, argsToLocals, Value.category]; done)) ?_
  refine oWk.st (fun _ kt => XS.iloadN X.here hx rfl (hb hby d26_0) rfl (XS.iloadN X.here hx rfl (hb hby d26_1) rfl (XS.icmpYes X.here hx rfl (pc0 := 2) (pc' := 9) rfl (hb hby d26_2) rfl (tlt (by decide)).2.2.1 (by decide) (by decide) (XS.iloadN X.here hx rfl (hb hby d26_9) rfl kt)))) ?_
  show oWk _ _ _ _ T (mkF m 10 #[iv 10, iv 1] [(.int 1)])
  exact oRetI X hx hlk hret (hb hby d26_10) (by rw [e0]; exact ⟨rfl, rfl, K⟩) (by decide) (by decide)
def Q_rCp3_1 (Z : State) (xf : Addr) (xmr : Addr) (xk : ClassId) (xe0 : Addr) (h0 : Heap) (v : Option Value) (h : Heap) (L : List Loc) : Prop := ∃ (nb : Addr) (nj : ClassId), v = some (.ref nb) ∧ oKp h0 h [] L ∧ (h0.size ≤ nb) ∧ (Exa Z h nb "[Ljava/lang/Object;") ∧ (Arv Z h nb nj (.object "java/lang/Object") (1 : Int32) [(.ref xe0)] .null) ∧ (Ovr Z nj "java/lang/Object")
theorem pn_11 : plainName "java/util/Arrays" = true := by first | (simp [plainName, overriddenIn]; done) | decide +kernel
abbrev yy23 : MethodName := ⟨"java/util/Arrays", "copyOf", "([Ljava/lang/Object;ILjava/lang/Class;)[Ljava/lang/Object;"⟩
theorem d25_0 : decode jdk_65_method_120_code 0 = .ok (.aload_n 2, 1) := by decide +kernel
theorem d25_1 : decode jdk_65_method_120_code 1 = .ok (.ldc 110, 2) := by decide +kernel
theorem d25_3 : decode jdk_65_method_120_code 3 = .ok (.if_acmp .ne 10, 3) := by decide +kernel
theorem d25_6 : decode jdk_65_method_120_code 6 = .ok (.iload_n 1, 1) := by decide +kernel
theorem d25_7 : decode jdk_65_method_120_code 7 = .ok (.anewarray 2, 3) := by decide +kernel
theorem d25_10 : decode jdk_65_method_120_code 10 = .ok (.goto 14, 3) := by decide +kernel
theorem d25_24 : decode jdk_65_method_120_code 24 = .ok (.astore_n 3, 1) := by decide +kernel
theorem d25_25 : decode jdk_65_method_120_code 25 = .ok (.aload_n 0, 1) := by decide +kernel
theorem d25_26 : decode jdk_65_method_120_code 26 = .ok (.iconst 0, 1) := by decide +kernel
theorem d25_27 : decode jdk_65_method_120_code 27 = .ok (.aload_n 3, 1) := by decide +kernel
theorem d25_28 : decode jdk_65_method_120_code 28 = .ok (.iconst 0, 1) := by decide +kernel
theorem d25_29 : decode jdk_65_method_120_code 29 = .ok (.aload_n 0, 1) := by decide +kernel
theorem d25_30 : decode jdk_65_method_120_code 30 = .ok (.arraylength, 1) := by decide +kernel
theorem d25_31 : decode jdk_65_method_120_code 31 = .ok (.iload_n 1, 1) := by decide +kernel
theorem d25_32 : decode jdk_65_method_120_code 32 = .ok (.invokestatic 304, 3) := by decide +kernel
theorem d25_35 : decode jdk_65_method_120_code 35 = .ok (.invokestatic 150, 3) := by decide +kernel
theorem d25_38 : decode jdk_65_method_120_code 38 = .ok (.aload_n 3, 1) := by decide +kernel
theorem d25_39 : decode jdk_65_method_120_code 39 = .ok (.areturn, 1) := by decide +kernel
theorem rCp3_1 (l : Launch) (Z : State) (a0 : Array Value) (hw : ∀ d ∈ tables_1, d.before a0 Z = true) (ws : List Jvm.Cond) (xf : Addr) (xmr : Addr) (xk : ClassId) (xe0 : Addr) (h0 : Heap) (O0 : Ext Z.heap h0) (mm_ : oMir Z "[Ljava/lang/Object;" xmr) (E_xf : Exa Z h0 xf "[Ljava/lang/Object;") (V_xf : Arv Z h0 xf xk (.object "java/lang/Object") (10 : Int32) [(.ref xe0), .null, .null, .null, .null, .null, .null, .null, .null, .null] .null) (I_xe0 : Ins Z h0 xe0 "java/lang/Object" true) :
    oCon l Z yy23 jdk_65_method_120_code 4 (some (.array (.object "java/lang/Object"))) ws ({ frames := 1, cells := 1, slots := 1, locals := 18 } : Room) #[(.ref xf), (.int (1 : Int32)), (.ref xmr)] h0 (Q_rCp3_1 Z xf xmr xk xe0 h0) := by
  refine oCon.of (plainFor_of_name pn_11) ?_
  intro p e s m below meth c T X hx hby hml hown hnm hret hlk hZ e0
  have hml : c.maxLocals = 4 := hml
  have K : oKp h0 h0 [] [] := oKp.nil _ _
  refine oWk.cast (g' := (mkF m 0 #[rv xf, iv 1, rv xmr, uu] [])) (by first | rfl | (simp [entryFrame, mkF, argsToLocals, Value.category]; done)) ?_
  refine oWk.st (fun _ kt => XS.aloadN X.here hx rfl (hb hby d25_0) rfl rfl kt) ?_
  obtain ⟨T, X, e0, st⟩ := oLdcM X hx hZ hown (oW hw 171 rfl) e0 mm_ (g := (mkF m 1 #[rv xf, iv 1, rv xmr, uu] [(.ref xmr)])) rfl (hb hby d25_1)
  refine oWk.st st ?_
  refine oWk.st (fun _ kt => Jvm.RoadKit.acmp (g := (mkF m 3 #[rv xf, iv 1, rv xmr, uu] [(.ref xmr), (.ref xmr)])) X hx rfl rfl rfl (pc0 := 3) (pc' := 6) (same := true) rfl (hb hby d25_3) rfl (decide_eq_true rfl) (by decide) (by decide) kt) ?_
  show oWk _ _ _ _ T (mkF m 6 #[rv xf, iv 1, rv xmr, uu] [])
  refine oWk.st (fun _ kt => XS.iloadN X.here hx rfl (hb hby d25_6) rfl kt) ?_
  obtain ⟨o1, g1⟩ : ∃ z, z = h0.size := ⟨_, rfl⟩
  have ne_xf_o1 : xf ≠ o1 := Nat.ne_of_lt (Nat.lt_of_lt_of_le E_xf.lt (Nat.le_of_eq g1.symm))
  have ge_o1 : h0.size ≤ o1 := Nat.le_trans K.le (Nat.le_of_eq g1.symm)
  obtain ⟨T, h, k1, X, e0, E1, A1, E_o1, O1, st⟩ := newRE X hx hZ hown (oW hw 172 rfl) (oW hw 126 rfl) e0 (g := (mkF m 7 #[rv xf, iv 1, rv xmr, uu] [(.int 1)])) rfl (hb hby d25_7) rfl (by decide) (cap := 1) (by decide) (by decide) (by decide) (by decide) (ad := "[Ljava/lang/Object;") (by decide)
  rw [← g1] at A1 E_o1 st
  refine oWk.st st ?_
  have K := K.ext E1
  have V_o1 : Arv Z h o1 k1 (.object "java/lang/Object") (1 : Int32) [.null] .null := (Arv.new A1 (by decide)).pad (pad_rep [] .null 1)
  refine oWk.st (fun _ kt => XS.goto X.here hx rfl (pc0 := 10) (pc' := 24) rfl (hb hby d25_10) (by decide) (by decide) (XS.astoreN X.here hx rfl (hb hby d25_24) rfl rfl (l' := #[rv xf, iv 1, rv xmr, rv o1]) rfl (XS.aloadN X.here hx rfl (hb hby d25_25) rfl rfl (XS.iconst X.here hx rfl (hb hby d25_26) (XS.aloadN X.here hx rfl (hb hby d25_27) rfl rfl (XS.iconst X.here hx rfl (hb hby d25_28) (XS.aloadN X.here hx rfl (hb hby d25_29) rfl rfl kt))))))) ?_
  have V_xf := (V_xf.ext E1)
  obtain ⟨cl2, Ar2, q2, Sz2, Nn2, Hs2, Ft2⟩ := id V_xf
  refine oWk.st (fun _ kt => X.arraylength hx (by rw [e0]; exact Ar2.1) (State.isArrayOf_alike hZ.alike Ar2.2.1) (g := (mkF m 30 #[rv xf, iv 1, rv xmr, rv o1] [(.ref xf), (.int 0), (.ref o1), (.int 0), (.ref xf)])) rfl rfl (hb hby d25_30) _ kt) ?_
  rw [len_of Sz2 Nn2]
  refine oWk.st (fun _ kt => XS.iloadN X.here hx rfl (hb hby d25_31) rfl kt) ?_
  have Oh := K.old O0 all0
  obtain ⟨_, _, ⟨T, L4, k4, n4⟩, -, X, ⟨Lc4, hQ, l4, y4, z4⟩, st⟩ := Jvm.LawKit.callS X hx (y := yy22) hown (mvT hZ (oW hw 173 rfl)) (mvT hZ (oW hw 174 rfl)) (mvT hZ (oW hw 123 rfl)) (mvT hZ (oW hw 175 rfl)) (by decide) (backOf (W := 4) (rMin1 l Z a0 hw []  h Oh ) hZ (oW hw 175 rfl) (oW hw 123 rfl) (by decide) (by decide)) (g := (mkF m 32 #[rv xf, iv 1, rv xmr, rv o1] [(.int 1), (.int 10), (.int 0), (.ref o1), (.int 0), (.ref xf)])) rfl (by rw [hml]; rfl) (argsL := [(.int (10 : Int32)), (.int (1 : Int32))]) (rest := [(.int (0 : Int32)), (.ref o1), (.int (0 : Int32)), (.ref xf)]) (lenOf pd_9 rfl) rfl (Nat.le_of_eq rfl) (hb hby d25_32) (fun _ _ => ⟨rfl, e0, (by decide : 1 + 0 ≤ _), (by decide : 1 + 0 ≤ _)⟩)
  dsimp only [Pt.U, Pt.locs, Pt.cells, Pt.slots] at X l4 y4 z4 st hQ
  subst l4 y4 z4
  obtain ⟨rfl, e0, K3⟩ := hQ
  have K := K.call K3 all0
  rw [e0] at K
  refine oWk.st st ?_
  obtain ⟨cl5, Ar5, q5, -⟩ := id V_o1
  have I_xe0 := (I_xe0.ext E1)
  obtain ⟨T, h, L5, X, e0, N5, C5, V5, st⟩ := cpA X hx hZ hown (oW hw 176 rfl) (oW hw 179 rfl) (oW hw 177 rfl) (oW hw 178 rfl) e0 (us := [(.ref xe0)]) V_xf V_o1 (Or.inr ⟨rfl, rfl, ⟨Sto.ofV Ar5 q5 O1 I_xe0, trivial⟩⟩) (by decide) (by decide) (by decide) (by decide) (by decide) rfl (by decide) K.fr ge_o1 (g := (mkF m 35 #[rv xf, iv 1, rv xmr, rv o1] [(.int 1), (.int 0), (.ref o1), (.int 0), (.ref xf)])) rfl (by rw [hml]; rfl) rfl (hb hby d25_35) (by decide) (W := 0) (Nat.le_of_eq rfl) (by decide)
  refine oWk.st st ?_
  have K : oKp h0 h [] L5 := ⟨K.1.trans C5 (allS (Or.inr ge_o1) all0), fun y hy => Or.inr (N5 y hy)⟩
  have V_o1 : Arv Z h o1 k1 (.object "java/lang/Object") (1 : Int32) [(.ref xe0)] .null := V5
  refine oWk.st (fun _ kt => XS.aloadN X.here hx rfl (hb hby d25_38) rfl rfl kt) ?_
  show oWk _ _ _ _ T (mkF m 39 #[rv xf, iv 1, rv xmr, rv o1] [(.ref o1)])
  have E_o1 := (E_o1.keep C5)
  exact oRetA X hx hlk hret rfl rfl (hb hby d25_39) (by rw [e0]; exact ⟨o1, k1, rfl, K, ge_o1, E_o1, V_o1, O1⟩) (by decide) (by decide)
def Q_rCp2_1 (Z : State) (xf : Addr) (xmr : Addr) (xk : ClassId) (xe0 : Addr) (h0 : Heap) (v : Option Value) (h : Heap) (L : List Loc) : Prop := ∃ (nb : Addr) (nj : ClassId), v = some (.ref nb) ∧ oKp h0 h [] L ∧ (h0.size ≤ nb) ∧ (Exa Z h nb "[Ljava/lang/Object;") ∧ (Arv Z h nb nj (.object "java/lang/Object") (1 : Int32) [(.ref xe0)] .null) ∧ (Ovr Z nj "java/lang/Object")
abbrev yy24 : MethodName := ⟨"java/util/Arrays", "copyOf", "([Ljava/lang/Object;I)[Ljava/lang/Object;"⟩
theorem d24_0 : decode jdk_65_method_119_code 0 = .ok (.aload_n 0, 1) := by decide +kernel
theorem d24_1 : decode jdk_65_method_119_code 1 = .ok (.iload_n 1, 1) := by decide +kernel
theorem d24_2 : decode jdk_65_method_119_code 2 = .ok (.aload_n 0, 1) := by decide +kernel
theorem d24_3 : decode jdk_65_method_119_code 3 = .ok (.invokevirtual 86, 3) := by decide +kernel
theorem d24_6 : decode jdk_65_method_119_code 6 = .ok (.invokestatic 300, 3) := by decide +kernel
theorem pd_14 : parseMethodDescriptor "([Ljava/lang/Object;ILjava/lang/Class;)[Ljava/lang/Object;" = some ⟨[(.array (.object "java/lang/Object")), .int, (.object "java/lang/Class")], some (.array (.object "java/lang/Object"))⟩ := by decide +kernel
theorem d24_9 : decode jdk_65_method_119_code 9 = .ok (.areturn, 1) := by decide +kernel
theorem rCp2_1 (l : Launch) (Z : State) (a0 : Array Value) (hw : ∀ d ∈ tables_1, d.before a0 Z = true) (ws : List Jvm.Cond) (xf : Addr) (xmr : Addr) (xk : ClassId) (xe0 : Addr) (h0 : Heap) (O0 : Ext Z.heap h0) (mm_ : oMir Z "[Ljava/lang/Object;" xmr) (E_xf : Exa Z h0 xf "[Ljava/lang/Object;") (V_xf : Arv Z h0 xf xk (.object "java/lang/Object") (10 : Int32) [(.ref xe0), .null, .null, .null, .null, .null, .null, .null, .null, .null] .null) (I_xe0 : Ins Z h0 xe0 "java/lang/Object" true) :
    oCon l Z yy24 jdk_65_method_119_code 2 (some (.array (.object "java/lang/Object"))) ws ({ frames := 2, cells := 1, slots := 1, locals := 33 } : Room) #[(.ref xf), (.int (1 : Int32))] h0 (Q_rCp2_1 Z xf xmr xk xe0 h0) := by
  refine oCon.of (plainFor_of_name pn_11) ?_
  intro p e s m below meth c T X hx hby hml hown hnm hret hlk hZ e0
  have hml : c.maxLocals = 2 := hml
  have K : oKp h0 h0 [] [] := oKp.nil _ _
  refine oWk.cast (g' := (mkF m 0 #[rv xf, iv 1] [])) (by first | rfl | (simp [entryFrame, mkF, argsToLocals, Value.category]; done)) ?_
  refine oWk.st (fun _ kt => XS.aloadN X.here hx rfl (hb hby d24_0) rfl rfl (XS.iloadN X.here hx rfl (hb hby d24_1) rfl (XS.aloadN X.here hx rfl (hb hby d24_2) rfl rfl kt))) ?_
  obtain ⟨T, X, e0, st⟩ := oGcls X hx hZ hown (oW hw 162 rfl) (oW hw 163 rfl) (oW hw 165 rfl) (oW hw 164 rfl) (oW hw 166 rfl) e0 E_xf mm_ (g := (mkF m 3 #[rv xf, iv 1] [(.ref xf), (.int 1), (.ref xf)])) rfl (by rw [hml]; rfl) rfl (hb hby d24_3) (by decide) (W := 2) (Nat.le_of_eq rfl) (by decide)
  refine oWk.st st ?_
  have lt_xf := E_xf.lt
  have Oh := K.old O0 all0
  obtain ⟨_, _, ⟨T, L2, k2, n2⟩, -, X, ⟨Lc2, hQ, l2, y2, z2⟩, st⟩ := Jvm.LawKit.callS X hx (y := yy23) hown (mvT hZ (oW hw 168 rfl)) (mvT hZ (oW hw 169 rfl)) (mvT hZ (oW hw 160 rfl)) (mvT hZ (oW hw 170 rfl)) (by decide) (backOf (W := 0) (rCp3_1 l Z a0 hw [] xf xmr xk xe0 h0 Oh mm_ E_xf V_xf I_xe0) hZ (oW hw 170 rfl) (oW hw 160 rfl) (by decide) (by decide)) (g := (mkF m 6 #[rv xf, iv 1] [(.ref xmr), (.int 1), (.ref xf)])) rfl (by rw [hml]; rfl) (argsL := [(.ref xf), (.int (1 : Int32)), (.ref xmr)]) (rest := []) (lenOf pd_14 rfl) rfl (Nat.le_of_eq rfl) (hb hby d24_6) (fun _ _ => ⟨rfl, e0, (by decide : 0 + 1 ≤ _), (by decide : 0 + 1 ≤ _)⟩)
  dsimp only [Pt.U, Pt.locs, Pt.cells, Pt.slots] at X l2 y2 z2 st hQ
  subst l2 y2 z2
  obtain ⟨h, e0⟩ : ∃ z, T.heap = z := ⟨_, rfl⟩
  rw [e0] at hQ
  obtain ⟨nb1, nj1, rfl, K1, gn_nb1, E_nb1, V_nb1, ov_nj1⟩ := hQ
  have ge_nb1 := Nat.le_trans K.le gn_nb1
  have ne_xf_nb1 : xf ≠ nb1 := Nat.ne_of_lt (Nat.lt_of_lt_of_le lt_xf gn_nb1)
  have K := K.call K1 all0
  refine oWk.st st ?_
  exact oRetA X hx hlk hret rfl rfl (hb hby d24_9) (by rw [e0]; exact ⟨nb1, nj1, rfl, K, ge_nb1, E_nb1, V_nb1, ov_nj1⟩) (by decide) (by decide)
def Q_rTA_1 (Z : State) (xa : Addr) (xf : Addr) (xmr : Addr) (xk : ClassId) (xe0 : Addr) (h0 : Heap) (v : Option Value) (h : Heap) (L : List Loc) : Prop := ∃ (nb : Addr) (nj : ClassId), v = some (.ref nb) ∧ oKp h0 h [] L ∧ (h0.size ≤ nb) ∧ (Exa Z h nb "[Ljava/lang/Object;") ∧ (Arv Z h nb nj (.object "java/lang/Object") (1 : Int32) [(.ref xe0)] .null) ∧ (Ovr Z nj "java/lang/Object")
abbrev yy25 : MethodName := ⟨"java/util/ArrayList", "toArray", "()[Ljava/lang/Object;"⟩
theorem d23_0 : decode jdk_38_method_16_code 0 = .ok (.aload_n 0, 1) := by decide +kernel
theorem d23_1 : decode jdk_38_method_16_code 1 = .ok (.getfield 9, 3) := by decide +kernel
theorem d23_4 : decode jdk_38_method_16_code 4 = .ok (.aload_n 0, 1) := by decide +kernel
theorem d23_5 : decode jdk_38_method_16_code 5 = .ok (.getfield 48, 3) := by decide +kernel
theorem d23_8 : decode jdk_38_method_16_code 8 = .ok (.invokestatic 66, 3) := by decide +kernel
theorem pd_15 : parseMethodDescriptor "([Ljava/lang/Object;I)[Ljava/lang/Object;" = some ⟨[(.array (.object "java/lang/Object")), .int], some (.array (.object "java/lang/Object"))⟩ := by decide +kernel
theorem d23_11 : decode jdk_38_method_16_code 11 = .ok (.areturn, 1) := by decide +kernel
theorem rTA_1 (l : Launch) (Z : State) (a0 : Array Value) (hw : ∀ d ∈ tables_1, d.before a0 Z = true) (ws : List Jvm.Cond) (xa : Addr) (xf : Addr) (xmr : Addr) (xk : ClassId) (xe0 : Addr) (h0 : Heap) (O0 : Ext Z.heap h0) (mm_ : oMir Z "[Ljava/lang/Object;" xmr) (F_elementData_xa : Fld Z h0 xa "java/util/ArrayList" "elementData" "[Ljava/lang/Object;" (.ref xf)) (F_size_xa : Fld Z h0 xa "java/util/ArrayList" "size" "I" (.int (1 : Int32))) (E_xf : Exa Z h0 xf "[Ljava/lang/Object;") (V_xf : Arv Z h0 xf xk (.object "java/lang/Object") (10 : Int32) [(.ref xe0), .null, .null, .null, .null, .null, .null, .null, .null, .null] .null) (I_xe0 : Ins Z h0 xe0 "java/lang/Object" true) :
    oCon l Z yy25 jdk_38_method_16_code 1 (some (.array (.object "java/lang/Object"))) ws ({ frames := 3, cells := 1, slots := 1, locals := 46 } : Room) #[(.ref xa)] h0 (Q_rTA_1 Z xa xf xmr xk xe0 h0) := by
  refine oCon.of (plainFor_of_name pn_7) ?_
  intro p e s m below meth c T X hx hby hml hown hnm hret hlk hZ e0
  have hml : c.maxLocals = 1 := hml
  have K : oKp h0 h0 [] [] := oKp.nil _ _
  refine oWk.cast (g' := (mkF m 0 #[rv xa] [])) (by first | rfl | (simp [entryFrame, mkF, argsToLocals, Value.category]; done)) ?_
  refine oWk.st (fun _ kt => XS.aloadN X.here hx rfl (hb hby d23_0) rfl rfl kt) ?_
  obtain ⟨T, X, e0, st⟩ := getF X hx hZ hown (host := "") (Or.inl (oW hw 48 rfl)) Via.refl e0 F_elementData_xa (g := (mkF m 1 #[rv xa] [(.ref xa)])) rfl rfl (hb hby d23_1)
  refine oWk.st st ?_
  refine oWk.st (fun _ kt => XS.aloadN X.here hx rfl (hb hby d23_4) rfl rfl kt) ?_
  obtain ⟨T, X, e0, st⟩ := getF X hx hZ hown (host := "") (Or.inl (oW hw 85 rfl)) Via.refl e0 F_size_xa (g := (mkF m 5 #[rv xa] [(.ref xa), (.ref xf)])) rfl rfl (hb hby d23_5)
  refine oWk.st st ?_
  have lt_xa := F_elementData_xa.lt
  have lt_xf := E_xf.lt
  have Oh := K.old O0 all0
  obtain ⟨_, _, ⟨T, L2, k2, n2⟩, -, X, ⟨Lc2, hQ, l2, y2, z2⟩, st⟩ := Jvm.LawKit.callS X hx (y := yy24) hown (mvT hZ (oW hw 158 rfl)) (mvT hZ (oW hw 159 rfl)) (mvT hZ (oW hw 160 rfl)) (mvT hZ (oW hw 161 rfl)) (by decide) (backOf (W := 0) (rCp2_1 l Z a0 hw [] xf xmr xk xe0 h0 Oh mm_ E_xf V_xf I_xe0) hZ (oW hw 161 rfl) (oW hw 160 rfl) (by decide) (by decide)) (g := (mkF m 8 #[rv xa] [(.int 1), (.ref xf)])) rfl (by rw [hml]; rfl) (argsL := [(.ref xf), (.int (1 : Int32))]) (rest := []) (lenOf pd_15 rfl) rfl (Nat.le_of_eq rfl) (hb hby d23_8) (fun _ _ => ⟨rfl, e0, (by decide : 0 + 1 ≤ _), (by decide : 0 + 1 ≤ _)⟩)
  dsimp only [Pt.U, Pt.locs, Pt.cells, Pt.slots] at X l2 y2 z2 st hQ
  subst l2 y2 z2
  obtain ⟨h, e0⟩ : ∃ z, T.heap = z := ⟨_, rfl⟩
  rw [e0] at hQ
  obtain ⟨nb1, nj1, rfl, K1, gn_nb1, E_nb1, V_nb1, ov_nj1⟩ := hQ
  have ge_nb1 := Nat.le_trans K.le gn_nb1
  have ne_xa_nb1 : xa ≠ nb1 := Nat.ne_of_lt (Nat.lt_of_lt_of_le lt_xa gn_nb1)
  have ne_xf_nb1 : xf ≠ nb1 := Nat.ne_of_lt (Nat.lt_of_lt_of_le lt_xf gn_nb1)
  have K := K.call K1 all0
  refine oWk.st st ?_
  exact oRetA X hx hlk hret rfl rfl (hb hby d23_11) (by rw [e0]; exact ⟨nb1, nj1, rfl, K, ge_nb1, E_nb1, V_nb1, ov_nj1⟩) (by decide) (by decide)
def Q_rAIC (Z : State) (xa : Addr) (h0 : Heap) (v : Option Value) (h : Heap) (L : List Loc) : Prop := v = none ∧ h = h0 ∧ oKp h0 h [] L
theorem pn_12 : plainName "java/util/ImmutableCollections$AbstractImmutableCollection" = true := by first | (simp [plainName, overriddenIn]; done) | decide +kernel
abbrev yy26 : MethodName := ⟨"java/util/ImmutableCollections$AbstractImmutableCollection", "<init>", "()V"⟩
theorem d30_0 : decode jdk_47_method_1_code 0 = .ok (.aload_n 0, 1) := by decide +kernel
theorem d30_1 : decode jdk_47_method_1_code 1 = .ok (.invokespecial 1, 3) := by decide +kernel
theorem d30_4 : decode jdk_47_method_1_code 4 = .ok (.return_, 1) := by decide +kernel
theorem rAIC (l : Launch) (Z : State) (a0 : Array Value) (hw : ∀ d ∈ tables_1, d.before a0 Z = true) (ws : List Jvm.Cond) (xa : Addr) (h0 : Heap) (O0 : Ext Z.heap h0)  :
    oCon l Z yy26 jdk_47_method_1_code 1 none ws ({ frames := 2, cells := 0, slots := 0, locals := 24 } : Room) #[(.ref xa)] h0 (Q_rAIC Z xa h0) := by
  refine oCon.of (plainFor_of_name pn_12) ?_
  intro p e s m below meth c T X hx hby hml hown hnm hret hlk hZ e0
  have hml : c.maxLocals = 1 := hml
  have K : oKp h0 h0 [] [] := oKp.nil _ _
  refine oWk.cast (g' := (mkF m 0 #[rv xa] [])) (by first | rfl | (simp [entryFrame, mkF, argsToLocals, Value.category]; done)) ?_
  refine oWk.st (fun _ kt => XS.aloadN X.here hx rfl (hb hby d30_0) rfl rfl kt) ?_
  have Oh := K.old O0 all0
  obtain ⟨_, _, ⟨T, L2, k2, n2⟩, -, X, ⟨Lc2, hQ, l2, y2, z2⟩, st⟩ := X.specialBack hx (y := yy8) rfl hown (mvT hZ (oW hw 202 rfl)) (mvT hZ (oW hw 39 rfl)) (mvT hZ (oW hw 43 rfl)) (by decide) (backOf (W := 0) (rABC l Z a0 hw [] xa h0 Oh ) hZ (oW hw 43 rfl) (oW hw 42 rfl) (by decide) (by decide)) (g := (mkF m 1 #[rv xa] [(.ref xa)])) rfl (by rw [hml]; rfl) (Steps.refl _) (a := xa) (argsL := []) (rest := []) (lenOf pd_3 rfl) rfl (Nat.le_of_eq rfl) (hb hby d30_1) (fun _ _ => ⟨rfl, e0, (by decide : 0 + 0 ≤ _), (by decide : 0 + 0 ≤ _)⟩)
  dsimp only [Pt.U, Pt.locs, Pt.cells, Pt.slots] at X l2 y2 z2 st hQ
  subst l2 y2 z2
  obtain ⟨rfl, e0, K1⟩ := hQ
  have K := K.call K1 all0
  rw [e0] at K
  refine oWk.tr st ?_
  exact oRetV X hx hlk hret (hb hby d30_4) (by rw [e0]; exact ⟨rfl, rfl, K⟩) (by decide) (by decide)
def Q_rAIL (Z : State) (xa : Addr) (h0 : Heap) (v : Option Value) (h : Heap) (L : List Loc) : Prop := v = none ∧ h = h0 ∧ oKp h0 h [] L
theorem pn_13 : plainName "java/util/ImmutableCollections$AbstractImmutableList" = true := by first | (simp [plainName, overriddenIn]; done) | decide +kernel
abbrev yy27 : MethodName := ⟨"java/util/ImmutableCollections$AbstractImmutableList", "<init>", "()V"⟩
theorem d29_0 : decode jdk_46_method_1_code 0 = .ok (.aload_n 0, 1) := by decide +kernel
theorem d29_1 : decode jdk_46_method_1_code 1 = .ok (.invokespecial 1, 3) := by decide +kernel
theorem d29_4 : decode jdk_46_method_1_code 4 = .ok (.return_, 1) := by decide +kernel
theorem rAIL (l : Launch) (Z : State) (a0 : Array Value) (hw : ∀ d ∈ tables_1, d.before a0 Z = true) (ws : List Jvm.Cond) (xa : Addr) (h0 : Heap) (O0 : Ext Z.heap h0)  :
    oCon l Z yy27 jdk_46_method_1_code 1 none ws ({ frames := 3, cells := 0, slots := 0, locals := 36 } : Room) #[(.ref xa)] h0 (Q_rAIL Z xa h0) := by
  refine oCon.of (plainFor_of_name pn_13) ?_
  intro p e s m below meth c T X hx hby hml hown hnm hret hlk hZ e0
  have hml : c.maxLocals = 1 := hml
  have K : oKp h0 h0 [] [] := oKp.nil _ _
  refine oWk.cast (g' := (mkF m 0 #[rv xa] [])) (by first | rfl | (simp [entryFrame, mkF, argsToLocals, Value.category]; done)) ?_
  refine oWk.st (fun _ kt => XS.aloadN X.here hx rfl (hb hby d29_0) rfl rfl kt) ?_
  have Oh := K.old O0 all0
  obtain ⟨_, _, ⟨T, L2, k2, n2⟩, -, X, ⟨Lc2, hQ, l2, y2, z2⟩, st⟩ := X.specialBack hx (y := yy26) rfl hown (mvT hZ (oW hw 196 rfl)) (mvT hZ (oW hw 197 rfl)) (mvT hZ (oW hw 201 rfl)) (by decide) (backOf (W := 0) (rAIC l Z a0 hw [] xa h0 Oh ) hZ (oW hw 201 rfl) (oW hw 200 rfl) (by decide) (by decide)) (g := (mkF m 1 #[rv xa] [(.ref xa)])) rfl (by rw [hml]; rfl) (Steps.refl _) (a := xa) (argsL := []) (rest := []) (lenOf pd_3 rfl) rfl (Nat.le_of_eq rfl) (hb hby d29_1) (fun _ _ => ⟨rfl, e0, (by decide : 0 + 0 ≤ _), (by decide : 0 + 0 ≤ _)⟩)
  dsimp only [Pt.U, Pt.locs, Pt.cells, Pt.slots] at X l2 y2 z2 st hQ
  subst l2 y2 z2
  obtain ⟨rfl, e0, K1⟩ := hQ
  have K := K.call K1 all0
  rw [e0] at K
  refine oWk.tr st ?_
  exact oRetV X hx hlk hret (hb hby d29_4) (by rw [e0]; exact ⟨rfl, rfl, K⟩) (by decide) (by decide)
def Q_rRNN (Z : State) (xx : Addr) (h0 : Heap) (v : Option Value) (h : Heap) (L : List Loc) : Prop := v = some (.ref xx) ∧ h = h0 ∧ oKp h0 h [] L
theorem pn_14 : plainName "java/util/Objects" = true := by first | (simp [plainName, overriddenIn]; done) | decide +kernel
abbrev yy28 : MethodName := ⟨"java/util/Objects", "requireNonNull", "(Ljava/lang/Object;)Ljava/lang/Object;"⟩
theorem d31_0 : decode jdk_31_method_10_code 0 = .ok (.aload_n 0, 1) := by decide +kernel
theorem d31_1 : decode jdk_31_method_10_code 1 = .ok (.ifnonnull 11, 3) := by decide +kernel
theorem d31_12 : decode jdk_31_method_10_code 12 = .ok (.aload_n 0, 1) := by decide +kernel
theorem d31_13 : decode jdk_31_method_10_code 13 = .ok (.areturn, 1) := by decide +kernel
theorem rRNN (l : Launch) (Z : State) (a0 : Array Value) (hw : ∀ d ∈ tables_1, d.before a0 Z = true) (ws : List Jvm.Cond) (xx : Addr) (h0 : Heap) (O0 : Ext Z.heap h0)  :
    oCon l Z yy28 jdk_31_method_10_code 1 (some (.object "java/lang/Object")) ws ({ frames := 0, cells := 0, slots := 0, locals := 0 } : Room) #[(.ref xx)] h0 (Q_rRNN Z xx h0) := by
  refine oCon.of (plainFor_of_name pn_14) ?_
  intro p e s m below meth c T X hx hby hml hown hnm hret hlk hZ e0
  have hml : c.maxLocals = 1 := hml
  have K : oKp h0 h0 [] [] := oKp.nil _ _
  refine oWk.cast (g' := (mkF m 0 #[rv xx] [])) (by first | rfl | (simp [entryFrame, mkF, argsToLocals, Value.category]; done)) ?_
  refine oWk.st (fun _ kt => XS.aloadN X.here hx rfl (hb hby d31_0) rfl rfl (XS.ifnonnullYes X.here hx rfl (pc0 := 1) (pc' := 12) rfl (hb hby d31_1) rfl (by decide) (by decide) (XS.aloadN X.here hx rfl (hb hby d31_12) rfl rfl kt))) ?_
  show oWk _ _ _ _ T (mkF m 13 #[rv xx] [(.ref xx)])
  exact oRetA X hx hlk hret rfl rfl (hb hby d31_13) (by rw [e0]; exact ⟨rfl, rfl, K⟩) (by decide) (by decide)
def Q_rL121 (Z : State) (xa : Addr) (xx : Addr) (xq : Addr) (xu : Value) (xv : Value) (h0 : Heap) (v : Option Value) (h : Heap) (L : List Loc) : Prop := v = none ∧ oKp h0 h [xa] L ∧ (Exa Z h xa "java/util/ImmutableCollections$List12") ∧ (Fld Z h xa "java/util/ImmutableCollections$List12" "e0" "Ljava/lang/Object;" (.ref xx)) ∧ (Fld Z h xa "java/util/ImmutableCollections$List12" "e1" "Ljava/lang/Object;" (.ref xq))
theorem pn_15 : plainName "java/util/ImmutableCollections$List12" = true := by first | (simp [plainName, overriddenIn]; done) | decide +kernel
abbrev yy29 : MethodName := ⟨"java/util/ImmutableCollections$List12", "<init>", "(Ljava/lang/Object;)V"⟩
theorem d28_0 : decode jdk_44_method_1_code 0 = .ok (.aload_n 0, 1) := by decide +kernel
theorem d28_1 : decode jdk_44_method_1_code 1 = .ok (.invokespecial 1, 3) := by decide +kernel
theorem d28_4 : decode jdk_44_method_1_code 4 = .ok (.aload_n 0, 1) := by decide +kernel
theorem d28_5 : decode jdk_44_method_1_code 5 = .ok (.aload_n 1, 1) := by decide +kernel
theorem d28_6 : decode jdk_44_method_1_code 6 = .ok (.invokestatic 7, 3) := by decide +kernel
theorem pd_16 : parseMethodDescriptor "(Ljava/lang/Object;)Ljava/lang/Object;" = some ⟨[(.object "java/lang/Object")], some (.object "java/lang/Object")⟩ := by decide +kernel
theorem d28_9 : decode jdk_44_method_1_code 9 = .ok (.putfield 13, 3) := by decide +kernel
theorem d28_12 : decode jdk_44_method_1_code 12 = .ok (.aload_n 0, 1) := by decide +kernel
theorem d28_13 : decode jdk_44_method_1_code 13 = .ok (.getstatic 19, 3) := by decide +kernel
theorem d28_16 : decode jdk_44_method_1_code 16 = .ok (.putfield 24, 3) := by decide +kernel
theorem d28_19 : decode jdk_44_method_1_code 19 = .ok (.return_, 1) := by decide +kernel
theorem rL121 (l : Launch) (Z : State) (a0 : Array Value) (hw : ∀ d ∈ tables_1, d.before a0 Z = true) (ws : List Jvm.Cond) (xa : Addr) (xx : Addr) (xq : Addr) (xu : Value) (xv : Value) (h0 : Heap) (O0 : Ext Z.heap h0) (S_EMPTY : Sta Z Z.heap "java/util/ImmutableCollections" "EMPTY" "Ljava/lang/Object;" (.ref xq)) (og_xa : Z.heap.size ≤ xa) (E_xa : Exa Z h0 xa "java/util/ImmutableCollections$List12") (F_e0_xa : Fld Z h0 xa "java/util/ImmutableCollections$List12" "e0" "Ljava/lang/Object;" xu) (F_e1_xa : Fld Z h0 xa "java/util/ImmutableCollections$List12" "e1" "Ljava/lang/Object;" xv) :
    oCon l Z yy29 jdk_44_method_1_code 2 none ws ({ frames := 4, cells := 0, slots := 0, locals := 48 } : Room) #[(.ref xa), (.ref xx)] h0 (Q_rL121 Z xa xx xq xu xv h0) := by
  refine oCon.of (plainFor_of_name pn_15) ?_
  intro p e s m below meth c T X hx hby hml hown hnm hret hlk hZ e0
  have hml : c.maxLocals = 2 := hml
  have K : oKp h0 h0 [xa] [] := oKp.nil _ _
  refine oWk.cast (g' := (mkF m 0 #[rv xa, rv xx] [])) (by first | rfl | (simp [entryFrame, mkF, argsToLocals, Value.category]; done)) ?_
  refine oWk.st (fun _ kt => XS.aloadN X.here hx rfl (hb hby d28_0) rfl rfl kt) ?_
  have Oh := K.old O0 (allS og_xa all0)
  obtain ⟨_, _, ⟨T, L2, k2, n2⟩, -, X, ⟨Lc2, hQ, l2, y2, z2⟩, st⟩ := X.specialBack hx (y := yy27) rfl hown (mvT hZ (oW hw 190 rfl)) (mvT hZ (oW hw 191 rfl)) (mvT hZ (oW hw 195 rfl)) (by decide) (backOf (W := 0) (rAIL l Z a0 hw [] xa h0 Oh ) hZ (oW hw 195 rfl) (oW hw 194 rfl) (by decide) (by decide)) (g := (mkF m 1 #[rv xa, rv xx] [(.ref xa)])) rfl (by rw [hml]; rfl) (Steps.refl _) (a := xa) (argsL := []) (rest := []) (lenOf pd_3 rfl) rfl (Nat.le_of_eq rfl) (hb hby d28_1) (fun _ _ => ⟨rfl, e0, (by decide : 0 + 0 ≤ _), (by decide : 0 + 0 ≤ _)⟩)
  dsimp only [Pt.U, Pt.locs, Pt.cells, Pt.slots] at X l2 y2 z2 st hQ
  subst l2 y2 z2
  obtain ⟨rfl, e0, K1⟩ := hQ
  have K := K.call K1 all0
  rw [e0] at K
  refine oWk.tr st ?_
  refine oWk.st (fun _ kt => XS.aloadN X.here hx rfl (hb hby d28_4) rfl rfl (XS.aloadN X.here hx rfl (hb hby d28_5) rfl rfl kt)) ?_
  have Oh := K.old O0 (allS og_xa all0)
  obtain ⟨_, _, ⟨T, L4, k4, n4⟩, -, X, ⟨Lc4, hQ, l4, y4, z4⟩, st⟩ := Jvm.LawKit.callS X hx (y := yy28) hown (mvT hZ (oW hw 204 rfl)) (mvT hZ (oW hw 205 rfl)) (mvT hZ (oW hw 206 rfl)) (mvT hZ (oW hw 207 rfl)) (by decide) (backOf (W := 1) (rRNN l Z a0 hw [] xx h0 Oh ) hZ (oW hw 207 rfl) (oW hw 206 rfl) (by decide) (by decide)) (g := (mkF m 6 #[rv xa, rv xx] [(.ref xx), (.ref xa)])) rfl (by rw [hml]; rfl) (argsL := [(.ref xx)]) (rest := [(.ref xa)]) (lenOf pd_16 rfl) rfl (Nat.le_of_eq rfl) (hb hby d28_6) (fun _ _ => ⟨rfl, e0, (by decide : 0 + 0 ≤ _), (by decide : 0 + 0 ≤ _)⟩)
  dsimp only [Pt.U, Pt.locs, Pt.cells, Pt.slots] at X l4 y4 z4 st hQ
  subst l4 y4 z4
  obtain ⟨rfl, e0, K3⟩ := hQ
  have K := K.call K3 all0
  rw [e0] at K
  refine oWk.st st ?_
  obtain ⟨T, h, X, e0, W5, st⟩ := putF X hx hZ hown (host := "") (Or.inl (oW hw 208 rfl)) Via.refl e0 F_e0_xa E_xa (Or.inr ⟨(oW hw 209 rfl), rfl, hnm⟩) (oW hw 184 rfl) (ty := (.object "java/lang/Object")) (by decide) rfl rfl (g := (mkF m 9 #[rv xa, rv xx] [(.ref xx), (.ref xa)])) rfl rfl (hb hby d28_9)
  refine oWk.st st ?_
  have K := K.wr W5 (Or.inl (List.mem_of_getElem? (i := 0) rfl))
  have F_e0_xa := F_e0_xa.same W5
  refine oWk.st (fun _ kt => XS.aloadN X.here hx rfl (hb hby d28_12) rfl rfl kt) ?_
  have Oh := K.old O0 (allS og_xa all0)
  obtain ⟨T, X, e0, st⟩ := getS2 X hx hZ hown (Or.inr (oW hw 210 rfl)) Via.refl e0 (S_EMPTY.ext Oh) (g := (mkF m 13 #[rv xa, rv xx] [(.ref xa)])) rfl (hb hby d28_13)
  refine oWk.st st ?_
  have E_xa := (E_xa.wr W5)
  have F_e1_xa := (F_e1_xa.other W5 (Or.inr (slot_ne (Or.inr (oW hw 212 rfl)) (Or.inr (oW hw 209 rfl)) (by decide) (t := (.object "java/lang/Object")) (t' := (.object "java/lang/Object")) (by decide) (by decide))))
  obtain ⟨T, h, X, e0, W6, st⟩ := putF X hx hZ hown (host := "") (Or.inl (oW hw 211 rfl)) Via.refl e0 F_e1_xa E_xa (Or.inr ⟨(oW hw 212 rfl), rfl, hnm⟩) (oW hw 184 rfl) (ty := (.object "java/lang/Object")) (by decide) rfl rfl (g := (mkF m 16 #[rv xa, rv xx] [(.ref xq), (.ref xa)])) rfl rfl (hb hby d28_16)
  refine oWk.st st ?_
  have K := K.wr W6 (Or.inl (List.mem_of_getElem? (i := 0) rfl))
  have F_e1_xa := F_e1_xa.same W6
  have E_xa := (E_xa.wr W6)
  have F_e0_xa := (F_e0_xa.other W6 (Or.inr (slot_ne (Or.inr (oW hw 209 rfl)) (Or.inr (oW hw 212 rfl)) (by decide) (t := (.object "java/lang/Object")) (t' := (.object "java/lang/Object")) (by decide) (by decide))))
  exact oRetV X hx hlk hret (hb hby d28_19) (by rw [e0]; exact ⟨rfl, K, E_xa, F_e0_xa, F_e1_xa⟩) (by decide) (by decide)
def Q_rOf_1 (Z : State) (xf : Addr) (xk : ClassId) (xq : Addr) (xe0 : Addr) (h0 : Heap) (v : Option Value) (h : Heap) (L : List Loc) : Prop := ∃ (nl : Addr), v = some (.ref nl) ∧ oKp h0 h [] L ∧ (h0.size ≤ nl) ∧ (Exa Z h nl "java/util/ImmutableCollections$List12") ∧ (Fld Z h nl "java/util/ImmutableCollections$List12" "e0" "Ljava/lang/Object;" (.ref xe0)) ∧ (Fld Z h nl "java/util/ImmutableCollections$List12" "e1" "Ljava/lang/Object;" (.ref xq))
abbrev yy30 : MethodName := ⟨"java/util/List", "of", "([Ljava/lang/Object;)Ljava/util/List;"⟩
theorem d27_0 : decode jdk_40_method_47_code 0 = .ok (.aload_n 0, 1) := by decide +kernel
theorem d27_1 : decode jdk_40_method_47_code 1 = .ok (.arraylength, 1) := by decide +kernel
theorem d27_2 : decode jdk_40_method_47_code 2 = .ok (.tableswitch 57 0 2 #[26, 32, 43], 26) := by decide +kernel
theorem d27_34 : decode jdk_40_method_47_code 34 = .ok (.new 96, 3) := by decide +kernel
theorem d27_37 : decode jdk_40_method_47_code 37 = .ok (.dup, 1) := by decide +kernel
theorem d27_38 : decode jdk_40_method_47_code 38 = .ok (.aload_n 0, 1) := by decide +kernel
theorem d27_39 : decode jdk_40_method_47_code 39 = .ok (.iconst 0, 1) := by decide +kernel
theorem d27_40 : decode jdk_40_method_47_code 40 = .ok (.aaload, 1) := by decide +kernel
theorem d27_41 : decode jdk_40_method_47_code 41 = .ok (.invokespecial 98, 3) := by decide +kernel
theorem pd_17 : parseMethodDescriptor "(Ljava/lang/Object;)V" = some ⟨[(.object "java/lang/Object")], none⟩ := by decide +kernel
theorem d27_44 : decode jdk_40_method_47_code 44 = .ok (.areturn, 1) := by decide +kernel
theorem rOf_1 (l : Launch) (Z : State) (a0 : Array Value) (hw : ∀ d ∈ tables_1, d.before a0 Z = true) (ws : List Jvm.Cond) (xf : Addr) (xk : ClassId) (xq : Addr) (xe0 : Addr) (h0 : Heap) (O0 : Ext Z.heap h0) (S_EMPTY : Sta Z Z.heap "java/util/ImmutableCollections" "EMPTY" "Ljava/lang/Object;" (.ref xq)) (V_xf : Arv Z h0 xf xk (.object "java/lang/Object") (1 : Int32) [(.ref xe0)] .null) (I_xe0 : Ins Z h0 xe0 "java/lang/Object" true) :
    oCon l Z yy30 jdk_40_method_47_code 2 (some (.object "java/util/List")) ws ({ frames := 5, cells := 1, slots := 2, locals := 62 } : Room) #[(.ref xf)] h0 (Q_rOf_1 Z xf xk xq xe0 h0) := by
  refine oCon.of (plainFor_of_name pn_9) ?_
  intro p e s m below meth c T X hx hby hml hown hnm hret hlk hZ e0
  have hml : c.maxLocals = 2 := hml
  have K : oKp h0 h0 [] [] := oKp.nil _ _
  refine oWk.cast (g' := (mkF m 0 #[rv xf, uu] [])) (by first | rfl | (simp [entryFrame, mkF, argsToLocals, Value.category]; done)) ?_
  refine oWk.st (fun _ kt => XS.aloadN X.here hx rfl (hb hby d27_0) rfl rfl kt) ?_
  obtain ⟨cl1, Ar1, q1, Sz1, Nn1, Hs1, Ft1⟩ := id V_xf
  refine oWk.st (fun _ kt => X.arraylength hx (by rw [e0]; exact Ar1.1) (State.isArrayOf_alike hZ.alike Ar1.2.1) (g := (mkF m 1 #[rv xf, uu] [(.ref xf)])) rfl rfl (hb hby d27_1) _ kt) ?_
  rw [len_of Sz1 Nn1]
  refine oWk.st (fun _ kt => XS.tswIn X.here hx rfl (pc0 := 2) (pc' := 34) rfl (hb hby d27_2) rfl (by decide) rfl (by decide) (by decide) kt) ?_
  obtain ⟨o2, g2⟩ : ∃ z, z = h0.size := ⟨_, rfl⟩
  have ne_xf_o2 : xf ≠ o2 := Nat.ne_of_lt (Nat.lt_of_lt_of_le V_xf.lt (Nat.le_of_eq g2.symm))
  have ge_o2 : h0.size ≤ o2 := Nat.le_trans K.le (Nat.le_of_eq g2.symm)
  obtain ⟨T, h, X, e0, E2, A2, D2, -, st⟩ := newO X hx hZ hown (oW hw 183 rfl) (oW hw 184 rfl) (oW hw 185 rfl) e0 (g := (mkF m 34 #[rv xf, uu] [])) rfl (hb hby d27_34) (by decide) (by decide)
  rw [← g2] at A2 D2 st
  refine oWk.st st ?_
  have K := K.ext E2
  have E_o2 := A2
  have F_e0_o2 : Fld Z h o2 "java/util/ImmutableCollections$List12" "e0" "Ljava/lang/Object;" .null := D2 (Or.inr (oW hw 209 rfl)) (ty := (.object "java/lang/Object")) (by decide)
  have F_e1_o2 : Fld Z h o2 "java/util/ImmutableCollections$List12" "e1" "Ljava/lang/Object;" .null := D2 (Or.inr (oW hw 212 rfl)) (ty := (.object "java/lang/Object")) (by decide)
  refine oWk.st (fun _ kt => XS.dup X.here hx rfl (hb hby d27_37) rfl rfl (XS.aloadN X.here hx rfl (hb hby d27_38) rfl rfl (XS.iconst X.here hx rfl (hb hby d27_39) kt))) ?_
  have V_xf := (V_xf.ext E2)
  obtain ⟨cl3, Ar3, q3, Sz3, Nn3, Hs3, Ft3⟩ := id V_xf
  have hin3 : ¬ ((0 : Int32) < 0 ∨ cl3.slots.size ≤ ((0 : Int32)).toNatClampNeg) := inb_of Sz3 ⟨by decide, by decide⟩
  have hat3 : cl3.slots[((0 : Int32)).toNatClampNeg]? = some (.ref xe0) := Hs3.at hin3 rfl
  refine oWk.st (fun _ kt => X.aaload hx (j := (0 : Int32)) (v := (.ref xe0)) (by rw [e0]; exact Ar3.1) (State.isArrayOf_alike hZ.alike Ar3.2.1) rfl Ar3.2.2 hin3 hat3 (g := (mkF m 40 #[rv xf, uu] [(.int 0), (.ref xf), (.ref o2), (.ref o2)])) rfl rfl (hb hby d27_40) _ kt) ?_
  have Oh := K.old O0 all0
  obtain ⟨_, _, ⟨T, L5, k5, n5⟩, -, X, ⟨Lc5, hQ, l5, y5, z5⟩, st⟩ := X.specialBack hx (y := yy29) rfl hown (mvT hZ (oW hw 186 rfl)) (mvT hZ (oW hw 187 rfl)) (mvT hZ (oW hw 189 rfl)) (by decide) (backOf (W := 1) (rL121 l Z a0 hw [] o2 xe0 xq .null .null h Oh S_EMPTY (Nat.le_trans O0.1 ge_o2) E_o2 F_e0_o2 F_e1_o2) hZ (oW hw 189 rfl) (oW hw 185 rfl) (by decide) (by decide)) (g := (mkF m 41 #[rv xf, uu] [(.ref xe0), (.ref o2), (.ref o2)])) rfl (by rw [hml]; rfl) (Steps.refl _) (a := o2) (argsL := [(.ref xe0)]) (rest := [(.ref o2)]) (lenOf pd_17 rfl) rfl (Nat.le_of_eq rfl) (hb hby d27_41) (fun _ _ => ⟨rfl, e0, (by decide : 1 + 0 ≤ _), (by decide : 2 + 0 ≤ _)⟩)
  dsimp only [Pt.U, Pt.locs, Pt.cells, Pt.slots] at X l5 y5 z5 st hQ
  subst l5 y5 z5
  obtain ⟨h, e0⟩ : ∃ z, T.heap = z := ⟨_, rfl⟩
  rw [e0] at hQ
  obtain ⟨rfl, K4, E_o2, F_e0_o2, F_e1_o2⟩ := hQ
  have K := K.call K4 (allS (Or.inr ge_o2) all0)
  refine oWk.tr st ?_
  exact oRetA X hx hlk hret rfl rfl (hb hby d27_44) (by rw [e0]; exact ⟨o2, rfl, K, ge_o2, E_o2, F_e0_o2, F_e1_o2⟩) (by decide) (by decide)
def Q_rLC_1 (Z : State) (xa : Addr) (xf : Addr) (xmr : Addr) (xk : ClassId) (xq : Addr) (xe0 : Addr) (h0 : Heap) (v : Option Value) (h : Heap) (L : List Loc) : Prop := ∃ (nl : Addr), v = some (.ref nl) ∧ oKp h0 h [] L ∧ (h0.size ≤ nl) ∧ (Exa Z h nl "java/util/ImmutableCollections$List12") ∧ (Fld Z h nl "java/util/ImmutableCollections$List12" "e0" "Ljava/lang/Object;" (.ref xe0)) ∧ (Fld Z h nl "java/util/ImmutableCollections$List12" "e1" "Ljava/lang/Object;" (.ref xq))
theorem d12_44 : decode jdk_56_method_3_code 44 = .ok (.aload_n 0, 1) := by decide +kernel
theorem d12_45 : decode jdk_56_method_3_code 45 = .ok (.invokeinterface 30 1, 5) := by decide +kernel
abbrev yy31 : MethodName := ⟨"java/util/Collection", "toArray", "()[Ljava/lang/Object;"⟩
theorem d12_50 : decode jdk_56_method_3_code 50 = .ok (.invokestatic 34, 3) := by decide +kernel
theorem pd_18 : parseMethodDescriptor "([Ljava/lang/Object;)Ljava/util/List;" = some ⟨[(.array (.object "java/lang/Object"))], some (.object "java/util/List")⟩ := by decide +kernel
theorem d12_53 : decode jdk_56_method_3_code 53 = .ok (.areturn, 1) := by decide +kernel
theorem rLC_1 (l : Launch) (Z : State) (a0 : Array Value) (hw : ∀ d ∈ tables_1, d.before a0 Z = true) (ws : List Jvm.Cond) (xa : Addr) (xf : Addr) (xmr : Addr) (xk : ClassId) (xq : Addr) (xe0 : Addr) (h0 : Heap) (O0 : Ext Z.heap h0) (S_EMPTY : Sta Z Z.heap "java/util/ImmutableCollections" "EMPTY" "Ljava/lang/Object;" (.ref xq)) (mm_ : oMir Z "[Ljava/lang/Object;" xmr) (E_xa : Exa Z h0 xa "java/util/ArrayList") (F_elementData_xa : Fld Z h0 xa "java/util/ArrayList" "elementData" "[Ljava/lang/Object;" (.ref xf)) (F_size_xa : Fld Z h0 xa "java/util/ArrayList" "size" "I" (.int (1 : Int32))) (E_xf : Exa Z h0 xf "[Ljava/lang/Object;") (V_xf : Arv Z h0 xf xk (.object "java/lang/Object") (10 : Int32) [(.ref xe0), .null, .null, .null, .null, .null, .null, .null, .null, .null] .null) (I_xe0 : Ins Z h0 xe0 "java/lang/Object" true) :
    oCon l Z yy13 jdk_56_method_3_code 2 (some (.object "java/util/List")) ws ({ frames := 6, cells := 2, slots := 3, locals := 75 } : Room) #[(.ref xa)] h0 (Q_rLC_1 Z xa xf xmr xk xq xe0 h0) := by
  refine oCon.of (plainFor_of_name pn_10) ?_
  intro p e s m below meth c T X hx hby hml hown hnm hret hlk hZ e0
  have hml : c.maxLocals = 2 := hml
  have K : oKp h0 h0 [] [] := oKp.nil _ _
  refine oWk.cast (g' := (mkF m 0 #[rv xa, uu] [])) (by first | rfl | (simp [entryFrame, mkF, argsToLocals, Value.category]; done)) ?_
  refine oWk.st (fun _ kt => XS.aloadN X.here hx rfl (hb hby d12_0) rfl rfl kt) ?_
  obtain ⟨T, X, e0, st⟩ := instNo X hx hZ hown (oW hw 70 rfl) e0 E_xa (oNSno (oW hw 71 rfl) (oW hw 184 rfl) (NS.step (oW hw 71 rfl) (NS.step (oW hw 72 rfl) (NS.step (oW hw 73 rfl) (oNSroot (oW hw 74 rfl) (oW hw 184 rfl) (by decide)) (by decide)) (by decide)) (by decide)) (by decide)) (g := (mkF m 1 #[rv xa, uu] [(.ref xa)])) rfl rfl (hb hby d12_1)
  refine oWk.st st ?_
  refine oWk.st (fun _ kt => XS.ifNo X.here hx rfl (hb hby d12_4) rfl ((if0 _ _).trans (teq (by decide)).2) (XS.aloadN X.here hx rfl (hb hby d12_7) rfl rfl kt)) ?_
  obtain ⟨T, X, e0, st⟩ := instNo X hx hZ hown (oW hw 75 rfl) e0 E_xa (oNSno (oW hw 71 rfl) (oW hw 218 rfl) (NS.step (oW hw 71 rfl) (NS.step (oW hw 72 rfl) (NS.step (oW hw 73 rfl) (oNSroot (oW hw 74 rfl) (oW hw 218 rfl) (by decide)) (by decide)) (by decide)) (by decide)) (by decide)) (g := (mkF m 8 #[rv xa, uu] [(.ref xa)])) rfl rfl (hb hby d12_8)
  refine oWk.st st ?_
  refine oWk.st (fun _ kt => XS.ifYes X.here hx rfl (pc0 := 11) (pc' := 31) rfl (hb hby d12_11) rfl ((if0 _ _).trans (teq (by decide)).1) (by decide) (by decide) (XS.aloadN X.here hx rfl (hb hby d12_31) rfl rfl kt)) ?_
  have Oh := K.old O0 all0
  obtain ⟨cq2, kq2, q2a, q2b, q2c⟩ := isOf hZ e0 E_xa
  obtain ⟨_, _, ⟨T, L2, k2, n2⟩, -, X, ⟨Lc2, hQ, l2, y2, z2⟩, st⟩ := X.interfaceBack hx (xi := yy14) (y := yy11) hown (mvT hZ (oW hw 76 rfl)) (mvT hZ (oW hw 77 rfl)) (mvT hZ (oW hw 78 rfl)) (mvT hZ (oW hw 79 rfl)) (mvT hZ (oW hw 80 rfl)) (mvT hZ (oW hw 81 rfl)) (mvT hZ (oW hw 82 rfl)) (mvT hZ (oW hw 83 rfl)) (by decide) (backOf (W := 0) (rEmp1 l Z a0 hw [] xa h0 Oh F_size_xa) hZ (oW hw 84 rfl) (oW hw 28 rfl) (by decide) (by decide)) q2a q2b q2c (g := (mkF m 32 #[rv xa, uu] [(.ref xa)])) rfl (by rw [hml]; rfl) (Steps.refl _) (argsL := []) (rest := []) (lenOf pd_5 rfl) rfl (Nat.le_of_eq rfl) (hb hby d12_32) (fun _ _ => ⟨rfl, e0, (by decide : 0 + 0 ≤ _), (by decide : 0 + 0 ≤ _)⟩)
  dsimp only [Pt.U, Pt.locs, Pt.cells, Pt.slots] at X l2 y2 z2 st hQ
  subst l2 y2 z2
  obtain ⟨rfl, e0, K1⟩ := hQ
  have K := K.call K1 all0
  rw [e0] at K
  refine oWk.tr st ?_
  refine oWk.st (fun _ kt => XS.ifYes X.here hx rfl (pc0 := 37) (pc' := 44) rfl (hb hby d12_37) rfl ((if0 _ _).trans (teq (by decide)).1) (by decide) (by decide) (XS.aloadN X.here hx rfl (hb hby d12_44) rfl rfl kt)) ?_
  have lt_xa := E_xa.lt
  have lt_xf := E_xf.lt
  have Oh := K.old O0 all0
  obtain ⟨cq4, kq4, q4a, q4b, q4c⟩ := isOf hZ e0 E_xa
  obtain ⟨_, _, ⟨T, L4, k4, n4⟩, -, X, ⟨Lc4, hQ, l4, y4, z4⟩, st⟩ := X.interfaceBack hx (xi := yy31) (y := yy25) hown (mvT hZ (oW hw 150 rfl)) (mvT hZ (oW hw 151 rfl)) (mvT hZ (oW hw 152 rfl)) (mvT hZ (oW hw 153 rfl)) (mvT hZ (oW hw 154 rfl)) (mvT hZ (oW hw 155 rfl)) (mvT hZ (oW hw 156 rfl)) (mvT hZ (oW hw 83 rfl)) (by decide) (backOf (W := 0) (rTA_1 l Z a0 hw [] xa xf xmr xk xe0 h0 Oh mm_ F_elementData_xa F_size_xa E_xf V_xf I_xe0) hZ (oW hw 157 rfl) (oW hw 28 rfl) (by decide) (by decide)) q4a q4b q4c (g := (mkF m 45 #[rv xa, uu] [(.ref xa)])) rfl (by rw [hml]; rfl) (Steps.refl _) (argsL := []) (rest := []) (lenOf pd_11 rfl) rfl (Nat.le_of_eq rfl) (hb hby d12_45) (fun _ _ => ⟨rfl, e0, (by decide : 0 + 1 ≤ _), (by decide : 0 + 1 ≤ _)⟩)
  dsimp only [Pt.U, Pt.locs, Pt.cells, Pt.slots] at X l4 y4 z4 st hQ
  subst l4 y4 z4
  obtain ⟨h, e0⟩ : ∃ z, T.heap = z := ⟨_, rfl⟩
  rw [e0] at hQ
  obtain ⟨nb3, nj3, rfl, K3, gn_nb3, E_nb3, V_nb3, ov_nj3⟩ := hQ
  have ge_nb3 := Nat.le_trans K.le gn_nb3
  have ne_xa_nb3 : xa ≠ nb3 := Nat.ne_of_lt (Nat.lt_of_lt_of_le lt_xa gn_nb3)
  have ne_xf_nb3 : xf ≠ nb3 := Nat.ne_of_lt (Nat.lt_of_lt_of_le lt_xf gn_nb3)
  have K := K.call K3 all0
  refine oWk.tr st ?_
  have I_xe0 := (oInsKeep I_xe0 K3.1)
  have E_xa := (E_xa.keep K3.1)
  have lt_xa := E_xa.lt
  have E_xf := (E_xf.keep K3.1)
  have lt_xf := E_xf.lt
  have lt_nb3 := E_nb3.lt
  have Oh := K.old O0 all0
  obtain ⟨_, _, ⟨T, L6, k6, n6⟩, -, X, ⟨Lc6, hQ, l6, y6, z6⟩, st⟩ := Jvm.LawKit.callS X hx (y := yy30) hown (mvT hZ (oW hw 180 rfl)) (mvT hZ (oW hw 181 rfl)) (mvT hZ (oW hw 64 rfl)) (mvT hZ (oW hw 182 rfl)) (by decide) (backOf (W := 0) (rOf_1 l Z a0 hw [] nb3 nj3 xq xe0 h Oh S_EMPTY V_nb3 I_xe0) hZ (oW hw 182 rfl) (oW hw 64 rfl) (by decide) (by decide)) (g := (mkF m 50 #[rv xa, uu] [(.ref nb3)])) rfl (by rw [hml]; rfl) (argsL := [(.ref nb3)]) (rest := []) (lenOf pd_18 rfl) rfl (Nat.le_of_eq rfl) (hb hby d12_50) (fun _ _ => ⟨rfl, e0, (by decide : 1 + 1 ≤ _), (by decide : 1 + 2 ≤ _)⟩)
  dsimp only [Pt.U, Pt.locs, Pt.cells, Pt.slots] at X l6 y6 z6 st hQ
  subst l6 y6 z6
  obtain ⟨h, e0⟩ : ∃ z, T.heap = z := ⟨_, rfl⟩
  rw [e0] at hQ
  obtain ⟨nl5, rfl, K5, gn_nl5, E_nl5, F_e0_nl5, F_e1_nl5⟩ := hQ
  have ge_nl5 := Nat.le_trans K.le gn_nl5
  have ne_xa_nl5 : xa ≠ nl5 := Nat.ne_of_lt (Nat.lt_of_lt_of_le lt_xa gn_nl5)
  have ne_xf_nl5 : xf ≠ nl5 := Nat.ne_of_lt (Nat.lt_of_lt_of_le lt_xf gn_nl5)
  have ne_nb3_nl5 : nb3 ≠ nl5 := Nat.ne_of_lt (Nat.lt_of_lt_of_le lt_nb3 gn_nl5)
  have K := K.call K5 all0
  refine oWk.st st ?_
  exact oRetA X hx hlk hret rfl rfl (hb hby d12_53) (by rw [e0]; exact ⟨nl5, rfl, K, ge_nl5, E_nl5, F_e0_nl5, F_e1_nl5⟩) (by decide) (by decide)
def Q_rCO_1 (Z : State) (xa : Addr) (xf : Addr) (xmr : Addr) (xk : ClassId) (xq : Addr) (xe0 : Addr) (h0 : Heap) (v : Option Value) (h : Heap) (L : List Loc) : Prop := ∃ (nl : Addr), v = some (.ref nl) ∧ oKp h0 h [] L ∧ (h0.size ≤ nl) ∧ (Exa Z h nl "java/util/ImmutableCollections$List12") ∧ (Fld Z h nl "java/util/ImmutableCollections$List12" "e0" "Ljava/lang/Object;" (.ref xe0)) ∧ (Fld Z h nl "java/util/ImmutableCollections$List12" "e1" "Ljava/lang/Object;" (.ref xq))
theorem rCO_1 (l : Launch) (Z : State) (a0 : Array Value) (hw : ∀ d ∈ tables_1, d.before a0 Z = true) (ws : List Jvm.Cond) (xa : Addr) (xf : Addr) (xmr : Addr) (xk : ClassId) (xq : Addr) (xe0 : Addr) (h0 : Heap) (O0 : Ext Z.heap h0) (S_EMPTY : Sta Z Z.heap "java/util/ImmutableCollections" "EMPTY" "Ljava/lang/Object;" (.ref xq)) (mm_ : oMir Z "[Ljava/lang/Object;" xmr) (E_xa : Exa Z h0 xa "java/util/ArrayList") (F_elementData_xa : Fld Z h0 xa "java/util/ArrayList" "elementData" "[Ljava/lang/Object;" (.ref xf)) (F_size_xa : Fld Z h0 xa "java/util/ArrayList" "size" "I" (.int (1 : Int32))) (E_xf : Exa Z h0 xf "[Ljava/lang/Object;") (V_xf : Arv Z h0 xf xk (.object "java/lang/Object") (10 : Int32) [(.ref xe0), .null, .null, .null, .null, .null, .null, .null, .null, .null] .null) (I_xe0 : Ins Z h0 xe0 "java/lang/Object" true) :
    oCon l Z yy15 jdk_40_method_48_code 1 (some (.object "java/util/List")) ws ({ frames := 7, cells := 2, slots := 3, locals := 88 } : Room) #[(.ref xa)] h0 (Q_rCO_1 Z xa xf xmr xk xq xe0 h0) := by
  refine oCon.of (plainFor_of_name pn_9) ?_
  intro p e s m below meth c T X hx hby hml hown hnm hret hlk hZ e0
  have hml : c.maxLocals = 1 := hml
  have K : oKp h0 h0 [] [] := oKp.nil _ _
  refine oWk.cast (g' := (mkF m 0 #[rv xa] [])) (by first | rfl | (simp [entryFrame, mkF, argsToLocals, Value.category]; done)) ?_
  refine oWk.st (fun _ kt => XS.aloadN X.here hx rfl (hb hby d11_0) rfl rfl kt) ?_
  have lt_xa := E_xa.lt
  have lt_xf := E_xf.lt
  have Oh := K.old O0 all0
  obtain ⟨_, _, ⟨T, L2, k2, n2⟩, -, X, ⟨Lc2, hQ, l2, y2, z2⟩, st⟩ := Jvm.LawKit.callS X hx (y := yy13) hown (mvT hZ (oW hw 66 rfl)) (mvT hZ (oW hw 67 rfl)) (mvT hZ (oW hw 68 rfl)) (mvT hZ (oW hw 69 rfl)) (by decide) (backOf (W := 0) (rLC_1 l Z a0 hw [] xa xf xmr xk xq xe0 h0 Oh S_EMPTY mm_ E_xa F_elementData_xa F_size_xa E_xf V_xf I_xe0) hZ (oW hw 69 rfl) (oW hw 68 rfl) (by decide) (by decide)) (g := (mkF m 1 #[rv xa] [(.ref xa)])) rfl (by rw [hml]; rfl) (argsL := [(.ref xa)]) (rest := []) (lenOf pd_7 rfl) rfl (Nat.le_of_eq rfl) (hb hby d11_1) (fun _ _ => ⟨rfl, e0, (by decide : 0 + 2 ≤ _), (by decide : 0 + 3 ≤ _)⟩)
  dsimp only [Pt.U, Pt.locs, Pt.cells, Pt.slots] at X l2 y2 z2 st hQ
  subst l2 y2 z2
  obtain ⟨h, e0⟩ : ∃ z, T.heap = z := ⟨_, rfl⟩
  rw [e0] at hQ
  obtain ⟨nl1, rfl, K1, gn_nl1, E_nl1, F_e0_nl1, F_e1_nl1⟩ := hQ
  have ge_nl1 := Nat.le_trans K.le gn_nl1
  have ne_xa_nl1 : xa ≠ nl1 := Nat.ne_of_lt (Nat.lt_of_lt_of_le lt_xa gn_nl1)
  have ne_xf_nl1 : xf ≠ nl1 := Nat.ne_of_lt (Nat.lt_of_lt_of_le lt_xf gn_nl1)
  have K := K.call K1 all0
  refine oWk.st st ?_
  exact oRetA X hx hlk hret rfl rfl (hb hby d11_4) (by rw [e0]; exact ⟨nl1, rfl, K, ge_nl1, E_nl1, F_e0_nl1, F_e1_nl1⟩) (by decide) (by decide)
def Q_rDI_0_1 (Z : State) (xa : Addr) (xs : Addr) (xi : Int32) (u1 : Value) (u2 : Value) (u3 : Value) (u4 : Value) (xg : Addr) (xh : Addr) (xhf : Addr) (xhk : ClassId) (xhe0 : Addr) (xl : Addr) (xq : Addr) (xmr : Addr) (h0 : Heap) (v : Option Value) (h : Heap) (L : List Loc) : Prop := ∃ (nbl : Addr), v = none ∧ oKp h0 h [xa] L ∧ (Exa Z h xa "com/example/modwright/modwright/script/Directive") ∧ (Fld Z h xa "com/example/modwright/modwright/script/Directive" "block" "Ljava/util/List;" (.ref nbl))
theorem rDI_0_1 (l : Launch) (Z : State) (a0 : Array Value) (hw : ∀ d ∈ tables_1, d.before a0 Z = true) (ws : List Jvm.Cond) (xa : Addr) (xs : Addr) (xi : Int32) (u1 : Value) (u2 : Value) (u3 : Value) (u4 : Value) (xg : Addr) (xh : Addr) (xhf : Addr) (xhk : ClassId) (xhe0 : Addr) (xl : Addr) (xq : Addr) (xmr : Addr) (h0 : Heap) (O0 : Ext Z.heap h0) (S_EMPTY_LIST : Sta Z Z.heap "java/util/ImmutableCollections" "EMPTY_LIST" "Ljava/util/ImmutableCollections$ListN;" (.ref xl)) (S_EMPTY : Sta Z Z.heap "java/util/ImmutableCollections" "EMPTY" "Ljava/lang/Object;" (.ref xq)) (mm_ : oMir Z "[Ljava/lang/Object;" xmr) (og_xa : Z.heap.size ≤ xa) (E_xa : Exa Z h0 xa "com/example/modwright/modwright/script/Directive") (F_name_xa : Fld Z h0 xa "com/example/modwright/modwright/script/Directive" "name" "Ljava/lang/String;" u1) (F_line_xa : Fld Z h0 xa "com/example/modwright/modwright/script/Directive" "line" "I" u2) (F_arguments_xa : Fld Z h0 xa "com/example/modwright/modwright/script/Directive" "arguments" "Ljava/util/List;" u3) (F_block_xa : Fld Z h0 xa "com/example/modwright/modwright/script/Directive" "block" "Ljava/util/List;" u4) (E_xg : Exa Z h0 xg "java/util/ArrayList") (F_size_xg : Fld Z h0 xg "java/util/ArrayList" "size" "I" (.int (0 : Int32))) (E_xh : Exa Z h0 xh "java/util/ArrayList") (F_elementData_xh : Fld Z h0 xh "java/util/ArrayList" "elementData" "[Ljava/lang/Object;" (.ref xhf)) (F_size_xh : Fld Z h0 xh "java/util/ArrayList" "size" "I" (.int (1 : Int32))) (E_xhf : Exa Z h0 xhf "[Ljava/lang/Object;") (V_xhf : Arv Z h0 xhf xhk (.object "java/lang/Object") (10 : Int32) [(.ref xhe0), .null, .null, .null, .null, .null, .null, .null, .null, .null] .null) (I_xhe0 : Ins Z h0 xhe0 "java/lang/Object" true) :
    oCon l Z yy16 prog_45_method_1_code 5 none ws ({ frames := 8, cells := 2, slots := 3, locals := 100 } : Room) #[(.ref xa), (.ref xs), (.int xi), (.ref xg), (.ref xh)] h0 (Q_rDI_0_1 Z xa xs xi u1 u2 u3 u4 xg xh xhf xhk xhe0 xl xq xmr h0) := by
  refine oCon.of (plainFor_of_name pn_4) ?_
  intro p e s m below meth c T X hx hby hml hown hnm hret hlk hZ e0
  have hml : c.maxLocals = 5 := hml
  have K : oKp h0 h0 [xa] [] := oKp.nil _ _
  refine oWk.cast (g' := (mkF m 0 #[rv xa, rv xs, iv xi, rv xg, rv xh] [])) (by first | rfl | (simp [entryFrame, mkF, argsToLocals, Value.category]; done)) ?_
  refine oWk.st (fun _ kt => XS.aloadN X.here hx rfl (hb hby d9_0) rfl rfl kt) ?_
  have Oh := K.old O0 (allS og_xa all0)
  obtain ⟨_, _, ⟨T, L2, k2, n2⟩, -, X, ⟨Lc2, hQ, l2, y2, z2⟩, st⟩ := X.specialBack hx (y := yy4) rfl hown (mvT hZ (oW hw 56 rfl)) (mvT hZ (oW hw 57 rfl)) (mvT hZ (oW hw 60 rfl)) (by decide) (backOf (W := 0) (rRec l Z a0 hw [] xa h0 Oh ) hZ (oW hw 60 rfl) (oW hw 59 rfl) (by decide) (by decide)) (g := (mkF m 1 #[rv xa, rv xs, iv xi, rv xg, rv xh] [(.ref xa)])) rfl (by rw [hml]; rfl) (Steps.refl _) (a := xa) (argsL := []) (rest := []) (lenOf pd_3 rfl) rfl (Nat.le_of_eq rfl) (hb hby d9_1) (fun _ _ => ⟨rfl, e0, (by decide : 0 + 0 ≤ _), (by decide : 0 + 0 ≤ _)⟩)
  dsimp only [Pt.U, Pt.locs, Pt.cells, Pt.slots] at X l2 y2 z2 st hQ
  subst l2 y2 z2
  obtain ⟨rfl, e0, K1⟩ := hQ
  have K := K.call K1 all0
  rw [e0] at K
  refine oWk.tr st ?_
  refine oWk.st (fun _ kt => XS.aconstNull X.here hx rfl (hb hby d9_4) (XS.aloadN X.here hx rfl (hb hby d9_5) rfl rfl kt)) ?_
  refine oWk.st (fun _ kt => Jvm.RoadKit.acmp (g := (mkF m 6 #[rv xa, rv xs, iv xi, rv xg, rv xh] [(.ref xs), .null])) X hx rfl rfl rfl (pc0 := 6) (pc' := 23) (same := false) rfl (hb hby d9_6) rfl (decide_eq_false nofun) (by decide) (by decide) kt) ?_
  show oWk _ _ _ _ T (mkF m 23 #[rv xa, rv xs, iv xi, rv xg, rv xh] [])
  refine oWk.st (fun _ kt => XS.aloadN X.here hx rfl (hb hby d9_23) rfl rfl kt) ?_
  have Oh := K.old O0 (allS og_xa all0)
  obtain ⟨_, _, ⟨T, L4, k4, n4⟩, -, X, ⟨Lc4, hQ, l4, y4, z4⟩, st⟩ := Jvm.LawKit.callS X hx (y := yy15) hown (mvT hZ (oW hw 62 rfl)) (mvT hZ (oW hw 63 rfl)) (mvT hZ (oW hw 64 rfl)) (mvT hZ (oW hw 65 rfl)) (by decide) (backOf (W := 0) (rCO0 l Z a0 hw [] xg xl h0 Oh S_EMPTY_LIST E_xg F_size_xg) hZ (oW hw 65 rfl) (oW hw 64 rfl) (by decide) (by decide)) (g := (mkF m 24 #[rv xa, rv xs, iv xi, rv xg, rv xh] [(.ref xg)])) rfl (by rw [hml]; rfl) (argsL := [(.ref xg)]) (rest := []) (lenOf pd_7 rfl) rfl (Nat.le_of_eq rfl) (hb hby d9_24) (fun _ _ => ⟨rfl, e0, (by decide : 0 + 0 ≤ _), (by decide : 0 + 0 ≤ _)⟩)
  dsimp only [Pt.U, Pt.locs, Pt.cells, Pt.slots] at X l4 y4 z4 st hQ
  subst l4 y4 z4
  obtain ⟨rfl, e0, K3⟩ := hQ
  have K := K.call K3 all0
  rw [e0] at K
  refine oWk.st st ?_
  refine oWk.st (fun _ kt => XS.astoreN X.here hx rfl (hb hby d9_27) rfl rfl (l' := #[rv xa, rv xs, iv xi, rv xl, rv xh]) rfl (XS.aconstNull X.here hx rfl (hb hby d9_28) (XS.aload X.here hx rfl (hb hby d9_29) rfl rfl kt))) ?_
  refine oWk.st (fun _ kt => Jvm.RoadKit.acmp (g := (mkF m 31 #[rv xa, rv xs, iv xi, rv xl, rv xh] [(.ref xh), .null])) X hx rfl rfl rfl (pc0 := 31) (pc' := 34) (same := false) rfl (hb hby d9_31) rfl (decide_eq_false nofun) (by decide) (by decide) kt) ?_
  show oWk _ _ _ _ T (mkF m 34 #[rv xa, rv xs, iv xi, rv xl, rv xh] [])
  refine oWk.st (fun _ kt => XS.aload X.here hx rfl (hb hby d9_34) rfl rfl kt) ?_
  have lt_xa := E_xa.lt
  have lt_xg := E_xg.lt
  have lt_xh := E_xh.lt
  have lt_xhf := E_xhf.lt
  have Oh := K.old O0 (allS og_xa all0)
  obtain ⟨_, _, ⟨T, L6, k6, n6⟩, -, X, ⟨Lc6, hQ, l6, y6, z6⟩, st⟩ := Jvm.LawKit.callS X hx (y := yy15) hown (mvT hZ (oW hw 62 rfl)) (mvT hZ (oW hw 63 rfl)) (mvT hZ (oW hw 64 rfl)) (mvT hZ (oW hw 65 rfl)) (by decide) (backOf (W := 0) (rCO_1 l Z a0 hw [] xh xhf xmr xhk xq xhe0 h0 Oh S_EMPTY mm_ E_xh F_elementData_xh F_size_xh E_xhf V_xhf I_xhe0) hZ (oW hw 65 rfl) (oW hw 64 rfl) (by decide) (by decide)) (g := (mkF m 36 #[rv xa, rv xs, iv xi, rv xl, rv xh] [(.ref xh)])) rfl (by rw [hml]; rfl) (argsL := [(.ref xh)]) (rest := []) (lenOf pd_7 rfl) rfl (Nat.le_of_eq rfl) (hb hby d9_36) (fun _ _ => ⟨rfl, e0, (by decide : 0 + 2 ≤ _), (by decide : 0 + 3 ≤ _)⟩)
  dsimp only [Pt.U, Pt.locs, Pt.cells, Pt.slots] at X l6 y6 z6 st hQ
  subst l6 y6 z6
  obtain ⟨h, e0⟩ : ∃ z, T.heap = z := ⟨_, rfl⟩
  rw [e0] at hQ
  obtain ⟨nl5, rfl, K5, gn_nl5, E_nl5, F_e0_nl5, F_e1_nl5⟩ := hQ
  have ge_nl5 := Nat.le_trans K.le gn_nl5
  have ne_xa_nl5 : xa ≠ nl5 := Nat.ne_of_lt (Nat.lt_of_lt_of_le lt_xa gn_nl5)
  have ne_xg_nl5 : xg ≠ nl5 := Nat.ne_of_lt (Nat.lt_of_lt_of_le lt_xg gn_nl5)
  have ne_xh_nl5 : xh ≠ nl5 := Nat.ne_of_lt (Nat.lt_of_lt_of_le lt_xh gn_nl5)
  have ne_xhf_nl5 : xhf ≠ nl5 := Nat.ne_of_lt (Nat.lt_of_lt_of_le lt_xhf gn_nl5)
  have K := K.call K5 all0
  refine oWk.st st ?_
  refine oWk.st (fun _ kt => XS.astore X.here hx rfl (hb hby d9_39) rfl rfl (l' := #[rv xa, rv xs, iv xi, rv xl, rv nl5]) rfl (XS.aloadN X.here hx rfl (hb hby d9_41) rfl rfl (XS.aloadN X.here hx rfl (hb hby d9_42) rfl rfl kt))) ?_
  have E_xa := (E_xa.keep K5.1)
  have F_name_xa := (F_name_xa.keep K5.1 nin0)
  obtain ⟨T, h, X, e0, W7, st⟩ := putF X hx hZ hown (host := "") (Or.inl (oW hw 91 rfl)) Via.refl e0 F_name_xa E_xa (Or.inr ⟨(oW hw 92 rfl), rfl, hnm⟩) (oW hw 51 rfl) (ty := (.object "java/lang/String")) (by decide) rfl rfl (g := (mkF m 43 #[rv xa, rv xs, iv xi, rv xl, rv nl5] [(.ref xs), (.ref xa)])) rfl rfl (hb hby d9_43)
  refine oWk.st st ?_
  have K := K.wr W7 (Or.inl (List.mem_of_getElem? (i := 0) rfl))
  have F_name_xa := F_name_xa.same W7
  refine oWk.st (fun _ kt => XS.aloadN X.here hx rfl (hb hby d9_46) rfl rfl (XS.iloadN X.here hx rfl (hb hby d9_47) rfl kt)) ?_
  have E_xa := (E_xa.wr W7)
  have F_line_xa := ((F_line_xa.keep K5.1 nin0).other W7 (Or.inr (slot_ne (Or.inr (oW hw 94 rfl)) (Or.inr (oW hw 92 rfl)) (by decide) (t := .int) (t' := (.object "java/lang/String")) (by decide) (by decide))))
  obtain ⟨T, h, X, e0, W8, st⟩ := putF X hx hZ hown (host := "") (Or.inl (oW hw 93 rfl)) Via.refl e0 F_line_xa E_xa (Or.inr ⟨(oW hw 94 rfl), rfl, hnm⟩) (oW hw 51 rfl) (ty := .int) (by decide) rfl rfl (g := (mkF m 48 #[rv xa, rv xs, iv xi, rv xl, rv nl5] [(.int xi), (.ref xa)])) rfl rfl (hb hby d9_48)
  refine oWk.st st ?_
  have K := K.wr W8 (Or.inl (List.mem_of_getElem? (i := 0) rfl))
  have F_line_xa := F_line_xa.same W8
  refine oWk.st (fun _ kt => XS.aloadN X.here hx rfl (hb hby d9_51) rfl rfl (XS.aloadN X.here hx rfl (hb hby d9_52) rfl rfl kt)) ?_
  have E_xa := (E_xa.wr W8)
  have F_arguments_xa := (((F_arguments_xa.keep K5.1 nin0).other W7 (Or.inr (slot_ne (Or.inr (oW hw 96 rfl)) (Or.inr (oW hw 92 rfl)) (by decide) (t := (.object "java/util/List")) (t' := (.object "java/lang/String")) (by decide) (by decide)))).other W8 (Or.inr (slot_ne (Or.inr (oW hw 96 rfl)) (Or.inr (oW hw 94 rfl)) (by decide) (t := (.object "java/util/List")) (t' := .int) (by decide) (by decide))))
  obtain ⟨T, h, X, e0, W9, st⟩ := putF X hx hZ hown (host := "") (Or.inl (oW hw 95 rfl)) Via.refl e0 F_arguments_xa E_xa (Or.inr ⟨(oW hw 96 rfl), rfl, hnm⟩) (oW hw 51 rfl) (ty := (.object "java/util/List")) (by decide) rfl rfl (g := (mkF m 53 #[rv xa, rv xs, iv xi, rv xl, rv nl5] [(.ref xl), (.ref xa)])) rfl rfl (hb hby d9_53)
  refine oWk.st st ?_
  have K := K.wr W9 (Or.inl (List.mem_of_getElem? (i := 0) rfl))
  have F_arguments_xa := F_arguments_xa.same W9
  refine oWk.st (fun _ kt => XS.aloadN X.here hx rfl (hb hby d9_56) rfl rfl (XS.aload X.here hx rfl (hb hby d9_57) rfl rfl kt)) ?_
  have E_xa := (E_xa.wr W9)
  have F_block_xa := ((((F_block_xa.keep K5.1 nin0).other W7 (Or.inr (slot_ne (Or.inr (oW hw 98 rfl)) (Or.inr (oW hw 92 rfl)) (by decide) (t := (.object "java/util/List")) (t' := (.object "java/lang/String")) (by decide) (by decide)))).other W8 (Or.inr (slot_ne (Or.inr (oW hw 98 rfl)) (Or.inr (oW hw 94 rfl)) (by decide) (t := (.object "java/util/List")) (t' := .int) (by decide) (by decide)))).other W9 (Or.inr (slot_ne (Or.inr (oW hw 98 rfl)) (Or.inr (oW hw 96 rfl)) (by decide) (t := (.object "java/util/List")) (t' := (.object "java/util/List")) (by decide) (by decide))))
  obtain ⟨T, h, X, e0, W10, st⟩ := putF X hx hZ hown (host := "") (Or.inl (oW hw 97 rfl)) Via.refl e0 F_block_xa E_xa (Or.inr ⟨(oW hw 98 rfl), rfl, hnm⟩) (oW hw 51 rfl) (ty := (.object "java/util/List")) (by decide) rfl rfl (g := (mkF m 59 #[rv xa, rv xs, iv xi, rv xl, rv nl5] [(.ref nl5), (.ref xa)])) rfl rfl (hb hby d9_59)
  refine oWk.st st ?_
  have K := K.wr W10 (Or.inl (List.mem_of_getElem? (i := 0) rfl))
  have F_block_xa := F_block_xa.same W10
  have E_xa := (E_xa.wr W10)
  exact oRetV X hx hlk hret (hb hby d9_62) (by rw [e0]; exact ⟨nl5, rfl, K, E_xa, F_block_xa⟩) (by decide) (by decide)
def Q_rA3_1 (Z : State) (xa : Addr) (xx : Addr) (xf : Addr) (xk : ClassId) (xm : Int32) (xe0 : Addr) (h0 : Heap) (v : Option Value) (h : Heap) (L : List Loc) : Prop := v = none ∧ oKp h0 h [xa, xf] L ∧ (Exa Z h xa "java/util/ArrayList") ∧ (Fld Z h xa "java/util/ArrayList" "elementData" "[Ljava/lang/Object;" (.ref xf)) ∧ (Fld Z h xa "java/util/ArrayList" "size" "I" (.int (2 : Int32))) ∧ (Fld Z h xa "java/util/AbstractList" "modCount" "I" (.int xm)) ∧ (Exa Z h xf "[Ljava/lang/Object;") ∧ (Arv Z h xf xk (.object "java/lang/Object") (10 : Int32) [(.ref xe0), (.ref xx), .null, .null, .null, .null, .null, .null, .null, .null] .null)
theorem rA3_1 (l : Launch) (Z : State) (a0 : Array Value) (hw : ∀ d ∈ tables_1, d.before a0 Z = true) (ws : List Jvm.Cond) (xa : Addr) (xx : Addr) (xf : Addr) (xk : ClassId) (xm : Int32) (xe0 : Addr) (h0 : Heap) (O0 : Ext Z.heap h0) (og_xa : Z.heap.size ≤ xa) (og_xf : Z.heap.size ≤ xf) (ne_xa_xf : xa ≠ xf) (E_xa : Exa Z h0 xa "java/util/ArrayList") (F_elementData_xa : Fld Z h0 xa "java/util/ArrayList" "elementData" "[Ljava/lang/Object;" (.ref xf)) (F_size_xa : Fld Z h0 xa "java/util/ArrayList" "size" "I" (.int (1 : Int32))) (F_modCount_xa : Fld Z h0 xa "java/util/AbstractList" "modCount" "I" (.int xm)) (E_xf : Exa Z h0 xf "[Ljava/lang/Object;") (V_xf : Arv Z h0 xf xk (.object "java/lang/Object") (10 : Int32) [(.ref xe0), .null, .null, .null, .null, .null, .null, .null, .null, .null] .null) (ov_xk : Ovr Z xk "java/lang/Object") (I_xx : Ins Z h0 xx "java/lang/Object" true) :
    oCon l Z yy20 jdk_38_method_24_code 4 none ws ({ frames := 0, cells := 0, slots := 0, locals := 0 } : Room) #[(.ref xa), (.ref xx), (.ref xf), (.int (1 : Int32))] h0 (Q_rA3_1 Z xa xx xf xk xm xe0 h0) := by
  refine oCon.of (plainFor_of_name pn_7) ?_
  intro p e s m below meth c T X hx hby hml hown hnm hret hlk hZ e0
  have hml : c.maxLocals = 4 := hml
  have K : oKp h0 h0 [xa, xf] [] := oKp.nil _ _
  refine oWk.cast (g' := (mkF m 0 #[rv xa, rv xx, rv xf, iv 1] [])) (by first | rfl | (simp [entryFrame, mkF, argsToLocals, Value.category]; done)) ?_
  refine oWk.st (fun _ kt => XS.iloadN X.here hx rfl (hb hby d16_0) rfl (XS.aloadN X.here hx rfl (hb hby d16_1) rfl rfl kt)) ?_
  obtain ⟨cl1, Ar1, q1, Sz1, Nn1, Hs1, Ft1⟩ := id V_xf
  refine oWk.st (fun _ kt => X.arraylength hx (by rw [e0]; exact Ar1.1) (State.isArrayOf_alike hZ.alike Ar1.2.1) (g := (mkF m 2 #[rv xa, rv xx, rv xf, iv 1] [(.ref xf), (.int 1)])) rfl rfl (hb hby d16_2) _ kt) ?_
  rw [len_of Sz1 Nn1]
  refine oWk.st (fun _ kt => XS.icmpYes X.here hx rfl (pc0 := 3) (pc' := 11) rfl (hb hby d16_3) rfl (feq (by decide)).2 (by decide) (by decide) (XS.aloadN X.here hx rfl (hb hby d16_11) rfl rfl (XS.iloadN X.here hx rfl (hb hby d16_12) rfl (XS.aloadN X.here hx rfl (hb hby d16_13) rfl rfl kt)))) ?_
  obtain ⟨cl2, Ar2, q2, Sz2, Nn2, Hs2, Ft2⟩ := id V_xf
  have hin2 : ¬ ((1 : Int32) < 0 ∨ cl2.slots.size ≤ ((1 : Int32)).toNatClampNeg) := inb_of Sz2 ⟨by decide, by decide⟩
  obtain ⟨T, h, X, e0, W2, st⟩ := stR X hx hZ e0 Ar2 (j := (1 : Int32)) hin2 rfl (Sto.ofV Ar2 q2 ov_xk I_xx) (g := (mkF m 14 #[rv xa, rv xx, rv xf, iv 1] [(.ref xx), (.int 1), (.ref xf)])) rfl rfl (hb hby d16_14)
  refine oWk.st st ?_
  have K := K.wr W2 (Or.inl (List.mem_of_getElem? (i := 1) rfl))
  have V_xf : Arv Z h xf xk (.object "java/lang/Object") (10 : Int32) [(.ref xe0), (.ref xx), .null, .null, .null, .null, .null, .null, .null, .null] .null := Arv.set Ar2 q2 Sz2 Nn2 Hs2 Ft2 rfl W2 1 rfl (Nat.le_of_ble_eq_true rfl)
  refine oWk.st (fun _ kt => XS.aloadN X.here hx rfl (hb hby d16_15) rfl rfl (XS.iloadN X.here hx rfl (hb hby d16_16) rfl (XS.iconst X.here hx rfl (hb hby d16_17) (XS.iadd X.here hx rfl (hb hby d16_18) rfl kt)))) ?_
  show oWk _ _ _ _ T (mkF m 19 #[rv xa, rv xx, rv xf, iv 1] [(.int ((1 : Int32) + (1 : Int32))), (.ref xa)])
  rw [show ((1 : Int32) + (1 : Int32)) = (2 : Int32) from by decide]
  show oWk _ _ _ _ T (mkF m 19 #[rv xa, rv xx, rv xf, iv 1] [(.int 2), (.ref xa)])
  have E_xa := (E_xa.wr W2)
  have F_size_xa := (F_size_xa.other W2 (Or.inl ne_xa_xf))
  obtain ⟨T, h, X, e0, W3, st⟩ := putF X hx hZ hown (host := "") (Or.inl (oW hw 85 rfl)) Via.refl e0 F_size_xa E_xa (Or.inl (oW hw 86 rfl)) (oW hw 27 rfl) (ty := .int) (by decide) rfl rfl (g := (mkF m 19 #[rv xa, rv xx, rv xf, iv 1] [(.int 2), (.ref xa)])) rfl rfl (hb hby d16_19)
  refine oWk.st st ?_
  have K := K.wr W3 (Or.inl (List.mem_of_getElem? (i := 0) rfl))
  have F_size_xa := F_size_xa.same W3
  have E_xa := (E_xa.wr W3)
  have F_elementData_xa := ((F_elementData_xa.other W2 (Or.inl ne_xa_xf)).other W3 (Or.inr (slot_ne (Or.inl (oW hw 49 rfl)) (Or.inl (oW hw 86 rfl)) (by decide) (t := (.array (.object "java/lang/Object"))) (t' := .int) (by decide) (by decide))))
  have F_modCount_xa := ((F_modCount_xa.other W2 (Or.inl ne_xa_xf)).other W3 (Or.inr (slot_ne (Or.inl (oW hw 46 rfl)) (Or.inl (oW hw 86 rfl)) (by decide) (t := .int) (t' := .int) (by decide) (by decide))))
  have E_xf := ((E_xf.wr W2).wr W3)
  have V_xf := (V_xf.other W3 (Ne.symm ne_xa_xf))
  exact oRetV X hx hlk hret (hb hby d16_22) (by rw [e0]; exact ⟨rfl, K, E_xa, F_elementData_xa, F_size_xa, F_modCount_xa, E_xf, V_xf⟩) (by decide) (by decide)
def Q_rAd_1 (Z : State) (xa : Addr) (xx : Addr) (xf : Addr) (xk : ClassId) (xm : Int32) (xe0 : Addr) (h0 : Heap) (v : Option Value) (h : Heap) (L : List Loc) : Prop := v = some (.int (1 : Int32)) ∧ oKp h0 h [xa, xf] L ∧ (Exa Z h xa "java/util/ArrayList") ∧ (Fld Z h xa "java/util/ArrayList" "elementData" "[Ljava/lang/Object;" (.ref xf)) ∧ (Fld Z h xa "java/util/ArrayList" "size" "I" (.int (2 : Int32))) ∧ (Fld Z h xa "java/util/AbstractList" "modCount" "I" (.int (xm + (1 : Int32)))) ∧ (Exa Z h xf "[Ljava/lang/Object;") ∧ (Arv Z h xf xk (.object "java/lang/Object") (10 : Int32) [(.ref xe0), (.ref xx), .null, .null, .null, .null, .null, .null, .null, .null] .null)
theorem rAd_1 (l : Launch) (Z : State) (a0 : Array Value) (hw : ∀ d ∈ tables_1, d.before a0 Z = true) (ws : List Jvm.Cond) (xa : Addr) (xx : Addr) (xf : Addr) (xk : ClassId) (xm : Int32) (xe0 : Addr) (h0 : Heap) (O0 : Ext Z.heap h0) (og_xa : Z.heap.size ≤ xa) (og_xf : Z.heap.size ≤ xf) (ne_xa_xf : xa ≠ xf) (E_xa : Exa Z h0 xa "java/util/ArrayList") (F_elementData_xa : Fld Z h0 xa "java/util/ArrayList" "elementData" "[Ljava/lang/Object;" (.ref xf)) (F_size_xa : Fld Z h0 xa "java/util/ArrayList" "size" "I" (.int (1 : Int32))) (F_modCount_xa : Fld Z h0 xa "java/util/AbstractList" "modCount" "I" (.int xm)) (E_xf : Exa Z h0 xf "[Ljava/lang/Object;") (V_xf : Arv Z h0 xf xk (.object "java/lang/Object") (10 : Int32) [(.ref xe0), .null, .null, .null, .null, .null, .null, .null, .null, .null] .null) (ov_xk : Ovr Z xk "java/lang/Object") (I_xx : Ins Z h0 xx "java/lang/Object" true) :
    oCon l Z yy21 jdk_38_method_25_code 2 (some .boolean) ws ({ frames := 1, cells := 0, slots := 0, locals := 15 } : Room) #[(.ref xa), (.ref xx)] h0 (Q_rAd_1 Z xa xx xf xk xm xe0 h0) := by
  refine oCon.of (plainFor_of_name pn_7) ?_
  intro p e s m below meth c T X hx hby hml hown hnm hret hlk hZ e0
  have hml : c.maxLocals = 2 := hml
  have K : oKp h0 h0 [xa, xf] [] := oKp.nil _ _
  refine oWk.cast (g' := (mkF m 0 #[rv xa, rv xx] [])) (by first | rfl | (simp [entryFrame, mkF, argsToLocals, Value.category]; done)) ?_
  refine oWk.st (fun _ kt => XS.aloadN X.here hx rfl (hb hby d15_0) rfl rfl (XS.dup X.here hx rfl (hb hby d15_1) rfl rfl kt)) ?_
  obtain ⟨T, X, e0, st⟩ := getF X hx hZ hown (host := "") (Or.inl (oW hw 104 rfl)) (Via.of (oW hw 105 rfl)) e0 F_modCount_xa (g := (mkF m 2 #[rv xa, rv xx] [(.ref xa), (.ref xa)])) rfl rfl (hb hby d15_2)
  refine oWk.st st ?_
  refine oWk.st (fun _ kt => XS.iconst X.here hx rfl (hb hby d15_5) (XS.iadd X.here hx rfl (hb hby d15_6) rfl kt)) ?_
  obtain ⟨T, h, X, e0, W1, st⟩ := putF X hx hZ hown (host := "") (Or.inl (oW hw 104 rfl)) (Via.of (oW hw 105 rfl)) e0 F_modCount_xa E_xa (Or.inl (oW hw 46 rfl)) (oW hw 27 rfl) (ty := .int) (by decide) rfl rfl (g := (mkF m 7 #[rv xa, rv xx] [(.int (xm + (1 : Int32))), (.ref xa)])) rfl rfl (hb hby d15_7)
  refine oWk.st st ?_
  have K := K.wr W1 (Or.inl (List.mem_of_getElem? (i := 0) rfl))
  have F_modCount_xa := F_modCount_xa.same W1
  refine oWk.st (fun _ kt => XS.aloadN X.here hx rfl (hb hby d15_10) rfl rfl (XS.aloadN X.here hx rfl (hb hby d15_11) rfl rfl (XS.aloadN X.here hx rfl (hb hby d15_12) rfl rfl kt))) ?_
  have F_elementData_xa := (F_elementData_xa.other W1 (Or.inr (slot_ne (Or.inl (oW hw 49 rfl)) (Or.inl (oW hw 46 rfl)) (by decide) (t := (.array (.object "java/lang/Object"))) (t' := .int) (by decide) (by decide))))
  obtain ⟨T, X, e0, st⟩ := getF X hx hZ hown (host := "") (Or.inl (oW hw 48 rfl)) Via.refl e0 F_elementData_xa (g := (mkF m 13 #[rv xa, rv xx] [(.ref xa), (.ref xx), (.ref xa)])) rfl rfl (hb hby d15_13)
  refine oWk.st st ?_
  refine oWk.st (fun _ kt => XS.aloadN X.here hx rfl (hb hby d15_16) rfl rfl kt) ?_
  have F_size_xa := (F_size_xa.other W1 (Or.inr (slot_ne (Or.inl (oW hw 86 rfl)) (Or.inl (oW hw 46 rfl)) (by decide) (t := .int) (t' := .int) (by decide) (by decide))))
  obtain ⟨T, X, e0, st⟩ := getF X hx hZ hown (host := "") (Or.inl (oW hw 85 rfl)) Via.refl e0 F_size_xa (g := (mkF m 17 #[rv xa, rv xx] [(.ref xa), (.ref xf), (.ref xx), (.ref xa)])) rfl rfl (hb hby d15_17)
  refine oWk.st st ?_
  have E_xa := (E_xa.wr W1)
  have E_xf := (E_xf.wr W1)
  have V_xf := (V_xf.other W1 (Ne.symm ne_xa_xf))
  have I_xx := (I_xx.wr W1)
  have Oh := K.old O0 (allS og_xa (allS og_xf all0))
  obtain ⟨cq3, q3, q3'⟩ := E_xa.cell
  obtain ⟨_, _, ⟨T, L3, k3, n3⟩, -, X, ⟨Lc3, hQ, l3, y3, z3⟩, st⟩ := X.privateBack hx (y := yy20) hown (mvT hZ (oW hw 106 rfl)) (mvT hZ (oW hw 107 rfl)) (mvT hZ (oW hw 109 rfl)) (Cond.privateMethod_at (mvP hZ (oW hw 108 rfl) (args := #[]))) (mvT hZ (oW hw 110 rfl)) (by decide) (backOf (W := 0) (rA3_1 l Z a0 hw [] xa xx xf xk (xm + (1 : Int32)) xe0 h Oh og_xa og_xf ne_xa_xf E_xa F_elementData_xa F_size_xa F_modCount_xa E_xf V_xf ov_xk I_xx) hZ (oW hw 110 rfl) (oW hw 28 rfl) (by decide) (by decide)) (g := (mkF m 20 #[rv xa, rv xx] [(.int 1), (.ref xf), (.ref xx), (.ref xa)])) rfl (by rw [hml]; rfl) (Steps.refl _) (a := xa) (by rw [e0]; exact q3) q3' (argsL := [(.ref xx), (.ref xf), (.int (1 : Int32))]) (rest := []) (lenOf pd_12 rfl) rfl (Nat.le_of_eq rfl) (hb hby d15_20) (fun _ _ => ⟨rfl, e0, (by decide : 0 + 0 ≤ _), (by decide : 0 + 0 ≤ _)⟩)
  dsimp only [Pt.U, Pt.locs, Pt.cells, Pt.slots] at X l3 y3 z3 st hQ
  subst l3 y3 z3
  obtain ⟨h, e0⟩ : ∃ z, T.heap = z := ⟨_, rfl⟩
  rw [e0] at hQ
  obtain ⟨rfl, K2, E_xa, F_elementData_xa, F_size_xa, F_modCount_xa, E_xf, V_xf⟩ := hQ
  have K := K.call K2 (allS (Or.inl (List.mem_of_getElem? (i := 0) rfl)) (allS (Or.inl (List.mem_of_getElem? (i := 1) rfl)) all0))
  refine oWk.tr st ?_
  refine oWk.st (fun _ kt => XS.iconst X.here hx rfl (hb hby d15_23) kt) ?_
  show oWk _ _ _ _ T (mkF m 24 #[rv xa, rv xx] [(.int 1)])
  exact oRetZ X hx hlk hret (hb hby d15_24) (Or.inr rfl) (by rw [e0]; exact ⟨rfl, K, E_xa, F_elementData_xa, F_size_xa, F_modCount_xa, E_xf, V_xf⟩) (by decide) (by decide)
def Q_rEmp2 (Z : State) (xa : Addr) (h0 : Heap) (v : Option Value) (h : Heap) (L : List Loc) : Prop := v = some (.int (0 : Int32)) ∧ h = h0 ∧ oKp h0 h [] L
theorem rEmp2 (l : Launch) (Z : State) (a0 : Array Value) (hw : ∀ d ∈ tables_1, d.before a0 Z = true) (ws : List Jvm.Cond) (xa : Addr) (h0 : Heap) (O0 : Ext Z.heap h0) (F_size_xa : Fld Z h0 xa "java/util/ArrayList" "size" "I" (.int (2 : Int32))) :
    oCon l Z yy11 jdk_38_method_9_code 1 (some .boolean) ws ({ frames := 0, cells := 0, slots := 0, locals := 0 } : Room) #[(.ref xa)] h0 (Q_rEmp2 Z xa h0) := by
  refine oCon.of (plainFor_of_name pn_7) ?_
  intro p e s m below meth c T X hx hby hml hown hnm hret hlk hZ e0
  have hml : c.maxLocals = 1 := hml
  have K : oKp h0 h0 [] [] := oKp.nil _ _
  refine oWk.cast (g' := (mkF m 0 #[rv xa] [])) (by first | rfl | (simp [entryFrame, mkF, argsToLocals, Value.category]; done)) ?_
  refine oWk.st (fun _ kt => XS.aloadN X.here hx rfl (hb hby d13_0) rfl rfl kt) ?_
  obtain ⟨T, X, e0, st⟩ := getF X hx hZ hown (host := "") (Or.inl (oW hw 85 rfl)) Via.refl e0 F_size_xa (g := (mkF m 1 #[rv xa] [(.ref xa)])) rfl rfl (hb hby d13_1)
  refine oWk.st st ?_
  refine oWk.st (fun _ kt => XS.ifYes X.here hx rfl (pc0 := 4) (pc' := 11) rfl (hb hby d13_4) rfl ((if0 _ _).trans (feq (by decide)).2) (by decide) (by decide) (XS.iconst X.here hx rfl (hb hby d13_11) kt)) ?_
  show oWk _ _ _ _ T (mkF m 12 #[rv xa] [(.int 0)])
  exact oRetZ X hx hlk hret (hb hby d13_12) (Or.inl rfl) (by rw [e0]; exact ⟨rfl, rfl, K⟩) (by decide) (by decide)
def Q_rMin2 (Z : State)  (h0 : Heap) (v : Option Value) (h : Heap) (L : List Loc) : Prop := v = some (.int (2 : Int32)) ∧ h = h0 ∧ oKp h0 h [] L
theorem rMin2 (l : Launch) (Z : State) (a0 : Array Value) (hw : ∀ d ∈ tables_1, d.before a0 Z = true) (ws : List Jvm.Cond)  (h0 : Heap) (O0 : Ext Z.heap h0)  :
    oCon l Z yy22 jdk_29_method_69_code 2 (some .int) ws ({ frames := 0, cells := 0, slots := 0, locals := 0 } : Room) #[(.int (10 : Int32)), (.int (2 : Int32))] h0 (Q_rMin2 Z  h0) := by
  refine oCon.of (Jvm.Free.JP.mathPlain rfl (by decide +kernel)) ?_
  intro p e s m below meth c T X hx hby hml hown hnm hret hlk hZ e0
  have hml : c.maxLocals = 2 := hml
  have K : oKp h0 h0 [] [] := oKp.nil _ _
  refine oWk.cast (g' := (mkF m 0 #[iv 10, iv 2] [])) (by first | rfl | (simp [entryFrame, mkF, argsToLocals, Value.category]; done)) ?_
  refine oWk.st (fun _ kt => XS.iloadN X.here hx rfl (hb hby d26_0) rfl (XS.iloadN X.here hx rfl (hb hby d26_1) rfl (XS.icmpYes X.here hx rfl (pc0 := 2) (pc' := 9) rfl (hb hby d26_2) rfl (tlt (by decide)).2.2.1 (by decide) (by decide) (XS.iloadN X.here hx rfl (hb hby d26_9) rfl kt)))) ?_
  show oWk _ _ _ _ T (mkF m 10 #[iv 10, iv 2] [(.int 2)])
  exact oRetI X hx hlk hret (hb hby d26_10) (by rw [e0]; exact ⟨rfl, rfl, K⟩) (by decide) (by decide)
def Q_rCp3_2 (Z : State) (xf : Addr) (xmr : Addr) (xk : ClassId) (xe0 : Addr) (xe1 : Addr) (h0 : Heap) (v : Option Value) (h : Heap) (L : List Loc) : Prop := ∃ (nb : Addr) (nj : ClassId), v = some (.ref nb) ∧ oKp h0 h [] L ∧ (h0.size ≤ nb) ∧ (Exa Z h nb "[Ljava/lang/Object;") ∧ (Arv Z h nb nj (.object "java/lang/Object") (2 : Int32) [(.ref xe0), (.ref xe1)] .null) ∧ (Ovr Z nj "java/lang/Object")
theorem rCp3_2 (l : Launch) (Z : State) (a0 : Array Value) (hw : ∀ d ∈ tables_1, d.before a0 Z = true) (ws : List Jvm.Cond) (xf : Addr) (xmr : Addr) (xk : ClassId) (xe0 : Addr) (xe1 : Addr) (h0 : Heap) (O0 : Ext Z.heap h0) (mm_ : oMir Z "[Ljava/lang/Object;" xmr) (E_xf : Exa Z h0 xf "[Ljava/lang/Object;") (V_xf : Arv Z h0 xf xk (.object "java/lang/Object") (10 : Int32) [(.ref xe0), (.ref xe1), .null, .null, .null, .null, .null, .null, .null, .null] .null) (I_xe0 : Ins Z h0 xe0 "java/lang/Object" true) (I_xe1 : Ins Z h0 xe1 "java/lang/Object" true) :
    oCon l Z yy23 jdk_65_method_120_code 4 (some (.array (.object "java/lang/Object"))) ws ({ frames := 1, cells := 1, slots := 2, locals := 18 } : Room) #[(.ref xf), (.int (2 : Int32)), (.ref xmr)] h0 (Q_rCp3_2 Z xf xmr xk xe0 xe1 h0) := by
  refine oCon.of (plainFor_of_name pn_11) ?_
  intro p e s m below meth c T X hx hby hml hown hnm hret hlk hZ e0
  have hml : c.maxLocals = 4 := hml
  have K : oKp h0 h0 [] [] := oKp.nil _ _
  refine oWk.cast (g' := (mkF m 0 #[rv xf, iv 2, rv xmr, uu] [])) (by first | rfl | (simp [entryFrame, mkF, argsToLocals, Value.category]; done)) ?_
  refine oWk.st (fun _ kt => XS.aloadN X.here hx rfl (hb hby d25_0) rfl rfl kt) ?_
  obtain ⟨T, X, e0, st⟩ := oLdcM X hx hZ hown (oW hw 171 rfl) e0 mm_ (g := (mkF m 1 #[rv xf, iv 2, rv xmr, uu] [(.ref xmr)])) rfl (hb hby d25_1)
  refine oWk.st st ?_
  refine oWk.st (fun _ kt => Jvm.RoadKit.acmp (g := (mkF m 3 #[rv xf, iv 2, rv xmr, uu] [(.ref xmr), (.ref xmr)])) X hx rfl rfl rfl (pc0 := 3) (pc' := 6) (same := true) rfl (hb hby d25_3) rfl (decide_eq_true rfl) (by decide) (by decide) kt) ?_
  show oWk _ _ _ _ T (mkF m 6 #[rv xf, iv 2, rv xmr, uu] [])
  refine oWk.st (fun _ kt => XS.iloadN X.here hx rfl (hb hby d25_6) rfl kt) ?_
  obtain ⟨o1, g1⟩ : ∃ z, z = h0.size := ⟨_, rfl⟩
  have ne_xf_o1 : xf ≠ o1 := Nat.ne_of_lt (Nat.lt_of_lt_of_le E_xf.lt (Nat.le_of_eq g1.symm))
  have ge_o1 : h0.size ≤ o1 := Nat.le_trans K.le (Nat.le_of_eq g1.symm)
  obtain ⟨T, h, k1, X, e0, E1, A1, E_o1, O1, st⟩ := newRE X hx hZ hown (oW hw 172 rfl) (oW hw 126 rfl) e0 (g := (mkF m 7 #[rv xf, iv 2, rv xmr, uu] [(.int 2)])) rfl (hb hby d25_7) rfl (by decide) (cap := 2) (by decide) (by decide) (by decide) (by decide) (ad := "[Ljava/lang/Object;") (by decide)
  rw [← g1] at A1 E_o1 st
  refine oWk.st st ?_
  have K := K.ext E1
  have V_o1 : Arv Z h o1 k1 (.object "java/lang/Object") (2 : Int32) [.null, .null] .null := (Arv.new A1 (by decide)).pad (pad_rep [] .null 2)
  refine oWk.st (fun _ kt => XS.goto X.here hx rfl (pc0 := 10) (pc' := 24) rfl (hb hby d25_10) (by decide) (by decide) (XS.astoreN X.here hx rfl (hb hby d25_24) rfl rfl (l' := #[rv xf, iv 2, rv xmr, rv o1]) rfl (XS.aloadN X.here hx rfl (hb hby d25_25) rfl rfl (XS.iconst X.here hx rfl (hb hby d25_26) (XS.aloadN X.here hx rfl (hb hby d25_27) rfl rfl (XS.iconst X.here hx rfl (hb hby d25_28) (XS.aloadN X.here hx rfl (hb hby d25_29) rfl rfl kt))))))) ?_
  have V_xf := (V_xf.ext E1)
  obtain ⟨cl2, Ar2, q2, Sz2, Nn2, Hs2, Ft2⟩ := id V_xf
  refine oWk.st (fun _ kt => X.arraylength hx (by rw [e0]; exact Ar2.1) (State.isArrayOf_alike hZ.alike Ar2.2.1) (g := (mkF m 30 #[rv xf, iv 2, rv xmr, rv o1] [(.ref xf), (.int 0), (.ref o1), (.int 0), (.ref xf)])) rfl rfl (hb hby d25_30) _ kt) ?_
  rw [len_of Sz2 Nn2]
  refine oWk.st (fun _ kt => XS.iloadN X.here hx rfl (hb hby d25_31) rfl kt) ?_
  have Oh := K.old O0 all0
  obtain ⟨_, _, ⟨T, L4, k4, n4⟩, -, X, ⟨Lc4, hQ, l4, y4, z4⟩, st⟩ := Jvm.LawKit.callS X hx (y := yy22) hown (mvT hZ (oW hw 173 rfl)) (mvT hZ (oW hw 174 rfl)) (mvT hZ (oW hw 123 rfl)) (mvT hZ (oW hw 175 rfl)) (by decide) (backOf (W := 4) (rMin2 l Z a0 hw []  h Oh ) hZ (oW hw 175 rfl) (oW hw 123 rfl) (by decide) (by decide)) (g := (mkF m 32 #[rv xf, iv 2, rv xmr, rv o1] [(.int 2), (.int 10), (.int 0), (.ref o1), (.int 0), (.ref xf)])) rfl (by rw [hml]; rfl) (argsL := [(.int (10 : Int32)), (.int (2 : Int32))]) (rest := [(.int (0 : Int32)), (.ref o1), (.int (0 : Int32)), (.ref xf)]) (lenOf pd_9 rfl) rfl (Nat.le_of_eq rfl) (hb hby d25_32) (fun _ _ => ⟨rfl, e0, (by decide : 1 + 0 ≤ _), (by decide : 2 + 0 ≤ _)⟩)
  dsimp only [Pt.U, Pt.locs, Pt.cells, Pt.slots] at X l4 y4 z4 st hQ
  subst l4 y4 z4
  obtain ⟨rfl, e0, K3⟩ := hQ
  have K := K.call K3 all0
  rw [e0] at K
  refine oWk.st st ?_
  obtain ⟨cl5, Ar5, q5, -⟩ := id V_o1
  have I_xe1 := (I_xe1.ext E1)
  have I_xe0 := (I_xe0.ext E1)
  obtain ⟨T, h, L5, X, e0, N5, C5, V5, st⟩ := cpA X hx hZ hown (oW hw 176 rfl) (oW hw 179 rfl) (oW hw 177 rfl) (oW hw 178 rfl) e0 (us := [(.ref xe0), (.ref xe1)]) V_xf V_o1 (Or.inr ⟨rfl, rfl, ⟨Sto.ofV Ar5 q5 O1 I_xe0, ⟨Sto.ofV Ar5 q5 O1 I_xe1, trivial⟩⟩⟩) (by decide) (by decide) (by decide) (by decide) (by decide) rfl (by decide) K.fr ge_o1 (g := (mkF m 35 #[rv xf, iv 2, rv xmr, rv o1] [(.int 2), (.int 0), (.ref o1), (.int 0), (.ref xf)])) rfl (by rw [hml]; rfl) rfl (hb hby d25_35) (by decide) (W := 0) (Nat.le_of_eq rfl) (by decide)
  refine oWk.st st ?_
  have K : oKp h0 h [] L5 := ⟨K.1.trans C5 (allS (Or.inr ge_o1) all0), fun y hy => Or.inr (N5 y hy)⟩
  have V_o1 : Arv Z h o1 k1 (.object "java/lang/Object") (2 : Int32) [(.ref xe0), (.ref xe1)] .null := V5
  refine oWk.st (fun _ kt => XS.aloadN X.here hx rfl (hb hby d25_38) rfl rfl kt) ?_
  show oWk _ _ _ _ T (mkF m 39 #[rv xf, iv 2, rv xmr, rv o1] [(.ref o1)])
  have E_o1 := (E_o1.keep C5)
  exact oRetA X hx hlk hret rfl rfl (hb hby d25_39) (by rw [e0]; exact ⟨o1, k1, rfl, K, ge_o1, E_o1, V_o1, O1⟩) (by decide) (by decide)
def Q_rCp2_2 (Z : State) (xf : Addr) (xmr : Addr) (xk : ClassId) (xe0 : Addr) (xe1 : Addr) (h0 : Heap) (v : Option Value) (h : Heap) (L : List Loc) : Prop := ∃ (nb : Addr) (nj : ClassId), v = some (.ref nb) ∧ oKp h0 h [] L ∧ (h0.size ≤ nb) ∧ (Exa Z h nb "[Ljava/lang/Object;") ∧ (Arv Z h nb nj (.object "java/lang/Object") (2 : Int32) [(.ref xe0), (.ref xe1)] .null) ∧ (Ovr Z nj "java/lang/Object")
theorem rCp2_2 (l : Launch) (Z : State) (a0 : Array Value) (hw : ∀ d ∈ tables_1, d.before a0 Z = true) (ws : List Jvm.Cond) (xf : Addr) (xmr : Addr) (xk : ClassId) (xe0 : Addr) (xe1 : Addr) (h0 : Heap) (O0 : Ext Z.heap h0) (mm_ : oMir Z "[Ljava/lang/Object;" xmr) (E_xf : Exa Z h0 xf "[Ljava/lang/Object;") (V_xf : Arv Z h0 xf xk (.object "java/lang/Object") (10 : Int32) [(.ref xe0), (.ref xe1), .null, .null, .null, .null, .null, .null, .null, .null] .null) (I_xe0 : Ins Z h0 xe0 "java/lang/Object" true) (I_xe1 : Ins Z h0 xe1 "java/lang/Object" true) :
    oCon l Z yy24 jdk_65_method_119_code 2 (some (.array (.object "java/lang/Object"))) ws ({ frames := 2, cells := 1, slots := 2, locals := 33 } : Room) #[(.ref xf), (.int (2 : Int32))] h0 (Q_rCp2_2 Z xf xmr xk xe0 xe1 h0) := by
  refine oCon.of (plainFor_of_name pn_11) ?_
  intro p e s m below meth c T X hx hby hml hown hnm hret hlk hZ e0
  have hml : c.maxLocals = 2 := hml
  have K : oKp h0 h0 [] [] := oKp.nil _ _
  refine oWk.cast (g' := (mkF m 0 #[rv xf, iv 2] [])) (by first | rfl | (simp [entryFrame, mkF, argsToLocals, Value.category]; done)) ?_
  refine oWk.st (fun _ kt => XS.aloadN X.here hx rfl (hb hby d24_0) rfl rfl (XS.iloadN X.here hx rfl (hb hby d24_1) rfl (XS.aloadN X.here hx rfl (hb hby d24_2) rfl rfl kt))) ?_
  obtain ⟨T, X, e0, st⟩ := oGcls X hx hZ hown (oW hw 162 rfl) (oW hw 163 rfl) (oW hw 165 rfl) (oW hw 164 rfl) (oW hw 166 rfl) e0 E_xf mm_ (g := (mkF m 3 #[rv xf, iv 2] [(.ref xf), (.int 2), (.ref xf)])) rfl (by rw [hml]; rfl) rfl (hb hby d24_3) (by decide) (W := 2) (Nat.le_of_eq rfl) (by decide)
  refine oWk.st st ?_
  have lt_xf := E_xf.lt
  have Oh := K.old O0 all0
  obtain ⟨_, _, ⟨T, L2, k2, n2⟩, -, X, ⟨Lc2, hQ, l2, y2, z2⟩, st⟩ := Jvm.LawKit.callS X hx (y := yy23) hown (mvT hZ (oW hw 168 rfl)) (mvT hZ (oW hw 169 rfl)) (mvT hZ (oW hw 160 rfl)) (mvT hZ (oW hw 170 rfl)) (by decide) (backOf (W := 0) (rCp3_2 l Z a0 hw [] xf xmr xk xe0 xe1 h0 Oh mm_ E_xf V_xf I_xe0 I_xe1) hZ (oW hw 170 rfl) (oW hw 160 rfl) (by decide) (by decide)) (g := (mkF m 6 #[rv xf, iv 2] [(.ref xmr), (.int 2), (.ref xf)])) rfl (by rw [hml]; rfl) (argsL := [(.ref xf), (.int (2 : Int32)), (.ref xmr)]) (rest := []) (lenOf pd_14 rfl) rfl (Nat.le_of_eq rfl) (hb hby d24_6) (fun _ _ => ⟨rfl, e0, (by decide : 0 + 1 ≤ _), (by decide : 0 + 2 ≤ _)⟩)
  dsimp only [Pt.U, Pt.locs, Pt.cells, Pt.slots] at X l2 y2 z2 st hQ
  subst l2 y2 z2
  obtain ⟨h, e0⟩ : ∃ z, T.heap = z := ⟨_, rfl⟩
  rw [e0] at hQ
  obtain ⟨nb1, nj1, rfl, K1, gn_nb1, E_nb1, V_nb1, ov_nj1⟩ := hQ
  have ge_nb1 := Nat.le_trans K.le gn_nb1
  have ne_xf_nb1 : xf ≠ nb1 := Nat.ne_of_lt (Nat.lt_of_lt_of_le lt_xf gn_nb1)
  have K := K.call K1 all0
  refine oWk.st st ?_
  exact oRetA X hx hlk hret rfl rfl (hb hby d24_9) (by rw [e0]; exact ⟨nb1, nj1, rfl, K, ge_nb1, E_nb1, V_nb1, ov_nj1⟩) (by decide) (by decide)
def Q_rTA_2 (Z : State) (xa : Addr) (xf : Addr) (xmr : Addr) (xk : ClassId) (xe0 : Addr) (xe1 : Addr) (h0 : Heap) (v : Option Value) (h : Heap) (L : List Loc) : Prop := ∃ (nb : Addr) (nj : ClassId), v = some (.ref nb) ∧ oKp h0 h [] L ∧ (h0.size ≤ nb) ∧ (Exa Z h nb "[Ljava/lang/Object;") ∧ (Arv Z h nb nj (.object "java/lang/Object") (2 : Int32) [(.ref xe0), (.ref xe1)] .null) ∧ (Ovr Z nj "java/lang/Object")
theorem rTA_2 (l : Launch) (Z : State) (a0 : Array Value) (hw : ∀ d ∈ tables_1, d.before a0 Z = true) (ws : List Jvm.Cond) (xa : Addr) (xf : Addr) (xmr : Addr) (xk : ClassId) (xe0 : Addr) (xe1 : Addr) (h0 : Heap) (O0 : Ext Z.heap h0) (mm_ : oMir Z "[Ljava/lang/Object;" xmr) (F_elementData_xa : Fld Z h0 xa "java/util/ArrayList" "elementData" "[Ljava/lang/Object;" (.ref xf)) (F_size_xa : Fld Z h0 xa "java/util/ArrayList" "size" "I" (.int (2 : Int32))) (E_xf : Exa Z h0 xf "[Ljava/lang/Object;") (V_xf : Arv Z h0 xf xk (.object "java/lang/Object") (10 : Int32) [(.ref xe0), (.ref xe1), .null, .null, .null, .null, .null, .null, .null, .null] .null) (I_xe0 : Ins Z h0 xe0 "java/lang/Object" true) (I_xe1 : Ins Z h0 xe1 "java/lang/Object" true) :
    oCon l Z yy25 jdk_38_method_16_code 1 (some (.array (.object "java/lang/Object"))) ws ({ frames := 3, cells := 1, slots := 2, locals := 46 } : Room) #[(.ref xa)] h0 (Q_rTA_2 Z xa xf xmr xk xe0 xe1 h0) := by
  refine oCon.of (plainFor_of_name pn_7) ?_
  intro p e s m below meth c T X hx hby hml hown hnm hret hlk hZ e0
  have hml : c.maxLocals = 1 := hml
  have K : oKp h0 h0 [] [] := oKp.nil _ _
  refine oWk.cast (g' := (mkF m 0 #[rv xa] [])) (by first | rfl | (simp [entryFrame, mkF, argsToLocals, Value.category]; done)) ?_
  refine oWk.st (fun _ kt => XS.aloadN X.here hx rfl (hb hby d23_0) rfl rfl kt) ?_
  obtain ⟨T, X, e0, st⟩ := getF X hx hZ hown (host := "") (Or.inl (oW hw 48 rfl)) Via.refl e0 F_elementData_xa (g := (mkF m 1 #[rv xa] [(.ref xa)])) rfl rfl (hb hby d23_1)
  refine oWk.st st ?_
  refine oWk.st (fun _ kt => XS.aloadN X.here hx rfl (hb hby d23_4) rfl rfl kt) ?_
  obtain ⟨T, X, e0, st⟩ := getF X hx hZ hown (host := "") (Or.inl (oW hw 85 rfl)) Via.refl e0 F_size_xa (g := (mkF m 5 #[rv xa] [(.ref xa), (.ref xf)])) rfl rfl (hb hby d23_5)
  refine oWk.st st ?_
  have lt_xa := F_elementData_xa.lt
  have lt_xf := E_xf.lt
  have Oh := K.old O0 all0
  obtain ⟨_, _, ⟨T, L2, k2, n2⟩, -, X, ⟨Lc2, hQ, l2, y2, z2⟩, st⟩ := Jvm.LawKit.callS X hx (y := yy24) hown (mvT hZ (oW hw 158 rfl)) (mvT hZ (oW hw 159 rfl)) (mvT hZ (oW hw 160 rfl)) (mvT hZ (oW hw 161 rfl)) (by decide) (backOf (W := 0) (rCp2_2 l Z a0 hw [] xf xmr xk xe0 xe1 h0 Oh mm_ E_xf V_xf I_xe0 I_xe1) hZ (oW hw 161 rfl) (oW hw 160 rfl) (by decide) (by decide)) (g := (mkF m 8 #[rv xa] [(.int 2), (.ref xf)])) rfl (by rw [hml]; rfl) (argsL := [(.ref xf), (.int (2 : Int32))]) (rest := []) (lenOf pd_15 rfl) rfl (Nat.le_of_eq rfl) (hb hby d23_8) (fun _ _ => ⟨rfl, e0, (by decide : 0 + 1 ≤ _), (by decide : 0 + 2 ≤ _)⟩)
  dsimp only [Pt.U, Pt.locs, Pt.cells, Pt.slots] at X l2 y2 z2 st hQ
  subst l2 y2 z2
  obtain ⟨h, e0⟩ : ∃ z, T.heap = z := ⟨_, rfl⟩
  rw [e0] at hQ
  obtain ⟨nb1, nj1, rfl, K1, gn_nb1, E_nb1, V_nb1, ov_nj1⟩ := hQ
  have ge_nb1 := Nat.le_trans K.le gn_nb1
  have ne_xa_nb1 : xa ≠ nb1 := Nat.ne_of_lt (Nat.lt_of_lt_of_le lt_xa gn_nb1)
  have ne_xf_nb1 : xf ≠ nb1 := Nat.ne_of_lt (Nat.lt_of_lt_of_le lt_xf gn_nb1)
  have K := K.call K1 all0
  refine oWk.st st ?_
  exact oRetA X hx hlk hret rfl rfl (hb hby d23_11) (by rw [e0]; exact ⟨nb1, nj1, rfl, K, ge_nb1, E_nb1, V_nb1, ov_nj1⟩) (by decide) (by decide)
def Q_rL122 (Z : State) (xa : Addr) (xx : Addr) (xy : Addr) (xu : Value) (xv : Value) (h0 : Heap) (v : Option Value) (h : Heap) (L : List Loc) : Prop := v = none ∧ oKp h0 h [xa] L ∧ (Exa Z h xa "java/util/ImmutableCollections$List12") ∧ (Fld Z h xa "java/util/ImmutableCollections$List12" "e0" "Ljava/lang/Object;" (.ref xx)) ∧ (Fld Z h xa "java/util/ImmutableCollections$List12" "e1" "Ljava/lang/Object;" (.ref xy))
abbrev yy32 : MethodName := ⟨"java/util/ImmutableCollections$List12", "<init>", "(Ljava/lang/Object;Ljava/lang/Object;)V"⟩
theorem d34_0 : decode jdk_44_method_2_code 0 = .ok (.aload_n 0, 1) := by decide +kernel
theorem d34_1 : decode jdk_44_method_2_code 1 = .ok (.invokespecial 1, 3) := by decide +kernel
theorem d34_4 : decode jdk_44_method_2_code 4 = .ok (.aload_n 0, 1) := by decide +kernel
theorem d34_5 : decode jdk_44_method_2_code 5 = .ok (.aload_n 1, 1) := by decide +kernel
theorem d34_6 : decode jdk_44_method_2_code 6 = .ok (.invokestatic 7, 3) := by decide +kernel
theorem d34_9 : decode jdk_44_method_2_code 9 = .ok (.putfield 13, 3) := by decide +kernel
theorem d34_12 : decode jdk_44_method_2_code 12 = .ok (.aload_n 0, 1) := by decide +kernel
theorem d34_13 : decode jdk_44_method_2_code 13 = .ok (.aload_n 2, 1) := by decide +kernel
theorem d34_14 : decode jdk_44_method_2_code 14 = .ok (.invokestatic 7, 3) := by decide +kernel
theorem d34_17 : decode jdk_44_method_2_code 17 = .ok (.putfield 24, 3) := by decide +kernel
theorem d34_20 : decode jdk_44_method_2_code 20 = .ok (.return_, 1) := by decide +kernel
theorem rL122 (l : Launch) (Z : State) (a0 : Array Value) (hw : ∀ d ∈ tables_1, d.before a0 Z = true) (ws : List Jvm.Cond) (xa : Addr) (xx : Addr) (xy : Addr) (xu : Value) (xv : Value) (h0 : Heap) (O0 : Ext Z.heap h0) (og_xa : Z.heap.size ≤ xa) (E_xa : Exa Z h0 xa "java/util/ImmutableCollections$List12") (F_e0_xa : Fld Z h0 xa "java/util/ImmutableCollections$List12" "e0" "Ljava/lang/Object;" xu) (F_e1_xa : Fld Z h0 xa "java/util/ImmutableCollections$List12" "e1" "Ljava/lang/Object;" xv) :
    oCon l Z yy32 jdk_44_method_2_code 3 none ws ({ frames := 4, cells := 0, slots := 0, locals := 48 } : Room) #[(.ref xa), (.ref xx), (.ref xy)] h0 (Q_rL122 Z xa xx xy xu xv h0) := by
  refine oCon.of (plainFor_of_name pn_15) ?_
  intro p e s m below meth c T X hx hby hml hown hnm hret hlk hZ e0
  have hml : c.maxLocals = 3 := hml
  have K : oKp h0 h0 [xa] [] := oKp.nil _ _
  refine oWk.cast (g' := (mkF m 0 #[rv xa, rv xx, rv xy] [])) (by first | rfl | (simp [entryFrame, mkF, argsToLocals, Value.category]; done)) ?_
  refine oWk.st (fun _ kt => XS.aloadN X.here hx rfl (hb hby d34_0) rfl rfl kt) ?_
  have Oh := K.old O0 (allS og_xa all0)
  obtain ⟨_, _, ⟨T, L2, k2, n2⟩, -, X, ⟨Lc2, hQ, l2, y2, z2⟩, st⟩ := X.specialBack hx (y := yy27) rfl hown (mvT hZ (oW hw 190 rfl)) (mvT hZ (oW hw 191 rfl)) (mvT hZ (oW hw 195 rfl)) (by decide) (backOf (W := 0) (rAIL l Z a0 hw [] xa h0 Oh ) hZ (oW hw 195 rfl) (oW hw 194 rfl) (by decide) (by decide)) (g := (mkF m 1 #[rv xa, rv xx, rv xy] [(.ref xa)])) rfl (by rw [hml]; rfl) (Steps.refl _) (a := xa) (argsL := []) (rest := []) (lenOf pd_3 rfl) rfl (Nat.le_of_eq rfl) (hb hby d34_1) (fun _ _ => ⟨rfl, e0, (by decide : 0 + 0 ≤ _), (by decide : 0 + 0 ≤ _)⟩)
  dsimp only [Pt.U, Pt.locs, Pt.cells, Pt.slots] at X l2 y2 z2 st hQ
  subst l2 y2 z2
  obtain ⟨rfl, e0, K1⟩ := hQ
  have K := K.call K1 all0
  rw [e0] at K
  refine oWk.tr st ?_
  refine oWk.st (fun _ kt => XS.aloadN X.here hx rfl (hb hby d34_4) rfl rfl (XS.aloadN X.here hx rfl (hb hby d34_5) rfl rfl kt)) ?_
  have Oh := K.old O0 (allS og_xa all0)
  obtain ⟨_, _, ⟨T, L4, k4, n4⟩, -, X, ⟨Lc4, hQ, l4, y4, z4⟩, st⟩ := Jvm.LawKit.callS X hx (y := yy28) hown (mvT hZ (oW hw 204 rfl)) (mvT hZ (oW hw 205 rfl)) (mvT hZ (oW hw 206 rfl)) (mvT hZ (oW hw 207 rfl)) (by decide) (backOf (W := 1) (rRNN l Z a0 hw [] xx h0 Oh ) hZ (oW hw 207 rfl) (oW hw 206 rfl) (by decide) (by decide)) (g := (mkF m 6 #[rv xa, rv xx, rv xy] [(.ref xx), (.ref xa)])) rfl (by rw [hml]; rfl) (argsL := [(.ref xx)]) (rest := [(.ref xa)]) (lenOf pd_16 rfl) rfl (Nat.le_of_eq rfl) (hb hby d34_6) (fun _ _ => ⟨rfl, e0, (by decide : 0 + 0 ≤ _), (by decide : 0 + 0 ≤ _)⟩)
  dsimp only [Pt.U, Pt.locs, Pt.cells, Pt.slots] at X l4 y4 z4 st hQ
  subst l4 y4 z4
  obtain ⟨rfl, e0, K3⟩ := hQ
  have K := K.call K3 all0
  rw [e0] at K
  refine oWk.st st ?_
  obtain ⟨T, h, X, e0, W5, st⟩ := putF X hx hZ hown (host := "") (Or.inl (oW hw 208 rfl)) Via.refl e0 F_e0_xa E_xa (Or.inr ⟨(oW hw 209 rfl), rfl, hnm⟩) (oW hw 184 rfl) (ty := (.object "java/lang/Object")) (by decide) rfl rfl (g := (mkF m 9 #[rv xa, rv xx, rv xy] [(.ref xx), (.ref xa)])) rfl rfl (hb hby d34_9)
  refine oWk.st st ?_
  have K := K.wr W5 (Or.inl (List.mem_of_getElem? (i := 0) rfl))
  have F_e0_xa := F_e0_xa.same W5
  refine oWk.st (fun _ kt => XS.aloadN X.here hx rfl (hb hby d34_12) rfl rfl (XS.aloadN X.here hx rfl (hb hby d34_13) rfl rfl kt)) ?_
  have Oh := K.old O0 (allS og_xa all0)
  obtain ⟨_, _, ⟨T, L7, k7, n7⟩, -, X, ⟨Lc7, hQ, l7, y7, z7⟩, st⟩ := Jvm.LawKit.callS X hx (y := yy28) hown (mvT hZ (oW hw 204 rfl)) (mvT hZ (oW hw 205 rfl)) (mvT hZ (oW hw 206 rfl)) (mvT hZ (oW hw 207 rfl)) (by decide) (backOf (W := 1) (rRNN l Z a0 hw [] xy h Oh ) hZ (oW hw 207 rfl) (oW hw 206 rfl) (by decide) (by decide)) (g := (mkF m 14 #[rv xa, rv xx, rv xy] [(.ref xy), (.ref xa)])) rfl (by rw [hml]; rfl) (argsL := [(.ref xy)]) (rest := [(.ref xa)]) (lenOf pd_16 rfl) rfl (Nat.le_of_eq rfl) (hb hby d34_14) (fun _ _ => ⟨rfl, e0, (by decide : 0 + 0 ≤ _), (by decide : 0 + 0 ≤ _)⟩)
  dsimp only [Pt.U, Pt.locs, Pt.cells, Pt.slots] at X l7 y7 z7 st hQ
  subst l7 y7 z7
  obtain ⟨rfl, e0, K6⟩ := hQ
  have K := K.call K6 all0
  rw [e0] at K
  refine oWk.st st ?_
  have E_xa := (E_xa.wr W5)
  have F_e1_xa := (F_e1_xa.other W5 (Or.inr (slot_ne (Or.inr (oW hw 212 rfl)) (Or.inr (oW hw 209 rfl)) (by decide) (t := (.object "java/lang/Object")) (t' := (.object "java/lang/Object")) (by decide) (by decide))))
  obtain ⟨T, h, X, e0, W8, st⟩ := putF X hx hZ hown (host := "") (Or.inl (oW hw 211 rfl)) Via.refl e0 F_e1_xa E_xa (Or.inr ⟨(oW hw 212 rfl), rfl, hnm⟩) (oW hw 184 rfl) (ty := (.object "java/lang/Object")) (by decide) rfl rfl (g := (mkF m 17 #[rv xa, rv xx, rv xy] [(.ref xy), (.ref xa)])) rfl rfl (hb hby d34_17)
  refine oWk.st st ?_
  have K := K.wr W8 (Or.inl (List.mem_of_getElem? (i := 0) rfl))
  have F_e1_xa := F_e1_xa.same W8
  have E_xa := (E_xa.wr W8)
  have F_e0_xa := (F_e0_xa.other W8 (Or.inr (slot_ne (Or.inr (oW hw 209 rfl)) (Or.inr (oW hw 212 rfl)) (by decide) (t := (.object "java/lang/Object")) (t' := (.object "java/lang/Object")) (by decide) (by decide))))
  exact oRetV X hx hlk hret (hb hby d34_20) (by rw [e0]; exact ⟨rfl, K, E_xa, F_e0_xa, F_e1_xa⟩) (by decide) (by decide)
def Q_rOf_2 (Z : State) (xf : Addr) (xk : ClassId) (xe0 : Addr) (xe1 : Addr) (h0 : Heap) (v : Option Value) (h : Heap) (L : List Loc) : Prop := ∃ (nl : Addr), v = some (.ref nl) ∧ oKp h0 h [] L ∧ (h0.size ≤ nl) ∧ (Exa Z h nl "java/util/ImmutableCollections$List12") ∧ (Fld Z h nl "java/util/ImmutableCollections$List12" "e0" "Ljava/lang/Object;" (.ref xe0)) ∧ (Fld Z h nl "java/util/ImmutableCollections$List12" "e1" "Ljava/lang/Object;" (.ref xe1))
theorem d27_45 : decode jdk_40_method_47_code 45 = .ok (.new 96, 3) := by decide +kernel
theorem d27_48 : decode jdk_40_method_47_code 48 = .ok (.dup, 1) := by decide +kernel
theorem d27_49 : decode jdk_40_method_47_code 49 = .ok (.aload_n 0, 1) := by decide +kernel
theorem d27_50 : decode jdk_40_method_47_code 50 = .ok (.iconst 0, 1) := by decide +kernel
theorem d27_51 : decode jdk_40_method_47_code 51 = .ok (.aaload, 1) := by decide +kernel
theorem d27_52 : decode jdk_40_method_47_code 52 = .ok (.aload_n 0, 1) := by decide +kernel
theorem d27_53 : decode jdk_40_method_47_code 53 = .ok (.iconst 1, 1) := by decide +kernel
theorem d27_54 : decode jdk_40_method_47_code 54 = .ok (.aaload, 1) := by decide +kernel
theorem d27_55 : decode jdk_40_method_47_code 55 = .ok (.invokespecial 100, 3) := by decide +kernel
theorem pd_19 : parseMethodDescriptor "(Ljava/lang/Object;Ljava/lang/Object;)V" = some ⟨[(.object "java/lang/Object"), (.object "java/lang/Object")], none⟩ := by decide +kernel
theorem d27_58 : decode jdk_40_method_47_code 58 = .ok (.areturn, 1) := by decide +kernel
theorem rOf_2 (l : Launch) (Z : State) (a0 : Array Value) (hw : ∀ d ∈ tables_1, d.before a0 Z = true) (ws : List Jvm.Cond) (xf : Addr) (xk : ClassId) (xe0 : Addr) (xe1 : Addr) (h0 : Heap) (O0 : Ext Z.heap h0) (V_xf : Arv Z h0 xf xk (.object "java/lang/Object") (2 : Int32) [(.ref xe0), (.ref xe1)] .null) (I_xe0 : Ins Z h0 xe0 "java/lang/Object" true) (I_xe1 : Ins Z h0 xe1 "java/lang/Object" true) :
    oCon l Z yy30 jdk_40_method_47_code 2 (some (.object "java/util/List")) ws ({ frames := 5, cells := 1, slots := 2, locals := 63 } : Room) #[(.ref xf)] h0 (Q_rOf_2 Z xf xk xe0 xe1 h0) := by
  refine oCon.of (plainFor_of_name pn_9) ?_
  intro p e s m below meth c T X hx hby hml hown hnm hret hlk hZ e0
  have hml : c.maxLocals = 2 := hml
  have K : oKp h0 h0 [] [] := oKp.nil _ _
  refine oWk.cast (g' := (mkF m 0 #[rv xf, uu] [])) (by first | rfl | (simp [entryFrame, mkF, argsToLocals, Value.category]; done)) ?_
  refine oWk.st (fun _ kt => XS.aloadN X.here hx rfl (hb hby d27_0) rfl rfl kt) ?_
  obtain ⟨cl1, Ar1, q1, Sz1, Nn1, Hs1, Ft1⟩ := id V_xf
  refine oWk.st (fun _ kt => X.arraylength hx (by rw [e0]; exact Ar1.1) (State.isArrayOf_alike hZ.alike Ar1.2.1) (g := (mkF m 1 #[rv xf, uu] [(.ref xf)])) rfl rfl (hb hby d27_1) _ kt) ?_
  rw [len_of Sz1 Nn1]
  refine oWk.st (fun _ kt => XS.tswIn X.here hx rfl (pc0 := 2) (pc' := 45) rfl (hb hby d27_2) rfl (by decide) rfl (by decide) (by decide) kt) ?_
  obtain ⟨o2, g2⟩ : ∃ z, z = h0.size := ⟨_, rfl⟩
  have ne_xf_o2 : xf ≠ o2 := Nat.ne_of_lt (Nat.lt_of_lt_of_le V_xf.lt (Nat.le_of_eq g2.symm))
  have ge_o2 : h0.size ≤ o2 := Nat.le_trans K.le (Nat.le_of_eq g2.symm)
  obtain ⟨T, h, X, e0, E2, A2, D2, -, st⟩ := newO X hx hZ hown (oW hw 183 rfl) (oW hw 184 rfl) (oW hw 185 rfl) e0 (g := (mkF m 45 #[rv xf, uu] [])) rfl (hb hby d27_45) (by decide) (by decide)
  rw [← g2] at A2 D2 st
  refine oWk.st st ?_
  have K := K.ext E2
  have E_o2 := A2
  have F_e0_o2 : Fld Z h o2 "java/util/ImmutableCollections$List12" "e0" "Ljava/lang/Object;" .null := D2 (Or.inr (oW hw 209 rfl)) (ty := (.object "java/lang/Object")) (by decide)
  have F_e1_o2 : Fld Z h o2 "java/util/ImmutableCollections$List12" "e1" "Ljava/lang/Object;" .null := D2 (Or.inr (oW hw 212 rfl)) (ty := (.object "java/lang/Object")) (by decide)
  refine oWk.st (fun _ kt => XS.dup X.here hx rfl (hb hby d27_48) rfl rfl (XS.aloadN X.here hx rfl (hb hby d27_49) rfl rfl (XS.iconst X.here hx rfl (hb hby d27_50) kt))) ?_
  have V_xf := (V_xf.ext E2)
  obtain ⟨cl3, Ar3, q3, Sz3, Nn3, Hs3, Ft3⟩ := id V_xf
  have hin3 : ¬ ((0 : Int32) < 0 ∨ cl3.slots.size ≤ ((0 : Int32)).toNatClampNeg) := inb_of Sz3 ⟨by decide, by decide⟩
  have hat3 : cl3.slots[((0 : Int32)).toNatClampNeg]? = some (.ref xe0) := Hs3.at hin3 rfl
  refine oWk.st (fun _ kt => X.aaload hx (j := (0 : Int32)) (v := (.ref xe0)) (by rw [e0]; exact Ar3.1) (State.isArrayOf_alike hZ.alike Ar3.2.1) rfl Ar3.2.2 hin3 hat3 (g := (mkF m 51 #[rv xf, uu] [(.int 0), (.ref xf), (.ref o2), (.ref o2)])) rfl rfl (hb hby d27_51) _ kt) ?_
  refine oWk.st (fun _ kt => XS.aloadN X.here hx rfl (hb hby d27_52) rfl rfl (XS.iconst X.here hx rfl (hb hby d27_53) kt)) ?_
  obtain ⟨cl4, Ar4, q4, Sz4, Nn4, Hs4, Ft4⟩ := id V_xf
  have hin4 : ¬ ((1 : Int32) < 0 ∨ cl4.slots.size ≤ ((1 : Int32)).toNatClampNeg) := inb_of Sz4 ⟨by decide, by decide⟩
  have hat4 : cl4.slots[((1 : Int32)).toNatClampNeg]? = some (.ref xe1) := Hs4.at hin4 rfl
  refine oWk.st (fun _ kt => X.aaload hx (j := (1 : Int32)) (v := (.ref xe1)) (by rw [e0]; exact Ar4.1) (State.isArrayOf_alike hZ.alike Ar4.2.1) rfl Ar4.2.2 hin4 hat4 (g := (mkF m 54 #[rv xf, uu] [(.int 1), (.ref xf), (.ref xe0), (.ref o2), (.ref o2)])) rfl rfl (hb hby d27_54) _ kt) ?_
  have Oh := K.old O0 all0
  obtain ⟨_, _, ⟨T, L6, k6, n6⟩, -, X, ⟨Lc6, hQ, l6, y6, z6⟩, st⟩ := X.specialBack hx (y := yy32) rfl hown (mvT hZ (oW hw 232 rfl)) (mvT hZ (oW hw 233 rfl)) (mvT hZ (oW hw 234 rfl)) (by decide) (backOf (W := 1) (rL122 l Z a0 hw [] o2 xe0 xe1 .null .null h Oh (Nat.le_trans O0.1 ge_o2) E_o2 F_e0_o2 F_e1_o2) hZ (oW hw 234 rfl) (oW hw 185 rfl) (by decide) (by decide)) (g := (mkF m 55 #[rv xf, uu] [(.ref xe1), (.ref xe0), (.ref o2), (.ref o2)])) rfl (by rw [hml]; rfl) (Steps.refl _) (a := o2) (argsL := [(.ref xe0), (.ref xe1)]) (rest := [(.ref o2)]) (lenOf pd_19 rfl) rfl (Nat.le_of_eq rfl) (hb hby d27_55) (fun _ _ => ⟨rfl, e0, (by decide : 1 + 0 ≤ _), (by decide : 2 + 0 ≤ _)⟩)
  dsimp only [Pt.U, Pt.locs, Pt.cells, Pt.slots] at X l6 y6 z6 st hQ
  subst l6 y6 z6
  obtain ⟨h, e0⟩ : ∃ z, T.heap = z := ⟨_, rfl⟩
  rw [e0] at hQ
  obtain ⟨rfl, K5, E_o2, F_e0_o2, F_e1_o2⟩ := hQ
  have K := K.call K5 (allS (Or.inr ge_o2) all0)
  refine oWk.tr st ?_
  exact oRetA X hx hlk hret rfl rfl (hb hby d27_58) (by rw [e0]; exact ⟨o2, rfl, K, ge_o2, E_o2, F_e0_o2, F_e1_o2⟩) (by decide) (by decide)
def Q_rLC_2 (Z : State) (xa : Addr) (xf : Addr) (xmr : Addr) (xk : ClassId) (xe0 : Addr) (xe1 : Addr) (h0 : Heap) (v : Option Value) (h : Heap) (L : List Loc) : Prop := ∃ (nl : Addr), v = some (.ref nl) ∧ oKp h0 h [] L ∧ (h0.size ≤ nl) ∧ (Exa Z h nl "java/util/ImmutableCollections$List12") ∧ (Fld Z h nl "java/util/ImmutableCollections$List12" "e0" "Ljava/lang/Object;" (.ref xe0)) ∧ (Fld Z h nl "java/util/ImmutableCollections$List12" "e1" "Ljava/lang/Object;" (.ref xe1))
theorem rLC_2 (l : Launch) (Z : State) (a0 : Array Value) (hw : ∀ d ∈ tables_1, d.before a0 Z = true) (ws : List Jvm.Cond) (xa : Addr) (xf : Addr) (xmr : Addr) (xk : ClassId) (xe0 : Addr) (xe1 : Addr) (h0 : Heap) (O0 : Ext Z.heap h0) (mm_ : oMir Z "[Ljava/lang/Object;" xmr) (E_xa : Exa Z h0 xa "java/util/ArrayList") (F_elementData_xa : Fld Z h0 xa "java/util/ArrayList" "elementData" "[Ljava/lang/Object;" (.ref xf)) (F_size_xa : Fld Z h0 xa "java/util/ArrayList" "size" "I" (.int (2 : Int32))) (E_xf : Exa Z h0 xf "[Ljava/lang/Object;") (V_xf : Arv Z h0 xf xk (.object "java/lang/Object") (10 : Int32) [(.ref xe0), (.ref xe1), .null, .null, .null, .null, .null, .null, .null, .null] .null) (I_xe0 : Ins Z h0 xe0 "java/lang/Object" true) (I_xe1 : Ins Z h0 xe1 "java/lang/Object" true) :
    oCon l Z yy13 jdk_56_method_3_code 2 (some (.object "java/util/List")) ws ({ frames := 6, cells := 2, slots := 4, locals := 76 } : Room) #[(.ref xa)] h0 (Q_rLC_2 Z xa xf xmr xk xe0 xe1 h0) := by
  refine oCon.of (plainFor_of_name pn_10) ?_
  intro p e s m below meth c T X hx hby hml hown hnm hret hlk hZ e0
  have hml : c.maxLocals = 2 := hml
  have K : oKp h0 h0 [] [] := oKp.nil _ _
  refine oWk.cast (g' := (mkF m 0 #[rv xa, uu] [])) (by first | rfl | (simp [entryFrame, mkF, argsToLocals, Value.category]; done)) ?_
  refine oWk.st (fun _ kt => XS.aloadN X.here hx rfl (hb hby d12_0) rfl rfl kt) ?_
  obtain ⟨T, X, e0, st⟩ := instNo X hx hZ hown (oW hw 70 rfl) e0 E_xa (oNSno (oW hw 71 rfl) (oW hw 184 rfl) (NS.step (oW hw 71 rfl) (NS.step (oW hw 72 rfl) (NS.step (oW hw 73 rfl) (oNSroot (oW hw 74 rfl) (oW hw 184 rfl) (by decide)) (by decide)) (by decide)) (by decide)) (by decide)) (g := (mkF m 1 #[rv xa, uu] [(.ref xa)])) rfl rfl (hb hby d12_1)
  refine oWk.st st ?_
  refine oWk.st (fun _ kt => XS.ifNo X.here hx rfl (hb hby d12_4) rfl ((if0 _ _).trans (teq (by decide)).2) (XS.aloadN X.here hx rfl (hb hby d12_7) rfl rfl kt)) ?_
  obtain ⟨T, X, e0, st⟩ := instNo X hx hZ hown (oW hw 75 rfl) e0 E_xa (oNSno (oW hw 71 rfl) (oW hw 218 rfl) (NS.step (oW hw 71 rfl) (NS.step (oW hw 72 rfl) (NS.step (oW hw 73 rfl) (oNSroot (oW hw 74 rfl) (oW hw 218 rfl) (by decide)) (by decide)) (by decide)) (by decide)) (by decide)) (g := (mkF m 8 #[rv xa, uu] [(.ref xa)])) rfl rfl (hb hby d12_8)
  refine oWk.st st ?_
  refine oWk.st (fun _ kt => XS.ifYes X.here hx rfl (pc0 := 11) (pc' := 31) rfl (hb hby d12_11) rfl ((if0 _ _).trans (teq (by decide)).1) (by decide) (by decide) (XS.aloadN X.here hx rfl (hb hby d12_31) rfl rfl kt)) ?_
  have Oh := K.old O0 all0
  obtain ⟨cq2, kq2, q2a, q2b, q2c⟩ := isOf hZ e0 E_xa
  obtain ⟨_, _, ⟨T, L2, k2, n2⟩, -, X, ⟨Lc2, hQ, l2, y2, z2⟩, st⟩ := X.interfaceBack hx (xi := yy14) (y := yy11) hown (mvT hZ (oW hw 76 rfl)) (mvT hZ (oW hw 77 rfl)) (mvT hZ (oW hw 78 rfl)) (mvT hZ (oW hw 79 rfl)) (mvT hZ (oW hw 80 rfl)) (mvT hZ (oW hw 81 rfl)) (mvT hZ (oW hw 82 rfl)) (mvT hZ (oW hw 83 rfl)) (by decide) (backOf (W := 0) (rEmp2 l Z a0 hw [] xa h0 Oh F_size_xa) hZ (oW hw 84 rfl) (oW hw 28 rfl) (by decide) (by decide)) q2a q2b q2c (g := (mkF m 32 #[rv xa, uu] [(.ref xa)])) rfl (by rw [hml]; rfl) (Steps.refl _) (argsL := []) (rest := []) (lenOf pd_5 rfl) rfl (Nat.le_of_eq rfl) (hb hby d12_32) (fun _ _ => ⟨rfl, e0, (by decide : 0 + 0 ≤ _), (by decide : 0 + 0 ≤ _)⟩)
  dsimp only [Pt.U, Pt.locs, Pt.cells, Pt.slots] at X l2 y2 z2 st hQ
  subst l2 y2 z2
  obtain ⟨rfl, e0, K1⟩ := hQ
  have K := K.call K1 all0
  rw [e0] at K
  refine oWk.tr st ?_
  refine oWk.st (fun _ kt => XS.ifYes X.here hx rfl (pc0 := 37) (pc' := 44) rfl (hb hby d12_37) rfl ((if0 _ _).trans (teq (by decide)).1) (by decide) (by decide) (XS.aloadN X.here hx rfl (hb hby d12_44) rfl rfl kt)) ?_
  have lt_xa := E_xa.lt
  have lt_xf := E_xf.lt
  have Oh := K.old O0 all0
  obtain ⟨cq4, kq4, q4a, q4b, q4c⟩ := isOf hZ e0 E_xa
  obtain ⟨_, _, ⟨T, L4, k4, n4⟩, -, X, ⟨Lc4, hQ, l4, y4, z4⟩, st⟩ := X.interfaceBack hx (xi := yy31) (y := yy25) hown (mvT hZ (oW hw 150 rfl)) (mvT hZ (oW hw 151 rfl)) (mvT hZ (oW hw 152 rfl)) (mvT hZ (oW hw 153 rfl)) (mvT hZ (oW hw 154 rfl)) (mvT hZ (oW hw 155 rfl)) (mvT hZ (oW hw 156 rfl)) (mvT hZ (oW hw 83 rfl)) (by decide) (backOf (W := 0) (rTA_2 l Z a0 hw [] xa xf xmr xk xe0 xe1 h0 Oh mm_ F_elementData_xa F_size_xa E_xf V_xf I_xe0 I_xe1) hZ (oW hw 157 rfl) (oW hw 28 rfl) (by decide) (by decide)) q4a q4b q4c (g := (mkF m 45 #[rv xa, uu] [(.ref xa)])) rfl (by rw [hml]; rfl) (Steps.refl _) (argsL := []) (rest := []) (lenOf pd_11 rfl) rfl (Nat.le_of_eq rfl) (hb hby d12_45) (fun _ _ => ⟨rfl, e0, (by decide : 0 + 1 ≤ _), (by decide : 0 + 2 ≤ _)⟩)
  dsimp only [Pt.U, Pt.locs, Pt.cells, Pt.slots] at X l4 y4 z4 st hQ
  subst l4 y4 z4
  obtain ⟨h, e0⟩ : ∃ z, T.heap = z := ⟨_, rfl⟩
  rw [e0] at hQ
  obtain ⟨nb3, nj3, rfl, K3, gn_nb3, E_nb3, V_nb3, ov_nj3⟩ := hQ
  have ge_nb3 := Nat.le_trans K.le gn_nb3
  have ne_xa_nb3 : xa ≠ nb3 := Nat.ne_of_lt (Nat.lt_of_lt_of_le lt_xa gn_nb3)
  have ne_xf_nb3 : xf ≠ nb3 := Nat.ne_of_lt (Nat.lt_of_lt_of_le lt_xf gn_nb3)
  have K := K.call K3 all0
  refine oWk.tr st ?_
  have I_xe0 := (oInsKeep I_xe0 K3.1)
  have I_xe1 := (oInsKeep I_xe1 K3.1)
  have E_xa := (E_xa.keep K3.1)
  have lt_xa := E_xa.lt
  have E_xf := (E_xf.keep K3.1)
  have lt_xf := E_xf.lt
  have lt_nb3 := E_nb3.lt
  have Oh := K.old O0 all0
  obtain ⟨_, _, ⟨T, L6, k6, n6⟩, -, X, ⟨Lc6, hQ, l6, y6, z6⟩, st⟩ := Jvm.LawKit.callS X hx (y := yy30) hown (mvT hZ (oW hw 180 rfl)) (mvT hZ (oW hw 181 rfl)) (mvT hZ (oW hw 64 rfl)) (mvT hZ (oW hw 182 rfl)) (by decide) (backOf (W := 0) (rOf_2 l Z a0 hw [] nb3 nj3 xe0 xe1 h Oh V_nb3 I_xe0 I_xe1) hZ (oW hw 182 rfl) (oW hw 64 rfl) (by decide) (by decide)) (g := (mkF m 50 #[rv xa, uu] [(.ref nb3)])) rfl (by rw [hml]; rfl) (argsL := [(.ref nb3)]) (rest := []) (lenOf pd_18 rfl) rfl (Nat.le_of_eq rfl) (hb hby d12_50) (fun _ _ => ⟨rfl, e0, (by decide : 1 + 1 ≤ _), (by decide : 2 + 2 ≤ _)⟩)
  dsimp only [Pt.U, Pt.locs, Pt.cells, Pt.slots] at X l6 y6 z6 st hQ
  subst l6 y6 z6
  obtain ⟨h, e0⟩ : ∃ z, T.heap = z := ⟨_, rfl⟩
  rw [e0] at hQ
  obtain ⟨nl5, rfl, K5, gn_nl5, E_nl5, F_e0_nl5, F_e1_nl5⟩ := hQ
  have ge_nl5 := Nat.le_trans K.le gn_nl5
  have ne_xa_nl5 : xa ≠ nl5 := Nat.ne_of_lt (Nat.lt_of_lt_of_le lt_xa gn_nl5)
  have ne_xf_nl5 : xf ≠ nl5 := Nat.ne_of_lt (Nat.lt_of_lt_of_le lt_xf gn_nl5)
  have ne_nb3_nl5 : nb3 ≠ nl5 := Nat.ne_of_lt (Nat.lt_of_lt_of_le lt_nb3 gn_nl5)
  have K := K.call K5 all0
  refine oWk.st st ?_
  exact oRetA X hx hlk hret rfl rfl (hb hby d12_53) (by rw [e0]; exact ⟨nl5, rfl, K, ge_nl5, E_nl5, F_e0_nl5, F_e1_nl5⟩) (by decide) (by decide)
def Q_rCO_2 (Z : State) (xa : Addr) (xf : Addr) (xmr : Addr) (xk : ClassId) (xe0 : Addr) (xe1 : Addr) (h0 : Heap) (v : Option Value) (h : Heap) (L : List Loc) : Prop := ∃ (nl : Addr), v = some (.ref nl) ∧ oKp h0 h [] L ∧ (h0.size ≤ nl) ∧ (Exa Z h nl "java/util/ImmutableCollections$List12") ∧ (Fld Z h nl "java/util/ImmutableCollections$List12" "e0" "Ljava/lang/Object;" (.ref xe0)) ∧ (Fld Z h nl "java/util/ImmutableCollections$List12" "e1" "Ljava/lang/Object;" (.ref xe1))
theorem rCO_2 (l : Launch) (Z : State) (a0 : Array Value) (hw : ∀ d ∈ tables_1, d.before a0 Z = true) (ws : List Jvm.Cond) (xa : Addr) (xf : Addr) (xmr : Addr) (xk : ClassId) (xe0 : Addr) (xe1 : Addr) (h0 : Heap) (O0 : Ext Z.heap h0) (mm_ : oMir Z "[Ljava/lang/Object;" xmr) (E_xa : Exa Z h0 xa "java/util/ArrayList") (F_elementData_xa : Fld Z h0 xa "java/util/ArrayList" "elementData" "[Ljava/lang/Object;" (.ref xf)) (F_size_xa : Fld Z h0 xa "java/util/ArrayList" "size" "I" (.int (2 : Int32))) (E_xf : Exa Z h0 xf "[Ljava/lang/Object;") (V_xf : Arv Z h0 xf xk (.object "java/lang/Object") (10 : Int32) [(.ref xe0), (.ref xe1), .null, .null, .null, .null, .null, .null, .null, .null] .null) (I_xe0 : Ins Z h0 xe0 "java/lang/Object" true) (I_xe1 : Ins Z h0 xe1 "java/lang/Object" true) :
    oCon l Z yy15 jdk_40_method_48_code 1 (some (.object "java/util/List")) ws ({ frames := 7, cells := 2, slots := 4, locals := 89 } : Room) #[(.ref xa)] h0 (Q_rCO_2 Z xa xf xmr xk xe0 xe1 h0) := by
  refine oCon.of (plainFor_of_name pn_9) ?_
  intro p e s m below meth c T X hx hby hml hown hnm hret hlk hZ e0
  have hml : c.maxLocals = 1 := hml
  have K : oKp h0 h0 [] [] := oKp.nil _ _
  refine oWk.cast (g' := (mkF m 0 #[rv xa] [])) (by first | rfl | (simp [entryFrame, mkF, argsToLocals, Value.category]; done)) ?_
  refine oWk.st (fun _ kt => XS.aloadN X.here hx rfl (hb hby d11_0) rfl rfl kt) ?_
  have lt_xa := E_xa.lt
  have lt_xf := E_xf.lt
  have Oh := K.old O0 all0
  obtain ⟨_, _, ⟨T, L2, k2, n2⟩, -, X, ⟨Lc2, hQ, l2, y2, z2⟩, st⟩ := Jvm.LawKit.callS X hx (y := yy13) hown (mvT hZ (oW hw 66 rfl)) (mvT hZ (oW hw 67 rfl)) (mvT hZ (oW hw 68 rfl)) (mvT hZ (oW hw 69 rfl)) (by decide) (backOf (W := 0) (rLC_2 l Z a0 hw [] xa xf xmr xk xe0 xe1 h0 Oh mm_ E_xa F_elementData_xa F_size_xa E_xf V_xf I_xe0 I_xe1) hZ (oW hw 69 rfl) (oW hw 68 rfl) (by decide) (by decide)) (g := (mkF m 1 #[rv xa] [(.ref xa)])) rfl (by rw [hml]; rfl) (argsL := [(.ref xa)]) (rest := []) (lenOf pd_7 rfl) rfl (Nat.le_of_eq rfl) (hb hby d11_1) (fun _ _ => ⟨rfl, e0, (by decide : 0 + 2 ≤ _), (by decide : 0 + 4 ≤ _)⟩)
  dsimp only [Pt.U, Pt.locs, Pt.cells, Pt.slots] at X l2 y2 z2 st hQ
  subst l2 y2 z2
  obtain ⟨h, e0⟩ : ∃ z, T.heap = z := ⟨_, rfl⟩
  rw [e0] at hQ
  obtain ⟨nl1, rfl, K1, gn_nl1, E_nl1, F_e0_nl1, F_e1_nl1⟩ := hQ
  have ge_nl1 := Nat.le_trans K.le gn_nl1
  have ne_xa_nl1 : xa ≠ nl1 := Nat.ne_of_lt (Nat.lt_of_lt_of_le lt_xa gn_nl1)
  have ne_xf_nl1 : xf ≠ nl1 := Nat.ne_of_lt (Nat.lt_of_lt_of_le lt_xf gn_nl1)
  have K := K.call K1 all0
  refine oWk.st st ?_
  exact oRetA X hx hlk hret rfl rfl (hb hby d11_4) (by rw [e0]; exact ⟨nl1, rfl, K, ge_nl1, E_nl1, F_e0_nl1, F_e1_nl1⟩) (by decide) (by decide)
def Q_rDI_0_2 (Z : State) (xa : Addr) (xs : Addr) (xi : Int32) (u1 : Value) (u2 : Value) (u3 : Value) (u4 : Value) (xg : Addr) (xh : Addr) (xhf : Addr) (xhk : ClassId) (xhe0 : Addr) (xhe1 : Addr) (xl : Addr) (xmr : Addr) (h0 : Heap) (v : Option Value) (h : Heap) (L : List Loc) : Prop := ∃ (nbl : Addr), v = none ∧ oKp h0 h [xa] L ∧ (Exa Z h xa "com/example/modwright/modwright/script/Directive") ∧ (Fld Z h xa "com/example/modwright/modwright/script/Directive" "block" "Ljava/util/List;" (.ref nbl))
theorem rDI_0_2 (l : Launch) (Z : State) (a0 : Array Value) (hw : ∀ d ∈ tables_1, d.before a0 Z = true) (ws : List Jvm.Cond) (xa : Addr) (xs : Addr) (xi : Int32) (u1 : Value) (u2 : Value) (u3 : Value) (u4 : Value) (xg : Addr) (xh : Addr) (xhf : Addr) (xhk : ClassId) (xhe0 : Addr) (xhe1 : Addr) (xl : Addr) (xmr : Addr) (h0 : Heap) (O0 : Ext Z.heap h0) (S_EMPTY_LIST : Sta Z Z.heap "java/util/ImmutableCollections" "EMPTY_LIST" "Ljava/util/ImmutableCollections$ListN;" (.ref xl)) (mm_ : oMir Z "[Ljava/lang/Object;" xmr) (og_xa : Z.heap.size ≤ xa) (E_xa : Exa Z h0 xa "com/example/modwright/modwright/script/Directive") (F_name_xa : Fld Z h0 xa "com/example/modwright/modwright/script/Directive" "name" "Ljava/lang/String;" u1) (F_line_xa : Fld Z h0 xa "com/example/modwright/modwright/script/Directive" "line" "I" u2) (F_arguments_xa : Fld Z h0 xa "com/example/modwright/modwright/script/Directive" "arguments" "Ljava/util/List;" u3) (F_block_xa : Fld Z h0 xa "com/example/modwright/modwright/script/Directive" "block" "Ljava/util/List;" u4) (E_xg : Exa Z h0 xg "java/util/ArrayList") (F_size_xg : Fld Z h0 xg "java/util/ArrayList" "size" "I" (.int (0 : Int32))) (E_xh : Exa Z h0 xh "java/util/ArrayList") (F_elementData_xh : Fld Z h0 xh "java/util/ArrayList" "elementData" "[Ljava/lang/Object;" (.ref xhf)) (F_size_xh : Fld Z h0 xh "java/util/ArrayList" "size" "I" (.int (2 : Int32))) (E_xhf : Exa Z h0 xhf "[Ljava/lang/Object;") (V_xhf : Arv Z h0 xhf xhk (.object "java/lang/Object") (10 : Int32) [(.ref xhe0), (.ref xhe1), .null, .null, .null, .null, .null, .null, .null, .null] .null) (I_xhe0 : Ins Z h0 xhe0 "java/lang/Object" true) (I_xhe1 : Ins Z h0 xhe1 "java/lang/Object" true) :
    oCon l Z yy16 prog_45_method_1_code 5 none ws ({ frames := 8, cells := 2, slots := 4, locals := 101 } : Room) #[(.ref xa), (.ref xs), (.int xi), (.ref xg), (.ref xh)] h0 (Q_rDI_0_2 Z xa xs xi u1 u2 u3 u4 xg xh xhf xhk xhe0 xhe1 xl xmr h0) := by
  refine oCon.of (plainFor_of_name pn_4) ?_
  intro p e s m below meth c T X hx hby hml hown hnm hret hlk hZ e0
  have hml : c.maxLocals = 5 := hml
  have K : oKp h0 h0 [xa] [] := oKp.nil _ _
  refine oWk.cast (g' := (mkF m 0 #[rv xa, rv xs, iv xi, rv xg, rv xh] [])) (by first | rfl | (simp [entryFrame, mkF, argsToLocals, Value.category]; done)) ?_
  refine oWk.st (fun _ kt => XS.aloadN X.here hx rfl (hb hby d9_0) rfl rfl kt) ?_
  have Oh := K.old O0 (allS og_xa all0)
  obtain ⟨_, _, ⟨T, L2, k2, n2⟩, -, X, ⟨Lc2, hQ, l2, y2, z2⟩, st⟩ := X.specialBack hx (y := yy4) rfl hown (mvT hZ (oW hw 56 rfl)) (mvT hZ (oW hw 57 rfl)) (mvT hZ (oW hw 60 rfl)) (by decide) (backOf (W := 0) (rRec l Z a0 hw [] xa h0 Oh ) hZ (oW hw 60 rfl) (oW hw 59 rfl) (by decide) (by decide)) (g := (mkF m 1 #[rv xa, rv xs, iv xi, rv xg, rv xh] [(.ref xa)])) rfl (by rw [hml]; rfl) (Steps.refl _) (a := xa) (argsL := []) (rest := []) (lenOf pd_3 rfl) rfl (Nat.le_of_eq rfl) (hb hby d9_1) (fun _ _ => ⟨rfl, e0, (by decide : 0 + 0 ≤ _), (by decide : 0 + 0 ≤ _)⟩)
  dsimp only [Pt.U, Pt.locs, Pt.cells, Pt.slots] at X l2 y2 z2 st hQ
  subst l2 y2 z2
  obtain ⟨rfl, e0, K1⟩ := hQ
  have K := K.call K1 all0
  rw [e0] at K
  refine oWk.tr st ?_
  refine oWk.st (fun _ kt => XS.aconstNull X.here hx rfl (hb hby d9_4) (XS.aloadN X.here hx rfl (hb hby d9_5) rfl rfl kt)) ?_
  refine oWk.st (fun _ kt => Jvm.RoadKit.acmp (g := (mkF m 6 #[rv xa, rv xs, iv xi, rv xg, rv xh] [(.ref xs), .null])) X hx rfl rfl rfl (pc0 := 6) (pc' := 23) (same := false) rfl (hb hby d9_6) rfl (decide_eq_false nofun) (by decide) (by decide) kt) ?_
  show oWk _ _ _ _ T (mkF m 23 #[rv xa, rv xs, iv xi, rv xg, rv xh] [])
  refine oWk.st (fun _ kt => XS.aloadN X.here hx rfl (hb hby d9_23) rfl rfl kt) ?_
  have Oh := K.old O0 (allS og_xa all0)
  obtain ⟨_, _, ⟨T, L4, k4, n4⟩, -, X, ⟨Lc4, hQ, l4, y4, z4⟩, st⟩ := Jvm.LawKit.callS X hx (y := yy15) hown (mvT hZ (oW hw 62 rfl)) (mvT hZ (oW hw 63 rfl)) (mvT hZ (oW hw 64 rfl)) (mvT hZ (oW hw 65 rfl)) (by decide) (backOf (W := 0) (rCO0 l Z a0 hw [] xg xl h0 Oh S_EMPTY_LIST E_xg F_size_xg) hZ (oW hw 65 rfl) (oW hw 64 rfl) (by decide) (by decide)) (g := (mkF m 24 #[rv xa, rv xs, iv xi, rv xg, rv xh] [(.ref xg)])) rfl (by rw [hml]; rfl) (argsL := [(.ref xg)]) (rest := []) (lenOf pd_7 rfl) rfl (Nat.le_of_eq rfl) (hb hby d9_24) (fun _ _ => ⟨rfl, e0, (by decide : 0 + 0 ≤ _), (by decide : 0 + 0 ≤ _)⟩)
  dsimp only [Pt.U, Pt.locs, Pt.cells, Pt.slots] at X l4 y4 z4 st hQ
  subst l4 y4 z4
  obtain ⟨rfl, e0, K3⟩ := hQ
  have K := K.call K3 all0
  rw [e0] at K
  refine oWk.st st ?_
  refine oWk.st (fun _ kt => XS.astoreN X.here hx rfl (hb hby d9_27) rfl rfl (l' := #[rv xa, rv xs, iv xi, rv xl, rv xh]) rfl (XS.aconstNull X.here hx rfl (hb hby d9_28) (XS.aload X.here hx rfl (hb hby d9_29) rfl rfl kt))) ?_
  refine oWk.st (fun _ kt => Jvm.RoadKit.acmp (g := (mkF m 31 #[rv xa, rv xs, iv xi, rv xl, rv xh] [(.ref xh), .null])) X hx rfl rfl rfl (pc0 := 31) (pc' := 34) (same := false) rfl (hb hby d9_31) rfl (decide_eq_false nofun) (by decide) (by decide) kt) ?_
  show oWk _ _ _ _ T (mkF m 34 #[rv xa, rv xs, iv xi, rv xl, rv xh] [])
  refine oWk.st (fun _ kt => XS.aload X.here hx rfl (hb hby d9_34) rfl rfl kt) ?_
  have lt_xa := E_xa.lt
  have lt_xg := E_xg.lt
  have lt_xh := E_xh.lt
  have lt_xhf := E_xhf.lt
  have Oh := K.old O0 (allS og_xa all0)
  obtain ⟨_, _, ⟨T, L6, k6, n6⟩, -, X, ⟨Lc6, hQ, l6, y6, z6⟩, st⟩ := Jvm.LawKit.callS X hx (y := yy15) hown (mvT hZ (oW hw 62 rfl)) (mvT hZ (oW hw 63 rfl)) (mvT hZ (oW hw 64 rfl)) (mvT hZ (oW hw 65 rfl)) (by decide) (backOf (W := 0) (rCO_2 l Z a0 hw [] xh xhf xmr xhk xhe0 xhe1 h0 Oh mm_ E_xh F_elementData_xh F_size_xh E_xhf V_xhf I_xhe0 I_xhe1) hZ (oW hw 65 rfl) (oW hw 64 rfl) (by decide) (by decide)) (g := (mkF m 36 #[rv xa, rv xs, iv xi, rv xl, rv xh] [(.ref xh)])) rfl (by rw [hml]; rfl) (argsL := [(.ref xh)]) (rest := []) (lenOf pd_7 rfl) rfl (Nat.le_of_eq rfl) (hb hby d9_36) (fun _ _ => ⟨rfl, e0, (by decide : 0 + 2 ≤ _), (by decide : 0 + 4 ≤ _)⟩)
  dsimp only [Pt.U, Pt.locs, Pt.cells, Pt.slots] at X l6 y6 z6 st hQ
  subst l6 y6 z6
  obtain ⟨h, e0⟩ : ∃ z, T.heap = z := ⟨_, rfl⟩
  rw [e0] at hQ
  obtain ⟨nl5, rfl, K5, gn_nl5, E_nl5, F_e0_nl5, F_e1_nl5⟩ := hQ
  have ge_nl5 := Nat.le_trans K.le gn_nl5
  have ne_xa_nl5 : xa ≠ nl5 := Nat.ne_of_lt (Nat.lt_of_lt_of_le lt_xa gn_nl5)
  have ne_xg_nl5 : xg ≠ nl5 := Nat.ne_of_lt (Nat.lt_of_lt_of_le lt_xg gn_nl5)
  have ne_xh_nl5 : xh ≠ nl5 := Nat.ne_of_lt (Nat.lt_of_lt_of_le lt_xh gn_nl5)
  have ne_xhf_nl5 : xhf ≠ nl5 := Nat.ne_of_lt (Nat.lt_of_lt_of_le lt_xhf gn_nl5)
  have K := K.call K5 all0
  refine oWk.st st ?_
  refine oWk.st (fun _ kt => XS.astore X.here hx rfl (hb hby d9_39) rfl rfl (l' := #[rv xa, rv xs, iv xi, rv xl, rv nl5]) rfl (XS.aloadN X.here hx rfl (hb hby d9_41) rfl rfl (XS.aloadN X.here hx rfl (hb hby d9_42) rfl rfl kt))) ?_
  have E_xa := (E_xa.keep K5.1)
  have F_name_xa := (F_name_xa.keep K5.1 nin0)
  obtain ⟨T, h, X, e0, W7, st⟩ := putF X hx hZ hown (host := "") (Or.inl (oW hw 91 rfl)) Via.refl e0 F_name_xa E_xa (Or.inr ⟨(oW hw 92 rfl), rfl, hnm⟩) (oW hw 51 rfl) (ty := (.object "java/lang/String")) (by decide) rfl rfl (g := (mkF m 43 #[rv xa, rv xs, iv xi, rv xl, rv nl5] [(.ref xs), (.ref xa)])) rfl rfl (hb hby d9_43)
  refine oWk.st st ?_
  have K := K.wr W7 (Or.inl (List.mem_of_getElem? (i := 0) rfl))
  have F_name_xa := F_name_xa.same W7
  refine oWk.st (fun _ kt => XS.aloadN X.here hx rfl (hb hby d9_46) rfl rfl (XS.iloadN X.here hx rfl (hb hby d9_47) rfl kt)) ?_
  have E_xa := (E_xa.wr W7)
  have F_line_xa := ((F_line_xa.keep K5.1 nin0).other W7 (Or.inr (slot_ne (Or.inr (oW hw 94 rfl)) (Or.inr (oW hw 92 rfl)) (by decide) (t := .int) (t' := (.object "java/lang/String")) (by decide) (by decide))))
  obtain ⟨T, h, X, e0, W8, st⟩ := putF X hx hZ hown (host := "") (Or.inl (oW hw 93 rfl)) Via.refl e0 F_line_xa E_xa (Or.inr ⟨(oW hw 94 rfl), rfl, hnm⟩) (oW hw 51 rfl) (ty := .int) (by decide) rfl rfl (g := (mkF m 48 #[rv xa, rv xs, iv xi, rv xl, rv nl5] [(.int xi), (.ref xa)])) rfl rfl (hb hby d9_48)
  refine oWk.st st ?_
  have K := K.wr W8 (Or.inl (List.mem_of_getElem? (i := 0) rfl))
  have F_line_xa := F_line_xa.same W8
  refine oWk.st (fun _ kt => XS.aloadN X.here hx rfl (hb hby d9_51) rfl rfl (XS.aloadN X.here hx rfl (hb hby d9_52) rfl rfl kt)) ?_
  have E_xa := (E_xa.wr W8)
  have F_arguments_xa := (((F_arguments_xa.keep K5.1 nin0).other W7 (Or.inr (slot_ne (Or.inr (oW hw 96 rfl)) (Or.inr (oW hw 92 rfl)) (by decide) (t := (.object "java/util/List")) (t' := (.object "java/lang/String")) (by decide) (by decide)))).other W8 (Or.inr (slot_ne (Or.inr (oW hw 96 rfl)) (Or.inr (oW hw 94 rfl)) (by decide) (t := (.object "java/util/List")) (t' := .int) (by decide) (by decide))))
  obtain ⟨T, h, X, e0, W9, st⟩ := putF X hx hZ hown (host := "") (Or.inl (oW hw 95 rfl)) Via.refl e0 F_arguments_xa E_xa (Or.inr ⟨(oW hw 96 rfl), rfl, hnm⟩) (oW hw 51 rfl) (ty := (.object "java/util/List")) (by decide) rfl rfl (g := (mkF m 53 #[rv xa, rv xs, iv xi, rv xl, rv nl5] [(.ref xl), (.ref xa)])) rfl rfl (hb hby d9_53)
  refine oWk.st st ?_
  have K := K.wr W9 (Or.inl (List.mem_of_getElem? (i := 0) rfl))
  have F_arguments_xa := F_arguments_xa.same W9
  refine oWk.st (fun _ kt => XS.aloadN X.here hx rfl (hb hby d9_56) rfl rfl (XS.aload X.here hx rfl (hb hby d9_57) rfl rfl kt)) ?_
  have E_xa := (E_xa.wr W9)
  have F_block_xa := ((((F_block_xa.keep K5.1 nin0).other W7 (Or.inr (slot_ne (Or.inr (oW hw 98 rfl)) (Or.inr (oW hw 92 rfl)) (by decide) (t := (.object "java/util/List")) (t' := (.object "java/lang/String")) (by decide) (by decide)))).other W8 (Or.inr (slot_ne (Or.inr (oW hw 98 rfl)) (Or.inr (oW hw 94 rfl)) (by decide) (t := (.object "java/util/List")) (t' := .int) (by decide) (by decide)))).other W9 (Or.inr (slot_ne (Or.inr (oW hw 98 rfl)) (Or.inr (oW hw 96 rfl)) (by decide) (t := (.object "java/util/List")) (t' := (.object "java/util/List")) (by decide) (by decide))))
  obtain ⟨T, h, X, e0, W10, st⟩ := putF X hx hZ hown (host := "") (Or.inl (oW hw 97 rfl)) Via.refl e0 F_block_xa E_xa (Or.inr ⟨(oW hw 98 rfl), rfl, hnm⟩) (oW hw 51 rfl) (ty := (.object "java/util/List")) (by decide) rfl rfl (g := (mkF m 59 #[rv xa, rv xs, iv xi, rv xl, rv nl5] [(.ref nl5), (.ref xa)])) rfl rfl (hb hby d9_59)
  refine oWk.st st ?_
  have K := K.wr W10 (Or.inl (List.mem_of_getElem? (i := 0) rfl))
  have F_block_xa := F_block_xa.same W10
  have E_xa := (E_xa.wr W10)
  exact oRetV X hx hlk hret (hb hby d9_62) (by rw [e0]; exact ⟨nl5, rfl, K, E_xa, F_block_xa⟩) (by decide) (by decide)
def Q_rA3_2 (Z : State) (xa : Addr) (xx : Addr) (xf : Addr) (xk : ClassId) (xm : Int32) (xe0 : Addr) (xe1 : Addr) (h0 : Heap) (v : Option Value) (h : Heap) (L : List Loc) : Prop := v = none ∧ oKp h0 h [xa, xf] L ∧ (Exa Z h xa "java/util/ArrayList") ∧ (Fld Z h xa "java/util/ArrayList" "elementData" "[Ljava/lang/Object;" (.ref xf)) ∧ (Fld Z h xa "java/util/ArrayList" "size" "I" (.int (3 : Int32))) ∧ (Fld Z h xa "java/util/AbstractList" "modCount" "I" (.int xm)) ∧ (Exa Z h xf "[Ljava/lang/Object;") ∧ (Arv Z h xf xk (.object "java/lang/Object") (10 : Int32) [(.ref xe0), (.ref xe1), (.ref xx), .null, .null, .null, .null, .null, .null, .null] .null)
theorem rA3_2 (l : Launch) (Z : State) (a0 : Array Value) (hw : ∀ d ∈ tables_1, d.before a0 Z = true) (ws : List Jvm.Cond) (xa : Addr) (xx : Addr) (xf : Addr) (xk : ClassId) (xm : Int32) (xe0 : Addr) (xe1 : Addr) (h0 : Heap) (O0 : Ext Z.heap h0) (og_xa : Z.heap.size ≤ xa) (og_xf : Z.heap.size ≤ xf) (ne_xa_xf : xa ≠ xf) (E_xa : Exa Z h0 xa "java/util/ArrayList") (F_elementData_xa : Fld Z h0 xa "java/util/ArrayList" "elementData" "[Ljava/lang/Object;" (.ref xf)) (F_size_xa : Fld Z h0 xa "java/util/ArrayList" "size" "I" (.int (2 : Int32))) (F_modCount_xa : Fld Z h0 xa "java/util/AbstractList" "modCount" "I" (.int xm)) (E_xf : Exa Z h0 xf "[Ljava/lang/Object;") (V_xf : Arv Z h0 xf xk (.object "java/lang/Object") (10 : Int32) [(.ref xe0), (.ref xe1), .null, .null, .null, .null, .null, .null, .null, .null] .null) (ov_xk : Ovr Z xk "java/lang/Object") (I_xx : Ins Z h0 xx "java/lang/Object" true) :
    oCon l Z yy20 jdk_38_method_24_code 4 none ws ({ frames := 0, cells := 0, slots := 0, locals := 0 } : Room) #[(.ref xa), (.ref xx), (.ref xf), (.int (2 : Int32))] h0 (Q_rA3_2 Z xa xx xf xk xm xe0 xe1 h0) := by
  refine oCon.of (plainFor_of_name pn_7) ?_
  intro p e s m below meth c T X hx hby hml hown hnm hret hlk hZ e0
  have hml : c.maxLocals = 4 := hml
  have K : oKp h0 h0 [xa, xf] [] := oKp.nil _ _
  refine oWk.cast (g' := (mkF m 0 #[rv xa, rv xx, rv xf, iv 2] [])) (by first | rfl | (simp [entryFrame, mkF, argsToLocals, Value.category]; done)) ?_
  refine oWk.st (fun _ kt => XS.iloadN X.here hx rfl (hb hby d16_0) rfl (XS.aloadN X.here hx rfl (hb hby d16_1) rfl rfl kt)) ?_
  obtain ⟨cl1, Ar1, q1, Sz1, Nn1, Hs1, Ft1⟩ := id V_xf
  refine oWk.st (fun _ kt => X.arraylength hx (by rw [e0]; exact Ar1.1) (State.isArrayOf_alike hZ.alike Ar1.2.1) (g := (mkF m 2 #[rv xa, rv xx, rv xf, iv 2] [(.ref xf), (.int 2)])) rfl rfl (hb hby d16_2) _ kt) ?_
  rw [len_of Sz1 Nn1]
  refine oWk.st (fun _ kt => XS.icmpYes X.here hx rfl (pc0 := 3) (pc' := 11) rfl (hb hby d16_3) rfl (feq (by decide)).2 (by decide) (by decide) (XS.aloadN X.here hx rfl (hb hby d16_11) rfl rfl (XS.iloadN X.here hx rfl (hb hby d16_12) rfl (XS.aloadN X.here hx rfl (hb hby d16_13) rfl rfl kt)))) ?_
  obtain ⟨cl2, Ar2, q2, Sz2, Nn2, Hs2, Ft2⟩ := id V_xf
  have hin2 : ¬ ((2 : Int32) < 0 ∨ cl2.slots.size ≤ ((2 : Int32)).toNatClampNeg) := inb_of Sz2 ⟨by decide, by decide⟩
  obtain ⟨T, h, X, e0, W2, st⟩ := stR X hx hZ e0 Ar2 (j := (2 : Int32)) hin2 rfl (Sto.ofV Ar2 q2 ov_xk I_xx) (g := (mkF m 14 #[rv xa, rv xx, rv xf, iv 2] [(.ref xx), (.int 2), (.ref xf)])) rfl rfl (hb hby d16_14)
  refine oWk.st st ?_
  have K := K.wr W2 (Or.inl (List.mem_of_getElem? (i := 1) rfl))
  have V_xf : Arv Z h xf xk (.object "java/lang/Object") (10 : Int32) [(.ref xe0), (.ref xe1), (.ref xx), .null, .null, .null, .null, .null, .null, .null] .null := Arv.set Ar2 q2 Sz2 Nn2 Hs2 Ft2 rfl W2 2 rfl (Nat.le_of_ble_eq_true rfl)
  refine oWk.st (fun _ kt => XS.aloadN X.here hx rfl (hb hby d16_15) rfl rfl (XS.iloadN X.here hx rfl (hb hby d16_16) rfl (XS.iconst X.here hx rfl (hb hby d16_17) (XS.iadd X.here hx rfl (hb hby d16_18) rfl kt)))) ?_
  show oWk _ _ _ _ T (mkF m 19 #[rv xa, rv xx, rv xf, iv 2] [(.int ((2 : Int32) + (1 : Int32))), (.ref xa)])
  rw [show ((2 : Int32) + (1 : Int32)) = (3 : Int32) from by decide]
  show oWk _ _ _ _ T (mkF m 19 #[rv xa, rv xx, rv xf, iv 2] [(.int 3), (.ref xa)])
  have E_xa := (E_xa.wr W2)
  have F_size_xa := (F_size_xa.other W2 (Or.inl ne_xa_xf))
  obtain ⟨T, h, X, e0, W3, st⟩ := putF X hx hZ hown (host := "") (Or.inl (oW hw 85 rfl)) Via.refl e0 F_size_xa E_xa (Or.inl (oW hw 86 rfl)) (oW hw 27 rfl) (ty := .int) (by decide) rfl rfl (g := (mkF m 19 #[rv xa, rv xx, rv xf, iv 2] [(.int 3), (.ref xa)])) rfl rfl (hb hby d16_19)
  refine oWk.st st ?_
  have K := K.wr W3 (Or.inl (List.mem_of_getElem? (i := 0) rfl))
  have F_size_xa := F_size_xa.same W3
  have E_xa := (E_xa.wr W3)
  have F_elementData_xa := ((F_elementData_xa.other W2 (Or.inl ne_xa_xf)).other W3 (Or.inr (slot_ne (Or.inl (oW hw 49 rfl)) (Or.inl (oW hw 86 rfl)) (by decide) (t := (.array (.object "java/lang/Object"))) (t' := .int) (by decide) (by decide))))
  have F_modCount_xa := ((F_modCount_xa.other W2 (Or.inl ne_xa_xf)).other W3 (Or.inr (slot_ne (Or.inl (oW hw 46 rfl)) (Or.inl (oW hw 86 rfl)) (by decide) (t := .int) (t' := .int) (by decide) (by decide))))
  have E_xf := ((E_xf.wr W2).wr W3)
  have V_xf := (V_xf.other W3 (Ne.symm ne_xa_xf))
  exact oRetV X hx hlk hret (hb hby d16_22) (by rw [e0]; exact ⟨rfl, K, E_xa, F_elementData_xa, F_size_xa, F_modCount_xa, E_xf, V_xf⟩) (by decide) (by decide)
def Q_rAd_2 (Z : State) (xa : Addr) (xx : Addr) (xf : Addr) (xk : ClassId) (xm : Int32) (xe0 : Addr) (xe1 : Addr) (h0 : Heap) (v : Option Value) (h : Heap) (L : List Loc) : Prop := v = some (.int (1 : Int32)) ∧ oKp h0 h [xa, xf] L ∧ (Exa Z h xa "java/util/ArrayList") ∧ (Fld Z h xa "java/util/ArrayList" "elementData" "[Ljava/lang/Object;" (.ref xf)) ∧ (Fld Z h xa "java/util/ArrayList" "size" "I" (.int (3 : Int32))) ∧ (Fld Z h xa "java/util/AbstractList" "modCount" "I" (.int (xm + (1 : Int32)))) ∧ (Exa Z h xf "[Ljava/lang/Object;") ∧ (Arv Z h xf xk (.object "java/lang/Object") (10 : Int32) [(.ref xe0), (.ref xe1), (.ref xx), .null, .null, .null, .null, .null, .null, .null] .null)
theorem rAd_2 (l : Launch) (Z : State) (a0 : Array Value) (hw : ∀ d ∈ tables_1, d.before a0 Z = true) (ws : List Jvm.Cond) (xa : Addr) (xx : Addr) (xf : Addr) (xk : ClassId) (xm : Int32) (xe0 : Addr) (xe1 : Addr) (h0 : Heap) (O0 : Ext Z.heap h0) (og_xa : Z.heap.size ≤ xa) (og_xf : Z.heap.size ≤ xf) (ne_xa_xf : xa ≠ xf) (E_xa : Exa Z h0 xa "java/util/ArrayList") (F_elementData_xa : Fld Z h0 xa "java/util/ArrayList" "elementData" "[Ljava/lang/Object;" (.ref xf)) (F_size_xa : Fld Z h0 xa "java/util/ArrayList" "size" "I" (.int (2 : Int32))) (F_modCount_xa : Fld Z h0 xa "java/util/AbstractList" "modCount" "I" (.int xm)) (E_xf : Exa Z h0 xf "[Ljava/lang/Object;") (V_xf : Arv Z h0 xf xk (.object "java/lang/Object") (10 : Int32) [(.ref xe0), (.ref xe1), .null, .null, .null, .null, .null, .null, .null, .null] .null) (ov_xk : Ovr Z xk "java/lang/Object") (I_xx : Ins Z h0 xx "java/lang/Object" true) :
    oCon l Z yy21 jdk_38_method_25_code 2 (some .boolean) ws ({ frames := 1, cells := 0, slots := 0, locals := 15 } : Room) #[(.ref xa), (.ref xx)] h0 (Q_rAd_2 Z xa xx xf xk xm xe0 xe1 h0) := by
  refine oCon.of (plainFor_of_name pn_7) ?_
  intro p e s m below meth c T X hx hby hml hown hnm hret hlk hZ e0
  have hml : c.maxLocals = 2 := hml
  have K : oKp h0 h0 [xa, xf] [] := oKp.nil _ _
  refine oWk.cast (g' := (mkF m 0 #[rv xa, rv xx] [])) (by first | rfl | (simp [entryFrame, mkF, argsToLocals, Value.category]; done)) ?_
  refine oWk.st (fun _ kt => XS.aloadN X.here hx rfl (hb hby d15_0) rfl rfl (XS.dup X.here hx rfl (hb hby d15_1) rfl rfl kt)) ?_
  obtain ⟨T, X, e0, st⟩ := getF X hx hZ hown (host := "") (Or.inl (oW hw 104 rfl)) (Via.of (oW hw 105 rfl)) e0 F_modCount_xa (g := (mkF m 2 #[rv xa, rv xx] [(.ref xa), (.ref xa)])) rfl rfl (hb hby d15_2)
  refine oWk.st st ?_
  refine oWk.st (fun _ kt => XS.iconst X.here hx rfl (hb hby d15_5) (XS.iadd X.here hx rfl (hb hby d15_6) rfl kt)) ?_
  obtain ⟨T, h, X, e0, W1, st⟩ := putF X hx hZ hown (host := "") (Or.inl (oW hw 104 rfl)) (Via.of (oW hw 105 rfl)) e0 F_modCount_xa E_xa (Or.inl (oW hw 46 rfl)) (oW hw 27 rfl) (ty := .int) (by decide) rfl rfl (g := (mkF m 7 #[rv xa, rv xx] [(.int (xm + (1 : Int32))), (.ref xa)])) rfl rfl (hb hby d15_7)
  refine oWk.st st ?_
  have K := K.wr W1 (Or.inl (List.mem_of_getElem? (i := 0) rfl))
  have F_modCount_xa := F_modCount_xa.same W1
  refine oWk.st (fun _ kt => XS.aloadN X.here hx rfl (hb hby d15_10) rfl rfl (XS.aloadN X.here hx rfl (hb hby d15_11) rfl rfl (XS.aloadN X.here hx rfl (hb hby d15_12) rfl rfl kt))) ?_
  have F_elementData_xa := (F_elementData_xa.other W1 (Or.inr (slot_ne (Or.inl (oW hw 49 rfl)) (Or.inl (oW hw 46 rfl)) (by decide) (t := (.array (.object "java/lang/Object"))) (t' := .int) (by decide) (by decide))))
  obtain ⟨T, X, e0, st⟩ := getF X hx hZ hown (host := "") (Or.inl (oW hw 48 rfl)) Via.refl e0 F_elementData_xa (g := (mkF m 13 #[rv xa, rv xx] [(.ref xa), (.ref xx), (.ref xa)])) rfl rfl (hb hby d15_13)
  refine oWk.st st ?_
  refine oWk.st (fun _ kt => XS.aloadN X.here hx rfl (hb hby d15_16) rfl rfl kt) ?_
  have F_size_xa := (F_size_xa.other W1 (Or.inr (slot_ne (Or.inl (oW hw 86 rfl)) (Or.inl (oW hw 46 rfl)) (by decide) (t := .int) (t' := .int) (by decide) (by decide))))
  obtain ⟨T, X, e0, st⟩ := getF X hx hZ hown (host := "") (Or.inl (oW hw 85 rfl)) Via.refl e0 F_size_xa (g := (mkF m 17 #[rv xa, rv xx] [(.ref xa), (.ref xf), (.ref xx), (.ref xa)])) rfl rfl (hb hby d15_17)
  refine oWk.st st ?_
  have E_xa := (E_xa.wr W1)
  have E_xf := (E_xf.wr W1)
  have V_xf := (V_xf.other W1 (Ne.symm ne_xa_xf))
  have I_xx := (I_xx.wr W1)
  have Oh := K.old O0 (allS og_xa (allS og_xf all0))
  obtain ⟨cq3, q3, q3'⟩ := E_xa.cell
  obtain ⟨_, _, ⟨T, L3, k3, n3⟩, -, X, ⟨Lc3, hQ, l3, y3, z3⟩, st⟩ := X.privateBack hx (y := yy20) hown (mvT hZ (oW hw 106 rfl)) (mvT hZ (oW hw 107 rfl)) (mvT hZ (oW hw 109 rfl)) (Cond.privateMethod_at (mvP hZ (oW hw 108 rfl) (args := #[]))) (mvT hZ (oW hw 110 rfl)) (by decide) (backOf (W := 0) (rA3_2 l Z a0 hw [] xa xx xf xk (xm + (1 : Int32)) xe0 xe1 h Oh og_xa og_xf ne_xa_xf E_xa F_elementData_xa F_size_xa F_modCount_xa E_xf V_xf ov_xk I_xx) hZ (oW hw 110 rfl) (oW hw 28 rfl) (by decide) (by decide)) (g := (mkF m 20 #[rv xa, rv xx] [(.int 2), (.ref xf), (.ref xx), (.ref xa)])) rfl (by rw [hml]; rfl) (Steps.refl _) (a := xa) (by rw [e0]; exact q3) q3' (argsL := [(.ref xx), (.ref xf), (.int (2 : Int32))]) (rest := []) (lenOf pd_12 rfl) rfl (Nat.le_of_eq rfl) (hb hby d15_20) (fun _ _ => ⟨rfl, e0, (by decide : 0 + 0 ≤ _), (by decide : 0 + 0 ≤ _)⟩)
  dsimp only [Pt.U, Pt.locs, Pt.cells, Pt.slots] at X l3 y3 z3 st hQ
  subst l3 y3 z3
  obtain ⟨h, e0⟩ : ∃ z, T.heap = z := ⟨_, rfl⟩
  rw [e0] at hQ
  obtain ⟨rfl, K2, E_xa, F_elementData_xa, F_size_xa, F_modCount_xa, E_xf, V_xf⟩ := hQ
  have K := K.call K2 (allS (Or.inl (List.mem_of_getElem? (i := 0) rfl)) (allS (Or.inl (List.mem_of_getElem? (i := 1) rfl)) all0))
  refine oWk.tr st ?_
  refine oWk.st (fun _ kt => XS.iconst X.here hx rfl (hb hby d15_23) kt) ?_
  show oWk _ _ _ _ T (mkF m 24 #[rv xa, rv xx] [(.int 1)])
  exact oRetZ X hx hlk hret (hb hby d15_24) (Or.inr rfl) (by rw [e0]; exact ⟨rfl, K, E_xa, F_elementData_xa, F_size_xa, F_modCount_xa, E_xf, V_xf⟩) (by decide) (by decide)
def Q_rEmp3 (Z : State) (xa : Addr) (h0 : Heap) (v : Option Value) (h : Heap) (L : List Loc) : Prop := v = some (.int (0 : Int32)) ∧ h = h0 ∧ oKp h0 h [] L
theorem rEmp3 (l : Launch) (Z : State) (a0 : Array Value) (hw : ∀ d ∈ tables_1, d.before a0 Z = true) (ws : List Jvm.Cond) (xa : Addr) (h0 : Heap) (O0 : Ext Z.heap h0) (F_size_xa : Fld Z h0 xa "java/util/ArrayList" "size" "I" (.int (3 : Int32))) :
    oCon l Z yy11 jdk_38_method_9_code 1 (some .boolean) ws ({ frames := 0, cells := 0, slots := 0, locals := 0 } : Room) #[(.ref xa)] h0 (Q_rEmp3 Z xa h0) := by
  refine oCon.of (plainFor_of_name pn_7) ?_
  intro p e s m below meth c T X hx hby hml hown hnm hret hlk hZ e0
  have hml : c.maxLocals = 1 := hml
  have K : oKp h0 h0 [] [] := oKp.nil _ _
  refine oWk.cast (g' := (mkF m 0 #[rv xa] [])) (by first | rfl | (simp [entryFrame, mkF, argsToLocals, Value.category]; done)) ?_
  refine oWk.st (fun _ kt => XS.aloadN X.here hx rfl (hb hby d13_0) rfl rfl kt) ?_
  obtain ⟨T, X, e0, st⟩ := getF X hx hZ hown (host := "") (Or.inl (oW hw 85 rfl)) Via.refl e0 F_size_xa (g := (mkF m 1 #[rv xa] [(.ref xa)])) rfl rfl (hb hby d13_1)
  refine oWk.st st ?_
  refine oWk.st (fun _ kt => XS.ifYes X.here hx rfl (pc0 := 4) (pc' := 11) rfl (hb hby d13_4) rfl ((if0 _ _).trans (feq (by decide)).2) (by decide) (by decide) (XS.iconst X.here hx rfl (hb hby d13_11) kt)) ?_
  show oWk _ _ _ _ T (mkF m 12 #[rv xa] [(.int 0)])
  exact oRetZ X hx hlk hret (hb hby d13_12) (Or.inl rfl) (by rw [e0]; exact ⟨rfl, rfl, K⟩) (by decide) (by decide)
def Q_rMin3 (Z : State)  (h0 : Heap) (v : Option Value) (h : Heap) (L : List Loc) : Prop := v = some (.int (3 : Int32)) ∧ h = h0 ∧ oKp h0 h [] L
theorem rMin3 (l : Launch) (Z : State) (a0 : Array Value) (hw : ∀ d ∈ tables_1, d.before a0 Z = true) (ws : List Jvm.Cond)  (h0 : Heap) (O0 : Ext Z.heap h0)  :
    oCon l Z yy22 jdk_29_method_69_code 2 (some .int) ws ({ frames := 0, cells := 0, slots := 0, locals := 0 } : Room) #[(.int (10 : Int32)), (.int (3 : Int32))] h0 (Q_rMin3 Z  h0) := by
  refine oCon.of (Jvm.Free.JP.mathPlain rfl (by decide +kernel)) ?_
  intro p e s m below meth c T X hx hby hml hown hnm hret hlk hZ e0
  have hml : c.maxLocals = 2 := hml
  have K : oKp h0 h0 [] [] := oKp.nil _ _
  refine oWk.cast (g' := (mkF m 0 #[iv 10, iv 3] [])) (by first | rfl | (simp [entryFrame, mkF, argsToLocals, Value.category]; done)) ?_
  refine oWk.st (fun _ kt => XS.iloadN X.here hx rfl (hb hby d26_0) rfl (XS.iloadN X.here hx rfl (hb hby d26_1) rfl (XS.icmpYes X.here hx rfl (pc0 := 2) (pc' := 9) rfl (hb hby d26_2) rfl (tlt (by decide)).2.2.1 (by decide) (by decide) (XS.iloadN X.here hx rfl (hb hby d26_9) rfl kt)))) ?_
  show oWk _ _ _ _ T (mkF m 10 #[iv 10, iv 3] [(.int 3)])
  exact oRetI X hx hlk hret (hb hby d26_10) (by rw [e0]; exact ⟨rfl, rfl, K⟩) (by decide) (by decide)
def Q_rCp3_3 (Z : State) (xf : Addr) (xmr : Addr) (xk : ClassId) (xe0 : Addr) (xe1 : Addr) (xe2 : Addr) (h0 : Heap) (v : Option Value) (h : Heap) (L : List Loc) : Prop := ∃ (nb : Addr) (nj : ClassId), v = some (.ref nb) ∧ oKp h0 h [] L ∧ (h0.size ≤ nb) ∧ (Exa Z h nb "[Ljava/lang/Object;") ∧ (Arv Z h nb nj (.object "java/lang/Object") (3 : Int32) [(.ref xe0), (.ref xe1), (.ref xe2)] .null) ∧ (Ovr Z nj "java/lang/Object")
theorem rCp3_3 (l : Launch) (Z : State) (a0 : Array Value) (hw : ∀ d ∈ tables_1, d.before a0 Z = true) (ws : List Jvm.Cond) (xf : Addr) (xmr : Addr) (xk : ClassId) (xe0 : Addr) (xe1 : Addr) (xe2 : Addr) (h0 : Heap) (O0 : Ext Z.heap h0) (mm_ : oMir Z "[Ljava/lang/Object;" xmr) (E_xf : Exa Z h0 xf "[Ljava/lang/Object;") (V_xf : Arv Z h0 xf xk (.object "java/lang/Object") (10 : Int32) [(.ref xe0), (.ref xe1), (.ref xe2), .null, .null, .null, .null, .null, .null, .null] .null) (I_xe0 : Ins Z h0 xe0 "java/lang/Object" true) (I_xe1 : Ins Z h0 xe1 "java/lang/Object" true) (I_xe2 : Ins Z h0 xe2 "java/lang/Object" true) :
    oCon l Z yy23 jdk_65_method_120_code 4 (some (.array (.object "java/lang/Object"))) ws ({ frames := 1, cells := 1, slots := 3, locals := 18 } : Room) #[(.ref xf), (.int (3 : Int32)), (.ref xmr)] h0 (Q_rCp3_3 Z xf xmr xk xe0 xe1 xe2 h0) := by
  refine oCon.of (plainFor_of_name pn_11) ?_
  intro p e s m below meth c T X hx hby hml hown hnm hret hlk hZ e0
  have hml : c.maxLocals = 4 := hml
  have K : oKp h0 h0 [] [] := oKp.nil _ _
  refine oWk.cast (g' := (mkF m 0 #[rv xf, iv 3, rv xmr, uu] [])) (by first | rfl | (simp [entryFrame, mkF, argsToLocals, Value.category]; done)) ?_
  refine oWk.st (fun _ kt => XS.aloadN X.here hx rfl (hb hby d25_0) rfl rfl kt) ?_
  obtain ⟨T, X, e0, st⟩ := oLdcM X hx hZ hown (oW hw 171 rfl) e0 mm_ (g := (mkF m 1 #[rv xf, iv 3, rv xmr, uu] [(.ref xmr)])) rfl (hb hby d25_1)
  refine oWk.st st ?_
  refine oWk.st (fun _ kt => Jvm.RoadKit.acmp (g := (mkF m 3 #[rv xf, iv 3, rv xmr, uu] [(.ref xmr), (.ref xmr)])) X hx rfl rfl rfl (pc0 := 3) (pc' := 6) (same := true) rfl (hb hby d25_3) rfl (decide_eq_true rfl) (by decide) (by decide) kt) ?_
  show oWk _ _ _ _ T (mkF m 6 #[rv xf, iv 3, rv xmr, uu] [])
  refine oWk.st (fun _ kt => XS.iloadN X.here hx rfl (hb hby d25_6) rfl kt) ?_
  obtain ⟨o1, g1⟩ : ∃ z, z = h0.size := ⟨_, rfl⟩
  have ne_xf_o1 : xf ≠ o1 := Nat.ne_of_lt (Nat.lt_of_lt_of_le E_xf.lt (Nat.le_of_eq g1.symm))
  have ge_o1 : h0.size ≤ o1 := Nat.le_trans K.le (Nat.le_of_eq g1.symm)
  obtain ⟨T, h, k1, X, e0, E1, A1, E_o1, O1, st⟩ := newRE X hx hZ hown (oW hw 172 rfl) (oW hw 126 rfl) e0 (g := (mkF m 7 #[rv xf, iv 3, rv xmr, uu] [(.int 3)])) rfl (hb hby d25_7) rfl (by decide) (cap := 3) (by decide) (by decide) (by decide) (by decide) (ad := "[Ljava/lang/Object;") (by decide)
  rw [← g1] at A1 E_o1 st
  refine oWk.st st ?_
  have K := K.ext E1
  have V_o1 : Arv Z h o1 k1 (.object "java/lang/Object") (3 : Int32) [.null, .null, .null] .null := (Arv.new A1 (by decide)).pad (pad_rep [] .null 3)
  refine oWk.st (fun _ kt => XS.goto X.here hx rfl (pc0 := 10) (pc' := 24) rfl (hb hby d25_10) (by decide) (by decide) (XS.astoreN X.here hx rfl (hb hby d25_24) rfl rfl (l' := #[rv xf, iv 3, rv xmr, rv o1]) rfl (XS.aloadN X.here hx rfl (hb hby d25_25) rfl rfl (XS.iconst X.here hx rfl (hb hby d25_26) (XS.aloadN X.here hx rfl (hb hby d25_27) rfl rfl (XS.iconst X.here hx rfl (hb hby d25_28) (XS.aloadN X.here hx rfl (hb hby d25_29) rfl rfl kt))))))) ?_
  have V_xf := (V_xf.ext E1)
  obtain ⟨cl2, Ar2, q2, Sz2, Nn2, Hs2, Ft2⟩ := id V_xf
  refine oWk.st (fun _ kt => X.arraylength hx (by rw [e0]; exact Ar2.1) (State.isArrayOf_alike hZ.alike Ar2.2.1) (g := (mkF m 30 #[rv xf, iv 3, rv xmr, rv o1] [(.ref xf), (.int 0), (.ref o1), (.int 0), (.ref xf)])) rfl rfl (hb hby d25_30) _ kt) ?_
  rw [len_of Sz2 Nn2]
  refine oWk.st (fun _ kt => XS.iloadN X.here hx rfl (hb hby d25_31) rfl kt) ?_
  have Oh := K.old O0 all0
  obtain ⟨_, _, ⟨T, L4, k4, n4⟩, -, X, ⟨Lc4, hQ, l4, y4, z4⟩, st⟩ := Jvm.LawKit.callS X hx (y := yy22) hown (mvT hZ (oW hw 173 rfl)) (mvT hZ (oW hw 174 rfl)) (mvT hZ (oW hw 123 rfl)) (mvT hZ (oW hw 175 rfl)) (by decide) (backOf (W := 4) (rMin3 l Z a0 hw []  h Oh ) hZ (oW hw 175 rfl) (oW hw 123 rfl) (by decide) (by decide)) (g := (mkF m 32 #[rv xf, iv 3, rv xmr, rv o1] [(.int 3), (.int 10), (.int 0), (.ref o1), (.int 0), (.ref xf)])) rfl (by rw [hml]; rfl) (argsL := [(.int (10 : Int32)), (.int (3 : Int32))]) (rest := [(.int (0 : Int32)), (.ref o1), (.int (0 : Int32)), (.ref xf)]) (lenOf pd_9 rfl) rfl (Nat.le_of_eq rfl) (hb hby d25_32) (fun _ _ => ⟨rfl, e0, (by decide : 1 + 0 ≤ _), (by decide : 3 + 0 ≤ _)⟩)
  dsimp only [Pt.U, Pt.locs, Pt.cells, Pt.slots] at X l4 y4 z4 st hQ
  subst l4 y4 z4
  obtain ⟨rfl, e0, K3⟩ := hQ
  have K := K.call K3 all0
  rw [e0] at K
  refine oWk.st st ?_
  obtain ⟨cl5, Ar5, q5, -⟩ := id V_o1
  have I_xe2 := (I_xe2.ext E1)
  have I_xe1 := (I_xe1.ext E1)
  have I_xe0 := (I_xe0.ext E1)
  obtain ⟨T, h, L5, X, e0, N5, C5, V5, st⟩ := cpA X hx hZ hown (oW hw 176 rfl) (oW hw 179 rfl) (oW hw 177 rfl) (oW hw 178 rfl) e0 (us := [(.ref xe0), (.ref xe1), (.ref xe2)]) V_xf V_o1 (Or.inr ⟨rfl, rfl, ⟨Sto.ofV Ar5 q5 O1 I_xe0, ⟨Sto.ofV Ar5 q5 O1 I_xe1, ⟨Sto.ofV Ar5 q5 O1 I_xe2, trivial⟩⟩⟩⟩) (by decide) (by decide) (by decide) (by decide) (by decide) rfl (by decide) K.fr ge_o1 (g := (mkF m 35 #[rv xf, iv 3, rv xmr, rv o1] [(.int 3), (.int 0), (.ref o1), (.int 0), (.ref xf)])) rfl (by rw [hml]; rfl) rfl (hb hby d25_35) (by decide) (W := 0) (Nat.le_of_eq rfl) (by decide)
  refine oWk.st st ?_
  have K : oKp h0 h [] L5 := ⟨K.1.trans C5 (allS (Or.inr ge_o1) all0), fun y hy => Or.inr (N5 y hy)⟩
  have V_o1 : Arv Z h o1 k1 (.object "java/lang/Object") (3 : Int32) [(.ref xe0), (.ref xe1), (.ref xe2)] .null := V5
  refine oWk.st (fun _ kt => XS.aloadN X.here hx rfl (hb hby d25_38) rfl rfl kt) ?_
  show oWk _ _ _ _ T (mkF m 39 #[rv xf, iv 3, rv xmr, rv o1] [(.ref o1)])
  have E_o1 := (E_o1.keep C5)
  exact oRetA X hx hlk hret rfl rfl (hb hby d25_39) (by rw [e0]; exact ⟨o1, k1, rfl, K, ge_o1, E_o1, V_o1, O1⟩) (by decide) (by decide)
def Q_rCp2_3 (Z : State) (xf : Addr) (xmr : Addr) (xk : ClassId) (xe0 : Addr) (xe1 : Addr) (xe2 : Addr) (h0 : Heap) (v : Option Value) (h : Heap) (L : List Loc) : Prop := ∃ (nb : Addr) (nj : ClassId), v = some (.ref nb) ∧ oKp h0 h [] L ∧ (h0.size ≤ nb) ∧ (Exa Z h nb "[Ljava/lang/Object;") ∧ (Arv Z h nb nj (.object "java/lang/Object") (3 : Int32) [(.ref xe0), (.ref xe1), (.ref xe2)] .null) ∧ (Ovr Z nj "java/lang/Object")
theorem rCp2_3 (l : Launch) (Z : State) (a0 : Array Value) (hw : ∀ d ∈ tables_1, d.before a0 Z = true) (ws : List Jvm.Cond) (xf : Addr) (xmr : Addr) (xk : ClassId) (xe0 : Addr) (xe1 : Addr) (xe2 : Addr) (h0 : Heap) (O0 : Ext Z.heap h0) (mm_ : oMir Z "[Ljava/lang/Object;" xmr) (E_xf : Exa Z h0 xf "[Ljava/lang/Object;") (V_xf : Arv Z h0 xf xk (.object "java/lang/Object") (10 : Int32) [(.ref xe0), (.ref xe1), (.ref xe2), .null, .null, .null, .null, .null, .null, .null] .null) (I_xe0 : Ins Z h0 xe0 "java/lang/Object" true) (I_xe1 : Ins Z h0 xe1 "java/lang/Object" true) (I_xe2 : Ins Z h0 xe2 "java/lang/Object" true) :
    oCon l Z yy24 jdk_65_method_119_code 2 (some (.array (.object "java/lang/Object"))) ws ({ frames := 2, cells := 1, slots := 3, locals := 33 } : Room) #[(.ref xf), (.int (3 : Int32))] h0 (Q_rCp2_3 Z xf xmr xk xe0 xe1 xe2 h0) := by
  refine oCon.of (plainFor_of_name pn_11) ?_
  intro p e s m below meth c T X hx hby hml hown hnm hret hlk hZ e0
  have hml : c.maxLocals = 2 := hml
  have K : oKp h0 h0 [] [] := oKp.nil _ _
  refine oWk.cast (g' := (mkF m 0 #[rv xf, iv 3] [])) (by first | rfl | (simp [entryFrame, mkF, argsToLocals, Value.category]; done)) ?_
  refine oWk.st (fun _ kt => XS.aloadN X.here hx rfl (hb hby d24_0) rfl rfl (XS.iloadN X.here hx rfl (hb hby d24_1) rfl (XS.aloadN X.here hx rfl (hb hby d24_2) rfl rfl kt))) ?_
  obtain ⟨T, X, e0, st⟩ := oGcls X hx hZ hown (oW hw 162 rfl) (oW hw 163 rfl) (oW hw 165 rfl) (oW hw 164 rfl) (oW hw 166 rfl) e0 E_xf mm_ (g := (mkF m 3 #[rv xf, iv 3] [(.ref xf), (.int 3), (.ref xf)])) rfl (by rw [hml]; rfl) rfl (hb hby d24_3) (by decide) (W := 2) (Nat.le_of_eq rfl) (by decide)
  refine oWk.st st ?_
  have lt_xf := E_xf.lt
  have Oh := K.old O0 all0
  obtain ⟨_, _, ⟨T, L2, k2, n2⟩, -, X, ⟨Lc2, hQ, l2, y2, z2⟩, st⟩ := Jvm.LawKit.callS X hx (y := yy23) hown (mvT hZ (oW hw 168 rfl)) (mvT hZ (oW hw 169 rfl)) (mvT hZ (oW hw 160 rfl)) (mvT hZ (oW hw 170 rfl)) (by decide) (backOf (W := 0) (rCp3_3 l Z a0 hw [] xf xmr xk xe0 xe1 xe2 h0 Oh mm_ E_xf V_xf I_xe0 I_xe1 I_xe2) hZ (oW hw 170 rfl) (oW hw 160 rfl) (by decide) (by decide)) (g := (mkF m 6 #[rv xf, iv 3] [(.ref xmr), (.int 3), (.ref xf)])) rfl (by rw [hml]; rfl) (argsL := [(.ref xf), (.int (3 : Int32)), (.ref xmr)]) (rest := []) (lenOf pd_14 rfl) rfl (Nat.le_of_eq rfl) (hb hby d24_6) (fun _ _ => ⟨rfl, e0, (by decide : 0 + 1 ≤ _), (by decide : 0 + 3 ≤ _)⟩)
  dsimp only [Pt.U, Pt.locs, Pt.cells, Pt.slots] at X l2 y2 z2 st hQ
  subst l2 y2 z2
  obtain ⟨h, e0⟩ : ∃ z, T.heap = z := ⟨_, rfl⟩
  rw [e0] at hQ
  obtain ⟨nb1, nj1, rfl, K1, gn_nb1, E_nb1, V_nb1, ov_nj1⟩ := hQ
  have ge_nb1 := Nat.le_trans K.le gn_nb1
  have ne_xf_nb1 : xf ≠ nb1 := Nat.ne_of_lt (Nat.lt_of_lt_of_le lt_xf gn_nb1)
  have K := K.call K1 all0
  refine oWk.st st ?_
  exact oRetA X hx hlk hret rfl rfl (hb hby d24_9) (by rw [e0]; exact ⟨nb1, nj1, rfl, K, ge_nb1, E_nb1, V_nb1, ov_nj1⟩) (by decide) (by decide)
def Q_rTA_3 (Z : State) (xa : Addr) (xf : Addr) (xmr : Addr) (xk : ClassId) (xe0 : Addr) (xe1 : Addr) (xe2 : Addr) (h0 : Heap) (v : Option Value) (h : Heap) (L : List Loc) : Prop := ∃ (nb : Addr) (nj : ClassId), v = some (.ref nb) ∧ oKp h0 h [] L ∧ (h0.size ≤ nb) ∧ (Exa Z h nb "[Ljava/lang/Object;") ∧ (Arv Z h nb nj (.object "java/lang/Object") (3 : Int32) [(.ref xe0), (.ref xe1), (.ref xe2)] .null) ∧ (Ovr Z nj "java/lang/Object")
theorem rTA_3 (l : Launch) (Z : State) (a0 : Array Value) (hw : ∀ d ∈ tables_1, d.before a0 Z = true) (ws : List Jvm.Cond) (xa : Addr) (xf : Addr) (xmr : Addr) (xk : ClassId) (xe0 : Addr) (xe1 : Addr) (xe2 : Addr) (h0 : Heap) (O0 : Ext Z.heap h0) (mm_ : oMir Z "[Ljava/lang/Object;" xmr) (F_elementData_xa : Fld Z h0 xa "java/util/ArrayList" "elementData" "[Ljava/lang/Object;" (.ref xf)) (F_size_xa : Fld Z h0 xa "java/util/ArrayList" "size" "I" (.int (3 : Int32))) (E_xf : Exa Z h0 xf "[Ljava/lang/Object;") (V_xf : Arv Z h0 xf xk (.object "java/lang/Object") (10 : Int32) [(.ref xe0), (.ref xe1), (.ref xe2), .null, .null, .null, .null, .null, .null, .null] .null) (I_xe0 : Ins Z h0 xe0 "java/lang/Object" true) (I_xe1 : Ins Z h0 xe1 "java/lang/Object" true) (I_xe2 : Ins Z h0 xe2 "java/lang/Object" true) :
    oCon l Z yy25 jdk_38_method_16_code 1 (some (.array (.object "java/lang/Object"))) ws ({ frames := 3, cells := 1, slots := 3, locals := 46 } : Room) #[(.ref xa)] h0 (Q_rTA_3 Z xa xf xmr xk xe0 xe1 xe2 h0) := by
  refine oCon.of (plainFor_of_name pn_7) ?_
  intro p e s m below meth c T X hx hby hml hown hnm hret hlk hZ e0
  have hml : c.maxLocals = 1 := hml
  have K : oKp h0 h0 [] [] := oKp.nil _ _
  refine oWk.cast (g' := (mkF m 0 #[rv xa] [])) (by first | rfl | (simp [entryFrame, mkF, argsToLocals, Value.category]; done)) ?_
  refine oWk.st (fun _ kt => XS.aloadN X.here hx rfl (hb hby d23_0) rfl rfl kt) ?_
  obtain ⟨T, X, e0, st⟩ := getF X hx hZ hown (host := "") (Or.inl (oW hw 48 rfl)) Via.refl e0 F_elementData_xa (g := (mkF m 1 #[rv xa] [(.ref xa)])) rfl rfl (hb hby d23_1)
  refine oWk.st st ?_
  refine oWk.st (fun _ kt => XS.aloadN X.here hx rfl (hb hby d23_4) rfl rfl kt) ?_
  obtain ⟨T, X, e0, st⟩ := getF X hx hZ hown (host := "") (Or.inl (oW hw 85 rfl)) Via.refl e0 F_size_xa (g := (mkF m 5 #[rv xa] [(.ref xa), (.ref xf)])) rfl rfl (hb hby d23_5)
  refine oWk.st st ?_
  have lt_xa := F_elementData_xa.lt
  have lt_xf := E_xf.lt
  have Oh := K.old O0 all0
  obtain ⟨_, _, ⟨T, L2, k2, n2⟩, -, X, ⟨Lc2, hQ, l2, y2, z2⟩, st⟩ := Jvm.LawKit.callS X hx (y := yy24) hown (mvT hZ (oW hw 158 rfl)) (mvT hZ (oW hw 159 rfl)) (mvT hZ (oW hw 160 rfl)) (mvT hZ (oW hw 161 rfl)) (by decide) (backOf (W := 0) (rCp2_3 l Z a0 hw [] xf xmr xk xe0 xe1 xe2 h0 Oh mm_ E_xf V_xf I_xe0 I_xe1 I_xe2) hZ (oW hw 161 rfl) (oW hw 160 rfl) (by decide) (by decide)) (g := (mkF m 8 #[rv xa] [(.int 3), (.ref xf)])) rfl (by rw [hml]; rfl) (argsL := [(.ref xf), (.int (3 : Int32))]) (rest := []) (lenOf pd_15 rfl) rfl (Nat.le_of_eq rfl) (hb hby d23_8) (fun _ _ => ⟨rfl, e0, (by decide : 0 + 1 ≤ _), (by decide : 0 + 3 ≤ _)⟩)
  dsimp only [Pt.U, Pt.locs, Pt.cells, Pt.slots] at X l2 y2 z2 st hQ
  subst l2 y2 z2
  obtain ⟨h, e0⟩ : ∃ z, T.heap = z := ⟨_, rfl⟩
  rw [e0] at hQ
  obtain ⟨nb1, nj1, rfl, K1, gn_nb1, E_nb1, V_nb1, ov_nj1⟩ := hQ
  have ge_nb1 := Nat.le_trans K.le gn_nb1
  have ne_xa_nb1 : xa ≠ nb1 := Nat.ne_of_lt (Nat.lt_of_lt_of_le lt_xa gn_nb1)
  have ne_xf_nb1 : xf ≠ nb1 := Nat.ne_of_lt (Nat.lt_of_lt_of_le lt_xf gn_nb1)
  have K := K.call K1 all0
  refine oWk.st st ?_
  exact oRetA X hx hlk hret rfl rfl (hb hby d23_11) (by rw [e0]; exact ⟨nb1, nj1, rfl, K, ge_nb1, E_nb1, V_nb1, ov_nj1⟩) (by decide) (by decide)
def Q_rLNI (Z : State) (xa : Addr) (xf : Addr) (xu : Value) (xv : Value) (h0 : Heap) (v : Option Value) (h : Heap) (L : List Loc) : Prop := v = none ∧ oKp h0 h [xa] L ∧ (Exa Z h xa "java/util/ImmutableCollections$ListN") ∧ (Fld Z h xa "java/util/ImmutableCollections$ListN" "elements" "[Ljava/lang/Object;" (.ref xf)) ∧ (Fld Z h xa "java/util/ImmutableCollections$ListN" "allowNulls" "Z" (.int (0 : Int32)))
theorem pn_16 : plainName "java/util/ImmutableCollections$ListN" = true := by first | (simp [plainName, overriddenIn]; done) | decide +kernel
abbrev yy33 : MethodName := ⟨"java/util/ImmutableCollections$ListN", "<init>", "([Ljava/lang/Object;Z)V"⟩
theorem d33_0 : decode jdk_45_method_1_code 0 = .ok (.aload_n 0, 1) := by decide +kernel
theorem d33_1 : decode jdk_45_method_1_code 1 = .ok (.invokespecial 1, 3) := by decide +kernel
theorem d33_4 : decode jdk_45_method_1_code 4 = .ok (.aload_n 0, 1) := by decide +kernel
theorem d33_5 : decode jdk_45_method_1_code 5 = .ok (.aload_n 1, 1) := by decide +kernel
theorem d33_6 : decode jdk_45_method_1_code 6 = .ok (.putfield 7, 3) := by decide +kernel
theorem d33_9 : decode jdk_45_method_1_code 9 = .ok (.aload_n 0, 1) := by decide +kernel
theorem d33_10 : decode jdk_45_method_1_code 10 = .ok (.iload_n 2, 1) := by decide +kernel
theorem d33_11 : decode jdk_45_method_1_code 11 = .ok (.putfield 13, 3) := by decide +kernel
theorem d33_14 : decode jdk_45_method_1_code 14 = .ok (.return_, 1) := by decide +kernel
theorem rLNI (l : Launch) (Z : State) (a0 : Array Value) (hw : ∀ d ∈ tables_1, d.before a0 Z = true) (ws : List Jvm.Cond) (xa : Addr) (xf : Addr) (xu : Value) (xv : Value) (h0 : Heap) (O0 : Ext Z.heap h0) (og_xa : Z.heap.size ≤ xa) (E_xa : Exa Z h0 xa "java/util/ImmutableCollections$ListN") (F_elements_xa : Fld Z h0 xa "java/util/ImmutableCollections$ListN" "elements" "[Ljava/lang/Object;" xu) (F_allowNulls_xa : Fld Z h0 xa "java/util/ImmutableCollections$ListN" "allowNulls" "Z" xv) :
    oCon l Z yy33 jdk_45_method_1_code 3 none ws ({ frames := 4, cells := 0, slots := 0, locals := 48 } : Room) #[(.ref xa), (.ref xf), (.int (0 : Int32))] h0 (Q_rLNI Z xa xf xu xv h0) := by
  refine oCon.of (plainFor_of_name pn_16) ?_
  intro p e s m below meth c T X hx hby hml hown hnm hret hlk hZ e0
  have hml : c.maxLocals = 3 := hml
  have K : oKp h0 h0 [xa] [] := oKp.nil _ _
  refine oWk.cast (g' := (mkF m 0 #[rv xa, rv xf, iv 0] [])) (by first | rfl | (simp [entryFrame, mkF, argsToLocals, Value.category]; done)) ?_
  refine oWk.st (fun _ kt => XS.aloadN X.here hx rfl (hb hby d33_0) rfl rfl kt) ?_
  have Oh := K.old O0 (allS og_xa all0)
  obtain ⟨_, _, ⟨T, L2, k2, n2⟩, -, X, ⟨Lc2, hQ, l2, y2, z2⟩, st⟩ := X.specialBack hx (y := yy27) rfl hown (mvT hZ (oW hw 224 rfl)) (mvT hZ (oW hw 191 rfl)) (mvT hZ (oW hw 195 rfl)) (by decide) (backOf (W := 0) (rAIL l Z a0 hw [] xa h0 Oh ) hZ (oW hw 195 rfl) (oW hw 194 rfl) (by decide) (by decide)) (g := (mkF m 1 #[rv xa, rv xf, iv 0] [(.ref xa)])) rfl (by rw [hml]; rfl) (Steps.refl _) (a := xa) (argsL := []) (rest := []) (lenOf pd_3 rfl) rfl (Nat.le_of_eq rfl) (hb hby d33_1) (fun _ _ => ⟨rfl, e0, (by decide : 0 + 0 ≤ _), (by decide : 0 + 0 ≤ _)⟩)
  dsimp only [Pt.U, Pt.locs, Pt.cells, Pt.slots] at X l2 y2 z2 st hQ
  subst l2 y2 z2
  obtain ⟨rfl, e0, K1⟩ := hQ
  have K := K.call K1 all0
  rw [e0] at K
  refine oWk.tr st ?_
  refine oWk.st (fun _ kt => XS.aloadN X.here hx rfl (hb hby d33_4) rfl rfl (XS.aloadN X.here hx rfl (hb hby d33_5) rfl rfl kt)) ?_
  obtain ⟨T, h, X, e0, W3, st⟩ := putF X hx hZ hown (host := "") (Or.inl (oW hw 228 rfl)) Via.refl e0 F_elements_xa E_xa (Or.inr ⟨(oW hw 229 rfl), rfl, hnm⟩) (oW hw 218 rfl) (ty := (.array (.object "java/lang/Object"))) (by decide) rfl rfl (g := (mkF m 6 #[rv xa, rv xf, iv 0] [(.ref xf), (.ref xa)])) rfl rfl (hb hby d33_6)
  refine oWk.st st ?_
  have K := K.wr W3 (Or.inl (List.mem_of_getElem? (i := 0) rfl))
  have F_elements_xa := F_elements_xa.same W3
  refine oWk.st (fun _ kt => XS.aloadN X.here hx rfl (hb hby d33_9) rfl rfl (XS.iloadN X.here hx rfl (hb hby d33_10) rfl kt)) ?_
  have E_xa := (E_xa.wr W3)
  have F_allowNulls_xa := (F_allowNulls_xa.other W3 (Or.inr (slot_ne (Or.inr (oW hw 231 rfl)) (Or.inr (oW hw 229 rfl)) (by decide) (t := .boolean) (t' := (.array (.object "java/lang/Object"))) (by decide) (by decide))))
  obtain ⟨T, h, X, e0, W4, st⟩ := putFN X hx hZ hown (oW hw 230 rfl) Via.refl e0 F_allowNulls_xa E_xa (Or.inr ⟨(oW hw 231 rfl), rfl, hnm⟩) (oW hw 218 rfl) (ty := .boolean) (v' := .int (0 : Int32)) (by decide) rfl (by decide) (g := (mkF m 11 #[rv xa, rv xf, iv 0] [(.int 0), (.ref xa)])) rfl rfl (hb hby d33_11)
  refine oWk.st st ?_
  have K := K.wr W4 (Or.inl (List.mem_of_getElem? (i := 0) rfl))
  have F_allowNulls_xa := F_allowNulls_xa.same W4
  have E_xa := (E_xa.wr W4)
  have F_elements_xa := (F_elements_xa.other W4 (Or.inr (slot_ne (Or.inr (oW hw 229 rfl)) (Or.inr (oW hw 231 rfl)) (by decide) (t := (.array (.object "java/lang/Object"))) (t' := .boolean) (by decide) (by decide))))
  exact oRetV X hx hlk hret (hb hby d33_14) (by rw [e0]; exact ⟨rfl, K, E_xa, F_elements_xa, F_allowNulls_xa⟩) (by decide) (by decide)
def Q_rLFA_3 (Z : State) (xf : Addr) (xk : ClassId) (xe0 : Addr) (xe1 : Addr) (xe2 : Addr) (h0 : Heap) (v : Option Value) (h : Heap) (L : List Loc) : Prop := ∃ (nl : Addr) (ng : Addr) (nj : ClassId), v = some (.ref nl) ∧ oKp h0 h [] L ∧ (h0.size ≤ nl) ∧ (Exa Z h nl "java/util/ImmutableCollections$ListN") ∧ (Fld Z h nl "java/util/ImmutableCollections$ListN" "elements" "[Ljava/lang/Object;" (.ref ng)) ∧ (Fld Z h nl "java/util/ImmutableCollections$ListN" "allowNulls" "Z" (.int (0 : Int32))) ∧ (h0.size ≤ ng) ∧ (Arv Z h ng nj (.object "java/lang/Object") (3 : Int32) [(.ref xe0), (.ref xe1), (.ref xe2)] .null)
abbrev yy34 : MethodName := ⟨"java/util/ImmutableCollections", "listFromArray", "([Ljava/lang/Object;)Ljava/util/List;"⟩
theorem d32_0 : decode jdk_56_method_4_code 0 = .ok (.aload_n 0, 1) := by decide +kernel
theorem d32_1 : decode jdk_56_method_4_code 1 = .ok (.arraylength, 1) := by decide +kernel
theorem d32_2 : decode jdk_56_method_4_code 2 = .ok (.anewarray 2, 3) := by decide +kernel
theorem d32_5 : decode jdk_56_method_4_code 5 = .ok (.astore_n 1, 1) := by decide +kernel
theorem d32_6 : decode jdk_56_method_4_code 6 = .ok (.iconst 0, 1) := by decide +kernel
theorem d32_7 : decode jdk_56_method_4_code 7 = .ok (.istore_n 2, 1) := by decide +kernel
theorem d32_8 : decode jdk_56_method_4_code 8 = .ok (.iload_n 2, 1) := by decide +kernel
theorem d32_9 : decode jdk_56_method_4_code 9 = .ok (.aload_n 0, 1) := by decide +kernel
theorem d32_10 : decode jdk_56_method_4_code 10 = .ok (.arraylength, 1) := by decide +kernel
theorem d32_11 : decode jdk_56_method_4_code 11 = .ok (.if_icmp .ge 18, 3) := by decide +kernel
theorem d32_14 : decode jdk_56_method_4_code 14 = .ok (.aload_n 1, 1) := by decide +kernel
theorem d32_15 : decode jdk_56_method_4_code 15 = .ok (.iload_n 2, 1) := by decide +kernel
theorem d32_16 : decode jdk_56_method_4_code 16 = .ok (.aload_n 0, 1) := by decide +kernel
theorem d32_17 : decode jdk_56_method_4_code 17 = .ok (.iload_n 2, 1) := by decide +kernel
theorem d32_18 : decode jdk_56_method_4_code 18 = .ok (.aaload, 1) := by decide +kernel
theorem d32_19 : decode jdk_56_method_4_code 19 = .ok (.invokestatic 37, 3) := by decide +kernel
theorem d32_22 : decode jdk_56_method_4_code 22 = .ok (.aastore, 1) := by decide +kernel
theorem d32_23 : decode jdk_56_method_4_code 23 = .ok (.iinc 2 1, 3) := by decide +kernel
theorem d32_26 : decode jdk_56_method_4_code 26 = .ok (.goto (-18), 3) := by decide +kernel
theorem d32_29 : decode jdk_56_method_4_code 29 = .ok (.new 12, 3) := by decide +kernel
theorem d32_32 : decode jdk_56_method_4_code 32 = .ok (.dup, 1) := by decide +kernel
theorem d32_33 : decode jdk_56_method_4_code 33 = .ok (.aload_n 1, 1) := by decide +kernel
theorem d32_34 : decode jdk_56_method_4_code 34 = .ok (.iconst 0, 1) := by decide +kernel
theorem d32_35 : decode jdk_56_method_4_code 35 = .ok (.invokespecial 43, 3) := by decide +kernel
theorem pd_20 : parseMethodDescriptor "([Ljava/lang/Object;Z)V" = some ⟨[(.array (.object "java/lang/Object")), .boolean], none⟩ := by decide +kernel
theorem d32_38 : decode jdk_56_method_4_code 38 = .ok (.areturn, 1) := by decide +kernel
theorem rLFA_3 (l : Launch) (Z : State) (a0 : Array Value) (hw : ∀ d ∈ tables_1, d.before a0 Z = true) (ws : List Jvm.Cond) (xf : Addr) (xk : ClassId) (xe0 : Addr) (xe1 : Addr) (xe2 : Addr) (h0 : Heap) (O0 : Ext Z.heap h0) (V_xf : Arv Z h0 xf xk (.object "java/lang/Object") (3 : Int32) [(.ref xe0), (.ref xe1), (.ref xe2)] .null) (I_xe0 : Ins Z h0 xe0 "java/lang/Object" true) (I_xe1 : Ins Z h0 xe1 "java/lang/Object" true) (I_xe2 : Ins Z h0 xe2 "java/lang/Object" true) :
    oCon l Z yy34 jdk_56_method_4_code 3 (some (.object "java/util/List")) ws ({ frames := 5, cells := 2, slots := 5, locals := 63 } : Room) #[(.ref xf)] h0 (Q_rLFA_3 Z xf xk xe0 xe1 xe2 h0) := by
  refine oCon.of (plainFor_of_name pn_10) ?_
  intro p e s m below meth c T X hx hby hml hown hnm hret hlk hZ e0
  have hml : c.maxLocals = 3 := hml
  have K : oKp h0 h0 [] [] := oKp.nil _ _
  refine oWk.cast (g' := (mkF m 0 #[rv xf, uu, uu] [])) (by first | rfl | (simp [entryFrame, mkF, argsToLocals, Value.category]; done)) ?_
  refine oWk.st (fun _ kt => XS.aloadN X.here hx rfl (hb hby d32_0) rfl rfl kt) ?_
  obtain ⟨cl1, Ar1, q1, Sz1, Nn1, Hs1, Ft1⟩ := id V_xf
  refine oWk.st (fun _ kt => X.arraylength hx (by rw [e0]; exact Ar1.1) (State.isArrayOf_alike hZ.alike Ar1.2.1) (g := (mkF m 1 #[rv xf, uu, uu] [(.ref xf)])) rfl rfl (hb hby d32_1) _ kt) ?_
  rw [len_of Sz1 Nn1]
  obtain ⟨o2, g2⟩ : ∃ z, z = h0.size := ⟨_, rfl⟩
  have ne_xf_o2 : xf ≠ o2 := Nat.ne_of_lt (Nat.lt_of_lt_of_le V_xf.lt (Nat.le_of_eq g2.symm))
  have ge_o2 : h0.size ≤ o2 := Nat.le_trans K.le (Nat.le_of_eq g2.symm)
  obtain ⟨T, h, k2, X, e0, E2, A2, E_o2, O2, st⟩ := newRE X hx hZ hown (oW hw 216 rfl) (oW hw 126 rfl) e0 (g := (mkF m 2 #[rv xf, uu, uu] [(.int 3)])) rfl (hb hby d32_2) rfl (by decide) (cap := 3) (by decide) (by decide) (by decide) (by decide) (ad := "[Ljava/lang/Object;") (by decide)
  rw [← g2] at A2 E_o2 st
  refine oWk.st st ?_
  have K := K.ext E2
  have V_o2 : Arv Z h o2 k2 (.object "java/lang/Object") (3 : Int32) [.null, .null, .null] .null := (Arv.new A2 (by decide)).pad (pad_rep [] .null 3)
  refine oWk.st (fun _ kt => XS.astoreN X.here hx rfl (hb hby d32_5) rfl rfl (l' := #[rv xf, rv o2, uu]) rfl (XS.iconst X.here hx rfl (hb hby d32_6) (XS.istoreN X.here hx rfl (hb hby d32_7) rfl (l' := #[rv xf, rv o2, iv 0]) rfl (XS.iloadN X.here hx rfl (hb hby d32_8) rfl (XS.aloadN X.here hx rfl (hb hby d32_9) rfl rfl kt))))) ?_
  have V_xf := (V_xf.ext E2)
  obtain ⟨cl3, Ar3, q3, Sz3, Nn3, Hs3, Ft3⟩ := id V_xf
  refine oWk.st (fun _ kt => X.arraylength hx (by rw [e0]; exact Ar3.1) (State.isArrayOf_alike hZ.alike Ar3.2.1) (g := (mkF m 10 #[rv xf, rv o2, iv 0] [(.ref xf), (.int 0)])) rfl rfl (hb hby d32_10) _ kt) ?_
  rw [len_of Sz3 Nn3]
  refine oWk.st (fun _ kt => XS.icmpNo X.here hx rfl (hb hby d32_11) rfl (tlt (by decide)).2.1 (XS.aloadN X.here hx rfl (hb hby d32_14) rfl rfl (XS.iloadN X.here hx rfl (hb hby d32_15) rfl (XS.aloadN X.here hx rfl (hb hby d32_16) rfl rfl (XS.iloadN X.here hx rfl (hb hby d32_17) rfl kt))))) ?_
  obtain ⟨cl4, Ar4, q4, Sz4, Nn4, Hs4, Ft4⟩ := id V_xf
  have hin4 : ¬ ((0 : Int32) < 0 ∨ cl4.slots.size ≤ ((0 : Int32)).toNatClampNeg) := inb_of Sz4 ⟨by decide, by decide⟩
  have hat4 : cl4.slots[((0 : Int32)).toNatClampNeg]? = some (.ref xe0) := Hs4.at hin4 rfl
  refine oWk.st (fun _ kt => X.aaload hx (j := (0 : Int32)) (v := (.ref xe0)) (by rw [e0]; exact Ar4.1) (State.isArrayOf_alike hZ.alike Ar4.2.1) rfl Ar4.2.2 hin4 hat4 (g := (mkF m 18 #[rv xf, rv o2, iv 0] [(.int 0), (.ref xf), (.int 0), (.ref o2)])) rfl rfl (hb hby d32_18) _ kt) ?_
  have Oh := K.old O0 all0
  obtain ⟨_, _, ⟨T, L6, k6, n6⟩, -, X, ⟨Lc6, hQ, l6, y6, z6⟩, st⟩ := Jvm.LawKit.callS X hx (y := yy28) hown (mvT hZ (oW hw 217 rfl)) (mvT hZ (oW hw 205 rfl)) (mvT hZ (oW hw 206 rfl)) (mvT hZ (oW hw 207 rfl)) (by decide) (backOf (W := 2) (rRNN l Z a0 hw [] xe0 h Oh ) hZ (oW hw 207 rfl) (oW hw 206 rfl) (by decide) (by decide)) (g := (mkF m 19 #[rv xf, rv o2, iv 0] [(.ref xe0), (.int 0), (.ref o2)])) rfl (by rw [hml]; rfl) (argsL := [(.ref xe0)]) (rest := [(.int (0 : Int32)), (.ref o2)]) (lenOf pd_16 rfl) rfl (Nat.le_of_eq rfl) (hb hby d32_19) (fun _ _ => ⟨rfl, e0, (by decide : 1 + 0 ≤ _), (by decide : 3 + 0 ≤ _)⟩)
  dsimp only [Pt.U, Pt.locs, Pt.cells, Pt.slots] at X l6 y6 z6 st hQ
  subst l6 y6 z6
  obtain ⟨rfl, e0, K5⟩ := hQ
  have K := K.call K5 all0
  rw [e0] at K
  refine oWk.st st ?_
  have I_xe0 := (I_xe0.ext E2)
  obtain ⟨cl7, Ar7, q7, Sz7, Nn7, Hs7, Ft7⟩ := id V_o2
  have hin7 : ¬ ((0 : Int32) < 0 ∨ cl7.slots.size ≤ ((0 : Int32)).toNatClampNeg) := inb_of Sz7 ⟨by decide, by decide⟩
  obtain ⟨T, h, X, e0, W7, st⟩ := stR X hx hZ e0 Ar7 (j := (0 : Int32)) hin7 rfl (Sto.ofV Ar7 q7 O2 I_xe0) (g := (mkF m 22 #[rv xf, rv o2, iv 0] [(.ref xe0), (.int 0), (.ref o2)])) rfl rfl (hb hby d32_22)
  refine oWk.st st ?_
  have K := K.wr W7 (Or.inr ge_o2)
  have V_o2 : Arv Z h o2 k2 (.object "java/lang/Object") (3 : Int32) [(.ref xe0), .null, .null] .null := Arv.set Ar7 q7 Sz7 Nn7 Hs7 Ft7 rfl W7 0 rfl (Nat.le_of_ble_eq_true rfl)
  refine oWk.st (fun _ kt => XS.iinc X.here hx rfl (hb hby d32_23) rfl (l' := #[rv xf, rv o2, iv ((0 : Int32) + (1 : Int32))]) rfl kt) ?_
  show oWk _ _ _ _ T (mkF m 26 #[rv xf, rv o2, iv ((0 : Int32) + (1 : Int32))] [])
  rw [show ((0 : Int32) + (1 : Int32)) = (1 : Int32) from by decide]
  show oWk _ _ _ _ T (mkF m 26 #[rv xf, rv o2, iv 1] [])
  refine oWk.st (fun _ kt => XS.goto X.here hx rfl (pc0 := 26) (pc' := 8) rfl (hb hby d32_26) (by decide) (by decide) (XS.iloadN X.here hx rfl (hb hby d32_8) rfl (XS.aloadN X.here hx rfl (hb hby d32_9) rfl rfl kt))) ?_
  have V_xf := (V_xf.other W7 ne_xf_o2)
  obtain ⟨cl8, Ar8, q8, Sz8, Nn8, Hs8, Ft8⟩ := id V_xf
  refine oWk.st (fun _ kt => X.arraylength hx (by rw [e0]; exact Ar8.1) (State.isArrayOf_alike hZ.alike Ar8.2.1) (g := (mkF m 10 #[rv xf, rv o2, iv 1] [(.ref xf), (.int 1)])) rfl rfl (hb hby d32_10) _ kt) ?_
  rw [len_of Sz8 Nn8]
  refine oWk.st (fun _ kt => XS.icmpNo X.here hx rfl (hb hby d32_11) rfl (tlt (by decide)).2.1 (XS.aloadN X.here hx rfl (hb hby d32_14) rfl rfl (XS.iloadN X.here hx rfl (hb hby d32_15) rfl (XS.aloadN X.here hx rfl (hb hby d32_16) rfl rfl (XS.iloadN X.here hx rfl (hb hby d32_17) rfl kt))))) ?_
  obtain ⟨cl9, Ar9, q9, Sz9, Nn9, Hs9, Ft9⟩ := id V_xf
  have hin9 : ¬ ((1 : Int32) < 0 ∨ cl9.slots.size ≤ ((1 : Int32)).toNatClampNeg) := inb_of Sz9 ⟨by decide, by decide⟩
  have hat9 : cl9.slots[((1 : Int32)).toNatClampNeg]? = some (.ref xe1) := Hs9.at hin9 rfl
  refine oWk.st (fun _ kt => X.aaload hx (j := (1 : Int32)) (v := (.ref xe1)) (by rw [e0]; exact Ar9.1) (State.isArrayOf_alike hZ.alike Ar9.2.1) rfl Ar9.2.2 hin9 hat9 (g := (mkF m 18 #[rv xf, rv o2, iv 1] [(.int 1), (.ref xf), (.int 1), (.ref o2)])) rfl rfl (hb hby d32_18) _ kt) ?_
  have Oh := K.old O0 all0
  obtain ⟨_, _, ⟨T, L11, k11, n11⟩, -, X, ⟨Lc11, hQ, l11, y11, z11⟩, st⟩ := Jvm.LawKit.callS X hx (y := yy28) hown (mvT hZ (oW hw 217 rfl)) (mvT hZ (oW hw 205 rfl)) (mvT hZ (oW hw 206 rfl)) (mvT hZ (oW hw 207 rfl)) (by decide) (backOf (W := 2) (rRNN l Z a0 hw [] xe1 h Oh ) hZ (oW hw 207 rfl) (oW hw 206 rfl) (by decide) (by decide)) (g := (mkF m 19 #[rv xf, rv o2, iv 1] [(.ref xe1), (.int 1), (.ref o2)])) rfl (by rw [hml]; rfl) (argsL := [(.ref xe1)]) (rest := [(.int (1 : Int32)), (.ref o2)]) (lenOf pd_16 rfl) rfl (Nat.le_of_eq rfl) (hb hby d32_19) (fun _ _ => ⟨rfl, e0, (by decide : 1 + 0 ≤ _), (by decide : 3 + 0 ≤ _)⟩)
  dsimp only [Pt.U, Pt.locs, Pt.cells, Pt.slots] at X l11 y11 z11 st hQ
  subst l11 y11 z11
  obtain ⟨rfl, e0, K10⟩ := hQ
  have K := K.call K10 all0
  rw [e0] at K
  refine oWk.st st ?_
  have I_xe1 := ((I_xe1.ext E2).wr W7)
  obtain ⟨cl12, Ar12, q12, Sz12, Nn12, Hs12, Ft12⟩ := id V_o2
  have hin12 : ¬ ((1 : Int32) < 0 ∨ cl12.slots.size ≤ ((1 : Int32)).toNatClampNeg) := inb_of Sz12 ⟨by decide, by decide⟩
  obtain ⟨T, h, X, e0, W12, st⟩ := stR X hx hZ e0 Ar12 (j := (1 : Int32)) hin12 rfl (Sto.ofV Ar12 q12 O2 I_xe1) (g := (mkF m 22 #[rv xf, rv o2, iv 1] [(.ref xe1), (.int 1), (.ref o2)])) rfl rfl (hb hby d32_22)
  refine oWk.st st ?_
  have K := K.wr W12 (Or.inr ge_o2)
  have V_o2 : Arv Z h o2 k2 (.object "java/lang/Object") (3 : Int32) [(.ref xe0), (.ref xe1), .null] .null := Arv.set Ar12 q12 Sz12 Nn12 Hs12 Ft12 rfl W12 1 rfl (Nat.le_of_ble_eq_true rfl)
  refine oWk.st (fun _ kt => XS.iinc X.here hx rfl (hb hby d32_23) rfl (l' := #[rv xf, rv o2, iv ((1 : Int32) + (1 : Int32))]) rfl kt) ?_
  show oWk _ _ _ _ T (mkF m 26 #[rv xf, rv o2, iv ((1 : Int32) + (1 : Int32))] [])
  rw [show ((1 : Int32) + (1 : Int32)) = (2 : Int32) from by decide]
  show oWk _ _ _ _ T (mkF m 26 #[rv xf, rv o2, iv 2] [])
  refine oWk.st (fun _ kt => XS.goto X.here hx rfl (pc0 := 26) (pc' := 8) rfl (hb hby d32_26) (by decide) (by decide) (XS.iloadN X.here hx rfl (hb hby d32_8) rfl (XS.aloadN X.here hx rfl (hb hby d32_9) rfl rfl kt))) ?_
  have V_xf := (V_xf.other W12 ne_xf_o2)
  obtain ⟨cl13, Ar13, q13, Sz13, Nn13, Hs13, Ft13⟩ := id V_xf
  refine oWk.st (fun _ kt => X.arraylength hx (by rw [e0]; exact Ar13.1) (State.isArrayOf_alike hZ.alike Ar13.2.1) (g := (mkF m 10 #[rv xf, rv o2, iv 2] [(.ref xf), (.int 2)])) rfl rfl (hb hby d32_10) _ kt) ?_
  rw [len_of Sz13 Nn13]
  refine oWk.st (fun _ kt => XS.icmpNo X.here hx rfl (hb hby d32_11) rfl (tlt (by decide)).2.1 (XS.aloadN X.here hx rfl (hb hby d32_14) rfl rfl (XS.iloadN X.here hx rfl (hb hby d32_15) rfl (XS.aloadN X.here hx rfl (hb hby d32_16) rfl rfl (XS.iloadN X.here hx rfl (hb hby d32_17) rfl kt))))) ?_
  obtain ⟨cl14, Ar14, q14, Sz14, Nn14, Hs14, Ft14⟩ := id V_xf
  have hin14 : ¬ ((2 : Int32) < 0 ∨ cl14.slots.size ≤ ((2 : Int32)).toNatClampNeg) := inb_of Sz14 ⟨by decide, by decide⟩
  have hat14 : cl14.slots[((2 : Int32)).toNatClampNeg]? = some (.ref xe2) := Hs14.at hin14 rfl
  refine oWk.st (fun _ kt => X.aaload hx (j := (2 : Int32)) (v := (.ref xe2)) (by rw [e0]; exact Ar14.1) (State.isArrayOf_alike hZ.alike Ar14.2.1) rfl Ar14.2.2 hin14 hat14 (g := (mkF m 18 #[rv xf, rv o2, iv 2] [(.int 2), (.ref xf), (.int 2), (.ref o2)])) rfl rfl (hb hby d32_18) _ kt) ?_
  have Oh := K.old O0 all0
  obtain ⟨_, _, ⟨T, L16, k16, n16⟩, -, X, ⟨Lc16, hQ, l16, y16, z16⟩, st⟩ := Jvm.LawKit.callS X hx (y := yy28) hown (mvT hZ (oW hw 217 rfl)) (mvT hZ (oW hw 205 rfl)) (mvT hZ (oW hw 206 rfl)) (mvT hZ (oW hw 207 rfl)) (by decide) (backOf (W := 2) (rRNN l Z a0 hw [] xe2 h Oh ) hZ (oW hw 207 rfl) (oW hw 206 rfl) (by decide) (by decide)) (g := (mkF m 19 #[rv xf, rv o2, iv 2] [(.ref xe2), (.int 2), (.ref o2)])) rfl (by rw [hml]; rfl) (argsL := [(.ref xe2)]) (rest := [(.int (2 : Int32)), (.ref o2)]) (lenOf pd_16 rfl) rfl (Nat.le_of_eq rfl) (hb hby d32_19) (fun _ _ => ⟨rfl, e0, (by decide : 1 + 0 ≤ _), (by decide : 3 + 0 ≤ _)⟩)
  dsimp only [Pt.U, Pt.locs, Pt.cells, Pt.slots] at X l16 y16 z16 st hQ
  subst l16 y16 z16
  obtain ⟨rfl, e0, K15⟩ := hQ
  have K := K.call K15 all0
  rw [e0] at K
  refine oWk.st st ?_
  have I_xe2 := (((I_xe2.ext E2).wr W7).wr W12)
  obtain ⟨cl17, Ar17, q17, Sz17, Nn17, Hs17, Ft17⟩ := id V_o2
  have hin17 : ¬ ((2 : Int32) < 0 ∨ cl17.slots.size ≤ ((2 : Int32)).toNatClampNeg) := inb_of Sz17 ⟨by decide, by decide⟩
  obtain ⟨T, h, X, e0, W17, st⟩ := stR X hx hZ e0 Ar17 (j := (2 : Int32)) hin17 rfl (Sto.ofV Ar17 q17 O2 I_xe2) (g := (mkF m 22 #[rv xf, rv o2, iv 2] [(.ref xe2), (.int 2), (.ref o2)])) rfl rfl (hb hby d32_22)
  refine oWk.st st ?_
  have K := K.wr W17 (Or.inr ge_o2)
  have V_o2 : Arv Z h o2 k2 (.object "java/lang/Object") (3 : Int32) [(.ref xe0), (.ref xe1), (.ref xe2)] .null := Arv.set Ar17 q17 Sz17 Nn17 Hs17 Ft17 rfl W17 2 rfl (Nat.le_of_ble_eq_true rfl)
  refine oWk.st (fun _ kt => XS.iinc X.here hx rfl (hb hby d32_23) rfl (l' := #[rv xf, rv o2, iv ((2 : Int32) + (1 : Int32))]) rfl kt) ?_
  show oWk _ _ _ _ T (mkF m 26 #[rv xf, rv o2, iv ((2 : Int32) + (1 : Int32))] [])
  rw [show ((2 : Int32) + (1 : Int32)) = (3 : Int32) from by decide]
  show oWk _ _ _ _ T (mkF m 26 #[rv xf, rv o2, iv 3] [])
  refine oWk.st (fun _ kt => XS.goto X.here hx rfl (pc0 := 26) (pc' := 8) rfl (hb hby d32_26) (by decide) (by decide) (XS.iloadN X.here hx rfl (hb hby d32_8) rfl (XS.aloadN X.here hx rfl (hb hby d32_9) rfl rfl kt))) ?_
  have V_xf := (V_xf.other W17 ne_xf_o2)
  obtain ⟨cl18, Ar18, q18, Sz18, Nn18, Hs18, Ft18⟩ := id V_xf
  refine oWk.st (fun _ kt => X.arraylength hx (by rw [e0]; exact Ar18.1) (State.isArrayOf_alike hZ.alike Ar18.2.1) (g := (mkF m 10 #[rv xf, rv o2, iv 3] [(.ref xf), (.int 3)])) rfl rfl (hb hby d32_10) _ kt) ?_
  rw [len_of Sz18 Nn18]
  refine oWk.st (fun _ kt => XS.icmpYes X.here hx rfl (pc0 := 11) (pc' := 29) rfl (hb hby d32_11) rfl (flt (by decide)).2.1 (by decide) (by decide) kt) ?_
  obtain ⟨o19, g19⟩ : ∃ z, z = h.size := ⟨_, rfl⟩
  have ne_xf_o19 : xf ≠ o19 := Nat.ne_of_lt (Nat.lt_of_lt_of_le V_xf.lt (Nat.le_of_eq g19.symm))
  have ne_o2_o19 : o2 ≠ o19 := Nat.ne_of_lt (Nat.lt_of_lt_of_le V_o2.lt (Nat.le_of_eq g19.symm))
  have ge_o19 : h0.size ≤ o19 := Nat.le_trans K.le (Nat.le_of_eq g19.symm)
  obtain ⟨T, h, X, e0, E19, A19, D19, -, st⟩ := newO X hx hZ hown (oW hw 75 rfl) (oW hw 218 rfl) (oW hw 219 rfl) e0 (g := (mkF m 29 #[rv xf, rv o2, iv 3] [])) rfl (hb hby d32_29) (by decide) (by decide)
  rw [← g19] at A19 D19 st
  refine oWk.st st ?_
  have K := K.ext E19
  have E_o19 := A19
  have F_elements_o19 : Fld Z h o19 "java/util/ImmutableCollections$ListN" "elements" "[Ljava/lang/Object;" .null := D19 (Or.inr (oW hw 229 rfl)) (ty := (.array (.object "java/lang/Object"))) (by decide)
  have F_allowNulls_o19 : Fld Z h o19 "java/util/ImmutableCollections$ListN" "allowNulls" "Z" (.int (0 : Int32)) := D19 (Or.inr (oW hw 231 rfl)) (ty := .boolean) (by decide)
  refine oWk.st (fun _ kt => XS.dup X.here hx rfl (hb hby d32_32) rfl rfl (XS.aloadN X.here hx rfl (hb hby d32_33) rfl rfl (XS.iconst X.here hx rfl (hb hby d32_34) kt))) ?_
  have Oh := K.old O0 all0
  obtain ⟨_, _, ⟨T, L21, k21, n21⟩, -, X, ⟨Lc21, hQ, l21, y21, z21⟩, st⟩ := X.specialBackNest hx (y := yy33) rfl hown (oMvM hZ (oW hw 220 rfl)) (mvT hZ (oW hw 221 rfl)) (mvT hZ (oW hw 223 rfl)) (by decide) (backOf (W := 1) (rLNI l Z a0 hw [] o19 o2 .null (.int (0 : Int32)) h Oh (Nat.le_trans O0.1 ge_o19) E_o19 F_elements_o19 F_allowNulls_o19) hZ (oW hw 223 rfl) (oW hw 219 rfl) (by decide) (by decide)) (g := (mkF m 35 #[rv xf, rv o2, iv 3] [(.int 0), (.ref o2), (.ref o19), (.ref o19)])) rfl (by rw [hml]; rfl) (Steps.refl _) (a := o19) (argsL := [(.ref o2), (.int (0 : Int32))]) (rest := [(.ref o19)]) (lenOf pd_20 rfl) rfl (Nat.le_of_eq rfl) (hb hby d32_35) (fun _ _ => ⟨rfl, e0, (by decide : 2 + 0 ≤ _), (by decide : 5 + 0 ≤ _)⟩)
  dsimp only [Pt.U, Pt.locs, Pt.cells, Pt.slots] at X l21 y21 z21 st hQ
  subst l21 y21 z21
  obtain ⟨h, e0⟩ : ∃ z, T.heap = z := ⟨_, rfl⟩
  rw [e0] at hQ
  obtain ⟨rfl, K20, E_o19, F_elements_o19, F_allowNulls_o19⟩ := hQ
  have K := K.call K20 (allS (Or.inr ge_o19) all0)
  refine oWk.tr st ?_
  have V_o2 := ((V_o2.ext E19).keep K20.1 (ninS ne_o2_o19 nin0))
  exact oRetA X hx hlk hret rfl rfl (hb hby d32_38) (by rw [e0]; exact ⟨o19, o2, k2, rfl, K, ge_o19, E_o19, F_elements_o19, F_allowNulls_o19, ge_o2, V_o2⟩) (by decide) (by decide)
def Q_rOf_3 (Z : State) (xf : Addr) (xk : ClassId) (xe0 : Addr) (xe1 : Addr) (xe2 : Addr) (h0 : Heap) (v : Option Value) (h : Heap) (L : List Loc) : Prop := ∃ (nl : Addr) (ng : Addr) (nj : ClassId), v = some (.ref nl) ∧ oKp h0 h [] L ∧ (h0.size ≤ nl) ∧ (Exa Z h nl "java/util/ImmutableCollections$ListN") ∧ (Fld Z h nl "java/util/ImmutableCollections$ListN" "elements" "[Ljava/lang/Object;" (.ref ng)) ∧ (Fld Z h nl "java/util/ImmutableCollections$ListN" "allowNulls" "Z" (.int (0 : Int32))) ∧ (h0.size ≤ ng) ∧ (Arv Z h ng nj (.object "java/lang/Object") (3 : Int32) [(.ref xe0), (.ref xe1), (.ref xe2)] .null)
theorem d27_59 : decode jdk_40_method_47_code 59 = .ok (.aload_n 0, 1) := by decide +kernel
theorem d27_60 : decode jdk_40_method_47_code 60 = .ok (.invokestatic 109, 3) := by decide +kernel
theorem d27_63 : decode jdk_40_method_47_code 63 = .ok (.areturn, 1) := by decide +kernel
theorem rOf_3 (l : Launch) (Z : State) (a0 : Array Value) (hw : ∀ d ∈ tables_1, d.before a0 Z = true) (ws : List Jvm.Cond) (xf : Addr) (xk : ClassId) (xe0 : Addr) (xe1 : Addr) (xe2 : Addr) (h0 : Heap) (O0 : Ext Z.heap h0) (V_xf : Arv Z h0 xf xk (.object "java/lang/Object") (3 : Int32) [(.ref xe0), (.ref xe1), (.ref xe2)] .null) (I_xe0 : Ins Z h0 xe0 "java/lang/Object" true) (I_xe1 : Ins Z h0 xe1 "java/lang/Object" true) (I_xe2 : Ins Z h0 xe2 "java/lang/Object" true) :
    oCon l Z yy30 jdk_40_method_47_code 2 (some (.object "java/util/List")) ws ({ frames := 6, cells := 2, slots := 5, locals := 77 } : Room) #[(.ref xf)] h0 (Q_rOf_3 Z xf xk xe0 xe1 xe2 h0) := by
  refine oCon.of (plainFor_of_name pn_9) ?_
  intro p e s m below meth c T X hx hby hml hown hnm hret hlk hZ e0
  have hml : c.maxLocals = 2 := hml
  have K : oKp h0 h0 [] [] := oKp.nil _ _
  refine oWk.cast (g' := (mkF m 0 #[rv xf, uu] [])) (by first | rfl | (simp [entryFrame, mkF, argsToLocals, Value.category]; done)) ?_
  refine oWk.st (fun _ kt => XS.aloadN X.here hx rfl (hb hby d27_0) rfl rfl kt) ?_
  obtain ⟨cl1, Ar1, q1, Sz1, Nn1, Hs1, Ft1⟩ := id V_xf
  refine oWk.st (fun _ kt => X.arraylength hx (by rw [e0]; exact Ar1.1) (State.isArrayOf_alike hZ.alike Ar1.2.1) (g := (mkF m 1 #[rv xf, uu] [(.ref xf)])) rfl rfl (hb hby d27_1) _ kt) ?_
  rw [len_of Sz1 Nn1]
  refine oWk.st (fun _ kt => XS.tswOut X.here hx rfl (pc0 := 2) (pc' := 59) rfl (hb hby d27_2) rfl (by decide) (by decide) (by decide) (XS.aloadN X.here hx rfl (hb hby d27_59) rfl rfl kt)) ?_
  have lt_xf := V_xf.lt
  have Oh := K.old O0 all0
  obtain ⟨_, _, ⟨T, L3, k3, n3⟩, -, X, ⟨Lc3, hQ, l3, y3, z3⟩, st⟩ := Jvm.LawKit.callS X hx (y := yy34) hown (mvT hZ (oW hw 213 rfl)) (mvT hZ (oW hw 214 rfl)) (mvT hZ (oW hw 68 rfl)) (mvT hZ (oW hw 215 rfl)) (by decide) (backOf (W := 0) (rLFA_3 l Z a0 hw [] xf xk xe0 xe1 xe2 h0 Oh V_xf I_xe0 I_xe1 I_xe2) hZ (oW hw 215 rfl) (oW hw 68 rfl) (by decide) (by decide)) (g := (mkF m 60 #[rv xf, uu] [(.ref xf)])) rfl (by rw [hml]; rfl) (argsL := [(.ref xf)]) (rest := []) (lenOf pd_18 rfl) rfl (Nat.le_of_eq rfl) (hb hby d27_60) (fun _ _ => ⟨rfl, e0, (by decide : 0 + 2 ≤ _), (by decide : 0 + 5 ≤ _)⟩)
  dsimp only [Pt.U, Pt.locs, Pt.cells, Pt.slots] at X l3 y3 z3 st hQ
  subst l3 y3 z3
  obtain ⟨h, e0⟩ : ∃ z, T.heap = z := ⟨_, rfl⟩
  rw [e0] at hQ
  obtain ⟨nl2, ng2, nj2, rfl, K2, gn_nl2, E_nl2, F_elements_nl2, F_allowNulls_nl2, gn_ng2, V_ng2⟩ := hQ
  have ge_nl2 := Nat.le_trans K.le gn_nl2
  have ne_xf_nl2 : xf ≠ nl2 := Nat.ne_of_lt (Nat.lt_of_lt_of_le lt_xf gn_nl2)
  have ge_ng2 := Nat.le_trans K.le gn_ng2
  have ne_xf_ng2 : xf ≠ ng2 := Nat.ne_of_lt (Nat.lt_of_lt_of_le lt_xf gn_ng2)
  have K := K.call K2 all0
  refine oWk.st st ?_
  exact oRetA X hx hlk hret rfl rfl (hb hby d27_63) (by rw [e0]; exact ⟨nl2, ng2, nj2, rfl, K, ge_nl2, E_nl2, F_elements_nl2, F_allowNulls_nl2, ge_ng2, V_ng2⟩) (by decide) (by decide)
def Q_rLC_3 (Z : State) (xa : Addr) (xf : Addr) (xmr : Addr) (xk : ClassId) (xe0 : Addr) (xe1 : Addr) (xe2 : Addr) (h0 : Heap) (v : Option Value) (h : Heap) (L : List Loc) : Prop := ∃ (nl : Addr) (ng : Addr) (nj : ClassId), v = some (.ref nl) ∧ oKp h0 h [] L ∧ (h0.size ≤ nl) ∧ (Exa Z h nl "java/util/ImmutableCollections$ListN") ∧ (Fld Z h nl "java/util/ImmutableCollections$ListN" "elements" "[Ljava/lang/Object;" (.ref ng)) ∧ (Fld Z h nl "java/util/ImmutableCollections$ListN" "allowNulls" "Z" (.int (0 : Int32))) ∧ (h0.size ≤ ng) ∧ (Arv Z h ng nj (.object "java/lang/Object") (3 : Int32) [(.ref xe0), (.ref xe1), (.ref xe2)] .null)
theorem rLC_3 (l : Launch) (Z : State) (a0 : Array Value) (hw : ∀ d ∈ tables_1, d.before a0 Z = true) (ws : List Jvm.Cond) (xa : Addr) (xf : Addr) (xmr : Addr) (xk : ClassId) (xe0 : Addr) (xe1 : Addr) (xe2 : Addr) (h0 : Heap) (O0 : Ext Z.heap h0) (mm_ : oMir Z "[Ljava/lang/Object;" xmr) (E_xa : Exa Z h0 xa "java/util/ArrayList") (F_elementData_xa : Fld Z h0 xa "java/util/ArrayList" "elementData" "[Ljava/lang/Object;" (.ref xf)) (F_size_xa : Fld Z h0 xa "java/util/ArrayList" "size" "I" (.int (3 : Int32))) (E_xf : Exa Z h0 xf "[Ljava/lang/Object;") (V_xf : Arv Z h0 xf xk (.object "java/lang/Object") (10 : Int32) [(.ref xe0), (.ref xe1), (.ref xe2), .null, .null, .null, .null, .null, .null, .null] .null) (I_xe0 : Ins Z h0 xe0 "java/lang/Object" true) (I_xe1 : Ins Z h0 xe1 "java/lang/Object" true) (I_xe2 : Ins Z h0 xe2 "java/lang/Object" true) :
    oCon l Z yy13 jdk_56_method_3_code 2 (some (.object "java/util/List")) ws ({ frames := 7, cells := 3, slots := 8, locals := 90 } : Room) #[(.ref xa)] h0 (Q_rLC_3 Z xa xf xmr xk xe0 xe1 xe2 h0) := by
  refine oCon.of (plainFor_of_name pn_10) ?_
  intro p e s m below meth c T X hx hby hml hown hnm hret hlk hZ e0
  have hml : c.maxLocals = 2 := hml
  have K : oKp h0 h0 [] [] := oKp.nil _ _
  refine oWk.cast (g' := (mkF m 0 #[rv xa, uu] [])) (by first | rfl | (simp [entryFrame, mkF, argsToLocals, Value.category]; done)) ?_
  refine oWk.st (fun _ kt => XS.aloadN X.here hx rfl (hb hby d12_0) rfl rfl kt) ?_
  obtain ⟨T, X, e0, st⟩ := instNo X hx hZ hown (oW hw 70 rfl) e0 E_xa (oNSno (oW hw 71 rfl) (oW hw 184 rfl) (NS.step (oW hw 71 rfl) (NS.step (oW hw 72 rfl) (NS.step (oW hw 73 rfl) (oNSroot (oW hw 74 rfl) (oW hw 184 rfl) (by decide)) (by decide)) (by decide)) (by decide)) (by decide)) (g := (mkF m 1 #[rv xa, uu] [(.ref xa)])) rfl rfl (hb hby d12_1)
  refine oWk.st st ?_
  refine oWk.st (fun _ kt => XS.ifNo X.here hx rfl (hb hby d12_4) rfl ((if0 _ _).trans (teq (by decide)).2) (XS.aloadN X.here hx rfl (hb hby d12_7) rfl rfl kt)) ?_
  obtain ⟨T, X, e0, st⟩ := instNo X hx hZ hown (oW hw 75 rfl) e0 E_xa (oNSno (oW hw 71 rfl) (oW hw 218 rfl) (NS.step (oW hw 71 rfl) (NS.step (oW hw 72 rfl) (NS.step (oW hw 73 rfl) (oNSroot (oW hw 74 rfl) (oW hw 218 rfl) (by decide)) (by decide)) (by decide)) (by decide)) (by decide)) (g := (mkF m 8 #[rv xa, uu] [(.ref xa)])) rfl rfl (hb hby d12_8)
  refine oWk.st st ?_
  refine oWk.st (fun _ kt => XS.ifYes X.here hx rfl (pc0 := 11) (pc' := 31) rfl (hb hby d12_11) rfl ((if0 _ _).trans (teq (by decide)).1) (by decide) (by decide) (XS.aloadN X.here hx rfl (hb hby d12_31) rfl rfl kt)) ?_
  have Oh := K.old O0 all0
  obtain ⟨cq2, kq2, q2a, q2b, q2c⟩ := isOf hZ e0 E_xa
  obtain ⟨_, _, ⟨T, L2, k2, n2⟩, -, X, ⟨Lc2, hQ, l2, y2, z2⟩, st⟩ := X.interfaceBack hx (xi := yy14) (y := yy11) hown (mvT hZ (oW hw 76 rfl)) (mvT hZ (oW hw 77 rfl)) (mvT hZ (oW hw 78 rfl)) (mvT hZ (oW hw 79 rfl)) (mvT hZ (oW hw 80 rfl)) (mvT hZ (oW hw 81 rfl)) (mvT hZ (oW hw 82 rfl)) (mvT hZ (oW hw 83 rfl)) (by decide) (backOf (W := 0) (rEmp3 l Z a0 hw [] xa h0 Oh F_size_xa) hZ (oW hw 84 rfl) (oW hw 28 rfl) (by decide) (by decide)) q2a q2b q2c (g := (mkF m 32 #[rv xa, uu] [(.ref xa)])) rfl (by rw [hml]; rfl) (Steps.refl _) (argsL := []) (rest := []) (lenOf pd_5 rfl) rfl (Nat.le_of_eq rfl) (hb hby d12_32) (fun _ _ => ⟨rfl, e0, (by decide : 0 + 0 ≤ _), (by decide : 0 + 0 ≤ _)⟩)
  dsimp only [Pt.U, Pt.locs, Pt.cells, Pt.slots] at X l2 y2 z2 st hQ
  subst l2 y2 z2
  obtain ⟨rfl, e0, K1⟩ := hQ
  have K := K.call K1 all0
  rw [e0] at K
  refine oWk.tr st ?_
  refine oWk.st (fun _ kt => XS.ifYes X.here hx rfl (pc0 := 37) (pc' := 44) rfl (hb hby d12_37) rfl ((if0 _ _).trans (teq (by decide)).1) (by decide) (by decide) (XS.aloadN X.here hx rfl (hb hby d12_44) rfl rfl kt)) ?_
  have lt_xa := E_xa.lt
  have lt_xf := E_xf.lt
  have Oh := K.old O0 all0
  obtain ⟨cq4, kq4, q4a, q4b, q4c⟩ := isOf hZ e0 E_xa
  obtain ⟨_, _, ⟨T, L4, k4, n4⟩, -, X, ⟨Lc4, hQ, l4, y4, z4⟩, st⟩ := X.interfaceBack hx (xi := yy31) (y := yy25) hown (mvT hZ (oW hw 150 rfl)) (mvT hZ (oW hw 151 rfl)) (mvT hZ (oW hw 152 rfl)) (mvT hZ (oW hw 153 rfl)) (mvT hZ (oW hw 154 rfl)) (mvT hZ (oW hw 155 rfl)) (mvT hZ (oW hw 156 rfl)) (mvT hZ (oW hw 83 rfl)) (by decide) (backOf (W := 0) (rTA_3 l Z a0 hw [] xa xf xmr xk xe0 xe1 xe2 h0 Oh mm_ F_elementData_xa F_size_xa E_xf V_xf I_xe0 I_xe1 I_xe2) hZ (oW hw 157 rfl) (oW hw 28 rfl) (by decide) (by decide)) q4a q4b q4c (g := (mkF m 45 #[rv xa, uu] [(.ref xa)])) rfl (by rw [hml]; rfl) (Steps.refl _) (argsL := []) (rest := []) (lenOf pd_11 rfl) rfl (Nat.le_of_eq rfl) (hb hby d12_45) (fun _ _ => ⟨rfl, e0, (by decide : 0 + 1 ≤ _), (by decide : 0 + 3 ≤ _)⟩)
  dsimp only [Pt.U, Pt.locs, Pt.cells, Pt.slots] at X l4 y4 z4 st hQ
  subst l4 y4 z4
  obtain ⟨h, e0⟩ : ∃ z, T.heap = z := ⟨_, rfl⟩
  rw [e0] at hQ
  obtain ⟨nb3, nj3, rfl, K3, gn_nb3, E_nb3, V_nb3, ov_nj3⟩ := hQ
  have ge_nb3 := Nat.le_trans K.le gn_nb3
  have ne_xa_nb3 : xa ≠ nb3 := Nat.ne_of_lt (Nat.lt_of_lt_of_le lt_xa gn_nb3)
  have ne_xf_nb3 : xf ≠ nb3 := Nat.ne_of_lt (Nat.lt_of_lt_of_le lt_xf gn_nb3)
  have K := K.call K3 all0
  refine oWk.tr st ?_
  have I_xe0 := (oInsKeep I_xe0 K3.1)
  have I_xe1 := (oInsKeep I_xe1 K3.1)
  have I_xe2 := (oInsKeep I_xe2 K3.1)
  have E_xa := (E_xa.keep K3.1)
  have lt_xa := E_xa.lt
  have E_xf := (E_xf.keep K3.1)
  have lt_xf := E_xf.lt
  have lt_nb3 := E_nb3.lt
  have Oh := K.old O0 all0
  obtain ⟨_, _, ⟨T, L6, k6, n6⟩, -, X, ⟨Lc6, hQ, l6, y6, z6⟩, st⟩ := Jvm.LawKit.callS X hx (y := yy30) hown (mvT hZ (oW hw 180 rfl)) (mvT hZ (oW hw 181 rfl)) (mvT hZ (oW hw 64 rfl)) (mvT hZ (oW hw 182 rfl)) (by decide) (backOf (W := 0) (rOf_3 l Z a0 hw [] nb3 nj3 xe0 xe1 xe2 h Oh V_nb3 I_xe0 I_xe1 I_xe2) hZ (oW hw 182 rfl) (oW hw 64 rfl) (by decide) (by decide)) (g := (mkF m 50 #[rv xa, uu] [(.ref nb3)])) rfl (by rw [hml]; rfl) (argsL := [(.ref nb3)]) (rest := []) (lenOf pd_18 rfl) rfl (Nat.le_of_eq rfl) (hb hby d12_50) (fun _ _ => ⟨rfl, e0, (by decide : 1 + 2 ≤ _), (by decide : 3 + 5 ≤ _)⟩)
  dsimp only [Pt.U, Pt.locs, Pt.cells, Pt.slots] at X l6 y6 z6 st hQ
  subst l6 y6 z6
  obtain ⟨h, e0⟩ : ∃ z, T.heap = z := ⟨_, rfl⟩
  rw [e0] at hQ
  obtain ⟨nl5, ng5, nj5, rfl, K5, gn_nl5, E_nl5, F_elements_nl5, F_allowNulls_nl5, gn_ng5, V_ng5⟩ := hQ
  have ge_nl5 := Nat.le_trans K.le gn_nl5
  have ne_xa_nl5 : xa ≠ nl5 := Nat.ne_of_lt (Nat.lt_of_lt_of_le lt_xa gn_nl5)
  have ne_xf_nl5 : xf ≠ nl5 := Nat.ne_of_lt (Nat.lt_of_lt_of_le lt_xf gn_nl5)
  have ne_nb3_nl5 : nb3 ≠ nl5 := Nat.ne_of_lt (Nat.lt_of_lt_of_le lt_nb3 gn_nl5)
  have ge_ng5 := Nat.le_trans K.le gn_ng5
  have ne_xa_ng5 : xa ≠ ng5 := Nat.ne_of_lt (Nat.lt_of_lt_of_le lt_xa gn_ng5)
  have ne_xf_ng5 : xf ≠ ng5 := Nat.ne_of_lt (Nat.lt_of_lt_of_le lt_xf gn_ng5)
  have ne_nb3_ng5 : nb3 ≠ ng5 := Nat.ne_of_lt (Nat.lt_of_lt_of_le lt_nb3 gn_ng5)
  have K := K.call K5 all0
  refine oWk.st st ?_
  exact oRetA X hx hlk hret rfl rfl (hb hby d12_53) (by rw [e0]; exact ⟨nl5, ng5, nj5, rfl, K, ge_nl5, E_nl5, F_elements_nl5, F_allowNulls_nl5, ge_ng5, V_ng5⟩) (by decide) (by decide)
def Q_rCO_3 (Z : State) (xa : Addr) (xf : Addr) (xmr : Addr) (xk : ClassId) (xe0 : Addr) (xe1 : Addr) (xe2 : Addr) (h0 : Heap) (v : Option Value) (h : Heap) (L : List Loc) : Prop := ∃ (nl : Addr) (ng : Addr) (nj : ClassId), v = some (.ref nl) ∧ oKp h0 h [] L ∧ (h0.size ≤ nl) ∧ (Exa Z h nl "java/util/ImmutableCollections$ListN") ∧ (Fld Z h nl "java/util/ImmutableCollections$ListN" "elements" "[Ljava/lang/Object;" (.ref ng)) ∧ (Fld Z h nl "java/util/ImmutableCollections$ListN" "allowNulls" "Z" (.int (0 : Int32))) ∧ (h0.size ≤ ng) ∧ (Arv Z h ng nj (.object "java/lang/Object") (3 : Int32) [(.ref xe0), (.ref xe1), (.ref xe2)] .null)
theorem rCO_3 (l : Launch) (Z : State) (a0 : Array Value) (hw : ∀ d ∈ tables_1, d.before a0 Z = true) (ws : List Jvm.Cond) (xa : Addr) (xf : Addr) (xmr : Addr) (xk : ClassId) (xe0 : Addr) (xe1 : Addr) (xe2 : Addr) (h0 : Heap) (O0 : Ext Z.heap h0) (mm_ : oMir Z "[Ljava/lang/Object;" xmr) (E_xa : Exa Z h0 xa "java/util/ArrayList") (F_elementData_xa : Fld Z h0 xa "java/util/ArrayList" "elementData" "[Ljava/lang/Object;" (.ref xf)) (F_size_xa : Fld Z h0 xa "java/util/ArrayList" "size" "I" (.int (3 : Int32))) (E_xf : Exa Z h0 xf "[Ljava/lang/Object;") (V_xf : Arv Z h0 xf xk (.object "java/lang/Object") (10 : Int32) [(.ref xe0), (.ref xe1), (.ref xe2), .null, .null, .null, .null, .null, .null, .null] .null) (I_xe0 : Ins Z h0 xe0 "java/lang/Object" true) (I_xe1 : Ins Z h0 xe1 "java/lang/Object" true) (I_xe2 : Ins Z h0 xe2 "java/lang/Object" true) :
    oCon l Z yy15 jdk_40_method_48_code 1 (some (.object "java/util/List")) ws ({ frames := 8, cells := 3, slots := 8, locals := 103 } : Room) #[(.ref xa)] h0 (Q_rCO_3 Z xa xf xmr xk xe0 xe1 xe2 h0) := by
  refine oCon.of (plainFor_of_name pn_9) ?_
  intro p e s m below meth c T X hx hby hml hown hnm hret hlk hZ e0
  have hml : c.maxLocals = 1 := hml
  have K : oKp h0 h0 [] [] := oKp.nil _ _
  refine oWk.cast (g' := (mkF m 0 #[rv xa] [])) (by first | rfl | (simp [entryFrame, mkF, argsToLocals, Value.category]; done)) ?_
  refine oWk.st (fun _ kt => XS.aloadN X.here hx rfl (hb hby d11_0) rfl rfl kt) ?_
  have lt_xa := E_xa.lt
  have lt_xf := E_xf.lt
  have Oh := K.old O0 all0
  obtain ⟨_, _, ⟨T, L2, k2, n2⟩, -, X, ⟨Lc2, hQ, l2, y2, z2⟩, st⟩ := Jvm.LawKit.callS X hx (y := yy13) hown (mvT hZ (oW hw 66 rfl)) (mvT hZ (oW hw 67 rfl)) (mvT hZ (oW hw 68 rfl)) (mvT hZ (oW hw 69 rfl)) (by decide) (backOf (W := 0) (rLC_3 l Z a0 hw [] xa xf xmr xk xe0 xe1 xe2 h0 Oh mm_ E_xa F_elementData_xa F_size_xa E_xf V_xf I_xe0 I_xe1 I_xe2) hZ (oW hw 69 rfl) (oW hw 68 rfl) (by decide) (by decide)) (g := (mkF m 1 #[rv xa] [(.ref xa)])) rfl (by rw [hml]; rfl) (argsL := [(.ref xa)]) (rest := []) (lenOf pd_7 rfl) rfl (Nat.le_of_eq rfl) (hb hby d11_1) (fun _ _ => ⟨rfl, e0, (by decide : 0 + 3 ≤ _), (by decide : 0 + 8 ≤ _)⟩)
  dsimp only [Pt.U, Pt.locs, Pt.cells, Pt.slots] at X l2 y2 z2 st hQ
  subst l2 y2 z2
  obtain ⟨h, e0⟩ : ∃ z, T.heap = z := ⟨_, rfl⟩
  rw [e0] at hQ
  obtain ⟨nl1, ng1, nj1, rfl, K1, gn_nl1, E_nl1, F_elements_nl1, F_allowNulls_nl1, gn_ng1, V_ng1⟩ := hQ
  have ge_nl1 := Nat.le_trans K.le gn_nl1
  have ne_xa_nl1 : xa ≠ nl1 := Nat.ne_of_lt (Nat.lt_of_lt_of_le lt_xa gn_nl1)
  have ne_xf_nl1 : xf ≠ nl1 := Nat.ne_of_lt (Nat.lt_of_lt_of_le lt_xf gn_nl1)
  have ge_ng1 := Nat.le_trans K.le gn_ng1
  have ne_xa_ng1 : xa ≠ ng1 := Nat.ne_of_lt (Nat.lt_of_lt_of_le lt_xa gn_ng1)
  have ne_xf_ng1 : xf ≠ ng1 := Nat.ne_of_lt (Nat.lt_of_lt_of_le lt_xf gn_ng1)
  have K := K.call K1 all0
  refine oWk.st st ?_
  exact oRetA X hx hlk hret rfl rfl (hb hby d11_4) (by rw [e0]; exact ⟨nl1, ng1, nj1, rfl, K, ge_nl1, E_nl1, F_elements_nl1, F_allowNulls_nl1, ge_ng1, V_ng1⟩) (by decide) (by decide)
def Q_rDI_0_3 (Z : State) (xa : Addr) (xs : Addr) (xi : Int32) (u1 : Value) (u2 : Value) (u3 : Value) (u4 : Value) (xg : Addr) (xh : Addr) (xhf : Addr) (xhk : ClassId) (xhe0 : Addr) (xhe1 : Addr) (xhe2 : Addr) (xl : Addr) (xmr : Addr) (h0 : Heap) (v : Option Value) (h : Heap) (L : List Loc) : Prop := ∃ (nbl : Addr), v = none ∧ oKp h0 h [xa] L ∧ (Exa Z h xa "com/example/modwright/modwright/script/Directive") ∧ (Fld Z h xa "com/example/modwright/modwright/script/Directive" "block" "Ljava/util/List;" (.ref nbl))
theorem rDI_0_3 (l : Launch) (Z : State) (a0 : Array Value) (hw : ∀ d ∈ tables_1, d.before a0 Z = true) (ws : List Jvm.Cond) (xa : Addr) (xs : Addr) (xi : Int32) (u1 : Value) (u2 : Value) (u3 : Value) (u4 : Value) (xg : Addr) (xh : Addr) (xhf : Addr) (xhk : ClassId) (xhe0 : Addr) (xhe1 : Addr) (xhe2 : Addr) (xl : Addr) (xmr : Addr) (h0 : Heap) (O0 : Ext Z.heap h0) (S_EMPTY_LIST : Sta Z Z.heap "java/util/ImmutableCollections" "EMPTY_LIST" "Ljava/util/ImmutableCollections$ListN;" (.ref xl)) (mm_ : oMir Z "[Ljava/lang/Object;" xmr) (og_xa : Z.heap.size ≤ xa) (E_xa : Exa Z h0 xa "com/example/modwright/modwright/script/Directive") (F_name_xa : Fld Z h0 xa "com/example/modwright/modwright/script/Directive" "name" "Ljava/lang/String;" u1) (F_line_xa : Fld Z h0 xa "com/example/modwright/modwright/script/Directive" "line" "I" u2) (F_arguments_xa : Fld Z h0 xa "com/example/modwright/modwright/script/Directive" "arguments" "Ljava/util/List;" u3) (F_block_xa : Fld Z h0 xa "com/example/modwright/modwright/script/Directive" "block" "Ljava/util/List;" u4) (E_xg : Exa Z h0 xg "java/util/ArrayList") (F_size_xg : Fld Z h0 xg "java/util/ArrayList" "size" "I" (.int (0 : Int32))) (E_xh : Exa Z h0 xh "java/util/ArrayList") (F_elementData_xh : Fld Z h0 xh "java/util/ArrayList" "elementData" "[Ljava/lang/Object;" (.ref xhf)) (F_size_xh : Fld Z h0 xh "java/util/ArrayList" "size" "I" (.int (3 : Int32))) (E_xhf : Exa Z h0 xhf "[Ljava/lang/Object;") (V_xhf : Arv Z h0 xhf xhk (.object "java/lang/Object") (10 : Int32) [(.ref xhe0), (.ref xhe1), (.ref xhe2), .null, .null, .null, .null, .null, .null, .null] .null) (I_xhe0 : Ins Z h0 xhe0 "java/lang/Object" true) (I_xhe1 : Ins Z h0 xhe1 "java/lang/Object" true) (I_xhe2 : Ins Z h0 xhe2 "java/lang/Object" true) :
    oCon l Z yy16 prog_45_method_1_code 5 none ws ({ frames := 9, cells := 3, slots := 8, locals := 115 } : Room) #[(.ref xa), (.ref xs), (.int xi), (.ref xg), (.ref xh)] h0 (Q_rDI_0_3 Z xa xs xi u1 u2 u3 u4 xg xh xhf xhk xhe0 xhe1 xhe2 xl xmr h0) := by
  refine oCon.of (plainFor_of_name pn_4) ?_
  intro p e s m below meth c T X hx hby hml hown hnm hret hlk hZ e0
  have hml : c.maxLocals = 5 := hml
  have K : oKp h0 h0 [xa] [] := oKp.nil _ _
  refine oWk.cast (g' := (mkF m 0 #[rv xa, rv xs, iv xi, rv xg, rv xh] [])) (by first | rfl | (simp [entryFrame, mkF, argsToLocals, Value.category]; done)) ?_
  refine oWk.st (fun _ kt => XS.aloadN X.here hx rfl (hb hby d9_0) rfl rfl kt) ?_
  have Oh := K.old O0 (allS og_xa all0)
  obtain ⟨_, _, ⟨T, L2, k2, n2⟩, -, X, ⟨Lc2, hQ, l2, y2, z2⟩, st⟩ := X.specialBack hx (y := yy4) rfl hown (mvT hZ (oW hw 56 rfl)) (mvT hZ (oW hw 57 rfl)) (mvT hZ (oW hw 60 rfl)) (by decide) (backOf (W := 0) (rRec l Z a0 hw [] xa h0 Oh ) hZ (oW hw 60 rfl) (oW hw 59 rfl) (by decide) (by decide)) (g := (mkF m 1 #[rv xa, rv xs, iv xi, rv xg, rv xh] [(.ref xa)])) rfl (by rw [hml]; rfl) (Steps.refl _) (a := xa) (argsL := []) (rest := []) (lenOf pd_3 rfl) rfl (Nat.le_of_eq rfl) (hb hby d9_1) (fun _ _ => ⟨rfl, e0, (by decide : 0 + 0 ≤ _), (by decide : 0 + 0 ≤ _)⟩)
  dsimp only [Pt.U, Pt.locs, Pt.cells, Pt.slots] at X l2 y2 z2 st hQ
  subst l2 y2 z2
  obtain ⟨rfl, e0, K1⟩ := hQ
  have K := K.call K1 all0
  rw [e0] at K
  refine oWk.tr st ?_
  refine oWk.st (fun _ kt => XS.aconstNull X.here hx rfl (hb hby d9_4) (XS.aloadN X.here hx rfl (hb hby d9_5) rfl rfl kt)) ?_
  refine oWk.st (fun _ kt => Jvm.RoadKit.acmp (g := (mkF m 6 #[rv xa, rv xs, iv xi, rv xg, rv xh] [(.ref xs), .null])) X hx rfl rfl rfl (pc0 := 6) (pc' := 23) (same := false) rfl (hb hby d9_6) rfl (decide_eq_false nofun) (by decide) (by decide) kt) ?_
  show oWk _ _ _ _ T (mkF m 23 #[rv xa, rv xs, iv xi, rv xg, rv xh] [])
  refine oWk.st (fun _ kt => XS.aloadN X.here hx rfl (hb hby d9_23) rfl rfl kt) ?_
  have Oh := K.old O0 (allS og_xa all0)
  obtain ⟨_, _, ⟨T, L4, k4, n4⟩, -, X, ⟨Lc4, hQ, l4, y4, z4⟩, st⟩ := Jvm.LawKit.callS X hx (y := yy15) hown (mvT hZ (oW hw 62 rfl)) (mvT hZ (oW hw 63 rfl)) (mvT hZ (oW hw 64 rfl)) (mvT hZ (oW hw 65 rfl)) (by decide) (backOf (W := 0) (rCO0 l Z a0 hw [] xg xl h0 Oh S_EMPTY_LIST E_xg F_size_xg) hZ (oW hw 65 rfl) (oW hw 64 rfl) (by decide) (by decide)) (g := (mkF m 24 #[rv xa, rv xs, iv xi, rv xg, rv xh] [(.ref xg)])) rfl (by rw [hml]; rfl) (argsL := [(.ref xg)]) (rest := []) (lenOf pd_7 rfl) rfl (Nat.le_of_eq rfl) (hb hby d9_24) (fun _ _ => ⟨rfl, e0, (by decide : 0 + 0 ≤ _), (by decide : 0 + 0 ≤ _)⟩)
  dsimp only [Pt.U, Pt.locs, Pt.cells, Pt.slots] at X l4 y4 z4 st hQ
  subst l4 y4 z4
  obtain ⟨rfl, e0, K3⟩ := hQ
  have K := K.call K3 all0
  rw [e0] at K
  refine oWk.st st ?_
  refine oWk.st (fun _ kt => XS.astoreN X.here hx rfl (hb hby d9_27) rfl rfl (l' := #[rv xa, rv xs, iv xi, rv xl, rv xh]) rfl (XS.aconstNull X.here hx rfl (hb hby d9_28) (XS.aload X.here hx rfl (hb hby d9_29) rfl rfl kt))) ?_
  refine oWk.st (fun _ kt => Jvm.RoadKit.acmp (g := (mkF m 31 #[rv xa, rv xs, iv xi, rv xl, rv xh] [(.ref xh), .null])) X hx rfl rfl rfl (pc0 := 31) (pc' := 34) (same := false) rfl (hb hby d9_31) rfl (decide_eq_false nofun) (by decide) (by decide) kt) ?_
  show oWk _ _ _ _ T (mkF m 34 #[rv xa, rv xs, iv xi, rv xl, rv xh] [])
  refine oWk.st (fun _ kt => XS.aload X.here hx rfl (hb hby d9_34) rfl rfl kt) ?_
  have lt_xa := E_xa.lt
  have lt_xg := E_xg.lt
  have lt_xh := E_xh.lt
  have lt_xhf := E_xhf.lt
  have Oh := K.old O0 (allS og_xa all0)
  obtain ⟨_, _, ⟨T, L6, k6, n6⟩, -, X, ⟨Lc6, hQ, l6, y6, z6⟩, st⟩ := Jvm.LawKit.callS X hx (y := yy15) hown (mvT hZ (oW hw 62 rfl)) (mvT hZ (oW hw 63 rfl)) (mvT hZ (oW hw 64 rfl)) (mvT hZ (oW hw 65 rfl)) (by decide) (backOf (W := 0) (rCO_3 l Z a0 hw [] xh xhf xmr xhk xhe0 xhe1 xhe2 h0 Oh mm_ E_xh F_elementData_xh F_size_xh E_xhf V_xhf I_xhe0 I_xhe1 I_xhe2) hZ (oW hw 65 rfl) (oW hw 64 rfl) (by decide) (by decide)) (g := (mkF m 36 #[rv xa, rv xs, iv xi, rv xl, rv xh] [(.ref xh)])) rfl (by rw [hml]; rfl) (argsL := [(.ref xh)]) (rest := []) (lenOf pd_7 rfl) rfl (Nat.le_of_eq rfl) (hb hby d9_36) (fun _ _ => ⟨rfl, e0, (by decide : 0 + 3 ≤ _), (by decide : 0 + 8 ≤ _)⟩)
  dsimp only [Pt.U, Pt.locs, Pt.cells, Pt.slots] at X l6 y6 z6 st hQ
  subst l6 y6 z6
  obtain ⟨h, e0⟩ : ∃ z, T.heap = z := ⟨_, rfl⟩
  rw [e0] at hQ
  obtain ⟨nl5, ng5, nj5, rfl, K5, gn_nl5, E_nl5, F_elements_nl5, F_allowNulls_nl5, gn_ng5, V_ng5⟩ := hQ
  have ge_nl5 := Nat.le_trans K.le gn_nl5
  have ne_xa_nl5 : xa ≠ nl5 := Nat.ne_of_lt (Nat.lt_of_lt_of_le lt_xa gn_nl5)
  have ne_xg_nl5 : xg ≠ nl5 := Nat.ne_of_lt (Nat.lt_of_lt_of_le lt_xg gn_nl5)
  have ne_xh_nl5 : xh ≠ nl5 := Nat.ne_of_lt (Nat.lt_of_lt_of_le lt_xh gn_nl5)
  have ne_xhf_nl5 : xhf ≠ nl5 := Nat.ne_of_lt (Nat.lt_of_lt_of_le lt_xhf gn_nl5)
  have ge_ng5 := Nat.le_trans K.le gn_ng5
  have ne_xa_ng5 : xa ≠ ng5 := Nat.ne_of_lt (Nat.lt_of_lt_of_le lt_xa gn_ng5)
  have ne_xg_ng5 : xg ≠ ng5 := Nat.ne_of_lt (Nat.lt_of_lt_of_le lt_xg gn_ng5)
  have ne_xh_ng5 : xh ≠ ng5 := Nat.ne_of_lt (Nat.lt_of_lt_of_le lt_xh gn_ng5)
  have ne_xhf_ng5 : xhf ≠ ng5 := Nat.ne_of_lt (Nat.lt_of_lt_of_le lt_xhf gn_ng5)
  have K := K.call K5 all0
  refine oWk.st st ?_
  refine oWk.st (fun _ kt => XS.astore X.here hx rfl (hb hby d9_39) rfl rfl (l' := #[rv xa, rv xs, iv xi, rv xl, rv nl5]) rfl (XS.aloadN X.here hx rfl (hb hby d9_41) rfl rfl (XS.aloadN X.here hx rfl (hb hby d9_42) rfl rfl kt))) ?_
  have E_xa := (E_xa.keep K5.1)
  have F_name_xa := (F_name_xa.keep K5.1 nin0)
  obtain ⟨T, h, X, e0, W7, st⟩ := putF X hx hZ hown (host := "") (Or.inl (oW hw 91 rfl)) Via.refl e0 F_name_xa E_xa (Or.inr ⟨(oW hw 92 rfl), rfl, hnm⟩) (oW hw 51 rfl) (ty := (.object "java/lang/String")) (by decide) rfl rfl (g := (mkF m 43 #[rv xa, rv xs, iv xi, rv xl, rv nl5] [(.ref xs), (.ref xa)])) rfl rfl (hb hby d9_43)
  refine oWk.st st ?_
  have K := K.wr W7 (Or.inl (List.mem_of_getElem? (i := 0) rfl))
  have F_name_xa := F_name_xa.same W7
  refine oWk.st (fun _ kt => XS.aloadN X.here hx rfl (hb hby d9_46) rfl rfl (XS.iloadN X.here hx rfl (hb hby d9_47) rfl kt)) ?_
  have E_xa := (E_xa.wr W7)
  have F_line_xa := ((F_line_xa.keep K5.1 nin0).other W7 (Or.inr (slot_ne (Or.inr (oW hw 94 rfl)) (Or.inr (oW hw 92 rfl)) (by decide) (t := .int) (t' := (.object "java/lang/String")) (by decide) (by decide))))
  obtain ⟨T, h, X, e0, W8, st⟩ := putF X hx hZ hown (host := "") (Or.inl (oW hw 93 rfl)) Via.refl e0 F_line_xa E_xa (Or.inr ⟨(oW hw 94 rfl), rfl, hnm⟩) (oW hw 51 rfl) (ty := .int) (by decide) rfl rfl (g := (mkF m 48 #[rv xa, rv xs, iv xi, rv xl, rv nl5] [(.int xi), (.ref xa)])) rfl rfl (hb hby d9_48)
  refine oWk.st st ?_
  have K := K.wr W8 (Or.inl (List.mem_of_getElem? (i := 0) rfl))
  have F_line_xa := F_line_xa.same W8
  refine oWk.st (fun _ kt => XS.aloadN X.here hx rfl (hb hby d9_51) rfl rfl (XS.aloadN X.here hx rfl (hb hby d9_52) rfl rfl kt)) ?_
  have E_xa := (E_xa.wr W8)
  have F_arguments_xa := (((F_arguments_xa.keep K5.1 nin0).other W7 (Or.inr (slot_ne (Or.inr (oW hw 96 rfl)) (Or.inr (oW hw 92 rfl)) (by decide) (t := (.object "java/util/List")) (t' := (.object "java/lang/String")) (by decide) (by decide)))).other W8 (Or.inr (slot_ne (Or.inr (oW hw 96 rfl)) (Or.inr (oW hw 94 rfl)) (by decide) (t := (.object "java/util/List")) (t' := .int) (by decide) (by decide))))
  obtain ⟨T, h, X, e0, W9, st⟩ := putF X hx hZ hown (host := "") (Or.inl (oW hw 95 rfl)) Via.refl e0 F_arguments_xa E_xa (Or.inr ⟨(oW hw 96 rfl), rfl, hnm⟩) (oW hw 51 rfl) (ty := (.object "java/util/List")) (by decide) rfl rfl (g := (mkF m 53 #[rv xa, rv xs, iv xi, rv xl, rv nl5] [(.ref xl), (.ref xa)])) rfl rfl (hb hby d9_53)
  refine oWk.st st ?_
  have K := K.wr W9 (Or.inl (List.mem_of_getElem? (i := 0) rfl))
  have F_arguments_xa := F_arguments_xa.same W9
  refine oWk.st (fun _ kt => XS.aloadN X.here hx rfl (hb hby d9_56) rfl rfl (XS.aload X.here hx rfl (hb hby d9_57) rfl rfl kt)) ?_
  have E_xa := (E_xa.wr W9)
  have F_block_xa := ((((F_block_xa.keep K5.1 nin0).other W7 (Or.inr (slot_ne (Or.inr (oW hw 98 rfl)) (Or.inr (oW hw 92 rfl)) (by decide) (t := (.object "java/util/List")) (t' := (.object "java/lang/String")) (by decide) (by decide)))).other W8 (Or.inr (slot_ne (Or.inr (oW hw 98 rfl)) (Or.inr (oW hw 94 rfl)) (by decide) (t := (.object "java/util/List")) (t' := .int) (by decide) (by decide)))).other W9 (Or.inr (slot_ne (Or.inr (oW hw 98 rfl)) (Or.inr (oW hw 96 rfl)) (by decide) (t := (.object "java/util/List")) (t' := (.object "java/util/List")) (by decide) (by decide))))
  obtain ⟨T, h, X, e0, W10, st⟩ := putF X hx hZ hown (host := "") (Or.inl (oW hw 97 rfl)) Via.refl e0 F_block_xa E_xa (Or.inr ⟨(oW hw 98 rfl), rfl, hnm⟩) (oW hw 51 rfl) (ty := (.object "java/util/List")) (by decide) rfl rfl (g := (mkF m 59 #[rv xa, rv xs, iv xi, rv xl, rv nl5] [(.ref nl5), (.ref xa)])) rfl rfl (hb hby d9_59)
  refine oWk.st st ?_
  have K := K.wr W10 (Or.inl (List.mem_of_getElem? (i := 0) rfl))
  have F_block_xa := F_block_xa.same W10
  have E_xa := (E_xa.wr W10)
  exact oRetV X hx hlk hret (hb hby d9_62) (by rw [e0]; exact ⟨nl5, rfl, K, E_xa, F_block_xa⟩) (by decide) (by decide)
theorem pd_21 : parseMethodDescriptor "(CI)V" = some ⟨[.char, .int], none⟩ := by decide +kernel
def Q_rDI_1_0 (Z : State) (xa : Addr) (xs : Addr) (xi : Int32) (u1 : Value) (u2 : Value) (u3 : Value) (u4 : Value) (xg : Addr) (xgf : Addr) (xgk : ClassId) (xge0 : Addr) (xh : Addr) (xl : Addr) (xq : Addr) (xmr : Addr) (h0 : Heap) (v : Option Value) (h : Heap) (L : List Loc) : Prop := v = none ∧ oKp h0 h [xa] L ∧ (Exa Z h xa "com/example/modwright/modwright/script/Directive") ∧ (Fld Z h xa "com/example/modwright/modwright/script/Directive" "block" "Ljava/util/List;" (.ref xl))
theorem rDI_1_0 (l : Launch) (Z : State) (a0 : Array Value) (hw : ∀ d ∈ tables_1, d.before a0 Z = true) (ws : List Jvm.Cond) (xa : Addr) (xs : Addr) (xi : Int32) (u1 : Value) (u2 : Value) (u3 : Value) (u4 : Value) (xg : Addr) (xgf : Addr) (xgk : ClassId) (xge0 : Addr) (xh : Addr) (xl : Addr) (xq : Addr) (xmr : Addr) (h0 : Heap) (O0 : Ext Z.heap h0) (S_EMPTY_LIST : Sta Z Z.heap "java/util/ImmutableCollections" "EMPTY_LIST" "Ljava/util/ImmutableCollections$ListN;" (.ref xl)) (S_EMPTY : Sta Z Z.heap "java/util/ImmutableCollections" "EMPTY" "Ljava/lang/Object;" (.ref xq)) (mm_ : oMir Z "[Ljava/lang/Object;" xmr) (og_xa : Z.heap.size ≤ xa) (E_xa : Exa Z h0 xa "com/example/modwright/modwright/script/Directive") (F_name_xa : Fld Z h0 xa "com/example/modwright/modwright/script/Directive" "name" "Ljava/lang/String;" u1) (F_line_xa : Fld Z h0 xa "com/example/modwright/modwright/script/Directive" "line" "I" u2) (F_arguments_xa : Fld Z h0 xa "com/example/modwright/modwright/script/Directive" "arguments" "Ljava/util/List;" u3) (F_block_xa : Fld Z h0 xa "com/example/modwright/modwright/script/Directive" "block" "Ljava/util/List;" u4) (E_xg : Exa Z h0 xg "java/util/ArrayList") (F_elementData_xg : Fld Z h0 xg "java/util/ArrayList" "elementData" "[Ljava/lang/Object;" (.ref xgf)) (F_size_xg : Fld Z h0 xg "java/util/ArrayList" "size" "I" (.int (1 : Int32))) (E_xgf : Exa Z h0 xgf "[Ljava/lang/Object;") (V_xgf : Arv Z h0 xgf xgk (.object "java/lang/Object") (10 : Int32) [(.ref xge0), .null, .null, .null, .null, .null, .null, .null, .null, .null] .null) (I_xge0 : Ins Z h0 xge0 "java/lang/Object" true) (E_xh : Exa Z h0 xh "java/util/ArrayList") (F_size_xh : Fld Z h0 xh "java/util/ArrayList" "size" "I" (.int (0 : Int32))) :
    oCon l Z yy16 prog_45_method_1_code 5 none ws ({ frames := 8, cells := 2, slots := 3, locals := 100 } : Room) #[(.ref xa), (.ref xs), (.int xi), (.ref xg), (.ref xh)] h0 (Q_rDI_1_0 Z xa xs xi u1 u2 u3 u4 xg xgf xgk xge0 xh xl xq xmr h0) := by
  refine oCon.of (plainFor_of_name pn_4) ?_
  intro p e s m below meth c T X hx hby hml hown hnm hret hlk hZ e0
  have hml : c.maxLocals = 5 := hml
  have K : oKp h0 h0 [xa] [] := oKp.nil _ _
  refine oWk.cast (g' := (mkF m 0 #[rv xa, rv xs, iv xi, rv xg, rv xh] [])) (by first | rfl | (simp [entryFrame, mkF, argsToLocals, Value.category]; done)) ?_
  refine oWk.st (fun _ kt => XS.aloadN X.here hx rfl (hb hby d9_0) rfl rfl kt) ?_
  have Oh := K.old O0 (allS og_xa all0)
  obtain ⟨_, _, ⟨T, L2, k2, n2⟩, -, X, ⟨Lc2, hQ, l2, y2, z2⟩, st⟩ := X.specialBack hx (y := yy4) rfl hown (mvT hZ (oW hw 56 rfl)) (mvT hZ (oW hw 57 rfl)) (mvT hZ (oW hw 60 rfl)) (by decide) (backOf (W := 0) (rRec l Z a0 hw [] xa h0 Oh ) hZ (oW hw 60 rfl) (oW hw 59 rfl) (by decide) (by decide)) (g := (mkF m 1 #[rv xa, rv xs, iv xi, rv xg, rv xh] [(.ref xa)])) rfl (by rw [hml]; rfl) (Steps.refl _) (a := xa) (argsL := []) (rest := []) (lenOf pd_3 rfl) rfl (Nat.le_of_eq rfl) (hb hby d9_1) (fun _ _ => ⟨rfl, e0, (by decide : 0 + 0 ≤ _), (by decide : 0 + 0 ≤ _)⟩)
  dsimp only [Pt.U, Pt.locs, Pt.cells, Pt.slots] at X l2 y2 z2 st hQ
  subst l2 y2 z2
  obtain ⟨rfl, e0, K1⟩ := hQ
  have K := K.call K1 all0
  rw [e0] at K
  refine oWk.tr st ?_
  refine oWk.st (fun _ kt => XS.aconstNull X.here hx rfl (hb hby d9_4) (XS.aloadN X.here hx rfl (hb hby d9_5) rfl rfl kt)) ?_
  refine oWk.st (fun _ kt => Jvm.RoadKit.acmp (g := (mkF m 6 #[rv xa, rv xs, iv xi, rv xg, rv xh] [(.ref xs), .null])) X hx rfl rfl rfl (pc0 := 6) (pc' := 23) (same := false) rfl (hb hby d9_6) rfl (decide_eq_false nofun) (by decide) (by decide) kt) ?_
  show oWk _ _ _ _ T (mkF m 23 #[rv xa, rv xs, iv xi, rv xg, rv xh] [])
  refine oWk.st (fun _ kt => XS.aloadN X.here hx rfl (hb hby d9_23) rfl rfl kt) ?_
  have lt_xa := E_xa.lt
  have lt_xg := E_xg.lt
  have lt_xgf := E_xgf.lt
  have lt_xh := E_xh.lt
  have Oh := K.old O0 (allS og_xa all0)
  obtain ⟨_, _, ⟨T, L4, k4, n4⟩, -, X, ⟨Lc4, hQ, l4, y4, z4⟩, st⟩ := Jvm.LawKit.callS X hx (y := yy15) hown (mvT hZ (oW hw 62 rfl)) (mvT hZ (oW hw 63 rfl)) (mvT hZ (oW hw 64 rfl)) (mvT hZ (oW hw 65 rfl)) (by decide) (backOf (W := 0) (rCO_1 l Z a0 hw [] xg xgf xmr xgk xq xge0 h0 Oh S_EMPTY mm_ E_xg F_elementData_xg F_size_xg E_xgf V_xgf I_xge0) hZ (oW hw 65 rfl) (oW hw 64 rfl) (by decide) (by decide)) (g := (mkF m 24 #[rv xa, rv xs, iv xi, rv xg, rv xh] [(.ref xg)])) rfl (by rw [hml]; rfl) (argsL := [(.ref xg)]) (rest := []) (lenOf pd_7 rfl) rfl (Nat.le_of_eq rfl) (hb hby d9_24) (fun _ _ => ⟨rfl, e0, (by decide : 0 + 2 ≤ _), (by decide : 0 + 3 ≤ _)⟩)
  dsimp only [Pt.U, Pt.locs, Pt.cells, Pt.slots] at X l4 y4 z4 st hQ
  subst l4 y4 z4
  obtain ⟨h, e0⟩ : ∃ z, T.heap = z := ⟨_, rfl⟩
  rw [e0] at hQ
  obtain ⟨nl3, rfl, K3, gn_nl3, E_nl3, F_e0_nl3, F_e1_nl3⟩ := hQ
  have ge_nl3 := Nat.le_trans K.le gn_nl3
  have ne_xa_nl3 : xa ≠ nl3 := Nat.ne_of_lt (Nat.lt_of_lt_of_le lt_xa gn_nl3)
  have ne_xg_nl3 : xg ≠ nl3 := Nat.ne_of_lt (Nat.lt_of_lt_of_le lt_xg gn_nl3)
  have ne_xgf_nl3 : xgf ≠ nl3 := Nat.ne_of_lt (Nat.lt_of_lt_of_le lt_xgf gn_nl3)
  have ne_xh_nl3 : xh ≠ nl3 := Nat.ne_of_lt (Nat.lt_of_lt_of_le lt_xh gn_nl3)
  have K := K.call K3 all0
  refine oWk.st st ?_
  refine oWk.st (fun _ kt => XS.astoreN X.here hx rfl (hb hby d9_27) rfl rfl (l' := #[rv xa, rv xs, iv xi, rv nl3, rv xh]) rfl (XS.aconstNull X.here hx rfl (hb hby d9_28) (XS.aload X.here hx rfl (hb hby d9_29) rfl rfl kt))) ?_
  refine oWk.st (fun _ kt => Jvm.RoadKit.acmp (g := (mkF m 31 #[rv xa, rv xs, iv xi, rv nl3, rv xh] [(.ref xh), .null])) X hx rfl rfl rfl (pc0 := 31) (pc' := 34) (same := false) rfl (hb hby d9_31) rfl (decide_eq_false nofun) (by decide) (by decide) kt) ?_
  show oWk _ _ _ _ T (mkF m 34 #[rv xa, rv xs, iv xi, rv nl3, rv xh] [])
  refine oWk.st (fun _ kt => XS.aload X.here hx rfl (hb hby d9_34) rfl rfl kt) ?_
  have E_xh := (E_xh.keep K3.1)
  have F_size_xh := (F_size_xh.keep K3.1 nin0)
  have Oh := K.old O0 (allS og_xa all0)
  obtain ⟨_, _, ⟨T, L6, k6, n6⟩, -, X, ⟨Lc6, hQ, l6, y6, z6⟩, st⟩ := Jvm.LawKit.callS X hx (y := yy15) hown (mvT hZ (oW hw 62 rfl)) (mvT hZ (oW hw 63 rfl)) (mvT hZ (oW hw 64 rfl)) (mvT hZ (oW hw 65 rfl)) (by decide) (backOf (W := 0) (rCO0 l Z a0 hw [] xh xl h Oh S_EMPTY_LIST E_xh F_size_xh) hZ (oW hw 65 rfl) (oW hw 64 rfl) (by decide) (by decide)) (g := (mkF m 36 #[rv xa, rv xs, iv xi, rv nl3, rv xh] [(.ref xh)])) rfl (by rw [hml]; rfl) (argsL := [(.ref xh)]) (rest := []) (lenOf pd_7 rfl) rfl (Nat.le_of_eq rfl) (hb hby d9_36) (fun _ _ => ⟨rfl, e0, (by decide : 2 + 0 ≤ _), (by decide : 3 + 0 ≤ _)⟩)
  dsimp only [Pt.U, Pt.locs, Pt.cells, Pt.slots] at X l6 y6 z6 st hQ
  subst l6 y6 z6
  obtain ⟨rfl, e0, K5⟩ := hQ
  have K := K.call K5 all0
  rw [e0] at K
  refine oWk.st st ?_
  refine oWk.st (fun _ kt => XS.astore X.here hx rfl (hb hby d9_39) rfl rfl (l' := #[rv xa, rv xs, iv xi, rv nl3, rv xl]) rfl (XS.aloadN X.here hx rfl (hb hby d9_41) rfl rfl (XS.aloadN X.here hx rfl (hb hby d9_42) rfl rfl kt))) ?_
  have E_xa := (E_xa.keep K3.1)
  have F_name_xa := (F_name_xa.keep K3.1 nin0)
  obtain ⟨T, h, X, e0, W7, st⟩ := putF X hx hZ hown (host := "") (Or.inl (oW hw 91 rfl)) Via.refl e0 F_name_xa E_xa (Or.inr ⟨(oW hw 92 rfl), rfl, hnm⟩) (oW hw 51 rfl) (ty := (.object "java/lang/String")) (by decide) rfl rfl (g := (mkF m 43 #[rv xa, rv xs, iv xi, rv nl3, rv xl] [(.ref xs), (.ref xa)])) rfl rfl (hb hby d9_43)
  refine oWk.st st ?_
  have K := K.wr W7 (Or.inl (List.mem_of_getElem? (i := 0) rfl))
  have F_name_xa := F_name_xa.same W7
  refine oWk.st (fun _ kt => XS.aloadN X.here hx rfl (hb hby d9_46) rfl rfl (XS.iloadN X.here hx rfl (hb hby d9_47) rfl kt)) ?_
  have E_xa := (E_xa.wr W7)
  have F_line_xa := ((F_line_xa.keep K3.1 nin0).other W7 (Or.inr (slot_ne (Or.inr (oW hw 94 rfl)) (Or.inr (oW hw 92 rfl)) (by decide) (t := .int) (t' := (.object "java/lang/String")) (by decide) (by decide))))
  obtain ⟨T, h, X, e0, W8, st⟩ := putF X hx hZ hown (host := "") (Or.inl (oW hw 93 rfl)) Via.refl e0 F_line_xa E_xa (Or.inr ⟨(oW hw 94 rfl), rfl, hnm⟩) (oW hw 51 rfl) (ty := .int) (by decide) rfl rfl (g := (mkF m 48 #[rv xa, rv xs, iv xi, rv nl3, rv xl] [(.int xi), (.ref xa)])) rfl rfl (hb hby d9_48)
  refine oWk.st st ?_
  have K := K.wr W8 (Or.inl (List.mem_of_getElem? (i := 0) rfl))
  have F_line_xa := F_line_xa.same W8
  refine oWk.st (fun _ kt => XS.aloadN X.here hx rfl (hb hby d9_51) rfl rfl (XS.aloadN X.here hx rfl (hb hby d9_52) rfl rfl kt)) ?_
  have E_xa := (E_xa.wr W8)
  have F_arguments_xa := (((F_arguments_xa.keep K3.1 nin0).other W7 (Or.inr (slot_ne (Or.inr (oW hw 96 rfl)) (Or.inr (oW hw 92 rfl)) (by decide) (t := (.object "java/util/List")) (t' := (.object "java/lang/String")) (by decide) (by decide)))).other W8 (Or.inr (slot_ne (Or.inr (oW hw 96 rfl)) (Or.inr (oW hw 94 rfl)) (by decide) (t := (.object "java/util/List")) (t' := .int) (by decide) (by decide))))
  obtain ⟨T, h, X, e0, W9, st⟩ := putF X hx hZ hown (host := "") (Or.inl (oW hw 95 rfl)) Via.refl e0 F_arguments_xa E_xa (Or.inr ⟨(oW hw 96 rfl), rfl, hnm⟩) (oW hw 51 rfl) (ty := (.object "java/util/List")) (by decide) rfl rfl (g := (mkF m 53 #[rv xa, rv xs, iv xi, rv nl3, rv xl] [(.ref nl3), (.ref xa)])) rfl rfl (hb hby d9_53)
  refine oWk.st st ?_
  have K := K.wr W9 (Or.inl (List.mem_of_getElem? (i := 0) rfl))
  have F_arguments_xa := F_arguments_xa.same W9
  refine oWk.st (fun _ kt => XS.aloadN X.here hx rfl (hb hby d9_56) rfl rfl (XS.aload X.here hx rfl (hb hby d9_57) rfl rfl kt)) ?_
  have E_xa := (E_xa.wr W9)
  have F_block_xa := ((((F_block_xa.keep K3.1 nin0).other W7 (Or.inr (slot_ne (Or.inr (oW hw 98 rfl)) (Or.inr (oW hw 92 rfl)) (by decide) (t := (.object "java/util/List")) (t' := (.object "java/lang/String")) (by decide) (by decide)))).other W8 (Or.inr (slot_ne (Or.inr (oW hw 98 rfl)) (Or.inr (oW hw 94 rfl)) (by decide) (t := (.object "java/util/List")) (t' := .int) (by decide) (by decide)))).other W9 (Or.inr (slot_ne (Or.inr (oW hw 98 rfl)) (Or.inr (oW hw 96 rfl)) (by decide) (t := (.object "java/util/List")) (t' := (.object "java/util/List")) (by decide) (by decide))))
  obtain ⟨T, h, X, e0, W10, st⟩ := putF X hx hZ hown (host := "") (Or.inl (oW hw 97 rfl)) Via.refl e0 F_block_xa E_xa (Or.inr ⟨(oW hw 98 rfl), rfl, hnm⟩) (oW hw 51 rfl) (ty := (.object "java/util/List")) (by decide) rfl rfl (g := (mkF m 59 #[rv xa, rv xs, iv xi, rv nl3, rv xl] [(.ref xl), (.ref xa)])) rfl rfl (hb hby d9_59)
  refine oWk.st st ?_
  have K := K.wr W10 (Or.inl (List.mem_of_getElem? (i := 0) rfl))
  have F_block_xa := F_block_xa.same W10
  have E_xa := (E_xa.wr W10)
  exact oRetV X hx hlk hret (hb hby d9_62) (by rw [e0]; exact ⟨rfl, K, E_xa, F_block_xa⟩) (by decide) (by decide)
def Q_rDI_1_N (Z : State) (xa : Addr) (xs : Addr) (xi : Int32) (u1 : Value) (u2 : Value) (u3 : Value) (u4 : Value) (xg : Addr) (xgf : Addr) (xgk : ClassId) (xge0 : Addr) (xq : Addr) (xmr : Addr) (h0 : Heap) (v : Option Value) (h : Heap) (L : List Loc) : Prop := v = none ∧ oKp h0 h [xa] L ∧ (Exa Z h xa "com/example/modwright/modwright/script/Directive") ∧ (Fld Z h xa "com/example/modwright/modwright/script/Directive" "block" "Ljava/util/List;" .null)
theorem rDI_1_N (l : Launch) (Z : State) (a0 : Array Value) (hw : ∀ d ∈ tables_1, d.before a0 Z = true) (ws : List Jvm.Cond) (xa : Addr) (xs : Addr) (xi : Int32) (u1 : Value) (u2 : Value) (u3 : Value) (u4 : Value) (xg : Addr) (xgf : Addr) (xgk : ClassId) (xge0 : Addr) (xq : Addr) (xmr : Addr) (h0 : Heap) (O0 : Ext Z.heap h0) (S_EMPTY : Sta Z Z.heap "java/util/ImmutableCollections" "EMPTY" "Ljava/lang/Object;" (.ref xq)) (mm_ : oMir Z "[Ljava/lang/Object;" xmr) (og_xa : Z.heap.size ≤ xa) (E_xa : Exa Z h0 xa "com/example/modwright/modwright/script/Directive") (F_name_xa : Fld Z h0 xa "com/example/modwright/modwright/script/Directive" "name" "Ljava/lang/String;" u1) (F_line_xa : Fld Z h0 xa "com/example/modwright/modwright/script/Directive" "line" "I" u2) (F_arguments_xa : Fld Z h0 xa "com/example/modwright/modwright/script/Directive" "arguments" "Ljava/util/List;" u3) (F_block_xa : Fld Z h0 xa "com/example/modwright/modwright/script/Directive" "block" "Ljava/util/List;" u4) (E_xg : Exa Z h0 xg "java/util/ArrayList") (F_elementData_xg : Fld Z h0 xg "java/util/ArrayList" "elementData" "[Ljava/lang/Object;" (.ref xgf)) (F_size_xg : Fld Z h0 xg "java/util/ArrayList" "size" "I" (.int (1 : Int32))) (E_xgf : Exa Z h0 xgf "[Ljava/lang/Object;") (V_xgf : Arv Z h0 xgf xgk (.object "java/lang/Object") (10 : Int32) [(.ref xge0), .null, .null, .null, .null, .null, .null, .null, .null, .null] .null) (I_xge0 : Ins Z h0 xge0 "java/lang/Object" true) :
    oCon l Z yy16 prog_45_method_1_code 5 none ws ({ frames := 8, cells := 2, slots := 3, locals := 100 } : Room) #[(.ref xa), (.ref xs), (.int xi), (.ref xg), .null] h0 (Q_rDI_1_N Z xa xs xi u1 u2 u3 u4 xg xgf xgk xge0 xq xmr h0) := by
  refine oCon.of (plainFor_of_name pn_4) ?_
  intro p e s m below meth c T X hx hby hml hown hnm hret hlk hZ e0
  have hml : c.maxLocals = 5 := hml
  have K : oKp h0 h0 [xa] [] := oKp.nil _ _
  refine oWk.cast (g' := (mkF m 0 #[rv xa, rv xs, iv xi, rv xg, .val .null] [])) (by first | rfl | (simp [entryFrame, mkF, argsToLocals, Value.category]; done)) ?_
  refine oWk.st (fun _ kt => XS.aloadN X.here hx rfl (hb hby d9_0) rfl rfl kt) ?_
  have Oh := K.old O0 (allS og_xa all0)
  obtain ⟨_, _, ⟨T, L2, k2, n2⟩, -, X, ⟨Lc2, hQ, l2, y2, z2⟩, st⟩ := X.specialBack hx (y := yy4) rfl hown (mvT hZ (oW hw 56 rfl)) (mvT hZ (oW hw 57 rfl)) (mvT hZ (oW hw 60 rfl)) (by decide) (backOf (W := 0) (rRec l Z a0 hw [] xa h0 Oh ) hZ (oW hw 60 rfl) (oW hw 59 rfl) (by decide) (by decide)) (g := (mkF m 1 #[rv xa, rv xs, iv xi, rv xg, .val .null] [(.ref xa)])) rfl (by rw [hml]; rfl) (Steps.refl _) (a := xa) (argsL := []) (rest := []) (lenOf pd_3 rfl) rfl (Nat.le_of_eq rfl) (hb hby d9_1) (fun _ _ => ⟨rfl, e0, (by decide : 0 + 0 ≤ _), (by decide : 0 + 0 ≤ _)⟩)
  dsimp only [Pt.U, Pt.locs, Pt.cells, Pt.slots] at X l2 y2 z2 st hQ
  subst l2 y2 z2
  obtain ⟨rfl, e0, K1⟩ := hQ
  have K := K.call K1 all0
  rw [e0] at K
  refine oWk.tr st ?_
  refine oWk.st (fun _ kt => XS.aconstNull X.here hx rfl (hb hby d9_4) (XS.aloadN X.here hx rfl (hb hby d9_5) rfl rfl kt)) ?_
  refine oWk.st (fun _ kt => Jvm.RoadKit.acmp (g := (mkF m 6 #[rv xa, rv xs, iv xi, rv xg, .val .null] [(.ref xs), .null])) X hx rfl rfl rfl (pc0 := 6) (pc' := 23) (same := false) rfl (hb hby d9_6) rfl (decide_eq_false nofun) (by decide) (by decide) kt) ?_
  show oWk _ _ _ _ T (mkF m 23 #[rv xa, rv xs, iv xi, rv xg, .val .null] [])
  refine oWk.st (fun _ kt => XS.aloadN X.here hx rfl (hb hby d9_23) rfl rfl kt) ?_
  have lt_xa := E_xa.lt
  have lt_xg := E_xg.lt
  have lt_xgf := E_xgf.lt
  have Oh := K.old O0 (allS og_xa all0)
  obtain ⟨_, _, ⟨T, L4, k4, n4⟩, -, X, ⟨Lc4, hQ, l4, y4, z4⟩, st⟩ := Jvm.LawKit.callS X hx (y := yy15) hown (mvT hZ (oW hw 62 rfl)) (mvT hZ (oW hw 63 rfl)) (mvT hZ (oW hw 64 rfl)) (mvT hZ (oW hw 65 rfl)) (by decide) (backOf (W := 0) (rCO_1 l Z a0 hw [] xg xgf xmr xgk xq xge0 h0 Oh S_EMPTY mm_ E_xg F_elementData_xg F_size_xg E_xgf V_xgf I_xge0) hZ (oW hw 65 rfl) (oW hw 64 rfl) (by decide) (by decide)) (g := (mkF m 24 #[rv xa, rv xs, iv xi, rv xg, .val .null] [(.ref xg)])) rfl (by rw [hml]; rfl) (argsL := [(.ref xg)]) (rest := []) (lenOf pd_7 rfl) rfl (Nat.le_of_eq rfl) (hb hby d9_24) (fun _ _ => ⟨rfl, e0, (by decide : 0 + 2 ≤ _), (by decide : 0 + 3 ≤ _)⟩)
  dsimp only [Pt.U, Pt.locs, Pt.cells, Pt.slots] at X l4 y4 z4 st hQ
  subst l4 y4 z4
  obtain ⟨h, e0⟩ : ∃ z, T.heap = z := ⟨_, rfl⟩
  rw [e0] at hQ
  obtain ⟨nl3, rfl, K3, gn_nl3, E_nl3, F_e0_nl3, F_e1_nl3⟩ := hQ
  have ge_nl3 := Nat.le_trans K.le gn_nl3
  have ne_xa_nl3 : xa ≠ nl3 := Nat.ne_of_lt (Nat.lt_of_lt_of_le lt_xa gn_nl3)
  have ne_xg_nl3 : xg ≠ nl3 := Nat.ne_of_lt (Nat.lt_of_lt_of_le lt_xg gn_nl3)
  have ne_xgf_nl3 : xgf ≠ nl3 := Nat.ne_of_lt (Nat.lt_of_lt_of_le lt_xgf gn_nl3)
  have K := K.call K3 all0
  refine oWk.st st ?_
  refine oWk.st (fun _ kt => XS.astoreN X.here hx rfl (hb hby d9_27) rfl rfl (l' := #[rv xa, rv xs, iv xi, rv nl3, .val .null]) rfl (XS.aconstNull X.here hx rfl (hb hby d9_28) (XS.aload X.here hx rfl (hb hby d9_29) rfl rfl kt))) ?_
  refine oWk.st (fun _ kt => Jvm.RoadKit.acmp (g := (mkF m 31 #[rv xa, rv xs, iv xi, rv nl3, .val .null] [.null, .null])) X hx rfl rfl rfl (pc0 := 31) (pc' := 41) (same := true) rfl (hb hby d9_31) rfl (decide_eq_true rfl) (by decide) (by decide) kt) ?_
  show oWk _ _ _ _ T (mkF m 41 #[rv xa, rv xs, iv xi, rv nl3, .val .null] [])
  refine oWk.st (fun _ kt => XS.aloadN X.here hx rfl (hb hby d9_41) rfl rfl (XS.aloadN X.here hx rfl (hb hby d9_42) rfl rfl kt)) ?_
  have E_xa := (E_xa.keep K3.1)
  have F_name_xa := (F_name_xa.keep K3.1 nin0)
  obtain ⟨T, h, X, e0, W5, st⟩ := putF X hx hZ hown (host := "") (Or.inl (oW hw 91 rfl)) Via.refl e0 F_name_xa E_xa (Or.inr ⟨(oW hw 92 rfl), rfl, hnm⟩) (oW hw 51 rfl) (ty := (.object "java/lang/String")) (by decide) rfl rfl (g := (mkF m 43 #[rv xa, rv xs, iv xi, rv nl3, .val .null] [(.ref xs), (.ref xa)])) rfl rfl (hb hby d9_43)
  refine oWk.st st ?_
  have K := K.wr W5 (Or.inl (List.mem_of_getElem? (i := 0) rfl))
  have F_name_xa := F_name_xa.same W5
  refine oWk.st (fun _ kt => XS.aloadN X.here hx rfl (hb hby d9_46) rfl rfl (XS.iloadN X.here hx rfl (hb hby d9_47) rfl kt)) ?_
  have E_xa := (E_xa.wr W5)
  have F_line_xa := ((F_line_xa.keep K3.1 nin0).other W5 (Or.inr (slot_ne (Or.inr (oW hw 94 rfl)) (Or.inr (oW hw 92 rfl)) (by decide) (t := .int) (t' := (.object "java/lang/String")) (by decide) (by decide))))
  obtain ⟨T, h, X, e0, W6, st⟩ := putF X hx hZ hown (host := "") (Or.inl (oW hw 93 rfl)) Via.refl e0 F_line_xa E_xa (Or.inr ⟨(oW hw 94 rfl), rfl, hnm⟩) (oW hw 51 rfl) (ty := .int) (by decide) rfl rfl (g := (mkF m 48 #[rv xa, rv xs, iv xi, rv nl3, .val .null] [(.int xi), (.ref xa)])) rfl rfl (hb hby d9_48)
  refine oWk.st st ?_
  have K := K.wr W6 (Or.inl (List.mem_of_getElem? (i := 0) rfl))
  have F_line_xa := F_line_xa.same W6
  refine oWk.st (fun _ kt => XS.aloadN X.here hx rfl (hb hby d9_51) rfl rfl (XS.aloadN X.here hx rfl (hb hby d9_52) rfl rfl kt)) ?_
  have E_xa := (E_xa.wr W6)
  have F_arguments_xa := (((F_arguments_xa.keep K3.1 nin0).other W5 (Or.inr (slot_ne (Or.inr (oW hw 96 rfl)) (Or.inr (oW hw 92 rfl)) (by decide) (t := (.object "java/util/List")) (t' := (.object "java/lang/String")) (by decide) (by decide)))).other W6 (Or.inr (slot_ne (Or.inr (oW hw 96 rfl)) (Or.inr (oW hw 94 rfl)) (by decide) (t := (.object "java/util/List")) (t' := .int) (by decide) (by decide))))
  obtain ⟨T, h, X, e0, W7, st⟩ := putF X hx hZ hown (host := "") (Or.inl (oW hw 95 rfl)) Via.refl e0 F_arguments_xa E_xa (Or.inr ⟨(oW hw 96 rfl), rfl, hnm⟩) (oW hw 51 rfl) (ty := (.object "java/util/List")) (by decide) rfl rfl (g := (mkF m 53 #[rv xa, rv xs, iv xi, rv nl3, .val .null] [(.ref nl3), (.ref xa)])) rfl rfl (hb hby d9_53)
  refine oWk.st st ?_
  have K := K.wr W7 (Or.inl (List.mem_of_getElem? (i := 0) rfl))
  have F_arguments_xa := F_arguments_xa.same W7
  refine oWk.st (fun _ kt => XS.aloadN X.here hx rfl (hb hby d9_56) rfl rfl (XS.aload X.here hx rfl (hb hby d9_57) rfl rfl kt)) ?_
  have E_xa := (E_xa.wr W7)
  have F_block_xa := ((((F_block_xa.keep K3.1 nin0).other W5 (Or.inr (slot_ne (Or.inr (oW hw 98 rfl)) (Or.inr (oW hw 92 rfl)) (by decide) (t := (.object "java/util/List")) (t' := (.object "java/lang/String")) (by decide) (by decide)))).other W6 (Or.inr (slot_ne (Or.inr (oW hw 98 rfl)) (Or.inr (oW hw 94 rfl)) (by decide) (t := (.object "java/util/List")) (t' := .int) (by decide) (by decide)))).other W7 (Or.inr (slot_ne (Or.inr (oW hw 98 rfl)) (Or.inr (oW hw 96 rfl)) (by decide) (t := (.object "java/util/List")) (t' := (.object "java/util/List")) (by decide) (by decide))))
  obtain ⟨T, h, X, e0, W8, st⟩ := putF X hx hZ hown (host := "") (Or.inl (oW hw 97 rfl)) Via.refl e0 F_block_xa E_xa (Or.inr ⟨(oW hw 98 rfl), rfl, hnm⟩) (oW hw 51 rfl) (ty := (.object "java/util/List")) (by decide) rfl rfl (g := (mkF m 59 #[rv xa, rv xs, iv xi, rv nl3, .val .null] [.null, (.ref xa)])) rfl rfl (hb hby d9_59)
  refine oWk.st st ?_
  have K := K.wr W8 (Or.inl (List.mem_of_getElem? (i := 0) rfl))
  have F_block_xa := F_block_xa.same W8
  have E_xa := (E_xa.wr W8)
  exact oRetV X hx hlk hret (hb hby d9_62) (by rw [e0]; exact ⟨rfl, K, E_xa, F_block_xa⟩) (by decide) (by decide)
def Q_rDI_1_1 (Z : State) (xa : Addr) (xs : Addr) (xi : Int32) (u1 : Value) (u2 : Value) (u3 : Value) (u4 : Value) (xg : Addr) (xgf : Addr) (xgk : ClassId) (xge0 : Addr) (xh : Addr) (xhf : Addr) (xhk : ClassId) (xhe0 : Addr) (xq : Addr) (xmr : Addr) (h0 : Heap) (v : Option Value) (h : Heap) (L : List Loc) : Prop := ∃ (nbl : Addr), v = none ∧ oKp h0 h [xa] L ∧ (Exa Z h xa "com/example/modwright/modwright/script/Directive") ∧ (Fld Z h xa "com/example/modwright/modwright/script/Directive" "block" "Ljava/util/List;" (.ref nbl))
theorem rDI_1_1 (l : Launch) (Z : State) (a0 : Array Value) (hw : ∀ d ∈ tables_1, d.before a0 Z = true) (ws : List Jvm.Cond) (xa : Addr) (xs : Addr) (xi : Int32) (u1 : Value) (u2 : Value) (u3 : Value) (u4 : Value) (xg : Addr) (xgf : Addr) (xgk : ClassId) (xge0 : Addr) (xh : Addr) (xhf : Addr) (xhk : ClassId) (xhe0 : Addr) (xq : Addr) (xmr : Addr) (h0 : Heap) (O0 : Ext Z.heap h0) (S_EMPTY : Sta Z Z.heap "java/util/ImmutableCollections" "EMPTY" "Ljava/lang/Object;" (.ref xq)) (mm_ : oMir Z "[Ljava/lang/Object;" xmr) (og_xa : Z.heap.size ≤ xa) (E_xa : Exa Z h0 xa "com/example/modwright/modwright/script/Directive") (F_name_xa : Fld Z h0 xa "com/example/modwright/modwright/script/Directive" "name" "Ljava/lang/String;" u1) (F_line_xa : Fld Z h0 xa "com/example/modwright/modwright/script/Directive" "line" "I" u2) (F_arguments_xa : Fld Z h0 xa "com/example/modwright/modwright/script/Directive" "arguments" "Ljava/util/List;" u3) (F_block_xa : Fld Z h0 xa "com/example/modwright/modwright/script/Directive" "block" "Ljava/util/List;" u4) (E_xg : Exa Z h0 xg "java/util/ArrayList") (F_elementData_xg : Fld Z h0 xg "java/util/ArrayList" "elementData" "[Ljava/lang/Object;" (.ref xgf)) (F_size_xg : Fld Z h0 xg "java/util/ArrayList" "size" "I" (.int (1 : Int32))) (E_xgf : Exa Z h0 xgf "[Ljava/lang/Object;") (V_xgf : Arv Z h0 xgf xgk (.object "java/lang/Object") (10 : Int32) [(.ref xge0), .null, .null, .null, .null, .null, .null, .null, .null, .null] .null) (I_xge0 : Ins Z h0 xge0 "java/lang/Object" true) (E_xh : Exa Z h0 xh "java/util/ArrayList") (F_elementData_xh : Fld Z h0 xh "java/util/ArrayList" "elementData" "[Ljava/lang/Object;" (.ref xhf)) (F_size_xh : Fld Z h0 xh "java/util/ArrayList" "size" "I" (.int (1 : Int32))) (E_xhf : Exa Z h0 xhf "[Ljava/lang/Object;") (V_xhf : Arv Z h0 xhf xhk (.object "java/lang/Object") (10 : Int32) [(.ref xhe0), .null, .null, .null, .null, .null, .null, .null, .null, .null] .null) (I_xhe0 : Ins Z h0 xhe0 "java/lang/Object" true) :
    oCon l Z yy16 prog_45_method_1_code 5 none ws ({ frames := 8, cells := 4, slots := 6, locals := 100 } : Room) #[(.ref xa), (.ref xs), (.int xi), (.ref xg), (.ref xh)] h0 (Q_rDI_1_1 Z xa xs xi u1 u2 u3 u4 xg xgf xgk xge0 xh xhf xhk xhe0 xq xmr h0) := by
  refine oCon.of (plainFor_of_name pn_4) ?_
  intro p e s m below meth c T X hx hby hml hown hnm hret hlk hZ e0
  have hml : c.maxLocals = 5 := hml
  have K : oKp h0 h0 [xa] [] := oKp.nil _ _
  refine oWk.cast (g' := (mkF m 0 #[rv xa, rv xs, iv xi, rv xg, rv xh] [])) (by first | rfl | (simp [entryFrame, mkF, argsToLocals, Value.category]; done)) ?_
  refine oWk.st (fun _ kt => XS.aloadN X.here hx rfl (hb hby d9_0) rfl rfl kt) ?_
  have Oh := K.old O0 (allS og_xa all0)
  obtain ⟨_, _, ⟨T, L2, k2, n2⟩, -, X, ⟨Lc2, hQ, l2, y2, z2⟩, st⟩ := X.specialBack hx (y := yy4) rfl hown (mvT hZ (oW hw 56 rfl)) (mvT hZ (oW hw 57 rfl)) (mvT hZ (oW hw 60 rfl)) (by decide) (backOf (W := 0) (rRec l Z a0 hw [] xa h0 Oh ) hZ (oW hw 60 rfl) (oW hw 59 rfl) (by decide) (by decide)) (g := (mkF m 1 #[rv xa, rv xs, iv xi, rv xg, rv xh] [(.ref xa)])) rfl (by rw [hml]; rfl) (Steps.refl _) (a := xa) (argsL := []) (rest := []) (lenOf pd_3 rfl) rfl (Nat.le_of_eq rfl) (hb hby d9_1) (fun _ _ => ⟨rfl, e0, (by decide : 0 + 0 ≤ _), (by decide : 0 + 0 ≤ _)⟩)
  dsimp only [Pt.U, Pt.locs, Pt.cells, Pt.slots] at X l2 y2 z2 st hQ
  subst l2 y2 z2
  obtain ⟨rfl, e0, K1⟩ := hQ
  have K := K.call K1 all0
  rw [e0] at K
  refine oWk.tr st ?_
  refine oWk.st (fun _ kt => XS.aconstNull X.here hx rfl (hb hby d9_4) (XS.aloadN X.here hx rfl (hb hby d9_5) rfl rfl kt)) ?_
  refine oWk.st (fun _ kt => Jvm.RoadKit.acmp (g := (mkF m 6 #[rv xa, rv xs, iv xi, rv xg, rv xh] [(.ref xs), .null])) X hx rfl rfl rfl (pc0 := 6) (pc' := 23) (same := false) rfl (hb hby d9_6) rfl (decide_eq_false nofun) (by decide) (by decide) kt) ?_
  show oWk _ _ _ _ T (mkF m 23 #[rv xa, rv xs, iv xi, rv xg, rv xh] [])
  refine oWk.st (fun _ kt => XS.aloadN X.here hx rfl (hb hby d9_23) rfl rfl kt) ?_
  have lt_xa := E_xa.lt
  have lt_xg := E_xg.lt
  have lt_xgf := E_xgf.lt
  have lt_xh := E_xh.lt
  have lt_xhf := E_xhf.lt
  have Oh := K.old O0 (allS og_xa all0)
  obtain ⟨_, _, ⟨T, L4, k4, n4⟩, -, X, ⟨Lc4, hQ, l4, y4, z4⟩, st⟩ := Jvm.LawKit.callS X hx (y := yy15) hown (mvT hZ (oW hw 62 rfl)) (mvT hZ (oW hw 63 rfl)) (mvT hZ (oW hw 64 rfl)) (mvT hZ (oW hw 65 rfl)) (by decide) (backOf (W := 0) (rCO_1 l Z a0 hw [] xg xgf xmr xgk xq xge0 h0 Oh S_EMPTY mm_ E_xg F_elementData_xg F_size_xg E_xgf V_xgf I_xge0) hZ (oW hw 65 rfl) (oW hw 64 rfl) (by decide) (by decide)) (g := (mkF m 24 #[rv xa, rv xs, iv xi, rv xg, rv xh] [(.ref xg)])) rfl (by rw [hml]; rfl) (argsL := [(.ref xg)]) (rest := []) (lenOf pd_7 rfl) rfl (Nat.le_of_eq rfl) (hb hby d9_24) (fun _ _ => ⟨rfl, e0, (by decide : 0 + 2 ≤ _), (by decide : 0 + 3 ≤ _)⟩)
  dsimp only [Pt.U, Pt.locs, Pt.cells, Pt.slots] at X l4 y4 z4 st hQ
  subst l4 y4 z4
  obtain ⟨h, e0⟩ : ∃ z, T.heap = z := ⟨_, rfl⟩
  rw [e0] at hQ
  obtain ⟨nl3, rfl, K3, gn_nl3, E_nl3, F_e0_nl3, F_e1_nl3⟩ := hQ
  have ge_nl3 := Nat.le_trans K.le gn_nl3
  have ne_xa_nl3 : xa ≠ nl3 := Nat.ne_of_lt (Nat.lt_of_lt_of_le lt_xa gn_nl3)
  have ne_xg_nl3 : xg ≠ nl3 := Nat.ne_of_lt (Nat.lt_of_lt_of_le lt_xg gn_nl3)
  have ne_xgf_nl3 : xgf ≠ nl3 := Nat.ne_of_lt (Nat.lt_of_lt_of_le lt_xgf gn_nl3)
  have ne_xh_nl3 : xh ≠ nl3 := Nat.ne_of_lt (Nat.lt_of_lt_of_le lt_xh gn_nl3)
  have ne_xhf_nl3 : xhf ≠ nl3 := Nat.ne_of_lt (Nat.lt_of_lt_of_le lt_xhf gn_nl3)
  have K := K.call K3 all0
  refine oWk.st st ?_
  refine oWk.st (fun _ kt => XS.astoreN X.here hx rfl (hb hby d9_27) rfl rfl (l' := #[rv xa, rv xs, iv xi, rv nl3, rv xh]) rfl (XS.aconstNull X.here hx rfl (hb hby d9_28) (XS.aload X.here hx rfl (hb hby d9_29) rfl rfl kt))) ?_
  refine oWk.st (fun _ kt => Jvm.RoadKit.acmp (g := (mkF m 31 #[rv xa, rv xs, iv xi, rv nl3, rv xh] [(.ref xh), .null])) X hx rfl rfl rfl (pc0 := 31) (pc' := 34) (same := false) rfl (hb hby d9_31) rfl (decide_eq_false nofun) (by decide) (by decide) kt) ?_
  show oWk _ _ _ _ T (mkF m 34 #[rv xa, rv xs, iv xi, rv nl3, rv xh] [])
  refine oWk.st (fun _ kt => XS.aload X.here hx rfl (hb hby d9_34) rfl rfl kt) ?_
  have E_xh := (E_xh.keep K3.1)
  have F_elementData_xh := (F_elementData_xh.keep K3.1 nin0)
  have F_size_xh := (F_size_xh.keep K3.1 nin0)
  have E_xhf := (E_xhf.keep K3.1)
  have V_xhf := (V_xhf.keep K3.1 nin0)
  have I_xhe0 := (oInsKeep I_xhe0 K3.1)
  have E_xa := (E_xa.keep K3.1)
  have lt_xa := E_xa.lt
  have E_xg := (E_xg.keep K3.1)
  have lt_xg := E_xg.lt
  have E_xgf := (E_xgf.keep K3.1)
  have lt_xgf := E_xgf.lt
  have lt_xh := E_xh.lt
  have lt_xhf := E_xhf.lt
  have lt_nl3 := E_nl3.lt
  have Oh := K.old O0 (allS og_xa all0)
  obtain ⟨_, _, ⟨T, L6, k6, n6⟩, -, X, ⟨Lc6, hQ, l6, y6, z6⟩, st⟩ := Jvm.LawKit.callS X hx (y := yy15) hown (mvT hZ (oW hw 62 rfl)) (mvT hZ (oW hw 63 rfl)) (mvT hZ (oW hw 64 rfl)) (mvT hZ (oW hw 65 rfl)) (by decide) (backOf (W := 0) (rCO_1 l Z a0 hw [] xh xhf xmr xhk xq xhe0 h Oh S_EMPTY mm_ E_xh F_elementData_xh F_size_xh E_xhf V_xhf I_xhe0) hZ (oW hw 65 rfl) (oW hw 64 rfl) (by decide) (by decide)) (g := (mkF m 36 #[rv xa, rv xs, iv xi, rv nl3, rv xh] [(.ref xh)])) rfl (by rw [hml]; rfl) (argsL := [(.ref xh)]) (rest := []) (lenOf pd_7 rfl) rfl (Nat.le_of_eq rfl) (hb hby d9_36) (fun _ _ => ⟨rfl, e0, (by decide : 2 + 2 ≤ _), (by decide : 3 + 3 ≤ _)⟩)
  dsimp only [Pt.U, Pt.locs, Pt.cells, Pt.slots] at X l6 y6 z6 st hQ
  subst l6 y6 z6
  obtain ⟨h, e0⟩ : ∃ z, T.heap = z := ⟨_, rfl⟩
  rw [e0] at hQ
  obtain ⟨nl5, rfl, K5, gn_nl5, E_nl5, F_e0_nl5, F_e1_nl5⟩ := hQ
  have ge_nl5 := Nat.le_trans K.le gn_nl5
  have ne_xa_nl5 : xa ≠ nl5 := Nat.ne_of_lt (Nat.lt_of_lt_of_le lt_xa gn_nl5)
  have ne_xg_nl5 : xg ≠ nl5 := Nat.ne_of_lt (Nat.lt_of_lt_of_le lt_xg gn_nl5)
  have ne_xgf_nl5 : xgf ≠ nl5 := Nat.ne_of_lt (Nat.lt_of_lt_of_le lt_xgf gn_nl5)
  have ne_xh_nl5 : xh ≠ nl5 := Nat.ne_of_lt (Nat.lt_of_lt_of_le lt_xh gn_nl5)
  have ne_xhf_nl5 : xhf ≠ nl5 := Nat.ne_of_lt (Nat.lt_of_lt_of_le lt_xhf gn_nl5)
  have ne_nl3_nl5 : nl3 ≠ nl5 := Nat.ne_of_lt (Nat.lt_of_lt_of_le lt_nl3 gn_nl5)
  have K := K.call K5 all0
  refine oWk.st st ?_
  refine oWk.st (fun _ kt => XS.astore X.here hx rfl (hb hby d9_39) rfl rfl (l' := #[rv xa, rv xs, iv xi, rv nl3, rv nl5]) rfl (XS.aloadN X.here hx rfl (hb hby d9_41) rfl rfl (XS.aloadN X.here hx rfl (hb hby d9_42) rfl rfl kt))) ?_
  have E_xa := (E_xa.keep K5.1)
  have F_name_xa := ((F_name_xa.keep K3.1 nin0).keep K5.1 nin0)
  obtain ⟨T, h, X, e0, W7, st⟩ := putF X hx hZ hown (host := "") (Or.inl (oW hw 91 rfl)) Via.refl e0 F_name_xa E_xa (Or.inr ⟨(oW hw 92 rfl), rfl, hnm⟩) (oW hw 51 rfl) (ty := (.object "java/lang/String")) (by decide) rfl rfl (g := (mkF m 43 #[rv xa, rv xs, iv xi, rv nl3, rv nl5] [(.ref xs), (.ref xa)])) rfl rfl (hb hby d9_43)
  refine oWk.st st ?_
  have K := K.wr W7 (Or.inl (List.mem_of_getElem? (i := 0) rfl))
  have F_name_xa := F_name_xa.same W7
  refine oWk.st (fun _ kt => XS.aloadN X.here hx rfl (hb hby d9_46) rfl rfl (XS.iloadN X.here hx rfl (hb hby d9_47) rfl kt)) ?_
  have E_xa := (E_xa.wr W7)
  have F_line_xa := (((F_line_xa.keep K3.1 nin0).keep K5.1 nin0).other W7 (Or.inr (slot_ne (Or.inr (oW hw 94 rfl)) (Or.inr (oW hw 92 rfl)) (by decide) (t := .int) (t' := (.object "java/lang/String")) (by decide) (by decide))))
  obtain ⟨T, h, X, e0, W8, st⟩ := putF X hx hZ hown (host := "") (Or.inl (oW hw 93 rfl)) Via.refl e0 F_line_xa E_xa (Or.inr ⟨(oW hw 94 rfl), rfl, hnm⟩) (oW hw 51 rfl) (ty := .int) (by decide) rfl rfl (g := (mkF m 48 #[rv xa, rv xs, iv xi, rv nl3, rv nl5] [(.int xi), (.ref xa)])) rfl rfl (hb hby d9_48)
  refine oWk.st st ?_
  have K := K.wr W8 (Or.inl (List.mem_of_getElem? (i := 0) rfl))
  have F_line_xa := F_line_xa.same W8
  refine oWk.st (fun _ kt => XS.aloadN X.here hx rfl (hb hby d9_51) rfl rfl (XS.aloadN X.here hx rfl (hb hby d9_52) rfl rfl kt)) ?_
  have E_xa := (E_xa.wr W8)
  have F_arguments_xa := ((((F_arguments_xa.keep K3.1 nin0).keep K5.1 nin0).other W7 (Or.inr (slot_ne (Or.inr (oW hw 96 rfl)) (Or.inr (oW hw 92 rfl)) (by decide) (t := (.object "java/util/List")) (t' := (.object "java/lang/String")) (by decide) (by decide)))).other W8 (Or.inr (slot_ne (Or.inr (oW hw 96 rfl)) (Or.inr (oW hw 94 rfl)) (by decide) (t := (.object "java/util/List")) (t' := .int) (by decide) (by decide))))
  obtain ⟨T, h, X, e0, W9, st⟩ := putF X hx hZ hown (host := "") (Or.inl (oW hw 95 rfl)) Via.refl e0 F_arguments_xa E_xa (Or.inr ⟨(oW hw 96 rfl), rfl, hnm⟩) (oW hw 51 rfl) (ty := (.object "java/util/List")) (by decide) rfl rfl (g := (mkF m 53 #[rv xa, rv xs, iv xi, rv nl3, rv nl5] [(.ref nl3), (.ref xa)])) rfl rfl (hb hby d9_53)
  refine oWk.st st ?_
  have K := K.wr W9 (Or.inl (List.mem_of_getElem? (i := 0) rfl))
  have F_arguments_xa := F_arguments_xa.same W9
  refine oWk.st (fun _ kt => XS.aloadN X.here hx rfl (hb hby d9_56) rfl rfl (XS.aload X.here hx rfl (hb hby d9_57) rfl rfl kt)) ?_
  have E_xa := (E_xa.wr W9)
  have F_block_xa := (((((F_block_xa.keep K3.1 nin0).keep K5.1 nin0).other W7 (Or.inr (slot_ne (Or.inr (oW hw 98 rfl)) (Or.inr (oW hw 92 rfl)) (by decide) (t := (.object "java/util/List")) (t' := (.object "java/lang/String")) (by decide) (by decide)))).other W8 (Or.inr (slot_ne (Or.inr (oW hw 98 rfl)) (Or.inr (oW hw 94 rfl)) (by decide) (t := (.object "java/util/List")) (t' := .int) (by decide) (by decide)))).other W9 (Or.inr (slot_ne (Or.inr (oW hw 98 rfl)) (Or.inr (oW hw 96 rfl)) (by decide) (t := (.object "java/util/List")) (t' := (.object "java/util/List")) (by decide) (by decide))))
  obtain ⟨T, h, X, e0, W10, st⟩ := putF X hx hZ hown (host := "") (Or.inl (oW hw 97 rfl)) Via.refl e0 F_block_xa E_xa (Or.inr ⟨(oW hw 98 rfl), rfl, hnm⟩) (oW hw 51 rfl) (ty := (.object "java/util/List")) (by decide) rfl rfl (g := (mkF m 59 #[rv xa, rv xs, iv xi, rv nl3, rv nl5] [(.ref nl5), (.ref xa)])) rfl rfl (hb hby d9_59)
  refine oWk.st st ?_
  have K := K.wr W10 (Or.inl (List.mem_of_getElem? (i := 0) rfl))
  have F_block_xa := F_block_xa.same W10
  have E_xa := (E_xa.wr W10)
  exact oRetV X hx hlk hret (hb hby d9_62) (by rw [e0]; exact ⟨nl5, rfl, K, E_xa, F_block_xa⟩) (by decide) (by decide)
def Q_rDI_1_2 (Z : State) (xa : Addr) (xs : Addr) (xi : Int32) (u1 : Value) (u2 : Value) (u3 : Value) (u4 : Value) (xg : Addr) (xgf : Addr) (xgk : ClassId) (xge0 : Addr) (xh : Addr) (xhf : Addr) (xhk : ClassId) (xhe0 : Addr) (xhe1 : Addr) (xq : Addr) (xmr : Addr) (h0 : Heap) (v : Option Value) (h : Heap) (L : List Loc) : Prop := ∃ (nbl : Addr), v = none ∧ oKp h0 h [xa] L ∧ (Exa Z h xa "com/example/modwright/modwright/script/Directive") ∧ (Fld Z h xa "com/example/modwright/modwright/script/Directive" "block" "Ljava/util/List;" (.ref nbl))
theorem rDI_1_2 (l : Launch) (Z : State) (a0 : Array Value) (hw : ∀ d ∈ tables_1, d.before a0 Z = true) (ws : List Jvm.Cond) (xa : Addr) (xs : Addr) (xi : Int32) (u1 : Value) (u2 : Value) (u3 : Value) (u4 : Value) (xg : Addr) (xgf : Addr) (xgk : ClassId) (xge0 : Addr) (xh : Addr) (xhf : Addr) (xhk : ClassId) (xhe0 : Addr) (xhe1 : Addr) (xq : Addr) (xmr : Addr) (h0 : Heap) (O0 : Ext Z.heap h0) (S_EMPTY : Sta Z Z.heap "java/util/ImmutableCollections" "EMPTY" "Ljava/lang/Object;" (.ref xq)) (mm_ : oMir Z "[Ljava/lang/Object;" xmr) (og_xa : Z.heap.size ≤ xa) (E_xa : Exa Z h0 xa "com/example/modwright/modwright/script/Directive") (F_name_xa : Fld Z h0 xa "com/example/modwright/modwright/script/Directive" "name" "Ljava/lang/String;" u1) (F_line_xa : Fld Z h0 xa "com/example/modwright/modwright/script/Directive" "line" "I" u2) (F_arguments_xa : Fld Z h0 xa "com/example/modwright/modwright/script/Directive" "arguments" "Ljava/util/List;" u3) (F_block_xa : Fld Z h0 xa "com/example/modwright/modwright/script/Directive" "block" "Ljava/util/List;" u4) (E_xg : Exa Z h0 xg "java/util/ArrayList") (F_elementData_xg : Fld Z h0 xg "java/util/ArrayList" "elementData" "[Ljava/lang/Object;" (.ref xgf)) (F_size_xg : Fld Z h0 xg "java/util/ArrayList" "size" "I" (.int (1 : Int32))) (E_xgf : Exa Z h0 xgf "[Ljava/lang/Object;") (V_xgf : Arv Z h0 xgf xgk (.object "java/lang/Object") (10 : Int32) [(.ref xge0), .null, .null, .null, .null, .null, .null, .null, .null, .null] .null) (I_xge0 : Ins Z h0 xge0 "java/lang/Object" true) (E_xh : Exa Z h0 xh "java/util/ArrayList") (F_elementData_xh : Fld Z h0 xh "java/util/ArrayList" "elementData" "[Ljava/lang/Object;" (.ref xhf)) (F_size_xh : Fld Z h0 xh "java/util/ArrayList" "size" "I" (.int (2 : Int32))) (E_xhf : Exa Z h0 xhf "[Ljava/lang/Object;") (V_xhf : Arv Z h0 xhf xhk (.object "java/lang/Object") (10 : Int32) [(.ref xhe0), (.ref xhe1), .null, .null, .null, .null, .null, .null, .null, .null] .null) (I_xhe0 : Ins Z h0 xhe0 "java/lang/Object" true) (I_xhe1 : Ins Z h0 xhe1 "java/lang/Object" true) :
    oCon l Z yy16 prog_45_method_1_code 5 none ws ({ frames := 8, cells := 4, slots := 7, locals := 101 } : Room) #[(.ref xa), (.ref xs), (.int xi), (.ref xg), (.ref xh)] h0 (Q_rDI_1_2 Z xa xs xi u1 u2 u3 u4 xg xgf xgk xge0 xh xhf xhk xhe0 xhe1 xq xmr h0) := by
  refine oCon.of (plainFor_of_name pn_4) ?_
  intro p e s m below meth c T X hx hby hml hown hnm hret hlk hZ e0
  have hml : c.maxLocals = 5 := hml
  have K : oKp h0 h0 [xa] [] := oKp.nil _ _
  refine oWk.cast (g' := (mkF m 0 #[rv xa, rv xs, iv xi, rv xg, rv xh] [])) (by first | rfl | (simp [entryFrame, mkF, argsToLocals, Value.category]; done)) ?_
  refine oWk.st (fun _ kt => XS.aloadN X.here hx rfl (hb hby d9_0) rfl rfl kt) ?_
  have Oh := K.old O0 (allS og_xa all0)
  obtain ⟨_, _, ⟨T, L2, k2, n2⟩, -, X, ⟨Lc2, hQ, l2, y2, z2⟩, st⟩ := X.specialBack hx (y := yy4) rfl hown (mvT hZ (oW hw 56 rfl)) (mvT hZ (oW hw 57 rfl)) (mvT hZ (oW hw 60 rfl)) (by decide) (backOf (W := 0) (rRec l Z a0 hw [] xa h0 Oh ) hZ (oW hw 60 rfl) (oW hw 59 rfl) (by decide) (by decide)) (g := (mkF m 1 #[rv xa, rv xs, iv xi, rv xg, rv xh] [(.ref xa)])) rfl (by rw [hml]; rfl) (Steps.refl _) (a := xa) (argsL := []) (rest := []) (lenOf pd_3 rfl) rfl (Nat.le_of_eq rfl) (hb hby d9_1) (fun _ _ => ⟨rfl, e0, (by decide : 0 + 0 ≤ _), (by decide : 0 + 0 ≤ _)⟩)
  dsimp only [Pt.U, Pt.locs, Pt.cells, Pt.slots] at X l2 y2 z2 st hQ
  subst l2 y2 z2
  obtain ⟨rfl, e0, K1⟩ := hQ
  have K := K.call K1 all0
  rw [e0] at K
  refine oWk.tr st ?_
  refine oWk.st (fun _ kt => XS.aconstNull X.here hx rfl (hb hby d9_4) (XS.aloadN X.here hx rfl (hb hby d9_5) rfl rfl kt)) ?_
  refine oWk.st (fun _ kt => Jvm.RoadKit.acmp (g := (mkF m 6 #[rv xa, rv xs, iv xi, rv xg, rv xh] [(.ref xs), .null])) X hx rfl rfl rfl (pc0 := 6) (pc' := 23) (same := false) rfl (hb hby d9_6) rfl (decide_eq_false nofun) (by decide) (by decide) kt) ?_
  show oWk _ _ _ _ T (mkF m 23 #[rv xa, rv xs, iv xi, rv xg, rv xh] [])
  refine oWk.st (fun _ kt => XS.aloadN X.here hx rfl (hb hby d9_23) rfl rfl kt) ?_
  have lt_xa := E_xa.lt
  have lt_xg := E_xg.lt
  have lt_xgf := E_xgf.lt
  have lt_xh := E_xh.lt
  have lt_xhf := E_xhf.lt
  have Oh := K.old O0 (allS og_xa all0)
  obtain ⟨_, _, ⟨T, L4, k4, n4⟩, -, X, ⟨Lc4, hQ, l4, y4, z4⟩, st⟩ := Jvm.LawKit.callS X hx (y := yy15) hown (mvT hZ (oW hw 62 rfl)) (mvT hZ (oW hw 63 rfl)) (mvT hZ (oW hw 64 rfl)) (mvT hZ (oW hw 65 rfl)) (by decide) (backOf (W := 0) (rCO_1 l Z a0 hw [] xg xgf xmr xgk xq xge0 h0 Oh S_EMPTY mm_ E_xg F_elementData_xg F_size_xg E_xgf V_xgf I_xge0) hZ (oW hw 65 rfl) (oW hw 64 rfl) (by decide) (by decide)) (g := (mkF m 24 #[rv xa, rv xs, iv xi, rv xg, rv xh] [(.ref xg)])) rfl (by rw [hml]; rfl) (argsL := [(.ref xg)]) (rest := []) (lenOf pd_7 rfl) rfl (Nat.le_of_eq rfl) (hb hby d9_24) (fun _ _ => ⟨rfl, e0, (by decide : 0 + 2 ≤ _), (by decide : 0 + 3 ≤ _)⟩)
  dsimp only [Pt.U, Pt.locs, Pt.cells, Pt.slots] at X l4 y4 z4 st hQ
  subst l4 y4 z4
  obtain ⟨h, e0⟩ : ∃ z, T.heap = z := ⟨_, rfl⟩
  rw [e0] at hQ
  obtain ⟨nl3, rfl, K3, gn_nl3, E_nl3, F_e0_nl3, F_e1_nl3⟩ := hQ
  have ge_nl3 := Nat.le_trans K.le gn_nl3
  have ne_xa_nl3 : xa ≠ nl3 := Nat.ne_of_lt (Nat.lt_of_lt_of_le lt_xa gn_nl3)
  have ne_xg_nl3 : xg ≠ nl3 := Nat.ne_of_lt (Nat.lt_of_lt_of_le lt_xg gn_nl3)
  have ne_xgf_nl3 : xgf ≠ nl3 := Nat.ne_of_lt (Nat.lt_of_lt_of_le lt_xgf gn_nl3)
  have ne_xh_nl3 : xh ≠ nl3 := Nat.ne_of_lt (Nat.lt_of_lt_of_le lt_xh gn_nl3)
  have ne_xhf_nl3 : xhf ≠ nl3 := Nat.ne_of_lt (Nat.lt_of_lt_of_le lt_xhf gn_nl3)
  have K := K.call K3 all0
  refine oWk.st st ?_
  refine oWk.st (fun _ kt => XS.astoreN X.here hx rfl (hb hby d9_27) rfl rfl (l' := #[rv xa, rv xs, iv xi, rv nl3, rv xh]) rfl (XS.aconstNull X.here hx rfl (hb hby d9_28) (XS.aload X.here hx rfl (hb hby d9_29) rfl rfl kt))) ?_
  refine oWk.st (fun _ kt => Jvm.RoadKit.acmp (g := (mkF m 31 #[rv xa, rv xs, iv xi, rv nl3, rv xh] [(.ref xh), .null])) X hx rfl rfl rfl (pc0 := 31) (pc' := 34) (same := false) rfl (hb hby d9_31) rfl (decide_eq_false nofun) (by decide) (by decide) kt) ?_
  show oWk _ _ _ _ T (mkF m 34 #[rv xa, rv xs, iv xi, rv nl3, rv xh] [])
  refine oWk.st (fun _ kt => XS.aload X.here hx rfl (hb hby d9_34) rfl rfl kt) ?_
  have E_xh := (E_xh.keep K3.1)
  have F_elementData_xh := (F_elementData_xh.keep K3.1 nin0)
  have F_size_xh := (F_size_xh.keep K3.1 nin0)
  have E_xhf := (E_xhf.keep K3.1)
  have V_xhf := (V_xhf.keep K3.1 nin0)
  have I_xhe0 := (oInsKeep I_xhe0 K3.1)
  have I_xhe1 := (oInsKeep I_xhe1 K3.1)
  have E_xa := (E_xa.keep K3.1)
  have lt_xa := E_xa.lt
  have E_xg := (E_xg.keep K3.1)
  have lt_xg := E_xg.lt
  have E_xgf := (E_xgf.keep K3.1)
  have lt_xgf := E_xgf.lt
  have lt_xh := E_xh.lt
  have lt_xhf := E_xhf.lt
  have lt_nl3 := E_nl3.lt
  have Oh := K.old O0 (allS og_xa all0)
  obtain ⟨_, _, ⟨T, L6, k6, n6⟩, -, X, ⟨Lc6, hQ, l6, y6, z6⟩, st⟩ := Jvm.LawKit.callS X hx (y := yy15) hown (mvT hZ (oW hw 62 rfl)) (mvT hZ (oW hw 63 rfl)) (mvT hZ (oW hw 64 rfl)) (mvT hZ (oW hw 65 rfl)) (by decide) (backOf (W := 0) (rCO_2 l Z a0 hw [] xh xhf xmr xhk xhe0 xhe1 h Oh mm_ E_xh F_elementData_xh F_size_xh E_xhf V_xhf I_xhe0 I_xhe1) hZ (oW hw 65 rfl) (oW hw 64 rfl) (by decide) (by decide)) (g := (mkF m 36 #[rv xa, rv xs, iv xi, rv nl3, rv xh] [(.ref xh)])) rfl (by rw [hml]; rfl) (argsL := [(.ref xh)]) (rest := []) (lenOf pd_7 rfl) rfl (Nat.le_of_eq rfl) (hb hby d9_36) (fun _ _ => ⟨rfl, e0, (by decide : 2 + 2 ≤ _), (by decide : 3 + 4 ≤ _)⟩)
  dsimp only [Pt.U, Pt.locs, Pt.cells, Pt.slots] at X l6 y6 z6 st hQ
  subst l6 y6 z6
  obtain ⟨h, e0⟩ : ∃ z, T.heap = z := ⟨_, rfl⟩
  rw [e0] at hQ
  obtain ⟨nl5, rfl, K5, gn_nl5, E_nl5, F_e0_nl5, F_e1_nl5⟩ := hQ
  have ge_nl5 := Nat.le_trans K.le gn_nl5
  have ne_xa_nl5 : xa ≠ nl5 := Nat.ne_of_lt (Nat.lt_of_lt_of_le lt_xa gn_nl5)
  have ne_xg_nl5 : xg ≠ nl5 := Nat.ne_of_lt (Nat.lt_of_lt_of_le lt_xg gn_nl5)
  have ne_xgf_nl5 : xgf ≠ nl5 := Nat.ne_of_lt (Nat.lt_of_lt_of_le lt_xgf gn_nl5)
  have ne_xh_nl5 : xh ≠ nl5 := Nat.ne_of_lt (Nat.lt_of_lt_of_le lt_xh gn_nl5)
  have ne_xhf_nl5 : xhf ≠ nl5 := Nat.ne_of_lt (Nat.lt_of_lt_of_le lt_xhf gn_nl5)
  have ne_nl3_nl5 : nl3 ≠ nl5 := Nat.ne_of_lt (Nat.lt_of_lt_of_le lt_nl3 gn_nl5)
  have K := K.call K5 all0
  refine oWk.st st ?_
  refine oWk.st (fun _ kt => XS.astore X.here hx rfl (hb hby d9_39) rfl rfl (l' := #[rv xa, rv xs, iv xi, rv nl3, rv nl5]) rfl (XS.aloadN X.here hx rfl (hb hby d9_41) rfl rfl (XS.aloadN X.here hx rfl (hb hby d9_42) rfl rfl kt))) ?_
  have E_xa := (E_xa.keep K5.1)
  have F_name_xa := ((F_name_xa.keep K3.1 nin0).keep K5.1 nin0)
  obtain ⟨T, h, X, e0, W7, st⟩ := putF X hx hZ hown (host := "") (Or.inl (oW hw 91 rfl)) Via.refl e0 F_name_xa E_xa (Or.inr ⟨(oW hw 92 rfl), rfl, hnm⟩) (oW hw 51 rfl) (ty := (.object "java/lang/String")) (by decide) rfl rfl (g := (mkF m 43 #[rv xa, rv xs, iv xi, rv nl3, rv nl5] [(.ref xs), (.ref xa)])) rfl rfl (hb hby d9_43)
  refine oWk.st st ?_
  have K := K.wr W7 (Or.inl (List.mem_of_getElem? (i := 0) rfl))
  have F_name_xa := F_name_xa.same W7
  refine oWk.st (fun _ kt => XS.aloadN X.here hx rfl (hb hby d9_46) rfl rfl (XS.iloadN X.here hx rfl (hb hby d9_47) rfl kt)) ?_
  have E_xa := (E_xa.wr W7)
  have F_line_xa := (((F_line_xa.keep K3.1 nin0).keep K5.1 nin0).other W7 (Or.inr (slot_ne (Or.inr (oW hw 94 rfl)) (Or.inr (oW hw 92 rfl)) (by decide) (t := .int) (t' := (.object "java/lang/String")) (by decide) (by decide))))
  obtain ⟨T, h, X, e0, W8, st⟩ := putF X hx hZ hown (host := "") (Or.inl (oW hw 93 rfl)) Via.refl e0 F_line_xa E_xa (Or.inr ⟨(oW hw 94 rfl), rfl, hnm⟩) (oW hw 51 rfl) (ty := .int) (by decide) rfl rfl (g := (mkF m 48 #[rv xa, rv xs, iv xi, rv nl3, rv nl5] [(.int xi), (.ref xa)])) rfl rfl (hb hby d9_48)
  refine oWk.st st ?_
  have K := K.wr W8 (Or.inl (List.mem_of_getElem? (i := 0) rfl))
  have F_line_xa := F_line_xa.same W8
  refine oWk.st (fun _ kt => XS.aloadN X.here hx rfl (hb hby d9_51) rfl rfl (XS.aloadN X.here hx rfl (hb hby d9_52) rfl rfl kt)) ?_
  have E_xa := (E_xa.wr W8)
  have F_arguments_xa := ((((F_arguments_xa.keep K3.1 nin0).keep K5.1 nin0).other W7 (Or.inr (slot_ne (Or.inr (oW hw 96 rfl)) (Or.inr (oW hw 92 rfl)) (by decide) (t := (.object "java/util/List")) (t' := (.object "java/lang/String")) (by decide) (by decide)))).other W8 (Or.inr (slot_ne (Or.inr (oW hw 96 rfl)) (Or.inr (oW hw 94 rfl)) (by decide) (t := (.object "java/util/List")) (t' := .int) (by decide) (by decide))))
  obtain ⟨T, h, X, e0, W9, st⟩ := putF X hx hZ hown (host := "") (Or.inl (oW hw 95 rfl)) Via.refl e0 F_arguments_xa E_xa (Or.inr ⟨(oW hw 96 rfl), rfl, hnm⟩) (oW hw 51 rfl) (ty := (.object "java/util/List")) (by decide) rfl rfl (g := (mkF m 53 #[rv xa, rv xs, iv xi, rv nl3, rv nl5] [(.ref nl3), (.ref xa)])) rfl rfl (hb hby d9_53)
  refine oWk.st st ?_
  have K := K.wr W9 (Or.inl (List.mem_of_getElem? (i := 0) rfl))
  have F_arguments_xa := F_arguments_xa.same W9
  refine oWk.st (fun _ kt => XS.aloadN X.here hx rfl (hb hby d9_56) rfl rfl (XS.aload X.here hx rfl (hb hby d9_57) rfl rfl kt)) ?_
  have E_xa := (E_xa.wr W9)
  have F_block_xa := (((((F_block_xa.keep K3.1 nin0).keep K5.1 nin0).other W7 (Or.inr (slot_ne (Or.inr (oW hw 98 rfl)) (Or.inr (oW hw 92 rfl)) (by decide) (t := (.object "java/util/List")) (t' := (.object "java/lang/String")) (by decide) (by decide)))).other W8 (Or.inr (slot_ne (Or.inr (oW hw 98 rfl)) (Or.inr (oW hw 94 rfl)) (by decide) (t := (.object "java/util/List")) (t' := .int) (by decide) (by decide)))).other W9 (Or.inr (slot_ne (Or.inr (oW hw 98 rfl)) (Or.inr (oW hw 96 rfl)) (by decide) (t := (.object "java/util/List")) (t' := (.object "java/util/List")) (by decide) (by decide))))
  obtain ⟨T, h, X, e0, W10, st⟩ := putF X hx hZ hown (host := "") (Or.inl (oW hw 97 rfl)) Via.refl e0 F_block_xa E_xa (Or.inr ⟨(oW hw 98 rfl), rfl, hnm⟩) (oW hw 51 rfl) (ty := (.object "java/util/List")) (by decide) rfl rfl (g := (mkF m 59 #[rv xa, rv xs, iv xi, rv nl3, rv nl5] [(.ref nl5), (.ref xa)])) rfl rfl (hb hby d9_59)
  refine oWk.st st ?_
  have K := K.wr W10 (Or.inl (List.mem_of_getElem? (i := 0) rfl))
  have F_block_xa := F_block_xa.same W10
  have E_xa := (E_xa.wr W10)
  exact oRetV X hx hlk hret (hb hby d9_62) (by rw [e0]; exact ⟨nl5, rfl, K, E_xa, F_block_xa⟩) (by decide) (by decide)
def Q_rDI_1_3 (Z : State) (xa : Addr) (xs : Addr) (xi : Int32) (u1 : Value) (u2 : Value) (u3 : Value) (u4 : Value) (xg : Addr) (xgf : Addr) (xgk : ClassId) (xge0 : Addr) (xh : Addr) (xhf : Addr) (xhk : ClassId) (xhe0 : Addr) (xhe1 : Addr) (xhe2 : Addr) (xq : Addr) (xmr : Addr) (h0 : Heap) (v : Option Value) (h : Heap) (L : List Loc) : Prop := ∃ (nbl : Addr), v = none ∧ oKp h0 h [xa] L ∧ (Exa Z h xa "com/example/modwright/modwright/script/Directive") ∧ (Fld Z h xa "com/example/modwright/modwright/script/Directive" "block" "Ljava/util/List;" (.ref nbl))
theorem rDI_1_3 (l : Launch) (Z : State) (a0 : Array Value) (hw : ∀ d ∈ tables_1, d.before a0 Z = true) (ws : List Jvm.Cond) (xa : Addr) (xs : Addr) (xi : Int32) (u1 : Value) (u2 : Value) (u3 : Value) (u4 : Value) (xg : Addr) (xgf : Addr) (xgk : ClassId) (xge0 : Addr) (xh : Addr) (xhf : Addr) (xhk : ClassId) (xhe0 : Addr) (xhe1 : Addr) (xhe2 : Addr) (xq : Addr) (xmr : Addr) (h0 : Heap) (O0 : Ext Z.heap h0) (S_EMPTY : Sta Z Z.heap "java/util/ImmutableCollections" "EMPTY" "Ljava/lang/Object;" (.ref xq)) (mm_ : oMir Z "[Ljava/lang/Object;" xmr) (og_xa : Z.heap.size ≤ xa) (E_xa : Exa Z h0 xa "com/example/modwright/modwright/script/Directive") (F_name_xa : Fld Z h0 xa "com/example/modwright/modwright/script/Directive" "name" "Ljava/lang/String;" u1) (F_line_xa : Fld Z h0 xa "com/example/modwright/modwright/script/Directive" "line" "I" u2) (F_arguments_xa : Fld Z h0 xa "com/example/modwright/modwright/script/Directive" "arguments" "Ljava/util/List;" u3) (F_block_xa : Fld Z h0 xa "com/example/modwright/modwright/script/Directive" "block" "Ljava/util/List;" u4) (E_xg : Exa Z h0 xg "java/util/ArrayList") (F_elementData_xg : Fld Z h0 xg "java/util/ArrayList" "elementData" "[Ljava/lang/Object;" (.ref xgf)) (F_size_xg : Fld Z h0 xg "java/util/ArrayList" "size" "I" (.int (1 : Int32))) (E_xgf : Exa Z h0 xgf "[Ljava/lang/Object;") (V_xgf : Arv Z h0 xgf xgk (.object "java/lang/Object") (10 : Int32) [(.ref xge0), .null, .null, .null, .null, .null, .null, .null, .null, .null] .null) (I_xge0 : Ins Z h0 xge0 "java/lang/Object" true) (E_xh : Exa Z h0 xh "java/util/ArrayList") (F_elementData_xh : Fld Z h0 xh "java/util/ArrayList" "elementData" "[Ljava/lang/Object;" (.ref xhf)) (F_size_xh : Fld Z h0 xh "java/util/ArrayList" "size" "I" (.int (3 : Int32))) (E_xhf : Exa Z h0 xhf "[Ljava/lang/Object;") (V_xhf : Arv Z h0 xhf xhk (.object "java/lang/Object") (10 : Int32) [(.ref xhe0), (.ref xhe1), (.ref xhe2), .null, .null, .null, .null, .null, .null, .null] .null) (I_xhe0 : Ins Z h0 xhe0 "java/lang/Object" true) (I_xhe1 : Ins Z h0 xhe1 "java/lang/Object" true) (I_xhe2 : Ins Z h0 xhe2 "java/lang/Object" true) :
    oCon l Z yy16 prog_45_method_1_code 5 none ws ({ frames := 9, cells := 5, slots := 11, locals := 115 } : Room) #[(.ref xa), (.ref xs), (.int xi), (.ref xg), (.ref xh)] h0 (Q_rDI_1_3 Z xa xs xi u1 u2 u3 u4 xg xgf xgk xge0 xh xhf xhk xhe0 xhe1 xhe2 xq xmr h0) := by
  refine oCon.of (plainFor_of_name pn_4) ?_
  intro p e s m below meth c T X hx hby hml hown hnm hret hlk hZ e0
  have hml : c.maxLocals = 5 := hml
  have K : oKp h0 h0 [xa] [] := oKp.nil _ _
  refine oWk.cast (g' := (mkF m 0 #[rv xa, rv xs, iv xi, rv xg, rv xh] [])) (by first | rfl | (simp [entryFrame, mkF, argsToLocals, Value.category]; done)) ?_
  refine oWk.st (fun _ kt => XS.aloadN X.here hx rfl (hb hby d9_0) rfl rfl kt) ?_
  have Oh := K.old O0 (allS og_xa all0)
  obtain ⟨_, _, ⟨T, L2, k2, n2⟩, -, X, ⟨Lc2, hQ, l2, y2, z2⟩, st⟩ := X.specialBack hx (y := yy4) rfl hown (mvT hZ (oW hw 56 rfl)) (mvT hZ (oW hw 57 rfl)) (mvT hZ (oW hw 60 rfl)) (by decide) (backOf (W := 0) (rRec l Z a0 hw [] xa h0 Oh ) hZ (oW hw 60 rfl) (oW hw 59 rfl) (by decide) (by decide)) (g := (mkF m 1 #[rv xa, rv xs, iv xi, rv xg, rv xh] [(.ref xa)])) rfl (by rw [hml]; rfl) (Steps.refl _) (a := xa) (argsL := []) (rest := []) (lenOf pd_3 rfl) rfl (Nat.le_of_eq rfl) (hb hby d9_1) (fun _ _ => ⟨rfl, e0, (by decide : 0 + 0 ≤ _), (by decide : 0 + 0 ≤ _)⟩)
  dsimp only [Pt.U, Pt.locs, Pt.cells, Pt.slots] at X l2 y2 z2 st hQ
  subst l2 y2 z2
  obtain ⟨rfl, e0, K1⟩ := hQ
  have K := K.call K1 all0
  rw [e0] at K
  refine oWk.tr st ?_
  refine oWk.st (fun _ kt => XS.aconstNull X.here hx rfl (hb hby d9_4) (XS.aloadN X.here hx rfl (hb hby d9_5) rfl rfl kt)) ?_
  refine oWk.st (fun _ kt => Jvm.RoadKit.acmp (g := (mkF m 6 #[rv xa, rv xs, iv xi, rv xg, rv xh] [(.ref xs), .null])) X hx rfl rfl rfl (pc0 := 6) (pc' := 23) (same := false) rfl (hb hby d9_6) rfl (decide_eq_false nofun) (by decide) (by decide) kt) ?_
  show oWk _ _ _ _ T (mkF m 23 #[rv xa, rv xs, iv xi, rv xg, rv xh] [])
  refine oWk.st (fun _ kt => XS.aloadN X.here hx rfl (hb hby d9_23) rfl rfl kt) ?_
  have lt_xa := E_xa.lt
  have lt_xg := E_xg.lt
  have lt_xgf := E_xgf.lt
  have lt_xh := E_xh.lt
  have lt_xhf := E_xhf.lt
  have Oh := K.old O0 (allS og_xa all0)
  obtain ⟨_, _, ⟨T, L4, k4, n4⟩, -, X, ⟨Lc4, hQ, l4, y4, z4⟩, st⟩ := Jvm.LawKit.callS X hx (y := yy15) hown (mvT hZ (oW hw 62 rfl)) (mvT hZ (oW hw 63 rfl)) (mvT hZ (oW hw 64 rfl)) (mvT hZ (oW hw 65 rfl)) (by decide) (backOf (W := 0) (rCO_1 l Z a0 hw [] xg xgf xmr xgk xq xge0 h0 Oh S_EMPTY mm_ E_xg F_elementData_xg F_size_xg E_xgf V_xgf I_xge0) hZ (oW hw 65 rfl) (oW hw 64 rfl) (by decide) (by decide)) (g := (mkF m 24 #[rv xa, rv xs, iv xi, rv xg, rv xh] [(.ref xg)])) rfl (by rw [hml]; rfl) (argsL := [(.ref xg)]) (rest := []) (lenOf pd_7 rfl) rfl (Nat.le_of_eq rfl) (hb hby d9_24) (fun _ _ => ⟨rfl, e0, (by decide : 0 + 2 ≤ _), (by decide : 0 + 3 ≤ _)⟩)
  dsimp only [Pt.U, Pt.locs, Pt.cells, Pt.slots] at X l4 y4 z4 st hQ
  subst l4 y4 z4
  obtain ⟨h, e0⟩ : ∃ z, T.heap = z := ⟨_, rfl⟩
  rw [e0] at hQ
  obtain ⟨nl3, rfl, K3, gn_nl3, E_nl3, F_e0_nl3, F_e1_nl3⟩ := hQ
  have ge_nl3 := Nat.le_trans K.le gn_nl3
  have ne_xa_nl3 : xa ≠ nl3 := Nat.ne_of_lt (Nat.lt_of_lt_of_le lt_xa gn_nl3)
  have ne_xg_nl3 : xg ≠ nl3 := Nat.ne_of_lt (Nat.lt_of_lt_of_le lt_xg gn_nl3)
  have ne_xgf_nl3 : xgf ≠ nl3 := Nat.ne_of_lt (Nat.lt_of_lt_of_le lt_xgf gn_nl3)
  have ne_xh_nl3 : xh ≠ nl3 := Nat.ne_of_lt (Nat.lt_of_lt_of_le lt_xh gn_nl3)
  have ne_xhf_nl3 : xhf ≠ nl3 := Nat.ne_of_lt (Nat.lt_of_lt_of_le lt_xhf gn_nl3)
  have K := K.call K3 all0
  refine oWk.st st ?_
  refine oWk.st (fun _ kt => XS.astoreN X.here hx rfl (hb hby d9_27) rfl rfl (l' := #[rv xa, rv xs, iv xi, rv nl3, rv xh]) rfl (XS.aconstNull X.here hx rfl (hb hby d9_28) (XS.aload X.here hx rfl (hb hby d9_29) rfl rfl kt))) ?_
  refine oWk.st (fun _ kt => Jvm.RoadKit.acmp (g := (mkF m 31 #[rv xa, rv xs, iv xi, rv nl3, rv xh] [(.ref xh), .null])) X hx rfl rfl rfl (pc0 := 31) (pc' := 34) (same := false) rfl (hb hby d9_31) rfl (decide_eq_false nofun) (by decide) (by decide) kt) ?_
  show oWk _ _ _ _ T (mkF m 34 #[rv xa, rv xs, iv xi, rv nl3, rv xh] [])
  refine oWk.st (fun _ kt => XS.aload X.here hx rfl (hb hby d9_34) rfl rfl kt) ?_
  have E_xh := (E_xh.keep K3.1)
  have F_elementData_xh := (F_elementData_xh.keep K3.1 nin0)
  have F_size_xh := (F_size_xh.keep K3.1 nin0)
  have E_xhf := (E_xhf.keep K3.1)
  have V_xhf := (V_xhf.keep K3.1 nin0)
  have I_xhe0 := (oInsKeep I_xhe0 K3.1)
  have I_xhe1 := (oInsKeep I_xhe1 K3.1)
  have I_xhe2 := (oInsKeep I_xhe2 K3.1)
  have E_xa := (E_xa.keep K3.1)
  have lt_xa := E_xa.lt
  have E_xg := (E_xg.keep K3.1)
  have lt_xg := E_xg.lt
  have E_xgf := (E_xgf.keep K3.1)
  have lt_xgf := E_xgf.lt
  have lt_xh := E_xh.lt
  have lt_xhf := E_xhf.lt
  have lt_nl3 := E_nl3.lt
  have Oh := K.old O0 (allS og_xa all0)
  obtain ⟨_, _, ⟨T, L6, k6, n6⟩, -, X, ⟨Lc6, hQ, l6, y6, z6⟩, st⟩ := Jvm.LawKit.callS X hx (y := yy15) hown (mvT hZ (oW hw 62 rfl)) (mvT hZ (oW hw 63 rfl)) (mvT hZ (oW hw 64 rfl)) (mvT hZ (oW hw 65 rfl)) (by decide) (backOf (W := 0) (rCO_3 l Z a0 hw [] xh xhf xmr xhk xhe0 xhe1 xhe2 h Oh mm_ E_xh F_elementData_xh F_size_xh E_xhf V_xhf I_xhe0 I_xhe1 I_xhe2) hZ (oW hw 65 rfl) (oW hw 64 rfl) (by decide) (by decide)) (g := (mkF m 36 #[rv xa, rv xs, iv xi, rv nl3, rv xh] [(.ref xh)])) rfl (by rw [hml]; rfl) (argsL := [(.ref xh)]) (rest := []) (lenOf pd_7 rfl) rfl (Nat.le_of_eq rfl) (hb hby d9_36) (fun _ _ => ⟨rfl, e0, (by decide : 2 + 3 ≤ _), (by decide : 3 + 8 ≤ _)⟩)
  dsimp only [Pt.U, Pt.locs, Pt.cells, Pt.slots] at X l6 y6 z6 st hQ
  subst l6 y6 z6
  obtain ⟨h, e0⟩ : ∃ z, T.heap = z := ⟨_, rfl⟩
  rw [e0] at hQ
  obtain ⟨nl5, ng5, nj5, rfl, K5, gn_nl5, E_nl5, F_elements_nl5, F_allowNulls_nl5, gn_ng5, V_ng5⟩ := hQ
  have ge_nl5 := Nat.le_trans K.le gn_nl5
  have ne_xa_nl5 : xa ≠ nl5 := Nat.ne_of_lt (Nat.lt_of_lt_of_le lt_xa gn_nl5)
  have ne_xg_nl5 : xg ≠ nl5 := Nat.ne_of_lt (Nat.lt_of_lt_of_le lt_xg gn_nl5)
  have ne_xgf_nl5 : xgf ≠ nl5 := Nat.ne_of_lt (Nat.lt_of_lt_of_le lt_xgf gn_nl5)
  have ne_xh_nl5 : xh ≠ nl5 := Nat.ne_of_lt (Nat.lt_of_lt_of_le lt_xh gn_nl5)
  have ne_xhf_nl5 : xhf ≠ nl5 := Nat.ne_of_lt (Nat.lt_of_lt_of_le lt_xhf gn_nl5)
  have ne_nl3_nl5 : nl3 ≠ nl5 := Nat.ne_of_lt (Nat.lt_of_lt_of_le lt_nl3 gn_nl5)
  have ge_ng5 := Nat.le_trans K.le gn_ng5
  have ne_xa_ng5 : xa ≠ ng5 := Nat.ne_of_lt (Nat.lt_of_lt_of_le lt_xa gn_ng5)
  have ne_xg_ng5 : xg ≠ ng5 := Nat.ne_of_lt (Nat.lt_of_lt_of_le lt_xg gn_ng5)
  have ne_xgf_ng5 : xgf ≠ ng5 := Nat.ne_of_lt (Nat.lt_of_lt_of_le lt_xgf gn_ng5)
  have ne_xh_ng5 : xh ≠ ng5 := Nat.ne_of_lt (Nat.lt_of_lt_of_le lt_xh gn_ng5)
  have ne_xhf_ng5 : xhf ≠ ng5 := Nat.ne_of_lt (Nat.lt_of_lt_of_le lt_xhf gn_ng5)
  have ne_nl3_ng5 : nl3 ≠ ng5 := Nat.ne_of_lt (Nat.lt_of_lt_of_le lt_nl3 gn_ng5)
  have K := K.call K5 all0
  refine oWk.st st ?_
  refine oWk.st (fun _ kt => XS.astore X.here hx rfl (hb hby d9_39) rfl rfl (l' := #[rv xa, rv xs, iv xi, rv nl3, rv nl5]) rfl (XS.aloadN X.here hx rfl (hb hby d9_41) rfl rfl (XS.aloadN X.here hx rfl (hb hby d9_42) rfl rfl kt))) ?_
  have E_xa := (E_xa.keep K5.1)
  have F_name_xa := ((F_name_xa.keep K3.1 nin0).keep K5.1 nin0)
  obtain ⟨T, h, X, e0, W7, st⟩ := putF X hx hZ hown (host := "") (Or.inl (oW hw 91 rfl)) Via.refl e0 F_name_xa E_xa (Or.inr ⟨(oW hw 92 rfl), rfl, hnm⟩) (oW hw 51 rfl) (ty := (.object "java/lang/String")) (by decide) rfl rfl (g := (mkF m 43 #[rv xa, rv xs, iv xi, rv nl3, rv nl5] [(.ref xs), (.ref xa)])) rfl rfl (hb hby d9_43)
  refine oWk.st st ?_
  have K := K.wr W7 (Or.inl (List.mem_of_getElem? (i := 0) rfl))
  have F_name_xa := F_name_xa.same W7
  refine oWk.st (fun _ kt => XS.aloadN X.here hx rfl (hb hby d9_46) rfl rfl (XS.iloadN X.here hx rfl (hb hby d9_47) rfl kt)) ?_
  have E_xa := (E_xa.wr W7)
  have F_line_xa := (((F_line_xa.keep K3.1 nin0).keep K5.1 nin0).other W7 (Or.inr (slot_ne (Or.inr (oW hw 94 rfl)) (Or.inr (oW hw 92 rfl)) (by decide) (t := .int) (t' := (.object "java/lang/String")) (by decide) (by decide))))
  obtain ⟨T, h, X, e0, W8, st⟩ := putF X hx hZ hown (host := "") (Or.inl (oW hw 93 rfl)) Via.refl e0 F_line_xa E_xa (Or.inr ⟨(oW hw 94 rfl), rfl, hnm⟩) (oW hw 51 rfl) (ty := .int) (by decide) rfl rfl (g := (mkF m 48 #[rv xa, rv xs, iv xi, rv nl3, rv nl5] [(.int xi), (.ref xa)])) rfl rfl (hb hby d9_48)
  refine oWk.st st ?_
  have K := K.wr W8 (Or.inl (List.mem_of_getElem? (i := 0) rfl))
  have F_line_xa := F_line_xa.same W8
  refine oWk.st (fun _ kt => XS.aloadN X.here hx rfl (hb hby d9_51) rfl rfl (XS.aloadN X.here hx rfl (hb hby d9_52) rfl rfl kt)) ?_
  have E_xa := (E_xa.wr W8)
  have F_arguments_xa := ((((F_arguments_xa.keep K3.1 nin0).keep K5.1 nin0).other W7 (Or.inr (slot_ne (Or.inr (oW hw 96 rfl)) (Or.inr (oW hw 92 rfl)) (by decide) (t := (.object "java/util/List")) (t' := (.object "java/lang/String")) (by decide) (by decide)))).other W8 (Or.inr (slot_ne (Or.inr (oW hw 96 rfl)) (Or.inr (oW hw 94 rfl)) (by decide) (t := (.object "java/util/List")) (t' := .int) (by decide) (by decide))))
  obtain ⟨T, h, X, e0, W9, st⟩ := putF X hx hZ hown (host := "") (Or.inl (oW hw 95 rfl)) Via.refl e0 F_arguments_xa E_xa (Or.inr ⟨(oW hw 96 rfl), rfl, hnm⟩) (oW hw 51 rfl) (ty := (.object "java/util/List")) (by decide) rfl rfl (g := (mkF m 53 #[rv xa, rv xs, iv xi, rv nl3, rv nl5] [(.ref nl3), (.ref xa)])) rfl rfl (hb hby d9_53)
  refine oWk.st st ?_
  have K := K.wr W9 (Or.inl (List.mem_of_getElem? (i := 0) rfl))
  have F_arguments_xa := F_arguments_xa.same W9
  refine oWk.st (fun _ kt => XS.aloadN X.here hx rfl (hb hby d9_56) rfl rfl (XS.aload X.here hx rfl (hb hby d9_57) rfl rfl kt)) ?_
  have E_xa := (E_xa.wr W9)
  have F_block_xa := (((((F_block_xa.keep K3.1 nin0).keep K5.1 nin0).other W7 (Or.inr (slot_ne (Or.inr (oW hw 98 rfl)) (Or.inr (oW hw 92 rfl)) (by decide) (t := (.object "java/util/List")) (t' := (.object "java/lang/String")) (by decide) (by decide)))).other W8 (Or.inr (slot_ne (Or.inr (oW hw 98 rfl)) (Or.inr (oW hw 94 rfl)) (by decide) (t := (.object "java/util/List")) (t' := .int) (by decide) (by decide)))).other W9 (Or.inr (slot_ne (Or.inr (oW hw 98 rfl)) (Or.inr (oW hw 96 rfl)) (by decide) (t := (.object "java/util/List")) (t' := (.object "java/util/List")) (by decide) (by decide))))
  obtain ⟨T, h, X, e0, W10, st⟩ := putF X hx hZ hown (host := "") (Or.inl (oW hw 97 rfl)) Via.refl e0 F_block_xa E_xa (Or.inr ⟨(oW hw 98 rfl), rfl, hnm⟩) (oW hw 51 rfl) (ty := (.object "java/util/List")) (by decide) rfl rfl (g := (mkF m 59 #[rv xa, rv xs, iv xi, rv nl3, rv nl5] [(.ref nl5), (.ref xa)])) rfl rfl (hb hby d9_59)
  refine oWk.st st ?_
  have K := K.wr W10 (Or.inl (List.mem_of_getElem? (i := 0) rfl))
  have F_block_xa := F_block_xa.same W10
  have E_xa := (E_xa.wr W10)
  exact oRetV X hx hlk hret (hb hby d9_62) (by rw [e0]; exact ⟨nl5, rfl, K, E_xa, F_block_xa⟩) (by decide) (by decide)
theorem rLaw (l : Launch) (Z : State) (a0 : Array Value) (hw : ∀ d ∈ tables_1, d.before a0 Z = true) (ws : List Jvm.Cond) (p0 : Int32) (p1 : Int32) (p2 : Int32) (p3 : Int32) (xd : Addr) (xk : ClassId) (xl : Addr) (xq : Addr) (xmr : Addr) (xz : Int32) (h0 : Heap) (O0 : Ext Z.heap h0) (S_DEFAULTCAPACITY_EMPTY_ELEMENTDATA : Sta Z Z.heap "java/util/ArrayList" "DEFAULTCAPACITY_EMPTY_ELEMENTDATA" "[Ljava/lang/Object;" (.ref xd)) (V_xd : Arv Z h0 xd xk (.object "java/lang/Object") (0 : Int32) [] .null) (S_EMPTY_LIST : Sta Z Z.heap "java/util/ImmutableCollections" "EMPTY_LIST" "Ljava/util/ImmutableCollections$ListN;" (.ref xl)) (S_EMPTY : Sta Z Z.heap "java/util/ImmutableCollections" "EMPTY" "Ljava/lang/Object;" (.ref xq)) (mm_ : oMir Z "[Ljava/lang/Object;" xmr) (S_COMPACT_STRINGS : Sta Z Z.heap "java/lang/String" "COMPACT_STRINGS" "Z" (.int xz)) (hz : ¬ xz = (0 : Int32)) :
    oCon l Z x code maxLocals ret ws room_1 #[(.int p0), (.int p1), (.int p2), (.int p3)] h0 (Q_rLaw Z p0 p1 p2 p3 xd xk xl xq xmr xz h0) := by
  refine oCon.of (plainFor_of_name pn_8) ?_
  intro p e s m below meth c T X hx hby hml hown hnm hret hlk hZ e0
  have hml : c.maxLocals = 16 := hml
  have K : oKp h0 h0 [] [] := oKp.nil _ _
  refine oWk.cast (g' := (mkF m 0 #[iv p0, iv p1, iv p2, iv p3, uu, uu, uu, uu, uu, uu, uu, uu, uu, uu, uu, uu] [])) (by first | rfl | (simp [entryFrame, mkF, argsToLocals, Value.category, maxLocals]; done)) ?_
  refine oWk.st (fun _ kt => XS.iloadN X.here hx rfl (hb hby at_0) rfl (XS.iconst X.here hx rfl (hb hby at_1) (XS.iand X.here hx rfl (hb hby at_2) rfl kt))) ?_
  show oWk _ _ _ _ T (mkF m 3 #[iv p0, iv p1, iv p2, iv p3, uu, uu, uu, uu, uu, uu, uu, uu, uu, uu, uu, uu] [(.int (p2 &&& (1 : Int32)))])
  have J11 : ∀ (wb : Int32), wb = 0 ∨ wb = 1 → oWk p.tables e below (oDn s below (Q_rLaw Z p0 p1 p2 p3 xd xk xl xq xmr xz h0) room_1.cells room_1.slots) T (mkF m 11 #[iv p0, iv p1, iv p2, iv p3, uu, uu, uu, uu, uu, uu, uu, uu, uu, uu, uu, uu] [(.int wb)]) := by
    intro wb hwb
    refine oWk.st (fun _ kt => XS.istore X.here hx rfl (hb hby at_11) rfl (l' := #[iv p0, iv p1, iv p2, iv p3, iv wb, uu, uu, uu, uu, uu, uu, uu, uu, uu, uu, uu]) rfl (XS.iloadN X.here hx rfl (hb hby at_13) rfl (XS.iconst X.here hx rfl (hb hby at_14) (XS.iushr X.here hx rfl (hb hby at_15) rfl (XS.iconst X.here hx rfl (hb hby at_16) (XS.iand X.here hx rfl (hb hby at_17) rfl kt)))))) ?_
    show oWk _ _ _ _ T (mkF m 18 #[iv p0, iv p1, iv p2, iv p3, iv wb, uu, uu, uu, uu, uu, uu, uu, uu, uu, uu, uu] [(.int (((p2.toUInt32 >>> ((1 : Int32) &&& 31).toUInt32).toInt32) &&& (3 : Int32)))])
    generalize hnn : (((p2.toUInt32 >>> ((1 : Int32) &&& 31).toUInt32).toInt32) &&& (3 : Int32)) = nn
    show oWk _ _ _ _ T (mkF m 18 #[iv p0, iv p1, iv p2, iv p3, iv wb, uu, uu, uu, uu, uu, uu, uu, uu, uu, uu, uu] [(.int nn)])
    have cn := oM3 ((p2.toUInt32 >>> ((1 : Int32) &&& 31).toUInt32).toInt32)
    rw [hnn] at cn
    clear hnn
    refine oWk.st (fun _ kt => XS.istore X.here hx rfl (hb hby at_18) rfl (l' := #[iv p0, iv p1, iv p2, iv p3, iv wb, iv nn, uu, uu, uu, uu, uu, uu, uu, uu, uu, uu]) rfl (XS.iloadN X.here hx rfl (hb hby at_20) rfl (XS.bipush X.here hx rfl (hb hby at_21) (XS.iand X.here hx rfl (hb hby at_23) rfl kt)))) ?_
    show oWk _ _ _ _ T (mkF m 24 #[iv p0, iv p1, iv p2, iv p3, iv wb, iv nn, uu, uu, uu, uu, uu, uu, uu, uu, uu, uu] [(.int (p2 &&& (8 : Int32)))])
    by_cases hc24 : (p2 &&& (8 : Int32)) = (0 : Int32)
    · refine oWk.st (fun _ kt => XS.ifYes X.here hx rfl (pc0 := 24) (pc' := 31) rfl (hb hby at_24) rfl ((if0 _ _).trans (teq hc24).1) (by decide) (by decide) kt) ?_
      show oWk _ _ _ _ T (mkF m 31 #[iv p0, iv p1, iv p2, iv p3, iv wb, iv nn, uu, uu, uu, uu, uu, uu, uu, uu, uu, uu] [])
      refine oWk.st (fun _ kt => XS.iconst X.here hx rfl (hb hby at_31) (XS.istore X.here hx rfl (hb hby at_32) rfl (l' := #[iv p0, iv p1, iv p2, iv p3, iv wb, iv nn, iv 0, uu, uu, uu, uu, uu, uu, uu, uu, uu]) rfl (XS.iloadN X.here hx rfl (hb hby at_34) rfl (XS.sipush X.here hx rfl (hb hby at_35) (XS.iand X.here hx rfl (hb hby at_38) rfl (XS.i2c X.here hx rfl (hb hby at_39) rfl kt)))))) ?_
      show oWk _ _ _ _ T (mkF m 40 #[iv p0, iv p1, iv p2, iv p3, iv wb, iv nn, iv 0, uu, uu, uu, uu, uu, uu, uu, uu, uu] [(.int ((p0 &&& (255 : Int32)).toUInt32.toUInt16.toUInt32.toInt32))])
      rw [oChr (oM255 _)]
      show oWk _ _ _ _ T (mkF m 40 #[iv p0, iv p1, iv p2, iv p3, iv wb, iv nn, iv 0, uu, uu, uu, uu, uu, uu, uu, uu, uu] [(.int (p0 &&& (255 : Int32)))])
      have lt_xd := V_xd.lt
      have Oh := K.old O0 all0
      obtain ⟨_, _, ⟨T, L2, k2, n2⟩, -, X, ⟨Lc2, hQ, l2, y2, z2⟩, st⟩ := Jvm.LawKit.callS X hx (y := yy3) hown (mvT hZ (oW hw 0 rfl)) (mvT hZ (oW hw 1 rfl)) (mvT hZ (oW hw 2 rfl)) (mvT hZ (oW hw 3 rfl)) (by decide) (backOf (W := 0) (rVal l Z a0 hw [] (p0 &&& (255 : Int32)) xz h0 Oh S_COMPACT_STRINGS hz (oLe255 (oM255 _))) hZ (oW hw 3 rfl) (oW hw 2 rfl) (by decide) (by decide)) (g := (mkF m 40 #[iv p0, iv p1, iv p2, iv p3, iv wb, iv nn, iv 0, uu, uu, uu, uu, uu, uu, uu, uu, uu] [(.int (p0 &&& (255 : Int32)))])) rfl (by rw [hml]; rfl) (argsL := [(.int (p0 &&& (255 : Int32)))]) (rest := []) (lenOf pd_4 rfl) rfl (Nat.le_of_eq rfl) (hb hby at_40) (fun _ _ => ⟨rfl, e0, (by decide : 0 + 2 ≤ _), (by decide : 0 + 5 ≤ _)⟩)
      dsimp only [Pt.U, Pt.locs, Pt.cells, Pt.slots] at X l2 y2 z2 st hQ
      subst l2 y2 z2
      obtain ⟨h, e0⟩ : ∃ z, T.heap = z := ⟨_, rfl⟩
      rw [e0] at hQ
      obtain ⟨nm, nmb, nmk, rfl, K1, gn_nm, gn_nmb, E_nm, F_value_nm, F_coder_nm, V_nmb, hnn1⟩ := hQ
      have ge_nm := Nat.le_trans K.le gn_nm
      have ne_xd_nm : xd ≠ nm := Nat.ne_of_lt (Nat.lt_of_lt_of_le lt_xd gn_nm)
      have ge_nmb := Nat.le_trans K.le gn_nmb
      have ne_xd_nmb : xd ≠ nmb := Nat.ne_of_lt (Nat.lt_of_lt_of_le lt_xd gn_nmb)
      have K := K.call K1 all0
      refine oWk.st st ?_
      refine oWk.st (fun _ kt => XS.astore X.here hx rfl (hb hby at_43) rfl rfl (l' := #[iv p0, iv p1, iv p2, iv p3, iv wb, iv nn, iv 0, rv nm, uu, uu, uu, uu, uu, uu, uu, uu]) rfl kt) ?_
      obtain ⟨al, g3⟩ : ∃ z, z = h.size := ⟨_, rfl⟩
      have V_xd := (V_xd.keep K1.1 nin0)
      have ne_xd_al : xd ≠ al := Nat.ne_of_lt (Nat.lt_of_lt_of_le V_xd.lt (Nat.le_of_eq g3.symm))
      have ne_nm_al : nm ≠ al := Nat.ne_of_lt (Nat.lt_of_lt_of_le E_nm.lt (Nat.le_of_eq g3.symm))
      have ne_nmb_al : nmb ≠ al := Nat.ne_of_lt (Nat.lt_of_lt_of_le V_nmb.lt (Nat.le_of_eq g3.symm))
      have ge_al : h0.size ≤ al := Nat.le_trans K.le (Nat.le_of_eq g3.symm)
      obtain ⟨T, h, X, e0, E3, A3, D3, -, st⟩ := newO X hx hZ hown (oW hw 26 rfl) (oW hw 27 rfl) (oW hw 28 rfl) e0 (g := (mkF m 45 #[iv p0, iv p1, iv p2, iv p3, iv wb, iv nn, iv 0, rv nm, uu, uu, uu, uu, uu, uu, uu, uu] [])) rfl (hb hby at_45) (by decide) (by decide)
      rw [← g3] at A3 D3 st
      refine oWk.st st ?_
      have K := K.ext E3
      have E_al := A3
      have F_modCount_al : Fld Z h al "java/util/AbstractList" "modCount" "I" (.int (0 : Int32)) := D3 (Or.inl (oW hw 46 rfl)) (ty := .int) (by decide)
      have F_elementData_al : Fld Z h al "java/util/ArrayList" "elementData" "[Ljava/lang/Object;" .null := D3 (Or.inl (oW hw 49 rfl)) (ty := (.array (.object "java/lang/Object"))) (by decide)
      have F_size_al : Fld Z h al "java/util/ArrayList" "size" "I" (.int (0 : Int32)) := D3 (Or.inl (oW hw 86 rfl)) (ty := .int) (by decide)
      refine oWk.st (fun _ kt => XS.dup X.here hx rfl (hb hby at_48) rfl rfl kt) ?_
      have Oh := K.old O0 all0
      obtain ⟨_, _, ⟨T, L5, k5, n5⟩, -, X, ⟨Lc5, hQ, l5, y5, z5⟩, st⟩ := X.specialBack hx (y := yy10) rfl hown (mvT hZ (oW hw 29 rfl)) (mvT hZ (oW hw 30 rfl)) (mvT hZ (oW hw 31 rfl)) (by decide) (backOf (W := 1) (rAL l Z a0 hw [] al xd (.int (0 : Int32)) .null h Oh S_DEFAULTCAPACITY_EMPTY_ELEMENTDATA (Nat.le_trans O0.1 ge_al) E_al F_elementData_al F_size_al F_modCount_al) hZ (oW hw 31 rfl) (oW hw 28 rfl) (by decide) (by decide)) (g := (mkF m 49 #[iv p0, iv p1, iv p2, iv p3, iv wb, iv nn, iv 0, rv nm, uu, uu, uu, uu, uu, uu, uu, uu] [(.ref al), (.ref al)])) rfl (by rw [hml]; rfl) (Steps.refl _) (a := al) (argsL := []) (rest := [(.ref al)]) (lenOf pd_3 rfl) rfl (Nat.le_of_eq rfl) (hb hby at_49) (fun _ _ => ⟨rfl, e0, (by decide : 3 + 0 ≤ _), (by decide : 8 + 0 ≤ _)⟩)
      dsimp only [Pt.U, Pt.locs, Pt.cells, Pt.slots] at X l5 y5 z5 st hQ
      subst l5 y5 z5
      obtain ⟨h, e0⟩ : ∃ z, T.heap = z := ⟨_, rfl⟩
      rw [e0] at hQ
      obtain ⟨rfl, K4, E_al, F_elementData_al, F_size_al, F_modCount_al⟩ := hQ
      have K := K.call K4 (allS (Or.inr ge_al) all0)
      refine oWk.tr st ?_
      refine oWk.st (fun _ kt => XS.astore X.here hx rfl (hb hby at_52) rfl rfl (l' := #[iv p0, iv p1, iv p2, iv p3, iv wb, iv nn, iv 0, rv nm, rv al, uu, uu, uu, uu, uu, uu, uu]) rfl (XS.iload X.here hx rfl (hb hby at_54) rfl (XS.ifYes X.here hx rfl (pc0 := 56) (pc' := 79) rfl (hb hby at_56) rfl ((if0 _ _).trans (teq (by decide)).1) (by decide) (by decide) kt))) ?_
      obtain ⟨leaf, g6⟩ : ∃ z, z = h.size := ⟨_, rfl⟩
      have V_xd := ((V_xd.ext E3).keep K4.1 (ninS ne_xd_al nin0))
      have ne_xd_leaf : xd ≠ leaf := Nat.ne_of_lt (Nat.lt_of_lt_of_le V_xd.lt (Nat.le_of_eq g6.symm))
      have E_nm := ((E_nm.ext E3).keep K4.1)
      have ne_nm_leaf : nm ≠ leaf := Nat.ne_of_lt (Nat.lt_of_lt_of_le E_nm.lt (Nat.le_of_eq g6.symm))
      have V_nmb := ((V_nmb.ext E3).keep K4.1 (ninS ne_nmb_al nin0))
      have ne_nmb_leaf : nmb ≠ leaf := Nat.ne_of_lt (Nat.lt_of_lt_of_le V_nmb.lt (Nat.le_of_eq g6.symm))
      have ne_al_leaf : al ≠ leaf := Nat.ne_of_lt (Nat.lt_of_lt_of_le E_al.lt (Nat.le_of_eq g6.symm))
      have ge_leaf : h0.size ≤ leaf := Nat.le_trans K.le (Nat.le_of_eq g6.symm)
      obtain ⟨T, h, X, e0, E6, A6, D6, -, st⟩ := newO X hx hZ hown (oW hw 50 rfl) (oW hw 51 rfl) (oW hw 52 rfl) e0 (g := (mkF m 79 #[iv p0, iv p1, iv p2, iv p3, iv wb, iv nn, iv 0, rv nm, rv al, uu, uu, uu, uu, uu, uu, uu] [])) rfl (hb hby at_79) (by decide) (by decide)
      rw [← g6] at A6 D6 st
      refine oWk.st st ?_
      have K := K.ext E6
      have E_leaf := A6
      have F_name_leaf : Fld Z h leaf "com/example/modwright/modwright/script/Directive" "name" "Ljava/lang/String;" .null := D6 (Or.inr (oW hw 92 rfl)) (ty := (.object "java/lang/String")) (by decide)
      have F_line_leaf : Fld Z h leaf "com/example/modwright/modwright/script/Directive" "line" "I" (.int (0 : Int32)) := D6 (Or.inr (oW hw 94 rfl)) (ty := .int) (by decide)
      have F_arguments_leaf : Fld Z h leaf "com/example/modwright/modwright/script/Directive" "arguments" "Ljava/util/List;" .null := D6 (Or.inr (oW hw 96 rfl)) (ty := (.object "java/util/List")) (by decide)
      have F_block_leaf : Fld Z h leaf "com/example/modwright/modwright/script/Directive" "block" "Ljava/util/List;" .null := D6 (Or.inr (oW hw 98 rfl)) (ty := (.object "java/util/List")) (by decide)
      refine oWk.st (fun _ kt => XS.dup X.here hx rfl (hb hby at_82) rfl rfl (XS.aload X.here hx rfl (hb hby at_83) rfl rfl (XS.iloadN X.here hx rfl (hb hby at_85) rfl kt))) ?_
      obtain ⟨a2, g7⟩ : ∃ z, z = h.size := ⟨_, rfl⟩
      have V_xd := (V_xd.ext E6)
      have ne_xd_a2 : xd ≠ a2 := Nat.ne_of_lt (Nat.lt_of_lt_of_le V_xd.lt (Nat.le_of_eq g7.symm))
      have E_nm := (E_nm.ext E6)
      have ne_nm_a2 : nm ≠ a2 := Nat.ne_of_lt (Nat.lt_of_lt_of_le E_nm.lt (Nat.le_of_eq g7.symm))
      have V_nmb := (V_nmb.ext E6)
      have ne_nmb_a2 : nmb ≠ a2 := Nat.ne_of_lt (Nat.lt_of_lt_of_le V_nmb.lt (Nat.le_of_eq g7.symm))
      have E_al := (E_al.ext E6)
      have ne_al_a2 : al ≠ a2 := Nat.ne_of_lt (Nat.lt_of_lt_of_le E_al.lt (Nat.le_of_eq g7.symm))
      have ne_leaf_a2 : leaf ≠ a2 := Nat.ne_of_lt (Nat.lt_of_lt_of_le E_leaf.lt (Nat.le_of_eq g7.symm))
      have ge_a2 : h0.size ≤ a2 := Nat.le_trans K.le (Nat.le_of_eq g7.symm)
      obtain ⟨T, h, X, e0, E7, A7, D7, -, st⟩ := newO X hx hZ hown (oW hw 26 rfl) (oW hw 27 rfl) (oW hw 28 rfl) e0 (g := (mkF m 86 #[iv p0, iv p1, iv p2, iv p3, iv wb, iv nn, iv 0, rv nm, rv al, uu, uu, uu, uu, uu, uu, uu] [(.int p1), (.ref nm), (.ref leaf), (.ref leaf)])) rfl (hb hby at_86) (by decide) (by decide)
      rw [← g7] at A7 D7 st
      refine oWk.st st ?_
      have K := K.ext E7
      have E_a2 := A7
      have F_modCount_a2 : Fld Z h a2 "java/util/AbstractList" "modCount" "I" (.int (0 : Int32)) := D7 (Or.inl (oW hw 46 rfl)) (ty := .int) (by decide)
      have F_elementData_a2 : Fld Z h a2 "java/util/ArrayList" "elementData" "[Ljava/lang/Object;" .null := D7 (Or.inl (oW hw 49 rfl)) (ty := (.array (.object "java/lang/Object"))) (by decide)
      have F_size_a2 : Fld Z h a2 "java/util/ArrayList" "size" "I" (.int (0 : Int32)) := D7 (Or.inl (oW hw 86 rfl)) (ty := .int) (by decide)
      refine oWk.st (fun _ kt => XS.dup X.here hx rfl (hb hby at_89) rfl rfl kt) ?_
      have Oh := K.old O0 all0
      obtain ⟨_, _, ⟨T, L9, k9, n9⟩, -, X, ⟨Lc9, hQ, l9, y9, z9⟩, st⟩ := X.specialBack hx (y := yy10) rfl hown (mvT hZ (oW hw 29 rfl)) (mvT hZ (oW hw 30 rfl)) (mvT hZ (oW hw 31 rfl)) (by decide) (backOf (W := 5) (rAL l Z a0 hw [] a2 xd (.int (0 : Int32)) .null h Oh S_DEFAULTCAPACITY_EMPTY_ELEMENTDATA (Nat.le_trans O0.1 ge_a2) E_a2 F_elementData_a2 F_size_a2 F_modCount_a2) hZ (oW hw 31 rfl) (oW hw 28 rfl) (by decide) (by decide)) (g := (mkF m 90 #[iv p0, iv p1, iv p2, iv p3, iv wb, iv nn, iv 0, rv nm, rv al, uu, uu, uu, uu, uu, uu, uu] [(.ref a2), (.ref a2), (.int p1), (.ref nm), (.ref leaf), (.ref leaf)])) rfl (by rw [hml]; rfl) (Steps.refl _) (a := a2) (argsL := []) (rest := [(.ref a2), (.int p1), (.ref nm), (.ref leaf), (.ref leaf)]) (lenOf pd_3 rfl) rfl (Nat.le_of_eq rfl) (hb hby at_90) (fun _ _ => ⟨rfl, e0, (by decide : 5 + 0 ≤ _), (by decide : 15 + 0 ≤ _)⟩)
      dsimp only [Pt.U, Pt.locs, Pt.cells, Pt.slots] at X l9 y9 z9 st hQ
      subst l9 y9 z9
      obtain ⟨h, e0⟩ : ∃ z, T.heap = z := ⟨_, rfl⟩
      rw [e0] at hQ
      obtain ⟨rfl, K8, E_a2, F_elementData_a2, F_size_a2, F_modCount_a2⟩ := hQ
      have K := K.call K8 (allS (Or.inr ge_a2) all0)
      refine oWk.tr st ?_
      refine oWk.st (fun _ kt => XS.aconstNull X.here hx rfl (hb hby at_93) kt) ?_
      have E_leaf := ((E_leaf.ext E7).keep K8.1)
      have F_name_leaf := ((F_name_leaf.ext E7).keep K8.1 (ninS ne_leaf_a2 nin0))
      have F_line_leaf := ((F_line_leaf.ext E7).keep K8.1 (ninS ne_leaf_a2 nin0))
      have F_arguments_leaf := ((F_arguments_leaf.ext E7).keep K8.1 (ninS ne_leaf_a2 nin0))
      have F_block_leaf := ((F_block_leaf.ext E7).keep K8.1 (ninS ne_leaf_a2 nin0))
      have Oh := K.old O0 all0
      obtain ⟨_, _, ⟨T, L11, k11, n11⟩, -, X, ⟨Lc11, hQ, l11, y11, z11⟩, st⟩ := X.specialBack hx (y := yy16) rfl hown (mvT hZ (oW hw 53 rfl)) (mvT hZ (oW hw 54 rfl)) (mvT hZ (oW hw 55 rfl)) (by decide) (backOf (W := 1) (rDI_0_N l Z a0 hw [] leaf nm p1 .null (.int (0 : Int32)) .null .null a2 xl h Oh S_EMPTY_LIST (Nat.le_trans O0.1 ge_leaf) E_leaf F_name_leaf F_line_leaf F_arguments_leaf F_block_leaf E_a2 F_size_a2) hZ (oW hw 55 rfl) (oW hw 52 rfl) (by decide) (by decide)) (g := (mkF m 94 #[iv p0, iv p1, iv p2, iv p3, iv wb, iv nn, iv 0, rv nm, rv al, uu, uu, uu, uu, uu, uu, uu] [.null, (.ref a2), (.int p1), (.ref nm), (.ref leaf), (.ref leaf)])) rfl (by rw [hml]; rfl) (Steps.refl _) (a := leaf) (argsL := [(.ref nm), (.int p1), (.ref a2), .null]) (rest := [(.ref leaf)]) (lenOf pd_8 rfl) rfl (Nat.le_of_eq rfl) (hb hby at_94) (fun _ _ => ⟨rfl, e0, (by decide : 5 + 0 ≤ _), (by decide : 15 + 0 ≤ _)⟩)
      dsimp only [Pt.U, Pt.locs, Pt.cells, Pt.slots] at X l11 y11 z11 st hQ
      subst l11 y11 z11
      obtain ⟨h, e0⟩ : ∃ z, T.heap = z := ⟨_, rfl⟩
      rw [e0] at hQ
      obtain ⟨rfl, K10, E_leaf, F_block_leaf⟩ := hQ
      have K := K.call K10 (allS (Or.inr ge_leaf) all0)
      refine oWk.tr st ?_
      refine oWk.st (fun _ kt => XS.astore X.here hx rfl (hb hby at_97) rfl rfl (l' := #[iv p0, iv p1, iv p2, iv p3, iv wb, iv nn, iv 0, rv nm, rv al, rv leaf, uu, uu, uu, uu, uu, uu]) rfl kt) ?_
      obtain ⟨eb, g12⟩ : ∃ z, z = h.size := ⟨_, rfl⟩
      have V_xd := (((V_xd.ext E7).keep K8.1 (ninS ne_xd_a2 nin0)).keep K10.1 (ninS ne_xd_leaf nin0))
      have ne_xd_eb : xd ≠ eb := Nat.ne_of_lt (Nat.lt_of_lt_of_le V_xd.lt (Nat.le_of_eq g12.symm))
      have E_nm := (((E_nm.ext E7).keep K8.1).keep K10.1)
      have ne_nm_eb : nm ≠ eb := Nat.ne_of_lt (Nat.lt_of_lt_of_le E_nm.lt (Nat.le_of_eq g12.symm))
      have V_nmb := (((V_nmb.ext E7).keep K8.1 (ninS ne_nmb_a2 nin0)).keep K10.1 (ninS ne_nmb_leaf nin0))
      have ne_nmb_eb : nmb ≠ eb := Nat.ne_of_lt (Nat.lt_of_lt_of_le V_nmb.lt (Nat.le_of_eq g12.symm))
      have E_al := (((E_al.ext E7).keep K8.1).keep K10.1)
      have ne_al_eb : al ≠ eb := Nat.ne_of_lt (Nat.lt_of_lt_of_le E_al.lt (Nat.le_of_eq g12.symm))
      have ne_leaf_eb : leaf ≠ eb := Nat.ne_of_lt (Nat.lt_of_lt_of_le E_leaf.lt (Nat.le_of_eq g12.symm))
      have E_a2 := (E_a2.keep K10.1)
      have ne_a2_eb : a2 ≠ eb := Nat.ne_of_lt (Nat.lt_of_lt_of_le E_a2.lt (Nat.le_of_eq g12.symm))
      have ge_eb : h0.size ≤ eb := Nat.le_trans K.le (Nat.le_of_eq g12.symm)
      obtain ⟨T, h, X, e0, E12, A12, D12, -, st⟩ := newO X hx hZ hown (oW hw 50 rfl) (oW hw 51 rfl) (oW hw 52 rfl) e0 (g := (mkF m 99 #[iv p0, iv p1, iv p2, iv p3, iv wb, iv nn, iv 0, rv nm, rv al, rv leaf, uu, uu, uu, uu, uu, uu] [])) rfl (hb hby at_99) (by decide) (by decide)
      rw [← g12] at A12 D12 st
      refine oWk.st st ?_
      have K := K.ext E12
      have E_eb := A12
      have F_name_eb : Fld Z h eb "com/example/modwright/modwright/script/Directive" "name" "Ljava/lang/String;" .null := D12 (Or.inr (oW hw 92 rfl)) (ty := (.object "java/lang/String")) (by decide)
      have F_line_eb : Fld Z h eb "com/example/modwright/modwright/script/Directive" "line" "I" (.int (0 : Int32)) := D12 (Or.inr (oW hw 94 rfl)) (ty := .int) (by decide)
      have F_arguments_eb : Fld Z h eb "com/example/modwright/modwright/script/Directive" "arguments" "Ljava/util/List;" .null := D12 (Or.inr (oW hw 96 rfl)) (ty := (.object "java/util/List")) (by decide)
      have F_block_eb : Fld Z h eb "com/example/modwright/modwright/script/Directive" "block" "Ljava/util/List;" .null := D12 (Or.inr (oW hw 98 rfl)) (ty := (.object "java/util/List")) (by decide)
      refine oWk.st (fun _ kt => XS.dup X.here hx rfl (hb hby at_102) rfl rfl (XS.aload X.here hx rfl (hb hby at_103) rfl rfl (XS.iloadN X.here hx rfl (hb hby at_105) rfl (XS.aload X.here hx rfl (hb hby at_106) rfl rfl kt)))) ?_
      obtain ⟨a3, g13⟩ : ∃ z, z = h.size := ⟨_, rfl⟩
      have V_xd := (V_xd.ext E12)
      have ne_xd_a3 : xd ≠ a3 := Nat.ne_of_lt (Nat.lt_of_lt_of_le V_xd.lt (Nat.le_of_eq g13.symm))
      have E_nm := (E_nm.ext E12)
      have ne_nm_a3 : nm ≠ a3 := Nat.ne_of_lt (Nat.lt_of_lt_of_le E_nm.lt (Nat.le_of_eq g13.symm))
      have V_nmb := (V_nmb.ext E12)
      have ne_nmb_a3 : nmb ≠ a3 := Nat.ne_of_lt (Nat.lt_of_lt_of_le V_nmb.lt (Nat.le_of_eq g13.symm))
      have E_al := (E_al.ext E12)
      have ne_al_a3 : al ≠ a3 := Nat.ne_of_lt (Nat.lt_of_lt_of_le E_al.lt (Nat.le_of_eq g13.symm))
      have E_leaf := (E_leaf.ext E12)
      have ne_leaf_a3 : leaf ≠ a3 := Nat.ne_of_lt (Nat.lt_of_lt_of_le E_leaf.lt (Nat.le_of_eq g13.symm))
      have E_a2 := (E_a2.ext E12)
      have ne_a2_a3 : a2 ≠ a3 := Nat.ne_of_lt (Nat.lt_of_lt_of_le E_a2.lt (Nat.le_of_eq g13.symm))
      have ne_eb_a3 : eb ≠ a3 := Nat.ne_of_lt (Nat.lt_of_lt_of_le E_eb.lt (Nat.le_of_eq g13.symm))
      have ge_a3 : h0.size ≤ a3 := Nat.le_trans K.le (Nat.le_of_eq g13.symm)
      obtain ⟨T, h, X, e0, E13, A13, D13, -, st⟩ := newO X hx hZ hown (oW hw 26 rfl) (oW hw 27 rfl) (oW hw 28 rfl) e0 (g := (mkF m 108 #[iv p0, iv p1, iv p2, iv p3, iv wb, iv nn, iv 0, rv nm, rv al, rv leaf, uu, uu, uu, uu, uu, uu] [(.ref al), (.int p1), (.ref nm), (.ref eb), (.ref eb)])) rfl (hb hby at_108) (by decide) (by decide)
      rw [← g13] at A13 D13 st
      refine oWk.st st ?_
      have K := K.ext E13
      have E_a3 := A13
      have F_modCount_a3 : Fld Z h a3 "java/util/AbstractList" "modCount" "I" (.int (0 : Int32)) := D13 (Or.inl (oW hw 46 rfl)) (ty := .int) (by decide)
      have F_elementData_a3 : Fld Z h a3 "java/util/ArrayList" "elementData" "[Ljava/lang/Object;" .null := D13 (Or.inl (oW hw 49 rfl)) (ty := (.array (.object "java/lang/Object"))) (by decide)
      have F_size_a3 : Fld Z h a3 "java/util/ArrayList" "size" "I" (.int (0 : Int32)) := D13 (Or.inl (oW hw 86 rfl)) (ty := .int) (by decide)
      refine oWk.st (fun _ kt => XS.dup X.here hx rfl (hb hby at_111) rfl rfl kt) ?_
      have Oh := K.old O0 all0
      obtain ⟨_, _, ⟨T, L15, k15, n15⟩, -, X, ⟨Lc15, hQ, l15, y15, z15⟩, st⟩ := X.specialBack hx (y := yy10) rfl hown (mvT hZ (oW hw 29 rfl)) (mvT hZ (oW hw 30 rfl)) (mvT hZ (oW hw 31 rfl)) (by decide) (backOf (W := 6) (rAL l Z a0 hw [] a3 xd (.int (0 : Int32)) .null h Oh S_DEFAULTCAPACITY_EMPTY_ELEMENTDATA (Nat.le_trans O0.1 ge_a3) E_a3 F_elementData_a3 F_size_a3 F_modCount_a3) hZ (oW hw 31 rfl) (oW hw 28 rfl) (by decide) (by decide)) (g := (mkF m 112 #[iv p0, iv p1, iv p2, iv p3, iv wb, iv nn, iv 0, rv nm, rv al, rv leaf, uu, uu, uu, uu, uu, uu] [(.ref a3), (.ref a3), (.ref al), (.int p1), (.ref nm), (.ref eb), (.ref eb)])) rfl (by rw [hml]; rfl) (Steps.refl _) (a := a3) (argsL := []) (rest := [(.ref a3), (.ref al), (.int p1), (.ref nm), (.ref eb), (.ref eb)]) (lenOf pd_3 rfl) rfl (Nat.le_of_eq rfl) (hb hby at_112) (fun _ _ => ⟨rfl, e0, (by decide : 7 + 0 ≤ _), (by decide : 22 + 0 ≤ _)⟩)
      dsimp only [Pt.U, Pt.locs, Pt.cells, Pt.slots] at X l15 y15 z15 st hQ
      subst l15 y15 z15
      obtain ⟨h, e0⟩ : ∃ z, T.heap = z := ⟨_, rfl⟩
      rw [e0] at hQ
      obtain ⟨rfl, K14, E_a3, F_elementData_a3, F_size_a3, F_modCount_a3⟩ := hQ
      have K := K.call K14 (allS (Or.inr ge_a3) all0)
      refine oWk.tr st ?_
      have E_eb := ((E_eb.ext E13).keep K14.1)
      have F_name_eb := ((F_name_eb.ext E13).keep K14.1 (ninS ne_eb_a3 nin0))
      have F_line_eb := ((F_line_eb.ext E13).keep K14.1 (ninS ne_eb_a3 nin0))
      have F_arguments_eb := ((F_arguments_eb.ext E13).keep K14.1 (ninS ne_eb_a3 nin0))
      have F_block_eb := ((F_block_eb.ext E13).keep K14.1 (ninS ne_eb_a3 nin0))
      have E_al := ((E_al.ext E13).keep K14.1)
      have F_size_al := (((((((F_size_al.ext E6).ext E7).keep K8.1 (ninS ne_al_a2 nin0)).keep K10.1 (ninS ne_al_leaf nin0)).ext E12).ext E13).keep K14.1 (ninS ne_al_a3 nin0))
      have Oh := K.old O0 all0
      obtain ⟨_, _, ⟨T, L17, k17, n17⟩, -, X, ⟨Lc17, hQ, l17, y17, z17⟩, st⟩ := X.specialBack hx (y := yy16) rfl hown (mvT hZ (oW hw 53 rfl)) (mvT hZ (oW hw 54 rfl)) (mvT hZ (oW hw 55 rfl)) (by decide) (backOf (W := 1) (rDI_0_0 l Z a0 hw [] eb nm p1 .null (.int (0 : Int32)) .null .null al a3 xl h Oh S_EMPTY_LIST (Nat.le_trans O0.1 ge_eb) E_eb F_name_eb F_line_eb F_arguments_eb F_block_eb E_al F_size_al E_a3 F_size_a3) hZ (oW hw 55 rfl) (oW hw 52 rfl) (by decide) (by decide)) (g := (mkF m 115 #[iv p0, iv p1, iv p2, iv p3, iv wb, iv nn, iv 0, rv nm, rv al, rv leaf, uu, uu, uu, uu, uu, uu] [(.ref a3), (.ref al), (.int p1), (.ref nm), (.ref eb), (.ref eb)])) rfl (by rw [hml]; rfl) (Steps.refl _) (a := eb) (argsL := [(.ref nm), (.int p1), (.ref al), (.ref a3)]) (rest := [(.ref eb)]) (lenOf pd_8 rfl) rfl (Nat.le_of_eq rfl) (hb hby at_115) (fun _ _ => ⟨rfl, e0, (by decide : 7 + 0 ≤ _), (by decide : 22 + 0 ≤ _)⟩)
      dsimp only [Pt.U, Pt.locs, Pt.cells, Pt.slots] at X l17 y17 z17 st hQ
      subst l17 y17 z17
      obtain ⟨h, e0⟩ : ∃ z, T.heap = z := ⟨_, rfl⟩
      rw [e0] at hQ
      obtain ⟨rfl, K16, E_eb, F_block_eb⟩ := hQ
      have K := K.call K16 (allS (Or.inr ge_eb) all0)
      refine oWk.tr st ?_
      refine oWk.st (fun _ kt => XS.astore X.here hx rfl (hb hby at_118) rfl rfl (l' := #[iv p0, iv p1, iv p2, iv p3, iv wb, iv nn, iv 0, rv nm, rv al, rv leaf, rv eb, uu, uu, uu, uu, uu]) rfl kt) ?_
      obtain ⟨ks, g18⟩ : ∃ z, z = h.size := ⟨_, rfl⟩
      have V_xd := (((V_xd.ext E13).keep K14.1 (ninS ne_xd_a3 nin0)).keep K16.1 (ninS ne_xd_eb nin0))
      have ne_xd_ks : xd ≠ ks := Nat.ne_of_lt (Nat.lt_of_lt_of_le V_xd.lt (Nat.le_of_eq g18.symm))
      have E_nm := (((E_nm.ext E13).keep K14.1).keep K16.1)
      have ne_nm_ks : nm ≠ ks := Nat.ne_of_lt (Nat.lt_of_lt_of_le E_nm.lt (Nat.le_of_eq g18.symm))
      have V_nmb := (((V_nmb.ext E13).keep K14.1 (ninS ne_nmb_a3 nin0)).keep K16.1 (ninS ne_nmb_eb nin0))
      have ne_nmb_ks : nmb ≠ ks := Nat.ne_of_lt (Nat.lt_of_lt_of_le V_nmb.lt (Nat.le_of_eq g18.symm))
      have E_al := (E_al.keep K16.1)
      have ne_al_ks : al ≠ ks := Nat.ne_of_lt (Nat.lt_of_lt_of_le E_al.lt (Nat.le_of_eq g18.symm))
      have E_leaf := (((E_leaf.ext E13).keep K14.1).keep K16.1)
      have ne_leaf_ks : leaf ≠ ks := Nat.ne_of_lt (Nat.lt_of_lt_of_le E_leaf.lt (Nat.le_of_eq g18.symm))
      have E_a2 := (((E_a2.ext E13).keep K14.1).keep K16.1)
      have ne_a2_ks : a2 ≠ ks := Nat.ne_of_lt (Nat.lt_of_lt_of_le E_a2.lt (Nat.le_of_eq g18.symm))
      have ne_eb_ks : eb ≠ ks := Nat.ne_of_lt (Nat.lt_of_lt_of_le E_eb.lt (Nat.le_of_eq g18.symm))
      have E_a3 := (E_a3.keep K16.1)
      have ne_a3_ks : a3 ≠ ks := Nat.ne_of_lt (Nat.lt_of_lt_of_le E_a3.lt (Nat.le_of_eq g18.symm))
      have ge_ks : h0.size ≤ ks := Nat.le_trans K.le (Nat.le_of_eq g18.symm)
      obtain ⟨T, h, X, e0, E18, A18, D18, -, st⟩ := newO X hx hZ hown (oW hw 26 rfl) (oW hw 27 rfl) (oW hw 28 rfl) e0 (g := (mkF m 120 #[iv p0, iv p1, iv p2, iv p3, iv wb, iv nn, iv 0, rv nm, rv al, rv leaf, rv eb, uu, uu, uu, uu, uu] [])) rfl (hb hby at_120) (by decide) (by decide)
      rw [← g18] at A18 D18 st
      refine oWk.st st ?_
      have K := K.ext E18
      have E_ks := A18
      have F_modCount_ks : Fld Z h ks "java/util/AbstractList" "modCount" "I" (.int (0 : Int32)) := D18 (Or.inl (oW hw 46 rfl)) (ty := .int) (by decide)
      have F_elementData_ks : Fld Z h ks "java/util/ArrayList" "elementData" "[Ljava/lang/Object;" .null := D18 (Or.inl (oW hw 49 rfl)) (ty := (.array (.object "java/lang/Object"))) (by decide)
      have F_size_ks : Fld Z h ks "java/util/ArrayList" "size" "I" (.int (0 : Int32)) := D18 (Or.inl (oW hw 86 rfl)) (ty := .int) (by decide)
      refine oWk.st (fun _ kt => XS.dup X.here hx rfl (hb hby at_123) rfl rfl kt) ?_
      have Oh := K.old O0 all0
      obtain ⟨_, _, ⟨T, L20, k20, n20⟩, -, X, ⟨Lc20, hQ, l20, y20, z20⟩, st⟩ := X.specialBack hx (y := yy10) rfl hown (mvT hZ (oW hw 29 rfl)) (mvT hZ (oW hw 30 rfl)) (mvT hZ (oW hw 31 rfl)) (by decide) (backOf (W := 1) (rAL l Z a0 hw [] ks xd (.int (0 : Int32)) .null h Oh S_DEFAULTCAPACITY_EMPTY_ELEMENTDATA (Nat.le_trans O0.1 ge_ks) E_ks F_elementData_ks F_size_ks F_modCount_ks) hZ (oW hw 31 rfl) (oW hw 28 rfl) (by decide) (by decide)) (g := (mkF m 124 #[iv p0, iv p1, iv p2, iv p3, iv wb, iv nn, iv 0, rv nm, rv al, rv leaf, rv eb, uu, uu, uu, uu, uu] [(.ref ks), (.ref ks)])) rfl (by rw [hml]; rfl) (Steps.refl _) (a := ks) (argsL := []) (rest := [(.ref ks)]) (lenOf pd_3 rfl) rfl (Nat.le_of_eq rfl) (hb hby at_124) (fun _ _ => ⟨rfl, e0, (by decide : 8 + 0 ≤ _), (by decide : 25 + 0 ≤ _)⟩)
      dsimp only [Pt.U, Pt.locs, Pt.cells, Pt.slots] at X l20 y20 z20 st hQ
      subst l20 y20 z20
      obtain ⟨h, e0⟩ : ∃ z, T.heap = z := ⟨_, rfl⟩
      rw [e0] at hQ
      obtain ⟨rfl, K19, E_ks, F_elementData_ks, F_size_ks, F_modCount_ks⟩ := hQ
      have K := K.call K19 (allS (Or.inr ge_ks) all0)
      refine oWk.tr st ?_
      refine oWk.st (fun _ kt => XS.astore X.here hx rfl (hb hby at_127) rfl rfl (l' := #[iv p0, iv p1, iv p2, iv p3, iv wb, iv nn, iv 0, rv nm, rv al, rv leaf, rv eb, rv ks, uu, uu, uu, uu]) rfl kt) ?_
      show oWk _ _ _ _ T (mkF m 129 #[iv p0, iv p1, iv p2, iv p3, iv wb, iv nn, iv 0, rv nm, rv al, rv leaf, rv eb, rv ks, uu, uu, uu, uu] [])
      rcases cn with rfl | rfl | rfl | rfl
      · show oWk _ _ _ _ T (mkF m 129 #[iv p0, iv p1, iv p2, iv p3, iv wb, iv 0, iv 0, rv nm, rv al, rv leaf, rv eb, rv ks, uu, uu, uu, uu] [])
        refine oWk.st (fun _ kt => XS.iload X.here hx rfl (hb hby at_129) rfl (XS.iconst X.here hx rfl (hb hby at_131) (XS.icmpYes X.here hx rfl (pc0 := 132) (pc' := 143) rfl (hb hby at_132) rfl (tlt (by decide)).1 (by decide) (by decide) (XS.iload X.here hx rfl (hb hby at_143) rfl (XS.iconst X.here hx rfl (hb hby at_145) (XS.icmpYes X.here hx rfl (pc0 := 146) (pc' := 157) rfl (hb hby at_146) rfl (tlt (by decide)).1 (by decide) (by decide) (XS.iload X.here hx rfl (hb hby at_157) rfl (XS.iconst X.here hx rfl (hb hby at_159) kt)))))))) ?_
        show oWk _ _ _ _ T (mkF m 160 #[iv p0, iv p1, iv p2, iv p3, iv wb, iv 0, iv 0, rv nm, rv al, rv leaf, rv eb, rv ks, uu, uu, uu, uu] [(.int 3), (.int 0)])
        refine oWk.st (fun _ kt => XS.icmpYes X.here hx rfl (pc0 := 160) (pc' := 171) rfl (hb hby at_160) rfl (tlt (by decide)).1 (by decide) (by decide) kt) ?_
        obtain ⟨dd, g21⟩ : ∃ z, z = h.size := ⟨_, rfl⟩
        have V_xd := ((V_xd.ext E18).keep K19.1 (ninS ne_xd_ks nin0))
        have ne_xd_dd : xd ≠ dd := Nat.ne_of_lt (Nat.lt_of_lt_of_le V_xd.lt (Nat.le_of_eq g21.symm))
        have E_nm := ((E_nm.ext E18).keep K19.1)
        have ne_nm_dd : nm ≠ dd := Nat.ne_of_lt (Nat.lt_of_lt_of_le E_nm.lt (Nat.le_of_eq g21.symm))
        have V_nmb := ((V_nmb.ext E18).keep K19.1 (ninS ne_nmb_ks nin0))
        have ne_nmb_dd : nmb ≠ dd := Nat.ne_of_lt (Nat.lt_of_lt_of_le V_nmb.lt (Nat.le_of_eq g21.symm))
        have E_al := ((E_al.ext E18).keep K19.1)
        have ne_al_dd : al ≠ dd := Nat.ne_of_lt (Nat.lt_of_lt_of_le E_al.lt (Nat.le_of_eq g21.symm))
        have E_leaf := ((E_leaf.ext E18).keep K19.1)
        have ne_leaf_dd : leaf ≠ dd := Nat.ne_of_lt (Nat.lt_of_lt_of_le E_leaf.lt (Nat.le_of_eq g21.symm))
        have E_a2 := ((E_a2.ext E18).keep K19.1)
        have ne_a2_dd : a2 ≠ dd := Nat.ne_of_lt (Nat.lt_of_lt_of_le E_a2.lt (Nat.le_of_eq g21.symm))
        have E_eb := ((E_eb.ext E18).keep K19.1)
        have ne_eb_dd : eb ≠ dd := Nat.ne_of_lt (Nat.lt_of_lt_of_le E_eb.lt (Nat.le_of_eq g21.symm))
        have E_a3 := ((E_a3.ext E18).keep K19.1)
        have ne_a3_dd : a3 ≠ dd := Nat.ne_of_lt (Nat.lt_of_lt_of_le E_a3.lt (Nat.le_of_eq g21.symm))
        have ne_ks_dd : ks ≠ dd := Nat.ne_of_lt (Nat.lt_of_lt_of_le E_ks.lt (Nat.le_of_eq g21.symm))
        have ge_dd : h0.size ≤ dd := Nat.le_trans K.le (Nat.le_of_eq g21.symm)
        obtain ⟨T, h, X, e0, E21, A21, D21, -, st⟩ := newO X hx hZ hown (oW hw 50 rfl) (oW hw 51 rfl) (oW hw 52 rfl) e0 (g := (mkF m 171 #[iv p0, iv p1, iv p2, iv p3, iv wb, iv 0, iv 0, rv nm, rv al, rv leaf, rv eb, rv ks, uu, uu, uu, uu] [])) rfl (hb hby at_171) (by decide) (by decide)
        rw [← g21] at A21 D21 st
        refine oWk.st st ?_
        have K := K.ext E21
        have E_dd := A21
        have F_name_dd : Fld Z h dd "com/example/modwright/modwright/script/Directive" "name" "Ljava/lang/String;" .null := D21 (Or.inr (oW hw 92 rfl)) (ty := (.object "java/lang/String")) (by decide)
        have F_line_dd : Fld Z h dd "com/example/modwright/modwright/script/Directive" "line" "I" (.int (0 : Int32)) := D21 (Or.inr (oW hw 94 rfl)) (ty := .int) (by decide)
        have F_arguments_dd : Fld Z h dd "com/example/modwright/modwright/script/Directive" "arguments" "Ljava/util/List;" .null := D21 (Or.inr (oW hw 96 rfl)) (ty := (.object "java/util/List")) (by decide)
        have F_block_dd : Fld Z h dd "com/example/modwright/modwright/script/Directive" "block" "Ljava/util/List;" .null := D21 (Or.inr (oW hw 98 rfl)) (ty := (.object "java/util/List")) (by decide)
        refine oWk.st (fun _ kt => XS.dup X.here hx rfl (hb hby at_174) rfl rfl (XS.aload X.here hx rfl (hb hby at_175) rfl rfl (XS.iloadN X.here hx rfl (hb hby at_177) rfl (XS.aload X.here hx rfl (hb hby at_178) rfl rfl kt)))) ?_
        show oWk _ _ _ _ T (mkF m 180 #[iv p0, iv p1, iv p2, iv p3, iv wb, iv 0, iv 0, rv nm, rv al, rv leaf, rv eb, rv ks, uu, uu, uu, uu] [(.ref al), (.int p1), (.ref nm), (.ref dd), (.ref dd)])
        rcases hwb with rfl | rfl
        · show oWk _ _ _ _ T (mkF m 180 #[iv p0, iv p1, iv p2, iv p3, iv 0, iv 0, iv 0, rv nm, rv al, rv leaf, rv eb, rv ks, uu, uu, uu, uu] [(.ref al), (.int p1), (.ref nm), (.ref dd), (.ref dd)])
          refine oWk.st (fun _ kt => XS.iload X.here hx rfl (hb hby at_180) rfl (XS.ifYes X.here hx rfl (pc0 := 182) (pc' := 190) rfl (hb hby at_182) rfl ((if0 _ _).trans (teq (by decide)).1) (by decide) (by decide) (XS.aconstNull X.here hx rfl (hb hby at_190) kt))) ?_
          have E_al := (E_al.ext E21)
          have F_size_al := ((((F_size_al.keep K16.1 (ninS ne_al_eb nin0)).ext E18).keep K19.1 (ninS ne_al_ks nin0)).ext E21)
          have Oh := K.old O0 all0
          obtain ⟨_, _, ⟨T, L23, k23, n23⟩, -, X, ⟨Lc23, hQ, l23, y23, z23⟩, st⟩ := X.specialBack hx (y := yy16) rfl hown (mvT hZ (oW hw 53 rfl)) (mvT hZ (oW hw 54 rfl)) (mvT hZ (oW hw 55 rfl)) (by decide) (backOf (W := 1) (rDI_0_N l Z a0 hw [] dd nm p1 .null (.int (0 : Int32)) .null .null al xl h Oh S_EMPTY_LIST (Nat.le_trans O0.1 ge_dd) E_dd F_name_dd F_line_dd F_arguments_dd F_block_dd E_al F_size_al) hZ (oW hw 55 rfl) (oW hw 52 rfl) (by decide) (by decide)) (g := (mkF m 191 #[iv p0, iv p1, iv p2, iv p3, iv 0, iv 0, iv 0, rv nm, rv al, rv leaf, rv eb, rv ks, uu, uu, uu, uu] [.null, (.ref al), (.int p1), (.ref nm), (.ref dd), (.ref dd)])) rfl (by rw [hml]; rfl) (Steps.refl _) (a := dd) (argsL := [(.ref nm), (.int p1), (.ref al), .null]) (rest := [(.ref dd)]) (lenOf pd_8 rfl) rfl (Nat.le_of_eq rfl) (hb hby at_191) (fun _ _ => ⟨rfl, e0, (by decide : 9 + 0 ≤ _), (by decide : 29 + 0 ≤ _)⟩)
          dsimp only [Pt.U, Pt.locs, Pt.cells, Pt.slots] at X l23 y23 z23 st hQ
          subst l23 y23 z23
          obtain ⟨h, e0⟩ : ∃ z, T.heap = z := ⟨_, rfl⟩
          rw [e0] at hQ
          obtain ⟨rfl, K22, E_dd, F_block_dd⟩ := hQ
          have K := K.call K22 (allS (Or.inr ge_dd) all0)
          refine oWk.tr st ?_
          refine oWk.st (fun _ kt => XS.astore X.here hx rfl (hb hby at_194) rfl rfl (l' := #[iv p0, iv p1, iv p2, iv p3, iv 0, iv 0, iv 0, rv nm, rv al, rv leaf, rv eb, rv ks, rv dd, uu, uu, uu]) rfl (XS.aload X.here hx rfl (hb hby at_196) rfl rfl kt)) ?_
          have Oh := K.old O0 all0
          obtain ⟨cq25, kq25, q25a, q25b, q25c⟩ := isOf hZ e0 E_dd
          obtain ⟨_, _, ⟨T, L25, k25, n25⟩, -, X, ⟨Lc25, hQ, l25, y25, z25⟩, st⟩ := X.virtualBack hx (y := yy6) (z := yy6) hown (mvT hZ (oW hw 128 rfl)) (mvT hZ (oW hw 129 rfl)) (notFace_of_selects (args := #[]) (mvT hZ (oW hw 131 rfl))) (mvT hZ (oW hw 131 rfl)) (mvT hZ (oW hw 130 rfl)) (by decide) (backOf (W := 0) (rHB0 l Z a0 hw [] dd h Oh F_block_dd) hZ (oW hw 132 rfl) (oW hw 52 rfl) (by decide) (by decide)) q25a q25c (g := (mkF m 198 #[iv p0, iv p1, iv p2, iv p3, iv 0, iv 0, iv 0, rv nm, rv al, rv leaf, rv eb, rv ks, rv dd, uu, uu, uu] [(.ref dd)])) rfl (by rw [hml]; rfl) (Steps.refl _) (argsL := []) (rest := []) (lenOf pd_5 rfl) rfl (Nat.le_of_eq rfl) (hb hby at_198) (fun _ _ => ⟨rfl, e0, (by decide : 9 + 0 ≤ _), (by decide : 29 + 0 ≤ _)⟩)
          dsimp only [Pt.U, Pt.locs, Pt.cells, Pt.slots] at X l25 y25 z25 st hQ
          subst l25 y25 z25
          obtain ⟨rfl, e0, K24⟩ := hQ
          have K := K.call K24 all0
          rw [e0] at K
          refine oWk.tr st ?_
          refine oWk.st (fun _ kt => XS.istore X.here hx rfl (hb hby at_201) rfl (l' := #[iv p0, iv p1, iv p2, iv p3, iv 0, iv 0, iv 0, rv nm, rv al, rv leaf, rv eb, rv ks, rv dd, iv 0, uu, uu]) rfl (XS.aload X.here hx rfl (hb hby at_203) rfl rfl kt)) ?_
          have F_block_leaf := ((((((((F_block_leaf.ext E12).ext E13).keep K14.1 (ninS ne_leaf_a3 nin0)).keep K16.1 (ninS ne_leaf_eb nin0)).ext E18).keep K19.1 (ninS ne_leaf_ks nin0)).ext E21).keep K22.1 (ninS ne_leaf_dd nin0))
          have Oh := K.old O0 all0
          have E_leaf := ((E_leaf.ext E21).keep K22.1)
          obtain ⟨cq27, kq27, q27a, q27b, q27c⟩ := isOf hZ e0 E_leaf
          obtain ⟨_, _, ⟨T, L27, k27, n27⟩, -, X, ⟨Lc27, hQ, l27, y27, z27⟩, st⟩ := X.virtualBack hx (y := yy6) (z := yy6) hown (mvT hZ (oW hw 128 rfl)) (mvT hZ (oW hw 129 rfl)) (notFace_of_selects (args := #[]) (mvT hZ (oW hw 131 rfl))) (mvT hZ (oW hw 131 rfl)) (mvT hZ (oW hw 130 rfl)) (by decide) (backOf (W := 0) (rHB0 l Z a0 hw [] leaf h Oh F_block_leaf) hZ (oW hw 132 rfl) (oW hw 52 rfl) (by decide) (by decide)) q27a q27c (g := (mkF m 205 #[iv p0, iv p1, iv p2, iv p3, iv 0, iv 0, iv 0, rv nm, rv al, rv leaf, rv eb, rv ks, rv dd, iv 0, uu, uu] [(.ref leaf)])) rfl (by rw [hml]; rfl) (Steps.refl _) (argsL := []) (rest := []) (lenOf pd_5 rfl) rfl (Nat.le_of_eq rfl) (hb hby at_205) (fun _ _ => ⟨rfl, e0, (by decide : 9 + 0 ≤ _), (by decide : 29 + 0 ≤ _)⟩)
          dsimp only [Pt.U, Pt.locs, Pt.cells, Pt.slots] at X l27 y27 z27 st hQ
          subst l27 y27 z27
          obtain ⟨rfl, e0, K26⟩ := hQ
          have K := K.call K26 all0
          rw [e0] at K
          refine oWk.tr st ?_
          refine oWk.st (fun _ kt => XS.istore X.here hx rfl (hb hby at_208) rfl (l' := #[iv p0, iv p1, iv p2, iv p3, iv 0, iv 0, iv 0, rv nm, rv al, rv leaf, rv eb, rv ks, rv dd, iv 0, iv 0, uu]) rfl (XS.aload X.here hx rfl (hb hby at_210) rfl rfl kt)) ?_
          have F_block_eb := ((((F_block_eb.ext E18).keep K19.1 (ninS ne_eb_ks nin0)).ext E21).keep K22.1 (ninS ne_eb_dd nin0))
          have Oh := K.old O0 all0
          have E_eb := ((E_eb.ext E21).keep K22.1)
          obtain ⟨cq29, kq29, q29a, q29b, q29c⟩ := isOf hZ e0 E_eb
          obtain ⟨_, _, ⟨T, L29, k29, n29⟩, -, X, ⟨Lc29, hQ, l29, y29, z29⟩, st⟩ := X.virtualBack hx (y := yy6) (z := yy6) hown (mvT hZ (oW hw 128 rfl)) (mvT hZ (oW hw 129 rfl)) (notFace_of_selects (args := #[]) (mvT hZ (oW hw 131 rfl))) (mvT hZ (oW hw 131 rfl)) (mvT hZ (oW hw 130 rfl)) (by decide) (backOf (W := 0) (rHB1 l Z a0 hw [] eb xl h Oh F_block_eb) hZ (oW hw 132 rfl) (oW hw 52 rfl) (by decide) (by decide)) q29a q29c (g := (mkF m 212 #[iv p0, iv p1, iv p2, iv p3, iv 0, iv 0, iv 0, rv nm, rv al, rv leaf, rv eb, rv ks, rv dd, iv 0, iv 0, uu] [(.ref eb)])) rfl (by rw [hml]; rfl) (Steps.refl _) (argsL := []) (rest := []) (lenOf pd_5 rfl) rfl (Nat.le_of_eq rfl) (hb hby at_212) (fun _ _ => ⟨rfl, e0, (by decide : 9 + 0 ≤ _), (by decide : 29 + 0 ≤ _)⟩)
          dsimp only [Pt.U, Pt.locs, Pt.cells, Pt.slots] at X l29 y29 z29 st hQ
          subst l29 y29 z29
          obtain ⟨rfl, e0, K28⟩ := hQ
          have K := K.call K28 all0
          rw [e0] at K
          refine oWk.tr st ?_
          refine oWk.st (fun _ kt => XS.istore X.here hx rfl (hb hby at_215) rfl (l' := #[iv p0, iv p1, iv p2, iv p3, iv 0, iv 0, iv 0, rv nm, rv al, rv leaf, rv eb, rv ks, rv dd, iv 0, iv 0, iv 1]) rfl (XS.iload X.here hx rfl (hb hby at_217) rfl (XS.iload X.here hx rfl (hb hby at_219) rfl (XS.icmpNo X.here hx rfl (hb hby at_221) rfl (teq (by decide)).2 (XS.iload X.here hx rfl (hb hby at_224) rfl (XS.aload X.here hx rfl (hb hby at_226) rfl rfl kt)))))) ?_
          have Oh := K.old O0 all0
          obtain ⟨cq31, kq31, q31a, q31b, q31c⟩ := isOf hZ e0 E_dd
          obtain ⟨_, _, ⟨T, L31, k31, n31⟩, -, X, ⟨Lc31, hQ, l31, y31, z31⟩, st⟩ := X.virtualBack hx (y := yy7) (z := yy7) hown (mvT hZ (oW hw 133 rfl)) (mvT hZ (oW hw 134 rfl)) (notFace_of_selects (args := #[]) (mvT hZ (oW hw 136 rfl))) (mvT hZ (oW hw 136 rfl)) (mvT hZ (oW hw 135 rfl)) (by decide) (backOf (W := 1) (rBL0 l Z a0 hw [] dd h Oh F_block_dd) hZ (oW hw 137 rfl) (oW hw 52 rfl) (by decide) (by decide)) q31a q31c (g := (mkF m 228 #[iv p0, iv p1, iv p2, iv p3, iv 0, iv 0, iv 0, rv nm, rv al, rv leaf, rv eb, rv ks, rv dd, iv 0, iv 0, iv 1] [(.ref dd), (.int 0)])) rfl (by rw [hml]; rfl) (Steps.refl _) (argsL := []) (rest := [(.int (0 : Int32))]) (lenOf pd_6 rfl) rfl (Nat.le_of_eq rfl) (hb hby at_228) (fun _ _ => ⟨rfl, e0, (by decide : 9 + 0 ≤ _), (by decide : 29 + 0 ≤ _)⟩)
          dsimp only [Pt.U, Pt.locs, Pt.cells, Pt.slots] at X l31 y31 z31 st hQ
          subst l31 y31 z31
          obtain ⟨rfl, e0, K30⟩ := hQ
          have K := K.call K30 all0
          rw [e0] at K
          refine oWk.tr st ?_
          refine oWk.st (fun _ kt => XS.ifnullYes X.here hx rfl (pc0 := 231) (pc' := 238) rfl (hb hby at_231) rfl (by decide) (by decide) (XS.iconst X.here hx rfl (hb hby at_238) (XS.icmpNo X.here hx rfl (hb hby at_239) rfl (teq (by decide)).2 (XS.iload X.here hx rfl (hb hby at_242) rfl (XS.ifNo X.here hx rfl (hb hby at_244) rfl ((if0 _ _).trans (teq (by decide)).2) (XS.iload X.here hx rfl (hb hby at_247) rfl (XS.ifNo X.here hx rfl (hb hby at_249) rfl ((if0 _ _).trans (feq (by decide)).1) (XS.iconst X.here hx rfl (hb hby at_252) kt)))))))) ?_
          show oWk _ _ _ _ T (mkF m 253 #[iv p0, iv p1, iv p2, iv p3, iv 0, iv 0, iv 0, rv nm, rv al, rv leaf, rv eb, rv ks, rv dd, iv 0, iv 0, iv 1] [(.int 1)])
          refine oWk.st (fun _ kt => XS.goto X.here hx rfl (pc0 := 253) (pc' := 257) rfl (hb hby at_253) (by decide) (by decide) kt) ?_
          show oWk _ _ _ _ T (mkF m 257 #[iv p0, iv p1, iv p2, iv p3, iv 0, iv 0, iv 0, rv nm, rv al, rv leaf, rv eb, rv ks, rv dd, iv 0, iv 0, iv 1] [(.int 1)])
          exact oRetZ X hx hlk hret (hb hby at_257) (Or.inr rfl) (by rw [e0]; exact ⟨rfl, K.fr⟩) (by decide) (by decide)
        · show oWk _ _ _ _ T (mkF m 180 #[iv p0, iv p1, iv p2, iv p3, iv 1, iv 0, iv 0, rv nm, rv al, rv leaf, rv eb, rv ks, uu, uu, uu, uu] [(.ref al), (.int p1), (.ref nm), (.ref dd), (.ref dd)])
          refine oWk.st (fun _ kt => XS.iload X.here hx rfl (hb hby at_180) rfl (XS.ifNo X.here hx rfl (hb hby at_182) rfl ((if0 _ _).trans (feq (by decide)).1) (XS.aload X.here hx rfl (hb hby at_185) rfl rfl (XS.goto X.here hx rfl (pc0 := 187) (pc' := 191) rfl (hb hby at_187) (by decide) (by decide) kt)))) ?_
          have E_al := (E_al.ext E21)
          have F_size_al := ((((F_size_al.keep K16.1 (ninS ne_al_eb nin0)).ext E18).keep K19.1 (ninS ne_al_ks nin0)).ext E21)
          have E_ks := (E_ks.ext E21)
          have F_size_ks := (F_size_ks.ext E21)
          have Oh := K.old O0 all0
          obtain ⟨_, _, ⟨T, L33, k33, n33⟩, -, X, ⟨Lc33, hQ, l33, y33, z33⟩, st⟩ := X.specialBack hx (y := yy16) rfl hown (mvT hZ (oW hw 53 rfl)) (mvT hZ (oW hw 54 rfl)) (mvT hZ (oW hw 55 rfl)) (by decide) (backOf (W := 1) (rDI_0_0 l Z a0 hw [] dd nm p1 .null (.int (0 : Int32)) .null .null al ks xl h Oh S_EMPTY_LIST (Nat.le_trans O0.1 ge_dd) E_dd F_name_dd F_line_dd F_arguments_dd F_block_dd E_al F_size_al E_ks F_size_ks) hZ (oW hw 55 rfl) (oW hw 52 rfl) (by decide) (by decide)) (g := (mkF m 191 #[iv p0, iv p1, iv p2, iv p3, iv 1, iv 0, iv 0, rv nm, rv al, rv leaf, rv eb, rv ks, uu, uu, uu, uu] [(.ref ks), (.ref al), (.int p1), (.ref nm), (.ref dd), (.ref dd)])) rfl (by rw [hml]; rfl) (Steps.refl _) (a := dd) (argsL := [(.ref nm), (.int p1), (.ref al), (.ref ks)]) (rest := [(.ref dd)]) (lenOf pd_8 rfl) rfl (Nat.le_of_eq rfl) (hb hby at_191) (fun _ _ => ⟨rfl, e0, (by decide : 9 + 0 ≤ _), (by decide : 29 + 0 ≤ _)⟩)
          dsimp only [Pt.U, Pt.locs, Pt.cells, Pt.slots] at X l33 y33 z33 st hQ
          subst l33 y33 z33
          obtain ⟨h, e0⟩ : ∃ z, T.heap = z := ⟨_, rfl⟩
          rw [e0] at hQ
          obtain ⟨rfl, K32, E_dd, F_block_dd⟩ := hQ
          have K := K.call K32 (allS (Or.inr ge_dd) all0)
          refine oWk.tr st ?_
          refine oWk.st (fun _ kt => XS.astore X.here hx rfl (hb hby at_194) rfl rfl (l' := #[iv p0, iv p1, iv p2, iv p3, iv 1, iv 0, iv 0, rv nm, rv al, rv leaf, rv eb, rv ks, rv dd, uu, uu, uu]) rfl (XS.aload X.here hx rfl (hb hby at_196) rfl rfl kt)) ?_
          have Oh := K.old O0 all0
          obtain ⟨cq35, kq35, q35a, q35b, q35c⟩ := isOf hZ e0 E_dd
          obtain ⟨_, _, ⟨T, L35, k35, n35⟩, -, X, ⟨Lc35, hQ, l35, y35, z35⟩, st⟩ := X.virtualBack hx (y := yy6) (z := yy6) hown (mvT hZ (oW hw 128 rfl)) (mvT hZ (oW hw 129 rfl)) (notFace_of_selects (args := #[]) (mvT hZ (oW hw 131 rfl))) (mvT hZ (oW hw 131 rfl)) (mvT hZ (oW hw 130 rfl)) (by decide) (backOf (W := 0) (rHB1 l Z a0 hw [] dd xl h Oh F_block_dd) hZ (oW hw 132 rfl) (oW hw 52 rfl) (by decide) (by decide)) q35a q35c (g := (mkF m 198 #[iv p0, iv p1, iv p2, iv p3, iv 1, iv 0, iv 0, rv nm, rv al, rv leaf, rv eb, rv ks, rv dd, uu, uu, uu] [(.ref dd)])) rfl (by rw [hml]; rfl) (Steps.refl _) (argsL := []) (rest := []) (lenOf pd_5 rfl) rfl (Nat.le_of_eq rfl) (hb hby at_198) (fun _ _ => ⟨rfl, e0, (by decide : 9 + 0 ≤ _), (by decide : 29 + 0 ≤ _)⟩)
          dsimp only [Pt.U, Pt.locs, Pt.cells, Pt.slots] at X l35 y35 z35 st hQ
          subst l35 y35 z35
          obtain ⟨rfl, e0, K34⟩ := hQ
          have K := K.call K34 all0
          rw [e0] at K
          refine oWk.tr st ?_
          refine oWk.st (fun _ kt => XS.istore X.here hx rfl (hb hby at_201) rfl (l' := #[iv p0, iv p1, iv p2, iv p3, iv 1, iv 0, iv 0, rv nm, rv al, rv leaf, rv eb, rv ks, rv dd, iv 1, uu, uu]) rfl (XS.aload X.here hx rfl (hb hby at_203) rfl rfl kt)) ?_
          have F_block_leaf := ((((((((F_block_leaf.ext E12).ext E13).keep K14.1 (ninS ne_leaf_a3 nin0)).keep K16.1 (ninS ne_leaf_eb nin0)).ext E18).keep K19.1 (ninS ne_leaf_ks nin0)).ext E21).keep K32.1 (ninS ne_leaf_dd nin0))
          have Oh := K.old O0 all0
          have E_leaf := ((E_leaf.ext E21).keep K32.1)
          obtain ⟨cq37, kq37, q37a, q37b, q37c⟩ := isOf hZ e0 E_leaf
          obtain ⟨_, _, ⟨T, L37, k37, n37⟩, -, X, ⟨Lc37, hQ, l37, y37, z37⟩, st⟩ := X.virtualBack hx (y := yy6) (z := yy6) hown (mvT hZ (oW hw 128 rfl)) (mvT hZ (oW hw 129 rfl)) (notFace_of_selects (args := #[]) (mvT hZ (oW hw 131 rfl))) (mvT hZ (oW hw 131 rfl)) (mvT hZ (oW hw 130 rfl)) (by decide) (backOf (W := 0) (rHB0 l Z a0 hw [] leaf h Oh F_block_leaf) hZ (oW hw 132 rfl) (oW hw 52 rfl) (by decide) (by decide)) q37a q37c (g := (mkF m 205 #[iv p0, iv p1, iv p2, iv p3, iv 1, iv 0, iv 0, rv nm, rv al, rv leaf, rv eb, rv ks, rv dd, iv 1, uu, uu] [(.ref leaf)])) rfl (by rw [hml]; rfl) (Steps.refl _) (argsL := []) (rest := []) (lenOf pd_5 rfl) rfl (Nat.le_of_eq rfl) (hb hby at_205) (fun _ _ => ⟨rfl, e0, (by decide : 9 + 0 ≤ _), (by decide : 29 + 0 ≤ _)⟩)
          dsimp only [Pt.U, Pt.locs, Pt.cells, Pt.slots] at X l37 y37 z37 st hQ
          subst l37 y37 z37
          obtain ⟨rfl, e0, K36⟩ := hQ
          have K := K.call K36 all0
          rw [e0] at K
          refine oWk.tr st ?_
          refine oWk.st (fun _ kt => XS.istore X.here hx rfl (hb hby at_208) rfl (l' := #[iv p0, iv p1, iv p2, iv p3, iv 1, iv 0, iv 0, rv nm, rv al, rv leaf, rv eb, rv ks, rv dd, iv 1, iv 0, uu]) rfl (XS.aload X.here hx rfl (hb hby at_210) rfl rfl kt)) ?_
          have F_block_eb := ((((F_block_eb.ext E18).keep K19.1 (ninS ne_eb_ks nin0)).ext E21).keep K32.1 (ninS ne_eb_dd nin0))
          have Oh := K.old O0 all0
          have E_eb := ((E_eb.ext E21).keep K32.1)
          obtain ⟨cq39, kq39, q39a, q39b, q39c⟩ := isOf hZ e0 E_eb
          obtain ⟨_, _, ⟨T, L39, k39, n39⟩, -, X, ⟨Lc39, hQ, l39, y39, z39⟩, st⟩ := X.virtualBack hx (y := yy6) (z := yy6) hown (mvT hZ (oW hw 128 rfl)) (mvT hZ (oW hw 129 rfl)) (notFace_of_selects (args := #[]) (mvT hZ (oW hw 131 rfl))) (mvT hZ (oW hw 131 rfl)) (mvT hZ (oW hw 130 rfl)) (by decide) (backOf (W := 0) (rHB1 l Z a0 hw [] eb xl h Oh F_block_eb) hZ (oW hw 132 rfl) (oW hw 52 rfl) (by decide) (by decide)) q39a q39c (g := (mkF m 212 #[iv p0, iv p1, iv p2, iv p3, iv 1, iv 0, iv 0, rv nm, rv al, rv leaf, rv eb, rv ks, rv dd, iv 1, iv 0, uu] [(.ref eb)])) rfl (by rw [hml]; rfl) (Steps.refl _) (argsL := []) (rest := []) (lenOf pd_5 rfl) rfl (Nat.le_of_eq rfl) (hb hby at_212) (fun _ _ => ⟨rfl, e0, (by decide : 9 + 0 ≤ _), (by decide : 29 + 0 ≤ _)⟩)
          dsimp only [Pt.U, Pt.locs, Pt.cells, Pt.slots] at X l39 y39 z39 st hQ
          subst l39 y39 z39
          obtain ⟨rfl, e0, K38⟩ := hQ
          have K := K.call K38 all0
          rw [e0] at K
          refine oWk.tr st ?_
          refine oWk.st (fun _ kt => XS.istore X.here hx rfl (hb hby at_215) rfl (l' := #[iv p0, iv p1, iv p2, iv p3, iv 1, iv 0, iv 0, rv nm, rv al, rv leaf, rv eb, rv ks, rv dd, iv 1, iv 0, iv 1]) rfl (XS.iload X.here hx rfl (hb hby at_217) rfl (XS.iload X.here hx rfl (hb hby at_219) rfl (XS.icmpNo X.here hx rfl (hb hby at_221) rfl (teq (by decide)).2 (XS.iload X.here hx rfl (hb hby at_224) rfl (XS.aload X.here hx rfl (hb hby at_226) rfl rfl kt)))))) ?_
          have Oh := K.old O0 all0
          obtain ⟨cq41, kq41, q41a, q41b, q41c⟩ := isOf hZ e0 E_dd
          obtain ⟨_, _, ⟨T, L41, k41, n41⟩, -, X, ⟨Lc41, hQ, l41, y41, z41⟩, st⟩ := X.virtualBack hx (y := yy7) (z := yy7) hown (mvT hZ (oW hw 133 rfl)) (mvT hZ (oW hw 134 rfl)) (notFace_of_selects (args := #[]) (mvT hZ (oW hw 136 rfl))) (mvT hZ (oW hw 136 rfl)) (mvT hZ (oW hw 135 rfl)) (by decide) (backOf (W := 1) (rBL1 l Z a0 hw [] dd xl h Oh F_block_dd) hZ (oW hw 137 rfl) (oW hw 52 rfl) (by decide) (by decide)) q41a q41c (g := (mkF m 228 #[iv p0, iv p1, iv p2, iv p3, iv 1, iv 0, iv 0, rv nm, rv al, rv leaf, rv eb, rv ks, rv dd, iv 1, iv 0, iv 1] [(.ref dd), (.int 1)])) rfl (by rw [hml]; rfl) (Steps.refl _) (argsL := []) (rest := [(.int (1 : Int32))]) (lenOf pd_6 rfl) rfl (Nat.le_of_eq rfl) (hb hby at_228) (fun _ _ => ⟨rfl, e0, (by decide : 9 + 0 ≤ _), (by decide : 29 + 0 ≤ _)⟩)
          dsimp only [Pt.U, Pt.locs, Pt.cells, Pt.slots] at X l41 y41 z41 st hQ
          subst l41 y41 z41
          obtain ⟨rfl, e0, K40⟩ := hQ
          have K := K.call K40 all0
          rw [e0] at K
          refine oWk.tr st ?_
          refine oWk.st (fun _ kt => XS.ifnullNo X.here hx rfl (hb hby at_231) rfl (XS.iconst X.here hx rfl (hb hby at_234) (XS.goto X.here hx rfl (pc0 := 235) (pc' := 239) rfl (hb hby at_235) (by decide) (by decide) (XS.icmpNo X.here hx rfl (hb hby at_239) rfl (teq (by decide)).2 (XS.iload X.here hx rfl (hb hby at_242) rfl (XS.ifNo X.here hx rfl (hb hby at_244) rfl ((if0 _ _).trans (teq (by decide)).2) (XS.iload X.here hx rfl (hb hby at_247) rfl (XS.ifNo X.here hx rfl (hb hby at_249) rfl ((if0 _ _).trans (feq (by decide)).1) kt)))))))) ?_
          show oWk _ _ _ _ T (mkF m 252 #[iv p0, iv p1, iv p2, iv p3, iv 1, iv 0, iv 0, rv nm, rv al, rv leaf, rv eb, rv ks, rv dd, iv 1, iv 0, iv 1] [])
          refine oWk.st (fun _ kt => XS.iconst X.here hx rfl (hb hby at_252) (XS.goto X.here hx rfl (pc0 := 253) (pc' := 257) rfl (hb hby at_253) (by decide) (by decide) kt)) ?_
          show oWk _ _ _ _ T (mkF m 257 #[iv p0, iv p1, iv p2, iv p3, iv 1, iv 0, iv 0, rv nm, rv al, rv leaf, rv eb, rv ks, rv dd, iv 1, iv 0, iv 1] [(.int 1)])
          exact oRetZ X hx hlk hret (hb hby at_257) (Or.inr rfl) (by rw [e0]; exact ⟨rfl, K.fr⟩) (by decide) (by decide)
      · show oWk _ _ _ _ T (mkF m 129 #[iv p0, iv p1, iv p2, iv p3, iv wb, iv 1, iv 0, rv nm, rv al, rv leaf, rv eb, rv ks, uu, uu, uu, uu] [])
        refine oWk.st (fun _ kt => XS.iload X.here hx rfl (hb hby at_129) rfl (XS.iconst X.here hx rfl (hb hby at_131) (XS.icmpNo X.here hx rfl (hb hby at_132) rfl (flt (by decide)).1 (XS.aload X.here hx rfl (hb hby at_135) rfl rfl (XS.aload X.here hx rfl (hb hby at_137) rfl rfl kt))))) ?_
        have V_xd := ((V_xd.ext E18).keep K19.1 (ninS ne_xd_ks nin0))
        have E_leaf := ((E_leaf.ext E18).keep K19.1)
        have lt_xd := V_xd.lt
        have E_nm := ((E_nm.ext E18).keep K19.1)
        have lt_nm := E_nm.lt
        have V_nmb := ((V_nmb.ext E18).keep K19.1 (ninS ne_nmb_ks nin0))
        have lt_nmb := V_nmb.lt
        have E_al := ((E_al.ext E18).keep K19.1)
        have lt_al := E_al.lt
        have lt_leaf := E_leaf.lt
        have E_a2 := ((E_a2.ext E18).keep K19.1)
        have lt_a2 := E_a2.lt
        have E_eb := ((E_eb.ext E18).keep K19.1)
        have lt_eb := E_eb.lt
        have E_a3 := ((E_a3.ext E18).keep K19.1)
        have lt_a3 := E_a3.lt
        have lt_ks := E_ks.lt
        have Oh := K.old O0 all0
        obtain ⟨cq43, kq43, q43a, q43b, q43c⟩ := isOf hZ e0 E_ks
        obtain ⟨_, _, ⟨T, L43, k43, n43⟩, -, X, ⟨Lc43, hQ, l43, y43, z43⟩, st⟩ := X.virtualBack hx (y := yy21) (z := yy21) hown (mvT hZ (oW hw 99 rfl)) (mvT hZ (oW hw 100 rfl)) (notFace_of_selects (args := #[]) (mvT hZ (oW hw 102 rfl))) (mvT hZ (oW hw 102 rfl)) (mvT hZ (oW hw 101 rfl)) (by decide) (backOf (W := 0) (rAd_0 l Z a0 hw [] ks leaf xd xk (0 : Int32) h Oh S_DEFAULTCAPACITY_EMPTY_ELEMENTDATA (Nat.le_trans O0.1 ge_ks) E_ks F_elementData_ks F_size_ks F_modCount_ks V_xd (Ins.of_exa E_leaf (oW hw 127 rfl)) (Ne.symm ne_leaf_ks) (Ne.symm ne_xd_ks)) hZ (oW hw 103 rfl) (oW hw 28 rfl) (by decide) (by decide)) q43a q43c (g := (mkF m 139 #[iv p0, iv p1, iv p2, iv p3, iv wb, iv 1, iv 0, rv nm, rv al, rv leaf, rv eb, rv ks, uu, uu, uu, uu] [(.ref leaf), (.ref ks)])) rfl (by rw [hml]; rfl) (Steps.refl _) (argsL := [(.ref leaf)]) (rest := []) (lenOf pd_13 rfl) rfl (Nat.le_of_eq rfl) (hb hby at_139) (fun _ _ => ⟨rfl, e0, (by decide : 8 + 1 ≤ _), (by decide : 25 + 10 ≤ _)⟩)
        dsimp only [Pt.U, Pt.locs, Pt.cells, Pt.slots] at X l43 y43 z43 st hQ
        subst l43 y43 z43
        obtain ⟨h, e0⟩ : ∃ z, T.heap = z := ⟨_, rfl⟩
        rw [e0] at hQ
        obtain ⟨nd139, nk139, rfl, K42, E_ks, F_elementData_ks, F_size_ks, F_modCount_ks, gn_nd139, E_nd139, V_nd139, ov_nk139⟩ := hQ
        have ge_nd139 := Nat.le_trans K.le gn_nd139
        have ne_xd_nd139 : xd ≠ nd139 := Nat.ne_of_lt (Nat.lt_of_lt_of_le lt_xd gn_nd139)
        have ne_nm_nd139 : nm ≠ nd139 := Nat.ne_of_lt (Nat.lt_of_lt_of_le lt_nm gn_nd139)
        have ne_nmb_nd139 : nmb ≠ nd139 := Nat.ne_of_lt (Nat.lt_of_lt_of_le lt_nmb gn_nd139)
        have ne_al_nd139 : al ≠ nd139 := Nat.ne_of_lt (Nat.lt_of_lt_of_le lt_al gn_nd139)
        have ne_leaf_nd139 : leaf ≠ nd139 := Nat.ne_of_lt (Nat.lt_of_lt_of_le lt_leaf gn_nd139)
        have ne_a2_nd139 : a2 ≠ nd139 := Nat.ne_of_lt (Nat.lt_of_lt_of_le lt_a2 gn_nd139)
        have ne_eb_nd139 : eb ≠ nd139 := Nat.ne_of_lt (Nat.lt_of_lt_of_le lt_eb gn_nd139)
        have ne_a3_nd139 : a3 ≠ nd139 := Nat.ne_of_lt (Nat.lt_of_lt_of_le lt_a3 gn_nd139)
        have ne_ks_nd139 : ks ≠ nd139 := Nat.ne_of_lt (Nat.lt_of_lt_of_le lt_ks gn_nd139)
        have K := K.call K42 (allS (Or.inr ge_ks) all0)
        refine oWk.tr st ?_
        refine oWk.st (fun _ kt => XS.pop X.here hx rfl (hb hby at_142) rfl rfl (XS.iload X.here hx rfl (hb hby at_143) rfl (XS.iconst X.here hx rfl (hb hby at_145) (XS.icmpYes X.here hx rfl (pc0 := 146) (pc' := 157) rfl (hb hby at_146) rfl (tlt (by decide)).1 (by decide) (by decide) (XS.iload X.here hx rfl (hb hby at_157) rfl (XS.iconst X.here hx rfl (hb hby at_159) (XS.icmpYes X.here hx rfl (pc0 := 160) (pc' := 171) rfl (hb hby at_160) rfl (tlt (by decide)).1 (by decide) (by decide) kt))))))) ?_
        obtain ⟨dd, g44⟩ : ∃ z, z = h.size := ⟨_, rfl⟩
        have V_xd := (V_xd.keep K42.1 (ninS ne_xd_ks nin0))
        have ne_xd_dd : xd ≠ dd := Nat.ne_of_lt (Nat.lt_of_lt_of_le V_xd.lt (Nat.le_of_eq g44.symm))
        have E_nm := (E_nm.keep K42.1)
        have ne_nm_dd : nm ≠ dd := Nat.ne_of_lt (Nat.lt_of_lt_of_le E_nm.lt (Nat.le_of_eq g44.symm))
        have V_nmb := (V_nmb.keep K42.1 (ninS ne_nmb_ks nin0))
        have ne_nmb_dd : nmb ≠ dd := Nat.ne_of_lt (Nat.lt_of_lt_of_le V_nmb.lt (Nat.le_of_eq g44.symm))
        have E_al := (E_al.keep K42.1)
        have ne_al_dd : al ≠ dd := Nat.ne_of_lt (Nat.lt_of_lt_of_le E_al.lt (Nat.le_of_eq g44.symm))
        have E_leaf := (E_leaf.keep K42.1)
        have ne_leaf_dd : leaf ≠ dd := Nat.ne_of_lt (Nat.lt_of_lt_of_le E_leaf.lt (Nat.le_of_eq g44.symm))
        have E_a2 := (E_a2.keep K42.1)
        have ne_a2_dd : a2 ≠ dd := Nat.ne_of_lt (Nat.lt_of_lt_of_le E_a2.lt (Nat.le_of_eq g44.symm))
        have E_eb := (E_eb.keep K42.1)
        have ne_eb_dd : eb ≠ dd := Nat.ne_of_lt (Nat.lt_of_lt_of_le E_eb.lt (Nat.le_of_eq g44.symm))
        have E_a3 := (E_a3.keep K42.1)
        have ne_a3_dd : a3 ≠ dd := Nat.ne_of_lt (Nat.lt_of_lt_of_le E_a3.lt (Nat.le_of_eq g44.symm))
        have ne_ks_dd : ks ≠ dd := Nat.ne_of_lt (Nat.lt_of_lt_of_le E_ks.lt (Nat.le_of_eq g44.symm))
        have ne_nd139_dd : nd139 ≠ dd := Nat.ne_of_lt (Nat.lt_of_lt_of_le E_nd139.lt (Nat.le_of_eq g44.symm))
        have ge_dd : h0.size ≤ dd := Nat.le_trans K.le (Nat.le_of_eq g44.symm)
        obtain ⟨T, h, X, e0, E44, A44, D44, -, st⟩ := newO X hx hZ hown (oW hw 50 rfl) (oW hw 51 rfl) (oW hw 52 rfl) e0 (g := (mkF m 171 #[iv p0, iv p1, iv p2, iv p3, iv wb, iv 1, iv 0, rv nm, rv al, rv leaf, rv eb, rv ks, uu, uu, uu, uu] [])) rfl (hb hby at_171) (by decide) (by decide)
        rw [← g44] at A44 D44 st
        refine oWk.st st ?_
        have K := K.ext E44
        have E_dd := A44
        have F_name_dd : Fld Z h dd "com/example/modwright/modwright/script/Directive" "name" "Ljava/lang/String;" .null := D44 (Or.inr (oW hw 92 rfl)) (ty := (.object "java/lang/String")) (by decide)
        have F_line_dd : Fld Z h dd "com/example/modwright/modwright/script/Directive" "line" "I" (.int (0 : Int32)) := D44 (Or.inr (oW hw 94 rfl)) (ty := .int) (by decide)
        have F_arguments_dd : Fld Z h dd "com/example/modwright/modwright/script/Directive" "arguments" "Ljava/util/List;" .null := D44 (Or.inr (oW hw 96 rfl)) (ty := (.object "java/util/List")) (by decide)
        have F_block_dd : Fld Z h dd "com/example/modwright/modwright/script/Directive" "block" "Ljava/util/List;" .null := D44 (Or.inr (oW hw 98 rfl)) (ty := (.object "java/util/List")) (by decide)
        refine oWk.st (fun _ kt => XS.dup X.here hx rfl (hb hby at_174) rfl rfl (XS.aload X.here hx rfl (hb hby at_175) rfl rfl (XS.iloadN X.here hx rfl (hb hby at_177) rfl (XS.aload X.here hx rfl (hb hby at_178) rfl rfl kt)))) ?_
        show oWk _ _ _ _ T (mkF m 180 #[iv p0, iv p1, iv p2, iv p3, iv wb, iv 1, iv 0, rv nm, rv al, rv leaf, rv eb, rv ks, uu, uu, uu, uu] [(.ref al), (.int p1), (.ref nm), (.ref dd), (.ref dd)])
        rcases hwb with rfl | rfl
        · show oWk _ _ _ _ T (mkF m 180 #[iv p0, iv p1, iv p2, iv p3, iv 0, iv 1, iv 0, rv nm, rv al, rv leaf, rv eb, rv ks, uu, uu, uu, uu] [(.ref al), (.int p1), (.ref nm), (.ref dd), (.ref dd)])
          refine oWk.st (fun _ kt => XS.iload X.here hx rfl (hb hby at_180) rfl (XS.ifYes X.here hx rfl (pc0 := 182) (pc' := 190) rfl (hb hby at_182) rfl ((if0 _ _).trans (teq (by decide)).1) (by decide) (by decide) (XS.aconstNull X.here hx rfl (hb hby at_190) kt))) ?_
          have E_al := (E_al.ext E44)
          have F_size_al := (((((F_size_al.keep K16.1 (ninS ne_al_eb nin0)).ext E18).keep K19.1 (ninS ne_al_ks nin0)).keep K42.1 (ninS ne_al_ks nin0)).ext E44)
          have Oh := K.old O0 all0
          obtain ⟨_, _, ⟨T, L46, k46, n46⟩, -, X, ⟨Lc46, hQ, l46, y46, z46⟩, st⟩ := X.specialBack hx (y := yy16) rfl hown (mvT hZ (oW hw 53 rfl)) (mvT hZ (oW hw 54 rfl)) (mvT hZ (oW hw 55 rfl)) (by decide) (backOf (W := 1) (rDI_0_N l Z a0 hw [] dd nm p1 .null (.int (0 : Int32)) .null .null al xl h Oh S_EMPTY_LIST (Nat.le_trans O0.1 ge_dd) E_dd F_name_dd F_line_dd F_arguments_dd F_block_dd E_al F_size_al) hZ (oW hw 55 rfl) (oW hw 52 rfl) (by decide) (by decide)) (g := (mkF m 191 #[iv p0, iv p1, iv p2, iv p3, iv 0, iv 1, iv 0, rv nm, rv al, rv leaf, rv eb, rv ks, uu, uu, uu, uu] [.null, (.ref al), (.int p1), (.ref nm), (.ref dd), (.ref dd)])) rfl (by rw [hml]; rfl) (Steps.refl _) (a := dd) (argsL := [(.ref nm), (.int p1), (.ref al), .null]) (rest := [(.ref dd)]) (lenOf pd_8 rfl) rfl (Nat.le_of_eq rfl) (hb hby at_191) (fun _ _ => ⟨rfl, e0, (by decide : 10 + 0 ≤ _), (by decide : 39 + 0 ≤ _)⟩)
          dsimp only [Pt.U, Pt.locs, Pt.cells, Pt.slots] at X l46 y46 z46 st hQ
          subst l46 y46 z46
          obtain ⟨h, e0⟩ : ∃ z, T.heap = z := ⟨_, rfl⟩
          rw [e0] at hQ
          obtain ⟨rfl, K45, E_dd, F_block_dd⟩ := hQ
          have K := K.call K45 (allS (Or.inr ge_dd) all0)
          refine oWk.tr st ?_
          refine oWk.st (fun _ kt => XS.astore X.here hx rfl (hb hby at_194) rfl rfl (l' := #[iv p0, iv p1, iv p2, iv p3, iv 0, iv 1, iv 0, rv nm, rv al, rv leaf, rv eb, rv ks, rv dd, uu, uu, uu]) rfl (XS.aload X.here hx rfl (hb hby at_196) rfl rfl kt)) ?_
          have Oh := K.old O0 all0
          obtain ⟨cq48, kq48, q48a, q48b, q48c⟩ := isOf hZ e0 E_dd
          obtain ⟨_, _, ⟨T, L48, k48, n48⟩, -, X, ⟨Lc48, hQ, l48, y48, z48⟩, st⟩ := X.virtualBack hx (y := yy6) (z := yy6) hown (mvT hZ (oW hw 128 rfl)) (mvT hZ (oW hw 129 rfl)) (notFace_of_selects (args := #[]) (mvT hZ (oW hw 131 rfl))) (mvT hZ (oW hw 131 rfl)) (mvT hZ (oW hw 130 rfl)) (by decide) (backOf (W := 0) (rHB0 l Z a0 hw [] dd h Oh F_block_dd) hZ (oW hw 132 rfl) (oW hw 52 rfl) (by decide) (by decide)) q48a q48c (g := (mkF m 198 #[iv p0, iv p1, iv p2, iv p3, iv 0, iv 1, iv 0, rv nm, rv al, rv leaf, rv eb, rv ks, rv dd, uu, uu, uu] [(.ref dd)])) rfl (by rw [hml]; rfl) (Steps.refl _) (argsL := []) (rest := []) (lenOf pd_5 rfl) rfl (Nat.le_of_eq rfl) (hb hby at_198) (fun _ _ => ⟨rfl, e0, (by decide : 10 + 0 ≤ _), (by decide : 39 + 0 ≤ _)⟩)
          dsimp only [Pt.U, Pt.locs, Pt.cells, Pt.slots] at X l48 y48 z48 st hQ
          subst l48 y48 z48
          obtain ⟨rfl, e0, K47⟩ := hQ
          have K := K.call K47 all0
          rw [e0] at K
          refine oWk.tr st ?_
          refine oWk.st (fun _ kt => XS.istore X.here hx rfl (hb hby at_201) rfl (l' := #[iv p0, iv p1, iv p2, iv p3, iv 0, iv 1, iv 0, rv nm, rv al, rv leaf, rv eb, rv ks, rv dd, iv 0, uu, uu]) rfl (XS.aload X.here hx rfl (hb hby at_203) rfl rfl kt)) ?_
          have F_block_leaf := (((((((((F_block_leaf.ext E12).ext E13).keep K14.1 (ninS ne_leaf_a3 nin0)).keep K16.1 (ninS ne_leaf_eb nin0)).ext E18).keep K19.1 (ninS ne_leaf_ks nin0)).keep K42.1 (ninS ne_leaf_ks nin0)).ext E44).keep K45.1 (ninS ne_leaf_dd nin0))
          have Oh := K.old O0 all0
          have E_leaf := ((E_leaf.ext E44).keep K45.1)
          obtain ⟨cq50, kq50, q50a, q50b, q50c⟩ := isOf hZ e0 E_leaf
          obtain ⟨_, _, ⟨T, L50, k50, n50⟩, -, X, ⟨Lc50, hQ, l50, y50, z50⟩, st⟩ := X.virtualBack hx (y := yy6) (z := yy6) hown (mvT hZ (oW hw 128 rfl)) (mvT hZ (oW hw 129 rfl)) (notFace_of_selects (args := #[]) (mvT hZ (oW hw 131 rfl))) (mvT hZ (oW hw 131 rfl)) (mvT hZ (oW hw 130 rfl)) (by decide) (backOf (W := 0) (rHB0 l Z a0 hw [] leaf h Oh F_block_leaf) hZ (oW hw 132 rfl) (oW hw 52 rfl) (by decide) (by decide)) q50a q50c (g := (mkF m 205 #[iv p0, iv p1, iv p2, iv p3, iv 0, iv 1, iv 0, rv nm, rv al, rv leaf, rv eb, rv ks, rv dd, iv 0, uu, uu] [(.ref leaf)])) rfl (by rw [hml]; rfl) (Steps.refl _) (argsL := []) (rest := []) (lenOf pd_5 rfl) rfl (Nat.le_of_eq rfl) (hb hby at_205) (fun _ _ => ⟨rfl, e0, (by decide : 10 + 0 ≤ _), (by decide : 39 + 0 ≤ _)⟩)
          dsimp only [Pt.U, Pt.locs, Pt.cells, Pt.slots] at X l50 y50 z50 st hQ
          subst l50 y50 z50
          obtain ⟨rfl, e0, K49⟩ := hQ
          have K := K.call K49 all0
          rw [e0] at K
          refine oWk.tr st ?_
          refine oWk.st (fun _ kt => XS.istore X.here hx rfl (hb hby at_208) rfl (l' := #[iv p0, iv p1, iv p2, iv p3, iv 0, iv 1, iv 0, rv nm, rv al, rv leaf, rv eb, rv ks, rv dd, iv 0, iv 0, uu]) rfl (XS.aload X.here hx rfl (hb hby at_210) rfl rfl kt)) ?_
          have F_block_eb := (((((F_block_eb.ext E18).keep K19.1 (ninS ne_eb_ks nin0)).keep K42.1 (ninS ne_eb_ks nin0)).ext E44).keep K45.1 (ninS ne_eb_dd nin0))
          have Oh := K.old O0 all0
          have E_eb := ((E_eb.ext E44).keep K45.1)
          obtain ⟨cq52, kq52, q52a, q52b, q52c⟩ := isOf hZ e0 E_eb
          obtain ⟨_, _, ⟨T, L52, k52, n52⟩, -, X, ⟨Lc52, hQ, l52, y52, z52⟩, st⟩ := X.virtualBack hx (y := yy6) (z := yy6) hown (mvT hZ (oW hw 128 rfl)) (mvT hZ (oW hw 129 rfl)) (notFace_of_selects (args := #[]) (mvT hZ (oW hw 131 rfl))) (mvT hZ (oW hw 131 rfl)) (mvT hZ (oW hw 130 rfl)) (by decide) (backOf (W := 0) (rHB1 l Z a0 hw [] eb xl h Oh F_block_eb) hZ (oW hw 132 rfl) (oW hw 52 rfl) (by decide) (by decide)) q52a q52c (g := (mkF m 212 #[iv p0, iv p1, iv p2, iv p3, iv 0, iv 1, iv 0, rv nm, rv al, rv leaf, rv eb, rv ks, rv dd, iv 0, iv 0, uu] [(.ref eb)])) rfl (by rw [hml]; rfl) (Steps.refl _) (argsL := []) (rest := []) (lenOf pd_5 rfl) rfl (Nat.le_of_eq rfl) (hb hby at_212) (fun _ _ => ⟨rfl, e0, (by decide : 10 + 0 ≤ _), (by decide : 39 + 0 ≤ _)⟩)
          dsimp only [Pt.U, Pt.locs, Pt.cells, Pt.slots] at X l52 y52 z52 st hQ
          subst l52 y52 z52
          obtain ⟨rfl, e0, K51⟩ := hQ
          have K := K.call K51 all0
          rw [e0] at K
          refine oWk.tr st ?_
          refine oWk.st (fun _ kt => XS.istore X.here hx rfl (hb hby at_215) rfl (l' := #[iv p0, iv p1, iv p2, iv p3, iv 0, iv 1, iv 0, rv nm, rv al, rv leaf, rv eb, rv ks, rv dd, iv 0, iv 0, iv 1]) rfl (XS.iload X.here hx rfl (hb hby at_217) rfl (XS.iload X.here hx rfl (hb hby at_219) rfl (XS.icmpNo X.here hx rfl (hb hby at_221) rfl (teq (by decide)).2 (XS.iload X.here hx rfl (hb hby at_224) rfl (XS.aload X.here hx rfl (hb hby at_226) rfl rfl kt)))))) ?_
          have Oh := K.old O0 all0
          obtain ⟨cq54, kq54, q54a, q54b, q54c⟩ := isOf hZ e0 E_dd
          obtain ⟨_, _, ⟨T, L54, k54, n54⟩, -, X, ⟨Lc54, hQ, l54, y54, z54⟩, st⟩ := X.virtualBack hx (y := yy7) (z := yy7) hown (mvT hZ (oW hw 133 rfl)) (mvT hZ (oW hw 134 rfl)) (notFace_of_selects (args := #[]) (mvT hZ (oW hw 136 rfl))) (mvT hZ (oW hw 136 rfl)) (mvT hZ (oW hw 135 rfl)) (by decide) (backOf (W := 1) (rBL0 l Z a0 hw [] dd h Oh F_block_dd) hZ (oW hw 137 rfl) (oW hw 52 rfl) (by decide) (by decide)) q54a q54c (g := (mkF m 228 #[iv p0, iv p1, iv p2, iv p3, iv 0, iv 1, iv 0, rv nm, rv al, rv leaf, rv eb, rv ks, rv dd, iv 0, iv 0, iv 1] [(.ref dd), (.int 0)])) rfl (by rw [hml]; rfl) (Steps.refl _) (argsL := []) (rest := [(.int (0 : Int32))]) (lenOf pd_6 rfl) rfl (Nat.le_of_eq rfl) (hb hby at_228) (fun _ _ => ⟨rfl, e0, (by decide : 10 + 0 ≤ _), (by decide : 39 + 0 ≤ _)⟩)
          dsimp only [Pt.U, Pt.locs, Pt.cells, Pt.slots] at X l54 y54 z54 st hQ
          subst l54 y54 z54
          obtain ⟨rfl, e0, K53⟩ := hQ
          have K := K.call K53 all0
          rw [e0] at K
          refine oWk.tr st ?_
          refine oWk.st (fun _ kt => XS.ifnullYes X.here hx rfl (pc0 := 231) (pc' := 238) rfl (hb hby at_231) rfl (by decide) (by decide) (XS.iconst X.here hx rfl (hb hby at_238) (XS.icmpNo X.here hx rfl (hb hby at_239) rfl (teq (by decide)).2 (XS.iload X.here hx rfl (hb hby at_242) rfl (XS.ifNo X.here hx rfl (hb hby at_244) rfl ((if0 _ _).trans (teq (by decide)).2) (XS.iload X.here hx rfl (hb hby at_247) rfl (XS.ifNo X.here hx rfl (hb hby at_249) rfl ((if0 _ _).trans (feq (by decide)).1) (XS.iconst X.here hx rfl (hb hby at_252) kt)))))))) ?_
          show oWk _ _ _ _ T (mkF m 253 #[iv p0, iv p1, iv p2, iv p3, iv 0, iv 1, iv 0, rv nm, rv al, rv leaf, rv eb, rv ks, rv dd, iv 0, iv 0, iv 1] [(.int 1)])
          refine oWk.st (fun _ kt => XS.goto X.here hx rfl (pc0 := 253) (pc' := 257) rfl (hb hby at_253) (by decide) (by decide) kt) ?_
          show oWk _ _ _ _ T (mkF m 257 #[iv p0, iv p1, iv p2, iv p3, iv 0, iv 1, iv 0, rv nm, rv al, rv leaf, rv eb, rv ks, rv dd, iv 0, iv 0, iv 1] [(.int 1)])
          exact oRetZ X hx hlk hret (hb hby at_257) (Or.inr rfl) (by rw [e0]; exact ⟨rfl, K.fr⟩) (by decide) (by decide)
        · show oWk _ _ _ _ T (mkF m 180 #[iv p0, iv p1, iv p2, iv p3, iv 1, iv 1, iv 0, rv nm, rv al, rv leaf, rv eb, rv ks, uu, uu, uu, uu] [(.ref al), (.int p1), (.ref nm), (.ref dd), (.ref dd)])
          refine oWk.st (fun _ kt => XS.iload X.here hx rfl (hb hby at_180) rfl (XS.ifNo X.here hx rfl (hb hby at_182) rfl ((if0 _ _).trans (feq (by decide)).1) (XS.aload X.here hx rfl (hb hby at_185) rfl rfl (XS.goto X.here hx rfl (pc0 := 187) (pc' := 191) rfl (hb hby at_187) (by decide) (by decide) kt)))) ?_
          have E_al := (E_al.ext E44)
          have F_size_al := (((((F_size_al.keep K16.1 (ninS ne_al_eb nin0)).ext E18).keep K19.1 (ninS ne_al_ks nin0)).keep K42.1 (ninS ne_al_ks nin0)).ext E44)
          have E_ks := (E_ks.ext E44)
          have F_elementData_ks := (F_elementData_ks.ext E44)
          have F_size_ks := (F_size_ks.ext E44)
          have E_nd139 := (E_nd139.ext E44)
          have V_nd139 := (V_nd139.ext E44)
          have E_leaf := (E_leaf.ext E44)
          have Oh := K.old O0 all0
          obtain ⟨_, _, ⟨T, L56, k56, n56⟩, -, X, ⟨Lc56, hQ, l56, y56, z56⟩, st⟩ := X.specialBack hx (y := yy16) rfl hown (mvT hZ (oW hw 53 rfl)) (mvT hZ (oW hw 54 rfl)) (mvT hZ (oW hw 55 rfl)) (by decide) (backOf (W := 1) (rDI_0_1 l Z a0 hw [] dd nm p1 .null (.int (0 : Int32)) .null .null al ks nd139 nk139 leaf xl xq xmr h Oh S_EMPTY_LIST S_EMPTY mm_ (Nat.le_trans O0.1 ge_dd) E_dd F_name_dd F_line_dd F_arguments_dd F_block_dd E_al F_size_al E_ks F_elementData_ks F_size_ks E_nd139 V_nd139 (Ins.of_exa E_leaf (oW hw 127 rfl))) hZ (oW hw 55 rfl) (oW hw 52 rfl) (by decide) (by decide)) (g := (mkF m 191 #[iv p0, iv p1, iv p2, iv p3, iv 1, iv 1, iv 0, rv nm, rv al, rv leaf, rv eb, rv ks, uu, uu, uu, uu] [(.ref ks), (.ref al), (.int p1), (.ref nm), (.ref dd), (.ref dd)])) rfl (by rw [hml]; rfl) (Steps.refl _) (a := dd) (argsL := [(.ref nm), (.int p1), (.ref al), (.ref ks)]) (rest := [(.ref dd)]) (lenOf pd_8 rfl) rfl (Nat.le_of_eq rfl) (hb hby at_191) (fun _ _ => ⟨rfl, e0, (by decide : 10 + 2 ≤ _), (by decide : 39 + 3 ≤ _)⟩)
          dsimp only [Pt.U, Pt.locs, Pt.cells, Pt.slots] at X l56 y56 z56 st hQ
          subst l56 y56 z56
          obtain ⟨h, e0⟩ : ∃ z, T.heap = z := ⟨_, rfl⟩
          rw [e0] at hQ
          obtain ⟨nbl55, rfl, K55, E_dd, F_block_dd⟩ := hQ
          have K := K.call K55 (allS (Or.inr ge_dd) all0)
          refine oWk.tr st ?_
          refine oWk.st (fun _ kt => XS.astore X.here hx rfl (hb hby at_194) rfl rfl (l' := #[iv p0, iv p1, iv p2, iv p3, iv 1, iv 1, iv 0, rv nm, rv al, rv leaf, rv eb, rv ks, rv dd, uu, uu, uu]) rfl (XS.aload X.here hx rfl (hb hby at_196) rfl rfl kt)) ?_
          have Oh := K.old O0 all0
          obtain ⟨cq58, kq58, q58a, q58b, q58c⟩ := isOf hZ e0 E_dd
          obtain ⟨_, _, ⟨T, L58, k58, n58⟩, -, X, ⟨Lc58, hQ, l58, y58, z58⟩, st⟩ := X.virtualBack hx (y := yy6) (z := yy6) hown (mvT hZ (oW hw 128 rfl)) (mvT hZ (oW hw 129 rfl)) (notFace_of_selects (args := #[]) (mvT hZ (oW hw 131 rfl))) (mvT hZ (oW hw 131 rfl)) (mvT hZ (oW hw 130 rfl)) (by decide) (backOf (W := 0) (rHB1 l Z a0 hw [] dd nbl55 h Oh F_block_dd) hZ (oW hw 132 rfl) (oW hw 52 rfl) (by decide) (by decide)) q58a q58c (g := (mkF m 198 #[iv p0, iv p1, iv p2, iv p3, iv 1, iv 1, iv 0, rv nm, rv al, rv leaf, rv eb, rv ks, rv dd, uu, uu, uu] [(.ref dd)])) rfl (by rw [hml]; rfl) (Steps.refl _) (argsL := []) (rest := []) (lenOf pd_5 rfl) rfl (Nat.le_of_eq rfl) (hb hby at_198) (fun _ _ => ⟨rfl, e0, (by decide : 12 + 0 ≤ _), (by decide : 42 + 0 ≤ _)⟩)
          dsimp only [Pt.U, Pt.locs, Pt.cells, Pt.slots] at X l58 y58 z58 st hQ
          subst l58 y58 z58
          obtain ⟨rfl, e0, K57⟩ := hQ
          have K := K.call K57 all0
          rw [e0] at K
          refine oWk.tr st ?_
          refine oWk.st (fun _ kt => XS.istore X.here hx rfl (hb hby at_201) rfl (l' := #[iv p0, iv p1, iv p2, iv p3, iv 1, iv 1, iv 0, rv nm, rv al, rv leaf, rv eb, rv ks, rv dd, iv 1, uu, uu]) rfl (XS.aload X.here hx rfl (hb hby at_203) rfl rfl kt)) ?_
          have F_block_leaf := (((((((((F_block_leaf.ext E12).ext E13).keep K14.1 (ninS ne_leaf_a3 nin0)).keep K16.1 (ninS ne_leaf_eb nin0)).ext E18).keep K19.1 (ninS ne_leaf_ks nin0)).keep K42.1 (ninS ne_leaf_ks nin0)).ext E44).keep K55.1 (ninS ne_leaf_dd nin0))
          have Oh := K.old O0 all0
          have E_leaf := (E_leaf.keep K55.1)
          obtain ⟨cq60, kq60, q60a, q60b, q60c⟩ := isOf hZ e0 E_leaf
          obtain ⟨_, _, ⟨T, L60, k60, n60⟩, -, X, ⟨Lc60, hQ, l60, y60, z60⟩, st⟩ := X.virtualBack hx (y := yy6) (z := yy6) hown (mvT hZ (oW hw 128 rfl)) (mvT hZ (oW hw 129 rfl)) (notFace_of_selects (args := #[]) (mvT hZ (oW hw 131 rfl))) (mvT hZ (oW hw 131 rfl)) (mvT hZ (oW hw 130 rfl)) (by decide) (backOf (W := 0) (rHB0 l Z a0 hw [] leaf h Oh F_block_leaf) hZ (oW hw 132 rfl) (oW hw 52 rfl) (by decide) (by decide)) q60a q60c (g := (mkF m 205 #[iv p0, iv p1, iv p2, iv p3, iv 1, iv 1, iv 0, rv nm, rv al, rv leaf, rv eb, rv ks, rv dd, iv 1, uu, uu] [(.ref leaf)])) rfl (by rw [hml]; rfl) (Steps.refl _) (argsL := []) (rest := []) (lenOf pd_5 rfl) rfl (Nat.le_of_eq rfl) (hb hby at_205) (fun _ _ => ⟨rfl, e0, (by decide : 12 + 0 ≤ _), (by decide : 42 + 0 ≤ _)⟩)
          dsimp only [Pt.U, Pt.locs, Pt.cells, Pt.slots] at X l60 y60 z60 st hQ
          subst l60 y60 z60
          obtain ⟨rfl, e0, K59⟩ := hQ
          have K := K.call K59 all0
          rw [e0] at K
          refine oWk.tr st ?_
          refine oWk.st (fun _ kt => XS.istore X.here hx rfl (hb hby at_208) rfl (l' := #[iv p0, iv p1, iv p2, iv p3, iv 1, iv 1, iv 0, rv nm, rv al, rv leaf, rv eb, rv ks, rv dd, iv 1, iv 0, uu]) rfl (XS.aload X.here hx rfl (hb hby at_210) rfl rfl kt)) ?_
          have F_block_eb := (((((F_block_eb.ext E18).keep K19.1 (ninS ne_eb_ks nin0)).keep K42.1 (ninS ne_eb_ks nin0)).ext E44).keep K55.1 (ninS ne_eb_dd nin0))
          have Oh := K.old O0 all0
          have E_eb := ((E_eb.ext E44).keep K55.1)
          obtain ⟨cq62, kq62, q62a, q62b, q62c⟩ := isOf hZ e0 E_eb
          obtain ⟨_, _, ⟨T, L62, k62, n62⟩, -, X, ⟨Lc62, hQ, l62, y62, z62⟩, st⟩ := X.virtualBack hx (y := yy6) (z := yy6) hown (mvT hZ (oW hw 128 rfl)) (mvT hZ (oW hw 129 rfl)) (notFace_of_selects (args := #[]) (mvT hZ (oW hw 131 rfl))) (mvT hZ (oW hw 131 rfl)) (mvT hZ (oW hw 130 rfl)) (by decide) (backOf (W := 0) (rHB1 l Z a0 hw [] eb xl h Oh F_block_eb) hZ (oW hw 132 rfl) (oW hw 52 rfl) (by decide) (by decide)) q62a q62c (g := (mkF m 212 #[iv p0, iv p1, iv p2, iv p3, iv 1, iv 1, iv 0, rv nm, rv al, rv leaf, rv eb, rv ks, rv dd, iv 1, iv 0, uu] [(.ref eb)])) rfl (by rw [hml]; rfl) (Steps.refl _) (argsL := []) (rest := []) (lenOf pd_5 rfl) rfl (Nat.le_of_eq rfl) (hb hby at_212) (fun _ _ => ⟨rfl, e0, (by decide : 12 + 0 ≤ _), (by decide : 42 + 0 ≤ _)⟩)
          dsimp only [Pt.U, Pt.locs, Pt.cells, Pt.slots] at X l62 y62 z62 st hQ
          subst l62 y62 z62
          obtain ⟨rfl, e0, K61⟩ := hQ
          have K := K.call K61 all0
          rw [e0] at K
          refine oWk.tr st ?_
          refine oWk.st (fun _ kt => XS.istore X.here hx rfl (hb hby at_215) rfl (l' := #[iv p0, iv p1, iv p2, iv p3, iv 1, iv 1, iv 0, rv nm, rv al, rv leaf, rv eb, rv ks, rv dd, iv 1, iv 0, iv 1]) rfl (XS.iload X.here hx rfl (hb hby at_217) rfl (XS.iload X.here hx rfl (hb hby at_219) rfl (XS.icmpNo X.here hx rfl (hb hby at_221) rfl (teq (by decide)).2 (XS.iload X.here hx rfl (hb hby at_224) rfl (XS.aload X.here hx rfl (hb hby at_226) rfl rfl kt)))))) ?_
          have Oh := K.old O0 all0
          obtain ⟨cq64, kq64, q64a, q64b, q64c⟩ := isOf hZ e0 E_dd
          obtain ⟨_, _, ⟨T, L64, k64, n64⟩, -, X, ⟨Lc64, hQ, l64, y64, z64⟩, st⟩ := X.virtualBack hx (y := yy7) (z := yy7) hown (mvT hZ (oW hw 133 rfl)) (mvT hZ (oW hw 134 rfl)) (notFace_of_selects (args := #[]) (mvT hZ (oW hw 136 rfl))) (mvT hZ (oW hw 136 rfl)) (mvT hZ (oW hw 135 rfl)) (by decide) (backOf (W := 1) (rBL1 l Z a0 hw [] dd nbl55 h Oh F_block_dd) hZ (oW hw 137 rfl) (oW hw 52 rfl) (by decide) (by decide)) q64a q64c (g := (mkF m 228 #[iv p0, iv p1, iv p2, iv p3, iv 1, iv 1, iv 0, rv nm, rv al, rv leaf, rv eb, rv ks, rv dd, iv 1, iv 0, iv 1] [(.ref dd), (.int 1)])) rfl (by rw [hml]; rfl) (Steps.refl _) (argsL := []) (rest := [(.int (1 : Int32))]) (lenOf pd_6 rfl) rfl (Nat.le_of_eq rfl) (hb hby at_228) (fun _ _ => ⟨rfl, e0, (by decide : 12 + 0 ≤ _), (by decide : 42 + 0 ≤ _)⟩)
          dsimp only [Pt.U, Pt.locs, Pt.cells, Pt.slots] at X l64 y64 z64 st hQ
          subst l64 y64 z64
          obtain ⟨rfl, e0, K63⟩ := hQ
          have K := K.call K63 all0
          rw [e0] at K
          refine oWk.tr st ?_
          refine oWk.st (fun _ kt => XS.ifnullNo X.here hx rfl (hb hby at_231) rfl (XS.iconst X.here hx rfl (hb hby at_234) (XS.goto X.here hx rfl (pc0 := 235) (pc' := 239) rfl (hb hby at_235) (by decide) (by decide) (XS.icmpNo X.here hx rfl (hb hby at_239) rfl (teq (by decide)).2 (XS.iload X.here hx rfl (hb hby at_242) rfl (XS.ifNo X.here hx rfl (hb hby at_244) rfl ((if0 _ _).trans (teq (by decide)).2) (XS.iload X.here hx rfl (hb hby at_247) rfl (XS.ifNo X.here hx rfl (hb hby at_249) rfl ((if0 _ _).trans (feq (by decide)).1) kt)))))))) ?_
          show oWk _ _ _ _ T (mkF m 252 #[iv p0, iv p1, iv p2, iv p3, iv 1, iv 1, iv 0, rv nm, rv al, rv leaf, rv eb, rv ks, rv dd, iv 1, iv 0, iv 1] [])
          refine oWk.st (fun _ kt => XS.iconst X.here hx rfl (hb hby at_252) (XS.goto X.here hx rfl (pc0 := 253) (pc' := 257) rfl (hb hby at_253) (by decide) (by decide) kt)) ?_
          show oWk _ _ _ _ T (mkF m 257 #[iv p0, iv p1, iv p2, iv p3, iv 1, iv 1, iv 0, rv nm, rv al, rv leaf, rv eb, rv ks, rv dd, iv 1, iv 0, iv 1] [(.int 1)])
          exact oRetZ X hx hlk hret (hb hby at_257) (Or.inr rfl) (by rw [e0]; exact ⟨rfl, K.fr⟩) (by decide) (by decide)
      · show oWk _ _ _ _ T (mkF m 129 #[iv p0, iv p1, iv p2, iv p3, iv wb, iv 2, iv 0, rv nm, rv al, rv leaf, rv eb, rv ks, uu, uu, uu, uu] [])
        refine oWk.st (fun _ kt => XS.iload X.here hx rfl (hb hby at_129) rfl (XS.iconst X.here hx rfl (hb hby at_131) (XS.icmpNo X.here hx rfl (hb hby at_132) rfl (flt (by decide)).1 (XS.aload X.here hx rfl (hb hby at_135) rfl rfl (XS.aload X.here hx rfl (hb hby at_137) rfl rfl kt))))) ?_
        have V_xd := ((V_xd.ext E18).keep K19.1 (ninS ne_xd_ks nin0))
        have E_leaf := ((E_leaf.ext E18).keep K19.1)
        have lt_xd := V_xd.lt
        have E_nm := ((E_nm.ext E18).keep K19.1)
        have lt_nm := E_nm.lt
        have V_nmb := ((V_nmb.ext E18).keep K19.1 (ninS ne_nmb_ks nin0))
        have lt_nmb := V_nmb.lt
        have E_al := ((E_al.ext E18).keep K19.1)
        have lt_al := E_al.lt
        have lt_leaf := E_leaf.lt
        have E_a2 := ((E_a2.ext E18).keep K19.1)
        have lt_a2 := E_a2.lt
        have E_eb := ((E_eb.ext E18).keep K19.1)
        have lt_eb := E_eb.lt
        have E_a3 := ((E_a3.ext E18).keep K19.1)
        have lt_a3 := E_a3.lt
        have lt_ks := E_ks.lt
        have Oh := K.old O0 all0
        obtain ⟨cq66, kq66, q66a, q66b, q66c⟩ := isOf hZ e0 E_ks
        obtain ⟨_, _, ⟨T, L66, k66, n66⟩, -, X, ⟨Lc66, hQ, l66, y66, z66⟩, st⟩ := X.virtualBack hx (y := yy21) (z := yy21) hown (mvT hZ (oW hw 99 rfl)) (mvT hZ (oW hw 100 rfl)) (notFace_of_selects (args := #[]) (mvT hZ (oW hw 102 rfl))) (mvT hZ (oW hw 102 rfl)) (mvT hZ (oW hw 101 rfl)) (by decide) (backOf (W := 0) (rAd_0 l Z a0 hw [] ks leaf xd xk (0 : Int32) h Oh S_DEFAULTCAPACITY_EMPTY_ELEMENTDATA (Nat.le_trans O0.1 ge_ks) E_ks F_elementData_ks F_size_ks F_modCount_ks V_xd (Ins.of_exa E_leaf (oW hw 127 rfl)) (Ne.symm ne_leaf_ks) (Ne.symm ne_xd_ks)) hZ (oW hw 103 rfl) (oW hw 28 rfl) (by decide) (by decide)) q66a q66c (g := (mkF m 139 #[iv p0, iv p1, iv p2, iv p3, iv wb, iv 2, iv 0, rv nm, rv al, rv leaf, rv eb, rv ks, uu, uu, uu, uu] [(.ref leaf), (.ref ks)])) rfl (by rw [hml]; rfl) (Steps.refl _) (argsL := [(.ref leaf)]) (rest := []) (lenOf pd_13 rfl) rfl (Nat.le_of_eq rfl) (hb hby at_139) (fun _ _ => ⟨rfl, e0, (by decide : 8 + 1 ≤ _), (by decide : 25 + 10 ≤ _)⟩)
        dsimp only [Pt.U, Pt.locs, Pt.cells, Pt.slots] at X l66 y66 z66 st hQ
        subst l66 y66 z66
        obtain ⟨h, e0⟩ : ∃ z, T.heap = z := ⟨_, rfl⟩
        rw [e0] at hQ
        obtain ⟨nd139, nk139, rfl, K65, E_ks, F_elementData_ks, F_size_ks, F_modCount_ks, gn_nd139, E_nd139, V_nd139, ov_nk139⟩ := hQ
        have ge_nd139 := Nat.le_trans K.le gn_nd139
        have ne_xd_nd139 : xd ≠ nd139 := Nat.ne_of_lt (Nat.lt_of_lt_of_le lt_xd gn_nd139)
        have ne_nm_nd139 : nm ≠ nd139 := Nat.ne_of_lt (Nat.lt_of_lt_of_le lt_nm gn_nd139)
        have ne_nmb_nd139 : nmb ≠ nd139 := Nat.ne_of_lt (Nat.lt_of_lt_of_le lt_nmb gn_nd139)
        have ne_al_nd139 : al ≠ nd139 := Nat.ne_of_lt (Nat.lt_of_lt_of_le lt_al gn_nd139)
        have ne_leaf_nd139 : leaf ≠ nd139 := Nat.ne_of_lt (Nat.lt_of_lt_of_le lt_leaf gn_nd139)
        have ne_a2_nd139 : a2 ≠ nd139 := Nat.ne_of_lt (Nat.lt_of_lt_of_le lt_a2 gn_nd139)
        have ne_eb_nd139 : eb ≠ nd139 := Nat.ne_of_lt (Nat.lt_of_lt_of_le lt_eb gn_nd139)
        have ne_a3_nd139 : a3 ≠ nd139 := Nat.ne_of_lt (Nat.lt_of_lt_of_le lt_a3 gn_nd139)
        have ne_ks_nd139 : ks ≠ nd139 := Nat.ne_of_lt (Nat.lt_of_lt_of_le lt_ks gn_nd139)
        have K := K.call K65 (allS (Or.inr ge_ks) all0)
        refine oWk.tr st ?_
        refine oWk.st (fun _ kt => XS.pop X.here hx rfl (hb hby at_142) rfl rfl (XS.iload X.here hx rfl (hb hby at_143) rfl (XS.iconst X.here hx rfl (hb hby at_145) (XS.icmpNo X.here hx rfl (hb hby at_146) rfl (flt (by decide)).1 (XS.aload X.here hx rfl (hb hby at_149) rfl rfl (XS.aload X.here hx rfl (hb hby at_151) rfl rfl kt)))))) ?_
        have E_leaf := (E_leaf.keep K65.1)
        have Oh := K.old O0 all0
        obtain ⟨cq68, kq68, q68a, q68b, q68c⟩ := isOf hZ e0 E_ks
        obtain ⟨_, _, ⟨T, L68, k68, n68⟩, -, X, ⟨Lc68, hQ, l68, y68, z68⟩, st⟩ := X.virtualBack hx (y := yy21) (z := yy21) hown (mvT hZ (oW hw 99 rfl)) (mvT hZ (oW hw 100 rfl)) (notFace_of_selects (args := #[]) (mvT hZ (oW hw 102 rfl))) (mvT hZ (oW hw 102 rfl)) (mvT hZ (oW hw 101 rfl)) (by decide) (backOf (W := 0) (rAd_1 l Z a0 hw [] ks leaf nd139 nk139 ((0 : Int32) + (1 : Int32)) leaf h Oh (Nat.le_trans O0.1 ge_ks) (Nat.le_trans O0.1 ge_nd139) ne_ks_nd139 E_ks F_elementData_ks F_size_ks F_modCount_ks E_nd139 V_nd139 ov_nk139 (Ins.of_exa E_leaf (oW hw 127 rfl))) hZ (oW hw 103 rfl) (oW hw 28 rfl) (by decide) (by decide)) q68a q68c (g := (mkF m 153 #[iv p0, iv p1, iv p2, iv p3, iv wb, iv 2, iv 0, rv nm, rv al, rv leaf, rv eb, rv ks, uu, uu, uu, uu] [(.ref leaf), (.ref ks)])) rfl (by rw [hml]; rfl) (Steps.refl _) (argsL := [(.ref leaf)]) (rest := []) (lenOf pd_13 rfl) rfl (Nat.le_of_eq rfl) (hb hby at_153) (fun _ _ => ⟨rfl, e0, (by decide : 9 + 0 ≤ _), (by decide : 35 + 0 ≤ _)⟩)
        dsimp only [Pt.U, Pt.locs, Pt.cells, Pt.slots] at X l68 y68 z68 st hQ
        subst l68 y68 z68
        obtain ⟨h, e0⟩ : ∃ z, T.heap = z := ⟨_, rfl⟩
        rw [e0] at hQ
        obtain ⟨rfl, K67, E_ks, F_elementData_ks, F_size_ks, F_modCount_ks, E_nd139, V_nd139⟩ := hQ
        have K := K.call K67 (allS (Or.inr ge_ks) (allS (Or.inr ge_nd139) all0))
        refine oWk.tr st ?_
        refine oWk.st (fun _ kt => XS.pop X.here hx rfl (hb hby at_156) rfl rfl (XS.iload X.here hx rfl (hb hby at_157) rfl (XS.iconst X.here hx rfl (hb hby at_159) (XS.icmpYes X.here hx rfl (pc0 := 160) (pc' := 171) rfl (hb hby at_160) rfl (tlt (by decide)).1 (by decide) (by decide) kt)))) ?_
        obtain ⟨dd, g69⟩ : ∃ z, z = h.size := ⟨_, rfl⟩
        have V_xd := ((V_xd.keep K65.1 (ninS ne_xd_ks nin0)).keep K67.1 (ninS ne_xd_ks (ninS ne_xd_nd139 nin0)))
        have ne_xd_dd : xd ≠ dd := Nat.ne_of_lt (Nat.lt_of_lt_of_le V_xd.lt (Nat.le_of_eq g69.symm))
        have E_nm := ((E_nm.keep K65.1).keep K67.1)
        have ne_nm_dd : nm ≠ dd := Nat.ne_of_lt (Nat.lt_of_lt_of_le E_nm.lt (Nat.le_of_eq g69.symm))
        have V_nmb := ((V_nmb.keep K65.1 (ninS ne_nmb_ks nin0)).keep K67.1 (ninS ne_nmb_ks (ninS ne_nmb_nd139 nin0)))
        have ne_nmb_dd : nmb ≠ dd := Nat.ne_of_lt (Nat.lt_of_lt_of_le V_nmb.lt (Nat.le_of_eq g69.symm))
        have E_al := ((E_al.keep K65.1).keep K67.1)
        have ne_al_dd : al ≠ dd := Nat.ne_of_lt (Nat.lt_of_lt_of_le E_al.lt (Nat.le_of_eq g69.symm))
        have E_leaf := (E_leaf.keep K67.1)
        have ne_leaf_dd : leaf ≠ dd := Nat.ne_of_lt (Nat.lt_of_lt_of_le E_leaf.lt (Nat.le_of_eq g69.symm))
        have E_a2 := ((E_a2.keep K65.1).keep K67.1)
        have ne_a2_dd : a2 ≠ dd := Nat.ne_of_lt (Nat.lt_of_lt_of_le E_a2.lt (Nat.le_of_eq g69.symm))
        have E_eb := ((E_eb.keep K65.1).keep K67.1)
        have ne_eb_dd : eb ≠ dd := Nat.ne_of_lt (Nat.lt_of_lt_of_le E_eb.lt (Nat.le_of_eq g69.symm))
        have E_a3 := ((E_a3.keep K65.1).keep K67.1)
        have ne_a3_dd : a3 ≠ dd := Nat.ne_of_lt (Nat.lt_of_lt_of_le E_a3.lt (Nat.le_of_eq g69.symm))
        have ne_ks_dd : ks ≠ dd := Nat.ne_of_lt (Nat.lt_of_lt_of_le E_ks.lt (Nat.le_of_eq g69.symm))
        have ne_nd139_dd : nd139 ≠ dd := Nat.ne_of_lt (Nat.lt_of_lt_of_le E_nd139.lt (Nat.le_of_eq g69.symm))
        have ge_dd : h0.size ≤ dd := Nat.le_trans K.le (Nat.le_of_eq g69.symm)
        obtain ⟨T, h, X, e0, E69, A69, D69, -, st⟩ := newO X hx hZ hown (oW hw 50 rfl) (oW hw 51 rfl) (oW hw 52 rfl) e0 (g := (mkF m 171 #[iv p0, iv p1, iv p2, iv p3, iv wb, iv 2, iv 0, rv nm, rv al, rv leaf, rv eb, rv ks, uu, uu, uu, uu] [])) rfl (hb hby at_171) (by decide) (by decide)
        rw [← g69] at A69 D69 st
        refine oWk.st st ?_
        have K := K.ext E69
        have E_dd := A69
        have F_name_dd : Fld Z h dd "com/example/modwright/modwright/script/Directive" "name" "Ljava/lang/String;" .null := D69 (Or.inr (oW hw 92 rfl)) (ty := (.object "java/lang/String")) (by decide)
        have F_line_dd : Fld Z h dd "com/example/modwright/modwright/script/Directive" "line" "I" (.int (0 : Int32)) := D69 (Or.inr (oW hw 94 rfl)) (ty := .int) (by decide)
        have F_arguments_dd : Fld Z h dd "com/example/modwright/modwright/script/Directive" "arguments" "Ljava/util/List;" .null := D69 (Or.inr (oW hw 96 rfl)) (ty := (.object "java/util/List")) (by decide)
        have F_block_dd : Fld Z h dd "com/example/modwright/modwright/script/Directive" "block" "Ljava/util/List;" .null := D69 (Or.inr (oW hw 98 rfl)) (ty := (.object "java/util/List")) (by decide)
        refine oWk.st (fun _ kt => XS.dup X.here hx rfl (hb hby at_174) rfl rfl (XS.aload X.here hx rfl (hb hby at_175) rfl rfl (XS.iloadN X.here hx rfl (hb hby at_177) rfl (XS.aload X.here hx rfl (hb hby at_178) rfl rfl kt)))) ?_
        show oWk _ _ _ _ T (mkF m 180 #[iv p0, iv p1, iv p2, iv p3, iv wb, iv 2, iv 0, rv nm, rv al, rv leaf, rv eb, rv ks, uu, uu, uu, uu] [(.ref al), (.int p1), (.ref nm), (.ref dd), (.ref dd)])
        rcases hwb with rfl | rfl
        · show oWk _ _ _ _ T (mkF m 180 #[iv p0, iv p1, iv p2, iv p3, iv 0, iv 2, iv 0, rv nm, rv al, rv leaf, rv eb, rv ks, uu, uu, uu, uu] [(.ref al), (.int p1), (.ref nm), (.ref dd), (.ref dd)])
          refine oWk.st (fun _ kt => XS.iload X.here hx rfl (hb hby at_180) rfl (XS.ifYes X.here hx rfl (pc0 := 182) (pc' := 190) rfl (hb hby at_182) rfl ((if0 _ _).trans (teq (by decide)).1) (by decide) (by decide) (XS.aconstNull X.here hx rfl (hb hby at_190) kt))) ?_
          have E_al := (E_al.ext E69)
          have F_size_al := ((((((F_size_al.keep K16.1 (ninS ne_al_eb nin0)).ext E18).keep K19.1 (ninS ne_al_ks nin0)).keep K65.1 (ninS ne_al_ks nin0)).keep K67.1 (ninS ne_al_ks (ninS ne_al_nd139 nin0))).ext E69)
          have Oh := K.old O0 all0
          obtain ⟨_, _, ⟨T, L71, k71, n71⟩, -, X, ⟨Lc71, hQ, l71, y71, z71⟩, st⟩ := X.specialBack hx (y := yy16) rfl hown (mvT hZ (oW hw 53 rfl)) (mvT hZ (oW hw 54 rfl)) (mvT hZ (oW hw 55 rfl)) (by decide) (backOf (W := 1) (rDI_0_N l Z a0 hw [] dd nm p1 .null (.int (0 : Int32)) .null .null al xl h Oh S_EMPTY_LIST (Nat.le_trans O0.1 ge_dd) E_dd F_name_dd F_line_dd F_arguments_dd F_block_dd E_al F_size_al) hZ (oW hw 55 rfl) (oW hw 52 rfl) (by decide) (by decide)) (g := (mkF m 191 #[iv p0, iv p1, iv p2, iv p3, iv 0, iv 2, iv 0, rv nm, rv al, rv leaf, rv eb, rv ks, uu, uu, uu, uu] [.null, (.ref al), (.int p1), (.ref nm), (.ref dd), (.ref dd)])) rfl (by rw [hml]; rfl) (Steps.refl _) (a := dd) (argsL := [(.ref nm), (.int p1), (.ref al), .null]) (rest := [(.ref dd)]) (lenOf pd_8 rfl) rfl (Nat.le_of_eq rfl) (hb hby at_191) (fun _ _ => ⟨rfl, e0, (by decide : 10 + 0 ≤ _), (by decide : 39 + 0 ≤ _)⟩)
          dsimp only [Pt.U, Pt.locs, Pt.cells, Pt.slots] at X l71 y71 z71 st hQ
          subst l71 y71 z71
          obtain ⟨h, e0⟩ : ∃ z, T.heap = z := ⟨_, rfl⟩
          rw [e0] at hQ
          obtain ⟨rfl, K70, E_dd, F_block_dd⟩ := hQ
          have K := K.call K70 (allS (Or.inr ge_dd) all0)
          refine oWk.tr st ?_
          refine oWk.st (fun _ kt => XS.astore X.here hx rfl (hb hby at_194) rfl rfl (l' := #[iv p0, iv p1, iv p2, iv p3, iv 0, iv 2, iv 0, rv nm, rv al, rv leaf, rv eb, rv ks, rv dd, uu, uu, uu]) rfl (XS.aload X.here hx rfl (hb hby at_196) rfl rfl kt)) ?_
          have Oh := K.old O0 all0
          obtain ⟨cq73, kq73, q73a, q73b, q73c⟩ := isOf hZ e0 E_dd
          obtain ⟨_, _, ⟨T, L73, k73, n73⟩, -, X, ⟨Lc73, hQ, l73, y73, z73⟩, st⟩ := X.virtualBack hx (y := yy6) (z := yy6) hown (mvT hZ (oW hw 128 rfl)) (mvT hZ (oW hw 129 rfl)) (notFace_of_selects (args := #[]) (mvT hZ (oW hw 131 rfl))) (mvT hZ (oW hw 131 rfl)) (mvT hZ (oW hw 130 rfl)) (by decide) (backOf (W := 0) (rHB0 l Z a0 hw [] dd h Oh F_block_dd) hZ (oW hw 132 rfl) (oW hw 52 rfl) (by decide) (by decide)) q73a q73c (g := (mkF m 198 #[iv p0, iv p1, iv p2, iv p3, iv 0, iv 2, iv 0, rv nm, rv al, rv leaf, rv eb, rv ks, rv dd, uu, uu, uu] [(.ref dd)])) rfl (by rw [hml]; rfl) (Steps.refl _) (argsL := []) (rest := []) (lenOf pd_5 rfl) rfl (Nat.le_of_eq rfl) (hb hby at_198) (fun _ _ => ⟨rfl, e0, (by decide : 10 + 0 ≤ _), (by decide : 39 + 0 ≤ _)⟩)
          dsimp only [Pt.U, Pt.locs, Pt.cells, Pt.slots] at X l73 y73 z73 st hQ
          subst l73 y73 z73
          obtain ⟨rfl, e0, K72⟩ := hQ
          have K := K.call K72 all0
          rw [e0] at K
          refine oWk.tr st ?_
          refine oWk.st (fun _ kt => XS.istore X.here hx rfl (hb hby at_201) rfl (l' := #[iv p0, iv p1, iv p2, iv p3, iv 0, iv 2, iv 0, rv nm, rv al, rv leaf, rv eb, rv ks, rv dd, iv 0, uu, uu]) rfl (XS.aload X.here hx rfl (hb hby at_203) rfl rfl kt)) ?_
          have F_block_leaf := ((((((((((F_block_leaf.ext E12).ext E13).keep K14.1 (ninS ne_leaf_a3 nin0)).keep K16.1 (ninS ne_leaf_eb nin0)).ext E18).keep K19.1 (ninS ne_leaf_ks nin0)).keep K65.1 (ninS ne_leaf_ks nin0)).keep K67.1 (ninS ne_leaf_ks (ninS ne_leaf_nd139 nin0))).ext E69).keep K70.1 (ninS ne_leaf_dd nin0))
          have Oh := K.old O0 all0
          have E_leaf := ((E_leaf.ext E69).keep K70.1)
          obtain ⟨cq75, kq75, q75a, q75b, q75c⟩ := isOf hZ e0 E_leaf
          obtain ⟨_, _, ⟨T, L75, k75, n75⟩, -, X, ⟨Lc75, hQ, l75, y75, z75⟩, st⟩ := X.virtualBack hx (y := yy6) (z := yy6) hown (mvT hZ (oW hw 128 rfl)) (mvT hZ (oW hw 129 rfl)) (notFace_of_selects (args := #[]) (mvT hZ (oW hw 131 rfl))) (mvT hZ (oW hw 131 rfl)) (mvT hZ (oW hw 130 rfl)) (by decide) (backOf (W := 0) (rHB0 l Z a0 hw [] leaf h Oh F_block_leaf) hZ (oW hw 132 rfl) (oW hw 52 rfl) (by decide) (by decide)) q75a q75c (g := (mkF m 205 #[iv p0, iv p1, iv p2, iv p3, iv 0, iv 2, iv 0, rv nm, rv al, rv leaf, rv eb, rv ks, rv dd, iv 0, uu, uu] [(.ref leaf)])) rfl (by rw [hml]; rfl) (Steps.refl _) (argsL := []) (rest := []) (lenOf pd_5 rfl) rfl (Nat.le_of_eq rfl) (hb hby at_205) (fun _ _ => ⟨rfl, e0, (by decide : 10 + 0 ≤ _), (by decide : 39 + 0 ≤ _)⟩)
          dsimp only [Pt.U, Pt.locs, Pt.cells, Pt.slots] at X l75 y75 z75 st hQ
          subst l75 y75 z75
          obtain ⟨rfl, e0, K74⟩ := hQ
          have K := K.call K74 all0
          rw [e0] at K
          refine oWk.tr st ?_
          refine oWk.st (fun _ kt => XS.istore X.here hx rfl (hb hby at_208) rfl (l' := #[iv p0, iv p1, iv p2, iv p3, iv 0, iv 2, iv 0, rv nm, rv al, rv leaf, rv eb, rv ks, rv dd, iv 0, iv 0, uu]) rfl (XS.aload X.here hx rfl (hb hby at_210) rfl rfl kt)) ?_
          have F_block_eb := ((((((F_block_eb.ext E18).keep K19.1 (ninS ne_eb_ks nin0)).keep K65.1 (ninS ne_eb_ks nin0)).keep K67.1 (ninS ne_eb_ks (ninS ne_eb_nd139 nin0))).ext E69).keep K70.1 (ninS ne_eb_dd nin0))
          have Oh := K.old O0 all0
          have E_eb := ((E_eb.ext E69).keep K70.1)
          obtain ⟨cq77, kq77, q77a, q77b, q77c⟩ := isOf hZ e0 E_eb
          obtain ⟨_, _, ⟨T, L77, k77, n77⟩, -, X, ⟨Lc77, hQ, l77, y77, z77⟩, st⟩ := X.virtualBack hx (y := yy6) (z := yy6) hown (mvT hZ (oW hw 128 rfl)) (mvT hZ (oW hw 129 rfl)) (notFace_of_selects (args := #[]) (mvT hZ (oW hw 131 rfl))) (mvT hZ (oW hw 131 rfl)) (mvT hZ (oW hw 130 rfl)) (by decide) (backOf (W := 0) (rHB1 l Z a0 hw [] eb xl h Oh F_block_eb) hZ (oW hw 132 rfl) (oW hw 52 rfl) (by decide) (by decide)) q77a q77c (g := (mkF m 212 #[iv p0, iv p1, iv p2, iv p3, iv 0, iv 2, iv 0, rv nm, rv al, rv leaf, rv eb, rv ks, rv dd, iv 0, iv 0, uu] [(.ref eb)])) rfl (by rw [hml]; rfl) (Steps.refl _) (argsL := []) (rest := []) (lenOf pd_5 rfl) rfl (Nat.le_of_eq rfl) (hb hby at_212) (fun _ _ => ⟨rfl, e0, (by decide : 10 + 0 ≤ _), (by decide : 39 + 0 ≤ _)⟩)
          dsimp only [Pt.U, Pt.locs, Pt.cells, Pt.slots] at X l77 y77 z77 st hQ
          subst l77 y77 z77
          obtain ⟨rfl, e0, K76⟩ := hQ
          have K := K.call K76 all0
          rw [e0] at K
          refine oWk.tr st ?_
          refine oWk.st (fun _ kt => XS.istore X.here hx rfl (hb hby at_215) rfl (l' := #[iv p0, iv p1, iv p2, iv p3, iv 0, iv 2, iv 0, rv nm, rv al, rv leaf, rv eb, rv ks, rv dd, iv 0, iv 0, iv 1]) rfl (XS.iload X.here hx rfl (hb hby at_217) rfl (XS.iload X.here hx rfl (hb hby at_219) rfl (XS.icmpNo X.here hx rfl (hb hby at_221) rfl (teq (by decide)).2 (XS.iload X.here hx rfl (hb hby at_224) rfl (XS.aload X.here hx rfl (hb hby at_226) rfl rfl kt)))))) ?_
          have Oh := K.old O0 all0
          obtain ⟨cq79, kq79, q79a, q79b, q79c⟩ := isOf hZ e0 E_dd
          obtain ⟨_, _, ⟨T, L79, k79, n79⟩, -, X, ⟨Lc79, hQ, l79, y79, z79⟩, st⟩ := X.virtualBack hx (y := yy7) (z := yy7) hown (mvT hZ (oW hw 133 rfl)) (mvT hZ (oW hw 134 rfl)) (notFace_of_selects (args := #[]) (mvT hZ (oW hw 136 rfl))) (mvT hZ (oW hw 136 rfl)) (mvT hZ (oW hw 135 rfl)) (by decide) (backOf (W := 1) (rBL0 l Z a0 hw [] dd h Oh F_block_dd) hZ (oW hw 137 rfl) (oW hw 52 rfl) (by decide) (by decide)) q79a q79c (g := (mkF m 228 #[iv p0, iv p1, iv p2, iv p3, iv 0, iv 2, iv 0, rv nm, rv al, rv leaf, rv eb, rv ks, rv dd, iv 0, iv 0, iv 1] [(.ref dd), (.int 0)])) rfl (by rw [hml]; rfl) (Steps.refl _) (argsL := []) (rest := [(.int (0 : Int32))]) (lenOf pd_6 rfl) rfl (Nat.le_of_eq rfl) (hb hby at_228) (fun _ _ => ⟨rfl, e0, (by decide : 10 + 0 ≤ _), (by decide : 39 + 0 ≤ _)⟩)
          dsimp only [Pt.U, Pt.locs, Pt.cells, Pt.slots] at X l79 y79 z79 st hQ
          subst l79 y79 z79
          obtain ⟨rfl, e0, K78⟩ := hQ
          have K := K.call K78 all0
          rw [e0] at K
          refine oWk.tr st ?_
          refine oWk.st (fun _ kt => XS.ifnullYes X.here hx rfl (pc0 := 231) (pc' := 238) rfl (hb hby at_231) rfl (by decide) (by decide) (XS.iconst X.here hx rfl (hb hby at_238) (XS.icmpNo X.here hx rfl (hb hby at_239) rfl (teq (by decide)).2 (XS.iload X.here hx rfl (hb hby at_242) rfl (XS.ifNo X.here hx rfl (hb hby at_244) rfl ((if0 _ _).trans (teq (by decide)).2) (XS.iload X.here hx rfl (hb hby at_247) rfl (XS.ifNo X.here hx rfl (hb hby at_249) rfl ((if0 _ _).trans (feq (by decide)).1) (XS.iconst X.here hx rfl (hb hby at_252) kt)))))))) ?_
          show oWk _ _ _ _ T (mkF m 253 #[iv p0, iv p1, iv p2, iv p3, iv 0, iv 2, iv 0, rv nm, rv al, rv leaf, rv eb, rv ks, rv dd, iv 0, iv 0, iv 1] [(.int 1)])
          refine oWk.st (fun _ kt => XS.goto X.here hx rfl (pc0 := 253) (pc' := 257) rfl (hb hby at_253) (by decide) (by decide) kt) ?_
          show oWk _ _ _ _ T (mkF m 257 #[iv p0, iv p1, iv p2, iv p3, iv 0, iv 2, iv 0, rv nm, rv al, rv leaf, rv eb, rv ks, rv dd, iv 0, iv 0, iv 1] [(.int 1)])
          exact oRetZ X hx hlk hret (hb hby at_257) (Or.inr rfl) (by rw [e0]; exact ⟨rfl, K.fr⟩) (by decide) (by decide)
        · show oWk _ _ _ _ T (mkF m 180 #[iv p0, iv p1, iv p2, iv p3, iv 1, iv 2, iv 0, rv nm, rv al, rv leaf, rv eb, rv ks, uu, uu, uu, uu] [(.ref al), (.int p1), (.ref nm), (.ref dd), (.ref dd)])
          refine oWk.st (fun _ kt => XS.iload X.here hx rfl (hb hby at_180) rfl (XS.ifNo X.here hx rfl (hb hby at_182) rfl ((if0 _ _).trans (feq (by decide)).1) (XS.aload X.here hx rfl (hb hby at_185) rfl rfl (XS.goto X.here hx rfl (pc0 := 187) (pc' := 191) rfl (hb hby at_187) (by decide) (by decide) kt)))) ?_
          have E_al := (E_al.ext E69)
          have F_size_al := ((((((F_size_al.keep K16.1 (ninS ne_al_eb nin0)).ext E18).keep K19.1 (ninS ne_al_ks nin0)).keep K65.1 (ninS ne_al_ks nin0)).keep K67.1 (ninS ne_al_ks (ninS ne_al_nd139 nin0))).ext E69)
          have E_ks := (E_ks.ext E69)
          have F_elementData_ks := (F_elementData_ks.ext E69)
          have F_size_ks := (F_size_ks.ext E69)
          have E_nd139 := (E_nd139.ext E69)
          have V_nd139 := (V_nd139.ext E69)
          have E_leaf := (E_leaf.ext E69)
          have Oh := K.old O0 all0
          obtain ⟨_, _, ⟨T, L81, k81, n81⟩, -, X, ⟨Lc81, hQ, l81, y81, z81⟩, st⟩ := X.specialBack hx (y := yy16) rfl hown (mvT hZ (oW hw 53 rfl)) (mvT hZ (oW hw 54 rfl)) (mvT hZ (oW hw 55 rfl)) (by decide) (backOf (W := 1) (rDI_0_2 l Z a0 hw [] dd nm p1 .null (.int (0 : Int32)) .null .null al ks nd139 nk139 leaf leaf xl xmr h Oh S_EMPTY_LIST mm_ (Nat.le_trans O0.1 ge_dd) E_dd F_name_dd F_line_dd F_arguments_dd F_block_dd E_al F_size_al E_ks F_elementData_ks F_size_ks E_nd139 V_nd139 (Ins.of_exa E_leaf (oW hw 127 rfl)) (Ins.of_exa E_leaf (oW hw 127 rfl))) hZ (oW hw 55 rfl) (oW hw 52 rfl) (by decide) (by decide)) (g := (mkF m 191 #[iv p0, iv p1, iv p2, iv p3, iv 1, iv 2, iv 0, rv nm, rv al, rv leaf, rv eb, rv ks, uu, uu, uu, uu] [(.ref ks), (.ref al), (.int p1), (.ref nm), (.ref dd), (.ref dd)])) rfl (by rw [hml]; rfl) (Steps.refl _) (a := dd) (argsL := [(.ref nm), (.int p1), (.ref al), (.ref ks)]) (rest := [(.ref dd)]) (lenOf pd_8 rfl) rfl (Nat.le_of_eq rfl) (hb hby at_191) (fun _ _ => ⟨rfl, e0, (by decide : 10 + 2 ≤ _), (by decide : 39 + 4 ≤ _)⟩)
          dsimp only [Pt.U, Pt.locs, Pt.cells, Pt.slots] at X l81 y81 z81 st hQ
          subst l81 y81 z81
          obtain ⟨h, e0⟩ : ∃ z, T.heap = z := ⟨_, rfl⟩
          rw [e0] at hQ
          obtain ⟨nbl80, rfl, K80, E_dd, F_block_dd⟩ := hQ
          have K := K.call K80 (allS (Or.inr ge_dd) all0)
          refine oWk.tr st ?_
          refine oWk.st (fun _ kt => XS.astore X.here hx rfl (hb hby at_194) rfl rfl (l' := #[iv p0, iv p1, iv p2, iv p3, iv 1, iv 2, iv 0, rv nm, rv al, rv leaf, rv eb, rv ks, rv dd, uu, uu, uu]) rfl (XS.aload X.here hx rfl (hb hby at_196) rfl rfl kt)) ?_
          have Oh := K.old O0 all0
          obtain ⟨cq83, kq83, q83a, q83b, q83c⟩ := isOf hZ e0 E_dd
          obtain ⟨_, _, ⟨T, L83, k83, n83⟩, -, X, ⟨Lc83, hQ, l83, y83, z83⟩, st⟩ := X.virtualBack hx (y := yy6) (z := yy6) hown (mvT hZ (oW hw 128 rfl)) (mvT hZ (oW hw 129 rfl)) (notFace_of_selects (args := #[]) (mvT hZ (oW hw 131 rfl))) (mvT hZ (oW hw 131 rfl)) (mvT hZ (oW hw 130 rfl)) (by decide) (backOf (W := 0) (rHB1 l Z a0 hw [] dd nbl80 h Oh F_block_dd) hZ (oW hw 132 rfl) (oW hw 52 rfl) (by decide) (by decide)) q83a q83c (g := (mkF m 198 #[iv p0, iv p1, iv p2, iv p3, iv 1, iv 2, iv 0, rv nm, rv al, rv leaf, rv eb, rv ks, rv dd, uu, uu, uu] [(.ref dd)])) rfl (by rw [hml]; rfl) (Steps.refl _) (argsL := []) (rest := []) (lenOf pd_5 rfl) rfl (Nat.le_of_eq rfl) (hb hby at_198) (fun _ _ => ⟨rfl, e0, (by decide : 12 + 0 ≤ _), (by decide : 43 + 0 ≤ _)⟩)
          dsimp only [Pt.U, Pt.locs, Pt.cells, Pt.slots] at X l83 y83 z83 st hQ
          subst l83 y83 z83
          obtain ⟨rfl, e0, K82⟩ := hQ
          have K := K.call K82 all0
          rw [e0] at K
          refine oWk.tr st ?_
          refine oWk.st (fun _ kt => XS.istore X.here hx rfl (hb hby at_201) rfl (l' := #[iv p0, iv p1, iv p2, iv p3, iv 1, iv 2, iv 0, rv nm, rv al, rv leaf, rv eb, rv ks, rv dd, iv 1, uu, uu]) rfl (XS.aload X.here hx rfl (hb hby at_203) rfl rfl kt)) ?_
          have F_block_leaf := ((((((((((F_block_leaf.ext E12).ext E13).keep K14.1 (ninS ne_leaf_a3 nin0)).keep K16.1 (ninS ne_leaf_eb nin0)).ext E18).keep K19.1 (ninS ne_leaf_ks nin0)).keep K65.1 (ninS ne_leaf_ks nin0)).keep K67.1 (ninS ne_leaf_ks (ninS ne_leaf_nd139 nin0))).ext E69).keep K80.1 (ninS ne_leaf_dd nin0))
          have Oh := K.old O0 all0
          have E_leaf := (E_leaf.keep K80.1)
          obtain ⟨cq85, kq85, q85a, q85b, q85c⟩ := isOf hZ e0 E_leaf
          obtain ⟨_, _, ⟨T, L85, k85, n85⟩, -, X, ⟨Lc85, hQ, l85, y85, z85⟩, st⟩ := X.virtualBack hx (y := yy6) (z := yy6) hown (mvT hZ (oW hw 128 rfl)) (mvT hZ (oW hw 129 rfl)) (notFace_of_selects (args := #[]) (mvT hZ (oW hw 131 rfl))) (mvT hZ (oW hw 131 rfl)) (mvT hZ (oW hw 130 rfl)) (by decide) (backOf (W := 0) (rHB0 l Z a0 hw [] leaf h Oh F_block_leaf) hZ (oW hw 132 rfl) (oW hw 52 rfl) (by decide) (by decide)) q85a q85c (g := (mkF m 205 #[iv p0, iv p1, iv p2, iv p3, iv 1, iv 2, iv 0, rv nm, rv al, rv leaf, rv eb, rv ks, rv dd, iv 1, uu, uu] [(.ref leaf)])) rfl (by rw [hml]; rfl) (Steps.refl _) (argsL := []) (rest := []) (lenOf pd_5 rfl) rfl (Nat.le_of_eq rfl) (hb hby at_205) (fun _ _ => ⟨rfl, e0, (by decide : 12 + 0 ≤ _), (by decide : 43 + 0 ≤ _)⟩)
          dsimp only [Pt.U, Pt.locs, Pt.cells, Pt.slots] at X l85 y85 z85 st hQ
          subst l85 y85 z85
          obtain ⟨rfl, e0, K84⟩ := hQ
          have K := K.call K84 all0
          rw [e0] at K
          refine oWk.tr st ?_
          refine oWk.st (fun _ kt => XS.istore X.here hx rfl (hb hby at_208) rfl (l' := #[iv p0, iv p1, iv p2, iv p3, iv 1, iv 2, iv 0, rv nm, rv al, rv leaf, rv eb, rv ks, rv dd, iv 1, iv 0, uu]) rfl (XS.aload X.here hx rfl (hb hby at_210) rfl rfl kt)) ?_
          have F_block_eb := ((((((F_block_eb.ext E18).keep K19.1 (ninS ne_eb_ks nin0)).keep K65.1 (ninS ne_eb_ks nin0)).keep K67.1 (ninS ne_eb_ks (ninS ne_eb_nd139 nin0))).ext E69).keep K80.1 (ninS ne_eb_dd nin0))
          have Oh := K.old O0 all0
          have E_eb := ((E_eb.ext E69).keep K80.1)
          obtain ⟨cq87, kq87, q87a, q87b, q87c⟩ := isOf hZ e0 E_eb
          obtain ⟨_, _, ⟨T, L87, k87, n87⟩, -, X, ⟨Lc87, hQ, l87, y87, z87⟩, st⟩ := X.virtualBack hx (y := yy6) (z := yy6) hown (mvT hZ (oW hw 128 rfl)) (mvT hZ (oW hw 129 rfl)) (notFace_of_selects (args := #[]) (mvT hZ (oW hw 131 rfl))) (mvT hZ (oW hw 131 rfl)) (mvT hZ (oW hw 130 rfl)) (by decide) (backOf (W := 0) (rHB1 l Z a0 hw [] eb xl h Oh F_block_eb) hZ (oW hw 132 rfl) (oW hw 52 rfl) (by decide) (by decide)) q87a q87c (g := (mkF m 212 #[iv p0, iv p1, iv p2, iv p3, iv 1, iv 2, iv 0, rv nm, rv al, rv leaf, rv eb, rv ks, rv dd, iv 1, iv 0, uu] [(.ref eb)])) rfl (by rw [hml]; rfl) (Steps.refl _) (argsL := []) (rest := []) (lenOf pd_5 rfl) rfl (Nat.le_of_eq rfl) (hb hby at_212) (fun _ _ => ⟨rfl, e0, (by decide : 12 + 0 ≤ _), (by decide : 43 + 0 ≤ _)⟩)
          dsimp only [Pt.U, Pt.locs, Pt.cells, Pt.slots] at X l87 y87 z87 st hQ
          subst l87 y87 z87
          obtain ⟨rfl, e0, K86⟩ := hQ
          have K := K.call K86 all0
          rw [e0] at K
          refine oWk.tr st ?_
          refine oWk.st (fun _ kt => XS.istore X.here hx rfl (hb hby at_215) rfl (l' := #[iv p0, iv p1, iv p2, iv p3, iv 1, iv 2, iv 0, rv nm, rv al, rv leaf, rv eb, rv ks, rv dd, iv 1, iv 0, iv 1]) rfl (XS.iload X.here hx rfl (hb hby at_217) rfl (XS.iload X.here hx rfl (hb hby at_219) rfl (XS.icmpNo X.here hx rfl (hb hby at_221) rfl (teq (by decide)).2 (XS.iload X.here hx rfl (hb hby at_224) rfl (XS.aload X.here hx rfl (hb hby at_226) rfl rfl kt)))))) ?_
          have Oh := K.old O0 all0
          obtain ⟨cq89, kq89, q89a, q89b, q89c⟩ := isOf hZ e0 E_dd
          obtain ⟨_, _, ⟨T, L89, k89, n89⟩, -, X, ⟨Lc89, hQ, l89, y89, z89⟩, st⟩ := X.virtualBack hx (y := yy7) (z := yy7) hown (mvT hZ (oW hw 133 rfl)) (mvT hZ (oW hw 134 rfl)) (notFace_of_selects (args := #[]) (mvT hZ (oW hw 136 rfl))) (mvT hZ (oW hw 136 rfl)) (mvT hZ (oW hw 135 rfl)) (by decide) (backOf (W := 1) (rBL1 l Z a0 hw [] dd nbl80 h Oh F_block_dd) hZ (oW hw 137 rfl) (oW hw 52 rfl) (by decide) (by decide)) q89a q89c (g := (mkF m 228 #[iv p0, iv p1, iv p2, iv p3, iv 1, iv 2, iv 0, rv nm, rv al, rv leaf, rv eb, rv ks, rv dd, iv 1, iv 0, iv 1] [(.ref dd), (.int 1)])) rfl (by rw [hml]; rfl) (Steps.refl _) (argsL := []) (rest := [(.int (1 : Int32))]) (lenOf pd_6 rfl) rfl (Nat.le_of_eq rfl) (hb hby at_228) (fun _ _ => ⟨rfl, e0, (by decide : 12 + 0 ≤ _), (by decide : 43 + 0 ≤ _)⟩)
          dsimp only [Pt.U, Pt.locs, Pt.cells, Pt.slots] at X l89 y89 z89 st hQ
          subst l89 y89 z89
          obtain ⟨rfl, e0, K88⟩ := hQ
          have K := K.call K88 all0
          rw [e0] at K
          refine oWk.tr st ?_
          refine oWk.st (fun _ kt => XS.ifnullNo X.here hx rfl (hb hby at_231) rfl (XS.iconst X.here hx rfl (hb hby at_234) (XS.goto X.here hx rfl (pc0 := 235) (pc' := 239) rfl (hb hby at_235) (by decide) (by decide) (XS.icmpNo X.here hx rfl (hb hby at_239) rfl (teq (by decide)).2 (XS.iload X.here hx rfl (hb hby at_242) rfl (XS.ifNo X.here hx rfl (hb hby at_244) rfl ((if0 _ _).trans (teq (by decide)).2) (XS.iload X.here hx rfl (hb hby at_247) rfl (XS.ifNo X.here hx rfl (hb hby at_249) rfl ((if0 _ _).trans (feq (by decide)).1) kt)))))))) ?_
          show oWk _ _ _ _ T (mkF m 252 #[iv p0, iv p1, iv p2, iv p3, iv 1, iv 2, iv 0, rv nm, rv al, rv leaf, rv eb, rv ks, rv dd, iv 1, iv 0, iv 1] [])
          refine oWk.st (fun _ kt => XS.iconst X.here hx rfl (hb hby at_252) (XS.goto X.here hx rfl (pc0 := 253) (pc' := 257) rfl (hb hby at_253) (by decide) (by decide) kt)) ?_
          show oWk _ _ _ _ T (mkF m 257 #[iv p0, iv p1, iv p2, iv p3, iv 1, iv 2, iv 0, rv nm, rv al, rv leaf, rv eb, rv ks, rv dd, iv 1, iv 0, iv 1] [(.int 1)])
          exact oRetZ X hx hlk hret (hb hby at_257) (Or.inr rfl) (by rw [e0]; exact ⟨rfl, K.fr⟩) (by decide) (by decide)
      · show oWk _ _ _ _ T (mkF m 129 #[iv p0, iv p1, iv p2, iv p3, iv wb, iv 3, iv 0, rv nm, rv al, rv leaf, rv eb, rv ks, uu, uu, uu, uu] [])
        refine oWk.st (fun _ kt => XS.iload X.here hx rfl (hb hby at_129) rfl (XS.iconst X.here hx rfl (hb hby at_131) (XS.icmpNo X.here hx rfl (hb hby at_132) rfl (flt (by decide)).1 (XS.aload X.here hx rfl (hb hby at_135) rfl rfl (XS.aload X.here hx rfl (hb hby at_137) rfl rfl kt))))) ?_
        have V_xd := ((V_xd.ext E18).keep K19.1 (ninS ne_xd_ks nin0))
        have E_leaf := ((E_leaf.ext E18).keep K19.1)
        have lt_xd := V_xd.lt
        have E_nm := ((E_nm.ext E18).keep K19.1)
        have lt_nm := E_nm.lt
        have V_nmb := ((V_nmb.ext E18).keep K19.1 (ninS ne_nmb_ks nin0))
        have lt_nmb := V_nmb.lt
        have E_al := ((E_al.ext E18).keep K19.1)
        have lt_al := E_al.lt
        have lt_leaf := E_leaf.lt
        have E_a2 := ((E_a2.ext E18).keep K19.1)
        have lt_a2 := E_a2.lt
        have E_eb := ((E_eb.ext E18).keep K19.1)
        have lt_eb := E_eb.lt
        have E_a3 := ((E_a3.ext E18).keep K19.1)
        have lt_a3 := E_a3.lt
        have lt_ks := E_ks.lt
        have Oh := K.old O0 all0
        obtain ⟨cq91, kq91, q91a, q91b, q91c⟩ := isOf hZ e0 E_ks
        obtain ⟨_, _, ⟨T, L91, k91, n91⟩, -, X, ⟨Lc91, hQ, l91, y91, z91⟩, st⟩ := X.virtualBack hx (y := yy21) (z := yy21) hown (mvT hZ (oW hw 99 rfl)) (mvT hZ (oW hw 100 rfl)) (notFace_of_selects (args := #[]) (mvT hZ (oW hw 102 rfl))) (mvT hZ (oW hw 102 rfl)) (mvT hZ (oW hw 101 rfl)) (by decide) (backOf (W := 0) (rAd_0 l Z a0 hw [] ks leaf xd xk (0 : Int32) h Oh S_DEFAULTCAPACITY_EMPTY_ELEMENTDATA (Nat.le_trans O0.1 ge_ks) E_ks F_elementData_ks F_size_ks F_modCount_ks V_xd (Ins.of_exa E_leaf (oW hw 127 rfl)) (Ne.symm ne_leaf_ks) (Ne.symm ne_xd_ks)) hZ (oW hw 103 rfl) (oW hw 28 rfl) (by decide) (by decide)) q91a q91c (g := (mkF m 139 #[iv p0, iv p1, iv p2, iv p3, iv wb, iv 3, iv 0, rv nm, rv al, rv leaf, rv eb, rv ks, uu, uu, uu, uu] [(.ref leaf), (.ref ks)])) rfl (by rw [hml]; rfl) (Steps.refl _) (argsL := [(.ref leaf)]) (rest := []) (lenOf pd_13 rfl) rfl (Nat.le_of_eq rfl) (hb hby at_139) (fun _ _ => ⟨rfl, e0, (by decide : 8 + 1 ≤ _), (by decide : 25 + 10 ≤ _)⟩)
        dsimp only [Pt.U, Pt.locs, Pt.cells, Pt.slots] at X l91 y91 z91 st hQ
        subst l91 y91 z91
        obtain ⟨h, e0⟩ : ∃ z, T.heap = z := ⟨_, rfl⟩
        rw [e0] at hQ
        obtain ⟨nd139, nk139, rfl, K90, E_ks, F_elementData_ks, F_size_ks, F_modCount_ks, gn_nd139, E_nd139, V_nd139, ov_nk139⟩ := hQ
        have ge_nd139 := Nat.le_trans K.le gn_nd139
        have ne_xd_nd139 : xd ≠ nd139 := Nat.ne_of_lt (Nat.lt_of_lt_of_le lt_xd gn_nd139)
        have ne_nm_nd139 : nm ≠ nd139 := Nat.ne_of_lt (Nat.lt_of_lt_of_le lt_nm gn_nd139)
        have ne_nmb_nd139 : nmb ≠ nd139 := Nat.ne_of_lt (Nat.lt_of_lt_of_le lt_nmb gn_nd139)
        have ne_al_nd139 : al ≠ nd139 := Nat.ne_of_lt (Nat.lt_of_lt_of_le lt_al gn_nd139)
        have ne_leaf_nd139 : leaf ≠ nd139 := Nat.ne_of_lt (Nat.lt_of_lt_of_le lt_leaf gn_nd139)
        have ne_a2_nd139 : a2 ≠ nd139 := Nat.ne_of_lt (Nat.lt_of_lt_of_le lt_a2 gn_nd139)
        have ne_eb_nd139 : eb ≠ nd139 := Nat.ne_of_lt (Nat.lt_of_lt_of_le lt_eb gn_nd139)
        have ne_a3_nd139 : a3 ≠ nd139 := Nat.ne_of_lt (Nat.lt_of_lt_of_le lt_a3 gn_nd139)
        have ne_ks_nd139 : ks ≠ nd139 := Nat.ne_of_lt (Nat.lt_of_lt_of_le lt_ks gn_nd139)
        have K := K.call K90 (allS (Or.inr ge_ks) all0)
        refine oWk.tr st ?_
        refine oWk.st (fun _ kt => XS.pop X.here hx rfl (hb hby at_142) rfl rfl (XS.iload X.here hx rfl (hb hby at_143) rfl (XS.iconst X.here hx rfl (hb hby at_145) (XS.icmpNo X.here hx rfl (hb hby at_146) rfl (flt (by decide)).1 (XS.aload X.here hx rfl (hb hby at_149) rfl rfl (XS.aload X.here hx rfl (hb hby at_151) rfl rfl kt)))))) ?_
        have E_leaf := (E_leaf.keep K90.1)
        have Oh := K.old O0 all0
        obtain ⟨cq93, kq93, q93a, q93b, q93c⟩ := isOf hZ e0 E_ks
        obtain ⟨_, _, ⟨T, L93, k93, n93⟩, -, X, ⟨Lc93, hQ, l93, y93, z93⟩, st⟩ := X.virtualBack hx (y := yy21) (z := yy21) hown (mvT hZ (oW hw 99 rfl)) (mvT hZ (oW hw 100 rfl)) (notFace_of_selects (args := #[]) (mvT hZ (oW hw 102 rfl))) (mvT hZ (oW hw 102 rfl)) (mvT hZ (oW hw 101 rfl)) (by decide) (backOf (W := 0) (rAd_1 l Z a0 hw [] ks leaf nd139 nk139 ((0 : Int32) + (1 : Int32)) leaf h Oh (Nat.le_trans O0.1 ge_ks) (Nat.le_trans O0.1 ge_nd139) ne_ks_nd139 E_ks F_elementData_ks F_size_ks F_modCount_ks E_nd139 V_nd139 ov_nk139 (Ins.of_exa E_leaf (oW hw 127 rfl))) hZ (oW hw 103 rfl) (oW hw 28 rfl) (by decide) (by decide)) q93a q93c (g := (mkF m 153 #[iv p0, iv p1, iv p2, iv p3, iv wb, iv 3, iv 0, rv nm, rv al, rv leaf, rv eb, rv ks, uu, uu, uu, uu] [(.ref leaf), (.ref ks)])) rfl (by rw [hml]; rfl) (Steps.refl _) (argsL := [(.ref leaf)]) (rest := []) (lenOf pd_13 rfl) rfl (Nat.le_of_eq rfl) (hb hby at_153) (fun _ _ => ⟨rfl, e0, (by decide : 9 + 0 ≤ _), (by decide : 35 + 0 ≤ _)⟩)
        dsimp only [Pt.U, Pt.locs, Pt.cells, Pt.slots] at X l93 y93 z93 st hQ
        subst l93 y93 z93
        obtain ⟨h, e0⟩ : ∃ z, T.heap = z := ⟨_, rfl⟩
        rw [e0] at hQ
        obtain ⟨rfl, K92, E_ks, F_elementData_ks, F_size_ks, F_modCount_ks, E_nd139, V_nd139⟩ := hQ
        have K := K.call K92 (allS (Or.inr ge_ks) (allS (Or.inr ge_nd139) all0))
        refine oWk.tr st ?_
        refine oWk.st (fun _ kt => XS.pop X.here hx rfl (hb hby at_156) rfl rfl (XS.iload X.here hx rfl (hb hby at_157) rfl (XS.iconst X.here hx rfl (hb hby at_159) (XS.icmpNo X.here hx rfl (hb hby at_160) rfl (flt (by decide)).1 (XS.aload X.here hx rfl (hb hby at_163) rfl rfl (XS.aload X.here hx rfl (hb hby at_165) rfl rfl kt)))))) ?_
        have E_eb := ((E_eb.keep K90.1).keep K92.1)
        have Oh := K.old O0 all0
        obtain ⟨cq95, kq95, q95a, q95b, q95c⟩ := isOf hZ e0 E_ks
        obtain ⟨_, _, ⟨T, L95, k95, n95⟩, -, X, ⟨Lc95, hQ, l95, y95, z95⟩, st⟩ := X.virtualBack hx (y := yy21) (z := yy21) hown (mvT hZ (oW hw 99 rfl)) (mvT hZ (oW hw 100 rfl)) (notFace_of_selects (args := #[]) (mvT hZ (oW hw 102 rfl))) (mvT hZ (oW hw 102 rfl)) (mvT hZ (oW hw 101 rfl)) (by decide) (backOf (W := 0) (rAd_2 l Z a0 hw [] ks eb nd139 nk139 (((0 : Int32) + (1 : Int32)) + (1 : Int32)) leaf leaf h Oh (Nat.le_trans O0.1 ge_ks) (Nat.le_trans O0.1 ge_nd139) ne_ks_nd139 E_ks F_elementData_ks F_size_ks F_modCount_ks E_nd139 V_nd139 ov_nk139 (Ins.of_exa E_eb (oW hw 127 rfl))) hZ (oW hw 103 rfl) (oW hw 28 rfl) (by decide) (by decide)) q95a q95c (g := (mkF m 167 #[iv p0, iv p1, iv p2, iv p3, iv wb, iv 3, iv 0, rv nm, rv al, rv leaf, rv eb, rv ks, uu, uu, uu, uu] [(.ref eb), (.ref ks)])) rfl (by rw [hml]; rfl) (Steps.refl _) (argsL := [(.ref eb)]) (rest := []) (lenOf pd_13 rfl) rfl (Nat.le_of_eq rfl) (hb hby at_167) (fun _ _ => ⟨rfl, e0, (by decide : 9 + 0 ≤ _), (by decide : 35 + 0 ≤ _)⟩)
        dsimp only [Pt.U, Pt.locs, Pt.cells, Pt.slots] at X l95 y95 z95 st hQ
        subst l95 y95 z95
        obtain ⟨h, e0⟩ : ∃ z, T.heap = z := ⟨_, rfl⟩
        rw [e0] at hQ
        obtain ⟨rfl, K94, E_ks, F_elementData_ks, F_size_ks, F_modCount_ks, E_nd139, V_nd139⟩ := hQ
        have K := K.call K94 (allS (Or.inr ge_ks) (allS (Or.inr ge_nd139) all0))
        refine oWk.tr st ?_
        refine oWk.st (fun _ kt => XS.pop X.here hx rfl (hb hby at_170) rfl rfl kt) ?_
        obtain ⟨dd, g96⟩ : ∃ z, z = h.size := ⟨_, rfl⟩
        have V_xd := (((V_xd.keep K90.1 (ninS ne_xd_ks nin0)).keep K92.1 (ninS ne_xd_ks (ninS ne_xd_nd139 nin0))).keep K94.1 (ninS ne_xd_ks (ninS ne_xd_nd139 nin0)))
        have ne_xd_dd : xd ≠ dd := Nat.ne_of_lt (Nat.lt_of_lt_of_le V_xd.lt (Nat.le_of_eq g96.symm))
        have E_nm := (((E_nm.keep K90.1).keep K92.1).keep K94.1)
        have ne_nm_dd : nm ≠ dd := Nat.ne_of_lt (Nat.lt_of_lt_of_le E_nm.lt (Nat.le_of_eq g96.symm))
        have V_nmb := (((V_nmb.keep K90.1 (ninS ne_nmb_ks nin0)).keep K92.1 (ninS ne_nmb_ks (ninS ne_nmb_nd139 nin0))).keep K94.1 (ninS ne_nmb_ks (ninS ne_nmb_nd139 nin0)))
        have ne_nmb_dd : nmb ≠ dd := Nat.ne_of_lt (Nat.lt_of_lt_of_le V_nmb.lt (Nat.le_of_eq g96.symm))
        have E_al := (((E_al.keep K90.1).keep K92.1).keep K94.1)
        have ne_al_dd : al ≠ dd := Nat.ne_of_lt (Nat.lt_of_lt_of_le E_al.lt (Nat.le_of_eq g96.symm))
        have E_leaf := ((E_leaf.keep K92.1).keep K94.1)
        have ne_leaf_dd : leaf ≠ dd := Nat.ne_of_lt (Nat.lt_of_lt_of_le E_leaf.lt (Nat.le_of_eq g96.symm))
        have E_a2 := (((E_a2.keep K90.1).keep K92.1).keep K94.1)
        have ne_a2_dd : a2 ≠ dd := Nat.ne_of_lt (Nat.lt_of_lt_of_le E_a2.lt (Nat.le_of_eq g96.symm))
        have E_eb := (E_eb.keep K94.1)
        have ne_eb_dd : eb ≠ dd := Nat.ne_of_lt (Nat.lt_of_lt_of_le E_eb.lt (Nat.le_of_eq g96.symm))
        have E_a3 := (((E_a3.keep K90.1).keep K92.1).keep K94.1)
        have ne_a3_dd : a3 ≠ dd := Nat.ne_of_lt (Nat.lt_of_lt_of_le E_a3.lt (Nat.le_of_eq g96.symm))
        have ne_ks_dd : ks ≠ dd := Nat.ne_of_lt (Nat.lt_of_lt_of_le E_ks.lt (Nat.le_of_eq g96.symm))
        have ne_nd139_dd : nd139 ≠ dd := Nat.ne_of_lt (Nat.lt_of_lt_of_le E_nd139.lt (Nat.le_of_eq g96.symm))
        have ge_dd : h0.size ≤ dd := Nat.le_trans K.le (Nat.le_of_eq g96.symm)
        obtain ⟨T, h, X, e0, E96, A96, D96, -, st⟩ := newO X hx hZ hown (oW hw 50 rfl) (oW hw 51 rfl) (oW hw 52 rfl) e0 (g := (mkF m 171 #[iv p0, iv p1, iv p2, iv p3, iv wb, iv 3, iv 0, rv nm, rv al, rv leaf, rv eb, rv ks, uu, uu, uu, uu] [])) rfl (hb hby at_171) (by decide) (by decide)
        rw [← g96] at A96 D96 st
        refine oWk.st st ?_
        have K := K.ext E96
        have E_dd := A96
        have F_name_dd : Fld Z h dd "com/example/modwright/modwright/script/Directive" "name" "Ljava/lang/String;" .null := D96 (Or.inr (oW hw 92 rfl)) (ty := (.object "java/lang/String")) (by decide)
        have F_line_dd : Fld Z h dd "com/example/modwright/modwright/script/Directive" "line" "I" (.int (0 : Int32)) := D96 (Or.inr (oW hw 94 rfl)) (ty := .int) (by decide)
        have F_arguments_dd : Fld Z h dd "com/example/modwright/modwright/script/Directive" "arguments" "Ljava/util/List;" .null := D96 (Or.inr (oW hw 96 rfl)) (ty := (.object "java/util/List")) (by decide)
        have F_block_dd : Fld Z h dd "com/example/modwright/modwright/script/Directive" "block" "Ljava/util/List;" .null := D96 (Or.inr (oW hw 98 rfl)) (ty := (.object "java/util/List")) (by decide)
        refine oWk.st (fun _ kt => XS.dup X.here hx rfl (hb hby at_174) rfl rfl (XS.aload X.here hx rfl (hb hby at_175) rfl rfl (XS.iloadN X.here hx rfl (hb hby at_177) rfl (XS.aload X.here hx rfl (hb hby at_178) rfl rfl kt)))) ?_
        show oWk _ _ _ _ T (mkF m 180 #[iv p0, iv p1, iv p2, iv p3, iv wb, iv 3, iv 0, rv nm, rv al, rv leaf, rv eb, rv ks, uu, uu, uu, uu] [(.ref al), (.int p1), (.ref nm), (.ref dd), (.ref dd)])
        rcases hwb with rfl | rfl
        · show oWk _ _ _ _ T (mkF m 180 #[iv p0, iv p1, iv p2, iv p3, iv 0, iv 3, iv 0, rv nm, rv al, rv leaf, rv eb, rv ks, uu, uu, uu, uu] [(.ref al), (.int p1), (.ref nm), (.ref dd), (.ref dd)])
          refine oWk.st (fun _ kt => XS.iload X.here hx rfl (hb hby at_180) rfl (XS.ifYes X.here hx rfl (pc0 := 182) (pc' := 190) rfl (hb hby at_182) rfl ((if0 _ _).trans (teq (by decide)).1) (by decide) (by decide) (XS.aconstNull X.here hx rfl (hb hby at_190) kt))) ?_
          have E_al := (E_al.ext E96)
          have F_size_al := (((((((F_size_al.keep K16.1 (ninS ne_al_eb nin0)).ext E18).keep K19.1 (ninS ne_al_ks nin0)).keep K90.1 (ninS ne_al_ks nin0)).keep K92.1 (ninS ne_al_ks (ninS ne_al_nd139 nin0))).keep K94.1 (ninS ne_al_ks (ninS ne_al_nd139 nin0))).ext E96)
          have Oh := K.old O0 all0
          obtain ⟨_, _, ⟨T, L98, k98, n98⟩, -, X, ⟨Lc98, hQ, l98, y98, z98⟩, st⟩ := X.specialBack hx (y := yy16) rfl hown (mvT hZ (oW hw 53 rfl)) (mvT hZ (oW hw 54 rfl)) (mvT hZ (oW hw 55 rfl)) (by decide) (backOf (W := 1) (rDI_0_N l Z a0 hw [] dd nm p1 .null (.int (0 : Int32)) .null .null al xl h Oh S_EMPTY_LIST (Nat.le_trans O0.1 ge_dd) E_dd F_name_dd F_line_dd F_arguments_dd F_block_dd E_al F_size_al) hZ (oW hw 55 rfl) (oW hw 52 rfl) (by decide) (by decide)) (g := (mkF m 191 #[iv p0, iv p1, iv p2, iv p3, iv 0, iv 3, iv 0, rv nm, rv al, rv leaf, rv eb, rv ks, uu, uu, uu, uu] [.null, (.ref al), (.int p1), (.ref nm), (.ref dd), (.ref dd)])) rfl (by rw [hml]; rfl) (Steps.refl _) (a := dd) (argsL := [(.ref nm), (.int p1), (.ref al), .null]) (rest := [(.ref dd)]) (lenOf pd_8 rfl) rfl (Nat.le_of_eq rfl) (hb hby at_191) (fun _ _ => ⟨rfl, e0, (by decide : 10 + 0 ≤ _), (by decide : 39 + 0 ≤ _)⟩)
          dsimp only [Pt.U, Pt.locs, Pt.cells, Pt.slots] at X l98 y98 z98 st hQ
          subst l98 y98 z98
          obtain ⟨h, e0⟩ : ∃ z, T.heap = z := ⟨_, rfl⟩
          rw [e0] at hQ
          obtain ⟨rfl, K97, E_dd, F_block_dd⟩ := hQ
          have K := K.call K97 (allS (Or.inr ge_dd) all0)
          refine oWk.tr st ?_
          refine oWk.st (fun _ kt => XS.astore X.here hx rfl (hb hby at_194) rfl rfl (l' := #[iv p0, iv p1, iv p2, iv p3, iv 0, iv 3, iv 0, rv nm, rv al, rv leaf, rv eb, rv ks, rv dd, uu, uu, uu]) rfl (XS.aload X.here hx rfl (hb hby at_196) rfl rfl kt)) ?_
          have Oh := K.old O0 all0
          obtain ⟨cq100, kq100, q100a, q100b, q100c⟩ := isOf hZ e0 E_dd
          obtain ⟨_, _, ⟨T, L100, k100, n100⟩, -, X, ⟨Lc100, hQ, l100, y100, z100⟩, st⟩ := X.virtualBack hx (y := yy6) (z := yy6) hown (mvT hZ (oW hw 128 rfl)) (mvT hZ (oW hw 129 rfl)) (notFace_of_selects (args := #[]) (mvT hZ (oW hw 131 rfl))) (mvT hZ (oW hw 131 rfl)) (mvT hZ (oW hw 130 rfl)) (by decide) (backOf (W := 0) (rHB0 l Z a0 hw [] dd h Oh F_block_dd) hZ (oW hw 132 rfl) (oW hw 52 rfl) (by decide) (by decide)) q100a q100c (g := (mkF m 198 #[iv p0, iv p1, iv p2, iv p3, iv 0, iv 3, iv 0, rv nm, rv al, rv leaf, rv eb, rv ks, rv dd, uu, uu, uu] [(.ref dd)])) rfl (by rw [hml]; rfl) (Steps.refl _) (argsL := []) (rest := []) (lenOf pd_5 rfl) rfl (Nat.le_of_eq rfl) (hb hby at_198) (fun _ _ => ⟨rfl, e0, (by decide : 10 + 0 ≤ _), (by decide : 39 + 0 ≤ _)⟩)
          dsimp only [Pt.U, Pt.locs, Pt.cells, Pt.slots] at X l100 y100 z100 st hQ
          subst l100 y100 z100
          obtain ⟨rfl, e0, K99⟩ := hQ
          have K := K.call K99 all0
          rw [e0] at K
          refine oWk.tr st ?_
          refine oWk.st (fun _ kt => XS.istore X.here hx rfl (hb hby at_201) rfl (l' := #[iv p0, iv p1, iv p2, iv p3, iv 0, iv 3, iv 0, rv nm, rv al, rv leaf, rv eb, rv ks, rv dd, iv 0, uu, uu]) rfl (XS.aload X.here hx rfl (hb hby at_203) rfl rfl kt)) ?_
          have F_block_leaf := (((((((((((F_block_leaf.ext E12).ext E13).keep K14.1 (ninS ne_leaf_a3 nin0)).keep K16.1 (ninS ne_leaf_eb nin0)).ext E18).keep K19.1 (ninS ne_leaf_ks nin0)).keep K90.1 (ninS ne_leaf_ks nin0)).keep K92.1 (ninS ne_leaf_ks (ninS ne_leaf_nd139 nin0))).keep K94.1 (ninS ne_leaf_ks (ninS ne_leaf_nd139 nin0))).ext E96).keep K97.1 (ninS ne_leaf_dd nin0))
          have Oh := K.old O0 all0
          have E_leaf := ((E_leaf.ext E96).keep K97.1)
          obtain ⟨cq102, kq102, q102a, q102b, q102c⟩ := isOf hZ e0 E_leaf
          obtain ⟨_, _, ⟨T, L102, k102, n102⟩, -, X, ⟨Lc102, hQ, l102, y102, z102⟩, st⟩ := X.virtualBack hx (y := yy6) (z := yy6) hown (mvT hZ (oW hw 128 rfl)) (mvT hZ (oW hw 129 rfl)) (notFace_of_selects (args := #[]) (mvT hZ (oW hw 131 rfl))) (mvT hZ (oW hw 131 rfl)) (mvT hZ (oW hw 130 rfl)) (by decide) (backOf (W := 0) (rHB0 l Z a0 hw [] leaf h Oh F_block_leaf) hZ (oW hw 132 rfl) (oW hw 52 rfl) (by decide) (by decide)) q102a q102c (g := (mkF m 205 #[iv p0, iv p1, iv p2, iv p3, iv 0, iv 3, iv 0, rv nm, rv al, rv leaf, rv eb, rv ks, rv dd, iv 0, uu, uu] [(.ref leaf)])) rfl (by rw [hml]; rfl) (Steps.refl _) (argsL := []) (rest := []) (lenOf pd_5 rfl) rfl (Nat.le_of_eq rfl) (hb hby at_205) (fun _ _ => ⟨rfl, e0, (by decide : 10 + 0 ≤ _), (by decide : 39 + 0 ≤ _)⟩)
          dsimp only [Pt.U, Pt.locs, Pt.cells, Pt.slots] at X l102 y102 z102 st hQ
          subst l102 y102 z102
          obtain ⟨rfl, e0, K101⟩ := hQ
          have K := K.call K101 all0
          rw [e0] at K
          refine oWk.tr st ?_
          refine oWk.st (fun _ kt => XS.istore X.here hx rfl (hb hby at_208) rfl (l' := #[iv p0, iv p1, iv p2, iv p3, iv 0, iv 3, iv 0, rv nm, rv al, rv leaf, rv eb, rv ks, rv dd, iv 0, iv 0, uu]) rfl (XS.aload X.here hx rfl (hb hby at_210) rfl rfl kt)) ?_
          have F_block_eb := (((((((F_block_eb.ext E18).keep K19.1 (ninS ne_eb_ks nin0)).keep K90.1 (ninS ne_eb_ks nin0)).keep K92.1 (ninS ne_eb_ks (ninS ne_eb_nd139 nin0))).keep K94.1 (ninS ne_eb_ks (ninS ne_eb_nd139 nin0))).ext E96).keep K97.1 (ninS ne_eb_dd nin0))
          have Oh := K.old O0 all0
          have E_eb := ((E_eb.ext E96).keep K97.1)
          obtain ⟨cq104, kq104, q104a, q104b, q104c⟩ := isOf hZ e0 E_eb
          obtain ⟨_, _, ⟨T, L104, k104, n104⟩, -, X, ⟨Lc104, hQ, l104, y104, z104⟩, st⟩ := X.virtualBack hx (y := yy6) (z := yy6) hown (mvT hZ (oW hw 128 rfl)) (mvT hZ (oW hw 129 rfl)) (notFace_of_selects (args := #[]) (mvT hZ (oW hw 131 rfl))) (mvT hZ (oW hw 131 rfl)) (mvT hZ (oW hw 130 rfl)) (by decide) (backOf (W := 0) (rHB1 l Z a0 hw [] eb xl h Oh F_block_eb) hZ (oW hw 132 rfl) (oW hw 52 rfl) (by decide) (by decide)) q104a q104c (g := (mkF m 212 #[iv p0, iv p1, iv p2, iv p3, iv 0, iv 3, iv 0, rv nm, rv al, rv leaf, rv eb, rv ks, rv dd, iv 0, iv 0, uu] [(.ref eb)])) rfl (by rw [hml]; rfl) (Steps.refl _) (argsL := []) (rest := []) (lenOf pd_5 rfl) rfl (Nat.le_of_eq rfl) (hb hby at_212) (fun _ _ => ⟨rfl, e0, (by decide : 10 + 0 ≤ _), (by decide : 39 + 0 ≤ _)⟩)
          dsimp only [Pt.U, Pt.locs, Pt.cells, Pt.slots] at X l104 y104 z104 st hQ
          subst l104 y104 z104
          obtain ⟨rfl, e0, K103⟩ := hQ
          have K := K.call K103 all0
          rw [e0] at K
          refine oWk.tr st ?_
          refine oWk.st (fun _ kt => XS.istore X.here hx rfl (hb hby at_215) rfl (l' := #[iv p0, iv p1, iv p2, iv p3, iv 0, iv 3, iv 0, rv nm, rv al, rv leaf, rv eb, rv ks, rv dd, iv 0, iv 0, iv 1]) rfl (XS.iload X.here hx rfl (hb hby at_217) rfl (XS.iload X.here hx rfl (hb hby at_219) rfl (XS.icmpNo X.here hx rfl (hb hby at_221) rfl (teq (by decide)).2 (XS.iload X.here hx rfl (hb hby at_224) rfl (XS.aload X.here hx rfl (hb hby at_226) rfl rfl kt)))))) ?_
          have Oh := K.old O0 all0
          obtain ⟨cq106, kq106, q106a, q106b, q106c⟩ := isOf hZ e0 E_dd
          obtain ⟨_, _, ⟨T, L106, k106, n106⟩, -, X, ⟨Lc106, hQ, l106, y106, z106⟩, st⟩ := X.virtualBack hx (y := yy7) (z := yy7) hown (mvT hZ (oW hw 133 rfl)) (mvT hZ (oW hw 134 rfl)) (notFace_of_selects (args := #[]) (mvT hZ (oW hw 136 rfl))) (mvT hZ (oW hw 136 rfl)) (mvT hZ (oW hw 135 rfl)) (by decide) (backOf (W := 1) (rBL0 l Z a0 hw [] dd h Oh F_block_dd) hZ (oW hw 137 rfl) (oW hw 52 rfl) (by decide) (by decide)) q106a q106c (g := (mkF m 228 #[iv p0, iv p1, iv p2, iv p3, iv 0, iv 3, iv 0, rv nm, rv al, rv leaf, rv eb, rv ks, rv dd, iv 0, iv 0, iv 1] [(.ref dd), (.int 0)])) rfl (by rw [hml]; rfl) (Steps.refl _) (argsL := []) (rest := [(.int (0 : Int32))]) (lenOf pd_6 rfl) rfl (Nat.le_of_eq rfl) (hb hby at_228) (fun _ _ => ⟨rfl, e0, (by decide : 10 + 0 ≤ _), (by decide : 39 + 0 ≤ _)⟩)
          dsimp only [Pt.U, Pt.locs, Pt.cells, Pt.slots] at X l106 y106 z106 st hQ
          subst l106 y106 z106
          obtain ⟨rfl, e0, K105⟩ := hQ
          have K := K.call K105 all0
          rw [e0] at K
          refine oWk.tr st ?_
          refine oWk.st (fun _ kt => XS.ifnullYes X.here hx rfl (pc0 := 231) (pc' := 238) rfl (hb hby at_231) rfl (by decide) (by decide) (XS.iconst X.here hx rfl (hb hby at_238) (XS.icmpNo X.here hx rfl (hb hby at_239) rfl (teq (by decide)).2 (XS.iload X.here hx rfl (hb hby at_242) rfl (XS.ifNo X.here hx rfl (hb hby at_244) rfl ((if0 _ _).trans (teq (by decide)).2) (XS.iload X.here hx rfl (hb hby at_247) rfl (XS.ifNo X.here hx rfl (hb hby at_249) rfl ((if0 _ _).trans (feq (by decide)).1) (XS.iconst X.here hx rfl (hb hby at_252) kt)))))))) ?_
          show oWk _ _ _ _ T (mkF m 253 #[iv p0, iv p1, iv p2, iv p3, iv 0, iv 3, iv 0, rv nm, rv al, rv leaf, rv eb, rv ks, rv dd, iv 0, iv 0, iv 1] [(.int 1)])
          refine oWk.st (fun _ kt => XS.goto X.here hx rfl (pc0 := 253) (pc' := 257) rfl (hb hby at_253) (by decide) (by decide) kt) ?_
          show oWk _ _ _ _ T (mkF m 257 #[iv p0, iv p1, iv p2, iv p3, iv 0, iv 3, iv 0, rv nm, rv al, rv leaf, rv eb, rv ks, rv dd, iv 0, iv 0, iv 1] [(.int 1)])
          exact oRetZ X hx hlk hret (hb hby at_257) (Or.inr rfl) (by rw [e0]; exact ⟨rfl, K.fr⟩) (by decide) (by decide)
        · show oWk _ _ _ _ T (mkF m 180 #[iv p0, iv p1, iv p2, iv p3, iv 1, iv 3, iv 0, rv nm, rv al, rv leaf, rv eb, rv ks, uu, uu, uu, uu] [(.ref al), (.int p1), (.ref nm), (.ref dd), (.ref dd)])
          refine oWk.st (fun _ kt => XS.iload X.here hx rfl (hb hby at_180) rfl (XS.ifNo X.here hx rfl (hb hby at_182) rfl ((if0 _ _).trans (feq (by decide)).1) (XS.aload X.here hx rfl (hb hby at_185) rfl rfl (XS.goto X.here hx rfl (pc0 := 187) (pc' := 191) rfl (hb hby at_187) (by decide) (by decide) kt)))) ?_
          have E_al := (E_al.ext E96)
          have F_size_al := (((((((F_size_al.keep K16.1 (ninS ne_al_eb nin0)).ext E18).keep K19.1 (ninS ne_al_ks nin0)).keep K90.1 (ninS ne_al_ks nin0)).keep K92.1 (ninS ne_al_ks (ninS ne_al_nd139 nin0))).keep K94.1 (ninS ne_al_ks (ninS ne_al_nd139 nin0))).ext E96)
          have E_ks := (E_ks.ext E96)
          have F_elementData_ks := (F_elementData_ks.ext E96)
          have F_size_ks := (F_size_ks.ext E96)
          have E_nd139 := (E_nd139.ext E96)
          have V_nd139 := (V_nd139.ext E96)
          have E_leaf := (E_leaf.ext E96)
          have E_eb := (E_eb.ext E96)
          have Oh := K.old O0 all0
          obtain ⟨_, _, ⟨T, L108, k108, n108⟩, -, X, ⟨Lc108, hQ, l108, y108, z108⟩, st⟩ := X.specialBack hx (y := yy16) rfl hown (mvT hZ (oW hw 53 rfl)) (mvT hZ (oW hw 54 rfl)) (mvT hZ (oW hw 55 rfl)) (by decide) (backOf (W := 1) (rDI_0_3 l Z a0 hw [] dd nm p1 .null (.int (0 : Int32)) .null .null al ks nd139 nk139 leaf leaf eb xl xmr h Oh S_EMPTY_LIST mm_ (Nat.le_trans O0.1 ge_dd) E_dd F_name_dd F_line_dd F_arguments_dd F_block_dd E_al F_size_al E_ks F_elementData_ks F_size_ks E_nd139 V_nd139 (Ins.of_exa E_leaf (oW hw 127 rfl)) (Ins.of_exa E_leaf (oW hw 127 rfl)) (Ins.of_exa E_eb (oW hw 127 rfl))) hZ (oW hw 55 rfl) (oW hw 52 rfl) (by decide) (by decide)) (g := (mkF m 191 #[iv p0, iv p1, iv p2, iv p3, iv 1, iv 3, iv 0, rv nm, rv al, rv leaf, rv eb, rv ks, uu, uu, uu, uu] [(.ref ks), (.ref al), (.int p1), (.ref nm), (.ref dd), (.ref dd)])) rfl (by rw [hml]; rfl) (Steps.refl _) (a := dd) (argsL := [(.ref nm), (.int p1), (.ref al), (.ref ks)]) (rest := [(.ref dd)]) (lenOf pd_8 rfl) rfl (Nat.le_of_eq rfl) (hb hby at_191) (fun _ _ => ⟨rfl, e0, (by decide : 10 + 3 ≤ _), (by decide : 39 + 8 ≤ _)⟩)
          dsimp only [Pt.U, Pt.locs, Pt.cells, Pt.slots] at X l108 y108 z108 st hQ
          subst l108 y108 z108
          obtain ⟨h, e0⟩ : ∃ z, T.heap = z := ⟨_, rfl⟩
          rw [e0] at hQ
          obtain ⟨nbl107, rfl, K107, E_dd, F_block_dd⟩ := hQ
          have K := K.call K107 (allS (Or.inr ge_dd) all0)
          refine oWk.tr st ?_
          refine oWk.st (fun _ kt => XS.astore X.here hx rfl (hb hby at_194) rfl rfl (l' := #[iv p0, iv p1, iv p2, iv p3, iv 1, iv 3, iv 0, rv nm, rv al, rv leaf, rv eb, rv ks, rv dd, uu, uu, uu]) rfl (XS.aload X.here hx rfl (hb hby at_196) rfl rfl kt)) ?_
          have Oh := K.old O0 all0
          obtain ⟨cq110, kq110, q110a, q110b, q110c⟩ := isOf hZ e0 E_dd
          obtain ⟨_, _, ⟨T, L110, k110, n110⟩, -, X, ⟨Lc110, hQ, l110, y110, z110⟩, st⟩ := X.virtualBack hx (y := yy6) (z := yy6) hown (mvT hZ (oW hw 128 rfl)) (mvT hZ (oW hw 129 rfl)) (notFace_of_selects (args := #[]) (mvT hZ (oW hw 131 rfl))) (mvT hZ (oW hw 131 rfl)) (mvT hZ (oW hw 130 rfl)) (by decide) (backOf (W := 0) (rHB1 l Z a0 hw [] dd nbl107 h Oh F_block_dd) hZ (oW hw 132 rfl) (oW hw 52 rfl) (by decide) (by decide)) q110a q110c (g := (mkF m 198 #[iv p0, iv p1, iv p2, iv p3, iv 1, iv 3, iv 0, rv nm, rv al, rv leaf, rv eb, rv ks, rv dd, uu, uu, uu] [(.ref dd)])) rfl (by rw [hml]; rfl) (Steps.refl _) (argsL := []) (rest := []) (lenOf pd_5 rfl) rfl (Nat.le_of_eq rfl) (hb hby at_198) (fun _ _ => ⟨rfl, e0, (by decide : 13 + 0 ≤ _), (by decide : 47 + 0 ≤ _)⟩)
          dsimp only [Pt.U, Pt.locs, Pt.cells, Pt.slots] at X l110 y110 z110 st hQ
          subst l110 y110 z110
          obtain ⟨rfl, e0, K109⟩ := hQ
          have K := K.call K109 all0
          rw [e0] at K
          refine oWk.tr st ?_
          refine oWk.st (fun _ kt => XS.istore X.here hx rfl (hb hby at_201) rfl (l' := #[iv p0, iv p1, iv p2, iv p3, iv 1, iv 3, iv 0, rv nm, rv al, rv leaf, rv eb, rv ks, rv dd, iv 1, uu, uu]) rfl (XS.aload X.here hx rfl (hb hby at_203) rfl rfl kt)) ?_
          have F_block_leaf := (((((((((((F_block_leaf.ext E12).ext E13).keep K14.1 (ninS ne_leaf_a3 nin0)).keep K16.1 (ninS ne_leaf_eb nin0)).ext E18).keep K19.1 (ninS ne_leaf_ks nin0)).keep K90.1 (ninS ne_leaf_ks nin0)).keep K92.1 (ninS ne_leaf_ks (ninS ne_leaf_nd139 nin0))).keep K94.1 (ninS ne_leaf_ks (ninS ne_leaf_nd139 nin0))).ext E96).keep K107.1 (ninS ne_leaf_dd nin0))
          have Oh := K.old O0 all0
          have E_leaf := (E_leaf.keep K107.1)
          obtain ⟨cq112, kq112, q112a, q112b, q112c⟩ := isOf hZ e0 E_leaf
          obtain ⟨_, _, ⟨T, L112, k112, n112⟩, -, X, ⟨Lc112, hQ, l112, y112, z112⟩, st⟩ := X.virtualBack hx (y := yy6) (z := yy6) hown (mvT hZ (oW hw 128 rfl)) (mvT hZ (oW hw 129 rfl)) (notFace_of_selects (args := #[]) (mvT hZ (oW hw 131 rfl))) (mvT hZ (oW hw 131 rfl)) (mvT hZ (oW hw 130 rfl)) (by decide) (backOf (W := 0) (rHB0 l Z a0 hw [] leaf h Oh F_block_leaf) hZ (oW hw 132 rfl) (oW hw 52 rfl) (by decide) (by decide)) q112a q112c (g := (mkF m 205 #[iv p0, iv p1, iv p2, iv p3, iv 1, iv 3, iv 0, rv nm, rv al, rv leaf, rv eb, rv ks, rv dd, iv 1, uu, uu] [(.ref leaf)])) rfl (by rw [hml]; rfl) (Steps.refl _) (argsL := []) (rest := []) (lenOf pd_5 rfl) rfl (Nat.le_of_eq rfl) (hb hby at_205) (fun _ _ => ⟨rfl, e0, (by decide : 13 + 0 ≤ _), (by decide : 47 + 0 ≤ _)⟩)
          dsimp only [Pt.U, Pt.locs, Pt.cells, Pt.slots] at X l112 y112 z112 st hQ
          subst l112 y112 z112
          obtain ⟨rfl, e0, K111⟩ := hQ
          have K := K.call K111 all0
          rw [e0] at K
          refine oWk.tr st ?_
          refine oWk.st (fun _ kt => XS.istore X.here hx rfl (hb hby at_208) rfl (l' := #[iv p0, iv p1, iv p2, iv p3, iv 1, iv 3, iv 0, rv nm, rv al, rv leaf, rv eb, rv ks, rv dd, iv 1, iv 0, uu]) rfl (XS.aload X.here hx rfl (hb hby at_210) rfl rfl kt)) ?_
          have F_block_eb := (((((((F_block_eb.ext E18).keep K19.1 (ninS ne_eb_ks nin0)).keep K90.1 (ninS ne_eb_ks nin0)).keep K92.1 (ninS ne_eb_ks (ninS ne_eb_nd139 nin0))).keep K94.1 (ninS ne_eb_ks (ninS ne_eb_nd139 nin0))).ext E96).keep K107.1 (ninS ne_eb_dd nin0))
          have Oh := K.old O0 all0
          have E_eb := (E_eb.keep K107.1)
          obtain ⟨cq114, kq114, q114a, q114b, q114c⟩ := isOf hZ e0 E_eb
          obtain ⟨_, _, ⟨T, L114, k114, n114⟩, -, X, ⟨Lc114, hQ, l114, y114, z114⟩, st⟩ := X.virtualBack hx (y := yy6) (z := yy6) hown (mvT hZ (oW hw 128 rfl)) (mvT hZ (oW hw 129 rfl)) (notFace_of_selects (args := #[]) (mvT hZ (oW hw 131 rfl))) (mvT hZ (oW hw 131 rfl)) (mvT hZ (oW hw 130 rfl)) (by decide) (backOf (W := 0) (rHB1 l Z a0 hw [] eb xl h Oh F_block_eb) hZ (oW hw 132 rfl) (oW hw 52 rfl) (by decide) (by decide)) q114a q114c (g := (mkF m 212 #[iv p0, iv p1, iv p2, iv p3, iv 1, iv 3, iv 0, rv nm, rv al, rv leaf, rv eb, rv ks, rv dd, iv 1, iv 0, uu] [(.ref eb)])) rfl (by rw [hml]; rfl) (Steps.refl _) (argsL := []) (rest := []) (lenOf pd_5 rfl) rfl (Nat.le_of_eq rfl) (hb hby at_212) (fun _ _ => ⟨rfl, e0, (by decide : 13 + 0 ≤ _), (by decide : 47 + 0 ≤ _)⟩)
          dsimp only [Pt.U, Pt.locs, Pt.cells, Pt.slots] at X l114 y114 z114 st hQ
          subst l114 y114 z114
          obtain ⟨rfl, e0, K113⟩ := hQ
          have K := K.call K113 all0
          rw [e0] at K
          refine oWk.tr st ?_
          refine oWk.st (fun _ kt => XS.istore X.here hx rfl (hb hby at_215) rfl (l' := #[iv p0, iv p1, iv p2, iv p3, iv 1, iv 3, iv 0, rv nm, rv al, rv leaf, rv eb, rv ks, rv dd, iv 1, iv 0, iv 1]) rfl (XS.iload X.here hx rfl (hb hby at_217) rfl (XS.iload X.here hx rfl (hb hby at_219) rfl (XS.icmpNo X.here hx rfl (hb hby at_221) rfl (teq (by decide)).2 (XS.iload X.here hx rfl (hb hby at_224) rfl (XS.aload X.here hx rfl (hb hby at_226) rfl rfl kt)))))) ?_
          have Oh := K.old O0 all0
          obtain ⟨cq116, kq116, q116a, q116b, q116c⟩ := isOf hZ e0 E_dd
          obtain ⟨_, _, ⟨T, L116, k116, n116⟩, -, X, ⟨Lc116, hQ, l116, y116, z116⟩, st⟩ := X.virtualBack hx (y := yy7) (z := yy7) hown (mvT hZ (oW hw 133 rfl)) (mvT hZ (oW hw 134 rfl)) (notFace_of_selects (args := #[]) (mvT hZ (oW hw 136 rfl))) (mvT hZ (oW hw 136 rfl)) (mvT hZ (oW hw 135 rfl)) (by decide) (backOf (W := 1) (rBL1 l Z a0 hw [] dd nbl107 h Oh F_block_dd) hZ (oW hw 137 rfl) (oW hw 52 rfl) (by decide) (by decide)) q116a q116c (g := (mkF m 228 #[iv p0, iv p1, iv p2, iv p3, iv 1, iv 3, iv 0, rv nm, rv al, rv leaf, rv eb, rv ks, rv dd, iv 1, iv 0, iv 1] [(.ref dd), (.int 1)])) rfl (by rw [hml]; rfl) (Steps.refl _) (argsL := []) (rest := [(.int (1 : Int32))]) (lenOf pd_6 rfl) rfl (Nat.le_of_eq rfl) (hb hby at_228) (fun _ _ => ⟨rfl, e0, (by decide : 13 + 0 ≤ _), (by decide : 47 + 0 ≤ _)⟩)
          dsimp only [Pt.U, Pt.locs, Pt.cells, Pt.slots] at X l116 y116 z116 st hQ
          subst l116 y116 z116
          obtain ⟨rfl, e0, K115⟩ := hQ
          have K := K.call K115 all0
          rw [e0] at K
          refine oWk.tr st ?_
          refine oWk.st (fun _ kt => XS.ifnullNo X.here hx rfl (hb hby at_231) rfl (XS.iconst X.here hx rfl (hb hby at_234) (XS.goto X.here hx rfl (pc0 := 235) (pc' := 239) rfl (hb hby at_235) (by decide) (by decide) (XS.icmpNo X.here hx rfl (hb hby at_239) rfl (teq (by decide)).2 (XS.iload X.here hx rfl (hb hby at_242) rfl (XS.ifNo X.here hx rfl (hb hby at_244) rfl ((if0 _ _).trans (teq (by decide)).2) (XS.iload X.here hx rfl (hb hby at_247) rfl (XS.ifNo X.here hx rfl (hb hby at_249) rfl ((if0 _ _).trans (feq (by decide)).1) kt)))))))) ?_
          show oWk _ _ _ _ T (mkF m 252 #[iv p0, iv p1, iv p2, iv p3, iv 1, iv 3, iv 0, rv nm, rv al, rv leaf, rv eb, rv ks, rv dd, iv 1, iv 0, iv 1] [])
          refine oWk.st (fun _ kt => XS.iconst X.here hx rfl (hb hby at_252) (XS.goto X.here hx rfl (pc0 := 253) (pc' := 257) rfl (hb hby at_253) (by decide) (by decide) kt)) ?_
          show oWk _ _ _ _ T (mkF m 257 #[iv p0, iv p1, iv p2, iv p3, iv 1, iv 3, iv 0, rv nm, rv al, rv leaf, rv eb, rv ks, rv dd, iv 1, iv 0, iv 1] [(.int 1)])
          exact oRetZ X hx hlk hret (hb hby at_257) (Or.inr rfl) (by rw [e0]; exact ⟨rfl, K.fr⟩) (by decide) (by decide)
    · refine oWk.st (fun _ kt => XS.ifNo X.here hx rfl (hb hby at_24) rfl ((if0 _ _).trans (feq hc24).1) kt) ?_
      show oWk _ _ _ _ T (mkF m 27 #[iv p0, iv p1, iv p2, iv p3, iv wb, iv nn, uu, uu, uu, uu, uu, uu, uu, uu, uu, uu] [])
      refine oWk.st (fun _ kt => XS.iconst X.here hx rfl (hb hby at_27) (XS.goto X.here hx rfl (pc0 := 28) (pc' := 32) rfl (hb hby at_28) (by decide) (by decide) (XS.istore X.here hx rfl (hb hby at_32) rfl (l' := #[iv p0, iv p1, iv p2, iv p3, iv wb, iv nn, iv 1, uu, uu, uu, uu, uu, uu, uu, uu, uu]) rfl (XS.iloadN X.here hx rfl (hb hby at_34) rfl (XS.sipush X.here hx rfl (hb hby at_35) (XS.iand X.here hx rfl (hb hby at_38) rfl (XS.i2c X.here hx rfl (hb hby at_39) rfl kt))))))) ?_
      show oWk _ _ _ _ T (mkF m 40 #[iv p0, iv p1, iv p2, iv p3, iv wb, iv nn, iv 1, uu, uu, uu, uu, uu, uu, uu, uu, uu] [(.int ((p0 &&& (255 : Int32)).toUInt32.toUInt16.toUInt32.toInt32))])
      rw [oChr (oM255 _)]
      show oWk _ _ _ _ T (mkF m 40 #[iv p0, iv p1, iv p2, iv p3, iv wb, iv nn, iv 1, uu, uu, uu, uu, uu, uu, uu, uu, uu] [(.int (p0 &&& (255 : Int32)))])
      have lt_xd := V_xd.lt
      have Oh := K.old O0 all0
      obtain ⟨_, _, ⟨T, L118, k118, n118⟩, -, X, ⟨Lc118, hQ, l118, y118, z118⟩, st⟩ := Jvm.LawKit.callS X hx (y := yy3) hown (mvT hZ (oW hw 0 rfl)) (mvT hZ (oW hw 1 rfl)) (mvT hZ (oW hw 2 rfl)) (mvT hZ (oW hw 3 rfl)) (by decide) (backOf (W := 0) (rVal l Z a0 hw [] (p0 &&& (255 : Int32)) xz h0 Oh S_COMPACT_STRINGS hz (oLe255 (oM255 _))) hZ (oW hw 3 rfl) (oW hw 2 rfl) (by decide) (by decide)) (g := (mkF m 40 #[iv p0, iv p1, iv p2, iv p3, iv wb, iv nn, iv 1, uu, uu, uu, uu, uu, uu, uu, uu, uu] [(.int (p0 &&& (255 : Int32)))])) rfl (by rw [hml]; rfl) (argsL := [(.int (p0 &&& (255 : Int32)))]) (rest := []) (lenOf pd_4 rfl) rfl (Nat.le_of_eq rfl) (hb hby at_40) (fun _ _ => ⟨rfl, e0, (by decide : 0 + 2 ≤ _), (by decide : 0 + 5 ≤ _)⟩)
      dsimp only [Pt.U, Pt.locs, Pt.cells, Pt.slots] at X l118 y118 z118 st hQ
      subst l118 y118 z118
      obtain ⟨h, e0⟩ : ∃ z, T.heap = z := ⟨_, rfl⟩
      rw [e0] at hQ
      obtain ⟨nm, nmb, nmk, rfl, K117, gn_nm, gn_nmb, E_nm, F_value_nm, F_coder_nm, V_nmb, hnn117⟩ := hQ
      have ge_nm := Nat.le_trans K.le gn_nm
      have ne_xd_nm : xd ≠ nm := Nat.ne_of_lt (Nat.lt_of_lt_of_le lt_xd gn_nm)
      have ge_nmb := Nat.le_trans K.le gn_nmb
      have ne_xd_nmb : xd ≠ nmb := Nat.ne_of_lt (Nat.lt_of_lt_of_le lt_xd gn_nmb)
      have K := K.call K117 all0
      refine oWk.st st ?_
      refine oWk.st (fun _ kt => XS.astore X.here hx rfl (hb hby at_43) rfl rfl (l' := #[iv p0, iv p1, iv p2, iv p3, iv wb, iv nn, iv 1, rv nm, uu, uu, uu, uu, uu, uu, uu, uu]) rfl kt) ?_
      obtain ⟨al, g119⟩ : ∃ z, z = h.size := ⟨_, rfl⟩
      have V_xd := (V_xd.keep K117.1 nin0)
      have ne_xd_al : xd ≠ al := Nat.ne_of_lt (Nat.lt_of_lt_of_le V_xd.lt (Nat.le_of_eq g119.symm))
      have ne_nm_al : nm ≠ al := Nat.ne_of_lt (Nat.lt_of_lt_of_le E_nm.lt (Nat.le_of_eq g119.symm))
      have ne_nmb_al : nmb ≠ al := Nat.ne_of_lt (Nat.lt_of_lt_of_le V_nmb.lt (Nat.le_of_eq g119.symm))
      have ge_al : h0.size ≤ al := Nat.le_trans K.le (Nat.le_of_eq g119.symm)
      obtain ⟨T, h, X, e0, E119, A119, D119, -, st⟩ := newO X hx hZ hown (oW hw 26 rfl) (oW hw 27 rfl) (oW hw 28 rfl) e0 (g := (mkF m 45 #[iv p0, iv p1, iv p2, iv p3, iv wb, iv nn, iv 1, rv nm, uu, uu, uu, uu, uu, uu, uu, uu] [])) rfl (hb hby at_45) (by decide) (by decide)
      rw [← g119] at A119 D119 st
      refine oWk.st st ?_
      have K := K.ext E119
      have E_al := A119
      have F_modCount_al : Fld Z h al "java/util/AbstractList" "modCount" "I" (.int (0 : Int32)) := D119 (Or.inl (oW hw 46 rfl)) (ty := .int) (by decide)
      have F_elementData_al : Fld Z h al "java/util/ArrayList" "elementData" "[Ljava/lang/Object;" .null := D119 (Or.inl (oW hw 49 rfl)) (ty := (.array (.object "java/lang/Object"))) (by decide)
      have F_size_al : Fld Z h al "java/util/ArrayList" "size" "I" (.int (0 : Int32)) := D119 (Or.inl (oW hw 86 rfl)) (ty := .int) (by decide)
      refine oWk.st (fun _ kt => XS.dup X.here hx rfl (hb hby at_48) rfl rfl kt) ?_
      have Oh := K.old O0 all0
      obtain ⟨_, _, ⟨T, L121, k121, n121⟩, -, X, ⟨Lc121, hQ, l121, y121, z121⟩, st⟩ := X.specialBack hx (y := yy10) rfl hown (mvT hZ (oW hw 29 rfl)) (mvT hZ (oW hw 30 rfl)) (mvT hZ (oW hw 31 rfl)) (by decide) (backOf (W := 1) (rAL l Z a0 hw [] al xd (.int (0 : Int32)) .null h Oh S_DEFAULTCAPACITY_EMPTY_ELEMENTDATA (Nat.le_trans O0.1 ge_al) E_al F_elementData_al F_size_al F_modCount_al) hZ (oW hw 31 rfl) (oW hw 28 rfl) (by decide) (by decide)) (g := (mkF m 49 #[iv p0, iv p1, iv p2, iv p3, iv wb, iv nn, iv 1, rv nm, uu, uu, uu, uu, uu, uu, uu, uu] [(.ref al), (.ref al)])) rfl (by rw [hml]; rfl) (Steps.refl _) (a := al) (argsL := []) (rest := [(.ref al)]) (lenOf pd_3 rfl) rfl (Nat.le_of_eq rfl) (hb hby at_49) (fun _ _ => ⟨rfl, e0, (by decide : 3 + 0 ≤ _), (by decide : 8 + 0 ≤ _)⟩)
      dsimp only [Pt.U, Pt.locs, Pt.cells, Pt.slots] at X l121 y121 z121 st hQ
      subst l121 y121 z121
      obtain ⟨h, e0⟩ : ∃ z, T.heap = z := ⟨_, rfl⟩
      rw [e0] at hQ
      obtain ⟨rfl, K120, E_al, F_elementData_al, F_size_al, F_modCount_al⟩ := hQ
      have K := K.call K120 (allS (Or.inr ge_al) all0)
      refine oWk.tr st ?_
      refine oWk.st (fun _ kt => XS.astore X.here hx rfl (hb hby at_52) rfl rfl (l' := #[iv p0, iv p1, iv p2, iv p3, iv wb, iv nn, iv 1, rv nm, rv al, uu, uu, uu, uu, uu, uu, uu]) rfl (XS.iload X.here hx rfl (hb hby at_54) rfl (XS.ifNo X.here hx rfl (hb hby at_56) rfl ((if0 _ _).trans (feq (by decide)).1) (XS.aload X.here hx rfl (hb hby at_59) rfl rfl kt)))) ?_
      obtain ⟨mk, g122⟩ : ∃ z, z = h.size := ⟨_, rfl⟩
      have V_xd := ((V_xd.ext E119).keep K120.1 (ninS ne_xd_al nin0))
      have ne_xd_mk : xd ≠ mk := Nat.ne_of_lt (Nat.lt_of_lt_of_le V_xd.lt (Nat.le_of_eq g122.symm))
      have E_nm := ((E_nm.ext E119).keep K120.1)
      have ne_nm_mk : nm ≠ mk := Nat.ne_of_lt (Nat.lt_of_lt_of_le E_nm.lt (Nat.le_of_eq g122.symm))
      have V_nmb := ((V_nmb.ext E119).keep K120.1 (ninS ne_nmb_al nin0))
      have ne_nmb_mk : nmb ≠ mk := Nat.ne_of_lt (Nat.lt_of_lt_of_le V_nmb.lt (Nat.le_of_eq g122.symm))
      have ne_al_mk : al ≠ mk := Nat.ne_of_lt (Nat.lt_of_lt_of_le E_al.lt (Nat.le_of_eq g122.symm))
      have ge_mk : h0.size ≤ mk := Nat.le_trans K.le (Nat.le_of_eq g122.symm)
      obtain ⟨T, h, X, e0, E122, A122, D122, -, st⟩ := newO X hx hZ hown (oW hw 138 rfl) (oW hw 139 rfl) (oW hw 140 rfl) e0 (g := (mkF m 61 #[iv p0, iv p1, iv p2, iv p3, iv wb, iv nn, iv 1, rv nm, rv al, uu, uu, uu, uu, uu, uu, uu] [(.ref al)])) rfl (hb hby at_61) (by decide) (by decide)
      rw [← g122] at A122 D122 st
      refine oWk.st st ?_
      have K := K.ext E122
      have E_mk := A122
      have F_symbol_mk : Fld Z h mk "com/example/modwright/modwright/script/Argument$Mark" "symbol" "C" (.int (0 : Int32)) := D122 (Or.inr (oW hw 146 rfl)) (ty := .char) (by decide)
      have F_line_mk : Fld Z h mk "com/example/modwright/modwright/script/Argument$Mark" "line" "I" (.int (0 : Int32)) := D122 (Or.inr (oW hw 148 rfl)) (ty := .int) (by decide)
      refine oWk.st (fun _ kt => XS.dup X.here hx rfl (hb hby at_64) rfl rfl (XS.iloadN X.here hx rfl (hb hby at_65) rfl (XS.sipush X.here hx rfl (hb hby at_66) (XS.iand X.here hx rfl (hb hby at_69) rfl (XS.i2c X.here hx rfl (hb hby at_70) rfl kt))))) ?_
      show oWk _ _ _ _ T (mkF m 71 #[iv p0, iv p1, iv p2, iv p3, iv wb, iv nn, iv 1, rv nm, rv al, uu, uu, uu, uu, uu, uu, uu] [(.int ((p3 &&& (255 : Int32)).toUInt32.toUInt16.toUInt32.toInt32)), (.ref mk), (.ref mk), (.ref al)])
      rw [oChr (oM255 _)]
      show oWk _ _ _ _ T (mkF m 71 #[iv p0, iv p1, iv p2, iv p3, iv wb, iv nn, iv 1, rv nm, rv al, uu, uu, uu, uu, uu, uu, uu] [(.int (p3 &&& (255 : Int32))), (.ref mk), (.ref mk), (.ref al)])
      refine oWk.st (fun _ kt => XS.iloadN X.here hx rfl (hb hby at_71) rfl kt) ?_
      have Oh := K.old O0 all0
      obtain ⟨_, _, ⟨T, L124, k124, n124⟩, -, X, ⟨Lc124, hQ, l124, y124, z124⟩, st⟩ := X.specialBack hx (y := yy5) rfl hown (mvT hZ (oW hw 141 rfl)) (mvT hZ (oW hw 142 rfl)) (mvT hZ (oW hw 143 rfl)) (by decide) (backOf (W := 2) (rMk l Z a0 hw [] mk (p3 &&& (255 : Int32)) p1 (.int (0 : Int32)) (.int (0 : Int32)) h Oh (Nat.le_trans O0.1 ge_mk) E_mk F_symbol_mk F_line_mk (oM255 _)) hZ (oW hw 143 rfl) (oW hw 140 rfl) (by decide) (by decide)) (g := (mkF m 72 #[iv p0, iv p1, iv p2, iv p3, iv wb, iv nn, iv 1, rv nm, rv al, uu, uu, uu, uu, uu, uu, uu] [(.int p1), (.int (p3 &&& (255 : Int32))), (.ref mk), (.ref mk), (.ref al)])) rfl (by rw [hml]; rfl) (Steps.refl _) (a := mk) (argsL := [(.int (p3 &&& (255 : Int32))), (.int p1)]) (rest := [(.ref mk), (.ref al)]) (lenOf pd_21 rfl) rfl (Nat.le_of_eq rfl) (hb hby at_72) (fun _ _ => ⟨rfl, e0, (by decide : 4 + 0 ≤ _), (by decide : 10 + 0 ≤ _)⟩)
      dsimp only [Pt.U, Pt.locs, Pt.cells, Pt.slots] at X l124 y124 z124 st hQ
      subst l124 y124 z124
      obtain ⟨h, e0⟩ : ∃ z, T.heap = z := ⟨_, rfl⟩
      rw [e0] at hQ
      obtain ⟨rfl, K123, E_mk⟩ := hQ
      have K := K.call K123 (allS (Or.inr ge_mk) all0)
      refine oWk.tr st ?_
      have E_al := ((E_al.ext E122).keep K123.1)
      have F_elementData_al := ((F_elementData_al.ext E122).keep K123.1 (ninS ne_al_mk nin0))
      have F_size_al := ((F_size_al.ext E122).keep K123.1 (ninS ne_al_mk nin0))
      have F_modCount_al := ((F_modCount_al.ext E122).keep K123.1 (ninS ne_al_mk nin0))
      have V_xd := ((V_xd.ext E122).keep K123.1 (ninS ne_xd_mk nin0))
      have lt_xd := V_xd.lt
      have E_nm := ((E_nm.ext E122).keep K123.1)
      have lt_nm := E_nm.lt
      have V_nmb := ((V_nmb.ext E122).keep K123.1 (ninS ne_nmb_mk nin0))
      have lt_nmb := V_nmb.lt
      have lt_al := E_al.lt
      have lt_mk := E_mk.lt
      have Oh := K.old O0 all0
      obtain ⟨cq126, kq126, q126a, q126b, q126c⟩ := isOf hZ e0 E_al
      obtain ⟨_, _, ⟨T, L126, k126, n126⟩, -, X, ⟨Lc126, hQ, l126, y126, z126⟩, st⟩ := X.virtualBack hx (y := yy21) (z := yy21) hown (mvT hZ (oW hw 99 rfl)) (mvT hZ (oW hw 100 rfl)) (notFace_of_selects (args := #[]) (mvT hZ (oW hw 102 rfl))) (mvT hZ (oW hw 102 rfl)) (mvT hZ (oW hw 101 rfl)) (by decide) (backOf (W := 0) (rAd_0 l Z a0 hw [] al mk xd xk (0 : Int32) h Oh S_DEFAULTCAPACITY_EMPTY_ELEMENTDATA (Nat.le_trans O0.1 ge_al) E_al F_elementData_al F_size_al F_modCount_al V_xd (Ins.of_exa E_mk (oW hw 149 rfl)) ne_al_mk (Ne.symm ne_xd_al)) hZ (oW hw 103 rfl) (oW hw 28 rfl) (by decide) (by decide)) q126a q126c (g := (mkF m 75 #[iv p0, iv p1, iv p2, iv p3, iv wb, iv nn, iv 1, rv nm, rv al, uu, uu, uu, uu, uu, uu, uu] [(.ref mk), (.ref al)])) rfl (by rw [hml]; rfl) (Steps.refl _) (argsL := [(.ref mk)]) (rest := []) (lenOf pd_13 rfl) rfl (Nat.le_of_eq rfl) (hb hby at_75) (fun _ _ => ⟨rfl, e0, (by decide : 4 + 1 ≤ _), (by decide : 10 + 10 ≤ _)⟩)
      dsimp only [Pt.U, Pt.locs, Pt.cells, Pt.slots] at X l126 y126 z126 st hQ
      subst l126 y126 z126
      obtain ⟨h, e0⟩ : ∃ z, T.heap = z := ⟨_, rfl⟩
      rw [e0] at hQ
      obtain ⟨nd75, nk75, rfl, K125, E_al, F_elementData_al, F_size_al, F_modCount_al, gn_nd75, E_nd75, V_nd75, ov_nk75⟩ := hQ
      have ge_nd75 := Nat.le_trans K.le gn_nd75
      have ne_xd_nd75 : xd ≠ nd75 := Nat.ne_of_lt (Nat.lt_of_lt_of_le lt_xd gn_nd75)
      have ne_nm_nd75 : nm ≠ nd75 := Nat.ne_of_lt (Nat.lt_of_lt_of_le lt_nm gn_nd75)
      have ne_nmb_nd75 : nmb ≠ nd75 := Nat.ne_of_lt (Nat.lt_of_lt_of_le lt_nmb gn_nd75)
      have ne_al_nd75 : al ≠ nd75 := Nat.ne_of_lt (Nat.lt_of_lt_of_le lt_al gn_nd75)
      have ne_mk_nd75 : mk ≠ nd75 := Nat.ne_of_lt (Nat.lt_of_lt_of_le lt_mk gn_nd75)
      have K := K.call K125 (allS (Or.inr ge_al) all0)
      refine oWk.tr st ?_
      refine oWk.st (fun _ kt => XS.pop X.here hx rfl (hb hby at_78) rfl rfl kt) ?_
      obtain ⟨leaf, g127⟩ : ∃ z, z = h.size := ⟨_, rfl⟩
      have V_xd := (V_xd.keep K125.1 (ninS ne_xd_al nin0))
      have ne_xd_leaf : xd ≠ leaf := Nat.ne_of_lt (Nat.lt_of_lt_of_le V_xd.lt (Nat.le_of_eq g127.symm))
      have E_nm := (E_nm.keep K125.1)
      have ne_nm_leaf : nm ≠ leaf := Nat.ne_of_lt (Nat.lt_of_lt_of_le E_nm.lt (Nat.le_of_eq g127.symm))
      have V_nmb := (V_nmb.keep K125.1 (ninS ne_nmb_al nin0))
      have ne_nmb_leaf : nmb ≠ leaf := Nat.ne_of_lt (Nat.lt_of_lt_of_le V_nmb.lt (Nat.le_of_eq g127.symm))
      have ne_al_leaf : al ≠ leaf := Nat.ne_of_lt (Nat.lt_of_lt_of_le E_al.lt (Nat.le_of_eq g127.symm))
      have E_mk := (E_mk.keep K125.1)
      have ne_mk_leaf : mk ≠ leaf := Nat.ne_of_lt (Nat.lt_of_lt_of_le E_mk.lt (Nat.le_of_eq g127.symm))
      have ne_nd75_leaf : nd75 ≠ leaf := Nat.ne_of_lt (Nat.lt_of_lt_of_le E_nd75.lt (Nat.le_of_eq g127.symm))
      have ge_leaf : h0.size ≤ leaf := Nat.le_trans K.le (Nat.le_of_eq g127.symm)
      obtain ⟨T, h, X, e0, E127, A127, D127, -, st⟩ := newO X hx hZ hown (oW hw 50 rfl) (oW hw 51 rfl) (oW hw 52 rfl) e0 (g := (mkF m 79 #[iv p0, iv p1, iv p2, iv p3, iv wb, iv nn, iv 1, rv nm, rv al, uu, uu, uu, uu, uu, uu, uu] [])) rfl (hb hby at_79) (by decide) (by decide)
      rw [← g127] at A127 D127 st
      refine oWk.st st ?_
      have K := K.ext E127
      have E_leaf := A127
      have F_name_leaf : Fld Z h leaf "com/example/modwright/modwright/script/Directive" "name" "Ljava/lang/String;" .null := D127 (Or.inr (oW hw 92 rfl)) (ty := (.object "java/lang/String")) (by decide)
      have F_line_leaf : Fld Z h leaf "com/example/modwright/modwright/script/Directive" "line" "I" (.int (0 : Int32)) := D127 (Or.inr (oW hw 94 rfl)) (ty := .int) (by decide)
      have F_arguments_leaf : Fld Z h leaf "com/example/modwright/modwright/script/Directive" "arguments" "Ljava/util/List;" .null := D127 (Or.inr (oW hw 96 rfl)) (ty := (.object "java/util/List")) (by decide)
      have F_block_leaf : Fld Z h leaf "com/example/modwright/modwright/script/Directive" "block" "Ljava/util/List;" .null := D127 (Or.inr (oW hw 98 rfl)) (ty := (.object "java/util/List")) (by decide)
      refine oWk.st (fun _ kt => XS.dup X.here hx rfl (hb hby at_82) rfl rfl (XS.aload X.here hx rfl (hb hby at_83) rfl rfl (XS.iloadN X.here hx rfl (hb hby at_85) rfl kt))) ?_
      obtain ⟨a2, g128⟩ : ∃ z, z = h.size := ⟨_, rfl⟩
      have V_xd := (V_xd.ext E127)
      have ne_xd_a2 : xd ≠ a2 := Nat.ne_of_lt (Nat.lt_of_lt_of_le V_xd.lt (Nat.le_of_eq g128.symm))
      have E_nm := (E_nm.ext E127)
      have ne_nm_a2 : nm ≠ a2 := Nat.ne_of_lt (Nat.lt_of_lt_of_le E_nm.lt (Nat.le_of_eq g128.symm))
      have V_nmb := (V_nmb.ext E127)
      have ne_nmb_a2 : nmb ≠ a2 := Nat.ne_of_lt (Nat.lt_of_lt_of_le V_nmb.lt (Nat.le_of_eq g128.symm))
      have E_al := (E_al.ext E127)
      have ne_al_a2 : al ≠ a2 := Nat.ne_of_lt (Nat.lt_of_lt_of_le E_al.lt (Nat.le_of_eq g128.symm))
      have E_mk := (E_mk.ext E127)
      have ne_mk_a2 : mk ≠ a2 := Nat.ne_of_lt (Nat.lt_of_lt_of_le E_mk.lt (Nat.le_of_eq g128.symm))
      have E_nd75 := (E_nd75.ext E127)
      have ne_nd75_a2 : nd75 ≠ a2 := Nat.ne_of_lt (Nat.lt_of_lt_of_le E_nd75.lt (Nat.le_of_eq g128.symm))
      have ne_leaf_a2 : leaf ≠ a2 := Nat.ne_of_lt (Nat.lt_of_lt_of_le E_leaf.lt (Nat.le_of_eq g128.symm))
      have ge_a2 : h0.size ≤ a2 := Nat.le_trans K.le (Nat.le_of_eq g128.symm)
      obtain ⟨T, h, X, e0, E128, A128, D128, -, st⟩ := newO X hx hZ hown (oW hw 26 rfl) (oW hw 27 rfl) (oW hw 28 rfl) e0 (g := (mkF m 86 #[iv p0, iv p1, iv p2, iv p3, iv wb, iv nn, iv 1, rv nm, rv al, uu, uu, uu, uu, uu, uu, uu] [(.int p1), (.ref nm), (.ref leaf), (.ref leaf)])) rfl (hb hby at_86) (by decide) (by decide)
      rw [← g128] at A128 D128 st
      refine oWk.st st ?_
      have K := K.ext E128
      have E_a2 := A128
      have F_modCount_a2 : Fld Z h a2 "java/util/AbstractList" "modCount" "I" (.int (0 : Int32)) := D128 (Or.inl (oW hw 46 rfl)) (ty := .int) (by decide)
      have F_elementData_a2 : Fld Z h a2 "java/util/ArrayList" "elementData" "[Ljava/lang/Object;" .null := D128 (Or.inl (oW hw 49 rfl)) (ty := (.array (.object "java/lang/Object"))) (by decide)
      have F_size_a2 : Fld Z h a2 "java/util/ArrayList" "size" "I" (.int (0 : Int32)) := D128 (Or.inl (oW hw 86 rfl)) (ty := .int) (by decide)
      refine oWk.st (fun _ kt => XS.dup X.here hx rfl (hb hby at_89) rfl rfl kt) ?_
      have Oh := K.old O0 all0
      obtain ⟨_, _, ⟨T, L130, k130, n130⟩, -, X, ⟨Lc130, hQ, l130, y130, z130⟩, st⟩ := X.specialBack hx (y := yy10) rfl hown (mvT hZ (oW hw 29 rfl)) (mvT hZ (oW hw 30 rfl)) (mvT hZ (oW hw 31 rfl)) (by decide) (backOf (W := 5) (rAL l Z a0 hw [] a2 xd (.int (0 : Int32)) .null h Oh S_DEFAULTCAPACITY_EMPTY_ELEMENTDATA (Nat.le_trans O0.1 ge_a2) E_a2 F_elementData_a2 F_size_a2 F_modCount_a2) hZ (oW hw 31 rfl) (oW hw 28 rfl) (by decide) (by decide)) (g := (mkF m 90 #[iv p0, iv p1, iv p2, iv p3, iv wb, iv nn, iv 1, rv nm, rv al, uu, uu, uu, uu, uu, uu, uu] [(.ref a2), (.ref a2), (.int p1), (.ref nm), (.ref leaf), (.ref leaf)])) rfl (by rw [hml]; rfl) (Steps.refl _) (a := a2) (argsL := []) (rest := [(.ref a2), (.int p1), (.ref nm), (.ref leaf), (.ref leaf)]) (lenOf pd_3 rfl) rfl (Nat.le_of_eq rfl) (hb hby at_90) (fun _ _ => ⟨rfl, e0, (by decide : 7 + 0 ≤ _), (by decide : 27 + 0 ≤ _)⟩)
      dsimp only [Pt.U, Pt.locs, Pt.cells, Pt.slots] at X l130 y130 z130 st hQ
      subst l130 y130 z130
      obtain ⟨h, e0⟩ : ∃ z, T.heap = z := ⟨_, rfl⟩
      rw [e0] at hQ
      obtain ⟨rfl, K129, E_a2, F_elementData_a2, F_size_a2, F_modCount_a2⟩ := hQ
      have K := K.call K129 (allS (Or.inr ge_a2) all0)
      refine oWk.tr st ?_
      refine oWk.st (fun _ kt => XS.aconstNull X.here hx rfl (hb hby at_93) kt) ?_
      have E_leaf := ((E_leaf.ext E128).keep K129.1)
      have F_name_leaf := ((F_name_leaf.ext E128).keep K129.1 (ninS ne_leaf_a2 nin0))
      have F_line_leaf := ((F_line_leaf.ext E128).keep K129.1 (ninS ne_leaf_a2 nin0))
      have F_arguments_leaf := ((F_arguments_leaf.ext E128).keep K129.1 (ninS ne_leaf_a2 nin0))
      have F_block_leaf := ((F_block_leaf.ext E128).keep K129.1 (ninS ne_leaf_a2 nin0))
      have Oh := K.old O0 all0
      obtain ⟨_, _, ⟨T, L132, k132, n132⟩, -, X, ⟨Lc132, hQ, l132, y132, z132⟩, st⟩ := X.specialBack hx (y := yy16) rfl hown (mvT hZ (oW hw 53 rfl)) (mvT hZ (oW hw 54 rfl)) (mvT hZ (oW hw 55 rfl)) (by decide) (backOf (W := 1) (rDI_0_N l Z a0 hw [] leaf nm p1 .null (.int (0 : Int32)) .null .null a2 xl h Oh S_EMPTY_LIST (Nat.le_trans O0.1 ge_leaf) E_leaf F_name_leaf F_line_leaf F_arguments_leaf F_block_leaf E_a2 F_size_a2) hZ (oW hw 55 rfl) (oW hw 52 rfl) (by decide) (by decide)) (g := (mkF m 94 #[iv p0, iv p1, iv p2, iv p3, iv wb, iv nn, iv 1, rv nm, rv al, uu, uu, uu, uu, uu, uu, uu] [.null, (.ref a2), (.int p1), (.ref nm), (.ref leaf), (.ref leaf)])) rfl (by rw [hml]; rfl) (Steps.refl _) (a := leaf) (argsL := [(.ref nm), (.int p1), (.ref a2), .null]) (rest := [(.ref leaf)]) (lenOf pd_8 rfl) rfl (Nat.le_of_eq rfl) (hb hby at_94) (fun _ _ => ⟨rfl, e0, (by decide : 7 + 0 ≤ _), (by decide : 27 + 0 ≤ _)⟩)
      dsimp only [Pt.U, Pt.locs, Pt.cells, Pt.slots] at X l132 y132 z132 st hQ
      subst l132 y132 z132
      obtain ⟨h, e0⟩ : ∃ z, T.heap = z := ⟨_, rfl⟩
      rw [e0] at hQ
      obtain ⟨rfl, K131, E_leaf, F_block_leaf⟩ := hQ
      have K := K.call K131 (allS (Or.inr ge_leaf) all0)
      refine oWk.tr st ?_
      refine oWk.st (fun _ kt => XS.astore X.here hx rfl (hb hby at_97) rfl rfl (l' := #[iv p0, iv p1, iv p2, iv p3, iv wb, iv nn, iv 1, rv nm, rv al, rv leaf, uu, uu, uu, uu, uu, uu]) rfl kt) ?_
      obtain ⟨eb, g133⟩ : ∃ z, z = h.size := ⟨_, rfl⟩
      have V_xd := (((V_xd.ext E128).keep K129.1 (ninS ne_xd_a2 nin0)).keep K131.1 (ninS ne_xd_leaf nin0))
      have ne_xd_eb : xd ≠ eb := Nat.ne_of_lt (Nat.lt_of_lt_of_le V_xd.lt (Nat.le_of_eq g133.symm))
      have E_nm := (((E_nm.ext E128).keep K129.1).keep K131.1)
      have ne_nm_eb : nm ≠ eb := Nat.ne_of_lt (Nat.lt_of_lt_of_le E_nm.lt (Nat.le_of_eq g133.symm))
      have V_nmb := (((V_nmb.ext E128).keep K129.1 (ninS ne_nmb_a2 nin0)).keep K131.1 (ninS ne_nmb_leaf nin0))
      have ne_nmb_eb : nmb ≠ eb := Nat.ne_of_lt (Nat.lt_of_lt_of_le V_nmb.lt (Nat.le_of_eq g133.symm))
      have E_al := (((E_al.ext E128).keep K129.1).keep K131.1)
      have ne_al_eb : al ≠ eb := Nat.ne_of_lt (Nat.lt_of_lt_of_le E_al.lt (Nat.le_of_eq g133.symm))
      have E_mk := (((E_mk.ext E128).keep K129.1).keep K131.1)
      have ne_mk_eb : mk ≠ eb := Nat.ne_of_lt (Nat.lt_of_lt_of_le E_mk.lt (Nat.le_of_eq g133.symm))
      have E_nd75 := (((E_nd75.ext E128).keep K129.1).keep K131.1)
      have ne_nd75_eb : nd75 ≠ eb := Nat.ne_of_lt (Nat.lt_of_lt_of_le E_nd75.lt (Nat.le_of_eq g133.symm))
      have ne_leaf_eb : leaf ≠ eb := Nat.ne_of_lt (Nat.lt_of_lt_of_le E_leaf.lt (Nat.le_of_eq g133.symm))
      have E_a2 := (E_a2.keep K131.1)
      have ne_a2_eb : a2 ≠ eb := Nat.ne_of_lt (Nat.lt_of_lt_of_le E_a2.lt (Nat.le_of_eq g133.symm))
      have ge_eb : h0.size ≤ eb := Nat.le_trans K.le (Nat.le_of_eq g133.symm)
      obtain ⟨T, h, X, e0, E133, A133, D133, -, st⟩ := newO X hx hZ hown (oW hw 50 rfl) (oW hw 51 rfl) (oW hw 52 rfl) e0 (g := (mkF m 99 #[iv p0, iv p1, iv p2, iv p3, iv wb, iv nn, iv 1, rv nm, rv al, rv leaf, uu, uu, uu, uu, uu, uu] [])) rfl (hb hby at_99) (by decide) (by decide)
      rw [← g133] at A133 D133 st
      refine oWk.st st ?_
      have K := K.ext E133
      have E_eb := A133
      have F_name_eb : Fld Z h eb "com/example/modwright/modwright/script/Directive" "name" "Ljava/lang/String;" .null := D133 (Or.inr (oW hw 92 rfl)) (ty := (.object "java/lang/String")) (by decide)
      have F_line_eb : Fld Z h eb "com/example/modwright/modwright/script/Directive" "line" "I" (.int (0 : Int32)) := D133 (Or.inr (oW hw 94 rfl)) (ty := .int) (by decide)
      have F_arguments_eb : Fld Z h eb "com/example/modwright/modwright/script/Directive" "arguments" "Ljava/util/List;" .null := D133 (Or.inr (oW hw 96 rfl)) (ty := (.object "java/util/List")) (by decide)
      have F_block_eb : Fld Z h eb "com/example/modwright/modwright/script/Directive" "block" "Ljava/util/List;" .null := D133 (Or.inr (oW hw 98 rfl)) (ty := (.object "java/util/List")) (by decide)
      refine oWk.st (fun _ kt => XS.dup X.here hx rfl (hb hby at_102) rfl rfl (XS.aload X.here hx rfl (hb hby at_103) rfl rfl (XS.iloadN X.here hx rfl (hb hby at_105) rfl (XS.aload X.here hx rfl (hb hby at_106) rfl rfl kt)))) ?_
      obtain ⟨a3, g134⟩ : ∃ z, z = h.size := ⟨_, rfl⟩
      have V_xd := (V_xd.ext E133)
      have ne_xd_a3 : xd ≠ a3 := Nat.ne_of_lt (Nat.lt_of_lt_of_le V_xd.lt (Nat.le_of_eq g134.symm))
      have E_nm := (E_nm.ext E133)
      have ne_nm_a3 : nm ≠ a3 := Nat.ne_of_lt (Nat.lt_of_lt_of_le E_nm.lt (Nat.le_of_eq g134.symm))
      have V_nmb := (V_nmb.ext E133)
      have ne_nmb_a3 : nmb ≠ a3 := Nat.ne_of_lt (Nat.lt_of_lt_of_le V_nmb.lt (Nat.le_of_eq g134.symm))
      have E_al := (E_al.ext E133)
      have ne_al_a3 : al ≠ a3 := Nat.ne_of_lt (Nat.lt_of_lt_of_le E_al.lt (Nat.le_of_eq g134.symm))
      have E_mk := (E_mk.ext E133)
      have ne_mk_a3 : mk ≠ a3 := Nat.ne_of_lt (Nat.lt_of_lt_of_le E_mk.lt (Nat.le_of_eq g134.symm))
      have E_nd75 := (E_nd75.ext E133)
      have ne_nd75_a3 : nd75 ≠ a3 := Nat.ne_of_lt (Nat.lt_of_lt_of_le E_nd75.lt (Nat.le_of_eq g134.symm))
      have E_leaf := (E_leaf.ext E133)
      have ne_leaf_a3 : leaf ≠ a3 := Nat.ne_of_lt (Nat.lt_of_lt_of_le E_leaf.lt (Nat.le_of_eq g134.symm))
      have E_a2 := (E_a2.ext E133)
      have ne_a2_a3 : a2 ≠ a3 := Nat.ne_of_lt (Nat.lt_of_lt_of_le E_a2.lt (Nat.le_of_eq g134.symm))
      have ne_eb_a3 : eb ≠ a3 := Nat.ne_of_lt (Nat.lt_of_lt_of_le E_eb.lt (Nat.le_of_eq g134.symm))
      have ge_a3 : h0.size ≤ a3 := Nat.le_trans K.le (Nat.le_of_eq g134.symm)
      obtain ⟨T, h, X, e0, E134, A134, D134, -, st⟩ := newO X hx hZ hown (oW hw 26 rfl) (oW hw 27 rfl) (oW hw 28 rfl) e0 (g := (mkF m 108 #[iv p0, iv p1, iv p2, iv p3, iv wb, iv nn, iv 1, rv nm, rv al, rv leaf, uu, uu, uu, uu, uu, uu] [(.ref al), (.int p1), (.ref nm), (.ref eb), (.ref eb)])) rfl (hb hby at_108) (by decide) (by decide)
      rw [← g134] at A134 D134 st
      refine oWk.st st ?_
      have K := K.ext E134
      have E_a3 := A134
      have F_modCount_a3 : Fld Z h a3 "java/util/AbstractList" "modCount" "I" (.int (0 : Int32)) := D134 (Or.inl (oW hw 46 rfl)) (ty := .int) (by decide)
      have F_elementData_a3 : Fld Z h a3 "java/util/ArrayList" "elementData" "[Ljava/lang/Object;" .null := D134 (Or.inl (oW hw 49 rfl)) (ty := (.array (.object "java/lang/Object"))) (by decide)
      have F_size_a3 : Fld Z h a3 "java/util/ArrayList" "size" "I" (.int (0 : Int32)) := D134 (Or.inl (oW hw 86 rfl)) (ty := .int) (by decide)
      refine oWk.st (fun _ kt => XS.dup X.here hx rfl (hb hby at_111) rfl rfl kt) ?_
      have Oh := K.old O0 all0
      obtain ⟨_, _, ⟨T, L136, k136, n136⟩, -, X, ⟨Lc136, hQ, l136, y136, z136⟩, st⟩ := X.specialBack hx (y := yy10) rfl hown (mvT hZ (oW hw 29 rfl)) (mvT hZ (oW hw 30 rfl)) (mvT hZ (oW hw 31 rfl)) (by decide) (backOf (W := 6) (rAL l Z a0 hw [] a3 xd (.int (0 : Int32)) .null h Oh S_DEFAULTCAPACITY_EMPTY_ELEMENTDATA (Nat.le_trans O0.1 ge_a3) E_a3 F_elementData_a3 F_size_a3 F_modCount_a3) hZ (oW hw 31 rfl) (oW hw 28 rfl) (by decide) (by decide)) (g := (mkF m 112 #[iv p0, iv p1, iv p2, iv p3, iv wb, iv nn, iv 1, rv nm, rv al, rv leaf, uu, uu, uu, uu, uu, uu] [(.ref a3), (.ref a3), (.ref al), (.int p1), (.ref nm), (.ref eb), (.ref eb)])) rfl (by rw [hml]; rfl) (Steps.refl _) (a := a3) (argsL := []) (rest := [(.ref a3), (.ref al), (.int p1), (.ref nm), (.ref eb), (.ref eb)]) (lenOf pd_3 rfl) rfl (Nat.le_of_eq rfl) (hb hby at_112) (fun _ _ => ⟨rfl, e0, (by decide : 9 + 0 ≤ _), (by decide : 34 + 0 ≤ _)⟩)
      dsimp only [Pt.U, Pt.locs, Pt.cells, Pt.slots] at X l136 y136 z136 st hQ
      subst l136 y136 z136
      obtain ⟨h, e0⟩ : ∃ z, T.heap = z := ⟨_, rfl⟩
      rw [e0] at hQ
      obtain ⟨rfl, K135, E_a3, F_elementData_a3, F_size_a3, F_modCount_a3⟩ := hQ
      have K := K.call K135 (allS (Or.inr ge_a3) all0)
      refine oWk.tr st ?_
      have E_eb := ((E_eb.ext E134).keep K135.1)
      have F_name_eb := ((F_name_eb.ext E134).keep K135.1 (ninS ne_eb_a3 nin0))
      have F_line_eb := ((F_line_eb.ext E134).keep K135.1 (ninS ne_eb_a3 nin0))
      have F_arguments_eb := ((F_arguments_eb.ext E134).keep K135.1 (ninS ne_eb_a3 nin0))
      have F_block_eb := ((F_block_eb.ext E134).keep K135.1 (ninS ne_eb_a3 nin0))
      have E_al := ((E_al.ext E134).keep K135.1)
      have F_elementData_al := (((((((F_elementData_al.ext E127).ext E128).keep K129.1 (ninS ne_al_a2 nin0)).keep K131.1 (ninS ne_al_leaf nin0)).ext E133).ext E134).keep K135.1 (ninS ne_al_a3 nin0))
      have F_size_al := (((((((F_size_al.ext E127).ext E128).keep K129.1 (ninS ne_al_a2 nin0)).keep K131.1 (ninS ne_al_leaf nin0)).ext E133).ext E134).keep K135.1 (ninS ne_al_a3 nin0))
      have E_nd75 := ((E_nd75.ext E134).keep K135.1)
      have V_nd75 := (((((((V_nd75.ext E127).ext E128).keep K129.1 (ninS ne_nd75_a2 nin0)).keep K131.1 (ninS ne_nd75_leaf nin0)).ext E133).ext E134).keep K135.1 (ninS ne_nd75_a3 nin0))
      have E_mk := ((E_mk.ext E134).keep K135.1)
      have Oh := K.old O0 all0
      obtain ⟨_, _, ⟨T, L138, k138, n138⟩, -, X, ⟨Lc138, hQ, l138, y138, z138⟩, st⟩ := X.specialBack hx (y := yy16) rfl hown (mvT hZ (oW hw 53 rfl)) (mvT hZ (oW hw 54 rfl)) (mvT hZ (oW hw 55 rfl)) (by decide) (backOf (W := 1) (rDI_1_0 l Z a0 hw [] eb nm p1 .null (.int (0 : Int32)) .null .null al nd75 nk75 mk a3 xl xq xmr h Oh S_EMPTY_LIST S_EMPTY mm_ (Nat.le_trans O0.1 ge_eb) E_eb F_name_eb F_line_eb F_arguments_eb F_block_eb E_al F_elementData_al F_size_al E_nd75 V_nd75 (Ins.of_exa E_mk (oW hw 149 rfl)) E_a3 F_size_a3) hZ (oW hw 55 rfl) (oW hw 52 rfl) (by decide) (by decide)) (g := (mkF m 115 #[iv p0, iv p1, iv p2, iv p3, iv wb, iv nn, iv 1, rv nm, rv al, rv leaf, uu, uu, uu, uu, uu, uu] [(.ref a3), (.ref al), (.int p1), (.ref nm), (.ref eb), (.ref eb)])) rfl (by rw [hml]; rfl) (Steps.refl _) (a := eb) (argsL := [(.ref nm), (.int p1), (.ref al), (.ref a3)]) (rest := [(.ref eb)]) (lenOf pd_8 rfl) rfl (Nat.le_of_eq rfl) (hb hby at_115) (fun _ _ => ⟨rfl, e0, (by decide : 9 + 2 ≤ _), (by decide : 34 + 3 ≤ _)⟩)
      dsimp only [Pt.U, Pt.locs, Pt.cells, Pt.slots] at X l138 y138 z138 st hQ
      subst l138 y138 z138
      obtain ⟨h, e0⟩ : ∃ z, T.heap = z := ⟨_, rfl⟩
      rw [e0] at hQ
      obtain ⟨rfl, K137, E_eb, F_block_eb⟩ := hQ
      have K := K.call K137 (allS (Or.inr ge_eb) all0)
      refine oWk.tr st ?_
      refine oWk.st (fun _ kt => XS.astore X.here hx rfl (hb hby at_118) rfl rfl (l' := #[iv p0, iv p1, iv p2, iv p3, iv wb, iv nn, iv 1, rv nm, rv al, rv leaf, rv eb, uu, uu, uu, uu, uu]) rfl kt) ?_
      obtain ⟨ks, g139⟩ : ∃ z, z = h.size := ⟨_, rfl⟩
      have V_xd := (((V_xd.ext E134).keep K135.1 (ninS ne_xd_a3 nin0)).keep K137.1 (ninS ne_xd_eb nin0))
      have ne_xd_ks : xd ≠ ks := Nat.ne_of_lt (Nat.lt_of_lt_of_le V_xd.lt (Nat.le_of_eq g139.symm))
      have E_nm := (((E_nm.ext E134).keep K135.1).keep K137.1)
      have ne_nm_ks : nm ≠ ks := Nat.ne_of_lt (Nat.lt_of_lt_of_le E_nm.lt (Nat.le_of_eq g139.symm))
      have V_nmb := (((V_nmb.ext E134).keep K135.1 (ninS ne_nmb_a3 nin0)).keep K137.1 (ninS ne_nmb_eb nin0))
      have ne_nmb_ks : nmb ≠ ks := Nat.ne_of_lt (Nat.lt_of_lt_of_le V_nmb.lt (Nat.le_of_eq g139.symm))
      have E_al := (E_al.keep K137.1)
      have ne_al_ks : al ≠ ks := Nat.ne_of_lt (Nat.lt_of_lt_of_le E_al.lt (Nat.le_of_eq g139.symm))
      have E_mk := (E_mk.keep K137.1)
      have ne_mk_ks : mk ≠ ks := Nat.ne_of_lt (Nat.lt_of_lt_of_le E_mk.lt (Nat.le_of_eq g139.symm))
      have E_nd75 := (E_nd75.keep K137.1)
      have ne_nd75_ks : nd75 ≠ ks := Nat.ne_of_lt (Nat.lt_of_lt_of_le E_nd75.lt (Nat.le_of_eq g139.symm))
      have E_leaf := (((E_leaf.ext E134).keep K135.1).keep K137.1)
      have ne_leaf_ks : leaf ≠ ks := Nat.ne_of_lt (Nat.lt_of_lt_of_le E_leaf.lt (Nat.le_of_eq g139.symm))
      have E_a2 := (((E_a2.ext E134).keep K135.1).keep K137.1)
      have ne_a2_ks : a2 ≠ ks := Nat.ne_of_lt (Nat.lt_of_lt_of_le E_a2.lt (Nat.le_of_eq g139.symm))
      have ne_eb_ks : eb ≠ ks := Nat.ne_of_lt (Nat.lt_of_lt_of_le E_eb.lt (Nat.le_of_eq g139.symm))
      have E_a3 := (E_a3.keep K137.1)
      have ne_a3_ks : a3 ≠ ks := Nat.ne_of_lt (Nat.lt_of_lt_of_le E_a3.lt (Nat.le_of_eq g139.symm))
      have ge_ks : h0.size ≤ ks := Nat.le_trans K.le (Nat.le_of_eq g139.symm)
      obtain ⟨T, h, X, e0, E139, A139, D139, -, st⟩ := newO X hx hZ hown (oW hw 26 rfl) (oW hw 27 rfl) (oW hw 28 rfl) e0 (g := (mkF m 120 #[iv p0, iv p1, iv p2, iv p3, iv wb, iv nn, iv 1, rv nm, rv al, rv leaf, rv eb, uu, uu, uu, uu, uu] [])) rfl (hb hby at_120) (by decide) (by decide)
      rw [← g139] at A139 D139 st
      refine oWk.st st ?_
      have K := K.ext E139
      have E_ks := A139
      have F_modCount_ks : Fld Z h ks "java/util/AbstractList" "modCount" "I" (.int (0 : Int32)) := D139 (Or.inl (oW hw 46 rfl)) (ty := .int) (by decide)
      have F_elementData_ks : Fld Z h ks "java/util/ArrayList" "elementData" "[Ljava/lang/Object;" .null := D139 (Or.inl (oW hw 49 rfl)) (ty := (.array (.object "java/lang/Object"))) (by decide)
      have F_size_ks : Fld Z h ks "java/util/ArrayList" "size" "I" (.int (0 : Int32)) := D139 (Or.inl (oW hw 86 rfl)) (ty := .int) (by decide)
      refine oWk.st (fun _ kt => XS.dup X.here hx rfl (hb hby at_123) rfl rfl kt) ?_
      have Oh := K.old O0 all0
      obtain ⟨_, _, ⟨T, L141, k141, n141⟩, -, X, ⟨Lc141, hQ, l141, y141, z141⟩, st⟩ := X.specialBack hx (y := yy10) rfl hown (mvT hZ (oW hw 29 rfl)) (mvT hZ (oW hw 30 rfl)) (mvT hZ (oW hw 31 rfl)) (by decide) (backOf (W := 1) (rAL l Z a0 hw [] ks xd (.int (0 : Int32)) .null h Oh S_DEFAULTCAPACITY_EMPTY_ELEMENTDATA (Nat.le_trans O0.1 ge_ks) E_ks F_elementData_ks F_size_ks F_modCount_ks) hZ (oW hw 31 rfl) (oW hw 28 rfl) (by decide) (by decide)) (g := (mkF m 124 #[iv p0, iv p1, iv p2, iv p3, iv wb, iv nn, iv 1, rv nm, rv al, rv leaf, rv eb, uu, uu, uu, uu, uu] [(.ref ks), (.ref ks)])) rfl (by rw [hml]; rfl) (Steps.refl _) (a := ks) (argsL := []) (rest := [(.ref ks)]) (lenOf pd_3 rfl) rfl (Nat.le_of_eq rfl) (hb hby at_124) (fun _ _ => ⟨rfl, e0, (by decide : 12 + 0 ≤ _), (by decide : 40 + 0 ≤ _)⟩)
      dsimp only [Pt.U, Pt.locs, Pt.cells, Pt.slots] at X l141 y141 z141 st hQ
      subst l141 y141 z141
      obtain ⟨h, e0⟩ : ∃ z, T.heap = z := ⟨_, rfl⟩
      rw [e0] at hQ
      obtain ⟨rfl, K140, E_ks, F_elementData_ks, F_size_ks, F_modCount_ks⟩ := hQ
      have K := K.call K140 (allS (Or.inr ge_ks) all0)
      refine oWk.tr st ?_
      refine oWk.st (fun _ kt => XS.astore X.here hx rfl (hb hby at_127) rfl rfl (l' := #[iv p0, iv p1, iv p2, iv p3, iv wb, iv nn, iv 1, rv nm, rv al, rv leaf, rv eb, rv ks, uu, uu, uu, uu]) rfl kt) ?_
      show oWk _ _ _ _ T (mkF m 129 #[iv p0, iv p1, iv p2, iv p3, iv wb, iv nn, iv 1, rv nm, rv al, rv leaf, rv eb, rv ks, uu, uu, uu, uu] [])
      rcases cn with rfl | rfl | rfl | rfl
      · show oWk _ _ _ _ T (mkF m 129 #[iv p0, iv p1, iv p2, iv p3, iv wb, iv 0, iv 1, rv nm, rv al, rv leaf, rv eb, rv ks, uu, uu, uu, uu] [])
        refine oWk.st (fun _ kt => XS.iload X.here hx rfl (hb hby at_129) rfl (XS.iconst X.here hx rfl (hb hby at_131) (XS.icmpYes X.here hx rfl (pc0 := 132) (pc' := 143) rfl (hb hby at_132) rfl (tlt (by decide)).1 (by decide) (by decide) (XS.iload X.here hx rfl (hb hby at_143) rfl (XS.iconst X.here hx rfl (hb hby at_145) (XS.icmpYes X.here hx rfl (pc0 := 146) (pc' := 157) rfl (hb hby at_146) rfl (tlt (by decide)).1 (by decide) (by decide) (XS.iload X.here hx rfl (hb hby at_157) rfl (XS.iconst X.here hx rfl (hb hby at_159) kt)))))))) ?_
        show oWk _ _ _ _ T (mkF m 160 #[iv p0, iv p1, iv p2, iv p3, iv wb, iv 0, iv 1, rv nm, rv al, rv leaf, rv eb, rv ks, uu, uu, uu, uu] [(.int 3), (.int 0)])
        refine oWk.st (fun _ kt => XS.icmpYes X.here hx rfl (pc0 := 160) (pc' := 171) rfl (hb hby at_160) rfl (tlt (by decide)).1 (by decide) (by decide) kt) ?_
        obtain ⟨dd, g142⟩ : ∃ z, z = h.size := ⟨_, rfl⟩
        have V_xd := ((V_xd.ext E139).keep K140.1 (ninS ne_xd_ks nin0))
        have ne_xd_dd : xd ≠ dd := Nat.ne_of_lt (Nat.lt_of_lt_of_le V_xd.lt (Nat.le_of_eq g142.symm))
        have E_nm := ((E_nm.ext E139).keep K140.1)
        have ne_nm_dd : nm ≠ dd := Nat.ne_of_lt (Nat.lt_of_lt_of_le E_nm.lt (Nat.le_of_eq g142.symm))
        have V_nmb := ((V_nmb.ext E139).keep K140.1 (ninS ne_nmb_ks nin0))
        have ne_nmb_dd : nmb ≠ dd := Nat.ne_of_lt (Nat.lt_of_lt_of_le V_nmb.lt (Nat.le_of_eq g142.symm))
        have E_al := ((E_al.ext E139).keep K140.1)
        have ne_al_dd : al ≠ dd := Nat.ne_of_lt (Nat.lt_of_lt_of_le E_al.lt (Nat.le_of_eq g142.symm))
        have E_mk := ((E_mk.ext E139).keep K140.1)
        have ne_mk_dd : mk ≠ dd := Nat.ne_of_lt (Nat.lt_of_lt_of_le E_mk.lt (Nat.le_of_eq g142.symm))
        have E_nd75 := ((E_nd75.ext E139).keep K140.1)
        have ne_nd75_dd : nd75 ≠ dd := Nat.ne_of_lt (Nat.lt_of_lt_of_le E_nd75.lt (Nat.le_of_eq g142.symm))
        have E_leaf := ((E_leaf.ext E139).keep K140.1)
        have ne_leaf_dd : leaf ≠ dd := Nat.ne_of_lt (Nat.lt_of_lt_of_le E_leaf.lt (Nat.le_of_eq g142.symm))
        have E_a2 := ((E_a2.ext E139).keep K140.1)
        have ne_a2_dd : a2 ≠ dd := Nat.ne_of_lt (Nat.lt_of_lt_of_le E_a2.lt (Nat.le_of_eq g142.symm))
        have E_eb := ((E_eb.ext E139).keep K140.1)
        have ne_eb_dd : eb ≠ dd := Nat.ne_of_lt (Nat.lt_of_lt_of_le E_eb.lt (Nat.le_of_eq g142.symm))
        have E_a3 := ((E_a3.ext E139).keep K140.1)
        have ne_a3_dd : a3 ≠ dd := Nat.ne_of_lt (Nat.lt_of_lt_of_le E_a3.lt (Nat.le_of_eq g142.symm))
        have ne_ks_dd : ks ≠ dd := Nat.ne_of_lt (Nat.lt_of_lt_of_le E_ks.lt (Nat.le_of_eq g142.symm))
        have ge_dd : h0.size ≤ dd := Nat.le_trans K.le (Nat.le_of_eq g142.symm)
        obtain ⟨T, h, X, e0, E142, A142, D142, -, st⟩ := newO X hx hZ hown (oW hw 50 rfl) (oW hw 51 rfl) (oW hw 52 rfl) e0 (g := (mkF m 171 #[iv p0, iv p1, iv p2, iv p3, iv wb, iv 0, iv 1, rv nm, rv al, rv leaf, rv eb, rv ks, uu, uu, uu, uu] [])) rfl (hb hby at_171) (by decide) (by decide)
        rw [← g142] at A142 D142 st
        refine oWk.st st ?_
        have K := K.ext E142
        have E_dd := A142
        have F_name_dd : Fld Z h dd "com/example/modwright/modwright/script/Directive" "name" "Ljava/lang/String;" .null := D142 (Or.inr (oW hw 92 rfl)) (ty := (.object "java/lang/String")) (by decide)
        have F_line_dd : Fld Z h dd "com/example/modwright/modwright/script/Directive" "line" "I" (.int (0 : Int32)) := D142 (Or.inr (oW hw 94 rfl)) (ty := .int) (by decide)
        have F_arguments_dd : Fld Z h dd "com/example/modwright/modwright/script/Directive" "arguments" "Ljava/util/List;" .null := D142 (Or.inr (oW hw 96 rfl)) (ty := (.object "java/util/List")) (by decide)
        have F_block_dd : Fld Z h dd "com/example/modwright/modwright/script/Directive" "block" "Ljava/util/List;" .null := D142 (Or.inr (oW hw 98 rfl)) (ty := (.object "java/util/List")) (by decide)
        refine oWk.st (fun _ kt => XS.dup X.here hx rfl (hb hby at_174) rfl rfl (XS.aload X.here hx rfl (hb hby at_175) rfl rfl (XS.iloadN X.here hx rfl (hb hby at_177) rfl (XS.aload X.here hx rfl (hb hby at_178) rfl rfl kt)))) ?_
        show oWk _ _ _ _ T (mkF m 180 #[iv p0, iv p1, iv p2, iv p3, iv wb, iv 0, iv 1, rv nm, rv al, rv leaf, rv eb, rv ks, uu, uu, uu, uu] [(.ref al), (.int p1), (.ref nm), (.ref dd), (.ref dd)])
        rcases hwb with rfl | rfl
        · show oWk _ _ _ _ T (mkF m 180 #[iv p0, iv p1, iv p2, iv p3, iv 0, iv 0, iv 1, rv nm, rv al, rv leaf, rv eb, rv ks, uu, uu, uu, uu] [(.ref al), (.int p1), (.ref nm), (.ref dd), (.ref dd)])
          refine oWk.st (fun _ kt => XS.iload X.here hx rfl (hb hby at_180) rfl (XS.ifYes X.here hx rfl (pc0 := 182) (pc' := 190) rfl (hb hby at_182) rfl ((if0 _ _).trans (teq (by decide)).1) (by decide) (by decide) (XS.aconstNull X.here hx rfl (hb hby at_190) kt))) ?_
          have E_al := (E_al.ext E142)
          have F_elementData_al := ((((F_elementData_al.keep K137.1 (ninS ne_al_eb nin0)).ext E139).keep K140.1 (ninS ne_al_ks nin0)).ext E142)
          have F_size_al := ((((F_size_al.keep K137.1 (ninS ne_al_eb nin0)).ext E139).keep K140.1 (ninS ne_al_ks nin0)).ext E142)
          have E_nd75 := (E_nd75.ext E142)
          have V_nd75 := ((((V_nd75.keep K137.1 (ninS ne_nd75_eb nin0)).ext E139).keep K140.1 (ninS ne_nd75_ks nin0)).ext E142)
          have E_mk := (E_mk.ext E142)
          have Oh := K.old O0 all0
          obtain ⟨_, _, ⟨T, L144, k144, n144⟩, -, X, ⟨Lc144, hQ, l144, y144, z144⟩, st⟩ := X.specialBack hx (y := yy16) rfl hown (mvT hZ (oW hw 53 rfl)) (mvT hZ (oW hw 54 rfl)) (mvT hZ (oW hw 55 rfl)) (by decide) (backOf (W := 1) (rDI_1_N l Z a0 hw [] dd nm p1 .null (.int (0 : Int32)) .null .null al nd75 nk75 mk xq xmr h Oh S_EMPTY mm_ (Nat.le_trans O0.1 ge_dd) E_dd F_name_dd F_line_dd F_arguments_dd F_block_dd E_al F_elementData_al F_size_al E_nd75 V_nd75 (Ins.of_exa E_mk (oW hw 149 rfl))) hZ (oW hw 55 rfl) (oW hw 52 rfl) (by decide) (by decide)) (g := (mkF m 191 #[iv p0, iv p1, iv p2, iv p3, iv 0, iv 0, iv 1, rv nm, rv al, rv leaf, rv eb, rv ks, uu, uu, uu, uu] [.null, (.ref al), (.int p1), (.ref nm), (.ref dd), (.ref dd)])) rfl (by rw [hml]; rfl) (Steps.refl _) (a := dd) (argsL := [(.ref nm), (.int p1), (.ref al), .null]) (rest := [(.ref dd)]) (lenOf pd_8 rfl) rfl (Nat.le_of_eq rfl) (hb hby at_191) (fun _ _ => ⟨rfl, e0, (by decide : 13 + 2 ≤ _), (by decide : 44 + 3 ≤ _)⟩)
          dsimp only [Pt.U, Pt.locs, Pt.cells, Pt.slots] at X l144 y144 z144 st hQ
          subst l144 y144 z144
          obtain ⟨h, e0⟩ : ∃ z, T.heap = z := ⟨_, rfl⟩
          rw [e0] at hQ
          obtain ⟨rfl, K143, E_dd, F_block_dd⟩ := hQ
          have K := K.call K143 (allS (Or.inr ge_dd) all0)
          refine oWk.tr st ?_
          refine oWk.st (fun _ kt => XS.astore X.here hx rfl (hb hby at_194) rfl rfl (l' := #[iv p0, iv p1, iv p2, iv p3, iv 0, iv 0, iv 1, rv nm, rv al, rv leaf, rv eb, rv ks, rv dd, uu, uu, uu]) rfl (XS.aload X.here hx rfl (hb hby at_196) rfl rfl kt)) ?_
          have Oh := K.old O0 all0
          obtain ⟨cq146, kq146, q146a, q146b, q146c⟩ := isOf hZ e0 E_dd
          obtain ⟨_, _, ⟨T, L146, k146, n146⟩, -, X, ⟨Lc146, hQ, l146, y146, z146⟩, st⟩ := X.virtualBack hx (y := yy6) (z := yy6) hown (mvT hZ (oW hw 128 rfl)) (mvT hZ (oW hw 129 rfl)) (notFace_of_selects (args := #[]) (mvT hZ (oW hw 131 rfl))) (mvT hZ (oW hw 131 rfl)) (mvT hZ (oW hw 130 rfl)) (by decide) (backOf (W := 0) (rHB0 l Z a0 hw [] dd h Oh F_block_dd) hZ (oW hw 132 rfl) (oW hw 52 rfl) (by decide) (by decide)) q146a q146c (g := (mkF m 198 #[iv p0, iv p1, iv p2, iv p3, iv 0, iv 0, iv 1, rv nm, rv al, rv leaf, rv eb, rv ks, rv dd, uu, uu, uu] [(.ref dd)])) rfl (by rw [hml]; rfl) (Steps.refl _) (argsL := []) (rest := []) (lenOf pd_5 rfl) rfl (Nat.le_of_eq rfl) (hb hby at_198) (fun _ _ => ⟨rfl, e0, (by decide : 15 + 0 ≤ _), (by decide : 47 + 0 ≤ _)⟩)
          dsimp only [Pt.U, Pt.locs, Pt.cells, Pt.slots] at X l146 y146 z146 st hQ
          subst l146 y146 z146
          obtain ⟨rfl, e0, K145⟩ := hQ
          have K := K.call K145 all0
          rw [e0] at K
          refine oWk.tr st ?_
          refine oWk.st (fun _ kt => XS.istore X.here hx rfl (hb hby at_201) rfl (l' := #[iv p0, iv p1, iv p2, iv p3, iv 0, iv 0, iv 1, rv nm, rv al, rv leaf, rv eb, rv ks, rv dd, iv 0, uu, uu]) rfl (XS.aload X.here hx rfl (hb hby at_203) rfl rfl kt)) ?_
          have F_block_leaf := ((((((((F_block_leaf.ext E133).ext E134).keep K135.1 (ninS ne_leaf_a3 nin0)).keep K137.1 (ninS ne_leaf_eb nin0)).ext E139).keep K140.1 (ninS ne_leaf_ks nin0)).ext E142).keep K143.1 (ninS ne_leaf_dd nin0))
          have Oh := K.old O0 all0
          have E_leaf := ((E_leaf.ext E142).keep K143.1)
          obtain ⟨cq148, kq148, q148a, q148b, q148c⟩ := isOf hZ e0 E_leaf
          obtain ⟨_, _, ⟨T, L148, k148, n148⟩, -, X, ⟨Lc148, hQ, l148, y148, z148⟩, st⟩ := X.virtualBack hx (y := yy6) (z := yy6) hown (mvT hZ (oW hw 128 rfl)) (mvT hZ (oW hw 129 rfl)) (notFace_of_selects (args := #[]) (mvT hZ (oW hw 131 rfl))) (mvT hZ (oW hw 131 rfl)) (mvT hZ (oW hw 130 rfl)) (by decide) (backOf (W := 0) (rHB0 l Z a0 hw [] leaf h Oh F_block_leaf) hZ (oW hw 132 rfl) (oW hw 52 rfl) (by decide) (by decide)) q148a q148c (g := (mkF m 205 #[iv p0, iv p1, iv p2, iv p3, iv 0, iv 0, iv 1, rv nm, rv al, rv leaf, rv eb, rv ks, rv dd, iv 0, uu, uu] [(.ref leaf)])) rfl (by rw [hml]; rfl) (Steps.refl _) (argsL := []) (rest := []) (lenOf pd_5 rfl) rfl (Nat.le_of_eq rfl) (hb hby at_205) (fun _ _ => ⟨rfl, e0, (by decide : 15 + 0 ≤ _), (by decide : 47 + 0 ≤ _)⟩)
          dsimp only [Pt.U, Pt.locs, Pt.cells, Pt.slots] at X l148 y148 z148 st hQ
          subst l148 y148 z148
          obtain ⟨rfl, e0, K147⟩ := hQ
          have K := K.call K147 all0
          rw [e0] at K
          refine oWk.tr st ?_
          refine oWk.st (fun _ kt => XS.istore X.here hx rfl (hb hby at_208) rfl (l' := #[iv p0, iv p1, iv p2, iv p3, iv 0, iv 0, iv 1, rv nm, rv al, rv leaf, rv eb, rv ks, rv dd, iv 0, iv 0, uu]) rfl (XS.aload X.here hx rfl (hb hby at_210) rfl rfl kt)) ?_
          have F_block_eb := ((((F_block_eb.ext E139).keep K140.1 (ninS ne_eb_ks nin0)).ext E142).keep K143.1 (ninS ne_eb_dd nin0))
          have Oh := K.old O0 all0
          have E_eb := ((E_eb.ext E142).keep K143.1)
          obtain ⟨cq150, kq150, q150a, q150b, q150c⟩ := isOf hZ e0 E_eb
          obtain ⟨_, _, ⟨T, L150, k150, n150⟩, -, X, ⟨Lc150, hQ, l150, y150, z150⟩, st⟩ := X.virtualBack hx (y := yy6) (z := yy6) hown (mvT hZ (oW hw 128 rfl)) (mvT hZ (oW hw 129 rfl)) (notFace_of_selects (args := #[]) (mvT hZ (oW hw 131 rfl))) (mvT hZ (oW hw 131 rfl)) (mvT hZ (oW hw 130 rfl)) (by decide) (backOf (W := 0) (rHB1 l Z a0 hw [] eb xl h Oh F_block_eb) hZ (oW hw 132 rfl) (oW hw 52 rfl) (by decide) (by decide)) q150a q150c (g := (mkF m 212 #[iv p0, iv p1, iv p2, iv p3, iv 0, iv 0, iv 1, rv nm, rv al, rv leaf, rv eb, rv ks, rv dd, iv 0, iv 0, uu] [(.ref eb)])) rfl (by rw [hml]; rfl) (Steps.refl _) (argsL := []) (rest := []) (lenOf pd_5 rfl) rfl (Nat.le_of_eq rfl) (hb hby at_212) (fun _ _ => ⟨rfl, e0, (by decide : 15 + 0 ≤ _), (by decide : 47 + 0 ≤ _)⟩)
          dsimp only [Pt.U, Pt.locs, Pt.cells, Pt.slots] at X l150 y150 z150 st hQ
          subst l150 y150 z150
          obtain ⟨rfl, e0, K149⟩ := hQ
          have K := K.call K149 all0
          rw [e0] at K
          refine oWk.tr st ?_
          refine oWk.st (fun _ kt => XS.istore X.here hx rfl (hb hby at_215) rfl (l' := #[iv p0, iv p1, iv p2, iv p3, iv 0, iv 0, iv 1, rv nm, rv al, rv leaf, rv eb, rv ks, rv dd, iv 0, iv 0, iv 1]) rfl (XS.iload X.here hx rfl (hb hby at_217) rfl (XS.iload X.here hx rfl (hb hby at_219) rfl (XS.icmpNo X.here hx rfl (hb hby at_221) rfl (teq (by decide)).2 (XS.iload X.here hx rfl (hb hby at_224) rfl (XS.aload X.here hx rfl (hb hby at_226) rfl rfl kt)))))) ?_
          have Oh := K.old O0 all0
          obtain ⟨cq152, kq152, q152a, q152b, q152c⟩ := isOf hZ e0 E_dd
          obtain ⟨_, _, ⟨T, L152, k152, n152⟩, -, X, ⟨Lc152, hQ, l152, y152, z152⟩, st⟩ := X.virtualBack hx (y := yy7) (z := yy7) hown (mvT hZ (oW hw 133 rfl)) (mvT hZ (oW hw 134 rfl)) (notFace_of_selects (args := #[]) (mvT hZ (oW hw 136 rfl))) (mvT hZ (oW hw 136 rfl)) (mvT hZ (oW hw 135 rfl)) (by decide) (backOf (W := 1) (rBL0 l Z a0 hw [] dd h Oh F_block_dd) hZ (oW hw 137 rfl) (oW hw 52 rfl) (by decide) (by decide)) q152a q152c (g := (mkF m 228 #[iv p0, iv p1, iv p2, iv p3, iv 0, iv 0, iv 1, rv nm, rv al, rv leaf, rv eb, rv ks, rv dd, iv 0, iv 0, iv 1] [(.ref dd), (.int 0)])) rfl (by rw [hml]; rfl) (Steps.refl _) (argsL := []) (rest := [(.int (0 : Int32))]) (lenOf pd_6 rfl) rfl (Nat.le_of_eq rfl) (hb hby at_228) (fun _ _ => ⟨rfl, e0, (by decide : 15 + 0 ≤ _), (by decide : 47 + 0 ≤ _)⟩)
          dsimp only [Pt.U, Pt.locs, Pt.cells, Pt.slots] at X l152 y152 z152 st hQ
          subst l152 y152 z152
          obtain ⟨rfl, e0, K151⟩ := hQ
          have K := K.call K151 all0
          rw [e0] at K
          refine oWk.tr st ?_
          refine oWk.st (fun _ kt => XS.ifnullYes X.here hx rfl (pc0 := 231) (pc' := 238) rfl (hb hby at_231) rfl (by decide) (by decide) (XS.iconst X.here hx rfl (hb hby at_238) (XS.icmpNo X.here hx rfl (hb hby at_239) rfl (teq (by decide)).2 (XS.iload X.here hx rfl (hb hby at_242) rfl (XS.ifNo X.here hx rfl (hb hby at_244) rfl ((if0 _ _).trans (teq (by decide)).2) (XS.iload X.here hx rfl (hb hby at_247) rfl (XS.ifNo X.here hx rfl (hb hby at_249) rfl ((if0 _ _).trans (feq (by decide)).1) (XS.iconst X.here hx rfl (hb hby at_252) kt)))))))) ?_
          show oWk _ _ _ _ T (mkF m 253 #[iv p0, iv p1, iv p2, iv p3, iv 0, iv 0, iv 1, rv nm, rv al, rv leaf, rv eb, rv ks, rv dd, iv 0, iv 0, iv 1] [(.int 1)])
          refine oWk.st (fun _ kt => XS.goto X.here hx rfl (pc0 := 253) (pc' := 257) rfl (hb hby at_253) (by decide) (by decide) kt) ?_
          show oWk _ _ _ _ T (mkF m 257 #[iv p0, iv p1, iv p2, iv p3, iv 0, iv 0, iv 1, rv nm, rv al, rv leaf, rv eb, rv ks, rv dd, iv 0, iv 0, iv 1] [(.int 1)])
          exact oRetZ X hx hlk hret (hb hby at_257) (Or.inr rfl) (by rw [e0]; exact ⟨rfl, K.fr⟩) (by decide) (by decide)
        · show oWk _ _ _ _ T (mkF m 180 #[iv p0, iv p1, iv p2, iv p3, iv 1, iv 0, iv 1, rv nm, rv al, rv leaf, rv eb, rv ks, uu, uu, uu, uu] [(.ref al), (.int p1), (.ref nm), (.ref dd), (.ref dd)])
          refine oWk.st (fun _ kt => XS.iload X.here hx rfl (hb hby at_180) rfl (XS.ifNo X.here hx rfl (hb hby at_182) rfl ((if0 _ _).trans (feq (by decide)).1) (XS.aload X.here hx rfl (hb hby at_185) rfl rfl (XS.goto X.here hx rfl (pc0 := 187) (pc' := 191) rfl (hb hby at_187) (by decide) (by decide) kt)))) ?_
          have E_al := (E_al.ext E142)
          have F_elementData_al := ((((F_elementData_al.keep K137.1 (ninS ne_al_eb nin0)).ext E139).keep K140.1 (ninS ne_al_ks nin0)).ext E142)
          have F_size_al := ((((F_size_al.keep K137.1 (ninS ne_al_eb nin0)).ext E139).keep K140.1 (ninS ne_al_ks nin0)).ext E142)
          have E_nd75 := (E_nd75.ext E142)
          have V_nd75 := ((((V_nd75.keep K137.1 (ninS ne_nd75_eb nin0)).ext E139).keep K140.1 (ninS ne_nd75_ks nin0)).ext E142)
          have E_mk := (E_mk.ext E142)
          have E_ks := (E_ks.ext E142)
          have F_size_ks := (F_size_ks.ext E142)
          have Oh := K.old O0 all0
          obtain ⟨_, _, ⟨T, L154, k154, n154⟩, -, X, ⟨Lc154, hQ, l154, y154, z154⟩, st⟩ := X.specialBack hx (y := yy16) rfl hown (mvT hZ (oW hw 53 rfl)) (mvT hZ (oW hw 54 rfl)) (mvT hZ (oW hw 55 rfl)) (by decide) (backOf (W := 1) (rDI_1_0 l Z a0 hw [] dd nm p1 .null (.int (0 : Int32)) .null .null al nd75 nk75 mk ks xl xq xmr h Oh S_EMPTY_LIST S_EMPTY mm_ (Nat.le_trans O0.1 ge_dd) E_dd F_name_dd F_line_dd F_arguments_dd F_block_dd E_al F_elementData_al F_size_al E_nd75 V_nd75 (Ins.of_exa E_mk (oW hw 149 rfl)) E_ks F_size_ks) hZ (oW hw 55 rfl) (oW hw 52 rfl) (by decide) (by decide)) (g := (mkF m 191 #[iv p0, iv p1, iv p2, iv p3, iv 1, iv 0, iv 1, rv nm, rv al, rv leaf, rv eb, rv ks, uu, uu, uu, uu] [(.ref ks), (.ref al), (.int p1), (.ref nm), (.ref dd), (.ref dd)])) rfl (by rw [hml]; rfl) (Steps.refl _) (a := dd) (argsL := [(.ref nm), (.int p1), (.ref al), (.ref ks)]) (rest := [(.ref dd)]) (lenOf pd_8 rfl) rfl (Nat.le_of_eq rfl) (hb hby at_191) (fun _ _ => ⟨rfl, e0, (by decide : 13 + 2 ≤ _), (by decide : 44 + 3 ≤ _)⟩)
          dsimp only [Pt.U, Pt.locs, Pt.cells, Pt.slots] at X l154 y154 z154 st hQ
          subst l154 y154 z154
          obtain ⟨h, e0⟩ : ∃ z, T.heap = z := ⟨_, rfl⟩
          rw [e0] at hQ
          obtain ⟨rfl, K153, E_dd, F_block_dd⟩ := hQ
          have K := K.call K153 (allS (Or.inr ge_dd) all0)
          refine oWk.tr st ?_
          refine oWk.st (fun _ kt => XS.astore X.here hx rfl (hb hby at_194) rfl rfl (l' := #[iv p0, iv p1, iv p2, iv p3, iv 1, iv 0, iv 1, rv nm, rv al, rv leaf, rv eb, rv ks, rv dd, uu, uu, uu]) rfl (XS.aload X.here hx rfl (hb hby at_196) rfl rfl kt)) ?_
          have Oh := K.old O0 all0
          obtain ⟨cq156, kq156, q156a, q156b, q156c⟩ := isOf hZ e0 E_dd
          obtain ⟨_, _, ⟨T, L156, k156, n156⟩, -, X, ⟨Lc156, hQ, l156, y156, z156⟩, st⟩ := X.virtualBack hx (y := yy6) (z := yy6) hown (mvT hZ (oW hw 128 rfl)) (mvT hZ (oW hw 129 rfl)) (notFace_of_selects (args := #[]) (mvT hZ (oW hw 131 rfl))) (mvT hZ (oW hw 131 rfl)) (mvT hZ (oW hw 130 rfl)) (by decide) (backOf (W := 0) (rHB1 l Z a0 hw [] dd xl h Oh F_block_dd) hZ (oW hw 132 rfl) (oW hw 52 rfl) (by decide) (by decide)) q156a q156c (g := (mkF m 198 #[iv p0, iv p1, iv p2, iv p3, iv 1, iv 0, iv 1, rv nm, rv al, rv leaf, rv eb, rv ks, rv dd, uu, uu, uu] [(.ref dd)])) rfl (by rw [hml]; rfl) (Steps.refl _) (argsL := []) (rest := []) (lenOf pd_5 rfl) rfl (Nat.le_of_eq rfl) (hb hby at_198) (fun _ _ => ⟨rfl, e0, (by decide : 15 + 0 ≤ _), (by decide : 47 + 0 ≤ _)⟩)
          dsimp only [Pt.U, Pt.locs, Pt.cells, Pt.slots] at X l156 y156 z156 st hQ
          subst l156 y156 z156
          obtain ⟨rfl, e0, K155⟩ := hQ
          have K := K.call K155 all0
          rw [e0] at K
          refine oWk.tr st ?_
          refine oWk.st (fun _ kt => XS.istore X.here hx rfl (hb hby at_201) rfl (l' := #[iv p0, iv p1, iv p2, iv p3, iv 1, iv 0, iv 1, rv nm, rv al, rv leaf, rv eb, rv ks, rv dd, iv 1, uu, uu]) rfl (XS.aload X.here hx rfl (hb hby at_203) rfl rfl kt)) ?_
          have F_block_leaf := ((((((((F_block_leaf.ext E133).ext E134).keep K135.1 (ninS ne_leaf_a3 nin0)).keep K137.1 (ninS ne_leaf_eb nin0)).ext E139).keep K140.1 (ninS ne_leaf_ks nin0)).ext E142).keep K153.1 (ninS ne_leaf_dd nin0))
          have Oh := K.old O0 all0
          have E_leaf := ((E_leaf.ext E142).keep K153.1)
          obtain ⟨cq158, kq158, q158a, q158b, q158c⟩ := isOf hZ e0 E_leaf
          obtain ⟨_, _, ⟨T, L158, k158, n158⟩, -, X, ⟨Lc158, hQ, l158, y158, z158⟩, st⟩ := X.virtualBack hx (y := yy6) (z := yy6) hown (mvT hZ (oW hw 128 rfl)) (mvT hZ (oW hw 129 rfl)) (notFace_of_selects (args := #[]) (mvT hZ (oW hw 131 rfl))) (mvT hZ (oW hw 131 rfl)) (mvT hZ (oW hw 130 rfl)) (by decide) (backOf (W := 0) (rHB0 l Z a0 hw [] leaf h Oh F_block_leaf) hZ (oW hw 132 rfl) (oW hw 52 rfl) (by decide) (by decide)) q158a q158c (g := (mkF m 205 #[iv p0, iv p1, iv p2, iv p3, iv 1, iv 0, iv 1, rv nm, rv al, rv leaf, rv eb, rv ks, rv dd, iv 1, uu, uu] [(.ref leaf)])) rfl (by rw [hml]; rfl) (Steps.refl _) (argsL := []) (rest := []) (lenOf pd_5 rfl) rfl (Nat.le_of_eq rfl) (hb hby at_205) (fun _ _ => ⟨rfl, e0, (by decide : 15 + 0 ≤ _), (by decide : 47 + 0 ≤ _)⟩)
          dsimp only [Pt.U, Pt.locs, Pt.cells, Pt.slots] at X l158 y158 z158 st hQ
          subst l158 y158 z158
          obtain ⟨rfl, e0, K157⟩ := hQ
          have K := K.call K157 all0
          rw [e0] at K
          refine oWk.tr st ?_
          refine oWk.st (fun _ kt => XS.istore X.here hx rfl (hb hby at_208) rfl (l' := #[iv p0, iv p1, iv p2, iv p3, iv 1, iv 0, iv 1, rv nm, rv al, rv leaf, rv eb, rv ks, rv dd, iv 1, iv 0, uu]) rfl (XS.aload X.here hx rfl (hb hby at_210) rfl rfl kt)) ?_
          have F_block_eb := ((((F_block_eb.ext E139).keep K140.1 (ninS ne_eb_ks nin0)).ext E142).keep K153.1 (ninS ne_eb_dd nin0))
          have Oh := K.old O0 all0
          have E_eb := ((E_eb.ext E142).keep K153.1)
          obtain ⟨cq160, kq160, q160a, q160b, q160c⟩ := isOf hZ e0 E_eb
          obtain ⟨_, _, ⟨T, L160, k160, n160⟩, -, X, ⟨Lc160, hQ, l160, y160, z160⟩, st⟩ := X.virtualBack hx (y := yy6) (z := yy6) hown (mvT hZ (oW hw 128 rfl)) (mvT hZ (oW hw 129 rfl)) (notFace_of_selects (args := #[]) (mvT hZ (oW hw 131 rfl))) (mvT hZ (oW hw 131 rfl)) (mvT hZ (oW hw 130 rfl)) (by decide) (backOf (W := 0) (rHB1 l Z a0 hw [] eb xl h Oh F_block_eb) hZ (oW hw 132 rfl) (oW hw 52 rfl) (by decide) (by decide)) q160a q160c (g := (mkF m 212 #[iv p0, iv p1, iv p2, iv p3, iv 1, iv 0, iv 1, rv nm, rv al, rv leaf, rv eb, rv ks, rv dd, iv 1, iv 0, uu] [(.ref eb)])) rfl (by rw [hml]; rfl) (Steps.refl _) (argsL := []) (rest := []) (lenOf pd_5 rfl) rfl (Nat.le_of_eq rfl) (hb hby at_212) (fun _ _ => ⟨rfl, e0, (by decide : 15 + 0 ≤ _), (by decide : 47 + 0 ≤ _)⟩)
          dsimp only [Pt.U, Pt.locs, Pt.cells, Pt.slots] at X l160 y160 z160 st hQ
          subst l160 y160 z160
          obtain ⟨rfl, e0, K159⟩ := hQ
          have K := K.call K159 all0
          rw [e0] at K
          refine oWk.tr st ?_
          refine oWk.st (fun _ kt => XS.istore X.here hx rfl (hb hby at_215) rfl (l' := #[iv p0, iv p1, iv p2, iv p3, iv 1, iv 0, iv 1, rv nm, rv al, rv leaf, rv eb, rv ks, rv dd, iv 1, iv 0, iv 1]) rfl (XS.iload X.here hx rfl (hb hby at_217) rfl (XS.iload X.here hx rfl (hb hby at_219) rfl (XS.icmpNo X.here hx rfl (hb hby at_221) rfl (teq (by decide)).2 (XS.iload X.here hx rfl (hb hby at_224) rfl (XS.aload X.here hx rfl (hb hby at_226) rfl rfl kt)))))) ?_
          have Oh := K.old O0 all0
          obtain ⟨cq162, kq162, q162a, q162b, q162c⟩ := isOf hZ e0 E_dd
          obtain ⟨_, _, ⟨T, L162, k162, n162⟩, -, X, ⟨Lc162, hQ, l162, y162, z162⟩, st⟩ := X.virtualBack hx (y := yy7) (z := yy7) hown (mvT hZ (oW hw 133 rfl)) (mvT hZ (oW hw 134 rfl)) (notFace_of_selects (args := #[]) (mvT hZ (oW hw 136 rfl))) (mvT hZ (oW hw 136 rfl)) (mvT hZ (oW hw 135 rfl)) (by decide) (backOf (W := 1) (rBL1 l Z a0 hw [] dd xl h Oh F_block_dd) hZ (oW hw 137 rfl) (oW hw 52 rfl) (by decide) (by decide)) q162a q162c (g := (mkF m 228 #[iv p0, iv p1, iv p2, iv p3, iv 1, iv 0, iv 1, rv nm, rv al, rv leaf, rv eb, rv ks, rv dd, iv 1, iv 0, iv 1] [(.ref dd), (.int 1)])) rfl (by rw [hml]; rfl) (Steps.refl _) (argsL := []) (rest := [(.int (1 : Int32))]) (lenOf pd_6 rfl) rfl (Nat.le_of_eq rfl) (hb hby at_228) (fun _ _ => ⟨rfl, e0, (by decide : 15 + 0 ≤ _), (by decide : 47 + 0 ≤ _)⟩)
          dsimp only [Pt.U, Pt.locs, Pt.cells, Pt.slots] at X l162 y162 z162 st hQ
          subst l162 y162 z162
          obtain ⟨rfl, e0, K161⟩ := hQ
          have K := K.call K161 all0
          rw [e0] at K
          refine oWk.tr st ?_
          refine oWk.st (fun _ kt => XS.ifnullNo X.here hx rfl (hb hby at_231) rfl (XS.iconst X.here hx rfl (hb hby at_234) (XS.goto X.here hx rfl (pc0 := 235) (pc' := 239) rfl (hb hby at_235) (by decide) (by decide) (XS.icmpNo X.here hx rfl (hb hby at_239) rfl (teq (by decide)).2 (XS.iload X.here hx rfl (hb hby at_242) rfl (XS.ifNo X.here hx rfl (hb hby at_244) rfl ((if0 _ _).trans (teq (by decide)).2) (XS.iload X.here hx rfl (hb hby at_247) rfl (XS.ifNo X.here hx rfl (hb hby at_249) rfl ((if0 _ _).trans (feq (by decide)).1) kt)))))))) ?_
          show oWk _ _ _ _ T (mkF m 252 #[iv p0, iv p1, iv p2, iv p3, iv 1, iv 0, iv 1, rv nm, rv al, rv leaf, rv eb, rv ks, rv dd, iv 1, iv 0, iv 1] [])
          refine oWk.st (fun _ kt => XS.iconst X.here hx rfl (hb hby at_252) (XS.goto X.here hx rfl (pc0 := 253) (pc' := 257) rfl (hb hby at_253) (by decide) (by decide) kt)) ?_
          show oWk _ _ _ _ T (mkF m 257 #[iv p0, iv p1, iv p2, iv p3, iv 1, iv 0, iv 1, rv nm, rv al, rv leaf, rv eb, rv ks, rv dd, iv 1, iv 0, iv 1] [(.int 1)])
          exact oRetZ X hx hlk hret (hb hby at_257) (Or.inr rfl) (by rw [e0]; exact ⟨rfl, K.fr⟩) (by decide) (by decide)
      · show oWk _ _ _ _ T (mkF m 129 #[iv p0, iv p1, iv p2, iv p3, iv wb, iv 1, iv 1, rv nm, rv al, rv leaf, rv eb, rv ks, uu, uu, uu, uu] [])
        refine oWk.st (fun _ kt => XS.iload X.here hx rfl (hb hby at_129) rfl (XS.iconst X.here hx rfl (hb hby at_131) (XS.icmpNo X.here hx rfl (hb hby at_132) rfl (flt (by decide)).1 (XS.aload X.here hx rfl (hb hby at_135) rfl rfl (XS.aload X.here hx rfl (hb hby at_137) rfl rfl kt))))) ?_
        have V_xd := ((V_xd.ext E139).keep K140.1 (ninS ne_xd_ks nin0))
        have E_leaf := ((E_leaf.ext E139).keep K140.1)
        have lt_xd := V_xd.lt
        have E_nm := ((E_nm.ext E139).keep K140.1)
        have lt_nm := E_nm.lt
        have V_nmb := ((V_nmb.ext E139).keep K140.1 (ninS ne_nmb_ks nin0))
        have lt_nmb := V_nmb.lt
        have E_al := ((E_al.ext E139).keep K140.1)
        have lt_al := E_al.lt
        have E_mk := ((E_mk.ext E139).keep K140.1)
        have lt_mk := E_mk.lt
        have E_nd75 := ((E_nd75.ext E139).keep K140.1)
        have lt_nd75 := E_nd75.lt
        have lt_leaf := E_leaf.lt
        have E_a2 := ((E_a2.ext E139).keep K140.1)
        have lt_a2 := E_a2.lt
        have E_eb := ((E_eb.ext E139).keep K140.1)
        have lt_eb := E_eb.lt
        have E_a3 := ((E_a3.ext E139).keep K140.1)
        have lt_a3 := E_a3.lt
        have lt_ks := E_ks.lt
        have Oh := K.old O0 all0
        obtain ⟨cq164, kq164, q164a, q164b, q164c⟩ := isOf hZ e0 E_ks
        obtain ⟨_, _, ⟨T, L164, k164, n164⟩, -, X, ⟨Lc164, hQ, l164, y164, z164⟩, st⟩ := X.virtualBack hx (y := yy21) (z := yy21) hown (mvT hZ (oW hw 99 rfl)) (mvT hZ (oW hw 100 rfl)) (notFace_of_selects (args := #[]) (mvT hZ (oW hw 102 rfl))) (mvT hZ (oW hw 102 rfl)) (mvT hZ (oW hw 101 rfl)) (by decide) (backOf (W := 0) (rAd_0 l Z a0 hw [] ks leaf xd xk (0 : Int32) h Oh S_DEFAULTCAPACITY_EMPTY_ELEMENTDATA (Nat.le_trans O0.1 ge_ks) E_ks F_elementData_ks F_size_ks F_modCount_ks V_xd (Ins.of_exa E_leaf (oW hw 127 rfl)) (Ne.symm ne_leaf_ks) (Ne.symm ne_xd_ks)) hZ (oW hw 103 rfl) (oW hw 28 rfl) (by decide) (by decide)) q164a q164c (g := (mkF m 139 #[iv p0, iv p1, iv p2, iv p3, iv wb, iv 1, iv 1, rv nm, rv al, rv leaf, rv eb, rv ks, uu, uu, uu, uu] [(.ref leaf), (.ref ks)])) rfl (by rw [hml]; rfl) (Steps.refl _) (argsL := [(.ref leaf)]) (rest := []) (lenOf pd_13 rfl) rfl (Nat.le_of_eq rfl) (hb hby at_139) (fun _ _ => ⟨rfl, e0, (by decide : 12 + 1 ≤ _), (by decide : 40 + 10 ≤ _)⟩)
        dsimp only [Pt.U, Pt.locs, Pt.cells, Pt.slots] at X l164 y164 z164 st hQ
        subst l164 y164 z164
        obtain ⟨h, e0⟩ : ∃ z, T.heap = z := ⟨_, rfl⟩
        rw [e0] at hQ
        obtain ⟨nd139, nk139, rfl, K163, E_ks, F_elementData_ks, F_size_ks, F_modCount_ks, gn_nd139, E_nd139, V_nd139, ov_nk139⟩ := hQ
        have ge_nd139 := Nat.le_trans K.le gn_nd139
        have ne_xd_nd139 : xd ≠ nd139 := Nat.ne_of_lt (Nat.lt_of_lt_of_le lt_xd gn_nd139)
        have ne_nm_nd139 : nm ≠ nd139 := Nat.ne_of_lt (Nat.lt_of_lt_of_le lt_nm gn_nd139)
        have ne_nmb_nd139 : nmb ≠ nd139 := Nat.ne_of_lt (Nat.lt_of_lt_of_le lt_nmb gn_nd139)
        have ne_al_nd139 : al ≠ nd139 := Nat.ne_of_lt (Nat.lt_of_lt_of_le lt_al gn_nd139)
        have ne_mk_nd139 : mk ≠ nd139 := Nat.ne_of_lt (Nat.lt_of_lt_of_le lt_mk gn_nd139)
        have ne_nd75_nd139 : nd75 ≠ nd139 := Nat.ne_of_lt (Nat.lt_of_lt_of_le lt_nd75 gn_nd139)
        have ne_leaf_nd139 : leaf ≠ nd139 := Nat.ne_of_lt (Nat.lt_of_lt_of_le lt_leaf gn_nd139)
        have ne_a2_nd139 : a2 ≠ nd139 := Nat.ne_of_lt (Nat.lt_of_lt_of_le lt_a2 gn_nd139)
        have ne_eb_nd139 : eb ≠ nd139 := Nat.ne_of_lt (Nat.lt_of_lt_of_le lt_eb gn_nd139)
        have ne_a3_nd139 : a3 ≠ nd139 := Nat.ne_of_lt (Nat.lt_of_lt_of_le lt_a3 gn_nd139)
        have ne_ks_nd139 : ks ≠ nd139 := Nat.ne_of_lt (Nat.lt_of_lt_of_le lt_ks gn_nd139)
        have K := K.call K163 (allS (Or.inr ge_ks) all0)
        refine oWk.tr st ?_
        refine oWk.st (fun _ kt => XS.pop X.here hx rfl (hb hby at_142) rfl rfl (XS.iload X.here hx rfl (hb hby at_143) rfl (XS.iconst X.here hx rfl (hb hby at_145) (XS.icmpYes X.here hx rfl (pc0 := 146) (pc' := 157) rfl (hb hby at_146) rfl (tlt (by decide)).1 (by decide) (by decide) (XS.iload X.here hx rfl (hb hby at_157) rfl (XS.iconst X.here hx rfl (hb hby at_159) (XS.icmpYes X.here hx rfl (pc0 := 160) (pc' := 171) rfl (hb hby at_160) rfl (tlt (by decide)).1 (by decide) (by decide) kt))))))) ?_
        obtain ⟨dd, g165⟩ : ∃ z, z = h.size := ⟨_, rfl⟩
        have V_xd := (V_xd.keep K163.1 (ninS ne_xd_ks nin0))
        have ne_xd_dd : xd ≠ dd := Nat.ne_of_lt (Nat.lt_of_lt_of_le V_xd.lt (Nat.le_of_eq g165.symm))
        have E_nm := (E_nm.keep K163.1)
        have ne_nm_dd : nm ≠ dd := Nat.ne_of_lt (Nat.lt_of_lt_of_le E_nm.lt (Nat.le_of_eq g165.symm))
        have V_nmb := (V_nmb.keep K163.1 (ninS ne_nmb_ks nin0))
        have ne_nmb_dd : nmb ≠ dd := Nat.ne_of_lt (Nat.lt_of_lt_of_le V_nmb.lt (Nat.le_of_eq g165.symm))
        have E_al := (E_al.keep K163.1)
        have ne_al_dd : al ≠ dd := Nat.ne_of_lt (Nat.lt_of_lt_of_le E_al.lt (Nat.le_of_eq g165.symm))
        have E_mk := (E_mk.keep K163.1)
        have ne_mk_dd : mk ≠ dd := Nat.ne_of_lt (Nat.lt_of_lt_of_le E_mk.lt (Nat.le_of_eq g165.symm))
        have E_nd75 := (E_nd75.keep K163.1)
        have ne_nd75_dd : nd75 ≠ dd := Nat.ne_of_lt (Nat.lt_of_lt_of_le E_nd75.lt (Nat.le_of_eq g165.symm))
        have E_leaf := (E_leaf.keep K163.1)
        have ne_leaf_dd : leaf ≠ dd := Nat.ne_of_lt (Nat.lt_of_lt_of_le E_leaf.lt (Nat.le_of_eq g165.symm))
        have E_a2 := (E_a2.keep K163.1)
        have ne_a2_dd : a2 ≠ dd := Nat.ne_of_lt (Nat.lt_of_lt_of_le E_a2.lt (Nat.le_of_eq g165.symm))
        have E_eb := (E_eb.keep K163.1)
        have ne_eb_dd : eb ≠ dd := Nat.ne_of_lt (Nat.lt_of_lt_of_le E_eb.lt (Nat.le_of_eq g165.symm))
        have E_a3 := (E_a3.keep K163.1)
        have ne_a3_dd : a3 ≠ dd := Nat.ne_of_lt (Nat.lt_of_lt_of_le E_a3.lt (Nat.le_of_eq g165.symm))
        have ne_ks_dd : ks ≠ dd := Nat.ne_of_lt (Nat.lt_of_lt_of_le E_ks.lt (Nat.le_of_eq g165.symm))
        have ne_nd139_dd : nd139 ≠ dd := Nat.ne_of_lt (Nat.lt_of_lt_of_le E_nd139.lt (Nat.le_of_eq g165.symm))
        have ge_dd : h0.size ≤ dd := Nat.le_trans K.le (Nat.le_of_eq g165.symm)
        obtain ⟨T, h, X, e0, E165, A165, D165, -, st⟩ := newO X hx hZ hown (oW hw 50 rfl) (oW hw 51 rfl) (oW hw 52 rfl) e0 (g := (mkF m 171 #[iv p0, iv p1, iv p2, iv p3, iv wb, iv 1, iv 1, rv nm, rv al, rv leaf, rv eb, rv ks, uu, uu, uu, uu] [])) rfl (hb hby at_171) (by decide) (by decide)
        rw [← g165] at A165 D165 st
        refine oWk.st st ?_
        have K := K.ext E165
        have E_dd := A165
        have F_name_dd : Fld Z h dd "com/example/modwright/modwright/script/Directive" "name" "Ljava/lang/String;" .null := D165 (Or.inr (oW hw 92 rfl)) (ty := (.object "java/lang/String")) (by decide)
        have F_line_dd : Fld Z h dd "com/example/modwright/modwright/script/Directive" "line" "I" (.int (0 : Int32)) := D165 (Or.inr (oW hw 94 rfl)) (ty := .int) (by decide)
        have F_arguments_dd : Fld Z h dd "com/example/modwright/modwright/script/Directive" "arguments" "Ljava/util/List;" .null := D165 (Or.inr (oW hw 96 rfl)) (ty := (.object "java/util/List")) (by decide)
        have F_block_dd : Fld Z h dd "com/example/modwright/modwright/script/Directive" "block" "Ljava/util/List;" .null := D165 (Or.inr (oW hw 98 rfl)) (ty := (.object "java/util/List")) (by decide)
        refine oWk.st (fun _ kt => XS.dup X.here hx rfl (hb hby at_174) rfl rfl (XS.aload X.here hx rfl (hb hby at_175) rfl rfl (XS.iloadN X.here hx rfl (hb hby at_177) rfl (XS.aload X.here hx rfl (hb hby at_178) rfl rfl kt)))) ?_
        show oWk _ _ _ _ T (mkF m 180 #[iv p0, iv p1, iv p2, iv p3, iv wb, iv 1, iv 1, rv nm, rv al, rv leaf, rv eb, rv ks, uu, uu, uu, uu] [(.ref al), (.int p1), (.ref nm), (.ref dd), (.ref dd)])
        rcases hwb with rfl | rfl
        · show oWk _ _ _ _ T (mkF m 180 #[iv p0, iv p1, iv p2, iv p3, iv 0, iv 1, iv 1, rv nm, rv al, rv leaf, rv eb, rv ks, uu, uu, uu, uu] [(.ref al), (.int p1), (.ref nm), (.ref dd), (.ref dd)])
          refine oWk.st (fun _ kt => XS.iload X.here hx rfl (hb hby at_180) rfl (XS.ifYes X.here hx rfl (pc0 := 182) (pc' := 190) rfl (hb hby at_182) rfl ((if0 _ _).trans (teq (by decide)).1) (by decide) (by decide) (XS.aconstNull X.here hx rfl (hb hby at_190) kt))) ?_
          have E_al := (E_al.ext E165)
          have F_elementData_al := (((((F_elementData_al.keep K137.1 (ninS ne_al_eb nin0)).ext E139).keep K140.1 (ninS ne_al_ks nin0)).keep K163.1 (ninS ne_al_ks nin0)).ext E165)
          have F_size_al := (((((F_size_al.keep K137.1 (ninS ne_al_eb nin0)).ext E139).keep K140.1 (ninS ne_al_ks nin0)).keep K163.1 (ninS ne_al_ks nin0)).ext E165)
          have E_nd75 := (E_nd75.ext E165)
          have V_nd75 := (((((V_nd75.keep K137.1 (ninS ne_nd75_eb nin0)).ext E139).keep K140.1 (ninS ne_nd75_ks nin0)).keep K163.1 (ninS ne_nd75_ks nin0)).ext E165)
          have E_mk := (E_mk.ext E165)
          have Oh := K.old O0 all0
          obtain ⟨_, _, ⟨T, L167, k167, n167⟩, -, X, ⟨Lc167, hQ, l167, y167, z167⟩, st⟩ := X.specialBack hx (y := yy16) rfl hown (mvT hZ (oW hw 53 rfl)) (mvT hZ (oW hw 54 rfl)) (mvT hZ (oW hw 55 rfl)) (by decide) (backOf (W := 1) (rDI_1_N l Z a0 hw [] dd nm p1 .null (.int (0 : Int32)) .null .null al nd75 nk75 mk xq xmr h Oh S_EMPTY mm_ (Nat.le_trans O0.1 ge_dd) E_dd F_name_dd F_line_dd F_arguments_dd F_block_dd E_al F_elementData_al F_size_al E_nd75 V_nd75 (Ins.of_exa E_mk (oW hw 149 rfl))) hZ (oW hw 55 rfl) (oW hw 52 rfl) (by decide) (by decide)) (g := (mkF m 191 #[iv p0, iv p1, iv p2, iv p3, iv 0, iv 1, iv 1, rv nm, rv al, rv leaf, rv eb, rv ks, uu, uu, uu, uu] [.null, (.ref al), (.int p1), (.ref nm), (.ref dd), (.ref dd)])) rfl (by rw [hml]; rfl) (Steps.refl _) (a := dd) (argsL := [(.ref nm), (.int p1), (.ref al), .null]) (rest := [(.ref dd)]) (lenOf pd_8 rfl) rfl (Nat.le_of_eq rfl) (hb hby at_191) (fun _ _ => ⟨rfl, e0, (by decide : 14 + 2 ≤ _), (by decide : 54 + 3 ≤ _)⟩)
          dsimp only [Pt.U, Pt.locs, Pt.cells, Pt.slots] at X l167 y167 z167 st hQ
          subst l167 y167 z167
          obtain ⟨h, e0⟩ : ∃ z, T.heap = z := ⟨_, rfl⟩
          rw [e0] at hQ
          obtain ⟨rfl, K166, E_dd, F_block_dd⟩ := hQ
          have K := K.call K166 (allS (Or.inr ge_dd) all0)
          refine oWk.tr st ?_
          refine oWk.st (fun _ kt => XS.astore X.here hx rfl (hb hby at_194) rfl rfl (l' := #[iv p0, iv p1, iv p2, iv p3, iv 0, iv 1, iv 1, rv nm, rv al, rv leaf, rv eb, rv ks, rv dd, uu, uu, uu]) rfl (XS.aload X.here hx rfl (hb hby at_196) rfl rfl kt)) ?_
          have Oh := K.old O0 all0
          obtain ⟨cq169, kq169, q169a, q169b, q169c⟩ := isOf hZ e0 E_dd
          obtain ⟨_, _, ⟨T, L169, k169, n169⟩, -, X, ⟨Lc169, hQ, l169, y169, z169⟩, st⟩ := X.virtualBack hx (y := yy6) (z := yy6) hown (mvT hZ (oW hw 128 rfl)) (mvT hZ (oW hw 129 rfl)) (notFace_of_selects (args := #[]) (mvT hZ (oW hw 131 rfl))) (mvT hZ (oW hw 131 rfl)) (mvT hZ (oW hw 130 rfl)) (by decide) (backOf (W := 0) (rHB0 l Z a0 hw [] dd h Oh F_block_dd) hZ (oW hw 132 rfl) (oW hw 52 rfl) (by decide) (by decide)) q169a q169c (g := (mkF m 198 #[iv p0, iv p1, iv p2, iv p3, iv 0, iv 1, iv 1, rv nm, rv al, rv leaf, rv eb, rv ks, rv dd, uu, uu, uu] [(.ref dd)])) rfl (by rw [hml]; rfl) (Steps.refl _) (argsL := []) (rest := []) (lenOf pd_5 rfl) rfl (Nat.le_of_eq rfl) (hb hby at_198) (fun _ _ => ⟨rfl, e0, (by decide : 16 + 0 ≤ _), (by decide : 57 + 0 ≤ _)⟩)
          dsimp only [Pt.U, Pt.locs, Pt.cells, Pt.slots] at X l169 y169 z169 st hQ
          subst l169 y169 z169
          obtain ⟨rfl, e0, K168⟩ := hQ
          have K := K.call K168 all0
          rw [e0] at K
          refine oWk.tr st ?_
          refine oWk.st (fun _ kt => XS.istore X.here hx rfl (hb hby at_201) rfl (l' := #[iv p0, iv p1, iv p2, iv p3, iv 0, iv 1, iv 1, rv nm, rv al, rv leaf, rv eb, rv ks, rv dd, iv 0, uu, uu]) rfl (XS.aload X.here hx rfl (hb hby at_203) rfl rfl kt)) ?_
          have F_block_leaf := (((((((((F_block_leaf.ext E133).ext E134).keep K135.1 (ninS ne_leaf_a3 nin0)).keep K137.1 (ninS ne_leaf_eb nin0)).ext E139).keep K140.1 (ninS ne_leaf_ks nin0)).keep K163.1 (ninS ne_leaf_ks nin0)).ext E165).keep K166.1 (ninS ne_leaf_dd nin0))
          have Oh := K.old O0 all0
          have E_leaf := ((E_leaf.ext E165).keep K166.1)
          obtain ⟨cq171, kq171, q171a, q171b, q171c⟩ := isOf hZ e0 E_leaf
          obtain ⟨_, _, ⟨T, L171, k171, n171⟩, -, X, ⟨Lc171, hQ, l171, y171, z171⟩, st⟩ := X.virtualBack hx (y := yy6) (z := yy6) hown (mvT hZ (oW hw 128 rfl)) (mvT hZ (oW hw 129 rfl)) (notFace_of_selects (args := #[]) (mvT hZ (oW hw 131 rfl))) (mvT hZ (oW hw 131 rfl)) (mvT hZ (oW hw 130 rfl)) (by decide) (backOf (W := 0) (rHB0 l Z a0 hw [] leaf h Oh F_block_leaf) hZ (oW hw 132 rfl) (oW hw 52 rfl) (by decide) (by decide)) q171a q171c (g := (mkF m 205 #[iv p0, iv p1, iv p2, iv p3, iv 0, iv 1, iv 1, rv nm, rv al, rv leaf, rv eb, rv ks, rv dd, iv 0, uu, uu] [(.ref leaf)])) rfl (by rw [hml]; rfl) (Steps.refl _) (argsL := []) (rest := []) (lenOf pd_5 rfl) rfl (Nat.le_of_eq rfl) (hb hby at_205) (fun _ _ => ⟨rfl, e0, (by decide : 16 + 0 ≤ _), (by decide : 57 + 0 ≤ _)⟩)
          dsimp only [Pt.U, Pt.locs, Pt.cells, Pt.slots] at X l171 y171 z171 st hQ
          subst l171 y171 z171
          obtain ⟨rfl, e0, K170⟩ := hQ
          have K := K.call K170 all0
          rw [e0] at K
          refine oWk.tr st ?_
          refine oWk.st (fun _ kt => XS.istore X.here hx rfl (hb hby at_208) rfl (l' := #[iv p0, iv p1, iv p2, iv p3, iv 0, iv 1, iv 1, rv nm, rv al, rv leaf, rv eb, rv ks, rv dd, iv 0, iv 0, uu]) rfl (XS.aload X.here hx rfl (hb hby at_210) rfl rfl kt)) ?_
          have F_block_eb := (((((F_block_eb.ext E139).keep K140.1 (ninS ne_eb_ks nin0)).keep K163.1 (ninS ne_eb_ks nin0)).ext E165).keep K166.1 (ninS ne_eb_dd nin0))
          have Oh := K.old O0 all0
          have E_eb := ((E_eb.ext E165).keep K166.1)
          obtain ⟨cq173, kq173, q173a, q173b, q173c⟩ := isOf hZ e0 E_eb
          obtain ⟨_, _, ⟨T, L173, k173, n173⟩, -, X, ⟨Lc173, hQ, l173, y173, z173⟩, st⟩ := X.virtualBack hx (y := yy6) (z := yy6) hown (mvT hZ (oW hw 128 rfl)) (mvT hZ (oW hw 129 rfl)) (notFace_of_selects (args := #[]) (mvT hZ (oW hw 131 rfl))) (mvT hZ (oW hw 131 rfl)) (mvT hZ (oW hw 130 rfl)) (by decide) (backOf (W := 0) (rHB1 l Z a0 hw [] eb xl h Oh F_block_eb) hZ (oW hw 132 rfl) (oW hw 52 rfl) (by decide) (by decide)) q173a q173c (g := (mkF m 212 #[iv p0, iv p1, iv p2, iv p3, iv 0, iv 1, iv 1, rv nm, rv al, rv leaf, rv eb, rv ks, rv dd, iv 0, iv 0, uu] [(.ref eb)])) rfl (by rw [hml]; rfl) (Steps.refl _) (argsL := []) (rest := []) (lenOf pd_5 rfl) rfl (Nat.le_of_eq rfl) (hb hby at_212) (fun _ _ => ⟨rfl, e0, (by decide : 16 + 0 ≤ _), (by decide : 57 + 0 ≤ _)⟩)
          dsimp only [Pt.U, Pt.locs, Pt.cells, Pt.slots] at X l173 y173 z173 st hQ
          subst l173 y173 z173
          obtain ⟨rfl, e0, K172⟩ := hQ
          have K := K.call K172 all0
          rw [e0] at K
          refine oWk.tr st ?_
          refine oWk.st (fun _ kt => XS.istore X.here hx rfl (hb hby at_215) rfl (l' := #[iv p0, iv p1, iv p2, iv p3, iv 0, iv 1, iv 1, rv nm, rv al, rv leaf, rv eb, rv ks, rv dd, iv 0, iv 0, iv 1]) rfl (XS.iload X.here hx rfl (hb hby at_217) rfl (XS.iload X.here hx rfl (hb hby at_219) rfl (XS.icmpNo X.here hx rfl (hb hby at_221) rfl (teq (by decide)).2 (XS.iload X.here hx rfl (hb hby at_224) rfl (XS.aload X.here hx rfl (hb hby at_226) rfl rfl kt)))))) ?_
          have Oh := K.old O0 all0
          obtain ⟨cq175, kq175, q175a, q175b, q175c⟩ := isOf hZ e0 E_dd
          obtain ⟨_, _, ⟨T, L175, k175, n175⟩, -, X, ⟨Lc175, hQ, l175, y175, z175⟩, st⟩ := X.virtualBack hx (y := yy7) (z := yy7) hown (mvT hZ (oW hw 133 rfl)) (mvT hZ (oW hw 134 rfl)) (notFace_of_selects (args := #[]) (mvT hZ (oW hw 136 rfl))) (mvT hZ (oW hw 136 rfl)) (mvT hZ (oW hw 135 rfl)) (by decide) (backOf (W := 1) (rBL0 l Z a0 hw [] dd h Oh F_block_dd) hZ (oW hw 137 rfl) (oW hw 52 rfl) (by decide) (by decide)) q175a q175c (g := (mkF m 228 #[iv p0, iv p1, iv p2, iv p3, iv 0, iv 1, iv 1, rv nm, rv al, rv leaf, rv eb, rv ks, rv dd, iv 0, iv 0, iv 1] [(.ref dd), (.int 0)])) rfl (by rw [hml]; rfl) (Steps.refl _) (argsL := []) (rest := [(.int (0 : Int32))]) (lenOf pd_6 rfl) rfl (Nat.le_of_eq rfl) (hb hby at_228) (fun _ _ => ⟨rfl, e0, (by decide : 16 + 0 ≤ _), (by decide : 57 + 0 ≤ _)⟩)
          dsimp only [Pt.U, Pt.locs, Pt.cells, Pt.slots] at X l175 y175 z175 st hQ
          subst l175 y175 z175
          obtain ⟨rfl, e0, K174⟩ := hQ
          have K := K.call K174 all0
          rw [e0] at K
          refine oWk.tr st ?_
          refine oWk.st (fun _ kt => XS.ifnullYes X.here hx rfl (pc0 := 231) (pc' := 238) rfl (hb hby at_231) rfl (by decide) (by decide) (XS.iconst X.here hx rfl (hb hby at_238) (XS.icmpNo X.here hx rfl (hb hby at_239) rfl (teq (by decide)).2 (XS.iload X.here hx rfl (hb hby at_242) rfl (XS.ifNo X.here hx rfl (hb hby at_244) rfl ((if0 _ _).trans (teq (by decide)).2) (XS.iload X.here hx rfl (hb hby at_247) rfl (XS.ifNo X.here hx rfl (hb hby at_249) rfl ((if0 _ _).trans (feq (by decide)).1) (XS.iconst X.here hx rfl (hb hby at_252) kt)))))))) ?_
          show oWk _ _ _ _ T (mkF m 253 #[iv p0, iv p1, iv p2, iv p3, iv 0, iv 1, iv 1, rv nm, rv al, rv leaf, rv eb, rv ks, rv dd, iv 0, iv 0, iv 1] [(.int 1)])
          refine oWk.st (fun _ kt => XS.goto X.here hx rfl (pc0 := 253) (pc' := 257) rfl (hb hby at_253) (by decide) (by decide) kt) ?_
          show oWk _ _ _ _ T (mkF m 257 #[iv p0, iv p1, iv p2, iv p3, iv 0, iv 1, iv 1, rv nm, rv al, rv leaf, rv eb, rv ks, rv dd, iv 0, iv 0, iv 1] [(.int 1)])
          exact oRetZ X hx hlk hret (hb hby at_257) (Or.inr rfl) (by rw [e0]; exact ⟨rfl, K.fr⟩) (by decide) (by decide)
        · show oWk _ _ _ _ T (mkF m 180 #[iv p0, iv p1, iv p2, iv p3, iv 1, iv 1, iv 1, rv nm, rv al, rv leaf, rv eb, rv ks, uu, uu, uu, uu] [(.ref al), (.int p1), (.ref nm), (.ref dd), (.ref dd)])
          refine oWk.st (fun _ kt => XS.iload X.here hx rfl (hb hby at_180) rfl (XS.ifNo X.here hx rfl (hb hby at_182) rfl ((if0 _ _).trans (feq (by decide)).1) (XS.aload X.here hx rfl (hb hby at_185) rfl rfl (XS.goto X.here hx rfl (pc0 := 187) (pc' := 191) rfl (hb hby at_187) (by decide) (by decide) kt)))) ?_
          have E_al := (E_al.ext E165)
          have F_elementData_al := (((((F_elementData_al.keep K137.1 (ninS ne_al_eb nin0)).ext E139).keep K140.1 (ninS ne_al_ks nin0)).keep K163.1 (ninS ne_al_ks nin0)).ext E165)
          have F_size_al := (((((F_size_al.keep K137.1 (ninS ne_al_eb nin0)).ext E139).keep K140.1 (ninS ne_al_ks nin0)).keep K163.1 (ninS ne_al_ks nin0)).ext E165)
          have E_nd75 := (E_nd75.ext E165)
          have V_nd75 := (((((V_nd75.keep K137.1 (ninS ne_nd75_eb nin0)).ext E139).keep K140.1 (ninS ne_nd75_ks nin0)).keep K163.1 (ninS ne_nd75_ks nin0)).ext E165)
          have E_mk := (E_mk.ext E165)
          have E_ks := (E_ks.ext E165)
          have F_elementData_ks := (F_elementData_ks.ext E165)
          have F_size_ks := (F_size_ks.ext E165)
          have E_nd139 := (E_nd139.ext E165)
          have V_nd139 := (V_nd139.ext E165)
          have E_leaf := (E_leaf.ext E165)
          have Oh := K.old O0 all0
          obtain ⟨_, _, ⟨T, L177, k177, n177⟩, -, X, ⟨Lc177, hQ, l177, y177, z177⟩, st⟩ := X.specialBack hx (y := yy16) rfl hown (mvT hZ (oW hw 53 rfl)) (mvT hZ (oW hw 54 rfl)) (mvT hZ (oW hw 55 rfl)) (by decide) (backOf (W := 1) (rDI_1_1 l Z a0 hw [] dd nm p1 .null (.int (0 : Int32)) .null .null al nd75 nk75 mk ks nd139 nk139 leaf xq xmr h Oh S_EMPTY mm_ (Nat.le_trans O0.1 ge_dd) E_dd F_name_dd F_line_dd F_arguments_dd F_block_dd E_al F_elementData_al F_size_al E_nd75 V_nd75 (Ins.of_exa E_mk (oW hw 149 rfl)) E_ks F_elementData_ks F_size_ks E_nd139 V_nd139 (Ins.of_exa E_leaf (oW hw 127 rfl))) hZ (oW hw 55 rfl) (oW hw 52 rfl) (by decide) (by decide)) (g := (mkF m 191 #[iv p0, iv p1, iv p2, iv p3, iv 1, iv 1, iv 1, rv nm, rv al, rv leaf, rv eb, rv ks, uu, uu, uu, uu] [(.ref ks), (.ref al), (.int p1), (.ref nm), (.ref dd), (.ref dd)])) rfl (by rw [hml]; rfl) (Steps.refl _) (a := dd) (argsL := [(.ref nm), (.int p1), (.ref al), (.ref ks)]) (rest := [(.ref dd)]) (lenOf pd_8 rfl) rfl (Nat.le_of_eq rfl) (hb hby at_191) (fun _ _ => ⟨rfl, e0, (by decide : 14 + 4 ≤ _), (by decide : 54 + 6 ≤ _)⟩)
          dsimp only [Pt.U, Pt.locs, Pt.cells, Pt.slots] at X l177 y177 z177 st hQ
          subst l177 y177 z177
          obtain ⟨h, e0⟩ : ∃ z, T.heap = z := ⟨_, rfl⟩
          rw [e0] at hQ
          obtain ⟨nbl176, rfl, K176, E_dd, F_block_dd⟩ := hQ
          have K := K.call K176 (allS (Or.inr ge_dd) all0)
          refine oWk.tr st ?_
          refine oWk.st (fun _ kt => XS.astore X.here hx rfl (hb hby at_194) rfl rfl (l' := #[iv p0, iv p1, iv p2, iv p3, iv 1, iv 1, iv 1, rv nm, rv al, rv leaf, rv eb, rv ks, rv dd, uu, uu, uu]) rfl (XS.aload X.here hx rfl (hb hby at_196) rfl rfl kt)) ?_
          have Oh := K.old O0 all0
          obtain ⟨cq179, kq179, q179a, q179b, q179c⟩ := isOf hZ e0 E_dd
          obtain ⟨_, _, ⟨T, L179, k179, n179⟩, -, X, ⟨Lc179, hQ, l179, y179, z179⟩, st⟩ := X.virtualBack hx (y := yy6) (z := yy6) hown (mvT hZ (oW hw 128 rfl)) (mvT hZ (oW hw 129 rfl)) (notFace_of_selects (args := #[]) (mvT hZ (oW hw 131 rfl))) (mvT hZ (oW hw 131 rfl)) (mvT hZ (oW hw 130 rfl)) (by decide) (backOf (W := 0) (rHB1 l Z a0 hw [] dd nbl176 h Oh F_block_dd) hZ (oW hw 132 rfl) (oW hw 52 rfl) (by decide) (by decide)) q179a q179c (g := (mkF m 198 #[iv p0, iv p1, iv p2, iv p3, iv 1, iv 1, iv 1, rv nm, rv al, rv leaf, rv eb, rv ks, rv dd, uu, uu, uu] [(.ref dd)])) rfl (by rw [hml]; rfl) (Steps.refl _) (argsL := []) (rest := []) (lenOf pd_5 rfl) rfl (Nat.le_of_eq rfl) (hb hby at_198) (fun _ _ => ⟨rfl, e0, (by decide : 18 + 0 ≤ _), (by decide : 60 + 0 ≤ _)⟩)
          dsimp only [Pt.U, Pt.locs, Pt.cells, Pt.slots] at X l179 y179 z179 st hQ
          subst l179 y179 z179
          obtain ⟨rfl, e0, K178⟩ := hQ
          have K := K.call K178 all0
          rw [e0] at K
          refine oWk.tr st ?_
          refine oWk.st (fun _ kt => XS.istore X.here hx rfl (hb hby at_201) rfl (l' := #[iv p0, iv p1, iv p2, iv p3, iv 1, iv 1, iv 1, rv nm, rv al, rv leaf, rv eb, rv ks, rv dd, iv 1, uu, uu]) rfl (XS.aload X.here hx rfl (hb hby at_203) rfl rfl kt)) ?_
          have F_block_leaf := (((((((((F_block_leaf.ext E133).ext E134).keep K135.1 (ninS ne_leaf_a3 nin0)).keep K137.1 (ninS ne_leaf_eb nin0)).ext E139).keep K140.1 (ninS ne_leaf_ks nin0)).keep K163.1 (ninS ne_leaf_ks nin0)).ext E165).keep K176.1 (ninS ne_leaf_dd nin0))
          have Oh := K.old O0 all0
          have E_leaf := (E_leaf.keep K176.1)
          obtain ⟨cq181, kq181, q181a, q181b, q181c⟩ := isOf hZ e0 E_leaf
          obtain ⟨_, _, ⟨T, L181, k181, n181⟩, -, X, ⟨Lc181, hQ, l181, y181, z181⟩, st⟩ := X.virtualBack hx (y := yy6) (z := yy6) hown (mvT hZ (oW hw 128 rfl)) (mvT hZ (oW hw 129 rfl)) (notFace_of_selects (args := #[]) (mvT hZ (oW hw 131 rfl))) (mvT hZ (oW hw 131 rfl)) (mvT hZ (oW hw 130 rfl)) (by decide) (backOf (W := 0) (rHB0 l Z a0 hw [] leaf h Oh F_block_leaf) hZ (oW hw 132 rfl) (oW hw 52 rfl) (by decide) (by decide)) q181a q181c (g := (mkF m 205 #[iv p0, iv p1, iv p2, iv p3, iv 1, iv 1, iv 1, rv nm, rv al, rv leaf, rv eb, rv ks, rv dd, iv 1, uu, uu] [(.ref leaf)])) rfl (by rw [hml]; rfl) (Steps.refl _) (argsL := []) (rest := []) (lenOf pd_5 rfl) rfl (Nat.le_of_eq rfl) (hb hby at_205) (fun _ _ => ⟨rfl, e0, (by decide : 18 + 0 ≤ _), (by decide : 60 + 0 ≤ _)⟩)
          dsimp only [Pt.U, Pt.locs, Pt.cells, Pt.slots] at X l181 y181 z181 st hQ
          subst l181 y181 z181
          obtain ⟨rfl, e0, K180⟩ := hQ
          have K := K.call K180 all0
          rw [e0] at K
          refine oWk.tr st ?_
          refine oWk.st (fun _ kt => XS.istore X.here hx rfl (hb hby at_208) rfl (l' := #[iv p0, iv p1, iv p2, iv p3, iv 1, iv 1, iv 1, rv nm, rv al, rv leaf, rv eb, rv ks, rv dd, iv 1, iv 0, uu]) rfl (XS.aload X.here hx rfl (hb hby at_210) rfl rfl kt)) ?_
          have F_block_eb := (((((F_block_eb.ext E139).keep K140.1 (ninS ne_eb_ks nin0)).keep K163.1 (ninS ne_eb_ks nin0)).ext E165).keep K176.1 (ninS ne_eb_dd nin0))
          have Oh := K.old O0 all0
          have E_eb := ((E_eb.ext E165).keep K176.1)
          obtain ⟨cq183, kq183, q183a, q183b, q183c⟩ := isOf hZ e0 E_eb
          obtain ⟨_, _, ⟨T, L183, k183, n183⟩, -, X, ⟨Lc183, hQ, l183, y183, z183⟩, st⟩ := X.virtualBack hx (y := yy6) (z := yy6) hown (mvT hZ (oW hw 128 rfl)) (mvT hZ (oW hw 129 rfl)) (notFace_of_selects (args := #[]) (mvT hZ (oW hw 131 rfl))) (mvT hZ (oW hw 131 rfl)) (mvT hZ (oW hw 130 rfl)) (by decide) (backOf (W := 0) (rHB1 l Z a0 hw [] eb xl h Oh F_block_eb) hZ (oW hw 132 rfl) (oW hw 52 rfl) (by decide) (by decide)) q183a q183c (g := (mkF m 212 #[iv p0, iv p1, iv p2, iv p3, iv 1, iv 1, iv 1, rv nm, rv al, rv leaf, rv eb, rv ks, rv dd, iv 1, iv 0, uu] [(.ref eb)])) rfl (by rw [hml]; rfl) (Steps.refl _) (argsL := []) (rest := []) (lenOf pd_5 rfl) rfl (Nat.le_of_eq rfl) (hb hby at_212) (fun _ _ => ⟨rfl, e0, (by decide : 18 + 0 ≤ _), (by decide : 60 + 0 ≤ _)⟩)
          dsimp only [Pt.U, Pt.locs, Pt.cells, Pt.slots] at X l183 y183 z183 st hQ
          subst l183 y183 z183
          obtain ⟨rfl, e0, K182⟩ := hQ
          have K := K.call K182 all0
          rw [e0] at K
          refine oWk.tr st ?_
          refine oWk.st (fun _ kt => XS.istore X.here hx rfl (hb hby at_215) rfl (l' := #[iv p0, iv p1, iv p2, iv p3, iv 1, iv 1, iv 1, rv nm, rv al, rv leaf, rv eb, rv ks, rv dd, iv 1, iv 0, iv 1]) rfl (XS.iload X.here hx rfl (hb hby at_217) rfl (XS.iload X.here hx rfl (hb hby at_219) rfl (XS.icmpNo X.here hx rfl (hb hby at_221) rfl (teq (by decide)).2 (XS.iload X.here hx rfl (hb hby at_224) rfl (XS.aload X.here hx rfl (hb hby at_226) rfl rfl kt)))))) ?_
          have Oh := K.old O0 all0
          obtain ⟨cq185, kq185, q185a, q185b, q185c⟩ := isOf hZ e0 E_dd
          obtain ⟨_, _, ⟨T, L185, k185, n185⟩, -, X, ⟨Lc185, hQ, l185, y185, z185⟩, st⟩ := X.virtualBack hx (y := yy7) (z := yy7) hown (mvT hZ (oW hw 133 rfl)) (mvT hZ (oW hw 134 rfl)) (notFace_of_selects (args := #[]) (mvT hZ (oW hw 136 rfl))) (mvT hZ (oW hw 136 rfl)) (mvT hZ (oW hw 135 rfl)) (by decide) (backOf (W := 1) (rBL1 l Z a0 hw [] dd nbl176 h Oh F_block_dd) hZ (oW hw 137 rfl) (oW hw 52 rfl) (by decide) (by decide)) q185a q185c (g := (mkF m 228 #[iv p0, iv p1, iv p2, iv p3, iv 1, iv 1, iv 1, rv nm, rv al, rv leaf, rv eb, rv ks, rv dd, iv 1, iv 0, iv 1] [(.ref dd), (.int 1)])) rfl (by rw [hml]; rfl) (Steps.refl _) (argsL := []) (rest := [(.int (1 : Int32))]) (lenOf pd_6 rfl) rfl (Nat.le_of_eq rfl) (hb hby at_228) (fun _ _ => ⟨rfl, e0, (by decide : 18 + 0 ≤ _), (by decide : 60 + 0 ≤ _)⟩)
          dsimp only [Pt.U, Pt.locs, Pt.cells, Pt.slots] at X l185 y185 z185 st hQ
          subst l185 y185 z185
          obtain ⟨rfl, e0, K184⟩ := hQ
          have K := K.call K184 all0
          rw [e0] at K
          refine oWk.tr st ?_
          refine oWk.st (fun _ kt => XS.ifnullNo X.here hx rfl (hb hby at_231) rfl (XS.iconst X.here hx rfl (hb hby at_234) (XS.goto X.here hx rfl (pc0 := 235) (pc' := 239) rfl (hb hby at_235) (by decide) (by decide) (XS.icmpNo X.here hx rfl (hb hby at_239) rfl (teq (by decide)).2 (XS.iload X.here hx rfl (hb hby at_242) rfl (XS.ifNo X.here hx rfl (hb hby at_244) rfl ((if0 _ _).trans (teq (by decide)).2) (XS.iload X.here hx rfl (hb hby at_247) rfl (XS.ifNo X.here hx rfl (hb hby at_249) rfl ((if0 _ _).trans (feq (by decide)).1) kt)))))))) ?_
          show oWk _ _ _ _ T (mkF m 252 #[iv p0, iv p1, iv p2, iv p3, iv 1, iv 1, iv 1, rv nm, rv al, rv leaf, rv eb, rv ks, rv dd, iv 1, iv 0, iv 1] [])
          refine oWk.st (fun _ kt => XS.iconst X.here hx rfl (hb hby at_252) (XS.goto X.here hx rfl (pc0 := 253) (pc' := 257) rfl (hb hby at_253) (by decide) (by decide) kt)) ?_
          show oWk _ _ _ _ T (mkF m 257 #[iv p0, iv p1, iv p2, iv p3, iv 1, iv 1, iv 1, rv nm, rv al, rv leaf, rv eb, rv ks, rv dd, iv 1, iv 0, iv 1] [(.int 1)])
          exact oRetZ X hx hlk hret (hb hby at_257) (Or.inr rfl) (by rw [e0]; exact ⟨rfl, K.fr⟩) (by decide) (by decide)
      · show oWk _ _ _ _ T (mkF m 129 #[iv p0, iv p1, iv p2, iv p3, iv wb, iv 2, iv 1, rv nm, rv al, rv leaf, rv eb, rv ks, uu, uu, uu, uu] [])
        refine oWk.st (fun _ kt => XS.iload X.here hx rfl (hb hby at_129) rfl (XS.iconst X.here hx rfl (hb hby at_131) (XS.icmpNo X.here hx rfl (hb hby at_132) rfl (flt (by decide)).1 (XS.aload X.here hx rfl (hb hby at_135) rfl rfl (XS.aload X.here hx rfl (hb hby at_137) rfl rfl kt))))) ?_
        have V_xd := ((V_xd.ext E139).keep K140.1 (ninS ne_xd_ks nin0))
        have E_leaf := ((E_leaf.ext E139).keep K140.1)
        have lt_xd := V_xd.lt
        have E_nm := ((E_nm.ext E139).keep K140.1)
        have lt_nm := E_nm.lt
        have V_nmb := ((V_nmb.ext E139).keep K140.1 (ninS ne_nmb_ks nin0))
        have lt_nmb := V_nmb.lt
        have E_al := ((E_al.ext E139).keep K140.1)
        have lt_al := E_al.lt
        have E_mk := ((E_mk.ext E139).keep K140.1)
        have lt_mk := E_mk.lt
        have E_nd75 := ((E_nd75.ext E139).keep K140.1)
        have lt_nd75 := E_nd75.lt
        have lt_leaf := E_leaf.lt
        have E_a2 := ((E_a2.ext E139).keep K140.1)
        have lt_a2 := E_a2.lt
        have E_eb := ((E_eb.ext E139).keep K140.1)
        have lt_eb := E_eb.lt
        have E_a3 := ((E_a3.ext E139).keep K140.1)
        have lt_a3 := E_a3.lt
        have lt_ks := E_ks.lt
        have Oh := K.old O0 all0
        obtain ⟨cq187, kq187, q187a, q187b, q187c⟩ := isOf hZ e0 E_ks
        obtain ⟨_, _, ⟨T, L187, k187, n187⟩, -, X, ⟨Lc187, hQ, l187, y187, z187⟩, st⟩ := X.virtualBack hx (y := yy21) (z := yy21) hown (mvT hZ (oW hw 99 rfl)) (mvT hZ (oW hw 100 rfl)) (notFace_of_selects (args := #[]) (mvT hZ (oW hw 102 rfl))) (mvT hZ (oW hw 102 rfl)) (mvT hZ (oW hw 101 rfl)) (by decide) (backOf (W := 0) (rAd_0 l Z a0 hw [] ks leaf xd xk (0 : Int32) h Oh S_DEFAULTCAPACITY_EMPTY_ELEMENTDATA (Nat.le_trans O0.1 ge_ks) E_ks F_elementData_ks F_size_ks F_modCount_ks V_xd (Ins.of_exa E_leaf (oW hw 127 rfl)) (Ne.symm ne_leaf_ks) (Ne.symm ne_xd_ks)) hZ (oW hw 103 rfl) (oW hw 28 rfl) (by decide) (by decide)) q187a q187c (g := (mkF m 139 #[iv p0, iv p1, iv p2, iv p3, iv wb, iv 2, iv 1, rv nm, rv al, rv leaf, rv eb, rv ks, uu, uu, uu, uu] [(.ref leaf), (.ref ks)])) rfl (by rw [hml]; rfl) (Steps.refl _) (argsL := [(.ref leaf)]) (rest := []) (lenOf pd_13 rfl) rfl (Nat.le_of_eq rfl) (hb hby at_139) (fun _ _ => ⟨rfl, e0, (by decide : 12 + 1 ≤ _), (by decide : 40 + 10 ≤ _)⟩)
        dsimp only [Pt.U, Pt.locs, Pt.cells, Pt.slots] at X l187 y187 z187 st hQ
        subst l187 y187 z187
        obtain ⟨h, e0⟩ : ∃ z, T.heap = z := ⟨_, rfl⟩
        rw [e0] at hQ
        obtain ⟨nd139, nk139, rfl, K186, E_ks, F_elementData_ks, F_size_ks, F_modCount_ks, gn_nd139, E_nd139, V_nd139, ov_nk139⟩ := hQ
        have ge_nd139 := Nat.le_trans K.le gn_nd139
        have ne_xd_nd139 : xd ≠ nd139 := Nat.ne_of_lt (Nat.lt_of_lt_of_le lt_xd gn_nd139)
        have ne_nm_nd139 : nm ≠ nd139 := Nat.ne_of_lt (Nat.lt_of_lt_of_le lt_nm gn_nd139)
        have ne_nmb_nd139 : nmb ≠ nd139 := Nat.ne_of_lt (Nat.lt_of_lt_of_le lt_nmb gn_nd139)
        have ne_al_nd139 : al ≠ nd139 := Nat.ne_of_lt (Nat.lt_of_lt_of_le lt_al gn_nd139)
        have ne_mk_nd139 : mk ≠ nd139 := Nat.ne_of_lt (Nat.lt_of_lt_of_le lt_mk gn_nd139)
        have ne_nd75_nd139 : nd75 ≠ nd139 := Nat.ne_of_lt (Nat.lt_of_lt_of_le lt_nd75 gn_nd139)
        have ne_leaf_nd139 : leaf ≠ nd139 := Nat.ne_of_lt (Nat.lt_of_lt_of_le lt_leaf gn_nd139)
        have ne_a2_nd139 : a2 ≠ nd139 := Nat.ne_of_lt (Nat.lt_of_lt_of_le lt_a2 gn_nd139)
        have ne_eb_nd139 : eb ≠ nd139 := Nat.ne_of_lt (Nat.lt_of_lt_of_le lt_eb gn_nd139)
        have ne_a3_nd139 : a3 ≠ nd139 := Nat.ne_of_lt (Nat.lt_of_lt_of_le lt_a3 gn_nd139)
        have ne_ks_nd139 : ks ≠ nd139 := Nat.ne_of_lt (Nat.lt_of_lt_of_le lt_ks gn_nd139)
        have K := K.call K186 (allS (Or.inr ge_ks) all0)
        refine oWk.tr st ?_
        refine oWk.st (fun _ kt => XS.pop X.here hx rfl (hb hby at_142) rfl rfl (XS.iload X.here hx rfl (hb hby at_143) rfl (XS.iconst X.here hx rfl (hb hby at_145) (XS.icmpNo X.here hx rfl (hb hby at_146) rfl (flt (by decide)).1 (XS.aload X.here hx rfl (hb hby at_149) rfl rfl (XS.aload X.here hx rfl (hb hby at_151) rfl rfl kt)))))) ?_
        have E_leaf := (E_leaf.keep K186.1)
        have Oh := K.old O0 all0
        obtain ⟨cq189, kq189, q189a, q189b, q189c⟩ := isOf hZ e0 E_ks
        obtain ⟨_, _, ⟨T, L189, k189, n189⟩, -, X, ⟨Lc189, hQ, l189, y189, z189⟩, st⟩ := X.virtualBack hx (y := yy21) (z := yy21) hown (mvT hZ (oW hw 99 rfl)) (mvT hZ (oW hw 100 rfl)) (notFace_of_selects (args := #[]) (mvT hZ (oW hw 102 rfl))) (mvT hZ (oW hw 102 rfl)) (mvT hZ (oW hw 101 rfl)) (by decide) (backOf (W := 0) (rAd_1 l Z a0 hw [] ks leaf nd139 nk139 ((0 : Int32) + (1 : Int32)) leaf h Oh (Nat.le_trans O0.1 ge_ks) (Nat.le_trans O0.1 ge_nd139) ne_ks_nd139 E_ks F_elementData_ks F_size_ks F_modCount_ks E_nd139 V_nd139 ov_nk139 (Ins.of_exa E_leaf (oW hw 127 rfl))) hZ (oW hw 103 rfl) (oW hw 28 rfl) (by decide) (by decide)) q189a q189c (g := (mkF m 153 #[iv p0, iv p1, iv p2, iv p3, iv wb, iv 2, iv 1, rv nm, rv al, rv leaf, rv eb, rv ks, uu, uu, uu, uu] [(.ref leaf), (.ref ks)])) rfl (by rw [hml]; rfl) (Steps.refl _) (argsL := [(.ref leaf)]) (rest := []) (lenOf pd_13 rfl) rfl (Nat.le_of_eq rfl) (hb hby at_153) (fun _ _ => ⟨rfl, e0, (by decide : 13 + 0 ≤ _), (by decide : 50 + 0 ≤ _)⟩)
        dsimp only [Pt.U, Pt.locs, Pt.cells, Pt.slots] at X l189 y189 z189 st hQ
        subst l189 y189 z189
        obtain ⟨h, e0⟩ : ∃ z, T.heap = z := ⟨_, rfl⟩
        rw [e0] at hQ
        obtain ⟨rfl, K188, E_ks, F_elementData_ks, F_size_ks, F_modCount_ks, E_nd139, V_nd139⟩ := hQ
        have K := K.call K188 (allS (Or.inr ge_ks) (allS (Or.inr ge_nd139) all0))
        refine oWk.tr st ?_
        refine oWk.st (fun _ kt => XS.pop X.here hx rfl (hb hby at_156) rfl rfl (XS.iload X.here hx rfl (hb hby at_157) rfl (XS.iconst X.here hx rfl (hb hby at_159) (XS.icmpYes X.here hx rfl (pc0 := 160) (pc' := 171) rfl (hb hby at_160) rfl (tlt (by decide)).1 (by decide) (by decide) kt)))) ?_
        obtain ⟨dd, g190⟩ : ∃ z, z = h.size := ⟨_, rfl⟩
        have V_xd := ((V_xd.keep K186.1 (ninS ne_xd_ks nin0)).keep K188.1 (ninS ne_xd_ks (ninS ne_xd_nd139 nin0)))
        have ne_xd_dd : xd ≠ dd := Nat.ne_of_lt (Nat.lt_of_lt_of_le V_xd.lt (Nat.le_of_eq g190.symm))
        have E_nm := ((E_nm.keep K186.1).keep K188.1)
        have ne_nm_dd : nm ≠ dd := Nat.ne_of_lt (Nat.lt_of_lt_of_le E_nm.lt (Nat.le_of_eq g190.symm))
        have V_nmb := ((V_nmb.keep K186.1 (ninS ne_nmb_ks nin0)).keep K188.1 (ninS ne_nmb_ks (ninS ne_nmb_nd139 nin0)))
        have ne_nmb_dd : nmb ≠ dd := Nat.ne_of_lt (Nat.lt_of_lt_of_le V_nmb.lt (Nat.le_of_eq g190.symm))
        have E_al := ((E_al.keep K186.1).keep K188.1)
        have ne_al_dd : al ≠ dd := Nat.ne_of_lt (Nat.lt_of_lt_of_le E_al.lt (Nat.le_of_eq g190.symm))
        have E_mk := ((E_mk.keep K186.1).keep K188.1)
        have ne_mk_dd : mk ≠ dd := Nat.ne_of_lt (Nat.lt_of_lt_of_le E_mk.lt (Nat.le_of_eq g190.symm))
        have E_nd75 := ((E_nd75.keep K186.1).keep K188.1)
        have ne_nd75_dd : nd75 ≠ dd := Nat.ne_of_lt (Nat.lt_of_lt_of_le E_nd75.lt (Nat.le_of_eq g190.symm))
        have E_leaf := (E_leaf.keep K188.1)
        have ne_leaf_dd : leaf ≠ dd := Nat.ne_of_lt (Nat.lt_of_lt_of_le E_leaf.lt (Nat.le_of_eq g190.symm))
        have E_a2 := ((E_a2.keep K186.1).keep K188.1)
        have ne_a2_dd : a2 ≠ dd := Nat.ne_of_lt (Nat.lt_of_lt_of_le E_a2.lt (Nat.le_of_eq g190.symm))
        have E_eb := ((E_eb.keep K186.1).keep K188.1)
        have ne_eb_dd : eb ≠ dd := Nat.ne_of_lt (Nat.lt_of_lt_of_le E_eb.lt (Nat.le_of_eq g190.symm))
        have E_a3 := ((E_a3.keep K186.1).keep K188.1)
        have ne_a3_dd : a3 ≠ dd := Nat.ne_of_lt (Nat.lt_of_lt_of_le E_a3.lt (Nat.le_of_eq g190.symm))
        have ne_ks_dd : ks ≠ dd := Nat.ne_of_lt (Nat.lt_of_lt_of_le E_ks.lt (Nat.le_of_eq g190.symm))
        have ne_nd139_dd : nd139 ≠ dd := Nat.ne_of_lt (Nat.lt_of_lt_of_le E_nd139.lt (Nat.le_of_eq g190.symm))
        have ge_dd : h0.size ≤ dd := Nat.le_trans K.le (Nat.le_of_eq g190.symm)
        obtain ⟨T, h, X, e0, E190, A190, D190, -, st⟩ := newO X hx hZ hown (oW hw 50 rfl) (oW hw 51 rfl) (oW hw 52 rfl) e0 (g := (mkF m 171 #[iv p0, iv p1, iv p2, iv p3, iv wb, iv 2, iv 1, rv nm, rv al, rv leaf, rv eb, rv ks, uu, uu, uu, uu] [])) rfl (hb hby at_171) (by decide) (by decide)
        rw [← g190] at A190 D190 st
        refine oWk.st st ?_
        have K := K.ext E190
        have E_dd := A190
        have F_name_dd : Fld Z h dd "com/example/modwright/modwright/script/Directive" "name" "Ljava/lang/String;" .null := D190 (Or.inr (oW hw 92 rfl)) (ty := (.object "java/lang/String")) (by decide)
        have F_line_dd : Fld Z h dd "com/example/modwright/modwright/script/Directive" "line" "I" (.int (0 : Int32)) := D190 (Or.inr (oW hw 94 rfl)) (ty := .int) (by decide)
        have F_arguments_dd : Fld Z h dd "com/example/modwright/modwright/script/Directive" "arguments" "Ljava/util/List;" .null := D190 (Or.inr (oW hw 96 rfl)) (ty := (.object "java/util/List")) (by decide)
        have F_block_dd : Fld Z h dd "com/example/modwright/modwright/script/Directive" "block" "Ljava/util/List;" .null := D190 (Or.inr (oW hw 98 rfl)) (ty := (.object "java/util/List")) (by decide)
        refine oWk.st (fun _ kt => XS.dup X.here hx rfl (hb hby at_174) rfl rfl (XS.aload X.here hx rfl (hb hby at_175) rfl rfl (XS.iloadN X.here hx rfl (hb hby at_177) rfl (XS.aload X.here hx rfl (hb hby at_178) rfl rfl kt)))) ?_
        show oWk _ _ _ _ T (mkF m 180 #[iv p0, iv p1, iv p2, iv p3, iv wb, iv 2, iv 1, rv nm, rv al, rv leaf, rv eb, rv ks, uu, uu, uu, uu] [(.ref al), (.int p1), (.ref nm), (.ref dd), (.ref dd)])
        rcases hwb with rfl | rfl
        · show oWk _ _ _ _ T (mkF m 180 #[iv p0, iv p1, iv p2, iv p3, iv 0, iv 2, iv 1, rv nm, rv al, rv leaf, rv eb, rv ks, uu, uu, uu, uu] [(.ref al), (.int p1), (.ref nm), (.ref dd), (.ref dd)])
          refine oWk.st (fun _ kt => XS.iload X.here hx rfl (hb hby at_180) rfl (XS.ifYes X.here hx rfl (pc0 := 182) (pc' := 190) rfl (hb hby at_182) rfl ((if0 _ _).trans (teq (by decide)).1) (by decide) (by decide) (XS.aconstNull X.here hx rfl (hb hby at_190) kt))) ?_
          have E_al := (E_al.ext E190)
          have F_elementData_al := ((((((F_elementData_al.keep K137.1 (ninS ne_al_eb nin0)).ext E139).keep K140.1 (ninS ne_al_ks nin0)).keep K186.1 (ninS ne_al_ks nin0)).keep K188.1 (ninS ne_al_ks (ninS ne_al_nd139 nin0))).ext E190)
          have F_size_al := ((((((F_size_al.keep K137.1 (ninS ne_al_eb nin0)).ext E139).keep K140.1 (ninS ne_al_ks nin0)).keep K186.1 (ninS ne_al_ks nin0)).keep K188.1 (ninS ne_al_ks (ninS ne_al_nd139 nin0))).ext E190)
          have E_nd75 := (E_nd75.ext E190)
          have V_nd75 := ((((((V_nd75.keep K137.1 (ninS ne_nd75_eb nin0)).ext E139).keep K140.1 (ninS ne_nd75_ks nin0)).keep K186.1 (ninS ne_nd75_ks nin0)).keep K188.1 (ninS ne_nd75_ks (ninS ne_nd75_nd139 nin0))).ext E190)
          have E_mk := (E_mk.ext E190)
          have Oh := K.old O0 all0
          obtain ⟨_, _, ⟨T, L192, k192, n192⟩, -, X, ⟨Lc192, hQ, l192, y192, z192⟩, st⟩ := X.specialBack hx (y := yy16) rfl hown (mvT hZ (oW hw 53 rfl)) (mvT hZ (oW hw 54 rfl)) (mvT hZ (oW hw 55 rfl)) (by decide) (backOf (W := 1) (rDI_1_N l Z a0 hw [] dd nm p1 .null (.int (0 : Int32)) .null .null al nd75 nk75 mk xq xmr h Oh S_EMPTY mm_ (Nat.le_trans O0.1 ge_dd) E_dd F_name_dd F_line_dd F_arguments_dd F_block_dd E_al F_elementData_al F_size_al E_nd75 V_nd75 (Ins.of_exa E_mk (oW hw 149 rfl))) hZ (oW hw 55 rfl) (oW hw 52 rfl) (by decide) (by decide)) (g := (mkF m 191 #[iv p0, iv p1, iv p2, iv p3, iv 0, iv 2, iv 1, rv nm, rv al, rv leaf, rv eb, rv ks, uu, uu, uu, uu] [.null, (.ref al), (.int p1), (.ref nm), (.ref dd), (.ref dd)])) rfl (by rw [hml]; rfl) (Steps.refl _) (a := dd) (argsL := [(.ref nm), (.int p1), (.ref al), .null]) (rest := [(.ref dd)]) (lenOf pd_8 rfl) rfl (Nat.le_of_eq rfl) (hb hby at_191) (fun _ _ => ⟨rfl, e0, (by decide : 14 + 2 ≤ _), (by decide : 54 + 3 ≤ _)⟩)
          dsimp only [Pt.U, Pt.locs, Pt.cells, Pt.slots] at X l192 y192 z192 st hQ
          subst l192 y192 z192
          obtain ⟨h, e0⟩ : ∃ z, T.heap = z := ⟨_, rfl⟩
          rw [e0] at hQ
          obtain ⟨rfl, K191, E_dd, F_block_dd⟩ := hQ
          have K := K.call K191 (allS (Or.inr ge_dd) all0)
          refine oWk.tr st ?_
          refine oWk.st (fun _ kt => XS.astore X.here hx rfl (hb hby at_194) rfl rfl (l' := #[iv p0, iv p1, iv p2, iv p3, iv 0, iv 2, iv 1, rv nm, rv al, rv leaf, rv eb, rv ks, rv dd, uu, uu, uu]) rfl (XS.aload X.here hx rfl (hb hby at_196) rfl rfl kt)) ?_
          have Oh := K.old O0 all0
          obtain ⟨cq194, kq194, q194a, q194b, q194c⟩ := isOf hZ e0 E_dd
          obtain ⟨_, _, ⟨T, L194, k194, n194⟩, -, X, ⟨Lc194, hQ, l194, y194, z194⟩, st⟩ := X.virtualBack hx (y := yy6) (z := yy6) hown (mvT hZ (oW hw 128 rfl)) (mvT hZ (oW hw 129 rfl)) (notFace_of_selects (args := #[]) (mvT hZ (oW hw 131 rfl))) (mvT hZ (oW hw 131 rfl)) (mvT hZ (oW hw 130 rfl)) (by decide) (backOf (W := 0) (rHB0 l Z a0 hw [] dd h Oh F_block_dd) hZ (oW hw 132 rfl) (oW hw 52 rfl) (by decide) (by decide)) q194a q194c (g := (mkF m 198 #[iv p0, iv p1, iv p2, iv p3, iv 0, iv 2, iv 1, rv nm, rv al, rv leaf, rv eb, rv ks, rv dd, uu, uu, uu] [(.ref dd)])) rfl (by rw [hml]; rfl) (Steps.refl _) (argsL := []) (rest := []) (lenOf pd_5 rfl) rfl (Nat.le_of_eq rfl) (hb hby at_198) (fun _ _ => ⟨rfl, e0, (by decide : 16 + 0 ≤ _), (by decide : 57 + 0 ≤ _)⟩)
          dsimp only [Pt.U, Pt.locs, Pt.cells, Pt.slots] at X l194 y194 z194 st hQ
          subst l194 y194 z194
          obtain ⟨rfl, e0, K193⟩ := hQ
          have K := K.call K193 all0
          rw [e0] at K
          refine oWk.tr st ?_
          refine oWk.st (fun _ kt => XS.istore X.here hx rfl (hb hby at_201) rfl (l' := #[iv p0, iv p1, iv p2, iv p3, iv 0, iv 2, iv 1, rv nm, rv al, rv leaf, rv eb, rv ks, rv dd, iv 0, uu, uu]) rfl (XS.aload X.here hx rfl (hb hby at_203) rfl rfl kt)) ?_
          have F_block_leaf := ((((((((((F_block_leaf.ext E133).ext E134).keep K135.1 (ninS ne_leaf_a3 nin0)).keep K137.1 (ninS ne_leaf_eb nin0)).ext E139).keep K140.1 (ninS ne_leaf_ks nin0)).keep K186.1 (ninS ne_leaf_ks nin0)).keep K188.1 (ninS ne_leaf_ks (ninS ne_leaf_nd139 nin0))).ext E190).keep K191.1 (ninS ne_leaf_dd nin0))
          have Oh := K.old O0 all0
          have E_leaf := ((E_leaf.ext E190).keep K191.1)
          obtain ⟨cq196, kq196, q196a, q196b, q196c⟩ := isOf hZ e0 E_leaf
          obtain ⟨_, _, ⟨T, L196, k196, n196⟩, -, X, ⟨Lc196, hQ, l196, y196, z196⟩, st⟩ := X.virtualBack hx (y := yy6) (z := yy6) hown (mvT hZ (oW hw 128 rfl)) (mvT hZ (oW hw 129 rfl)) (notFace_of_selects (args := #[]) (mvT hZ (oW hw 131 rfl))) (mvT hZ (oW hw 131 rfl)) (mvT hZ (oW hw 130 rfl)) (by decide) (backOf (W := 0) (rHB0 l Z a0 hw [] leaf h Oh F_block_leaf) hZ (oW hw 132 rfl) (oW hw 52 rfl) (by decide) (by decide)) q196a q196c (g := (mkF m 205 #[iv p0, iv p1, iv p2, iv p3, iv 0, iv 2, iv 1, rv nm, rv al, rv leaf, rv eb, rv ks, rv dd, iv 0, uu, uu] [(.ref leaf)])) rfl (by rw [hml]; rfl) (Steps.refl _) (argsL := []) (rest := []) (lenOf pd_5 rfl) rfl (Nat.le_of_eq rfl) (hb hby at_205) (fun _ _ => ⟨rfl, e0, (by decide : 16 + 0 ≤ _), (by decide : 57 + 0 ≤ _)⟩)
          dsimp only [Pt.U, Pt.locs, Pt.cells, Pt.slots] at X l196 y196 z196 st hQ
          subst l196 y196 z196
          obtain ⟨rfl, e0, K195⟩ := hQ
          have K := K.call K195 all0
          rw [e0] at K
          refine oWk.tr st ?_
          refine oWk.st (fun _ kt => XS.istore X.here hx rfl (hb hby at_208) rfl (l' := #[iv p0, iv p1, iv p2, iv p3, iv 0, iv 2, iv 1, rv nm, rv al, rv leaf, rv eb, rv ks, rv dd, iv 0, iv 0, uu]) rfl (XS.aload X.here hx rfl (hb hby at_210) rfl rfl kt)) ?_
          have F_block_eb := ((((((F_block_eb.ext E139).keep K140.1 (ninS ne_eb_ks nin0)).keep K186.1 (ninS ne_eb_ks nin0)).keep K188.1 (ninS ne_eb_ks (ninS ne_eb_nd139 nin0))).ext E190).keep K191.1 (ninS ne_eb_dd nin0))
          have Oh := K.old O0 all0
          have E_eb := ((E_eb.ext E190).keep K191.1)
          obtain ⟨cq198, kq198, q198a, q198b, q198c⟩ := isOf hZ e0 E_eb
          obtain ⟨_, _, ⟨T, L198, k198, n198⟩, -, X, ⟨Lc198, hQ, l198, y198, z198⟩, st⟩ := X.virtualBack hx (y := yy6) (z := yy6) hown (mvT hZ (oW hw 128 rfl)) (mvT hZ (oW hw 129 rfl)) (notFace_of_selects (args := #[]) (mvT hZ (oW hw 131 rfl))) (mvT hZ (oW hw 131 rfl)) (mvT hZ (oW hw 130 rfl)) (by decide) (backOf (W := 0) (rHB1 l Z a0 hw [] eb xl h Oh F_block_eb) hZ (oW hw 132 rfl) (oW hw 52 rfl) (by decide) (by decide)) q198a q198c (g := (mkF m 212 #[iv p0, iv p1, iv p2, iv p3, iv 0, iv 2, iv 1, rv nm, rv al, rv leaf, rv eb, rv ks, rv dd, iv 0, iv 0, uu] [(.ref eb)])) rfl (by rw [hml]; rfl) (Steps.refl _) (argsL := []) (rest := []) (lenOf pd_5 rfl) rfl (Nat.le_of_eq rfl) (hb hby at_212) (fun _ _ => ⟨rfl, e0, (by decide : 16 + 0 ≤ _), (by decide : 57 + 0 ≤ _)⟩)
          dsimp only [Pt.U, Pt.locs, Pt.cells, Pt.slots] at X l198 y198 z198 st hQ
          subst l198 y198 z198
          obtain ⟨rfl, e0, K197⟩ := hQ
          have K := K.call K197 all0
          rw [e0] at K
          refine oWk.tr st ?_
          refine oWk.st (fun _ kt => XS.istore X.here hx rfl (hb hby at_215) rfl (l' := #[iv p0, iv p1, iv p2, iv p3, iv 0, iv 2, iv 1, rv nm, rv al, rv leaf, rv eb, rv ks, rv dd, iv 0, iv 0, iv 1]) rfl (XS.iload X.here hx rfl (hb hby at_217) rfl (XS.iload X.here hx rfl (hb hby at_219) rfl (XS.icmpNo X.here hx rfl (hb hby at_221) rfl (teq (by decide)).2 (XS.iload X.here hx rfl (hb hby at_224) rfl (XS.aload X.here hx rfl (hb hby at_226) rfl rfl kt)))))) ?_
          have Oh := K.old O0 all0
          obtain ⟨cq200, kq200, q200a, q200b, q200c⟩ := isOf hZ e0 E_dd
          obtain ⟨_, _, ⟨T, L200, k200, n200⟩, -, X, ⟨Lc200, hQ, l200, y200, z200⟩, st⟩ := X.virtualBack hx (y := yy7) (z := yy7) hown (mvT hZ (oW hw 133 rfl)) (mvT hZ (oW hw 134 rfl)) (notFace_of_selects (args := #[]) (mvT hZ (oW hw 136 rfl))) (mvT hZ (oW hw 136 rfl)) (mvT hZ (oW hw 135 rfl)) (by decide) (backOf (W := 1) (rBL0 l Z a0 hw [] dd h Oh F_block_dd) hZ (oW hw 137 rfl) (oW hw 52 rfl) (by decide) (by decide)) q200a q200c (g := (mkF m 228 #[iv p0, iv p1, iv p2, iv p3, iv 0, iv 2, iv 1, rv nm, rv al, rv leaf, rv eb, rv ks, rv dd, iv 0, iv 0, iv 1] [(.ref dd), (.int 0)])) rfl (by rw [hml]; rfl) (Steps.refl _) (argsL := []) (rest := [(.int (0 : Int32))]) (lenOf pd_6 rfl) rfl (Nat.le_of_eq rfl) (hb hby at_228) (fun _ _ => ⟨rfl, e0, (by decide : 16 + 0 ≤ _), (by decide : 57 + 0 ≤ _)⟩)
          dsimp only [Pt.U, Pt.locs, Pt.cells, Pt.slots] at X l200 y200 z200 st hQ
          subst l200 y200 z200
          obtain ⟨rfl, e0, K199⟩ := hQ
          have K := K.call K199 all0
          rw [e0] at K
          refine oWk.tr st ?_
          refine oWk.st (fun _ kt => XS.ifnullYes X.here hx rfl (pc0 := 231) (pc' := 238) rfl (hb hby at_231) rfl (by decide) (by decide) (XS.iconst X.here hx rfl (hb hby at_238) (XS.icmpNo X.here hx rfl (hb hby at_239) rfl (teq (by decide)).2 (XS.iload X.here hx rfl (hb hby at_242) rfl (XS.ifNo X.here hx rfl (hb hby at_244) rfl ((if0 _ _).trans (teq (by decide)).2) (XS.iload X.here hx rfl (hb hby at_247) rfl (XS.ifNo X.here hx rfl (hb hby at_249) rfl ((if0 _ _).trans (feq (by decide)).1) (XS.iconst X.here hx rfl (hb hby at_252) kt)))))))) ?_
          show oWk _ _ _ _ T (mkF m 253 #[iv p0, iv p1, iv p2, iv p3, iv 0, iv 2, iv 1, rv nm, rv al, rv leaf, rv eb, rv ks, rv dd, iv 0, iv 0, iv 1] [(.int 1)])
          refine oWk.st (fun _ kt => XS.goto X.here hx rfl (pc0 := 253) (pc' := 257) rfl (hb hby at_253) (by decide) (by decide) kt) ?_
          show oWk _ _ _ _ T (mkF m 257 #[iv p0, iv p1, iv p2, iv p3, iv 0, iv 2, iv 1, rv nm, rv al, rv leaf, rv eb, rv ks, rv dd, iv 0, iv 0, iv 1] [(.int 1)])
          exact oRetZ X hx hlk hret (hb hby at_257) (Or.inr rfl) (by rw [e0]; exact ⟨rfl, K.fr⟩) (by decide) (by decide)
        · show oWk _ _ _ _ T (mkF m 180 #[iv p0, iv p1, iv p2, iv p3, iv 1, iv 2, iv 1, rv nm, rv al, rv leaf, rv eb, rv ks, uu, uu, uu, uu] [(.ref al), (.int p1), (.ref nm), (.ref dd), (.ref dd)])
          refine oWk.st (fun _ kt => XS.iload X.here hx rfl (hb hby at_180) rfl (XS.ifNo X.here hx rfl (hb hby at_182) rfl ((if0 _ _).trans (feq (by decide)).1) (XS.aload X.here hx rfl (hb hby at_185) rfl rfl (XS.goto X.here hx rfl (pc0 := 187) (pc' := 191) rfl (hb hby at_187) (by decide) (by decide) kt)))) ?_
          have E_al := (E_al.ext E190)
          have F_elementData_al := ((((((F_elementData_al.keep K137.1 (ninS ne_al_eb nin0)).ext E139).keep K140.1 (ninS ne_al_ks nin0)).keep K186.1 (ninS ne_al_ks nin0)).keep K188.1 (ninS ne_al_ks (ninS ne_al_nd139 nin0))).ext E190)
          have F_size_al := ((((((F_size_al.keep K137.1 (ninS ne_al_eb nin0)).ext E139).keep K140.1 (ninS ne_al_ks nin0)).keep K186.1 (ninS ne_al_ks nin0)).keep K188.1 (ninS ne_al_ks (ninS ne_al_nd139 nin0))).ext E190)
          have E_nd75 := (E_nd75.ext E190)
          have V_nd75 := ((((((V_nd75.keep K137.1 (ninS ne_nd75_eb nin0)).ext E139).keep K140.1 (ninS ne_nd75_ks nin0)).keep K186.1 (ninS ne_nd75_ks nin0)).keep K188.1 (ninS ne_nd75_ks (ninS ne_nd75_nd139 nin0))).ext E190)
          have E_mk := (E_mk.ext E190)
          have E_ks := (E_ks.ext E190)
          have F_elementData_ks := (F_elementData_ks.ext E190)
          have F_size_ks := (F_size_ks.ext E190)
          have E_nd139 := (E_nd139.ext E190)
          have V_nd139 := (V_nd139.ext E190)
          have E_leaf := (E_leaf.ext E190)
          have Oh := K.old O0 all0
          obtain ⟨_, _, ⟨T, L202, k202, n202⟩, -, X, ⟨Lc202, hQ, l202, y202, z202⟩, st⟩ := X.specialBack hx (y := yy16) rfl hown (mvT hZ (oW hw 53 rfl)) (mvT hZ (oW hw 54 rfl)) (mvT hZ (oW hw 55 rfl)) (by decide) (backOf (W := 1) (rDI_1_2 l Z a0 hw [] dd nm p1 .null (.int (0 : Int32)) .null .null al nd75 nk75 mk ks nd139 nk139 leaf leaf xq xmr h Oh S_EMPTY mm_ (Nat.le_trans O0.1 ge_dd) E_dd F_name_dd F_line_dd F_arguments_dd F_block_dd E_al F_elementData_al F_size_al E_nd75 V_nd75 (Ins.of_exa E_mk (oW hw 149 rfl)) E_ks F_elementData_ks F_size_ks E_nd139 V_nd139 (Ins.of_exa E_leaf (oW hw 127 rfl)) (Ins.of_exa E_leaf (oW hw 127 rfl))) hZ (oW hw 55 rfl) (oW hw 52 rfl) (by decide) (by decide)) (g := (mkF m 191 #[iv p0, iv p1, iv p2, iv p3, iv 1, iv 2, iv 1, rv nm, rv al, rv leaf, rv eb, rv ks, uu, uu, uu, uu] [(.ref ks), (.ref al), (.int p1), (.ref nm), (.ref dd), (.ref dd)])) rfl (by rw [hml]; rfl) (Steps.refl _) (a := dd) (argsL := [(.ref nm), (.int p1), (.ref al), (.ref ks)]) (rest := [(.ref dd)]) (lenOf pd_8 rfl) rfl (Nat.le_of_eq rfl) (hb hby at_191) (fun _ _ => ⟨rfl, e0, (by decide : 14 + 4 ≤ _), (by decide : 54 + 7 ≤ _)⟩)
          dsimp only [Pt.U, Pt.locs, Pt.cells, Pt.slots] at X l202 y202 z202 st hQ
          subst l202 y202 z202
          obtain ⟨h, e0⟩ : ∃ z, T.heap = z := ⟨_, rfl⟩
          rw [e0] at hQ
          obtain ⟨nbl201, rfl, K201, E_dd, F_block_dd⟩ := hQ
          have K := K.call K201 (allS (Or.inr ge_dd) all0)
          refine oWk.tr st ?_
          refine oWk.st (fun _ kt => XS.astore X.here hx rfl (hb hby at_194) rfl rfl (l' := #[iv p0, iv p1, iv p2, iv p3, iv 1, iv 2, iv 1, rv nm, rv al, rv leaf, rv eb, rv ks, rv dd, uu, uu, uu]) rfl (XS.aload X.here hx rfl (hb hby at_196) rfl rfl kt)) ?_
          have Oh := K.old O0 all0
          obtain ⟨cq204, kq204, q204a, q204b, q204c⟩ := isOf hZ e0 E_dd
          obtain ⟨_, _, ⟨T, L204, k204, n204⟩, -, X, ⟨Lc204, hQ, l204, y204, z204⟩, st⟩ := X.virtualBack hx (y := yy6) (z := yy6) hown (mvT hZ (oW hw 128 rfl)) (mvT hZ (oW hw 129 rfl)) (notFace_of_selects (args := #[]) (mvT hZ (oW hw 131 rfl))) (mvT hZ (oW hw 131 rfl)) (mvT hZ (oW hw 130 rfl)) (by decide) (backOf (W := 0) (rHB1 l Z a0 hw [] dd nbl201 h Oh F_block_dd) hZ (oW hw 132 rfl) (oW hw 52 rfl) (by decide) (by decide)) q204a q204c (g := (mkF m 198 #[iv p0, iv p1, iv p2, iv p3, iv 1, iv 2, iv 1, rv nm, rv al, rv leaf, rv eb, rv ks, rv dd, uu, uu, uu] [(.ref dd)])) rfl (by rw [hml]; rfl) (Steps.refl _) (argsL := []) (rest := []) (lenOf pd_5 rfl) rfl (Nat.le_of_eq rfl) (hb hby at_198) (fun _ _ => ⟨rfl, e0, (by decide : 18 + 0 ≤ _), (by decide : 61 + 0 ≤ _)⟩)
          dsimp only [Pt.U, Pt.locs, Pt.cells, Pt.slots] at X l204 y204 z204 st hQ
          subst l204 y204 z204
          obtain ⟨rfl, e0, K203⟩ := hQ
          have K := K.call K203 all0
          rw [e0] at K
          refine oWk.tr st ?_
          refine oWk.st (fun _ kt => XS.istore X.here hx rfl (hb hby at_201) rfl (l' := #[iv p0, iv p1, iv p2, iv p3, iv 1, iv 2, iv 1, rv nm, rv al, rv leaf, rv eb, rv ks, rv dd, iv 1, uu, uu]) rfl (XS.aload X.here hx rfl (hb hby at_203) rfl rfl kt)) ?_
          have F_block_leaf := ((((((((((F_block_leaf.ext E133).ext E134).keep K135.1 (ninS ne_leaf_a3 nin0)).keep K137.1 (ninS ne_leaf_eb nin0)).ext E139).keep K140.1 (ninS ne_leaf_ks nin0)).keep K186.1 (ninS ne_leaf_ks nin0)).keep K188.1 (ninS ne_leaf_ks (ninS ne_leaf_nd139 nin0))).ext E190).keep K201.1 (ninS ne_leaf_dd nin0))
          have Oh := K.old O0 all0
          have E_leaf := (E_leaf.keep K201.1)
          obtain ⟨cq206, kq206, q206a, q206b, q206c⟩ := isOf hZ e0 E_leaf
          obtain ⟨_, _, ⟨T, L206, k206, n206⟩, -, X, ⟨Lc206, hQ, l206, y206, z206⟩, st⟩ := X.virtualBack hx (y := yy6) (z := yy6) hown (mvT hZ (oW hw 128 rfl)) (mvT hZ (oW hw 129 rfl)) (notFace_of_selects (args := #[]) (mvT hZ (oW hw 131 rfl))) (mvT hZ (oW hw 131 rfl)) (mvT hZ (oW hw 130 rfl)) (by decide) (backOf (W := 0) (rHB0 l Z a0 hw [] leaf h Oh F_block_leaf) hZ (oW hw 132 rfl) (oW hw 52 rfl) (by decide) (by decide)) q206a q206c (g := (mkF m 205 #[iv p0, iv p1, iv p2, iv p3, iv 1, iv 2, iv 1, rv nm, rv al, rv leaf, rv eb, rv ks, rv dd, iv 1, uu, uu] [(.ref leaf)])) rfl (by rw [hml]; rfl) (Steps.refl _) (argsL := []) (rest := []) (lenOf pd_5 rfl) rfl (Nat.le_of_eq rfl) (hb hby at_205) (fun _ _ => ⟨rfl, e0, (by decide : 18 + 0 ≤ _), (by decide : 61 + 0 ≤ _)⟩)
          dsimp only [Pt.U, Pt.locs, Pt.cells, Pt.slots] at X l206 y206 z206 st hQ
          subst l206 y206 z206
          obtain ⟨rfl, e0, K205⟩ := hQ
          have K := K.call K205 all0
          rw [e0] at K
          refine oWk.tr st ?_
          refine oWk.st (fun _ kt => XS.istore X.here hx rfl (hb hby at_208) rfl (l' := #[iv p0, iv p1, iv p2, iv p3, iv 1, iv 2, iv 1, rv nm, rv al, rv leaf, rv eb, rv ks, rv dd, iv 1, iv 0, uu]) rfl (XS.aload X.here hx rfl (hb hby at_210) rfl rfl kt)) ?_
          have F_block_eb := ((((((F_block_eb.ext E139).keep K140.1 (ninS ne_eb_ks nin0)).keep K186.1 (ninS ne_eb_ks nin0)).keep K188.1 (ninS ne_eb_ks (ninS ne_eb_nd139 nin0))).ext E190).keep K201.1 (ninS ne_eb_dd nin0))
          have Oh := K.old O0 all0
          have E_eb := ((E_eb.ext E190).keep K201.1)
          obtain ⟨cq208, kq208, q208a, q208b, q208c⟩ := isOf hZ e0 E_eb
          obtain ⟨_, _, ⟨T, L208, k208, n208⟩, -, X, ⟨Lc208, hQ, l208, y208, z208⟩, st⟩ := X.virtualBack hx (y := yy6) (z := yy6) hown (mvT hZ (oW hw 128 rfl)) (mvT hZ (oW hw 129 rfl)) (notFace_of_selects (args := #[]) (mvT hZ (oW hw 131 rfl))) (mvT hZ (oW hw 131 rfl)) (mvT hZ (oW hw 130 rfl)) (by decide) (backOf (W := 0) (rHB1 l Z a0 hw [] eb xl h Oh F_block_eb) hZ (oW hw 132 rfl) (oW hw 52 rfl) (by decide) (by decide)) q208a q208c (g := (mkF m 212 #[iv p0, iv p1, iv p2, iv p3, iv 1, iv 2, iv 1, rv nm, rv al, rv leaf, rv eb, rv ks, rv dd, iv 1, iv 0, uu] [(.ref eb)])) rfl (by rw [hml]; rfl) (Steps.refl _) (argsL := []) (rest := []) (lenOf pd_5 rfl) rfl (Nat.le_of_eq rfl) (hb hby at_212) (fun _ _ => ⟨rfl, e0, (by decide : 18 + 0 ≤ _), (by decide : 61 + 0 ≤ _)⟩)
          dsimp only [Pt.U, Pt.locs, Pt.cells, Pt.slots] at X l208 y208 z208 st hQ
          subst l208 y208 z208
          obtain ⟨rfl, e0, K207⟩ := hQ
          have K := K.call K207 all0
          rw [e0] at K
          refine oWk.tr st ?_
          refine oWk.st (fun _ kt => XS.istore X.here hx rfl (hb hby at_215) rfl (l' := #[iv p0, iv p1, iv p2, iv p3, iv 1, iv 2, iv 1, rv nm, rv al, rv leaf, rv eb, rv ks, rv dd, iv 1, iv 0, iv 1]) rfl (XS.iload X.here hx rfl (hb hby at_217) rfl (XS.iload X.here hx rfl (hb hby at_219) rfl (XS.icmpNo X.here hx rfl (hb hby at_221) rfl (teq (by decide)).2 (XS.iload X.here hx rfl (hb hby at_224) rfl (XS.aload X.here hx rfl (hb hby at_226) rfl rfl kt)))))) ?_
          have Oh := K.old O0 all0
          obtain ⟨cq210, kq210, q210a, q210b, q210c⟩ := isOf hZ e0 E_dd
          obtain ⟨_, _, ⟨T, L210, k210, n210⟩, -, X, ⟨Lc210, hQ, l210, y210, z210⟩, st⟩ := X.virtualBack hx (y := yy7) (z := yy7) hown (mvT hZ (oW hw 133 rfl)) (mvT hZ (oW hw 134 rfl)) (notFace_of_selects (args := #[]) (mvT hZ (oW hw 136 rfl))) (mvT hZ (oW hw 136 rfl)) (mvT hZ (oW hw 135 rfl)) (by decide) (backOf (W := 1) (rBL1 l Z a0 hw [] dd nbl201 h Oh F_block_dd) hZ (oW hw 137 rfl) (oW hw 52 rfl) (by decide) (by decide)) q210a q210c (g := (mkF m 228 #[iv p0, iv p1, iv p2, iv p3, iv 1, iv 2, iv 1, rv nm, rv al, rv leaf, rv eb, rv ks, rv dd, iv 1, iv 0, iv 1] [(.ref dd), (.int 1)])) rfl (by rw [hml]; rfl) (Steps.refl _) (argsL := []) (rest := [(.int (1 : Int32))]) (lenOf pd_6 rfl) rfl (Nat.le_of_eq rfl) (hb hby at_228) (fun _ _ => ⟨rfl, e0, (by decide : 18 + 0 ≤ _), (by decide : 61 + 0 ≤ _)⟩)
          dsimp only [Pt.U, Pt.locs, Pt.cells, Pt.slots] at X l210 y210 z210 st hQ
          subst l210 y210 z210
          obtain ⟨rfl, e0, K209⟩ := hQ
          have K := K.call K209 all0
          rw [e0] at K
          refine oWk.tr st ?_
          refine oWk.st (fun _ kt => XS.ifnullNo X.here hx rfl (hb hby at_231) rfl (XS.iconst X.here hx rfl (hb hby at_234) (XS.goto X.here hx rfl (pc0 := 235) (pc' := 239) rfl (hb hby at_235) (by decide) (by decide) (XS.icmpNo X.here hx rfl (hb hby at_239) rfl (teq (by decide)).2 (XS.iload X.here hx rfl (hb hby at_242) rfl (XS.ifNo X.here hx rfl (hb hby at_244) rfl ((if0 _ _).trans (teq (by decide)).2) (XS.iload X.here hx rfl (hb hby at_247) rfl (XS.ifNo X.here hx rfl (hb hby at_249) rfl ((if0 _ _).trans (feq (by decide)).1) kt)))))))) ?_
          show oWk _ _ _ _ T (mkF m 252 #[iv p0, iv p1, iv p2, iv p3, iv 1, iv 2, iv 1, rv nm, rv al, rv leaf, rv eb, rv ks, rv dd, iv 1, iv 0, iv 1] [])
          refine oWk.st (fun _ kt => XS.iconst X.here hx rfl (hb hby at_252) (XS.goto X.here hx rfl (pc0 := 253) (pc' := 257) rfl (hb hby at_253) (by decide) (by decide) kt)) ?_
          show oWk _ _ _ _ T (mkF m 257 #[iv p0, iv p1, iv p2, iv p3, iv 1, iv 2, iv 1, rv nm, rv al, rv leaf, rv eb, rv ks, rv dd, iv 1, iv 0, iv 1] [(.int 1)])
          exact oRetZ X hx hlk hret (hb hby at_257) (Or.inr rfl) (by rw [e0]; exact ⟨rfl, K.fr⟩) (by decide) (by decide)
      · show oWk _ _ _ _ T (mkF m 129 #[iv p0, iv p1, iv p2, iv p3, iv wb, iv 3, iv 1, rv nm, rv al, rv leaf, rv eb, rv ks, uu, uu, uu, uu] [])
        refine oWk.st (fun _ kt => XS.iload X.here hx rfl (hb hby at_129) rfl (XS.iconst X.here hx rfl (hb hby at_131) (XS.icmpNo X.here hx rfl (hb hby at_132) rfl (flt (by decide)).1 (XS.aload X.here hx rfl (hb hby at_135) rfl rfl (XS.aload X.here hx rfl (hb hby at_137) rfl rfl kt))))) ?_
        have V_xd := ((V_xd.ext E139).keep K140.1 (ninS ne_xd_ks nin0))
        have E_leaf := ((E_leaf.ext E139).keep K140.1)
        have lt_xd := V_xd.lt
        have E_nm := ((E_nm.ext E139).keep K140.1)
        have lt_nm := E_nm.lt
        have V_nmb := ((V_nmb.ext E139).keep K140.1 (ninS ne_nmb_ks nin0))
        have lt_nmb := V_nmb.lt
        have E_al := ((E_al.ext E139).keep K140.1)
        have lt_al := E_al.lt
        have E_mk := ((E_mk.ext E139).keep K140.1)
        have lt_mk := E_mk.lt
        have E_nd75 := ((E_nd75.ext E139).keep K140.1)
        have lt_nd75 := E_nd75.lt
        have lt_leaf := E_leaf.lt
        have E_a2 := ((E_a2.ext E139).keep K140.1)
        have lt_a2 := E_a2.lt
        have E_eb := ((E_eb.ext E139).keep K140.1)
        have lt_eb := E_eb.lt
        have E_a3 := ((E_a3.ext E139).keep K140.1)
        have lt_a3 := E_a3.lt
        have lt_ks := E_ks.lt
        have Oh := K.old O0 all0
        obtain ⟨cq212, kq212, q212a, q212b, q212c⟩ := isOf hZ e0 E_ks
        obtain ⟨_, _, ⟨T, L212, k212, n212⟩, -, X, ⟨Lc212, hQ, l212, y212, z212⟩, st⟩ := X.virtualBack hx (y := yy21) (z := yy21) hown (mvT hZ (oW hw 99 rfl)) (mvT hZ (oW hw 100 rfl)) (notFace_of_selects (args := #[]) (mvT hZ (oW hw 102 rfl))) (mvT hZ (oW hw 102 rfl)) (mvT hZ (oW hw 101 rfl)) (by decide) (backOf (W := 0) (rAd_0 l Z a0 hw [] ks leaf xd xk (0 : Int32) h Oh S_DEFAULTCAPACITY_EMPTY_ELEMENTDATA (Nat.le_trans O0.1 ge_ks) E_ks F_elementData_ks F_size_ks F_modCount_ks V_xd (Ins.of_exa E_leaf (oW hw 127 rfl)) (Ne.symm ne_leaf_ks) (Ne.symm ne_xd_ks)) hZ (oW hw 103 rfl) (oW hw 28 rfl) (by decide) (by decide)) q212a q212c (g := (mkF m 139 #[iv p0, iv p1, iv p2, iv p3, iv wb, iv 3, iv 1, rv nm, rv al, rv leaf, rv eb, rv ks, uu, uu, uu, uu] [(.ref leaf), (.ref ks)])) rfl (by rw [hml]; rfl) (Steps.refl _) (argsL := [(.ref leaf)]) (rest := []) (lenOf pd_13 rfl) rfl (Nat.le_of_eq rfl) (hb hby at_139) (fun _ _ => ⟨rfl, e0, (by decide : 12 + 1 ≤ _), (by decide : 40 + 10 ≤ _)⟩)
        dsimp only [Pt.U, Pt.locs, Pt.cells, Pt.slots] at X l212 y212 z212 st hQ
        subst l212 y212 z212
        obtain ⟨h, e0⟩ : ∃ z, T.heap = z := ⟨_, rfl⟩
        rw [e0] at hQ
        obtain ⟨nd139, nk139, rfl, K211, E_ks, F_elementData_ks, F_size_ks, F_modCount_ks, gn_nd139, E_nd139, V_nd139, ov_nk139⟩ := hQ
        have ge_nd139 := Nat.le_trans K.le gn_nd139
        have ne_xd_nd139 : xd ≠ nd139 := Nat.ne_of_lt (Nat.lt_of_lt_of_le lt_xd gn_nd139)
        have ne_nm_nd139 : nm ≠ nd139 := Nat.ne_of_lt (Nat.lt_of_lt_of_le lt_nm gn_nd139)
        have ne_nmb_nd139 : nmb ≠ nd139 := Nat.ne_of_lt (Nat.lt_of_lt_of_le lt_nmb gn_nd139)
        have ne_al_nd139 : al ≠ nd139 := Nat.ne_of_lt (Nat.lt_of_lt_of_le lt_al gn_nd139)
        have ne_mk_nd139 : mk ≠ nd139 := Nat.ne_of_lt (Nat.lt_of_lt_of_le lt_mk gn_nd139)
        have ne_nd75_nd139 : nd75 ≠ nd139 := Nat.ne_of_lt (Nat.lt_of_lt_of_le lt_nd75 gn_nd139)
        have ne_leaf_nd139 : leaf ≠ nd139 := Nat.ne_of_lt (Nat.lt_of_lt_of_le lt_leaf gn_nd139)
        have ne_a2_nd139 : a2 ≠ nd139 := Nat.ne_of_lt (Nat.lt_of_lt_of_le lt_a2 gn_nd139)
        have ne_eb_nd139 : eb ≠ nd139 := Nat.ne_of_lt (Nat.lt_of_lt_of_le lt_eb gn_nd139)
        have ne_a3_nd139 : a3 ≠ nd139 := Nat.ne_of_lt (Nat.lt_of_lt_of_le lt_a3 gn_nd139)
        have ne_ks_nd139 : ks ≠ nd139 := Nat.ne_of_lt (Nat.lt_of_lt_of_le lt_ks gn_nd139)
        have K := K.call K211 (allS (Or.inr ge_ks) all0)
        refine oWk.tr st ?_
        refine oWk.st (fun _ kt => XS.pop X.here hx rfl (hb hby at_142) rfl rfl (XS.iload X.here hx rfl (hb hby at_143) rfl (XS.iconst X.here hx rfl (hb hby at_145) (XS.icmpNo X.here hx rfl (hb hby at_146) rfl (flt (by decide)).1 (XS.aload X.here hx rfl (hb hby at_149) rfl rfl (XS.aload X.here hx rfl (hb hby at_151) rfl rfl kt)))))) ?_
        have E_leaf := (E_leaf.keep K211.1)
        have Oh := K.old O0 all0
        obtain ⟨cq214, kq214, q214a, q214b, q214c⟩ := isOf hZ e0 E_ks
        obtain ⟨_, _, ⟨T, L214, k214, n214⟩, -, X, ⟨Lc214, hQ, l214, y214, z214⟩, st⟩ := X.virtualBack hx (y := yy21) (z := yy21) hown (mvT hZ (oW hw 99 rfl)) (mvT hZ (oW hw 100 rfl)) (notFace_of_selects (args := #[]) (mvT hZ (oW hw 102 rfl))) (mvT hZ (oW hw 102 rfl)) (mvT hZ (oW hw 101 rfl)) (by decide) (backOf (W := 0) (rAd_1 l Z a0 hw [] ks leaf nd139 nk139 ((0 : Int32) + (1 : Int32)) leaf h Oh (Nat.le_trans O0.1 ge_ks) (Nat.le_trans O0.1 ge_nd139) ne_ks_nd139 E_ks F_elementData_ks F_size_ks F_modCount_ks E_nd139 V_nd139 ov_nk139 (Ins.of_exa E_leaf (oW hw 127 rfl))) hZ (oW hw 103 rfl) (oW hw 28 rfl) (by decide) (by decide)) q214a q214c (g := (mkF m 153 #[iv p0, iv p1, iv p2, iv p3, iv wb, iv 3, iv 1, rv nm, rv al, rv leaf, rv eb, rv ks, uu, uu, uu, uu] [(.ref leaf), (.ref ks)])) rfl (by rw [hml]; rfl) (Steps.refl _) (argsL := [(.ref leaf)]) (rest := []) (lenOf pd_13 rfl) rfl (Nat.le_of_eq rfl) (hb hby at_153) (fun _ _ => ⟨rfl, e0, (by decide : 13 + 0 ≤ _), (by decide : 50 + 0 ≤ _)⟩)
        dsimp only [Pt.U, Pt.locs, Pt.cells, Pt.slots] at X l214 y214 z214 st hQ
        subst l214 y214 z214
        obtain ⟨h, e0⟩ : ∃ z, T.heap = z := ⟨_, rfl⟩
        rw [e0] at hQ
        obtain ⟨rfl, K213, E_ks, F_elementData_ks, F_size_ks, F_modCount_ks, E_nd139, V_nd139⟩ := hQ
        have K := K.call K213 (allS (Or.inr ge_ks) (allS (Or.inr ge_nd139) all0))
        refine oWk.tr st ?_
        refine oWk.st (fun _ kt => XS.pop X.here hx rfl (hb hby at_156) rfl rfl (XS.iload X.here hx rfl (hb hby at_157) rfl (XS.iconst X.here hx rfl (hb hby at_159) (XS.icmpNo X.here hx rfl (hb hby at_160) rfl (flt (by decide)).1 (XS.aload X.here hx rfl (hb hby at_163) rfl rfl (XS.aload X.here hx rfl (hb hby at_165) rfl rfl kt)))))) ?_
        have E_eb := ((E_eb.keep K211.1).keep K213.1)
        have Oh := K.old O0 all0
        obtain ⟨cq216, kq216, q216a, q216b, q216c⟩ := isOf hZ e0 E_ks
        obtain ⟨_, _, ⟨T, L216, k216, n216⟩, -, X, ⟨Lc216, hQ, l216, y216, z216⟩, st⟩ := X.virtualBack hx (y := yy21) (z := yy21) hown (mvT hZ (oW hw 99 rfl)) (mvT hZ (oW hw 100 rfl)) (notFace_of_selects (args := #[]) (mvT hZ (oW hw 102 rfl))) (mvT hZ (oW hw 102 rfl)) (mvT hZ (oW hw 101 rfl)) (by decide) (backOf (W := 0) (rAd_2 l Z a0 hw [] ks eb nd139 nk139 (((0 : Int32) + (1 : Int32)) + (1 : Int32)) leaf leaf h Oh (Nat.le_trans O0.1 ge_ks) (Nat.le_trans O0.1 ge_nd139) ne_ks_nd139 E_ks F_elementData_ks F_size_ks F_modCount_ks E_nd139 V_nd139 ov_nk139 (Ins.of_exa E_eb (oW hw 127 rfl))) hZ (oW hw 103 rfl) (oW hw 28 rfl) (by decide) (by decide)) q216a q216c (g := (mkF m 167 #[iv p0, iv p1, iv p2, iv p3, iv wb, iv 3, iv 1, rv nm, rv al, rv leaf, rv eb, rv ks, uu, uu, uu, uu] [(.ref eb), (.ref ks)])) rfl (by rw [hml]; rfl) (Steps.refl _) (argsL := [(.ref eb)]) (rest := []) (lenOf pd_13 rfl) rfl (Nat.le_of_eq rfl) (hb hby at_167) (fun _ _ => ⟨rfl, e0, (by decide : 13 + 0 ≤ _), (by decide : 50 + 0 ≤ _)⟩)
        dsimp only [Pt.U, Pt.locs, Pt.cells, Pt.slots] at X l216 y216 z216 st hQ
        subst l216 y216 z216
        obtain ⟨h, e0⟩ : ∃ z, T.heap = z := ⟨_, rfl⟩
        rw [e0] at hQ
        obtain ⟨rfl, K215, E_ks, F_elementData_ks, F_size_ks, F_modCount_ks, E_nd139, V_nd139⟩ := hQ
        have K := K.call K215 (allS (Or.inr ge_ks) (allS (Or.inr ge_nd139) all0))
        refine oWk.tr st ?_
        refine oWk.st (fun _ kt => XS.pop X.here hx rfl (hb hby at_170) rfl rfl kt) ?_
        obtain ⟨dd, g217⟩ : ∃ z, z = h.size := ⟨_, rfl⟩
        have V_xd := (((V_xd.keep K211.1 (ninS ne_xd_ks nin0)).keep K213.1 (ninS ne_xd_ks (ninS ne_xd_nd139 nin0))).keep K215.1 (ninS ne_xd_ks (ninS ne_xd_nd139 nin0)))
        have ne_xd_dd : xd ≠ dd := Nat.ne_of_lt (Nat.lt_of_lt_of_le V_xd.lt (Nat.le_of_eq g217.symm))
        have E_nm := (((E_nm.keep K211.1).keep K213.1).keep K215.1)
        have ne_nm_dd : nm ≠ dd := Nat.ne_of_lt (Nat.lt_of_lt_of_le E_nm.lt (Nat.le_of_eq g217.symm))
        have V_nmb := (((V_nmb.keep K211.1 (ninS ne_nmb_ks nin0)).keep K213.1 (ninS ne_nmb_ks (ninS ne_nmb_nd139 nin0))).keep K215.1 (ninS ne_nmb_ks (ninS ne_nmb_nd139 nin0)))
        have ne_nmb_dd : nmb ≠ dd := Nat.ne_of_lt (Nat.lt_of_lt_of_le V_nmb.lt (Nat.le_of_eq g217.symm))
        have E_al := (((E_al.keep K211.1).keep K213.1).keep K215.1)
        have ne_al_dd : al ≠ dd := Nat.ne_of_lt (Nat.lt_of_lt_of_le E_al.lt (Nat.le_of_eq g217.symm))
        have E_mk := (((E_mk.keep K211.1).keep K213.1).keep K215.1)
        have ne_mk_dd : mk ≠ dd := Nat.ne_of_lt (Nat.lt_of_lt_of_le E_mk.lt (Nat.le_of_eq g217.symm))
        have E_nd75 := (((E_nd75.keep K211.1).keep K213.1).keep K215.1)
        have ne_nd75_dd : nd75 ≠ dd := Nat.ne_of_lt (Nat.lt_of_lt_of_le E_nd75.lt (Nat.le_of_eq g217.symm))
        have E_leaf := ((E_leaf.keep K213.1).keep K215.1)
        have ne_leaf_dd : leaf ≠ dd := Nat.ne_of_lt (Nat.lt_of_lt_of_le E_leaf.lt (Nat.le_of_eq g217.symm))
        have E_a2 := (((E_a2.keep K211.1).keep K213.1).keep K215.1)
        have ne_a2_dd : a2 ≠ dd := Nat.ne_of_lt (Nat.lt_of_lt_of_le E_a2.lt (Nat.le_of_eq g217.symm))
        have E_eb := (E_eb.keep K215.1)
        have ne_eb_dd : eb ≠ dd := Nat.ne_of_lt (Nat.lt_of_lt_of_le E_eb.lt (Nat.le_of_eq g217.symm))
        have E_a3 := (((E_a3.keep K211.1).keep K213.1).keep K215.1)
        have ne_a3_dd : a3 ≠ dd := Nat.ne_of_lt (Nat.lt_of_lt_of_le E_a3.lt (Nat.le_of_eq g217.symm))
        have ne_ks_dd : ks ≠ dd := Nat.ne_of_lt (Nat.lt_of_lt_of_le E_ks.lt (Nat.le_of_eq g217.symm))
        have ne_nd139_dd : nd139 ≠ dd := Nat.ne_of_lt (Nat.lt_of_lt_of_le E_nd139.lt (Nat.le_of_eq g217.symm))
        have ge_dd : h0.size ≤ dd := Nat.le_trans K.le (Nat.le_of_eq g217.symm)
        obtain ⟨T, h, X, e0, E217, A217, D217, -, st⟩ := newO X hx hZ hown (oW hw 50 rfl) (oW hw 51 rfl) (oW hw 52 rfl) e0 (g := (mkF m 171 #[iv p0, iv p1, iv p2, iv p3, iv wb, iv 3, iv 1, rv nm, rv al, rv leaf, rv eb, rv ks, uu, uu, uu, uu] [])) rfl (hb hby at_171) (by decide) (by decide)
        rw [← g217] at A217 D217 st
        refine oWk.st st ?_
        have K := K.ext E217
        have E_dd := A217
        have F_name_dd : Fld Z h dd "com/example/modwright/modwright/script/Directive" "name" "Ljava/lang/String;" .null := D217 (Or.inr (oW hw 92 rfl)) (ty := (.object "java/lang/String")) (by decide)
        have F_line_dd : Fld Z h dd "com/example/modwright/modwright/script/Directive" "line" "I" (.int (0 : Int32)) := D217 (Or.inr (oW hw 94 rfl)) (ty := .int) (by decide)
        have F_arguments_dd : Fld Z h dd "com/example/modwright/modwright/script/Directive" "arguments" "Ljava/util/List;" .null := D217 (Or.inr (oW hw 96 rfl)) (ty := (.object "java/util/List")) (by decide)
        have F_block_dd : Fld Z h dd "com/example/modwright/modwright/script/Directive" "block" "Ljava/util/List;" .null := D217 (Or.inr (oW hw 98 rfl)) (ty := (.object "java/util/List")) (by decide)
        refine oWk.st (fun _ kt => XS.dup X.here hx rfl (hb hby at_174) rfl rfl (XS.aload X.here hx rfl (hb hby at_175) rfl rfl (XS.iloadN X.here hx rfl (hb hby at_177) rfl (XS.aload X.here hx rfl (hb hby at_178) rfl rfl kt)))) ?_
        show oWk _ _ _ _ T (mkF m 180 #[iv p0, iv p1, iv p2, iv p3, iv wb, iv 3, iv 1, rv nm, rv al, rv leaf, rv eb, rv ks, uu, uu, uu, uu] [(.ref al), (.int p1), (.ref nm), (.ref dd), (.ref dd)])
        rcases hwb with rfl | rfl
        · show oWk _ _ _ _ T (mkF m 180 #[iv p0, iv p1, iv p2, iv p3, iv 0, iv 3, iv 1, rv nm, rv al, rv leaf, rv eb, rv ks, uu, uu, uu, uu] [(.ref al), (.int p1), (.ref nm), (.ref dd), (.ref dd)])
          refine oWk.st (fun _ kt => XS.iload X.here hx rfl (hb hby at_180) rfl (XS.ifYes X.here hx rfl (pc0 := 182) (pc' := 190) rfl (hb hby at_182) rfl ((if0 _ _).trans (teq (by decide)).1) (by decide) (by decide) (XS.aconstNull X.here hx rfl (hb hby at_190) kt))) ?_
          have E_al := (E_al.ext E217)
          have F_elementData_al := (((((((F_elementData_al.keep K137.1 (ninS ne_al_eb nin0)).ext E139).keep K140.1 (ninS ne_al_ks nin0)).keep K211.1 (ninS ne_al_ks nin0)).keep K213.1 (ninS ne_al_ks (ninS ne_al_nd139 nin0))).keep K215.1 (ninS ne_al_ks (ninS ne_al_nd139 nin0))).ext E217)
          have F_size_al := (((((((F_size_al.keep K137.1 (ninS ne_al_eb nin0)).ext E139).keep K140.1 (ninS ne_al_ks nin0)).keep K211.1 (ninS ne_al_ks nin0)).keep K213.1 (ninS ne_al_ks (ninS ne_al_nd139 nin0))).keep K215.1 (ninS ne_al_ks (ninS ne_al_nd139 nin0))).ext E217)
          have E_nd75 := (E_nd75.ext E217)
          have V_nd75 := (((((((V_nd75.keep K137.1 (ninS ne_nd75_eb nin0)).ext E139).keep K140.1 (ninS ne_nd75_ks nin0)).keep K211.1 (ninS ne_nd75_ks nin0)).keep K213.1 (ninS ne_nd75_ks (ninS ne_nd75_nd139 nin0))).keep K215.1 (ninS ne_nd75_ks (ninS ne_nd75_nd139 nin0))).ext E217)
          have E_mk := (E_mk.ext E217)
          have Oh := K.old O0 all0
          obtain ⟨_, _, ⟨T, L219, k219, n219⟩, -, X, ⟨Lc219, hQ, l219, y219, z219⟩, st⟩ := X.specialBack hx (y := yy16) rfl hown (mvT hZ (oW hw 53 rfl)) (mvT hZ (oW hw 54 rfl)) (mvT hZ (oW hw 55 rfl)) (by decide) (backOf (W := 1) (rDI_1_N l Z a0 hw [] dd nm p1 .null (.int (0 : Int32)) .null .null al nd75 nk75 mk xq xmr h Oh S_EMPTY mm_ (Nat.le_trans O0.1 ge_dd) E_dd F_name_dd F_line_dd F_arguments_dd F_block_dd E_al F_elementData_al F_size_al E_nd75 V_nd75 (Ins.of_exa E_mk (oW hw 149 rfl))) hZ (oW hw 55 rfl) (oW hw 52 rfl) (by decide) (by decide)) (g := (mkF m 191 #[iv p0, iv p1, iv p2, iv p3, iv 0, iv 3, iv 1, rv nm, rv al, rv leaf, rv eb, rv ks, uu, uu, uu, uu] [.null, (.ref al), (.int p1), (.ref nm), (.ref dd), (.ref dd)])) rfl (by rw [hml]; rfl) (Steps.refl _) (a := dd) (argsL := [(.ref nm), (.int p1), (.ref al), .null]) (rest := [(.ref dd)]) (lenOf pd_8 rfl) rfl (Nat.le_of_eq rfl) (hb hby at_191) (fun _ _ => ⟨rfl, e0, (by decide : 14 + 2 ≤ _), (by decide : 54 + 3 ≤ _)⟩)
          dsimp only [Pt.U, Pt.locs, Pt.cells, Pt.slots] at X l219 y219 z219 st hQ
          subst l219 y219 z219
          obtain ⟨h, e0⟩ : ∃ z, T.heap = z := ⟨_, rfl⟩
          rw [e0] at hQ
          obtain ⟨rfl, K218, E_dd, F_block_dd⟩ := hQ
          have K := K.call K218 (allS (Or.inr ge_dd) all0)
          refine oWk.tr st ?_
          refine oWk.st (fun _ kt => XS.astore X.here hx rfl (hb hby at_194) rfl rfl (l' := #[iv p0, iv p1, iv p2, iv p3, iv 0, iv 3, iv 1, rv nm, rv al, rv leaf, rv eb, rv ks, rv dd, uu, uu, uu]) rfl (XS.aload X.here hx rfl (hb hby at_196) rfl rfl kt)) ?_
          have Oh := K.old O0 all0
          obtain ⟨cq221, kq221, q221a, q221b, q221c⟩ := isOf hZ e0 E_dd
          obtain ⟨_, _, ⟨T, L221, k221, n221⟩, -, X, ⟨Lc221, hQ, l221, y221, z221⟩, st⟩ := X.virtualBack hx (y := yy6) (z := yy6) hown (mvT hZ (oW hw 128 rfl)) (mvT hZ (oW hw 129 rfl)) (notFace_of_selects (args := #[]) (mvT hZ (oW hw 131 rfl))) (mvT hZ (oW hw 131 rfl)) (mvT hZ (oW hw 130 rfl)) (by decide) (backOf (W := 0) (rHB0 l Z a0 hw [] dd h Oh F_block_dd) hZ (oW hw 132 rfl) (oW hw 52 rfl) (by decide) (by decide)) q221a q221c (g := (mkF m 198 #[iv p0, iv p1, iv p2, iv p3, iv 0, iv 3, iv 1, rv nm, rv al, rv leaf, rv eb, rv ks, rv dd, uu, uu, uu] [(.ref dd)])) rfl (by rw [hml]; rfl) (Steps.refl _) (argsL := []) (rest := []) (lenOf pd_5 rfl) rfl (Nat.le_of_eq rfl) (hb hby at_198) (fun _ _ => ⟨rfl, e0, (by decide : 16 + 0 ≤ _), (by decide : 57 + 0 ≤ _)⟩)
          dsimp only [Pt.U, Pt.locs, Pt.cells, Pt.slots] at X l221 y221 z221 st hQ
          subst l221 y221 z221
          obtain ⟨rfl, e0, K220⟩ := hQ
          have K := K.call K220 all0
          rw [e0] at K
          refine oWk.tr st ?_
          refine oWk.st (fun _ kt => XS.istore X.here hx rfl (hb hby at_201) rfl (l' := #[iv p0, iv p1, iv p2, iv p3, iv 0, iv 3, iv 1, rv nm, rv al, rv leaf, rv eb, rv ks, rv dd, iv 0, uu, uu]) rfl (XS.aload X.here hx rfl (hb hby at_203) rfl rfl kt)) ?_
          have F_block_leaf := (((((((((((F_block_leaf.ext E133).ext E134).keep K135.1 (ninS ne_leaf_a3 nin0)).keep K137.1 (ninS ne_leaf_eb nin0)).ext E139).keep K140.1 (ninS ne_leaf_ks nin0)).keep K211.1 (ninS ne_leaf_ks nin0)).keep K213.1 (ninS ne_leaf_ks (ninS ne_leaf_nd139 nin0))).keep K215.1 (ninS ne_leaf_ks (ninS ne_leaf_nd139 nin0))).ext E217).keep K218.1 (ninS ne_leaf_dd nin0))
          have Oh := K.old O0 all0
          have E_leaf := ((E_leaf.ext E217).keep K218.1)
          obtain ⟨cq223, kq223, q223a, q223b, q223c⟩ := isOf hZ e0 E_leaf
          obtain ⟨_, _, ⟨T, L223, k223, n223⟩, -, X, ⟨Lc223, hQ, l223, y223, z223⟩, st⟩ := X.virtualBack hx (y := yy6) (z := yy6) hown (mvT hZ (oW hw 128 rfl)) (mvT hZ (oW hw 129 rfl)) (notFace_of_selects (args := #[]) (mvT hZ (oW hw 131 rfl))) (mvT hZ (oW hw 131 rfl)) (mvT hZ (oW hw 130 rfl)) (by decide) (backOf (W := 0) (rHB0 l Z a0 hw [] leaf h Oh F_block_leaf) hZ (oW hw 132 rfl) (oW hw 52 rfl) (by decide) (by decide)) q223a q223c (g := (mkF m 205 #[iv p0, iv p1, iv p2, iv p3, iv 0, iv 3, iv 1, rv nm, rv al, rv leaf, rv eb, rv ks, rv dd, iv 0, uu, uu] [(.ref leaf)])) rfl (by rw [hml]; rfl) (Steps.refl _) (argsL := []) (rest := []) (lenOf pd_5 rfl) rfl (Nat.le_of_eq rfl) (hb hby at_205) (fun _ _ => ⟨rfl, e0, (by decide : 16 + 0 ≤ _), (by decide : 57 + 0 ≤ _)⟩)
          dsimp only [Pt.U, Pt.locs, Pt.cells, Pt.slots] at X l223 y223 z223 st hQ
          subst l223 y223 z223
          obtain ⟨rfl, e0, K222⟩ := hQ
          have K := K.call K222 all0
          rw [e0] at K
          refine oWk.tr st ?_
          refine oWk.st (fun _ kt => XS.istore X.here hx rfl (hb hby at_208) rfl (l' := #[iv p0, iv p1, iv p2, iv p3, iv 0, iv 3, iv 1, rv nm, rv al, rv leaf, rv eb, rv ks, rv dd, iv 0, iv 0, uu]) rfl (XS.aload X.here hx rfl (hb hby at_210) rfl rfl kt)) ?_
          have F_block_eb := (((((((F_block_eb.ext E139).keep K140.1 (ninS ne_eb_ks nin0)).keep K211.1 (ninS ne_eb_ks nin0)).keep K213.1 (ninS ne_eb_ks (ninS ne_eb_nd139 nin0))).keep K215.1 (ninS ne_eb_ks (ninS ne_eb_nd139 nin0))).ext E217).keep K218.1 (ninS ne_eb_dd nin0))
          have Oh := K.old O0 all0
          have E_eb := ((E_eb.ext E217).keep K218.1)
          obtain ⟨cq225, kq225, q225a, q225b, q225c⟩ := isOf hZ e0 E_eb
          obtain ⟨_, _, ⟨T, L225, k225, n225⟩, -, X, ⟨Lc225, hQ, l225, y225, z225⟩, st⟩ := X.virtualBack hx (y := yy6) (z := yy6) hown (mvT hZ (oW hw 128 rfl)) (mvT hZ (oW hw 129 rfl)) (notFace_of_selects (args := #[]) (mvT hZ (oW hw 131 rfl))) (mvT hZ (oW hw 131 rfl)) (mvT hZ (oW hw 130 rfl)) (by decide) (backOf (W := 0) (rHB1 l Z a0 hw [] eb xl h Oh F_block_eb) hZ (oW hw 132 rfl) (oW hw 52 rfl) (by decide) (by decide)) q225a q225c (g := (mkF m 212 #[iv p0, iv p1, iv p2, iv p3, iv 0, iv 3, iv 1, rv nm, rv al, rv leaf, rv eb, rv ks, rv dd, iv 0, iv 0, uu] [(.ref eb)])) rfl (by rw [hml]; rfl) (Steps.refl _) (argsL := []) (rest := []) (lenOf pd_5 rfl) rfl (Nat.le_of_eq rfl) (hb hby at_212) (fun _ _ => ⟨rfl, e0, (by decide : 16 + 0 ≤ _), (by decide : 57 + 0 ≤ _)⟩)
          dsimp only [Pt.U, Pt.locs, Pt.cells, Pt.slots] at X l225 y225 z225 st hQ
          subst l225 y225 z225
          obtain ⟨rfl, e0, K224⟩ := hQ
          have K := K.call K224 all0
          rw [e0] at K
          refine oWk.tr st ?_
          refine oWk.st (fun _ kt => XS.istore X.here hx rfl (hb hby at_215) rfl (l' := #[iv p0, iv p1, iv p2, iv p3, iv 0, iv 3, iv 1, rv nm, rv al, rv leaf, rv eb, rv ks, rv dd, iv 0, iv 0, iv 1]) rfl (XS.iload X.here hx rfl (hb hby at_217) rfl (XS.iload X.here hx rfl (hb hby at_219) rfl (XS.icmpNo X.here hx rfl (hb hby at_221) rfl (teq (by decide)).2 (XS.iload X.here hx rfl (hb hby at_224) rfl (XS.aload X.here hx rfl (hb hby at_226) rfl rfl kt)))))) ?_
          have Oh := K.old O0 all0
          obtain ⟨cq227, kq227, q227a, q227b, q227c⟩ := isOf hZ e0 E_dd
          obtain ⟨_, _, ⟨T, L227, k227, n227⟩, -, X, ⟨Lc227, hQ, l227, y227, z227⟩, st⟩ := X.virtualBack hx (y := yy7) (z := yy7) hown (mvT hZ (oW hw 133 rfl)) (mvT hZ (oW hw 134 rfl)) (notFace_of_selects (args := #[]) (mvT hZ (oW hw 136 rfl))) (mvT hZ (oW hw 136 rfl)) (mvT hZ (oW hw 135 rfl)) (by decide) (backOf (W := 1) (rBL0 l Z a0 hw [] dd h Oh F_block_dd) hZ (oW hw 137 rfl) (oW hw 52 rfl) (by decide) (by decide)) q227a q227c (g := (mkF m 228 #[iv p0, iv p1, iv p2, iv p3, iv 0, iv 3, iv 1, rv nm, rv al, rv leaf, rv eb, rv ks, rv dd, iv 0, iv 0, iv 1] [(.ref dd), (.int 0)])) rfl (by rw [hml]; rfl) (Steps.refl _) (argsL := []) (rest := [(.int (0 : Int32))]) (lenOf pd_6 rfl) rfl (Nat.le_of_eq rfl) (hb hby at_228) (fun _ _ => ⟨rfl, e0, (by decide : 16 + 0 ≤ _), (by decide : 57 + 0 ≤ _)⟩)
          dsimp only [Pt.U, Pt.locs, Pt.cells, Pt.slots] at X l227 y227 z227 st hQ
          subst l227 y227 z227
          obtain ⟨rfl, e0, K226⟩ := hQ
          have K := K.call K226 all0
          rw [e0] at K
          refine oWk.tr st ?_
          refine oWk.st (fun _ kt => XS.ifnullYes X.here hx rfl (pc0 := 231) (pc' := 238) rfl (hb hby at_231) rfl (by decide) (by decide) (XS.iconst X.here hx rfl (hb hby at_238) (XS.icmpNo X.here hx rfl (hb hby at_239) rfl (teq (by decide)).2 (XS.iload X.here hx rfl (hb hby at_242) rfl (XS.ifNo X.here hx rfl (hb hby at_244) rfl ((if0 _ _).trans (teq (by decide)).2) (XS.iload X.here hx rfl (hb hby at_247) rfl (XS.ifNo X.here hx rfl (hb hby at_249) rfl ((if0 _ _).trans (feq (by decide)).1) (XS.iconst X.here hx rfl (hb hby at_252) kt)))))))) ?_
          show oWk _ _ _ _ T (mkF m 253 #[iv p0, iv p1, iv p2, iv p3, iv 0, iv 3, iv 1, rv nm, rv al, rv leaf, rv eb, rv ks, rv dd, iv 0, iv 0, iv 1] [(.int 1)])
          refine oWk.st (fun _ kt => XS.goto X.here hx rfl (pc0 := 253) (pc' := 257) rfl (hb hby at_253) (by decide) (by decide) kt) ?_
          show oWk _ _ _ _ T (mkF m 257 #[iv p0, iv p1, iv p2, iv p3, iv 0, iv 3, iv 1, rv nm, rv al, rv leaf, rv eb, rv ks, rv dd, iv 0, iv 0, iv 1] [(.int 1)])
          exact oRetZ X hx hlk hret (hb hby at_257) (Or.inr rfl) (by rw [e0]; exact ⟨rfl, K.fr⟩) (by decide) (by decide)
        · show oWk _ _ _ _ T (mkF m 180 #[iv p0, iv p1, iv p2, iv p3, iv 1, iv 3, iv 1, rv nm, rv al, rv leaf, rv eb, rv ks, uu, uu, uu, uu] [(.ref al), (.int p1), (.ref nm), (.ref dd), (.ref dd)])
          refine oWk.st (fun _ kt => XS.iload X.here hx rfl (hb hby at_180) rfl (XS.ifNo X.here hx rfl (hb hby at_182) rfl ((if0 _ _).trans (feq (by decide)).1) (XS.aload X.here hx rfl (hb hby at_185) rfl rfl (XS.goto X.here hx rfl (pc0 := 187) (pc' := 191) rfl (hb hby at_187) (by decide) (by decide) kt)))) ?_
          have E_al := (E_al.ext E217)
          have F_elementData_al := (((((((F_elementData_al.keep K137.1 (ninS ne_al_eb nin0)).ext E139).keep K140.1 (ninS ne_al_ks nin0)).keep K211.1 (ninS ne_al_ks nin0)).keep K213.1 (ninS ne_al_ks (ninS ne_al_nd139 nin0))).keep K215.1 (ninS ne_al_ks (ninS ne_al_nd139 nin0))).ext E217)
          have F_size_al := (((((((F_size_al.keep K137.1 (ninS ne_al_eb nin0)).ext E139).keep K140.1 (ninS ne_al_ks nin0)).keep K211.1 (ninS ne_al_ks nin0)).keep K213.1 (ninS ne_al_ks (ninS ne_al_nd139 nin0))).keep K215.1 (ninS ne_al_ks (ninS ne_al_nd139 nin0))).ext E217)
          have E_nd75 := (E_nd75.ext E217)
          have V_nd75 := (((((((V_nd75.keep K137.1 (ninS ne_nd75_eb nin0)).ext E139).keep K140.1 (ninS ne_nd75_ks nin0)).keep K211.1 (ninS ne_nd75_ks nin0)).keep K213.1 (ninS ne_nd75_ks (ninS ne_nd75_nd139 nin0))).keep K215.1 (ninS ne_nd75_ks (ninS ne_nd75_nd139 nin0))).ext E217)
          have E_mk := (E_mk.ext E217)
          have E_ks := (E_ks.ext E217)
          have F_elementData_ks := (F_elementData_ks.ext E217)
          have F_size_ks := (F_size_ks.ext E217)
          have E_nd139 := (E_nd139.ext E217)
          have V_nd139 := (V_nd139.ext E217)
          have E_leaf := (E_leaf.ext E217)
          have E_eb := (E_eb.ext E217)
          have Oh := K.old O0 all0
          obtain ⟨_, _, ⟨T, L229, k229, n229⟩, -, X, ⟨Lc229, hQ, l229, y229, z229⟩, st⟩ := X.specialBack hx (y := yy16) rfl hown (mvT hZ (oW hw 53 rfl)) (mvT hZ (oW hw 54 rfl)) (mvT hZ (oW hw 55 rfl)) (by decide) (backOf (W := 1) (rDI_1_3 l Z a0 hw [] dd nm p1 .null (.int (0 : Int32)) .null .null al nd75 nk75 mk ks nd139 nk139 leaf leaf eb xq xmr h Oh S_EMPTY mm_ (Nat.le_trans O0.1 ge_dd) E_dd F_name_dd F_line_dd F_arguments_dd F_block_dd E_al F_elementData_al F_size_al E_nd75 V_nd75 (Ins.of_exa E_mk (oW hw 149 rfl)) E_ks F_elementData_ks F_size_ks E_nd139 V_nd139 (Ins.of_exa E_leaf (oW hw 127 rfl)) (Ins.of_exa E_leaf (oW hw 127 rfl)) (Ins.of_exa E_eb (oW hw 127 rfl))) hZ (oW hw 55 rfl) (oW hw 52 rfl) (by decide) (by decide)) (g := (mkF m 191 #[iv p0, iv p1, iv p2, iv p3, iv 1, iv 3, iv 1, rv nm, rv al, rv leaf, rv eb, rv ks, uu, uu, uu, uu] [(.ref ks), (.ref al), (.int p1), (.ref nm), (.ref dd), (.ref dd)])) rfl (by rw [hml]; rfl) (Steps.refl _) (a := dd) (argsL := [(.ref nm), (.int p1), (.ref al), (.ref ks)]) (rest := [(.ref dd)]) (lenOf pd_8 rfl) rfl (Nat.le_of_eq rfl) (hb hby at_191) (fun _ _ => ⟨rfl, e0, (by decide : 14 + 5 ≤ _), (by decide : 54 + 11 ≤ _)⟩)
          dsimp only [Pt.U, Pt.locs, Pt.cells, Pt.slots] at X l229 y229 z229 st hQ
          subst l229 y229 z229
          obtain ⟨h, e0⟩ : ∃ z, T.heap = z := ⟨_, rfl⟩
          rw [e0] at hQ
          obtain ⟨nbl228, rfl, K228, E_dd, F_block_dd⟩ := hQ
          have K := K.call K228 (allS (Or.inr ge_dd) all0)
          refine oWk.tr st ?_
          refine oWk.st (fun _ kt => XS.astore X.here hx rfl (hb hby at_194) rfl rfl (l' := #[iv p0, iv p1, iv p2, iv p3, iv 1, iv 3, iv 1, rv nm, rv al, rv leaf, rv eb, rv ks, rv dd, uu, uu, uu]) rfl (XS.aload X.here hx rfl (hb hby at_196) rfl rfl kt)) ?_
          have Oh := K.old O0 all0
          obtain ⟨cq231, kq231, q231a, q231b, q231c⟩ := isOf hZ e0 E_dd
          obtain ⟨_, _, ⟨T, L231, k231, n231⟩, -, X, ⟨Lc231, hQ, l231, y231, z231⟩, st⟩ := X.virtualBack hx (y := yy6) (z := yy6) hown (mvT hZ (oW hw 128 rfl)) (mvT hZ (oW hw 129 rfl)) (notFace_of_selects (args := #[]) (mvT hZ (oW hw 131 rfl))) (mvT hZ (oW hw 131 rfl)) (mvT hZ (oW hw 130 rfl)) (by decide) (backOf (W := 0) (rHB1 l Z a0 hw [] dd nbl228 h Oh F_block_dd) hZ (oW hw 132 rfl) (oW hw 52 rfl) (by decide) (by decide)) q231a q231c (g := (mkF m 198 #[iv p0, iv p1, iv p2, iv p3, iv 1, iv 3, iv 1, rv nm, rv al, rv leaf, rv eb, rv ks, rv dd, uu, uu, uu] [(.ref dd)])) rfl (by rw [hml]; rfl) (Steps.refl _) (argsL := []) (rest := []) (lenOf pd_5 rfl) rfl (Nat.le_of_eq rfl) (hb hby at_198) (fun _ _ => ⟨rfl, e0, (by decide : 19 + 0 ≤ _), (by decide : 65 + 0 ≤ _)⟩)
          dsimp only [Pt.U, Pt.locs, Pt.cells, Pt.slots] at X l231 y231 z231 st hQ
          subst l231 y231 z231
          obtain ⟨rfl, e0, K230⟩ := hQ
          have K := K.call K230 all0
          rw [e0] at K
          refine oWk.tr st ?_
          refine oWk.st (fun _ kt => XS.istore X.here hx rfl (hb hby at_201) rfl (l' := #[iv p0, iv p1, iv p2, iv p3, iv 1, iv 3, iv 1, rv nm, rv al, rv leaf, rv eb, rv ks, rv dd, iv 1, uu, uu]) rfl (XS.aload X.here hx rfl (hb hby at_203) rfl rfl kt)) ?_
          have F_block_leaf := (((((((((((F_block_leaf.ext E133).ext E134).keep K135.1 (ninS ne_leaf_a3 nin0)).keep K137.1 (ninS ne_leaf_eb nin0)).ext E139).keep K140.1 (ninS ne_leaf_ks nin0)).keep K211.1 (ninS ne_leaf_ks nin0)).keep K213.1 (ninS ne_leaf_ks (ninS ne_leaf_nd139 nin0))).keep K215.1 (ninS ne_leaf_ks (ninS ne_leaf_nd139 nin0))).ext E217).keep K228.1 (ninS ne_leaf_dd nin0))
          have Oh := K.old O0 all0
          have E_leaf := (E_leaf.keep K228.1)
          obtain ⟨cq233, kq233, q233a, q233b, q233c⟩ := isOf hZ e0 E_leaf
          obtain ⟨_, _, ⟨T, L233, k233, n233⟩, -, X, ⟨Lc233, hQ, l233, y233, z233⟩, st⟩ := X.virtualBack hx (y := yy6) (z := yy6) hown (mvT hZ (oW hw 128 rfl)) (mvT hZ (oW hw 129 rfl)) (notFace_of_selects (args := #[]) (mvT hZ (oW hw 131 rfl))) (mvT hZ (oW hw 131 rfl)) (mvT hZ (oW hw 130 rfl)) (by decide) (backOf (W := 0) (rHB0 l Z a0 hw [] leaf h Oh F_block_leaf) hZ (oW hw 132 rfl) (oW hw 52 rfl) (by decide) (by decide)) q233a q233c (g := (mkF m 205 #[iv p0, iv p1, iv p2, iv p3, iv 1, iv 3, iv 1, rv nm, rv al, rv leaf, rv eb, rv ks, rv dd, iv 1, uu, uu] [(.ref leaf)])) rfl (by rw [hml]; rfl) (Steps.refl _) (argsL := []) (rest := []) (lenOf pd_5 rfl) rfl (Nat.le_of_eq rfl) (hb hby at_205) (fun _ _ => ⟨rfl, e0, (by decide : 19 + 0 ≤ _), (by decide : 65 + 0 ≤ _)⟩)
          dsimp only [Pt.U, Pt.locs, Pt.cells, Pt.slots] at X l233 y233 z233 st hQ
          subst l233 y233 z233
          obtain ⟨rfl, e0, K232⟩ := hQ
          have K := K.call K232 all0
          rw [e0] at K
          refine oWk.tr st ?_
          refine oWk.st (fun _ kt => XS.istore X.here hx rfl (hb hby at_208) rfl (l' := #[iv p0, iv p1, iv p2, iv p3, iv 1, iv 3, iv 1, rv nm, rv al, rv leaf, rv eb, rv ks, rv dd, iv 1, iv 0, uu]) rfl (XS.aload X.here hx rfl (hb hby at_210) rfl rfl kt)) ?_
          have F_block_eb := (((((((F_block_eb.ext E139).keep K140.1 (ninS ne_eb_ks nin0)).keep K211.1 (ninS ne_eb_ks nin0)).keep K213.1 (ninS ne_eb_ks (ninS ne_eb_nd139 nin0))).keep K215.1 (ninS ne_eb_ks (ninS ne_eb_nd139 nin0))).ext E217).keep K228.1 (ninS ne_eb_dd nin0))
          have Oh := K.old O0 all0
          have E_eb := (E_eb.keep K228.1)
          obtain ⟨cq235, kq235, q235a, q235b, q235c⟩ := isOf hZ e0 E_eb
          obtain ⟨_, _, ⟨T, L235, k235, n235⟩, -, X, ⟨Lc235, hQ, l235, y235, z235⟩, st⟩ := X.virtualBack hx (y := yy6) (z := yy6) hown (mvT hZ (oW hw 128 rfl)) (mvT hZ (oW hw 129 rfl)) (notFace_of_selects (args := #[]) (mvT hZ (oW hw 131 rfl))) (mvT hZ (oW hw 131 rfl)) (mvT hZ (oW hw 130 rfl)) (by decide) (backOf (W := 0) (rHB1 l Z a0 hw [] eb xl h Oh F_block_eb) hZ (oW hw 132 rfl) (oW hw 52 rfl) (by decide) (by decide)) q235a q235c (g := (mkF m 212 #[iv p0, iv p1, iv p2, iv p3, iv 1, iv 3, iv 1, rv nm, rv al, rv leaf, rv eb, rv ks, rv dd, iv 1, iv 0, uu] [(.ref eb)])) rfl (by rw [hml]; rfl) (Steps.refl _) (argsL := []) (rest := []) (lenOf pd_5 rfl) rfl (Nat.le_of_eq rfl) (hb hby at_212) (fun _ _ => ⟨rfl, e0, (by decide : 19 + 0 ≤ _), (by decide : 65 + 0 ≤ _)⟩)
          dsimp only [Pt.U, Pt.locs, Pt.cells, Pt.slots] at X l235 y235 z235 st hQ
          subst l235 y235 z235
          obtain ⟨rfl, e0, K234⟩ := hQ
          have K := K.call K234 all0
          rw [e0] at K
          refine oWk.tr st ?_
          refine oWk.st (fun _ kt => XS.istore X.here hx rfl (hb hby at_215) rfl (l' := #[iv p0, iv p1, iv p2, iv p3, iv 1, iv 3, iv 1, rv nm, rv al, rv leaf, rv eb, rv ks, rv dd, iv 1, iv 0, iv 1]) rfl (XS.iload X.here hx rfl (hb hby at_217) rfl (XS.iload X.here hx rfl (hb hby at_219) rfl (XS.icmpNo X.here hx rfl (hb hby at_221) rfl (teq (by decide)).2 (XS.iload X.here hx rfl (hb hby at_224) rfl (XS.aload X.here hx rfl (hb hby at_226) rfl rfl kt)))))) ?_
          have Oh := K.old O0 all0
          obtain ⟨cq237, kq237, q237a, q237b, q237c⟩ := isOf hZ e0 E_dd
          obtain ⟨_, _, ⟨T, L237, k237, n237⟩, -, X, ⟨Lc237, hQ, l237, y237, z237⟩, st⟩ := X.virtualBack hx (y := yy7) (z := yy7) hown (mvT hZ (oW hw 133 rfl)) (mvT hZ (oW hw 134 rfl)) (notFace_of_selects (args := #[]) (mvT hZ (oW hw 136 rfl))) (mvT hZ (oW hw 136 rfl)) (mvT hZ (oW hw 135 rfl)) (by decide) (backOf (W := 1) (rBL1 l Z a0 hw [] dd nbl228 h Oh F_block_dd) hZ (oW hw 137 rfl) (oW hw 52 rfl) (by decide) (by decide)) q237a q237c (g := (mkF m 228 #[iv p0, iv p1, iv p2, iv p3, iv 1, iv 3, iv 1, rv nm, rv al, rv leaf, rv eb, rv ks, rv dd, iv 1, iv 0, iv 1] [(.ref dd), (.int 1)])) rfl (by rw [hml]; rfl) (Steps.refl _) (argsL := []) (rest := [(.int (1 : Int32))]) (lenOf pd_6 rfl) rfl (Nat.le_of_eq rfl) (hb hby at_228) (fun _ _ => ⟨rfl, e0, (by decide : 19 + 0 ≤ _), (by decide : 65 + 0 ≤ _)⟩)
          dsimp only [Pt.U, Pt.locs, Pt.cells, Pt.slots] at X l237 y237 z237 st hQ
          subst l237 y237 z237
          obtain ⟨rfl, e0, K236⟩ := hQ
          have K := K.call K236 all0
          rw [e0] at K
          refine oWk.tr st ?_
          refine oWk.st (fun _ kt => XS.ifnullNo X.here hx rfl (hb hby at_231) rfl (XS.iconst X.here hx rfl (hb hby at_234) (XS.goto X.here hx rfl (pc0 := 235) (pc' := 239) rfl (hb hby at_235) (by decide) (by decide) (XS.icmpNo X.here hx rfl (hb hby at_239) rfl (teq (by decide)).2 (XS.iload X.here hx rfl (hb hby at_242) rfl (XS.ifNo X.here hx rfl (hb hby at_244) rfl ((if0 _ _).trans (teq (by decide)).2) (XS.iload X.here hx rfl (hb hby at_247) rfl (XS.ifNo X.here hx rfl (hb hby at_249) rfl ((if0 _ _).trans (feq (by decide)).1) kt)))))))) ?_
          show oWk _ _ _ _ T (mkF m 252 #[iv p0, iv p1, iv p2, iv p3, iv 1, iv 3, iv 1, rv nm, rv al, rv leaf, rv eb, rv ks, rv dd, iv 1, iv 0, iv 1] [])
          refine oWk.st (fun _ kt => XS.iconst X.here hx rfl (hb hby at_252) (XS.goto X.here hx rfl (pc0 := 253) (pc' := 257) rfl (hb hby at_253) (by decide) (by decide) kt)) ?_
          show oWk _ _ _ _ T (mkF m 257 #[iv p0, iv p1, iv p2, iv p3, iv 1, iv 3, iv 1, rv nm, rv al, rv leaf, rv eb, rv ks, rv dd, iv 1, iv 0, iv 1] [(.int 1)])
          exact oRetZ X hx hlk hret (hb hby at_257) (Or.inr rfl) (by rw [e0]; exact ⟨rfl, K.fr⟩) (by decide) (by decide)
  by_cases hc3 : (p2 &&& (1 : Int32)) = (0 : Int32)
  · refine oWk.st (fun _ kt => XS.ifYes X.here hx rfl (pc0 := 3) (pc' := 10) rfl (hb hby at_3) rfl ((if0 _ _).trans (teq hc3).1) (by decide) (by decide) kt) ?_
    show oWk _ _ _ _ T (mkF m 10 #[iv p0, iv p1, iv p2, iv p3, uu, uu, uu, uu, uu, uu, uu, uu, uu, uu, uu, uu] [])
    refine oWk.st (fun _ kt => XS.iconst X.here hx rfl (hb hby at_10) kt) ?_
    show oWk _ _ _ _ T (mkF m 11 #[iv p0, iv p1, iv p2, iv p3, uu, uu, uu, uu, uu, uu, uu, uu, uu, uu, uu, uu] [(.int 0)])
    exact J11 _ (Or.inl rfl)
  · refine oWk.st (fun _ kt => XS.ifNo X.here hx rfl (hb hby at_3) rfl ((if0 _ _).trans (feq hc3).1) kt) ?_
    show oWk _ _ _ _ T (mkF m 6 #[iv p0, iv p1, iv p2, iv p3, uu, uu, uu, uu, uu, uu, uu, uu, uu, uu, uu, uu] [])
    refine oWk.st (fun _ kt => XS.iconst X.here hx rfl (hb hby at_6) (XS.goto X.here hx rfl (pc0 := 7) (pc' := 11) rfl (hb hby at_7) (by decide) (by decide) kt)) ?_
    show oWk _ _ _ _ T (mkF m 11 #[iv p0, iv p1, iv p2, iv p3, uu, uu, uu, uu, uu, uu, uu, uu, uu, uu, uu, uu] [(.int 1)])
    exact J11 _ (Or.inr rfl)
theorem comes_1 {Post : Tables → Env → Array Value → State → Outcome → State → Prop} (hpost : ∀ tb e args s v u, (limb_1_1.after args s (.returned v) u = true ∧ limb_1_2.after args s (.returned v) u = true ∧ True) → FrameEnd s (.returned v) u (Jvm.fieldLocs frame_1_writes args s ++ Jvm.arrayLocs frame_1_arrays args s ++ Jvm.staticLocs frame_1_statics s) 48 256 → Post tb e args s (.returned v) u) :
    ArmFor flags0 classFile x code maxLocals ret World_1 tables_1 room_1 Calls_1 rest_1 Pre_1 Post := by
  intro l hfl _ _ p e ha hc hk s m args below hf hA hF happ hP
  obtain ⟨hcalls, hrest, hpre⟩ := hP
  obtain ⟨-, -, -, hnamed, -, -, -, hat⟩ := (Spec.applies_iff hf).mp happ
  obtain ⟨hg, hn⟩ := and_e (Cond.before_iff.mp (show (Jvm.Cond.and given_1 narrow_1).before args s = true from hpre))
  obtain ⟨n1, n2⟩ := and_e hg
  obtain ⟨n3, n4⟩ := and_e n2
  obtain ⟨n5, n6⟩ := and_e n4
  obtain ⟨n7, n8⟩ := and_e n6
  obtain ⟨w0, w1, w2, w3, rfl⟩ : ∃ w0 w1 w2 w3 : Value, args = #[w0, w1, w2, w3] := by
    have hs : args.size = 4 := by simpa [Cond.value, given_1] using n1
    obtain ⟨L⟩ := args
    match L, hs with
    | [w0, w1, w2, w3], _ => exact ⟨w0, w1, w2, w3, rfl⟩
  have hw := fun d (hd : d ∈ tables_1) => atoms_spec (ws := Jvm.Cond.code x code maxLocals ret :: tables_1) hat d (List.mem_cons_of_mem _ hd)
  have hfit : Fit s := fun {y c} hc i hi => by
    obtain ⟨ha, rfl⟩ := Array.getElem?_eq_some_iff.mp hc
    have q := List.all_eq_true.mp ((Array.all_eq_true_iff_forall_mem.mp hF) _ (Array.getElem_mem ha)) i (List.mem_range.mpr hi)
    simpa [Array.getElem?_eq_getElem hi] using q
  obtain ⟨hsets, hown0⟩ := atoms_of _ (rest_1_c_eq ▸ (show rest_1_c.before _ s = true from hrest))
  have hr0 := Cond.before_iff.mp hown0
  obtain ⟨i0, ei0⟩ := is_v n3
  obtain rfl : w0 = (.int i0) := Option.some.inj ei0
  obtain ⟨i1, ei1⟩ := is_v n5
  obtain rfl : w1 = (.int i1) := Option.some.inj ei1
  obtain ⟨i2, ei2⟩ := is_v n7
  obtain rfl : w2 = (.int i2) := Option.some.inj ei2
  obtain ⟨i3, ei3⟩ := is_v n8
  obtain rfl : w3 = (.int i3) := Option.some.inj ei3
  -- hn: (Jvm.Cond.tt)
  obtain ⟨xz, vz⟩ := is_v (Cond.before_iff.mp (hsets _ (List.mem_of_getElem? (i := 1) rfl)))
  have S_Z := Sta.start vz (Or.inl (hsets _ (List.mem_of_getElem? (i := 0) rfl)))
  have hz : ¬ xz = (0 : Int32) := oNot0 vz (Cond.before_iff.mp (hsets _ (List.mem_of_getElem? (i := 2) rfl)))
  obtain ⟨xd, vd⟩ := exa_v (Cond.before_iff.mp (hsets _ (List.mem_of_getElem? (i := 16) rfl)))
  have S_D := Sta.start vd (Or.inr ⟨(oW hw 28 rfl), (hsets _ (List.mem_of_getElem? (i := 11) rfl))⟩)
  obtain ⟨xk, V_D⟩ := oArr0 (dv := .null) hfit vd (Cond.before_iff.mp (hsets _ (List.mem_of_getElem? (i := 15) rfl))) (Cond.before_iff.mp (hsets _ (List.mem_of_getElem? (i := 17) rfl)))
  obtain ⟨xl, vl⟩ := exa_v (Cond.before_iff.mp (hsets _ (List.mem_of_getElem? (i := 20) rfl)))
  have S_L := Sta.start vl (Or.inl (hsets _ (List.mem_of_getElem? (i := 19) rfl)))
  obtain ⟨xq, vq⟩ := exa_v (Cond.before_iff.mp (hsets _ (List.mem_of_getElem? (i := 27) rfl)))
  have S_Q := Sta.start vq (Or.inl (hsets _ (List.mem_of_getElem? (i := 26) rfl)))
  obtain ⟨mc, mk, xmr, mr1, mr2, mr3, -⟩ := hcalls.1
  obtain ⟨n, o, h1, h2, h3, _, L, rfl, ⟨rfl, N⟩, hq⟩ := rLaw l s _ hw tables_1 i0 i1 i2 i3 xd xk xl xq xmr xz s.heap (oExtRefl _) S_D V_D S_L S_Q ⟨mc, mk, mr1, mr2, mr3⟩ S_Z hz p e ha hc hk s m _ below hf ((Spec.applies_iff_loose hf).mp happ).1 ⟨rfl, State.Warmed39.refl s, rfl⟩ trivial
  refine ⟨n, _, h1, h2, h3, hpost _ _ _ _ _ _ ⟨Cond.after_iff.mpr rfl, Cond.after_iff.mpr (eq_i res_at (Term.int_eval (1)) rfl), trivial⟩ ⟨hq.1, hq.2.1, (hq.2.2.sift fun y hy => Or.inr (N y hy)).mono (by decide) (by decide)⟩⟩
theorem main_1_1 : Claimed_1_1 := comes_1 fun _ _ _ _ _ _ h hF => ⟨h.1, hF⟩
theorem main_1_2 : Claimed_1_2 := comes_1 fun _ _ _ _ _ _ h hF => ⟨h.2.1, hF⟩
end Jvm.Pilot.@@N@@
namespace Jvm.Pilot.@@N@@
open Jvm Jvm.ClassFile Sem Op Lib Jvm.Free Jvm.Stand Jvm.Pilot.@@N@@.Jvm.D
/-! MADE BY PROGRAM (witnessworld.py) out of the Statement's table words and the real class files: 39 classes; the members and pool entries that the words name. The judged class is class 1, her method 1. -/
namespace start1
open Jvm.ClassFile
def u (s : String) : CpInfo := .utf8 (stringToUtf16 s)
/-- a pool by its gaps: so many unusable entries, then the entry; so many at the end -/
def gap : Nat → List CpInfo → List CpInfo
  | 0, r => r
  | n + 1, r => .unusable :: gap n r
def poolList (es : List (Nat × CpInfo)) (last : Nat) : List CpInfo := es.foldr (fun e r => gap e.1 (e.2 :: r)) (gap last [])
def pool (es : List (Nat × CpInfo)) (last : Nat) : Array CpInfo := ⟨poolList es last⟩
def fileOf (pool : Array CpInfo) (this : Nat) (attrs : Array Attribute := #[]) (ms : Array MethodInfo := #[]) (fl : Nat := 33) (sup : Nat := 0) (ifs : Array Nat := #[]) (fds : Array FieldInfo := #[]) : ClassFile where
  minorVersion := 0
  majorVersion := 65
  constantPool := pool
  accessFlags := fl
  thisClass := this
  superClass := sup
  interfaces := ifs
  fields := fds
  methods := ms
  attributes := attrs
def plain (name : String) (sup : Option ClassId) : Class where
  name := name
  kind := .ordinary
  loader := none
  accessFlags := 33
  super := sup
  interfaces := #[]
  cf := none
  fields := #[]
  methods := #[]
  instanceTypes := #[]
  staticTypes := #[]
  resolved := #[]
  callSites := []
  init := .initialized
  statics := none
  mirror := none

def pool0 : Array CpInfo := pool [(5, u "<init>"), (0, u "()V"), (1, .class_ 10), (1, u "java/lang/Object"), (0, u "getClass"), (0, u "()Ljava/lang/Class;")] 111

def k0c0 : Code := { maxStack := 0, maxLocals := 1, code := object_method_1_code, exceptionTable := #[], attributes := #[] }
def k0m0 : Method := { name := "<init>", desc := "()V", sig := { parameters := [], returnType := none }, accessFlags := 1, code := some k0c0 }
def k0m1 : Method := { name := "getClass", desc := "()Ljava/lang/Class;", sig := { parameters := [], returnType := some (.object "java/lang/Class") }, accessFlags := 273, code := none }
/-- java/lang/Object -/
def k0 : Class := { plain "java/lang/Object" none with
  accessFlags := 33
  interfaces := #[]
  cf := some (fileOf pool0 8 #[] #[{ accessFlags := 1, nameIndex := 5, descriptorIndex := 6, attributes := #[] }, { accessFlags := 273, nameIndex := 11, descriptorIndex := 12, attributes := #[] }] 33 0 #[] #[])
  fields := #[]
  methods := #[k0m0, k0m1]
  instanceTypes := #[]
  staticTypes := #[]
  resolved := Array.replicate 124 none
  statics := none }

def pool1 : Array CpInfo := pool [(2, .class_ 4), (0, .nameAndType 5 6), (0, u "java/lang/Object"), (0, u "<init>"), (0, u "()V"), (0, .methodref 8 9), (0, .class_ 10), (0, .nameAndType 11 12), (0, u "java/lang/String"), (0, u "valueOf"), (0, u "(C)Ljava/lang/String;"), (0, .class_ 14), (0, u "java/util/ArrayList"), (0, .methodref 13 3), (0, .class_ 17), (0, u "com/example/modwright/modwright/script/Argument$Mark"), (0, .methodref 16 19), (0, .nameAndType 5 20), (0, u "(CI)V"), (0, .methodref 13 22), (0, .nameAndType 23 24), (0, u "add"), (0, u "(Ljava/lang/Object;)Z"), (0, .class_ 26), (0, u "com/example/modwright/modwright/script/Directive"), (0, .methodref 25 28), (0, .nameAndType 5 29), (0, u "(Ljava/lang/String;ILjava/util/List;Ljava/util/List;)V"), (0, .methodref 25 31), (0, .nameAndType 32 33), (0, u "hasBlock"), (0, u "()Z"), (0, .methodref 25 35), (0, .nameAndType 36 37), (0, u "block"), (0, u "()Ljava/util/List;"), (0, .class_ 39), (0, u "com/example/modwright/modwright/script/DirectiveHasBlockPinLaw"), (2, u "law"), (0, u "(IIII)Z")] 9

def k1m0 : Method := { name := "<init>", desc := "()V", sig := { parameters := [], returnType := none }, accessFlags := 1, code := none }
def k1c1 : Code := { maxStack := 7, maxLocals := 16, code := code, exceptionTable := #[], attributes := #[] }
def k1m1 : Method := { name := "law", desc := "(IIII)Z", sig := { parameters := [.int, .int, .int, .int], returnType := some .boolean }, accessFlags := 9, code := some k1c1 }
/-- com/example/modwright/modwright/script/DirectiveHasBlockPinLaw -/
def k1 : Class := { plain "com/example/modwright/modwright/script/DirectiveHasBlockPinLaw" (some 0) with
  accessFlags := 49
  interfaces := #[]
  cf := some (fileOf pool1 38 #[] #[{ accessFlags := 1, nameIndex := 5, descriptorIndex := 6, attributes := #[] }, { accessFlags := 9, nameIndex := 42, descriptorIndex := 43, attributes := #[] }] 49 2 #[] #[])
  fields := #[]
  methods := #[k1m0, k1m1]
  instanceTypes := #[]
  staticTypes := #[]
  resolved := Array.replicate 53 none
  statics := none }

def pool2 : Array CpInfo := pool [(1, .class_ 2), (0, u "java/io/Serializable"), (0, .class_ 4), (0, u "java/lang/Object")] 2

/-- java/io/Serializable -/
def k2 : Class := { plain "java/io/Serializable" (some 0) with
  accessFlags := 1537
  interfaces := #[]
  cf := some (fileOf pool2 1 #[] #[] 1537 3 #[] #[])
  fields := #[]
  methods := #[]
  instanceTypes := #[]
  staticTypes := #[]
  resolved := Array.replicate 7 none
  statics := none }

def pool3 : Array CpInfo := pool [(1, .class_ 2), (0, u "java/lang/Comparable"), (0, .class_ 4), (0, u "java/lang/Object")] 7

/-- java/lang/Comparable -/
def k3 : Class := { plain "java/lang/Comparable" (some 0) with
  accessFlags := 1537
  interfaces := #[]
  cf := some (fileOf pool3 1 #[] #[] 1537 3 #[] #[])
  fields := #[]
  methods := #[]
  instanceTypes := #[]
  staticTypes := #[]
  resolved := Array.replicate 12 none
  statics := none }

def pool4 : Array CpInfo := pool [(2, .class_ 4), (1, u "java/lang/CharSequence"), (42, .class_ 48), (0, u "java/lang/CharSequence$1CodePointIterator"), (10, .class_ 60), (0, u "java/lang/CharSequence$1CharIterator"), (5, .class_ 67), (0, u "java/lang/Object")] 63

/-- java/lang/CharSequence -/
def k4 : Class := { plain "java/lang/CharSequence" (some 0) with
  accessFlags := 1537
  interfaces := #[]
  cf := some (fileOf pool4 2 #[.nestMembers #[47, 59]] #[] 1537 66 #[] #[])
  fields := #[]
  methods := #[]
  instanceTypes := #[]
  staticTypes := #[]
  resolved := Array.replicate 131 none
  statics := none }

def pool5 : Array CpInfo := pool [(1, .class_ 2), (0, u "java/lang/constant/Constable"), (0, .class_ 4), (0, u "java/lang/Object")] 6

/-- java/lang/constant/Constable -/
def k5 : Class := { plain "java/lang/constant/Constable" (some 0) with
  accessFlags := 1537
  interfaces := #[]
  cf := some (fileOf pool5 1 #[] #[] 1537 3 #[] #[])
  fields := #[]
  methods := #[]
  instanceTypes := #[]
  staticTypes := #[]
  resolved := Array.replicate 11 none
  statics := none }

def pool6 : Array CpInfo := pool [(1, .class_ 2), (0, u "java/lang/constant/ConstantDesc"), (0, .class_ 4), (0, u "java/lang/Object")] 32

/-- java/lang/constant/ConstantDesc -/
def k6 : Class := { plain "java/lang/constant/ConstantDesc" (some 0) with
  accessFlags := 1537
  interfaces := #[]
  cf := some (fileOf pool6 1 #[] #[] 1537 3 #[] #[])
  fields := #[]
  methods := #[]
  instanceTypes := #[]
  staticTypes := #[]
  resolved := Array.replicate 37 none
  statics := none }

def pool7 : Array CpInfo := pool [(1, .methodref 2 3), (0, .class_ 4), (0, .nameAndType 5 6), (0, u "java/lang/Object"), (0, u "<init>"), (0, u "()V"), (2, .fieldref 10 11), (0, .class_ 12), (0, .nameAndType 13 14), (0, u "java/lang/String"), (0, u "value"), (0, u "[B"), (0, .fieldref 10 16), (0, .nameAndType 17 18), (0, u "coder"), (0, u "B"), (2, u "hash"), (0, u "I"), (2, u "hashIsZero"), (0, u "Z"), (11, .fieldref 10 39), (0, .nameAndType 40 26), (0, u "COMPACT_STRINGS"), (12, u "toBytes"), (53, .class_ 109), (1, u "java/lang/StringLatin1"), (99, .methodref 10 210), (0, .nameAndType 5 211), (0, u "([BB)V"), (157, u "(C)Z"), (205, .class_ 576), (0, u "java/lang/CharSequence"), (22, u "CASE_INSENSITIVE_ORDER"), (0, u "Ljava/util/Comparator;"), (181, u "valueOf"), (0, u "(C)Ljava/lang/String;"), (231, .methodref 107 1016), (0, .nameAndType 1017 369), (0, u "canEncode"), (0, .methodref 107 1019), (0, .nameAndType 53 1020), (0, u "(C)[B"), (80, u "serialPersistentFields"), (0, u "[Ljava/io/ObjectStreamField;"), (0, .class_ 1104), (0, u "java/lang/String$CaseInsensitiveComparator"), (1, .class_ 1107), (0, u "java/io/Serializable"), (0, .class_ 1109), (0, u "java/lang/Comparable"), (0, .class_ 1111), (0, u "java/lang/constant/Constable"), (0, .class_ 1113), (0, u "java/lang/constant/ConstantDesc"), (2, u "serialVersionUID"), (0, u "J"), (3, u "REPL"), (0, u "C"), (2, u "LATIN1"), (1, u "UTF16")] 323

def k7m0 : Method := { name := "<init>", desc := "()V", sig := { parameters := [], returnType := none }, accessFlags := 1, code := none }
def k7c1 : Code := { maxStack := 4, maxLocals := 1, code := jdk_42_method_139_code, exceptionTable := #[], attributes := #[] }
def k7m1 : Method := { name := "valueOf", desc := "(C)Ljava/lang/String;", sig := { parameters := [.char], returnType := some (.object "java/lang/String") }, accessFlags := 9, code := some k7c1 }
def k7c2 : Code := { maxStack := 2, maxLocals := 3, code := jdk_42_method_151_code, exceptionTable := #[], attributes := #[] }
def k7m2 : Method := { name := "<init>", desc := "([BB)V", sig := { parameters := [(.array .byte), .byte], returnType := none }, accessFlags := 0, code := some k7c2 }
/-- java/lang/String -/
def k7 : Class := { plain "java/lang/String" (some 0) with
  accessFlags := 49
  interfaces := #[2, 3, 4, 5, 6]
  cf := some (fileOf pool7 10 #[.nestMembers #[1103]] #[{ accessFlags := 1, nameIndex := 5, descriptorIndex := 6, attributes := #[] }, { accessFlags := 9, nameIndex := 782, descriptorIndex := 783, attributes := #[] }, { accessFlags := 0, nameIndex := 5, descriptorIndex := 211, attributes := #[] }] 49 2 #[1106, 1108, 575, 1110, 1112] #[{ accessFlags := 18, nameIndex := 13, descriptorIndex := 14, attributes := #[] }, { accessFlags := 18, nameIndex := 17, descriptorIndex := 18, attributes := #[] }, { accessFlags := 2, nameIndex := 21, descriptorIndex := 22, attributes := #[] }, { accessFlags := 2, nameIndex := 25, descriptorIndex := 26, attributes := #[] }, { accessFlags := 26, nameIndex := 1116, descriptorIndex := 1117, attributes := #[] }, { accessFlags := 24, nameIndex := 40, descriptorIndex := 26, attributes := #[] }, { accessFlags := 26, nameIndex := 1101, descriptorIndex := 1102, attributes := #[] }, { accessFlags := 26, nameIndex := 1121, descriptorIndex := 1122, attributes := #[] }, { accessFlags := 25, nameIndex := 599, descriptorIndex := 600, attributes := #[] }, { accessFlags := 24, nameIndex := 1125, descriptorIndex := 18, attributes := #[] }, { accessFlags := 24, nameIndex := 1127, descriptorIndex := 18, attributes := #[] }])
  fields := #[{ name := "value", type := (.array .byte), accessFlags := 18, slot := 0, constantValue := 0 }, { name := "coder", type := .byte, accessFlags := 18, slot := 1, constantValue := 0 }, { name := "hash", type := .int, accessFlags := 2, slot := 2, constantValue := 0 }, { name := "hashIsZero", type := .boolean, accessFlags := 2, slot := 3, constantValue := 0 }, { name := "serialVersionUID", type := .long, accessFlags := 26, slot := 0, constantValue := 0 }, { name := "COMPACT_STRINGS", type := .boolean, accessFlags := 24, slot := 1, constantValue := 0 }, { name := "serialPersistentFields", type := (.array (.object "java/io/ObjectStreamField")), accessFlags := 26, slot := 2, constantValue := 0 }, { name := "REPL", type := .char, accessFlags := 26, slot := 3, constantValue := 0 }, { name := "CASE_INSENSITIVE_ORDER", type := (.object "java/util/Comparator"), accessFlags := 25, slot := 4, constantValue := 0 }, { name := "LATIN1", type := .byte, accessFlags := 24, slot := 5, constantValue := 0 }, { name := "UTF16", type := .byte, accessFlags := 24, slot := 6, constantValue := 0 }]
  methods := #[k7m0, k7m1, k7m2]
  instanceTypes := #[(.array .byte), .byte, .int, .boolean]
  staticTypes := #[.long, .boolean, (.array (.object "java/io/ObjectStreamField")), .char, (.object "java/util/Comparator"), .byte, .byte]
  resolved := Array.replicate 1451 none
  statics := some 0 }

def pool8 : Array CpInfo := pool [(4, .class_ 6), (1, u "java/lang/Object"), (0, u "<init>"), (0, u "()V"), (5, .class_ 16), (1, u "java/lang/StringLatin1"), (73, u "canEncode"), (14, u "(C)Z"), (15, u "$assertionsDisabled"), (0, u "Z"), (98, .class_ 223), (1, u "java/lang/StringLatin1$LinesSpliterator"), (156, u "toBytes"), (1, u "(C)[B"), (7, .class_ 391), (0, u "java/lang/StringLatin1$CharsSpliterator")] 3

def k8m0 : Method := { name := "<init>", desc := "()V", sig := { parameters := [], returnType := none }, accessFlags := 0, code := none }
def k8c1 : Code := { maxStack := 2, maxLocals := 1, code := jdk_43_method_3_code, exceptionTable := #[], attributes := #[] }
def k8m1 : Method := { name := "canEncode", desc := "(C)Z", sig := { parameters := [.char], returnType := some .boolean }, accessFlags := 9, code := some k8c1 }
def k8c2 : Code := { maxStack := 4, maxLocals := 1, code := jdk_43_method_46_code, exceptionTable := #[], attributes := #[] }
def k8m2 : Method := { name := "toBytes", desc := "(C)[B", sig := { parameters := [.char], returnType := some (.array .byte) }, accessFlags := 9, code := some k8c2 }
/-- java/lang/StringLatin1 -/
def k8 : Class := { plain "java/lang/StringLatin1" (some 0) with
  accessFlags := 48
  interfaces := #[]
  cf := some (fileOf pool8 14 #[.nestMembers #[390, 221]] #[{ accessFlags := 0, nameIndex := 7, descriptorIndex := 8, attributes := #[] }, { accessFlags := 9, nameIndex := 90, descriptorIndex := 105, attributes := #[] }, { accessFlags := 9, nameIndex := 380, descriptorIndex := 382, attributes := #[] }] 48 4 #[] #[{ accessFlags := 4120, nameIndex := 121, descriptorIndex := 122, attributes := #[] }])
  fields := #[{ name := "$assertionsDisabled", type := .boolean, accessFlags := 4120, slot := 0, constantValue := 0 }]
  methods := #[k8m0, k8m1, k8m2]
  instanceTypes := #[]
  staticTypes := #[.boolean]
  resolved := Array.replicate 395 none
  statics := none }

def pool9 : Array CpInfo := pool [(8, .class_ 10), (1, u "java/lang/Iterable"), (24, .class_ 36), (0, u "java/lang/Object")] 25

/-- java/lang/Iterable -/
def k9 : Class := { plain "java/lang/Iterable" (some 0) with
  accessFlags := 1537
  interfaces := #[]
  cf := some (fileOf pool9 8 #[] #[] 1537 35 #[] #[])
  fields := #[]
  methods := #[]
  instanceTypes := #[]
  staticTypes := #[]
  resolved := Array.replicate 62 none
  statics := none }

def pool10 : Array CpInfo := pool [(10, .class_ 12), (1, u "java/util/Collection"), (0, u "toArray"), (16, u "()Z"), (29, .class_ 61), (0, u "java/lang/Object"), (0, .class_ 63), (0, u "java/lang/Iterable"), (2, u "isEmpty"), (3, u "()[Ljava/lang/Object;")] 44

def k10m0 : Method := { name := "isEmpty", desc := "()Z", sig := { parameters := [], returnType := some .boolean }, accessFlags := 1025, code := none }
def k10m1 : Method := { name := "toArray", desc := "()[Ljava/lang/Object;", sig := { parameters := [], returnType := some (.array (.object "java/lang/Object")) }, accessFlags := 1025, code := none }
/-- java/util/Collection -/
def k10 : Class := { plain "java/util/Collection" (some 0) with
  accessFlags := 1537
  interfaces := #[9]
  cf := some (fileOf pool10 10 #[] #[{ accessFlags := 1025, nameIndex := 66, descriptorIndex := 30, attributes := #[] }, { accessFlags := 1025, nameIndex := 13, descriptorIndex := 70, attributes := #[] }] 1537 60 #[62] #[])
  fields := #[]
  methods := #[k10m0, k10m1]
  instanceTypes := #[]
  staticTypes := #[]
  resolved := Array.replicate 115 none
  statics := none }

def pool11 : Array CpInfo := pool [(1, .methodref 2 3), (0, .class_ 4), (0, .nameAndType 5 6), (0, u "java/lang/Object"), (0, u "<init>"), (0, u "()V"), (1, .class_ 10), (1, u "java/util/AbstractCollection"), (66, .class_ 78), (0, u "java/util/Collection")] 81

def k11c0 : Code := { maxStack := 1, maxLocals := 1, code := jdk_22_method_1_code, exceptionTable := #[], attributes := #[] }
def k11m0 : Method := { name := "<init>", desc := "()V", sig := { parameters := [], returnType := none }, accessFlags := 4, code := some k11c0 }
/-- java/util/AbstractCollection -/
def k11 : Class := { plain "java/util/AbstractCollection" (some 0) with
  accessFlags := 1057
  interfaces := #[10]
  cf := some (fileOf pool11 8 #[] #[{ accessFlags := 4, nameIndex := 5, descriptorIndex := 6, attributes := #[] }] 1057 2 #[77] #[])
  fields := #[]
  methods := #[k11m0]
  instanceTypes := #[]
  staticTypes := #[]
  resolved := Array.replicate 160 none
  statics := none }

def pool12 : Array CpInfo := pool [(8, .class_ 10), (1, u "java/util/SequencedCollection"), (15, .class_ 27), (0, u "java/lang/Object"), (0, .class_ 29), (0, u "java/util/Collection")] 27

/-- java/util/SequencedCollection -/
def k12 : Class := { plain "java/util/SequencedCollection" (some 0) with
  accessFlags := 1537
  interfaces := #[10]
  cf := some (fileOf pool12 8 #[] #[] 1537 26 #[28] #[])
  fields := #[]
  methods := #[]
  instanceTypes := #[]
  staticTypes := #[]
  resolved := Array.replicate 57 none
  statics := none }

def pool13 : Array CpInfo := pool [(8, .class_ 10), (1, u "java/util/List"), (20, u "(Ljava/lang/Object;)V"), (16, u "<init>"), (39, u "of"), (1, .fieldref 91 92), (0, .class_ 93), (0, .nameAndType 94 95), (0, u "java/util/ImmutableCollections"), (0, u "EMPTY_LIST"), (0, u "Ljava/util/ImmutableCollections$ListN;"), (0, .class_ 97), (0, u "java/util/ImmutableCollections$List12"), (0, .methodref 96 99), (0, .nameAndType 48 31), (0, .methodref 96 101), (0, .nameAndType 48 102), (0, u "(Ljava/lang/Object;Ljava/lang/Object;)V"), (0, .class_ 104), (0, u "java/lang/Object"), (3, u "([Ljava/lang/Object;)Ljava/util/List;"), (0, .methodref 91 110), (0, .nameAndType 111 108), (0, u "listFromArray"), (0, .methodref 91 113), (0, .nameAndType 114 115), (0, u "listCopy"), (0, u "(Ljava/util/Collection;)Ljava/util/List;"), (3, u "()Ljava/util/List;"), (0, .class_ 121), (0, u "java/util/SequencedCollection"), (112, u "copyOf")] 16

def k13c0 : Code := { maxStack := 1, maxLocals := 0, code := jdk_40_method_36_code, exceptionTable := #[], attributes := #[] }
def k13m0 : Method := { name := "of", desc := "()Ljava/util/List;", sig := { parameters := [], returnType := some (.object "java/util/List") }, accessFlags := 9, code := some k13c0 }
def k13c1 : Code := { maxStack := 5, maxLocals := 2, code := jdk_40_method_47_code, exceptionTable := #[], attributes := #[] }
def k13m1 : Method := { name := "of", desc := "([Ljava/lang/Object;)Ljava/util/List;", sig := { parameters := [(.array (.object "java/lang/Object"))], returnType := some (.object "java/util/List") }, accessFlags := 137, code := some k13c1 }
def k13c2 : Code := { maxStack := 1, maxLocals := 1, code := jdk_40_method_48_code, exceptionTable := #[], attributes := #[] }
def k13m2 : Method := { name := "copyOf", desc := "(Ljava/util/Collection;)Ljava/util/List;", sig := { parameters := [(.object "java/util/Collection")], returnType := some (.object "java/util/List") }, accessFlags := 9, code := some k13c2 }
/-- java/util/List -/
def k13 : Class := { plain "java/util/List" (some 0) with
  accessFlags := 1537
  interfaces := #[12]
  cf := some (fileOf pool13 8 #[] #[{ accessFlags := 9, nameIndex := 88, descriptorIndex := 119, attributes := #[] }, { accessFlags := 137, nameIndex := 88, descriptorIndex := 108, attributes := #[] }, { accessFlags := 9, nameIndex := 234, descriptorIndex := 115, attributes := #[] }] 1537 103 #[120] #[])
  fields := #[]
  methods := #[k13m0, k13m1, k13m2]
  instanceTypes := #[]
  staticTypes := #[]
  resolved := Array.replicate 251 none
  statics := none }

def pool14 : Array CpInfo := pool [(1, .methodref 2 3), (0, .class_ 4), (0, .nameAndType 5 6), (0, u "java/util/AbstractCollection"), (0, u "<init>"), (0, u "()V"), (0, .fieldref 8 9), (0, .class_ 10), (0, .nameAndType 11 12), (0, u "java/util/AbstractList"), (0, u "modCount"), (0, u "I"), (64, .class_ 78), (0, u "java/util/AbstractList$Itr"), (3, .class_ 83), (0, u "java/util/AbstractList$ListItr"), (9, .class_ 94), (0, u "java/util/AbstractList$RandomAccessSubList"), (3, .class_ 99), (0, u "java/util/AbstractList$SubList"), (33, .class_ 134), (0, u "java/util/List"), (73, .class_ 209), (0, u "java/util/AbstractList$SubList$1"), (0, .class_ 211), (0, u "java/util/AbstractList$RandomAccessSpliterator")] 6

def k14c0 : Code := { maxStack := 2, maxLocals := 1, code := jdk_39_method_1_code, exceptionTable := #[], attributes := #[] }
def k14m0 : Method := { name := "<init>", desc := "()V", sig := { parameters := [], returnType := none }, accessFlags := 4, code := some k14c0 }
/-- java/util/AbstractList -/
def k14 : Class := { plain "java/util/AbstractList" (some 11) with
  accessFlags := 1057
  interfaces := #[13]
  cf := some (fileOf pool14 8 #[.nestMembers #[93, 98, 208, 210, 82, 77]] #[{ accessFlags := 4, nameIndex := 5, descriptorIndex := 6, attributes := #[] }] 1057 2 #[133] #[{ accessFlags := 132, nameIndex := 11, descriptorIndex := 12, attributes := #[] }])
  fields := #[{ name := "modCount", type := .int, accessFlags := 132, slot := 0, constantValue := 0 }]
  methods := #[k14m0]
  instanceTypes := #[.int]
  staticTypes := #[]
  resolved := Array.replicate 218 none
  statics := none }

def pool15 : Array CpInfo := pool [(1, .class_ 2), (0, u "java/util/RandomAccess"), (0, .class_ 4), (0, u "java/lang/Object")] 2

/-- java/util/RandomAccess -/
def k15 : Class := { plain "java/util/RandomAccess" (some 0) with
  accessFlags := 1537
  interfaces := #[]
  cf := some (fileOf pool15 1 #[] #[] 1537 3 #[] #[])
  fields := #[]
  methods := #[]
  instanceTypes := #[]
  staticTypes := #[]
  resolved := Array.replicate 7 none
  statics := none }

def pool16 : Array CpInfo := pool [(1, .class_ 2), (0, u "java/lang/Cloneable"), (0, .class_ 4), (0, u "java/lang/Object")] 2

/-- java/lang/Cloneable -/
def k16 : Class := { plain "java/lang/Cloneable" (some 0) with
  accessFlags := 1537
  interfaces := #[]
  cf := some (fileOf pool16 1 #[] #[] 1537 3 #[] #[])
  fields := #[]
  methods := #[]
  instanceTypes := #[]
  staticTypes := #[]
  resolved := Array.replicate 7 none
  statics := none }

def pool17 : Array CpInfo := pool [(1, .methodref 2 3), (0, .class_ 4), (0, .nameAndType 5 6), (0, u "java/util/AbstractList"), (0, u "<init>"), (0, u "()V"), (0, .class_ 8), (0, u "java/lang/Object"), (0, .fieldref 10 11), (0, .class_ 12), (0, .nameAndType 13 14), (0, u "java/util/ArrayList"), (0, u "elementData"), (0, u "[Ljava/lang/Object;"), (2, u "EMPTY_ELEMENTDATA"), (21, .fieldref 10 40), (0, .nameAndType 41 14), (0, u "DEFAULTCAPACITY_EMPTY_ELEMENTDATA"), (4, u "toArray"), (0, u "()[Ljava/lang/Object;"), (0, .fieldref 10 49), (0, .nameAndType 50 51), (0, u "size"), (0, u "I"), (6, .class_ 60), (1, u "java/util/Arrays"), (0, u "copyOf"), (1, .fieldref 10 64), (0, .nameAndType 65 51), (0, u "modCount"), (0, .methodref 58 67), (0, .nameAndType 61 68), (0, u "([Ljava/lang/Object;I)[Ljava/lang/Object;"), (0, .methodref 10 70), (0, .nameAndType 71 72), (0, u "grow"), (0, u "(I)[Ljava/lang/Object;"), (6, .methodref 80 81), (0, .class_ 82), (0, .nameAndType 83 84), (0, u "java/lang/Math"), (0, u "max"), (0, u "(II)I"), (11, u "(Ljava/lang/Object;)Z"), (32, .methodref 10 130), (0, .nameAndType 71 47), (0, .methodref 10 132), (0, .nameAndType 133 134), (0, u "add"), (0, u "(Ljava/lang/Object;[Ljava/lang/Object;I)V"), (13, .class_ 149), (0, u "java/util/List"), (23, u "()Z"), (88, .class_ 263), (0, u "java/util/ArrayList$ListItr"), (3, .class_ 268), (0, u "java/util/ArrayList$Itr"), (7, .class_ 277), (0, u "java/util/ArrayList$SubList"), (12, .class_ 291), (0, u "java/util/ArrayList$ArrayListSpliterator"), (37, .class_ 330), (0, u "java/util/RandomAccess"), (0, .class_ 332), (0, u "java/lang/Cloneable"), (0, .class_ 334), (0, u "java/io/Serializable"), (0, u "serialVersionUID"), (0, u "J"), (3, u "DEFAULT_CAPACITY"), (22, u "isEmpty"), (136, .class_ 501), (0, u "java/util/ArrayList$SubList$2"), (0, .class_ 503), (0, u "java/util/ArrayList$SubList$1")] 5

def k17c0 : Code := { maxStack := 2, maxLocals := 1, code := jdk_38_method_2_code, exceptionTable := #[], attributes := #[] }
def k17m0 : Method := { name := "<init>", desc := "()V", sig := { parameters := [], returnType := none }, accessFlags := 1, code := some k17c0 }
def k17c1 : Code := { maxStack := 4, maxLocals := 4, code := jdk_38_method_6_code, exceptionTable := #[], attributes := #[] }
def k17m1 : Method := { name := "grow", desc := "(I)[Ljava/lang/Object;", sig := { parameters := [.int], returnType := some (.array (.object "java/lang/Object")) }, accessFlags := 2, code := some k17c1 }
def k17c2 : Code := { maxStack := 3, maxLocals := 1, code := jdk_38_method_7_code, exceptionTable := #[], attributes := #[] }
def k17m2 : Method := { name := "grow", desc := "()[Ljava/lang/Object;", sig := { parameters := [], returnType := some (.array (.object "java/lang/Object")) }, accessFlags := 2, code := some k17c2 }
def k17c3 : Code := { maxStack := 1, maxLocals := 1, code := jdk_38_method_9_code, exceptionTable := #[], attributes := #[] }
def k17m3 : Method := { name := "isEmpty", desc := "()Z", sig := { parameters := [], returnType := some .boolean }, accessFlags := 1, code := some k17c3 }
def k17c4 : Code := { maxStack := 2, maxLocals := 1, code := jdk_38_method_16_code, exceptionTable := #[], attributes := #[] }
def k17m4 : Method := { name := "toArray", desc := "()[Ljava/lang/Object;", sig := { parameters := [], returnType := some (.array (.object "java/lang/Object")) }, accessFlags := 1, code := some k17c4 }
def k17c5 : Code := { maxStack := 3, maxLocals := 4, code := jdk_38_method_24_code, exceptionTable := #[], attributes := #[] }
def k17m5 : Method := { name := "add", desc := "(Ljava/lang/Object;[Ljava/lang/Object;I)V", sig := { parameters := [(.object "java/lang/Object"), (.array (.object "java/lang/Object")), .int], returnType := none }, accessFlags := 2, code := some k17c5 }
def k17c6 : Code := { maxStack := 4, maxLocals := 2, code := jdk_38_method_25_code, exceptionTable := #[], attributes := #[] }
def k17m6 : Method := { name := "add", desc := "(Ljava/lang/Object;)Z", sig := { parameters := [(.object "java/lang/Object")], returnType := some .boolean }, accessFlags := 1, code := some k17c6 }
/-- java/util/ArrayList -/
def k17 : Class := { plain "java/util/ArrayList" (some 14) with
  accessFlags := 33
  interfaces := #[13, 15, 16, 2]
  cf := some (fileOf pool17 10 #[.nestMembers #[290, 276, 500, 502, 262, 267]] #[{ accessFlags := 1, nameIndex := 5, descriptorIndex := 6, attributes := #[] }, { accessFlags := 2, nameIndex := 71, descriptorIndex := 72, attributes := #[] }, { accessFlags := 2, nameIndex := 71, descriptorIndex := 47, attributes := #[] }, { accessFlags := 1, nameIndex := 363, descriptorIndex := 173, attributes := #[] }, { accessFlags := 1, nameIndex := 46, descriptorIndex := 47, attributes := #[] }, { accessFlags := 2, nameIndex := 133, descriptorIndex := 134, attributes := #[] }, { accessFlags := 1, nameIndex := 133, descriptorIndex := 96, attributes := #[] }] 33 2 #[148, 329, 331, 333] #[{ accessFlags := 26, nameIndex := 335, descriptorIndex := 336, attributes := #[] }, { accessFlags := 26, nameIndex := 340, descriptorIndex := 51, attributes := #[] }, { accessFlags := 26, nameIndex := 17, descriptorIndex := 14, attributes := #[] }, { accessFlags := 26, nameIndex := 41, descriptorIndex := 14, attributes := #[] }, { accessFlags := 128, nameIndex := 13, descriptorIndex := 14, attributes := #[] }, { accessFlags := 2, nameIndex := 50, descriptorIndex := 51, attributes := #[] }])
  fields := #[{ name := "serialVersionUID", type := .long, accessFlags := 26, slot := 0, constantValue := 0 }, { name := "DEFAULT_CAPACITY", type := .int, accessFlags := 26, slot := 1, constantValue := 0 }, { name := "EMPTY_ELEMENTDATA", type := (.array (.object "java/lang/Object")), accessFlags := 26, slot := 2, constantValue := 0 }, { name := "DEFAULTCAPACITY_EMPTY_ELEMENTDATA", type := (.array (.object "java/lang/Object")), accessFlags := 26, slot := 3, constantValue := 0 }, { name := "elementData", type := (.array (.object "java/lang/Object")), accessFlags := 128, slot := 1, constantValue := 0 }, { name := "size", type := .int, accessFlags := 2, slot := 2, constantValue := 0 }]
  methods := #[k17m0, k17m1, k17m2, k17m3, k17m4, k17m5, k17m6]
  instanceTypes := #[.int, (.array (.object "java/lang/Object")), .int]
  staticTypes := #[.long, .int, (.array (.object "java/lang/Object")), (.array (.object "java/lang/Object"))]
  resolved := Array.replicate 509 none
  statics := some 1 }

def pool18 : Array CpInfo := pool [(1, .methodref 2 3), (0, .class_ 4), (0, .nameAndType 5 6), (0, u "java/lang/Object"), (0, u "<init>"), (0, u "()V"), (0, .class_ 8), (0, u "java/lang/Record")] 13

def k18c0 : Code := { maxStack := 1, maxLocals := 1, code := jdk_30_method_1_code, exceptionTable := #[], attributes := #[] }
def k18m0 : Method := { name := "<init>", desc := "()V", sig := { parameters := [], returnType := none }, accessFlags := 4, code := some k18c0 }
/-- java/lang/Record -/
def k18 : Class := { plain "java/lang/Record" (some 0) with
  accessFlags := 1057
  interfaces := #[]
  cf := some (fileOf pool18 7 #[] #[{ accessFlags := 4, nameIndex := 5, descriptorIndex := 6, attributes := #[] }] 1057 2 #[] #[])
  fields := #[]
  methods := #[k18m0]
  instanceTypes := #[]
  staticTypes := #[]
  resolved := Array.replicate 22 none
  statics := none }

def pool19 : Array CpInfo := pool [(1, .methodref 2 3), (0, .class_ 4), (0, .nameAndType 5 6), (0, u "java/lang/Record"), (0, u "<init>"), (0, u "()V"), (9, .interfaceMethodref 17 18), (0, .class_ 19), (0, .nameAndType 20 21), (0, u "java/util/List"), (0, u "copyOf"), (0, u "(Ljava/util/Collection;)Ljava/util/List;"), (0, .fieldref 23 24), (0, .class_ 25), (0, .nameAndType 26 27), (0, u "com/example/modwright/modwright/script/Directive"), (0, u "name"), (0, u "Ljava/lang/String;"), (0, .fieldref 23 29), (0, .nameAndType 30 31), (0, u "line"), (0, u "I"), (0, .fieldref 23 33), (0, .nameAndType 34 35), (0, u "arguments"), (0, u "Ljava/util/List;"), (0, .fieldref 23 37), (0, .nameAndType 38 35), (0, u "block"), (15, u "(Ljava/lang/String;ILjava/util/List;Ljava/util/List;)V"), (7, u "hasBlock"), (0, u "()Z"), (3, u "()Ljava/util/List;")] 33

def k19c0 : Code := { maxStack := 3, maxLocals := 5, code := prog_45_method_1_code, exceptionTable := #[], attributes := #[] }
def k19m0 : Method := { name := "<init>", desc := "(Ljava/lang/String;ILjava/util/List;Ljava/util/List;)V", sig := { parameters := [(.object "java/lang/String"), .int, (.object "java/util/List"), (.object "java/util/List")], returnType := none }, accessFlags := 1, code := some k19c0 }
def k19c1 : Code := { maxStack := 2, maxLocals := 1, code := prog_45_method_2_code, exceptionTable := #[], attributes := #[] }
def k19m1 : Method := { name := "hasBlock", desc := "()Z", sig := { parameters := [], returnType := some .boolean }, accessFlags := 1, code := some k19c1 }
def k19c2 : Code := { maxStack := 1, maxLocals := 1, code := prog_45_method_9_code, exceptionTable := #[], attributes := #[] }
def k19m2 : Method := { name := "block", desc := "()Ljava/util/List;", sig := { parameters := [], returnType := some (.object "java/util/List") }, accessFlags := 1, code := some k19c2 }
/-- com/example/modwright/modwright/script/Directive -/
def k19 : Class := { plain "com/example/modwright/modwright/script/Directive" (some 18) with
  accessFlags := 49
  interfaces := #[]
  cf := some (fileOf pool19 23 #[] #[{ accessFlags := 1, nameIndex := 5, descriptorIndex := 54, attributes := #[] }, { accessFlags := 1, nameIndex := 62, descriptorIndex := 63, attributes := #[] }, { accessFlags := 1, nameIndex := 38, descriptorIndex := 67, attributes := #[] }] 49 2 #[] #[{ accessFlags := 18, nameIndex := 26, descriptorIndex := 27, attributes := #[] }, { accessFlags := 18, nameIndex := 30, descriptorIndex := 31, attributes := #[] }, { accessFlags := 18, nameIndex := 34, descriptorIndex := 35, attributes := #[] }, { accessFlags := 18, nameIndex := 38, descriptorIndex := 35, attributes := #[] }])
  fields := #[{ name := "name", type := (.object "java/lang/String"), accessFlags := 18, slot := 0, constantValue := 0 }, { name := "line", type := .int, accessFlags := 18, slot := 1, constantValue := 0 }, { name := "arguments", type := (.object "java/util/List"), accessFlags := 18, slot := 2, constantValue := 0 }, { name := "block", type := (.object "java/util/List"), accessFlags := 18, slot := 3, constantValue := 0 }]
  methods := #[k19m0, k19m1, k19m2]
  instanceTypes := #[(.object "java/lang/String"), .int, (.object "java/util/List"), (.object "java/util/List")]
  staticTypes := #[]
  resolved := Array.replicate 101 none
  statics := none }

def pool20 : Array CpInfo := pool [(2, .class_ 4), (1, u "java/lang/Object"), (0, u "<init>"), (0, u "()V"), (3, .class_ 11), (0, u "java/util/ImmutableCollections$List12"), (0, .class_ 13), (0, u "java/util/ImmutableCollections$ListN"), (3, u "Z"), (0, .class_ 19), (0, u "java/util/List"), (0, .interfaceMethodref 21 22), (0, .class_ 23), (0, .nameAndType 24 25), (0, u "java/util/Collection"), (0, u "isEmpty"), (0, u "()Z"), (0, .interfaceMethodref 18 27), (0, .nameAndType 28 29), (0, u "of"), (0, u "()Ljava/util/List;"), (0, .interfaceMethodref 21 31), (0, .nameAndType 32 33), (0, u "toArray"), (0, u "()[Ljava/lang/Object;"), (0, .interfaceMethodref 18 35), (0, .nameAndType 28 36), (0, u "([Ljava/lang/Object;)Ljava/util/List;"), (0, .methodref 38 39), (0, .class_ 40), (0, .nameAndType 41 42), (0, u "java/util/Objects"), (0, u "requireNonNull"), (0, u "(Ljava/lang/Object;)Ljava/lang/Object;"), (0, .methodref 12 44), (0, .nameAndType 5 45), (0, u "([Ljava/lang/Object;Z)V"), (1, .class_ 49), (1, u "java/util/ImmutableCollections"), (0, u "$assertionsDisabled"), (5, u "[Ljava/lang/Object;"), (5, u "EMPTY_LIST"), (0, u "Ljava/util/ImmutableCollections$ListN;"), (8, u "EMPTY_LIST_NULLS"), (22, u "SALT32L"), (0, u "J"), (2, u "REVERSE"), (6, u "archivedObjects"), (2, u "EMPTY"), (0, u "Ljava/lang/Object;"), (0, .class_ 112), (0, u "java/util/ImmutableCollections$SetN"), (5, u "EMPTY_SET"), (0, u "Ljava/util/ImmutableCollections$SetN;"), (0, .class_ 121), (0, u "java/util/ImmutableCollections$MapN"), (3, u "EMPTY_MAP"), (0, u "Ljava/util/ImmutableCollections$MapN;"), (4, u "EXPAND_FACTOR"), (0, u "I"), (9, u "listCopy"), (0, u "(Ljava/util/Collection;)Ljava/util/List;"), (7, u "listFromArray"), (17, .class_ 170), (0, u "java/util/ImmutableCollections$MapN$MapNIterator"), (0, .class_ 172), (0, u "java/util/ImmutableCollections$MapN$1"), (0, .class_ 174), (0, u "java/util/ImmutableCollections$Map1"), (0, .class_ 176), (0, u "java/util/ImmutableCollections$AbstractImmutableMap"), (0, .class_ 178), (0, u "java/util/ImmutableCollections$SetN$SetNIterator"), (0, .class_ 180), (0, u "java/util/ImmutableCollections$Set12"), (0, .class_ 182), (0, u "java/util/ImmutableCollections$Set12$1"), (0, .class_ 184), (0, u "java/util/ImmutableCollections$AbstractImmutableSet"), (0, .class_ 186), (0, u "java/util/ImmutableCollections$SubList"), (0, .class_ 188), (0, u "java/util/ImmutableCollections$ListItr"), (0, .class_ 190), (0, u "java/util/ImmutableCollections$AbstractImmutableList"), (0, .class_ 192), (0, u "java/util/ImmutableCollections$AbstractImmutableCollection"), (0, .class_ 194), (0, u "java/util/ImmutableCollections$Access"), (0, .class_ 196), (0, u "java/util/ImmutableCollections$Access$1")] 16

def k20m0 : Method := { name := "<init>", desc := "()V", sig := { parameters := [], returnType := none }, accessFlags := 2, code := none }
def k20c1 : Code := { maxStack := 1, maxLocals := 2, code := jdk_56_method_3_code, exceptionTable := #[], attributes := #[] }
def k20m1 : Method := { name := "listCopy", desc := "(Ljava/util/Collection;)Ljava/util/List;", sig := { parameters := [(.object "java/util/Collection")], returnType := some (.object "java/util/List") }, accessFlags := 8, code := some k20c1 }
def k20c2 : Code := { maxStack := 4, maxLocals := 3, code := jdk_56_method_4_code, exceptionTable := #[], attributes := #[] }
def k20m2 : Method := { name := "listFromArray", desc := "([Ljava/lang/Object;)Ljava/util/List;", sig := { parameters := [(.array (.object "java/lang/Object"))], returnType := some (.object "java/util/List") }, accessFlags := 136, code := some k20c2 }
/-- java/util/ImmutableCollections -/
def k20 : Class := { plain "java/util/ImmutableCollections" (some 0) with
  accessFlags := 32
  interfaces := #[]
  cf := some (fileOf pool20 47 #[.nestMembers #[120, 169, 171, 173, 175, 111, 177, 179, 181, 183, 12, 10, 185, 187, 189, 191, 193, 195]] #[{ accessFlags := 2, nameIndex := 5, descriptorIndex := 6, attributes := #[] }, { accessFlags := 8, nameIndex := 142, descriptorIndex := 143, attributes := #[] }, { accessFlags := 136, nameIndex := 151, descriptorIndex := 36, attributes := #[] }] 32 2 #[] #[{ accessFlags := 26, nameIndex := 95, descriptorIndex := 96, attributes := #[] }, { accessFlags := 26, nameIndex := 99, descriptorIndex := 17, attributes := #[] }, { accessFlags := 10, nameIndex := 106, descriptorIndex := 56, attributes := #[] }, { accessFlags := 26, nameIndex := 109, descriptorIndex := 110, attributes := #[] }, { accessFlags := 24, nameIndex := 62, descriptorIndex := 63, attributes := #[] }, { accessFlags := 24, nameIndex := 72, descriptorIndex := 63, attributes := #[] }, { accessFlags := 24, nameIndex := 118, descriptorIndex := 119, attributes := #[] }, { accessFlags := 24, nameIndex := 125, descriptorIndex := 126, attributes := #[] }, { accessFlags := 24, nameIndex := 131, descriptorIndex := 132, attributes := #[] }, { accessFlags := 4120, nameIndex := 50, descriptorIndex := 17, attributes := #[] }])
  fields := #[{ name := "SALT32L", type := .long, accessFlags := 26, slot := 0, constantValue := 0 }, { name := "REVERSE", type := .boolean, accessFlags := 26, slot := 1, constantValue := 0 }, { name := "archivedObjects", type := (.array (.object "java/lang/Object")), accessFlags := 10, slot := 2, constantValue := 0 }, { name := "EMPTY", type := (.object "java/lang/Object"), accessFlags := 26, slot := 3, constantValue := 0 }, { name := "EMPTY_LIST", type := (.object "java/util/ImmutableCollections$ListN"), accessFlags := 24, slot := 4, constantValue := 0 }, { name := "EMPTY_LIST_NULLS", type := (.object "java/util/ImmutableCollections$ListN"), accessFlags := 24, slot := 5, constantValue := 0 }, { name := "EMPTY_SET", type := (.object "java/util/ImmutableCollections$SetN"), accessFlags := 24, slot := 6, constantValue := 0 }, { name := "EMPTY_MAP", type := (.object "java/util/ImmutableCollections$MapN"), accessFlags := 24, slot := 7, constantValue := 0 }, { name := "EXPAND_FACTOR", type := .int, accessFlags := 24, slot := 8, constantValue := 0 }, { name := "$assertionsDisabled", type := .boolean, accessFlags := 4120, slot := 9, constantValue := 0 }]
  methods := #[k20m0, k20m1, k20m2]
  instanceTypes := #[]
  staticTypes := #[.long, .boolean, (.array (.object "java/lang/Object")), (.object "java/lang/Object"), (.object "java/util/ImmutableCollections$ListN"), (.object "java/util/ImmutableCollections$ListN"), (.object "java/util/ImmutableCollections$SetN"), (.object "java/util/ImmutableCollections$MapN"), .int, .boolean]
  resolved := Array.replicate 213 none
  statics := some 2 }

def pool21 : Array CpInfo := pool [(1, .methodref 2 3), (0, .class_ 4), (0, .nameAndType 5 6), (0, u "java/util/AbstractCollection"), (0, u "<init>"), (0, u "()V"), (1, .class_ 10), (1, u "java/util/ImmutableCollections"), (2, .class_ 14), (0, u "java/util/ImmutableCollections$AbstractImmutableCollection")] 41

def k21c0 : Code := { maxStack := 1, maxLocals := 1, code := jdk_47_method_1_code, exceptionTable := #[], attributes := #[] }
def k21m0 : Method := { name := "<init>", desc := "()V", sig := { parameters := [], returnType := none }, accessFlags := 0, code := some k21c0 }
/-- java/util/ImmutableCollections$AbstractImmutableCollection -/
def k21 : Class := { plain "java/util/ImmutableCollections$AbstractImmutableCollection" (some 11) with
  accessFlags := 1056
  interfaces := #[]
  cf := some (fileOf pool21 13 #[.nestHost 8] #[{ accessFlags := 0, nameIndex := 5, descriptorIndex := 6, attributes := #[] }] 1056 2 #[] #[])
  fields := #[]
  methods := #[k21m0]
  instanceTypes := #[]
  staticTypes := #[]
  resolved := Array.replicate 56 none
  statics := none }

def pool22 : Array CpInfo := pool [(1, .methodref 2 3), (0, .class_ 4), (0, .nameAndType 5 6), (0, u "java/util/ImmutableCollections$AbstractImmutableCollection"), (0, u "<init>"), (0, u "()V"), (1, .class_ 10), (1, u "java/util/ImmutableCollections"), (3, .class_ 16), (1, u "java/util/ImmutableCollections$AbstractImmutableList"), (60, .class_ 78), (0, u "java/util/List"), (45, .class_ 125), (0, u "java/util/RandomAccess")] 70

def k22c0 : Code := { maxStack := 1, maxLocals := 1, code := jdk_46_method_1_code, exceptionTable := #[], attributes := #[] }
def k22m0 : Method := { name := "<init>", desc := "()V", sig := { parameters := [], returnType := none }, accessFlags := 0, code := some k22c0 }
/-- java/util/ImmutableCollections$AbstractImmutableList -/
def k22 : Class := { plain "java/util/ImmutableCollections$AbstractImmutableList" (some 21) with
  accessFlags := 1056
  interfaces := #[13, 15]
  cf := some (fileOf pool22 14 #[.nestHost 8] #[{ accessFlags := 0, nameIndex := 5, descriptorIndex := 6, attributes := #[] }] 1056 2 #[77, 124] #[])
  fields := #[]
  methods := #[k22m0]
  instanceTypes := #[]
  staticTypes := #[]
  resolved := Array.replicate 196 none
  statics := none }

def pool23 : Array CpInfo := pool [(1, .methodref 2 3), (0, .class_ 4), (0, .nameAndType 5 6), (0, u "java/util/ImmutableCollections$AbstractImmutableList"), (0, u "<init>"), (0, u "()V"), (0, .methodref 8 9), (0, .class_ 10), (0, .nameAndType 11 12), (0, u "java/util/Objects"), (0, u "requireNonNull"), (0, u "(Ljava/lang/Object;)Ljava/lang/Object;"), (0, .fieldref 14 15), (0, .class_ 16), (0, .nameAndType 17 18), (0, u "java/util/ImmutableCollections$List12"), (0, u "e0"), (0, u "Ljava/lang/Object;"), (0, .fieldref 20 21), (0, .class_ 22), (0, .nameAndType 23 18), (0, u "java/util/ImmutableCollections"), (0, u "EMPTY"), (0, .fieldref 14 25), (0, .nameAndType 26 18), (0, u "e1"), (43, .class_ 71), (0, u "java/io/Serializable"), (4, u "(Ljava/lang/Object;)V"), (8, u "(Ljava/lang/Object;Ljava/lang/Object;)V")] 39

def k23c0 : Code := { maxStack := 2, maxLocals := 2, code := jdk_44_method_1_code, exceptionTable := #[], attributes := #[] }
def k23m0 : Method := { name := "<init>", desc := "(Ljava/lang/Object;)V", sig := { parameters := [(.object "java/lang/Object")], returnType := none }, accessFlags := 0, code := some k23c0 }
def k23c1 : Code := { maxStack := 2, maxLocals := 3, code := jdk_44_method_2_code, exceptionTable := #[], attributes := #[] }
def k23m1 : Method := { name := "<init>", desc := "(Ljava/lang/Object;Ljava/lang/Object;)V", sig := { parameters := [(.object "java/lang/Object"), (.object "java/lang/Object")], returnType := none }, accessFlags := 0, code := some k23c1 }
/-- java/util/ImmutableCollections$List12 -/
def k23 : Class := { plain "java/util/ImmutableCollections$List12" (some 22) with
  accessFlags := 48
  interfaces := #[2]
  cf := some (fileOf pool23 14 #[.nestHost 20] #[{ accessFlags := 0, nameIndex := 5, descriptorIndex := 76, attributes := #[] }, { accessFlags := 0, nameIndex := 5, descriptorIndex := 85, attributes := #[] }] 48 2 #[70] #[{ accessFlags := 18, nameIndex := 17, descriptorIndex := 18, attributes := #[] }, { accessFlags := 18, nameIndex := 26, descriptorIndex := 18, attributes := #[] }])
  fields := #[{ name := "e0", type := (.object "java/lang/Object"), accessFlags := 18, slot := 0, constantValue := 0 }, { name := "e1", type := (.object "java/lang/Object"), accessFlags := 18, slot := 1, constantValue := 0 }]
  methods := #[k23m0, k23m1]
  instanceTypes := #[(.object "java/lang/Object"), (.object "java/lang/Object")]
  staticTypes := #[]
  resolved := Array.replicate 125 none
  statics := none }

def pool24 : Array CpInfo := pool [(1, .methodref 2 3), (0, .class_ 4), (0, .nameAndType 5 6), (0, u "java/util/ImmutableCollections$AbstractImmutableList"), (0, u "<init>"), (0, u "()V"), (0, .fieldref 8 9), (0, .class_ 10), (0, .nameAndType 11 12), (0, u "java/util/ImmutableCollections$ListN"), (0, u "elements"), (0, u "[Ljava/lang/Object;"), (0, .fieldref 8 14), (0, .nameAndType 15 16), (0, u "allowNulls"), (0, u "Z"), (42, .class_ 60), (0, u "java/io/Serializable"), (4, u "([Ljava/lang/Object;Z)V"), (48, .class_ 115), (0, u "java/util/ImmutableCollections")] 3

def k24c0 : Code := { maxStack := 2, maxLocals := 3, code := jdk_45_method_1_code, exceptionTable := #[], attributes := #[] }
def k24m0 : Method := { name := "<init>", desc := "([Ljava/lang/Object;Z)V", sig := { parameters := [(.array (.object "java/lang/Object")), .boolean], returnType := none }, accessFlags := 2, code := some k24c0 }
/-- java/util/ImmutableCollections$ListN -/
def k24 : Class := { plain "java/util/ImmutableCollections$ListN" (some 22) with
  accessFlags := 48
  interfaces := #[2]
  cf := some (fileOf pool24 8 #[.nestHost 114] #[{ accessFlags := 2, nameIndex := 5, descriptorIndex := 65, attributes := #[] }] 48 2 #[59] #[{ accessFlags := 18, nameIndex := 11, descriptorIndex := 12, attributes := #[] }, { accessFlags := 18, nameIndex := 15, descriptorIndex := 16, attributes := #[] }])
  fields := #[{ name := "elements", type := (.array (.object "java/lang/Object")), accessFlags := 18, slot := 0, constantValue := 0 }, { name := "allowNulls", type := .boolean, accessFlags := 18, slot := 1, constantValue := 0 }]
  methods := #[k24m0]
  instanceTypes := #[(.array (.object "java/lang/Object")), .boolean]
  staticTypes := #[]
  resolved := Array.replicate 119 none
  statics := none }

def pool25 : Array CpInfo := pool [(1, .class_ 2), (0, u "java/lang/Math"), (1, .class_ 6), (1, u "java/lang/Object"), (0, u "<init>"), (0, u "()V"), (89, .class_ 100), (1, u "java/lang/Math$RandomNumberGeneratorHolder"), (71, u "negativeZeroFloatBits"), (0, u "J"), (2, u "negativeZeroDoubleBits"), (21, u "max"), (2, u "min"), (43, u "$assertionsDisabled"), (0, u "Z"), (88, u "(II)I"), (2, u "twoToTheDoubleScaleDown"), (0, u "D"), (4, u "twoToTheDoubleScaleUp"), (9, u "E"), (3, u "PI"), (2, u "TAU"), (2, u "DEGREES_TO_RADIANS"), (0, u "RADIANS_TO_DEGREES")] 94

def k25m0 : Method := { name := "<init>", desc := "()V", sig := { parameters := [], returnType := none }, accessFlags := 2, code := none }
def k25c1 : Code := { maxStack := 2, maxLocals := 2, code := jdk_29_method_65_code, exceptionTable := #[], attributes := #[] }
def k25m1 : Method := { name := "max", desc := "(II)I", sig := { parameters := [.int, .int], returnType := some .int }, accessFlags := 9, code := some k25c1 }
def k25c2 : Code := { maxStack := 2, maxLocals := 2, code := jdk_29_method_69_code, exceptionTable := #[], attributes := #[] }
def k25m2 : Method := { name := "min", desc := "(II)I", sig := { parameters := [.int, .int], returnType := some .int }, accessFlags := 9, code := some k25c2 }
/-- java/lang/Math -/
def k25 : Class := { plain "java/lang/Math" (some 0) with
  accessFlags := 49
  interfaces := #[]
  cf := some (fileOf pool25 1 #[.nestMembers #[98]] #[{ accessFlags := 2, nameIndex := 7, descriptorIndex := 8, attributes := #[] }, { accessFlags := 9, nameIndex := 198, descriptorIndex := 335, attributes := #[] }, { accessFlags := 9, nameIndex := 201, descriptorIndex := 335, attributes := #[] }] 49 4 #[] #[{ accessFlags := 25, nameIndex := 354, descriptorIndex := 339, attributes := #[] }, { accessFlags := 25, nameIndex := 358, descriptorIndex := 339, attributes := #[] }, { accessFlags := 25, nameIndex := 361, descriptorIndex := 339, attributes := #[] }, { accessFlags := 26, nameIndex := 364, descriptorIndex := 339, attributes := #[] }, { accessFlags := 26, nameIndex := 365, descriptorIndex := 339, attributes := #[] }, { accessFlags := 26, nameIndex := 172, descriptorIndex := 173, attributes := #[] }, { accessFlags := 26, nameIndex := 176, descriptorIndex := 173, attributes := #[] }, { accessFlags := 8, nameIndex := 344, descriptorIndex := 339, attributes := #[] }, { accessFlags := 8, nameIndex := 338, descriptorIndex := 339, attributes := #[] }, { accessFlags := 4120, nameIndex := 245, descriptorIndex := 246, attributes := #[] }])
  fields := #[{ name := "E", type := .double, accessFlags := 25, slot := 0, constantValue := 0 }, { name := "PI", type := .double, accessFlags := 25, slot := 1, constantValue := 0 }, { name := "TAU", type := .double, accessFlags := 25, slot := 2, constantValue := 0 }, { name := "DEGREES_TO_RADIANS", type := .double, accessFlags := 26, slot := 3, constantValue := 0 }, { name := "RADIANS_TO_DEGREES", type := .double, accessFlags := 26, slot := 4, constantValue := 0 }, { name := "negativeZeroFloatBits", type := .long, accessFlags := 26, slot := 5, constantValue := 0 }, { name := "negativeZeroDoubleBits", type := .long, accessFlags := 26, slot := 6, constantValue := 0 }, { name := "twoToTheDoubleScaleUp", type := .double, accessFlags := 8, slot := 7, constantValue := 0 }, { name := "twoToTheDoubleScaleDown", type := .double, accessFlags := 8, slot := 8, constantValue := 0 }, { name := "$assertionsDisabled", type := .boolean, accessFlags := 4120, slot := 9, constantValue := 0 }]
  methods := #[k25m0, k25m1, k25m2]
  instanceTypes := #[]
  staticTypes := #[.double, .double, .double, .double, .double, .long, .long, .double, .double, .boolean]
  resolved := Array.replicate 460 none
  statics := none }

def pool26 : Array CpInfo := pool [(1, .class_ 2), (0, u "com/example/modwright/modwright/script/Argument"), (0, .class_ 4), (0, u "java/lang/Object"), (5, .class_ 11), (0, u "com/example/modwright/modwright/script/Argument$Mark"), (0, .class_ 13), (0, u "com/example/modwright/modwright/script/Argument$Group"), (0, .class_ 15), (0, u "com/example/modwright/modwright/script/Argument$Variable"), (0, .class_ 17), (0, u "com/example/modwright/modwright/script/Argument$Text"), (0, .class_ 19), (0, u "com/example/modwright/modwright/script/Argument$Text$Piece"), (0, .class_ 21), (0, u "com/example/modwright/modwright/script/Argument$Word")] 8

/-- com/example/modwright/modwright/script/Argument -/
def k26 : Class := { plain "com/example/modwright/modwright/script/Argument" (some 0) with
  accessFlags := 1537
  interfaces := #[]
  cf := some (fileOf pool26 1 #[.nestMembers #[10, 12, 14, 16, 18, 20]] #[] 1537 3 #[] #[])
  fields := #[]
  methods := #[]
  instanceTypes := #[]
  staticTypes := #[]
  resolved := Array.replicate 30 none
  statics := none }

def pool27 : Array CpInfo := pool [(1, .methodref 2 3), (0, .class_ 4), (0, .nameAndType 5 6), (0, u "java/lang/Record"), (0, u "<init>"), (0, u "()V"), (0, .fieldref 8 9), (0, .class_ 10), (0, .nameAndType 11 12), (0, u "com/example/modwright/modwright/script/Argument$Mark"), (0, u "symbol"), (0, u "C"), (0, .fieldref 8 14), (0, .nameAndType 15 16), (0, u "line"), (0, u "I"), (12, .class_ 30), (0, u "com/example/modwright/modwright/script/Argument"), (0, u "(CI)V")] 30

def k27c0 : Code := { maxStack := 2, maxLocals := 3, code := prog_40_method_1_code, exceptionTable := #[], attributes := #[] }
def k27m0 : Method := { name := "<init>", desc := "(CI)V", sig := { parameters := [.char, .int], returnType := none }, accessFlags := 1, code := some k27c0 }
/-- com/example/modwright/modwright/script/Argument$Mark -/
def k27 : Class := { plain "com/example/modwright/modwright/script/Argument$Mark" (some 18) with
  accessFlags := 49
  interfaces := #[26]
  cf := some (fileOf pool27 8 #[.nestHost 29] #[{ accessFlags := 1, nameIndex := 5, descriptorIndex := 31, attributes := #[] }] 49 2 #[29] #[{ accessFlags := 18, nameIndex := 11, descriptorIndex := 12, attributes := #[] }, { accessFlags := 18, nameIndex := 15, descriptorIndex := 16, attributes := #[] }])
  fields := #[{ name := "symbol", type := .char, accessFlags := 18, slot := 0, constantValue := 0 }, { name := "line", type := .int, accessFlags := 18, slot := 1, constantValue := 0 }]
  methods := #[k27m0]
  instanceTypes := #[.char, .int]
  staticTypes := #[]
  resolved := Array.replicate 62 none
  statics := none }

def pool28 : Array CpInfo := pool [(2, .class_ 4), (1, u "java/lang/Object"), (0, u "<init>"), (0, u "()V"), (7, .class_ 16), (1, u "java/util/Arrays"), (57, .class_ 76), (1, u "java/util/Arrays$NaturalOrder"), (9, .methodref 2 87), (0, .nameAndType 88 89), (0, u "getClass"), (0, u "()Ljava/lang/Class;"), (20, .class_ 111), (0, u "[Ljava/lang/Object;"), (1, .class_ 115), (1, u "java/util/Arrays$LegacyMergeSort"), (1, u "Z"), (32, .methodref 151 152), (0, .class_ 153), (0, .nameAndType 154 155), (0, u "java/lang/System"), (0, u "arraycopy"), (0, u "(Ljava/lang/Object;ILjava/lang/Object;II)V"), (144, .methodref 14 301), (0, .nameAndType 302 303), (0, u "copyOf"), (0, u "([Ljava/lang/Object;ILjava/lang/Class;)[Ljava/lang/Object;"), (0, .methodref 305 306), (0, .class_ 307), (0, .nameAndType 308 309), (0, u "java/lang/Math"), (0, u "min"), (0, u "(II)I"), (65, .class_ 376), (0, u "java/util/Arrays$ArrayList"), (68, u "$assertionsDisabled"), (269, u "MIN_ARRAY_SORT_GRAN"), (0, u "I"), (2, u "INSERTIONSORT_THRESHOLD"), (140, u "([Ljava/lang/Object;I)[Ljava/lang/Object;"), (114, .class_ 976), (0, u "java/util/Arrays$ArrayItr")] 52

def k28m0 : Method := { name := "<init>", desc := "()V", sig := { parameters := [], returnType := none }, accessFlags := 2, code := none }
def k28c1 : Code := { maxStack := 3, maxLocals := 2, code := jdk_65_method_119_code, exceptionTable := #[], attributes := #[] }
def k28m1 : Method := { name := "copyOf", desc := "([Ljava/lang/Object;I)[Ljava/lang/Object;", sig := { parameters := [(.array (.object "java/lang/Object")), .int], returnType := some (.array (.object "java/lang/Object")) }, accessFlags := 9, code := some k28c1 }
def k28c2 : Code := { maxStack := 6, maxLocals := 4, code := jdk_65_method_120_code, exceptionTable := #[], attributes := #[] }
def k28m2 : Method := { name := "copyOf", desc := "([Ljava/lang/Object;ILjava/lang/Class;)[Ljava/lang/Object;", sig := { parameters := [(.array (.object "java/lang/Object")), .int, (.object "java/lang/Class")], returnType := some (.array (.object "java/lang/Object")) }, accessFlags := 9, code := some k28c2 }
/-- java/util/Arrays -/
def k28 : Class := { plain "java/util/Arrays" (some 0) with
  accessFlags := 49
  interfaces := #[]
  cf := some (fileOf pool28 14 #[.nestMembers #[975, 375, 113, 74]] #[{ accessFlags := 2, nameIndex := 5, descriptorIndex := 6, attributes := #[] }, { accessFlags := 9, nameIndex := 302, descriptorIndex := 860, attributes := #[] }, { accessFlags := 9, nameIndex := 302, descriptorIndex := 303, attributes := #[] }] 49 2 #[] #[{ accessFlags := 26, nameIndex := 715, descriptorIndex := 716, attributes := #[] }, { accessFlags := 26, nameIndex := 719, descriptorIndex := 716, attributes := #[] }, { accessFlags := 4120, nameIndex := 445, descriptorIndex := 117, attributes := #[] }])
  fields := #[{ name := "MIN_ARRAY_SORT_GRAN", type := .int, accessFlags := 26, slot := 0, constantValue := 0 }, { name := "INSERTIONSORT_THRESHOLD", type := .int, accessFlags := 26, slot := 1, constantValue := 0 }, { name := "$assertionsDisabled", type := .boolean, accessFlags := 4120, slot := 2, constantValue := 0 }]
  methods := #[k28m0, k28m1, k28m2]
  instanceTypes := #[]
  staticTypes := #[.int, .int, .boolean]
  resolved := Array.replicate 1029 none
  statics := none }

def pool29 : Array CpInfo := pool [(2, .class_ 4), (1, u "java/lang/Object"), (0, u "<init>"), (0, u "()V"), (1, .class_ 10), (1, u "java/lang/System"), (0, u "allowSecurityManager"), (0, u "I"), (16, u "cons"), (0, u "Ljava/io/Console;"), (77, .class_ 110), (1, u "java/lang/System$CallersHolder"), (43, u "initialErrStream"), (0, u "Ljava/io/PrintStream;"), (19, u "security"), (0, u "Ljava/lang/SecurityManager;"), (31, .class_ 209), (0, u "java/lang/System$1"), (7, u "props"), (0, u "Ljava/util/Properties;"), (2, u "lineSeparator"), (0, u "Ljava/lang/String;"), (96, .class_ 321), (1, u "java/lang/System$LoggerFinder"), (5, .class_ 328), (0, u "java/lang/System$Logger"), (67, u "err"), (2, u "out"), (91, u "notSupportedJnuEncoding"), (15, u "in"), (17, u "initialIn"), (0, u "Ljava/io/InputStream;"), (35, u "bootLayer"), (0, u "Ljava/lang/ModuleLayer;"), (99, .class_ 664), (0, u "java/lang/System$2"), (9, u "NEVER"), (2, u "MAYBE"), (49, u "arraycopy"), (0, u "(Ljava/lang/Object;ILjava/lang/Object;II)V"), (72, .class_ 802), (0, u "java/lang/System$Logger$Level")] 31

def k29m0 : Method := { name := "<init>", desc := "()V", sig := { parameters := [], returnType := none }, accessFlags := 2, code := none }
def k29m1 : Method := { name := "arraycopy", desc := "(Ljava/lang/Object;ILjava/lang/Object;II)V", sig := { parameters := [(.object "java/lang/Object"), .int, (.object "java/lang/Object"), .int, .int], returnType := none }, accessFlags := 265, code := none }
/-- java/lang/System -/
def k29 : Class := { plain "java/lang/System" (some 0) with
  accessFlags := 49
  interfaces := #[]
  cf := some (fileOf pool29 8 #[.nestMembers #[319, 327, 801, 108, 663, 208]] #[{ accessFlags := 2, nameIndex := 5, descriptorIndex := 6, attributes := #[] }, { accessFlags := 265, nameIndex := 727, descriptorIndex := 728, attributes := #[] }] 49 2 #[] #[{ accessFlags := 25, nameIndex := 507, descriptorIndex := 526, attributes := #[] }, { accessFlags := 25, nameIndex := 399, descriptorIndex := 155, attributes := #[] }, { accessFlags := 25, nameIndex := 396, descriptorIndex := 155, attributes := #[] }, { accessFlags := 10, nameIndex := 525, descriptorIndex := 526, attributes := #[] }, { accessFlags := 26, nameIndex := 674, descriptorIndex := 12, attributes := #[] }, { accessFlags := 26, nameIndex := 677, descriptorIndex := 12, attributes := #[] }, { accessFlags := 10, nameIndex := 11, descriptorIndex := 12, attributes := #[] }, { accessFlags := 74, nameIndex := 175, descriptorIndex := 176, attributes := #[] }, { accessFlags := 10, nameIndex := 491, descriptorIndex := 222, attributes := #[] }, { accessFlags := 74, nameIndex := 29, descriptorIndex := 30, attributes := #[] }, { accessFlags := 74, nameIndex := 154, descriptorIndex := 155, attributes := #[] }, { accessFlags := 10, nameIndex := 217, descriptorIndex := 218, attributes := #[] }, { accessFlags := 10, nameIndex := 221, descriptorIndex := 222, attributes := #[] }, { accessFlags := 8, nameIndex := 562, descriptorIndex := 563, attributes := #[] }])
  fields := #[{ name := "in", type := (.object "java/io/InputStream"), accessFlags := 25, slot := 0, constantValue := 0 }, { name := "out", type := (.object "java/io/PrintStream"), accessFlags := 25, slot := 1, constantValue := 0 }, { name := "err", type := (.object "java/io/PrintStream"), accessFlags := 25, slot := 2, constantValue := 0 }, { name := "initialIn", type := (.object "java/io/InputStream"), accessFlags := 10, slot := 3, constantValue := 0 }, { name := "NEVER", type := .int, accessFlags := 26, slot := 4, constantValue := 0 }, { name := "MAYBE", type := .int, accessFlags := 26, slot := 5, constantValue := 0 }, { name := "allowSecurityManager", type := .int, accessFlags := 10, slot := 6, constantValue := 0 }, { name := "security", type := (.object "java/lang/SecurityManager"), accessFlags := 74, slot := 7, constantValue := 0 }, { name := "notSupportedJnuEncoding", type := (.object "java/lang/String"), accessFlags := 10, slot := 8, constantValue := 0 }, { name := "cons", type := (.object "java/io/Console"), accessFlags := 74, slot := 9, constantValue := 0 }, { name := "initialErrStream", type := (.object "java/io/PrintStream"), accessFlags := 74, slot := 10, constantValue := 0 }, { name := "props", type := (.object "java/util/Properties"), accessFlags := 10, slot := 11, constantValue := 0 }, { name := "lineSeparator", type := (.object "java/lang/String"), accessFlags := 10, slot := 12, constantValue := 0 }, { name := "bootLayer", type := (.object "java/lang/ModuleLayer"), accessFlags := 8, slot := 13, constantValue := 0 }]
  methods := #[k29m0, k29m1]
  instanceTypes := #[]
  staticTypes := #[(.object "java/io/InputStream"), (.object "java/io/PrintStream"), (.object "java/io/PrintStream"), (.object "java/io/InputStream"), .int, .int, .int, (.object "java/lang/SecurityManager"), (.object "java/lang/String"), (.object "java/io/Console"), (.object "java/io/PrintStream"), (.object "java/util/Properties"), (.object "java/lang/String"), (.object "java/lang/ModuleLayer")]
  resolved := Array.replicate 834 none
  statics := none }

def pool30 : Array CpInfo := pool [(2, .class_ 4), (1, u "java/lang/Object"), (0, u "<init>"), (0, u "()V"), (35, .class_ 44), (1, u "java/util/Objects"), (0, u "requireNonNull"), (0, u "(Ljava/lang/Object;)Ljava/lang/Object;")] 137

def k30m0 : Method := { name := "<init>", desc := "()V", sig := { parameters := [], returnType := none }, accessFlags := 2, code := none }
def k30c1 : Code := { maxStack := 2, maxLocals := 1, code := jdk_31_method_10_code, exceptionTable := #[], attributes := #[] }
def k30m1 : Method := { name := "requireNonNull", desc := "(Ljava/lang/Object;)Ljava/lang/Object;", sig := { parameters := [(.object "java/lang/Object")], returnType := some (.object "java/lang/Object") }, accessFlags := 9, code := some k30c1 }
/-- java/util/Objects -/
def k30 : Class := { plain "java/util/Objects" (some 0) with
  accessFlags := 49
  interfaces := #[]
  cf := some (fileOf pool30 42 #[] #[{ accessFlags := 2, nameIndex := 5, descriptorIndex := 6, attributes := #[] }, { accessFlags := 9, nameIndex := 45, descriptorIndex := 46, attributes := #[] }] 49 2 #[] #[])
  fields := #[]
  methods := #[k30m0, k30m1]
  instanceTypes := #[]
  staticTypes := #[]
  resolved := Array.replicate 184 none
  statics := none }

def pool31 : Array CpInfo := pool [(2, .class_ 4), (1, u "java/lang/Object"), (0, u "<init>"), (0, u "()V"), (17, .class_ 26), (1, u "jdk/internal/util/Preconditions"), (28, .class_ 56), (0, u "jdk/internal/util/Preconditions$4"), (57, .class_ 115), (0, u "jdk/internal/util/Preconditions$1"), (7, u "SIOOBE_FORMATTER"), (0, u "Ljava/util/function/BiFunction;"), (0, .class_ 126), (0, u "jdk/internal/util/Preconditions$2"), (3, u "AIOOBE_FORMATTER"), (0, .class_ 132), (0, u "jdk/internal/util/Preconditions$3"), (3, u "IOOBE_FORMATTER")] 57

def k31m0 : Method := { name := "<init>", desc := "()V", sig := { parameters := [], returnType := none }, accessFlags := 1, code := none }
/-- jdk/internal/util/Preconditions -/
def k31 : Class := { plain "jdk/internal/util/Preconditions" (some 0) with
  accessFlags := 33
  interfaces := #[]
  cf := some (fileOf pool31 24 #[.nestMembers #[55, 131, 125, 114]] #[{ accessFlags := 1, nameIndex := 5, descriptorIndex := 6, attributes := #[] }] 33 2 #[] #[{ accessFlags := 25, nameIndex := 123, descriptorIndex := 124, attributes := #[] }, { accessFlags := 25, nameIndex := 130, descriptorIndex := 124, attributes := #[] }, { accessFlags := 25, nameIndex := 136, descriptorIndex := 124, attributes := #[] }])
  fields := #[{ name := "SIOOBE_FORMATTER", type := (.object "java/util/function/BiFunction"), accessFlags := 25, slot := 0, constantValue := 0 }, { name := "AIOOBE_FORMATTER", type := (.object "java/util/function/BiFunction"), accessFlags := 25, slot := 1, constantValue := 0 }, { name := "IOOBE_FORMATTER", type := (.object "java/util/function/BiFunction"), accessFlags := 25, slot := 2, constantValue := 0 }]
  methods := #[k31m0]
  instanceTypes := #[]
  staticTypes := #[(.object "java/util/function/BiFunction"), (.object "java/util/function/BiFunction"), (.object "java/util/function/BiFunction")]
  resolved := Array.replicate 194 none
  statics := some 3 }

def pool32 : Array CpInfo := pool [(9, u "<init>"), (6, .class_ 18), (1, u "java/lang/Object"), (0, u "()V"), (1, .class_ 23), (1, u "jdk/internal/util/ArraysSupport"), (0, u "LOG2_ARRAY_LONG_INDEX_SCALE"), (0, u "I"), (2, u "U"), (0, u "Ljdk/internal/misc/Unsafe;"), (8, u "BIG_ENDIAN"), (0, u "Z"), (8, u "LOG2_BYTE_BIT_SIZE"), (4, u "LOG2_ARRAY_INT_INDEX_SCALE"), (54, u "JLA"), (0, u "Ljdk/internal/access/JavaLangAccess;"), (11, u "LOG2_ARRAY_BOOLEAN_INDEX_SCALE"), (9, u "LOG2_ARRAY_BYTE_INDEX_SCALE"), (5, u "LOG2_ARRAY_CHAR_INDEX_SCALE"), (5, u "LOG2_ARRAY_SHORT_INDEX_SCALE"), (18, u "LOG2_ARRAY_FLOAT_INDEX_SCALE"), (24, u "LOG2_ARRAY_DOUBLE_INDEX_SCALE"), (89, u "T_BOOLEAN"), (2, u "T_CHAR"), (1, u "T_FLOAT"), (1, u "T_DOUBLE"), (1, u "T_BYTE"), (1, u "T_SHORT"), (1, u "T_INT"), (1, u "T_LONG"), (1, u "SOFT_MAX_ARRAY_LENGTH")] 83

def k32m0 : Method := { name := "<init>", desc := "()V", sig := { parameters := [], returnType := none }, accessFlags := 2, code := none }
/-- jdk/internal/util/ArraysSupport -/
def k32 : Class := { plain "jdk/internal/util/ArraysSupport" (some 0) with
  accessFlags := 33
  interfaces := #[]
  cf := some (fileOf pool32 21 #[] #[{ accessFlags := 2, nameIndex := 9, descriptorIndex := 19, attributes := #[] }] 33 16 #[] #[{ accessFlags := 24, nameIndex := 28, descriptorIndex := 29, attributes := #[] }, { accessFlags := 26, nameIndex := 38, descriptorIndex := 39, attributes := #[] }, { accessFlags := 25, nameIndex := 121, descriptorIndex := 25, attributes := #[] }, { accessFlags := 25, nameIndex := 131, descriptorIndex := 25, attributes := #[] }, { accessFlags := 25, nameIndex := 137, descriptorIndex := 25, attributes := #[] }, { accessFlags := 25, nameIndex := 143, descriptorIndex := 25, attributes := #[] }, { accessFlags := 25, nameIndex := 53, descriptorIndex := 25, attributes := #[] }, { accessFlags := 25, nameIndex := 24, descriptorIndex := 25, attributes := #[] }, { accessFlags := 25, nameIndex := 162, descriptorIndex := 25, attributes := #[] }, { accessFlags := 25, nameIndex := 187, descriptorIndex := 25, attributes := #[] }, { accessFlags := 26, nameIndex := 48, descriptorIndex := 25, attributes := #[] }, { accessFlags := 25, nameIndex := 277, descriptorIndex := 25, attributes := #[] }, { accessFlags := 25, nameIndex := 280, descriptorIndex := 25, attributes := #[] }, { accessFlags := 25, nameIndex := 282, descriptorIndex := 25, attributes := #[] }, { accessFlags := 25, nameIndex := 284, descriptorIndex := 25, attributes := #[] }, { accessFlags := 25, nameIndex := 286, descriptorIndex := 25, attributes := #[] }, { accessFlags := 25, nameIndex := 288, descriptorIndex := 25, attributes := #[] }, { accessFlags := 25, nameIndex := 290, descriptorIndex := 25, attributes := #[] }, { accessFlags := 25, nameIndex := 292, descriptorIndex := 25, attributes := #[] }, { accessFlags := 26, nameIndex := 108, descriptorIndex := 109, attributes := #[] }, { accessFlags := 25, nameIndex := 294, descriptorIndex := 25, attributes := #[] }])
  fields := #[{ name := "U", type := (.object "jdk/internal/misc/Unsafe"), accessFlags := 24, slot := 0, constantValue := 0 }, { name := "BIG_ENDIAN", type := .boolean, accessFlags := 26, slot := 1, constantValue := 0 }, { name := "LOG2_ARRAY_BOOLEAN_INDEX_SCALE", type := .int, accessFlags := 25, slot := 2, constantValue := 0 }, { name := "LOG2_ARRAY_BYTE_INDEX_SCALE", type := .int, accessFlags := 25, slot := 3, constantValue := 0 }, { name := "LOG2_ARRAY_CHAR_INDEX_SCALE", type := .int, accessFlags := 25, slot := 4, constantValue := 0 }, { name := "LOG2_ARRAY_SHORT_INDEX_SCALE", type := .int, accessFlags := 25, slot := 5, constantValue := 0 }, { name := "LOG2_ARRAY_INT_INDEX_SCALE", type := .int, accessFlags := 25, slot := 6, constantValue := 0 }, { name := "LOG2_ARRAY_LONG_INDEX_SCALE", type := .int, accessFlags := 25, slot := 7, constantValue := 0 }, { name := "LOG2_ARRAY_FLOAT_INDEX_SCALE", type := .int, accessFlags := 25, slot := 8, constantValue := 0 }, { name := "LOG2_ARRAY_DOUBLE_INDEX_SCALE", type := .int, accessFlags := 25, slot := 9, constantValue := 0 }, { name := "LOG2_BYTE_BIT_SIZE", type := .int, accessFlags := 26, slot := 10, constantValue := 0 }, { name := "T_BOOLEAN", type := .int, accessFlags := 25, slot := 11, constantValue := 0 }, { name := "T_CHAR", type := .int, accessFlags := 25, slot := 12, constantValue := 0 }, { name := "T_FLOAT", type := .int, accessFlags := 25, slot := 13, constantValue := 0 }, { name := "T_DOUBLE", type := .int, accessFlags := 25, slot := 14, constantValue := 0 }, { name := "T_BYTE", type := .int, accessFlags := 25, slot := 15, constantValue := 0 }, { name := "T_SHORT", type := .int, accessFlags := 25, slot := 16, constantValue := 0 }, { name := "T_INT", type := .int, accessFlags := 25, slot := 17, constantValue := 0 }, { name := "T_LONG", type := .int, accessFlags := 25, slot := 18, constantValue := 0 }, { name := "JLA", type := (.object "jdk/internal/access/JavaLangAccess"), accessFlags := 26, slot := 19, constantValue := 0 }, { name := "SOFT_MAX_ARRAY_LENGTH", type := .int, accessFlags := 25, slot := 20, constantValue := 0 }]
  methods := #[k32m0]
  instanceTypes := #[]
  staticTypes := #[(.object "jdk/internal/misc/Unsafe"), .boolean, .int, .int, .int, .int, .int, .int, .int, .int, .int, .int, .int, .int, .int, .int, .int, .int, .int, (.object "jdk/internal/access/JavaLangAccess"), .int]
  resolved := Array.replicate 378 none
  statics := none }

def pool33 : Array CpInfo := pool [(1, u "java/lang/Class"), (0, .class_ 1), (0, u "java/lang/Object"), (0, .class_ 3)] 0

/-- java/lang/Class -/
def k33 : Class := { plain "java/lang/Class" (some 0) with
  accessFlags := 49
  interfaces := #[]
  cf := some (fileOf pool33 2 #[] #[] 49 4 #[] #[])
  fields := #[]
  methods := #[]
  instanceTypes := #[]
  staticTypes := #[]
  resolved := Array.replicate 5 none
  statics := none }

/-- the primitive byte -/
def k34 : Class := { plain "byte" none with kind := .primitive 'B', accessFlags := 0x411 }
/-- [B -/
def k35 : Class := { plain "[B" (some 0) with kind := .array 34 .byte, interfaces := #[16, 2], accessFlags := 1041 }

/-- the primitive int -/
def k36 : Class := { plain "int" none with kind := .primitive 'I', accessFlags := 0x411 }
/-- [I -/
def k37 : Class := { plain "[I" (some 0) with kind := .array 36 .int, interfaces := #[16, 2], accessFlags := 1041 }

/-- [Ljava/lang/Object; -/
def k38 : Class := { plain "[Ljava/lang/Object;" (some 0) with kind := .array 0 (.object "java/lang/Object"), interfaces := #[16, 2], accessFlags := 1041, mirror := some 4 }

def heap : Heap := #[{ cls := 7, slots := #[.long 0, .int 1, .null, .int 0, .null, .int 0, .int 0], vm := .statics 7 },
  { cls := 17, slots := #[.long 0, .int 0, .ref 5, .ref 6], vm := .statics 17 },
  { cls := 20, slots := #[.long 0, .int 0, .null, .ref 8, .ref 7, .null, .null, .null, .int 0, .int 1], vm := .statics 20 },
  { cls := 31, slots := #[.null, .null, .null], vm := .statics 31 },
  { cls := 33, slots := #[], vm := .mirror 38 },
  { cls := 38, slots := #[], vm := .none },
  { cls := 38, slots := #[], vm := .none },
  { cls := 24, slots := #[.ref 5, .int 0], vm := .none },
  { cls := 0, slots := #[], vm := .none }]
def classes : Array Class := #[k0, k1, k2, k3, k4, k5, k6, k7, k8, k9, k10, k11, k12, k13, k14, k15, k16, k17, k18, k19, k20, k21, k22, k23, k24, k25, k26, k27, k28, k29, k30, k31, k32, k33, k34, k35, k36, k37, k38]
def interned : List (Array UInt16 × Addr) := []
def slotsUsed : Nat := 26
def theMethod : MethodId := ⟨1, 1⟩
def args0 : Array Value := #[.int 65, .int 5, .int 15, .int 66]
def aboutOver (below : List Frame) : State where
  vm := { classes := classes, interned := interned.toArray }
  heap := heap
  slotsUsed := slotsUsed
  threads := #[{ frames := .invoking theMethod args0 :: below }]
def below0 : List Frame := [.native { method := ⟨0, 0⟩, args := #[] }]
def about1 : State := aboutOver below0
def p0 : Program := .bare "" "" ""
def e0 : Env := launch0.env 0 0 0
theorem w_frames : about1.frames = Frame.invoking theMethod args0 :: below0 := rfl
set_option maxRecDepth 65536 in
theorem w_args : argsFit about1.vm theMethod args0 = true := by decide +kernel
set_option maxRecDepth 65536 in
theorem w_heap : heapFits about1 = true := by decide +kernel
set_option maxRecDepth 65536 in
theorem w_runnable : about1.curStatus? = some .runnable := by decide +kernel
set_option maxRecDepth 65536 in
theorem w_alone : about1.alone = true := by decide +kernel
set_option maxRecDepth 65536 in
theorem w_named : about1.methodNamed? x = some theMethod := by decide +kernel
set_option maxRecDepth 65536 in
theorem w_hears : about1.hears theMethod below0 = true := by decide +kernel
set_option maxRecDepth 65536 in
theorem w_ripe : about1.ripe theMethod args0 below0 = true := by decide +kernel
theorem w_running : about1.status = .running := rfl
set_option maxRecDepth 65536 in
theorem w_room : about1.hasRoom e0.platform room_1 = true :=
  launch0.hasRoom_least _ room_1 (by decide +kernel) (by decide +kernel) (by decide +kernel) (by decide +kernel) (by decide +kernel) (by decide +kernel)
theorem allAtoms_all (ts : List Jvm.Cond) (a : Array Jvm.Value) (st : Jvm.State) : (allAtoms ts).before a st = ts.all (fun c => c.before a st) := by
  induction ts with
  | nil => rfl
  | cons c t ih =>
    show (Jvm.Cond.and c (allAtoms t)).before a st = _
    rw [Jvm.Cond.before_and, ih, List.all_cons]
def words1 : List Jvm.Cond := Jvm.Cond.code x code maxLocals ret :: tables_1
/-- a 'code' word, met by the world's own term for the bytes: nothing is compared byte by byte -/
theorem code_word {y : MethodName} {bytes : ByteArray} {mx : Nat} {rt : Option FieldType} {a : Array Value} {s : State} {m : MethodId} {meth : Method} {c : Code} (h1 : s.methodNamed? y = some m) (h2 : s.vm.method? m = some meth) (h3 : meth.code = some c) (h4 : c.code = bytes)
    (h5 : (c.maxLocals == mx && c.exceptionTable.isEmpty && decide (c.maxStack ≤ mostOperands) && decide (meth.sig.returnType = rt) && !meth.locks && decide (parseMethodDescriptor y.desc = some meth.sig)) = true) : (Jvm.Cond.code y bytes mx rt).before a s = true := by
  simp only [Bool.and_eq_true, beq_iff_eq, Bool.not_eq_true', decide_eq_true_eq] at h5
  obtain ⟨⟨⟨⟨⟨g1, g2⟩, g3⟩, g4⟩, g5⟩, g6⟩ := h5
  simp [Cond.before, Cond.holds, Cond.value, h1, h2, h3, h4, g1, g2, g3, g4, g5, g6]
def isCode : Jvm.Cond → Bool
  | .code _ _ _ _ => true
  | _ => false
theorem all_split {L : List Jvm.Cond} {P : Jvm.Cond → Bool} (h1 : L.all (fun c => isCode c || P c) = true) (h2 : ∀ c ∈ L.filter isCode, P c = true) : L.all P = true := by
  refine List.all_eq_true.mpr fun c hc => ?_
  have h := List.all_eq_true.mp h1 c hc
  rcases Bool.eq_false_or_eq_true (isCode c) with hi | hi
  · exact h2 c (List.mem_filter.mpr ⟨hc, hi⟩)
  · simpa [hi] using h
set_option maxRecDepth 65536 in
theorem w_c0 : (Jvm.Cond.code x code maxLocals ret).before args0 about1 = true := code_word (m := ⟨1, 1⟩) (meth := k1m1) (c := k1c1) (by decide +kernel) rfl rfl rfl (by decide +kernel)
set_option maxRecDepth 65536 in
theorem w_c1 : (Jvm.Cond.code ({ cls := "java/lang/String", name := "valueOf", desc := "(C)Ljava/lang/String;" } : Jvm.MethodName) jdk_42_method_139_code (1 : Nat) (Option.some (Jvm.ClassFile.FieldType.object "java/lang/String"))).before args0 about1 = true := code_word (m := ⟨7, 1⟩) (meth := k7m1) (c := k7c1) (by decide +kernel) rfl rfl rfl (by decide +kernel)
set_option maxRecDepth 65536 in
theorem w_c2 : (Jvm.Cond.code ({ cls := "java/lang/StringLatin1", name := "canEncode", desc := "(C)Z" } : Jvm.MethodName) jdk_43_method_3_code (1 : Nat) (Option.some Jvm.ClassFile.FieldType.boolean)).before args0 about1 = true := code_word (m := ⟨8, 1⟩) (meth := k8m1) (c := k8c1) (by decide +kernel) rfl rfl rfl (by decide +kernel)
set_option maxRecDepth 65536 in
theorem w_c3 : (Jvm.Cond.code ({ cls := "java/lang/StringLatin1", name := "toBytes", desc := "(C)[B" } : Jvm.MethodName) jdk_43_method_46_code (1 : Nat) (Option.some (Jvm.ClassFile.FieldType.array Jvm.ClassFile.FieldType.byte))).before args0 about1 = true := code_word (m := ⟨8, 2⟩) (meth := k8m2) (c := k8c2) (by decide +kernel) rfl rfl rfl (by decide +kernel)
set_option maxRecDepth 65536 in
theorem w_c4 : (Jvm.Cond.code ({ cls := "java/lang/String", name := "<init>", desc := "([BB)V" } : Jvm.MethodName) jdk_42_method_151_code (3 : Nat) (Option.none : Option Jvm.ClassFile.FieldType)).before args0 about1 = true := code_word (m := ⟨7, 2⟩) (meth := k7m2) (c := k7c2) (by decide +kernel) rfl rfl rfl (by decide +kernel)
set_option maxRecDepth 65536 in
theorem w_c5 : (Jvm.Cond.code ({ cls := "java/lang/Object", name := "<init>", desc := "()V" } : Jvm.MethodName) object_method_1_code (1 : Nat) (Option.none : Option Jvm.ClassFile.FieldType)).before args0 about1 = true := code_word (m := ⟨0, 0⟩) (meth := k0m0) (c := k0c0) (by decide +kernel) rfl rfl rfl (by decide +kernel)
set_option maxRecDepth 65536 in
theorem w_c6 : (Jvm.Cond.code ({ cls := "java/util/ArrayList", name := "<init>", desc := "()V" } : Jvm.MethodName) jdk_38_method_2_code (1 : Nat) (Option.none : Option Jvm.ClassFile.FieldType)).before args0 about1 = true := code_word (m := ⟨17, 0⟩) (meth := k17m0) (c := k17c0) (by decide +kernel) rfl rfl rfl (by decide +kernel)
set_option maxRecDepth 65536 in
theorem w_c7 : (Jvm.Cond.code ({ cls := "java/util/AbstractList", name := "<init>", desc := "()V" } : Jvm.MethodName) jdk_39_method_1_code (1 : Nat) (Option.none : Option Jvm.ClassFile.FieldType)).before args0 about1 = true := code_word (m := ⟨14, 0⟩) (meth := k14m0) (c := k14c0) (by decide +kernel) rfl rfl rfl (by decide +kernel)
set_option maxRecDepth 65536 in
theorem w_c8 : (Jvm.Cond.code ({ cls := "java/util/AbstractCollection", name := "<init>", desc := "()V" } : Jvm.MethodName) jdk_22_method_1_code (1 : Nat) (Option.none : Option Jvm.ClassFile.FieldType)).before args0 about1 = true := code_word (m := ⟨11, 0⟩) (meth := k11m0) (c := k11c0) (by decide +kernel) rfl rfl rfl (by decide +kernel)
set_option maxRecDepth 65536 in
theorem w_c9 : (Jvm.Cond.code ({ cls := "com/example/modwright/modwright/script/Directive", name := "<init>", desc := "(Ljava/lang/String;ILjava/util/List;Ljava/util/List;)V" } : Jvm.MethodName) prog_45_method_1_code (5 : Nat) (Option.none : Option Jvm.ClassFile.FieldType)).before args0 about1 = true := code_word (m := ⟨19, 0⟩) (meth := k19m0) (c := k19c0) (by decide +kernel) rfl rfl rfl (by decide +kernel)
set_option maxRecDepth 65536 in
theorem w_c10 : (Jvm.Cond.code ({ cls := "java/lang/Record", name := "<init>", desc := "()V" } : Jvm.MethodName) jdk_30_method_1_code (1 : Nat) (Option.none : Option Jvm.ClassFile.FieldType)).before args0 about1 = true := code_word (m := ⟨18, 0⟩) (meth := k18m0) (c := k18c0) (by decide +kernel) rfl rfl rfl (by decide +kernel)
set_option maxRecDepth 65536 in
theorem w_c11 : (Jvm.Cond.code ({ cls := "java/util/List", name := "copyOf", desc := "(Ljava/util/Collection;)Ljava/util/List;" } : Jvm.MethodName) jdk_40_method_48_code (1 : Nat) (Option.some (Jvm.ClassFile.FieldType.object "java/util/List"))).before args0 about1 = true := code_word (m := ⟨13, 2⟩) (meth := k13m2) (c := k13c2) (by decide +kernel) rfl rfl rfl (by decide +kernel)
set_option maxRecDepth 65536 in
theorem w_c12 : (Jvm.Cond.code ({ cls := "java/util/ImmutableCollections", name := "listCopy", desc := "(Ljava/util/Collection;)Ljava/util/List;" } : Jvm.MethodName) jdk_56_method_3_code (2 : Nat) (Option.some (Jvm.ClassFile.FieldType.object "java/util/List"))).before args0 about1 = true := code_word (m := ⟨20, 1⟩) (meth := k20m1) (c := k20c1) (by decide +kernel) rfl rfl rfl (by decide +kernel)
set_option maxRecDepth 65536 in
theorem w_c13 : (Jvm.Cond.code ({ cls := "java/util/ArrayList", name := "isEmpty", desc := "()Z" } : Jvm.MethodName) jdk_38_method_9_code (1 : Nat) (Option.some Jvm.ClassFile.FieldType.boolean)).before args0 about1 = true := code_word (m := ⟨17, 3⟩) (meth := k17m3) (c := k17c3) (by decide +kernel) rfl rfl rfl (by decide +kernel)
set_option maxRecDepth 65536 in
theorem w_c14 : (Jvm.Cond.code ({ cls := "java/util/List", name := "of", desc := "()Ljava/util/List;" } : Jvm.MethodName) jdk_40_method_36_code (0 : Nat) (Option.some (Jvm.ClassFile.FieldType.object "java/util/List"))).before args0 about1 = true := code_word (m := ⟨13, 0⟩) (meth := k13m0) (c := k13c0) (by decide +kernel) rfl rfl rfl (by decide +kernel)
set_option maxRecDepth 65536 in
theorem w_c15 : (Jvm.Cond.code ({ cls := "java/util/ArrayList", name := "add", desc := "(Ljava/lang/Object;)Z" } : Jvm.MethodName) jdk_38_method_25_code (2 : Nat) (Option.some Jvm.ClassFile.FieldType.boolean)).before args0 about1 = true := code_word (m := ⟨17, 6⟩) (meth := k17m6) (c := k17c6) (by decide +kernel) rfl rfl rfl (by decide +kernel)
set_option maxRecDepth 65536 in
theorem w_c16 : (Jvm.Cond.code ({ cls := "java/util/ArrayList", name := "add", desc := "(Ljava/lang/Object;[Ljava/lang/Object;I)V" } : Jvm.MethodName) jdk_38_method_24_code (4 : Nat) (Option.none : Option Jvm.ClassFile.FieldType)).before args0 about1 = true := code_word (m := ⟨17, 5⟩) (meth := k17m5) (c := k17c5) (by decide +kernel) rfl rfl rfl (by decide +kernel)
set_option maxRecDepth 65536 in
theorem w_c17 : (Jvm.Cond.code ({ cls := "java/util/ArrayList", name := "grow", desc := "()[Ljava/lang/Object;" } : Jvm.MethodName) jdk_38_method_7_code (1 : Nat) (Option.some (Jvm.ClassFile.FieldType.array (Jvm.ClassFile.FieldType.object "java/lang/Object")))).before args0 about1 = true := code_word (m := ⟨17, 2⟩) (meth := k17m2) (c := k17c2) (by decide +kernel) rfl rfl rfl (by decide +kernel)
set_option maxRecDepth 65536 in
theorem w_c18 : (Jvm.Cond.code ({ cls := "java/util/ArrayList", name := "grow", desc := "(I)[Ljava/lang/Object;" } : Jvm.MethodName) jdk_38_method_6_code (4 : Nat) (Option.some (Jvm.ClassFile.FieldType.array (Jvm.ClassFile.FieldType.object "java/lang/Object")))).before args0 about1 = true := code_word (m := ⟨17, 1⟩) (meth := k17m1) (c := k17c1) (by decide +kernel) rfl rfl rfl (by decide +kernel)
set_option maxRecDepth 65536 in
theorem w_c19 : (Jvm.Cond.code ({ cls := "java/lang/Math", name := "max", desc := "(II)I" } : Jvm.MethodName) jdk_29_method_65_code (2 : Nat) (Option.some Jvm.ClassFile.FieldType.int)).before args0 about1 = true := code_word (m := ⟨25, 1⟩) (meth := k25m1) (c := k25c1) (by decide +kernel) rfl rfl rfl (by decide +kernel)
set_option maxRecDepth 65536 in
theorem w_c20 : (Jvm.Cond.code ({ cls := "com/example/modwright/modwright/script/Directive", name := "hasBlock", desc := "()Z" } : Jvm.MethodName) prog_45_method_2_code (1 : Nat) (Option.some Jvm.ClassFile.FieldType.boolean)).before args0 about1 = true := code_word (m := ⟨19, 1⟩) (meth := k19m1) (c := k19c1) (by decide +kernel) rfl rfl rfl (by decide +kernel)
set_option maxRecDepth 65536 in
theorem w_c21 : (Jvm.Cond.code ({ cls := "com/example/modwright/modwright/script/Directive", name := "block", desc := "()Ljava/util/List;" } : Jvm.MethodName) prog_45_method_9_code (1 : Nat) (Option.some (Jvm.ClassFile.FieldType.object "java/util/List"))).before args0 about1 = true := code_word (m := ⟨19, 2⟩) (meth := k19m2) (c := k19c2) (by decide +kernel) rfl rfl rfl (by decide +kernel)
set_option maxRecDepth 65536 in
theorem w_c22 : (Jvm.Cond.code ({ cls := "com/example/modwright/modwright/script/Argument$Mark", name := "<init>", desc := "(CI)V" } : Jvm.MethodName) prog_40_method_1_code (3 : Nat) (Option.none : Option Jvm.ClassFile.FieldType)).before args0 about1 = true := code_word (m := ⟨27, 0⟩) (meth := k27m0) (c := k27c0) (by decide +kernel) rfl rfl rfl (by decide +kernel)
set_option maxRecDepth 65536 in
theorem w_c23 : (Jvm.Cond.code ({ cls := "java/util/ArrayList", name := "toArray", desc := "()[Ljava/lang/Object;" } : Jvm.MethodName) jdk_38_method_16_code (1 : Nat) (Option.some (Jvm.ClassFile.FieldType.array (Jvm.ClassFile.FieldType.object "java/lang/Object")))).before args0 about1 = true := code_word (m := ⟨17, 4⟩) (meth := k17m4) (c := k17c4) (by decide +kernel) rfl rfl rfl (by decide +kernel)
set_option maxRecDepth 65536 in
theorem w_c24 : (Jvm.Cond.code ({ cls := "java/util/Arrays", name := "copyOf", desc := "([Ljava/lang/Object;I)[Ljava/lang/Object;" } : Jvm.MethodName) jdk_65_method_119_code (2 : Nat) (Option.some (Jvm.ClassFile.FieldType.array (Jvm.ClassFile.FieldType.object "java/lang/Object")))).before args0 about1 = true := code_word (m := ⟨28, 1⟩) (meth := k28m1) (c := k28c1) (by decide +kernel) rfl rfl rfl (by decide +kernel)
set_option maxRecDepth 65536 in
theorem w_c25 : (Jvm.Cond.code ({ cls := "java/util/Arrays", name := "copyOf", desc := "([Ljava/lang/Object;ILjava/lang/Class;)[Ljava/lang/Object;" } : Jvm.MethodName) jdk_65_method_120_code (4 : Nat) (Option.some (Jvm.ClassFile.FieldType.array (Jvm.ClassFile.FieldType.object "java/lang/Object")))).before args0 about1 = true := code_word (m := ⟨28, 2⟩) (meth := k28m2) (c := k28c2) (by decide +kernel) rfl rfl rfl (by decide +kernel)
set_option maxRecDepth 65536 in
theorem w_c26 : (Jvm.Cond.code ({ cls := "java/lang/Math", name := "min", desc := "(II)I" } : Jvm.MethodName) jdk_29_method_69_code (2 : Nat) (Option.some Jvm.ClassFile.FieldType.int)).before args0 about1 = true := code_word (m := ⟨25, 2⟩) (meth := k25m2) (c := k25c2) (by decide +kernel) rfl rfl rfl (by decide +kernel)
set_option maxRecDepth 65536 in
theorem w_c27 : (Jvm.Cond.code ({ cls := "java/util/List", name := "of", desc := "([Ljava/lang/Object;)Ljava/util/List;" } : Jvm.MethodName) jdk_40_method_47_code (2 : Nat) (Option.some (Jvm.ClassFile.FieldType.object "java/util/List"))).before args0 about1 = true := code_word (m := ⟨13, 1⟩) (meth := k13m1) (c := k13c1) (by decide +kernel) rfl rfl rfl (by decide +kernel)
set_option maxRecDepth 65536 in
theorem w_c28 : (Jvm.Cond.code ({ cls := "java/util/ImmutableCollections$List12", name := "<init>", desc := "(Ljava/lang/Object;)V" } : Jvm.MethodName) jdk_44_method_1_code (2 : Nat) (Option.none : Option Jvm.ClassFile.FieldType)).before args0 about1 = true := code_word (m := ⟨23, 0⟩) (meth := k23m0) (c := k23c0) (by decide +kernel) rfl rfl rfl (by decide +kernel)
set_option maxRecDepth 65536 in
theorem w_c29 : (Jvm.Cond.code ({ cls := "java/util/ImmutableCollections$AbstractImmutableList", name := "<init>", desc := "()V" } : Jvm.MethodName) jdk_46_method_1_code (1 : Nat) (Option.none : Option Jvm.ClassFile.FieldType)).before args0 about1 = true := code_word (m := ⟨22, 0⟩) (meth := k22m0) (c := k22c0) (by decide +kernel) rfl rfl rfl (by decide +kernel)
set_option maxRecDepth 65536 in
theorem w_c30 : (Jvm.Cond.code ({ cls := "java/util/ImmutableCollections$AbstractImmutableCollection", name := "<init>", desc := "()V" } : Jvm.MethodName) jdk_47_method_1_code (1 : Nat) (Option.none : Option Jvm.ClassFile.FieldType)).before args0 about1 = true := code_word (m := ⟨21, 0⟩) (meth := k21m0) (c := k21c0) (by decide +kernel) rfl rfl rfl (by decide +kernel)
set_option maxRecDepth 65536 in
theorem w_c31 : (Jvm.Cond.code ({ cls := "java/util/Objects", name := "requireNonNull", desc := "(Ljava/lang/Object;)Ljava/lang/Object;" } : Jvm.MethodName) jdk_31_method_10_code (1 : Nat) (Option.some (Jvm.ClassFile.FieldType.object "java/lang/Object"))).before args0 about1 = true := code_word (m := ⟨30, 1⟩) (meth := k30m1) (c := k30c1) (by decide +kernel) rfl rfl rfl (by decide +kernel)
set_option maxRecDepth 65536 in
theorem w_c32 : (Jvm.Cond.code ({ cls := "java/util/ImmutableCollections", name := "listFromArray", desc := "([Ljava/lang/Object;)Ljava/util/List;" } : Jvm.MethodName) jdk_56_method_4_code (3 : Nat) (Option.some (Jvm.ClassFile.FieldType.object "java/util/List"))).before args0 about1 = true := code_word (m := ⟨20, 2⟩) (meth := k20m2) (c := k20c2) (by decide +kernel) rfl rfl rfl (by decide +kernel)
set_option maxRecDepth 65536 in
theorem w_c33 : (Jvm.Cond.code ({ cls := "java/util/ImmutableCollections$ListN", name := "<init>", desc := "([Ljava/lang/Object;Z)V" } : Jvm.MethodName) jdk_45_method_1_code (3 : Nat) (Option.none : Option Jvm.ClassFile.FieldType)).before args0 about1 = true := code_word (m := ⟨24, 0⟩) (meth := k24m0) (c := k24c0) (by decide +kernel) rfl rfl rfl (by decide +kernel)
set_option maxRecDepth 65536 in
theorem w_c34 : (Jvm.Cond.code ({ cls := "java/util/ImmutableCollections$List12", name := "<init>", desc := "(Ljava/lang/Object;Ljava/lang/Object;)V" } : Jvm.MethodName) jdk_44_method_2_code (3 : Nat) (Option.none : Option Jvm.ClassFile.FieldType)).before args0 about1 = true := code_word (m := ⟨23, 1⟩) (meth := k23m1) (c := k23c1) (by decide +kernel) rfl rfl rfl (by decide +kernel)
def codes1 : List Jvm.Cond := [Jvm.Cond.code x code maxLocals ret, Jvm.Cond.code ({ cls := "java/lang/String", name := "valueOf", desc := "(C)Ljava/lang/String;" } : Jvm.MethodName) jdk_42_method_139_code (1 : Nat) (Option.some (Jvm.ClassFile.FieldType.object "java/lang/String")), Jvm.Cond.code ({ cls := "java/lang/StringLatin1", name := "canEncode", desc := "(C)Z" } : Jvm.MethodName) jdk_43_method_3_code (1 : Nat) (Option.some Jvm.ClassFile.FieldType.boolean), Jvm.Cond.code ({ cls := "java/lang/StringLatin1", name := "toBytes", desc := "(C)[B" } : Jvm.MethodName) jdk_43_method_46_code (1 : Nat) (Option.some (Jvm.ClassFile.FieldType.array Jvm.ClassFile.FieldType.byte)), Jvm.Cond.code ({ cls := "java/lang/String", name := "<init>", desc := "([BB)V" } : Jvm.MethodName) jdk_42_method_151_code (3 : Nat) (Option.none : Option Jvm.ClassFile.FieldType), Jvm.Cond.code ({ cls := "java/lang/Object", name := "<init>", desc := "()V" } : Jvm.MethodName) object_method_1_code (1 : Nat) (Option.none : Option Jvm.ClassFile.FieldType), Jvm.Cond.code ({ cls := "java/util/ArrayList", name := "<init>", desc := "()V" } : Jvm.MethodName) jdk_38_method_2_code (1 : Nat) (Option.none : Option Jvm.ClassFile.FieldType), Jvm.Cond.code ({ cls := "java/util/AbstractList", name := "<init>", desc := "()V" } : Jvm.MethodName) jdk_39_method_1_code (1 : Nat) (Option.none : Option Jvm.ClassFile.FieldType), Jvm.Cond.code ({ cls := "java/util/AbstractCollection", name := "<init>", desc := "()V" } : Jvm.MethodName) jdk_22_method_1_code (1 : Nat) (Option.none : Option Jvm.ClassFile.FieldType), Jvm.Cond.code ({ cls := "com/example/modwright/modwright/script/Directive", name := "<init>", desc := "(Ljava/lang/String;ILjava/util/List;Ljava/util/List;)V" } : Jvm.MethodName) prog_45_method_1_code (5 : Nat) (Option.none : Option Jvm.ClassFile.FieldType), Jvm.Cond.code ({ cls := "java/lang/Record", name := "<init>", desc := "()V" } : Jvm.MethodName) jdk_30_method_1_code (1 : Nat) (Option.none : Option Jvm.ClassFile.FieldType), Jvm.Cond.code ({ cls := "java/util/List", name := "copyOf", desc := "(Ljava/util/Collection;)Ljava/util/List;" } : Jvm.MethodName) jdk_40_method_48_code (1 : Nat) (Option.some (Jvm.ClassFile.FieldType.object "java/util/List")), Jvm.Cond.code ({ cls := "java/util/ImmutableCollections", name := "listCopy", desc := "(Ljava/util/Collection;)Ljava/util/List;" } : Jvm.MethodName) jdk_56_method_3_code (2 : Nat) (Option.some (Jvm.ClassFile.FieldType.object "java/util/List")), Jvm.Cond.code ({ cls := "java/util/ArrayList", name := "isEmpty", desc := "()Z" } : Jvm.MethodName) jdk_38_method_9_code (1 : Nat) (Option.some Jvm.ClassFile.FieldType.boolean), Jvm.Cond.code ({ cls := "java/util/List", name := "of", desc := "()Ljava/util/List;" } : Jvm.MethodName) jdk_40_method_36_code (0 : Nat) (Option.some (Jvm.ClassFile.FieldType.object "java/util/List")), Jvm.Cond.code ({ cls := "java/util/ArrayList", name := "add", desc := "(Ljava/lang/Object;)Z" } : Jvm.MethodName) jdk_38_method_25_code (2 : Nat) (Option.some Jvm.ClassFile.FieldType.boolean), Jvm.Cond.code ({ cls := "java/util/ArrayList", name := "add", desc := "(Ljava/lang/Object;[Ljava/lang/Object;I)V" } : Jvm.MethodName) jdk_38_method_24_code (4 : Nat) (Option.none : Option Jvm.ClassFile.FieldType), Jvm.Cond.code ({ cls := "java/util/ArrayList", name := "grow", desc := "()[Ljava/lang/Object;" } : Jvm.MethodName) jdk_38_method_7_code (1 : Nat) (Option.some (Jvm.ClassFile.FieldType.array (Jvm.ClassFile.FieldType.object "java/lang/Object"))), Jvm.Cond.code ({ cls := "java/util/ArrayList", name := "grow", desc := "(I)[Ljava/lang/Object;" } : Jvm.MethodName) jdk_38_method_6_code (4 : Nat) (Option.some (Jvm.ClassFile.FieldType.array (Jvm.ClassFile.FieldType.object "java/lang/Object"))), Jvm.Cond.code ({ cls := "java/lang/Math", name := "max", desc := "(II)I" } : Jvm.MethodName) jdk_29_method_65_code (2 : Nat) (Option.some Jvm.ClassFile.FieldType.int), Jvm.Cond.code ({ cls := "com/example/modwright/modwright/script/Directive", name := "hasBlock", desc := "()Z" } : Jvm.MethodName) prog_45_method_2_code (1 : Nat) (Option.some Jvm.ClassFile.FieldType.boolean), Jvm.Cond.code ({ cls := "com/example/modwright/modwright/script/Directive", name := "block", desc := "()Ljava/util/List;" } : Jvm.MethodName) prog_45_method_9_code (1 : Nat) (Option.some (Jvm.ClassFile.FieldType.object "java/util/List")), Jvm.Cond.code ({ cls := "com/example/modwright/modwright/script/Argument$Mark", name := "<init>", desc := "(CI)V" } : Jvm.MethodName) prog_40_method_1_code (3 : Nat) (Option.none : Option Jvm.ClassFile.FieldType), Jvm.Cond.code ({ cls := "java/util/ArrayList", name := "toArray", desc := "()[Ljava/lang/Object;" } : Jvm.MethodName) jdk_38_method_16_code (1 : Nat) (Option.some (Jvm.ClassFile.FieldType.array (Jvm.ClassFile.FieldType.object "java/lang/Object"))), Jvm.Cond.code ({ cls := "java/util/Arrays", name := "copyOf", desc := "([Ljava/lang/Object;I)[Ljava/lang/Object;" } : Jvm.MethodName) jdk_65_method_119_code (2 : Nat) (Option.some (Jvm.ClassFile.FieldType.array (Jvm.ClassFile.FieldType.object "java/lang/Object"))), Jvm.Cond.code ({ cls := "java/util/Arrays", name := "copyOf", desc := "([Ljava/lang/Object;ILjava/lang/Class;)[Ljava/lang/Object;" } : Jvm.MethodName) jdk_65_method_120_code (4 : Nat) (Option.some (Jvm.ClassFile.FieldType.array (Jvm.ClassFile.FieldType.object "java/lang/Object"))), Jvm.Cond.code ({ cls := "java/lang/Math", name := "min", desc := "(II)I" } : Jvm.MethodName) jdk_29_method_69_code (2 : Nat) (Option.some Jvm.ClassFile.FieldType.int), Jvm.Cond.code ({ cls := "java/util/List", name := "of", desc := "([Ljava/lang/Object;)Ljava/util/List;" } : Jvm.MethodName) jdk_40_method_47_code (2 : Nat) (Option.some (Jvm.ClassFile.FieldType.object "java/util/List")), Jvm.Cond.code ({ cls := "java/util/ImmutableCollections$List12", name := "<init>", desc := "(Ljava/lang/Object;)V" } : Jvm.MethodName) jdk_44_method_1_code (2 : Nat) (Option.none : Option Jvm.ClassFile.FieldType), Jvm.Cond.code ({ cls := "java/util/ImmutableCollections$AbstractImmutableList", name := "<init>", desc := "()V" } : Jvm.MethodName) jdk_46_method_1_code (1 : Nat) (Option.none : Option Jvm.ClassFile.FieldType), Jvm.Cond.code ({ cls := "java/util/ImmutableCollections$AbstractImmutableCollection", name := "<init>", desc := "()V" } : Jvm.MethodName) jdk_47_method_1_code (1 : Nat) (Option.none : Option Jvm.ClassFile.FieldType), Jvm.Cond.code ({ cls := "java/util/Objects", name := "requireNonNull", desc := "(Ljava/lang/Object;)Ljava/lang/Object;" } : Jvm.MethodName) jdk_31_method_10_code (1 : Nat) (Option.some (Jvm.ClassFile.FieldType.object "java/lang/Object")), Jvm.Cond.code ({ cls := "java/util/ImmutableCollections", name := "listFromArray", desc := "([Ljava/lang/Object;)Ljava/util/List;" } : Jvm.MethodName) jdk_56_method_4_code (3 : Nat) (Option.some (Jvm.ClassFile.FieldType.object "java/util/List")), Jvm.Cond.code ({ cls := "java/util/ImmutableCollections$ListN", name := "<init>", desc := "([Ljava/lang/Object;Z)V" } : Jvm.MethodName) jdk_45_method_1_code (3 : Nat) (Option.none : Option Jvm.ClassFile.FieldType), Jvm.Cond.code ({ cls := "java/util/ImmutableCollections$List12", name := "<init>", desc := "(Ljava/lang/Object;Ljava/lang/Object;)V" } : Jvm.MethodName) jdk_44_method_2_code (3 : Nat) (Option.none : Option Jvm.ClassFile.FieldType)]
set_option maxRecDepth 65536 in
theorem codes_eq : words1.filter isCode = codes1 := rfl
theorem w_codes : ∀ c ∈ words1.filter isCode, c.before args0 about1 = true := by
  rw [codes_eq]
  intro c hc
  simp only [codes1, List.mem_cons, List.not_mem_nil, or_false] at hc
  rcases hc with rfl | rfl | rfl | rfl | rfl | rfl | rfl | rfl | rfl | rfl | rfl | rfl | rfl | rfl | rfl | rfl | rfl | rfl | rfl | rfl | rfl | rfl | rfl | rfl | rfl | rfl | rfl | rfl | rfl | rfl | rfl | rfl | rfl | rfl | rfl
  · exact w_c0
  · exact w_c1
  · exact w_c2
  · exact w_c3
  · exact w_c4
  · exact w_c5
  · exact w_c6
  · exact w_c7
  · exact w_c8
  · exact w_c9
  · exact w_c10
  · exact w_c11
  · exact w_c12
  · exact w_c13
  · exact w_c14
  · exact w_c15
  · exact w_c16
  · exact w_c17
  · exact w_c18
  · exact w_c19
  · exact w_c20
  · exact w_c21
  · exact w_c22
  · exact w_c23
  · exact w_c24
  · exact w_c25
  · exact w_c26
  · exact w_c27
  · exact w_c28
  · exact w_c29
  · exact w_c30
  · exact w_c31
  · exact w_c32
  · exact w_c33
  · exact w_c34
set_option maxRecDepth 65536 in
theorem w_t1 : (words1.take 24).all (fun c => isCode c || c.before args0 about1) = true := by decide +kernel
set_option maxRecDepth 65536 in
theorem w_t2 : ((words1.drop 24).take 24).all (fun c => isCode c || c.before args0 about1) = true := by decide +kernel
set_option maxRecDepth 65536 in
theorem w_t3 : (((words1.drop 24).drop 24).take 24).all (fun c => isCode c || c.before args0 about1) = true := by decide +kernel
set_option maxRecDepth 65536 in
theorem w_t4 : ((((words1.drop 24).drop 24).drop 24).take 24).all (fun c => isCode c || c.before args0 about1) = true := by decide +kernel
set_option maxRecDepth 65536 in
theorem w_t5 : (((((words1.drop 24).drop 24).drop 24).drop 24).take 24).all (fun c => isCode c || c.before args0 about1) = true := by decide +kernel
set_option maxRecDepth 65536 in
theorem w_t6 : ((((((words1.drop 24).drop 24).drop 24).drop 24).drop 24).take 24).all (fun c => isCode c || c.before args0 about1) = true := by decide +kernel
set_option maxRecDepth 65536 in
theorem w_t7 : (((((((words1.drop 24).drop 24).drop 24).drop 24).drop 24).drop 24).take 24).all (fun c => isCode c || c.before args0 about1) = true := by decide +kernel
set_option maxRecDepth 65536 in
theorem w_t8 : ((((((((words1.drop 24).drop 24).drop 24).drop 24).drop 24).drop 24).drop 24).take 24).all (fun c => isCode c || c.before args0 about1) = true := by decide +kernel
set_option maxRecDepth 65536 in
theorem w_t9 : (((((((((words1.drop 24).drop 24).drop 24).drop 24).drop 24).drop 24).drop 24).drop 24).take 24).all (fun c => isCode c || c.before args0 about1) = true := by decide +kernel
set_option maxRecDepth 65536 in
theorem w_t10 : (((((((((words1.drop 24).drop 24).drop 24).drop 24).drop 24).drop 24).drop 24).drop 24).drop 24).all (fun c => isCode c || c.before args0 about1) = true := by decide +kernel
theorem w_tables : (allAtoms (Jvm.Cond.code x code maxLocals ret :: tables_1)).before args0 about1 = true := by
  rw [allAtoms_all]
  show words1.all (fun c => c.before args0 about1) = true
  refine all_split ?_ w_codes
  rw [← List.take_append_drop 24 words1, List.all_append, w_t1, ← List.take_append_drop 24 (words1.drop 24), List.all_append, w_t2, ← List.take_append_drop 24 ((words1.drop 24).drop 24), List.all_append, w_t3, ← List.take_append_drop 24 (((words1.drop 24).drop 24).drop 24), List.all_append, w_t4, ← List.take_append_drop 24 ((((words1.drop 24).drop 24).drop 24).drop 24), List.all_append, w_t5, ← List.take_append_drop 24 (((((words1.drop 24).drop 24).drop 24).drop 24).drop 24), List.all_append, w_t6, ← List.take_append_drop 24 ((((((words1.drop 24).drop 24).drop 24).drop 24).drop 24).drop 24), List.all_append, w_t7, ← List.take_append_drop 24 (((((((words1.drop 24).drop 24).drop 24).drop 24).drop 24).drop 24).drop 24), List.all_append, w_t8, ← List.take_append_drop 24 ((((((((words1.drop 24).drop 24).drop 24).drop 24).drop 24).drop 24).drop 24).drop 24), List.all_append, w_t9, w_t10]
  rfl
set_option maxRecDepth 65536 in
theorem w_rest : rest_1_c.before args0 about1 = true := by decide +kernel
set_option maxRecDepth 65536 in
theorem w_case : (Jvm.Cond.and given_1 narrow_1).before args0 about1 = true := by decide +kernel
theorem w_applies : (headSpec (Jvm.Cond.code x code maxLocals ret :: tables_1) room_1).applies x e0.platform about1 = true :=
  (Spec.applies_iff w_frames).mpr ⟨w_running, w_runnable, w_alone, w_named, w_hears, w_ripe, w_room, w_tables⟩
theorem atStart : AtStart classFile x code maxLocals ret World_1 tables_1 room_1 Calls_1 rest_1 Pre_1 launch0 p0 e0 about1 theMethod args0 below0 :=
  ⟨lists_1, trivial, launch0.admits_env _ _ _, launch0.least_env, fairChoices_fair.cas, fairChoices_fair.clock, w_frames, w_args, w_heap, w_applies, ⟨⟨38, k38, 4, by decide +kernel, rfl, rfl, _, rfl, rfl⟩, trivial⟩, w_rest, w_case⟩
end start1
theorem witness_1 : WitnessClaimed_1 := ⟨start1.p0, start1.e0, start1.about1, start1.theMethod, start1.args0, start1.below0, start1.atStart⟩
end Jvm.Pilot.@@N@@
