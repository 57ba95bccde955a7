import JvmDerived
import JvmDerived.Pilot.@@N@@Statement
import JvmDerived.Pilot.@@N@@Code
set_option linter.unusedVariables false
set_option linter.unusedSimpArgs false
set_option maxRecDepth 65536
set_option maxHeartbeats 40000000
namespace Jvm.Pilot.@@N@@
open Jvm Jvm.ClassFile Sem Op Lib Jvm.Free Jvm.Stand Jvm.LawKit Jvm.RoadKit Bundle Jvm.Pilot.@@N@@.Jvm.D
theorem oW {a0 : Array Value} {Z : State} (hw : ∀ d ∈ tables_1, d.before a0 Z = true) {d : Jvm.Cond} (i : Nat) (h : tables_1[i]? = some d) : d.before a0 Z = true := hw _ (List.mem_of_getElem? h)
theorem oMvM {Z s : State} {a0 args : Array Value} {own host : String} {index : Nat} {x : MethodName} (hZ : Z.Warmed39 s.vm) (w : (Jvm.Cond.methodLinkNest own index x host).before a0 Z = true) : (Jvm.Cond.methodLinkNest own index x host).before args s = true := (Cond.methodLinkNest_wide hZ w :)
abbrev uu : Slot := .unset
abbrev ss : Slot := .second
/-- the run from T with g on top comes to a state of which P holds -/
def oWk (tb : Tables) (e : Env) (below : List Frame) (P : State → Prop) (T : State) (g : JFrame) : Prop := ∃ t, Steps tb e below (T.setTop g) t ∧ P t
section OwnA
variable {tb : Tables} {e : Env} {below : List Frame} {P : State → Prop} {T T' : State} {g g' : JFrame}
theorem oWk.st (f : ∀ t, Steps tb e below (T'.setTop g') t → Steps tb e below (T.setTop g) t) (k : oWk tb e below P T' g') : oWk tb e below P T g := k.elim fun t q => ⟨t, f t q.1, q.2⟩
theorem oWk.to (g' : JFrame) (f : ∀ t, Steps tb e below (T'.setTop g') t → Steps tb e below (T.setTop g) t) (k : oWk tb e below P T' g') : oWk tb e below P T g := k.elim fun t q => ⟨t, f t q.1, q.2⟩
theorem oWk.tr (f : Steps tb e below (T.setTop g) (T'.setTop g')) (k : oWk tb e below P T' g') : oWk tb e below P T g := k.elim fun t q => ⟨t, f.trans q.1, q.2⟩
theorem oWk.cast (q : g = g') (k : oWk tb e below P T g') : oWk tb e below P T g := q ▸ k
end OwnA
/-- the invocation has ended: a value, the heap, the places written -/
def oDn (s : State) (below : List Frame) (Q : Option Value → Heap → List Loc → Prop) (k n : Nat) (t : State) : Prop := t.status = .running ∧ ∃ v L, Ended t below (.returned v) ∧ Q v t.heap L ∧ FrameEnd s (.returned v) t L k n
/-- a contract: called with these arguments on this heap the body returns and Q holds -/
abbrev oCon (l : Launch) (Z : State) (y : MethodName) (bytes : ByteArray) (maxL : Nat) (ret : Option FieldType) (ws : List Jvm.Cond) (rm : Room) (as' : Array Value) (h0 : Heap) (Q : Option Value → Heap → List Loc → Prop) : Prop :=
  MetFree l y (head1 (Jvm.Cond.code y bytes maxL ret :: ws) rm) (fun a U => a = as' ∧ Z.Warmed39 U.vm ∧ U.heap = h0) (fun _ _ _ _ _ => True) (fun _ U o U' => ∃ v L, o = .returned v ∧ Q v U'.heap L ∧ FrameEnd U o U' L rm.cells rm.slots)
theorem oCon.of {l : Launch} {Z : State} {y : MethodName} {bytes : ByteArray} {maxL : Nat} {ret : Option FieldType} {ws : List Jvm.Cond} {rm : Room} {as' : Array Value} {h0 : Heap} {Q : Option Value → Heap → List Loc → Prop} (hp : plainFor y = true)
    (body : ∀ (p : Program) (e : Env) (s : State) (m : MethodId) (below : List Frame) (meth : Method) (c : Code) (T : State), Stand p l e rm s m as' below meth c T [] 0 0 → p.tables.exec = Jvm.exec → c.code = bytes → c.maxLocals = maxL → s.vm.findClass y.cls = some m.cls → meth.name = y.name → meth.sig.returnType = ret → meth.locks = false → Z.Warmed39 s.vm → T.heap = h0 → oWk p.tables e below (oDn s below Q rm.cells rm.slots) T (entryFrame m as' maxL)) :
    oCon l Z y bytes maxL ret ws rm as' h0 Q := by
  refine MetFree.of_bodySF hp hisR ?_
  intro p e s m args below meth c s₁ Bd hml0 hP hK
  obtain ⟨rfl, hZ, hh⟩ := hP
  have e0 : s₁.heap = h0 := by rw [← hh, Bd.state]; rfl
  obtain ⟨t, h1, h2, v, L, h3, h4, h5⟩ := body p e s m below meth c s₁ (Stand.of_body Bd) Bd.exec Bd.bytes hml0 (findClass_of_methodNamed Bd.named) (name_of_methodNamed Bd.named Bd.method).1 Bd.returns Bd.notSynchronized hZ e0
  exact ⟨t, _, h1, h2, h3, v, L, rfl, h4, h5⟩
section OwnB
variable {p : Program} {l : Launch} {e : Env} {R : Room} {s : State} {m : MethodId} {args : Array Value} {below : List Frame} {meth : Method} {c : Code} {T : State} {locs : List Loc} {cells slots : Nat} {Q : Option Value → Heap → List Loc → Prop} {k n pc : Nat} {Ls : Array Slot}
theorem oRet (X : Stand p l e R s m args below meth c T locs cells slots) (hx : p.tables.exec = Jvm.exec) (hlk : meth.locks = false) {w : Value} {t : FieldType} {i : Instr} {rest : List Value} (hret : meth.sig.returnType = some t) (hn : narrow t w = w)
    (hi : (i = .ireturn ∧ (t = .int ∨ t = .boolean ∨ t = .byte ∨ t = .char ∨ t = .short) ∧ ∃ z, w = .int z) ∨ (i = .lreturn ∧ t = .long ∧ ∃ z, w = .long z) ∨ (i = .dreturn ∧ t = .double ∧ ∃ z, w = .double z) ∨ (i = .freturn ∧ t = .float ∧ ∃ z, w = .float z) ∨ (i = .areturn ∧ t.isReference = true ∧ w.isRef = true))
    (hd : decode c.code pc = .ok (i, 1)) (hQ : Q (some w) T.heap locs) (hk : cells ≤ k) (hs : slots ≤ n) : oWk p.tables e below (oDn s below Q k n) T (mkF m pc Ls (w :: rest)) := by
  obtain ⟨fs, hr, hrun, hended, hW, hsame⟩ := X.leave (v := some w) (fun h => by rw [hret] at h; cases h) hlk
  exact ⟨_, retOut X hx hret hn hi hd hr, hrun, _, _, hended, hQ, ⟨_, rfl⟩, hW, hsame.mono hk hs⟩
theorem oRetI (X : Stand p l e R s m args below meth c T locs cells slots) (hx : p.tables.exec = Jvm.exec) (hlk : meth.locks = false) {z : Int32} {rest : List Value} (hret : meth.sig.returnType = some .int) (hd : decode c.code pc = .ok (.ireturn, 1)) (hQ : Q (some (.int z)) T.heap locs) (hk : cells ≤ k) (hs : slots ≤ n) :
    oWk p.tables e below (oDn s below Q k n) T (mkF m pc Ls (.int z :: rest)) := oRet X hx hlk hret rfl (Or.inl ⟨rfl, Or.inl rfl, _, rfl⟩) hd hQ hk hs
theorem oRetZ (X : Stand p l e R s m args below meth c T locs cells slots) (hx : p.tables.exec = Jvm.exec) (hlk : meth.locks = false) {z : Int32} {rest : List Value} (hret : meth.sig.returnType = some .boolean) (hd : decode c.code pc = .ok (.ireturn, 1)) (hz : z = 0 ∨ z = 1) (hQ : Q (some (.int z)) T.heap locs) (hk : cells ≤ k) (hs : slots ≤ n) :
    oWk p.tables e below (oDn s below Q k n) T (mkF m pc Ls (.int z :: rest)) := oRet X hx hlk hret (by rcases hz with rfl | rfl <;> rfl) (Or.inl ⟨rfl, Or.inr (Or.inl rfl), _, rfl⟩) hd hQ hk hs
theorem oRetN (X : Stand p l e R s m args below meth c T locs cells slots) (hx : p.tables.exec = Jvm.exec) (hlk : meth.locks = false) {z : Int32} {t : FieldType} {rest : List Value} (hret : meth.sig.returnType = some t) (ht : t = .byte ∨ t = .char ∨ t = .short) (hn : narrow t (.int z) = .int z) (hd : decode c.code pc = .ok (.ireturn, 1)) (hQ : Q (some (.int z)) T.heap locs) (hk : cells ≤ k) (hs : slots ≤ n) :
    oWk p.tables e below (oDn s below Q k n) T (mkF m pc Ls (.int z :: rest)) := oRet X hx hlk hret hn (Or.inl ⟨rfl, Or.inr (Or.inr ht), _, rfl⟩) hd hQ hk hs
theorem oRetD (X : Stand p l e R s m args below meth c T locs cells slots) (hx : p.tables.exec = Jvm.exec) (hlk : meth.locks = false) {z : UInt64} {rest : List Value} (hret : meth.sig.returnType = some .double) (hd : decode c.code pc = .ok (.dreturn, 1)) (hQ : Q (some (.double z)) T.heap locs) (hk : cells ≤ k) (hs : slots ≤ n) :
    oWk p.tables e below (oDn s below Q k n) T (mkF m pc Ls (.double z :: rest)) := oRet X hx hlk hret rfl (Or.inr (Or.inr (Or.inl ⟨rfl, rfl, _, rfl⟩))) hd hQ hk hs
theorem oNarR {t : FieldType} {w : Value} (ht : t.isReference = true) (hw : w.isRef = true) : narrow t w = w := by cases t <;> cases w <;> simp_all [narrow, FieldType.isReference, Value.isRef]
theorem oRetA (X : Stand p l e R s m args below meth c T locs cells slots) (hx : p.tables.exec = Jvm.exec) (hlk : meth.locks = false) {w : Value} {t : FieldType} {rest : List Value} (hret : meth.sig.returnType = some t) (ht : t.isReference = true) (hw : w.isRef = true) (hd : decode c.code pc = .ok (.areturn, 1)) (hQ : Q (some w) T.heap locs) (hk : cells ≤ k) (hs : slots ≤ n) :
    oWk p.tables e below (oDn s below Q k n) T (mkF m pc Ls (w :: rest)) := oRet X hx hlk hret (oNarR ht hw) (Or.inr (Or.inr (Or.inr (Or.inr ⟨rfl, ht, hw⟩)))) hd hQ hk hs
theorem oRetV (X : Stand p l e R s m args below meth c T locs cells slots) (hx : p.tables.exec = Jvm.exec) (hlk : meth.locks = false) (hret : meth.sig.returnType = none) (hd : decode c.code pc = .ok (.return_, 1)) (hQ : Q none T.heap locs) (hk : cells ≤ k) (hs : slots ≤ n) :
    oWk p.tables e below (oDn s below Q k n) T (mkF m pc Ls []) := by
  obtain ⟨fs, hr, hrun, hended, hW, hsame⟩ := X.leave (v := none) (fun _ => rfl) hlk
  exact ⟨_, X.returnOut hx hret hd hr, hrun, _, _, hended, hQ, ⟨_, rfl⟩, hW, hsame.mono hk hs⟩
end OwnB
/-- the heap is kept but for ws and new cells; the places written lie there -/
def oKp (h0 h : Heap) (ws : List Addr) (L : List Loc) : Prop := Keep h0 h ws ∧ ∀ y ∈ L, y.base ∈ ws ∨ h0.size ≤ y.base
section OwnC
variable {Z : State} {h0 h h' : Heap} {ws ws' : List Addr} {L L' : List Loc} {a : Addr} {sl : Nat} {v : Value}
theorem oKp.nil (h : Heap) (ws : List Addr) : oKp h h ws [] := ⟨Keep.refl _ _, fun _ q => nomatch q⟩
theorem oKp.ext (K : oKp h0 h ws L) (E : Ext h h') : oKp h0 h' ws L := ⟨K.1.ext E, K.2⟩
theorem oKp.wr (K : oKp h0 h ws L) (W : Wr h h' a sl v) (q : a ∈ ws ∨ h0.size ≤ a) : oKp h0 h' ws (L ++ [⟨a, sl⟩]) := ⟨K.1.wr W q, fun y hy => (List.mem_append.mp hy).elim (K.2 y) fun hy => by cases List.mem_singleton.mp hy; exact q⟩
theorem oKp.call (K : oKp h0 h ws L) (K' : oKp h h' ws' L') (q : ∀ x ∈ ws', x ∈ ws ∨ h0.size ≤ x) : oKp h0 h' ws (L ++ L') := ⟨K.1.trans K'.1 q, fun y hy => (List.mem_append.mp hy).elim (K.2 y) fun hy => (K'.2 y hy).elim (q _) fun z => Or.inr (Nat.le_trans K.1.1 z)⟩
theorem oKp.le (K : oKp h0 h ws L) : h0.size ≤ h.size := K.1.1
theorem oKp.old (K : oKp h0 h ws L) (O : Ext Z.heap h0) (q : ∀ x ∈ ws, Z.heap.size ≤ x) : Ext Z.heap h := ⟨Nat.le_trans O.1 K.1.1, fun x c hc => K.1.2.1 x c (O.2 x c hc) fun hx => absurd (Array.getElem?_eq_some_iff.mp hc).1 (Nat.not_lt.mpr (q x hx))⟩
theorem oKp.fr (K : oKp h0 h [] L) : Fr h0.size L := fun y hy => (K.2 y hy).elim (fun q => nomatch q) id
theorem oExtRefl (h : Heap) : Ext h h := ⟨Nat.le_refl _, fun _ _ q => q⟩
theorem Ext.keep0 (E : Ext h h') : Keep h h' [] := ⟨E.1, fun x c q _ => E.2 x c q, fun x c q => ⟨c, E.2 x c q, rfl, rfl, rfl⟩⟩
end OwnC
/-- a truth as an int -/
def oBi (P : Prop) [Decidable P] : Int32 := if P then 1 else 0
theorem oBi_t {P : Prop} [Decidable P] (h : P) : oBi P = 1 := if_pos h
theorem oBi_f {P : Prop} [Decidable P] (h : ¬ P) : oBi P = 0 := if_neg h
theorem oBi_ne {P : Prop} [Decidable P] (h : P) : ¬ oBi P = 0 := by rw [oBi_t h]; decide
theorem oBi_01 (P : Prop) [Decidable P] : oBi P = 0 ∨ oBi P = 1 := by by_cases h : P; exact Or.inr (if_pos h); exact Or.inl (if_neg h)
theorem oBi_0 {P : Prop} [Decidable P] (h : oBi P = 0) : ¬ P := fun q => oBi_ne q h
theorem oBi_1 {P : Prop} [Decidable P] (h : ¬ oBi P = 0) : P := Decidable.byContradiction fun q => h (oBi_f q)
section OwnD
variable {args : Array Value} {Z : State} {t u : Term} {C n d K : String} {a b : Addr} {k : Int32}
theorem oFldR (ht : t.eval args Z none [] Z = some (.ref a)) (hu : u.eval args Z none [] Z = some (.ref b)) (h : (Jvm.Cond.eq (.field t C n d) u).value args Z none Z [] = some true) : Fld Z Z.heap a C n d (.ref b) := by
  obtain ⟨x, y, e1, e2, k1, k2⟩ := cmp_v (Or.inl h)
  cases hu.symm.trans e2
  have hx : x.isRef = true := k2.2
  have q := gotT (eq_R e1 e2 hx rfl) h
  subst q
  exact Fld.start ((fld_at ht).symm.trans e1)
theorem oFldI (ht : t.eval args Z none [] Z = some (.ref a)) (h : (Jvm.Cond.eq (.field t C n d) (.int k)).value args Z none Z [] = some true) : Fld Z Z.heap a C n d (.int k) := by
  obtain ⟨x, y, e1, e2, k1, k2⟩ := cmp_v (Or.inl h)
  cases (Option.some.inj e2 : Value.int k = y)
  obtain ⟨z, rfl⟩ := (k2 : ∃ z, x = .int z)
  have q : z = k := by
    have h' := h
    simp only [Cond.value, e1, e2] at h'
    simpa using h'
  subst q
  exact Fld.start ((fld_at ht).symm.trans e1)
theorem oFldX (ht : t.eval args Z none [] Z = some (.ref a)) (h : (Jvm.Cond.exactly (.field t C n d) K).value args Z none Z [] = some true) : ∃ b, (Term.field t C n d).eval args Z none [] Z = some (.ref b) ∧ Fld Z Z.heap a C n d (.ref b) ∧ Exa Z Z.heap b K := by
  obtain ⟨b, e1⟩ := exa_v h
  exact ⟨b, e1, Fld.start ((fld_at ht).symm.trans e1), Exa.start e1 h⟩
theorem oNe32 {x y : Int32} (h : ¬ x = y) : x.toInt ≠ y.toInt := fun q => h (Int32.toInt_inj.mp q)
end OwnD
section OwnE
variable {Z : State} {a0 : Array Value} {C O K : String} {n : Nat} {h h' : Heap} {a : Addr} {ws : List Addr}
theorem oNSroot (wo : (Jvm.Cond.noSuperclass O).before a0 Z = true) (wk : (Jvm.Cond.instantiable K n).before a0 Z = true) (h2 : O ≠ K) : NS Z O K := by
  obtain ⟨t, kt, g1, -⟩ := Cond.instantiable_spec wk
  obtain ⟨c, k, a1, a2, a3, -, -⟩ := Cond.noSuperclass_spec wo
  have ne := ids_ne a1 g1 h2
  refine ⟨c, t, a1, g1, fun fuel => ?_⟩
  cases fuel with
  | zero => rfl
  | succ f => simp [Vm.isSubclassAux, ne, a2, a3]
theorem oNSno (w : (Jvm.Cond.superclass C O).before a0 Z = true) (wk : (Jvm.Cond.instantiable K n).before a0 Z = true) (N : NS Z C K) (h1 : C ≠ K) : ∃ c t, Z.vm.findClass C = some c ∧ Z.vm.findClass K = some t ∧ Z.vm.assignable c t = false := by
  obtain ⟨t, kt, g1, g2, g3, g4, -⟩ := Cond.instantiable_spec wk
  obtain ⟨c, t', b0, b1, b2⟩ := N
  cases g1.symm.trans b1
  obtain ⟨p, k, kp, e1, e2, e3, e4, e5, -, e7⟩ := Cond.superclass_spec b0 w
  have ne := ids_ne b0 g1 h1
  have gi : kt.isInterface = false := by simp only [Bool.or_eq_false_iff] at g4; exact g4.1
  refine ⟨c, t, b0, g1, ?_⟩
  show Z.vm.assignableAux (255 + 1) c t = false
  simp [Vm.assignableAux, ne, e2, g2, e5, g3, gi, Vm.isSubclass, b2]
theorem oNotInst (w : (Jvm.Cond.superclass C O).before a0 Z = true) (wo : (Jvm.Cond.noSuperclass O).before a0 Z = true) (wk : (Jvm.Cond.instantiable K n).before a0 Z = true) (h1 : C ≠ K) (h2 : O ≠ K) : ∃ c t, Z.vm.findClass C = some c ∧ Z.vm.findClass K = some t ∧ Z.vm.assignable c t = false :=
  oNSno w wk (NS.step w (oNSroot wo wk h2) h1) h1
theorem oInsKeep {b : Bool} (F : Ins Z h a K b) (H : Keep h h' ws) : Ins Z h' a K b := by
  obtain ⟨cell, cT, h1, h2, h3⟩ := F
  obtain ⟨c', e1, e2, e3, -⟩ := H.2.2 _ _ h1
  exact ⟨c', cT, e1, h2, by rw [e2, e3]; exact h3⟩
end OwnE
theorem oNot0 {args : Array Value} {Z : State} {t : Term} {x : Int32} (h : t.eval args Z none [] Z = some (.int x)) (hn : (Jvm.Cond.not (.eq t (.int 0))).value args Z none Z [] = some true) : ¬ x = (0 : Int32) := fun q => by
  subst q
  have e : (Jvm.Cond.eq t (.int 0)).value args Z none Z [] = some true := eq_i h (Term.int_eval 0) rfl
  simp [Cond.value] at hn e
  rw [e] at hn
  simp at hn
theorem oFldD {args : Array Value} {Z : State} {t : Term} {C n d : String} {a : Addr} {k : Int64} (ht : t.eval args Z none [] Z = some (.ref a)) (h : (Jvm.Cond.eq (.field t C n d) (.op1 .bitsD (.long k))).value args Z none Z [] = some true) : Fld Z Z.heap a C n d (.double k.toUInt64) := by
  obtain ⟨x, y, e1, e2, k1, k2⟩ := cmp_v (Or.inl h)
  have e3 : (Term.op1 .bitsD (.long k)).eval args Z none [] Z = some (.double k.toUInt64) := rfl
  cases e3.symm.trans e2
  obtain ⟨z, rfl⟩ := (k2 : ∃ z, x = .double z)
  have q : z = k.toUInt64 := by
    have h' := h
    simp only [Cond.value, e1, e2] at h'
    simpa using h'
  subst q
  exact Fld.start ((fld_at ht).symm.trans e1)
section OwnF
variable {p : Program} {l : Launch} {e : Env} {R : Room} {s : State} {m : MethodId} {args : Array Value} {below : List Frame} {meth : Method} {c : Code} {T : State} {locs : List Loc} {cells slots : Nat} {Z : State} {a0 : Array Value} {h : Heap} {own C : String} {index : Nat} {a mr : Addr}
/-- the Class object of C has been made: mr -/
def oMir (Z : State) (C : String) (mr : Addr) : Prop := ∃ (c : ClassId) (k : Class), Z.vm.findClass C = some c ∧ Z.vm.classes[c]? = some k ∧ k.mirror = some mr
abbrev oGc : MethodName := ⟨"java/lang/Object", "getClass", "()Ljava/lang/Class;"⟩
theorem oGcls (X : Stand p l e R s m args below meth c T locs cells slots) (hx : p.tables.exec = Jvm.exec) (hZ : Z.Warmed39 s.vm) (hown : s.vm.findClass own = some m.cls) (w1 : (Jvm.Cond.methodLink own index oGc).before a0 Z = true) (w2 : (Jvm.Cond.declares oGc).before a0 Z = true) (w4 : (Jvm.Cond.selects C oGc oGc).before a0 Z = true) (w5 : (Jvm.Cond.instanceMethod oGc).before a0 Z = true) (w6 : (Jvm.Cond.native oGc).before a0 Z = true) (eT : T.heap = h) (E : Exa Z h a C) (M : oMir Z C mr)
    {g : JFrame} (hg : g.method = m) (hsize : g.locals.size = c.maxLocals) {rest : List Value} (hs : g.stack = .ref a :: rest) (hd : decode c.code g.pc = .ok (.invokevirtual index, 3)) (hf : 1 ≤ R.frames) {W : Nat} (hW : 2 * g.monitorRoom + (rest.map fun v => v.category).sum ≤ W) (hl : W + (nativeFrameWords "java/lang/Object" "getClass" 1 + 11) ≤ R.locals) :
    ∃ T', Stand p l e R s m args below meth c T' locs cells slots ∧ T'.heap = h ∧ ∀ target, Steps p.tables e below (T'.setTop { g with pc := g.pc + 3, stack := .ref mr :: rest }) target → Steps p.tables e below (T.setTop g) target := by
  obtain ⟨cB, kB, i1, i2, i3⟩ := isOf hZ eT E
  obtain ⟨cc, kc, m1, m2, m3⟩ := M
  have i0 := i1
  rw [hZ.alike.findClass] at i1
  cases i1.symm.trans m1
  obtain ⟨k', q, ek⟩ := hZ.alike.2.2 _ _ m2
  obtain ⟨vm', X', st⟩ := X.getClassOf hx hown (mvT hZ w1) (mvT hZ w2) (notFace_of_selects (args := #[]) (mvT hZ w4)) (mvT hZ w4) (mvT hZ w5) (mvT hZ w6) i0 i3 q (by rw [ek]; exact m3) hg hsize hs hd hf (by omega)
  exact ⟨_, X', eT, st⟩
theorem oLdcM (X : Stand p l e R s m args below meth c T locs cells slots) (hx : p.tables.exec = Jvm.exec) (hZ : Z.Warmed39 s.vm) (hown : s.vm.findClass own = some m.cls) (w : (Jvm.Cond.classLink own index C).before a0 Z = true) (eT : T.heap = h) (M : oMir Z C mr)
    {g : JFrame} (hg : g.method = m) (hd : decode c.code g.pc = .ok (.ldc index, 2)) : ∃ T', Stand p l e R s m args below meth c T' locs cells slots ∧ T'.heap = h ∧ ∀ target, Steps p.tables e below (T'.setTop { g with pc := g.pc + 2, stack := .ref mr :: g.stack }) target → Steps p.tables e below (T.setTop g) target := by
  obtain ⟨cc, kc, m1, m2, m3⟩ := M
  obtain ⟨k', q, ek⟩ := hZ.alike.2.2 _ _ m2
  have f1 : s.vm.findClass C = some cc := by rw [hZ.alike.findClass]; exact m1
  have f2 : k'.mirror = some mr := by rw [ek]; exact m3
  obtain ⟨vm', X', st⟩ := X.ldcMirror hx hown (mvT hZ w) (a := mr) (by simp [Term.eval, f1, q, f2]) hg hd
  exact ⟨_, X', eT, st⟩
end OwnF
theorem oArr0 {args : Array Value} {Z : State} {t : Term} {a : Addr} {ty : FieldType} {dv : Value} (hf : Fit Z) (ev : t.eval args Z none [] Z = some (.ref a)) (h1 : (Jvm.Cond.arrayOf t ty).value args Z none Z [] = some true) (h2 : (Jvm.Cond.eq (.length t) (.int 0)).value args Z none Z [] = some true) : ∃ k, Arv Z Z.heap a k ty 0 [] dv := by
  obtain ⟨cl, A⟩ := Arr.start ev h1
  have ha : Z.arrayAt? a = some cl := Arr.fin (Vm.Alike.refl _) A
  have hlt : cl.slots.size < 2 ^ 31 := by
    apply Decidable.byContradiction
    intro q
    have e : (Term.length t).eval args Z none [] Z = none := by
      cases hv : (Term.length t).eval args Z none [] Z with
      | none => rfl
      | some y =>
        simp only [Term.eval, Option.bind_eq_bind] at hv
        rw [ev] at hv
        simp [ha, q] at hv
    simp [Cond.value, e] at h2
  have e : (Term.length t).eval args Z none [] Z = some (.int cl.slots.size.toInt32) := len_f ev ha hlt
  have z : cl.slots.size.toInt32 = 0 := by
    have h' := h2
    simp only [Cond.value, e, Term.int_eval] at h'
    simpa using h'
  have z' : cl.slots.size = 0 := by
    have := len_toInt hlt
    rw [z] at this
    have r : (0 : Int32).toInt = 0 := by decide
    omega
  exact ⟨_, Arv.start hf A hlt z (by decide) rfl trivial⟩
theorem oNar01 {z : Int32} (hz : z = 0 ∨ z = 1) : narrow .boolean (.int z) = .int z := by rcases hz with rfl | rfl <;> rfl
theorem oFitC {x : Int32} (h : 0 ≤ x.toInt ∧ x.toInt < 256) : fits .char (.int x) = true := by
  have e : x.toUInt32.toUInt16.toUInt32.toInt32 = x := by
    have a := c_i2c x
    apply Int32.toInt_inj.mp
    omega
  have q := fits_nar_char x
  have r : nar .char x = x := e
  rw [r] at q; exact q
section OwnH
variable {p : Program} {l : Launch} {e : Env} {R : Room} {s : State} {m : MethodId} {args : Array Value} {below : List Frame} {meth : Method} {c : Code} {T : State} {locs : List Loc} {cells slots : Nat} {Z : State} {a0 : Array Value} {EL : List (String × Nat)} {h h' h0 : Heap} {vm : Vm} {ws : List Addr} {a : Addr} {sl : Nat} {v : Value}
/-- what is known of the tables since the start: no pair of the intern table is old; the constants held still hold their texts -/
def oB (Z : State) (EL : List (String × Nat)) (s : State) (h0 : Heap) (vm : Vm) (h : Heap) : Prop := (∃ k0, s.Since vm k0 ∧ k0 ≤ h.size) ∧ CHr Z EL s.vm h0 vm h
theorem oB.ext (B : oB Z EL s h0 vm h) (E : Ext h h') : oB Z EL s h0 vm h' := ⟨B.1.imp fun _ q => ⟨q.1, Nat.le_trans q.2 E.1⟩, B.2.trans (CHr.ext E B.2.1)⟩
theorem oB.new {o : Addr} (B : oB Z EL s h0 vm h) (q : h.size ≤ o) : Safe Z EL vm h o := Safe.new q
theorem oB.wr (B : oB Z EL s h0 vm h) (W : Wr h h' a sl v) (S : Safe Z EL vm h a) : oB Z EL s h0 vm h' := ⟨B.1.imp fun _ q => ⟨q.1, by rw [W.size]; exact q.2⟩, B.2.trans (CHr.wr W S B.2.1)⟩
theorem oB.keep (B : oB Z EL s h0 vm h) (K : Keep h h' ws) (S : ∀ x ∈ ws, Safe Z EL vm h x) : oB Z EL s h0 vm h' := ⟨B.1.imp fun _ q => ⟨q.1, Nat.le_trans q.2 K.1⟩, B.2.trans (CHr.keep K S B.2.1)⟩
def oDnH (Z : State) (EL : List (String × Nat)) (s : State) (h0 : Heap) (below : List Frame) (Q : Option Value → Heap → List Loc → Prop) (k n : Nat) (t : State) : Prop := t.status = .running ∧ ∃ v L, Ended t below (.returned v) ∧ Q v t.heap L ∧ CHr Z EL s.vm h0 t.vm t.heap ∧ ReturnedEndW s (.returned v) t L k n
/-- a contract of a body that may load String constants; sf: objects that no constant's text lies in -/
abbrev oConH (l : Launch) (Z : State) (EL : List (String × Nat)) (y : MethodName) (bytes : ByteArray) (maxL : Nat) (ret : Option FieldType) (ws : List Jvm.Cond) (rm : Room) (as' : Array Value) (h0 : Heap) (sf : List Addr) (Q : Option Value → Heap → List Loc → Prop) : Prop :=
  MetFree l y (head1 (Jvm.Cond.code y bytes maxL ret :: ws) rm) (fun a U => a = as' ∧ Z.Warmed39 U.vm ∧ U.heap = h0 ∧ CHv Z EL U.vm h0 ∧ ∀ x ∈ sf, Safe Z EL U.vm h0 x) (fun _ _ _ _ _ => True) (fun _ U o U' => ∃ v L, o = .returned v ∧ Q v U'.heap L ∧ CHr Z EL U.vm U.heap U'.vm U'.heap ∧ ReturnedEndW U o U' L rm.cells rm.slots)
theorem oConH.of {l : Launch} {Z : State} {EL : List (String × Nat)} {y : MethodName} {bytes : ByteArray} {maxL : Nat} {ret : Option FieldType} {ws : List Jvm.Cond} {rm : Room} {as' : Array Value} {h0 : Heap} {sf : List Addr} {Q : Option Value → Heap → List Loc → Prop} (hp : plainFor y = true)
    (body : ∀ (p : Program) (e : Env) (s : State) (m : MethodId) (below : List Frame) (meth : Method) (c : Code) (T : State) (vm : Vm), Stand p l e rm (s.setVm vm) m as' below meth c T [] 0 0 → p.tables.exec = Jvm.exec → c.code = bytes → c.maxLocals = maxL → (s.setVm vm).vm.findClass y.cls = some m.cls → meth.name = y.name → meth.sig.returnType = ret → meth.locks = false → Z.Warmed39 (s.setVm vm).vm → T.heap = h0 → oB Z EL s h0 vm h0 → (∀ x ∈ sf, Safe Z EL vm h0 x) → oWk p.tables e below (oDnH Z EL s h0 below Q rm.cells rm.slots) T (entryFrame m as' maxL)) :
    oConH l Z EL y bytes maxL ret ws rm as' h0 sf Q := by
  refine MetFree.of_bodySF hp hisR ?_
  intro p e s m args below meth c s₁ Bd hml0 hP hK
  obtain ⟨rfl, hZ, hh, hC, hs⟩ := hP
  have e0 : s₁.heap = h0 := by rw [← hh, Bd.state]; rfl
  obtain ⟨t, h1, h2, v, L, h3, h4, h5, h6⟩ := body p e s m below meth c s₁ s.vm (Stand.of_body Bd) Bd.exec Bd.bytes hml0 (findClass_of_methodNamed Bd.named) (name_of_methodNamed Bd.named Bd.method).1 Bd.returns Bd.notSynchronized hZ e0 ⟨⟨h0.size, (State.WarmedH.refl s).since _, Nat.le_refl _⟩, CHr.refl hC⟩ hs
  exact ⟨t, _, h1, h2, h3, v, L, rfl, h4, by rw [hh]; exact h5, h6⟩
section Rets
variable {Q : Option Value → Heap → List Loc → Prop} {k n pc : Nat} {Ls : Array Slot}
theorem oRetH (X : Stand p l e R (s.setVm vm) m args below meth c T locs cells slots) (hx : p.tables.exec = Jvm.exec) (hlk : meth.locks = false) (hZ : Z.Warmed39 (s.setVm vm).vm) (hEL : EW Z a0 EL) (e0 : T.heap = h) (B : oB Z EL s h0 vm h) {w : Value} {t : FieldType} {i : Instr} {rest : List Value} (hret : meth.sig.returnType = some t) (hn : narrow t w = w)
    (hi : (i = .ireturn ∧ (t = .int ∨ t = .boolean ∨ t = .byte ∨ t = .char ∨ t = .short) ∧ ∃ z, w = .int z) ∨ (i = .lreturn ∧ t = .long ∧ ∃ z, w = .long z) ∨ (i = .dreturn ∧ t = .double ∧ ∃ z, w = .double z) ∨ (i = .freturn ∧ t = .float ∧ ∃ z, w = .float z) ∨ (i = .areturn ∧ t.isReference = true ∧ w.isRef = true))
    (hd : decode c.code pc = .ok (i, 1)) (hQ : Q (some w) T.heap locs) (hk : cells ≤ k) (hs : slots ≤ n) : oWk p.tables e below (oDnH Z EL s h0 below Q k n) T (mkF m pc Ls (w :: rest)) := by
  obtain ⟨⟨k0, hS, hk0⟩, C⟩ := B
  obtain ⟨fs, hr, hrun, hended, hW⟩ := X.leaveW hS (by rw [e0]; exact hk0) (v := some w) (fun h => by rw [hret] at h; cases h) hlk
  have C2 := C.trans (CHv.at X hZ hEL C.1)
  refine ⟨_, retOut X hx hret hn hi hd hr, hrun, _, _, hended, hQ, ?_, hW.1, hW.2.1, hW.2.2.1, hW.2.2.2.mono hk hs⟩
  show CHr Z EL s.vm h0 T.vm T.heap
  rw [e0]; exact C2
theorem oRetHV (X : Stand p l e R (s.setVm vm) m args below meth c T locs cells slots) (hx : p.tables.exec = Jvm.exec) (hlk : meth.locks = false) (hZ : Z.Warmed39 (s.setVm vm).vm) (hEL : EW Z a0 EL) (e0 : T.heap = h) (B : oB Z EL s h0 vm h) (hret : meth.sig.returnType = none) (hd : decode c.code pc = .ok (.return_, 1)) (hQ : Q none T.heap locs) (hk : cells ≤ k) (hs : slots ≤ n) :
    oWk p.tables e below (oDnH Z EL s h0 below Q k n) T (mkF m pc Ls []) := by
  obtain ⟨⟨k0, hS, hk0⟩, C⟩ := B
  obtain ⟨fs, hr, hrun, hended, hW⟩ := X.leaveW hS (by rw [e0]; exact hk0) (v := none) (fun _ => rfl) hlk
  have C2 := C.trans (CHv.at X hZ hEL C.1)
  refine ⟨_, X.returnOut hx hret hd hr, hrun, _, _, hended, hQ, ?_, hW.1, hW.2.1, hW.2.2.1, hW.2.2.2.mono hk hs⟩
  show CHr Z EL s.vm h0 T.vm T.heap
  rw [e0]; exact C2
end Rets
/-- a callee that may load String constants, by its contract -/
theorem oBackH {y : MethodName} {bytes : ByteArray} {maxL : Nat} {ret : Option FieldType} {rm : Room} {len W : Nat} {as' : Array Value} {Q : Option Value → Heap → List Loc → Prop} {sf : List Addr}
    (hM : oConH l Z EL y bytes maxL ret [] rm as' h sf Q) (hZ : Z.Warmed39 (s.setVm vm).vm) (wc : (Jvm.Cond.code y bytes maxL ret).before a0 Z = true) (wz : (Jvm.Cond.initialized y.cls).before a0 Z = true) (hf : rm.frames + 1 ≤ R.frames) (hl : W + (maxL + 11) + rm.locals ≤ R.locals) (hEL : EW Z a0 EL) (H : CHv Z EL vm h) (hs : ∀ x ∈ sf, x < h.size ∧ Safe Z EL vm h x) :
    BackS l R p e below (s.setVm vm) args y len W (fun A a => a = as' ∧ A.U.heap = h ∧ A.cells + rm.cells ≤ R.cells ∧ A.slots + rm.slots ≤ R.slots)
      (fun A _ v B => ∃ L, Q v B.U.heap L ∧ B.locs = A.locs ++ L ∧ B.cells = A.cells + rm.cells ∧ B.slots = A.slots + rm.slots ∧ CHr Z EL vm h B.U.vm B.U.heap) := by
  refine BackS.of_freeW (bytes := bytes) (maxL := maxL) (ret := ret) (E := fun _ first o t L k n => k = rm.cells ∧ n = rm.slots ∧ (∃ v, o = .returned v ∧ Q v t.heap L) ∧ CHr Z EL first.vm first.heap t.vm t.heap) hM hf hl ?_ ?_ (fun _ _ _ _ _ _ _ _ _ => trivial) ?_ ?_
  · intro m meth c A a Y hp
    have hU : Z.Warmed39 A.U.vm := wtrans (s := s.setVm vm) hZ Y.warmed
    exact ⟨by show (Cond.and _ .tt).before a A.U = true; rw [Cond.before_and, mv hU wc]; rfl, mv hU wc, mv hU wz, hp.2.2.1, hp.2.2.2⟩
  · intro m meth c A a g mk Y hp
    have D := CHv.at Y hZ hEL H
    exact ⟨hp.1, wtrans (s := s.setVm vm) hZ Y.warmed, hp.2.1, D.1, fun x hx => D.safe (hs x hx).1 (hs x hx).2⟩
  · rintro _ _ _ _ ⟨v, L, h1, h2, h3, h4⟩
    exact ⟨L, _, _, h4, rfl, rfl, ⟨v, h1, h2⟩, h3⟩
  · rintro m meth c A a g mk v t L k n Y hp _ _ ⟨e1, e2, ⟨v', e3, e4⟩, e5⟩
    cases e3; subst e1 e2
    refine ⟨L, e4, rfl, rfl, rfl, (CHv.at Y hZ hEL H).trans ?_⟩
    rw [← hp.2.1]; exact e5
/-- the tables behind such a call -/
theorem oB.call {U : State} (B : oB Z EL s h0 vm h) (hT : T.heap = h) (h2 : (s.setVm vm).Since U.vm U.heap.size) (g : T.heap.size ≤ U.heap.size) (C : CHr Z EL vm h U.vm U.heap) (e1 : U.heap = h') : oB Z EL s h0 U.vm h' := by
  subst e1
  obtain ⟨⟨k0, hS, hk0⟩, D⟩ := B
  exact ⟨⟨_, foldS (T := T) hS (by rw [hT]; exact hk0) h2 g, Nat.le_refl _⟩, D.trans C⟩
theorem oWide {U : State} {own : String} (hZ : Z.Warmed39 (s.setVm vm).vm) (hown : (s.setVm vm).vm.findClass own = some m.cls) (h2 : (s.setVm vm).Since U.vm U.heap.size) : Z.Warmed39 (s.setVm U.vm).vm ∧ (s.setVm U.vm).vm.findClass own = some m.cls :=
  ⟨State.Warmed39.trans (t := s.setVm vm) hZ h2.1, by show U.vm.findClass own = _; rw [h2.1.alike.findClass]; exact hown⟩
/-- ldc of a String constant, opaque -/
theorem oLdcO {own text : String} {index : Nat} (X : Stand p l e R (s.setVm vm) m args below meth c T locs cells slots) (hx : p.tables.exec = Jvm.exec) (hZ : Z.Warmed39 (s.setVm vm).vm) (hown : (s.setVm vm).vm.findClass own = some m.cls) (w : (Jvm.Cond.stringLink own index text).before a0 Z = true) (wS : ∀ a ∈ Bundle.stringAtoms, a.before a0 Z = true) (eT : T.heap = h) (hEL : EW Z a0 EL) (B : oB Z EL s h0 vm h)
    {g : JFrame} (hg : g.method = m) (hd : decode c.code g.pc = .ok (.ldc index, 2)) {n : Nat} (hn : 4 * text.toList.length ≤ n) (hbig : n ≤ 536870912) (hc : cells + 2 ≤ R.cells) (hl' : slots + (n + 4) ≤ R.slots) :
    ∃ (a : Addr) (T' : State) (h' : Heap), Stand p l e R (s.setVm T'.vm) m args below meth c T' locs (cells + 2) (slots + (n + 4)) ∧ T'.heap = h' ∧ Ext h h' ∧ Z.Warmed39 (s.setVm T'.vm).vm ∧ (s.setVm T'.vm).vm.findClass own = some m.cls ∧ oB Z EL s h0 T'.vm h' ∧ CHr Z EL vm h T'.vm h' ∧
      ∀ target, Steps p.tables e below (T'.setTop { g with pc := g.pc + 2, stack := .ref a :: g.stack }) target → Steps p.tables e below (T.setTop g) target := by
  obtain ⟨⟨k0, hS, hk0⟩, C⟩ := B
  obtain ⟨a, T', h', k1, X', e1, E, hS', hk1, hZ', hown', C', -, st⟩ := ldcOH X hx hZ hown w wS eT hS hk0 hEL C.1 hg hd hn hbig hc hl'
  exact ⟨a, T', h', X', e1, E, hZ', hown', ⟨⟨k1, hS', hk1⟩, C.trans C'⟩, C', st⟩
/-- ldc of a String constant of EL, read -/
theorem oLdcR {own text : String} {index : Nat} (X : Stand p l e R (s.setVm vm) m args below meth c T locs cells slots) (hx : p.tables.exec = Jvm.exec) (hZ : Z.Warmed39 (s.setVm vm).vm) (hown : (s.setVm vm).vm.findClass own = some m.cls) (w : (Jvm.Cond.stringLink own index text).before a0 Z = true) (wS : ∀ a ∈ Bundle.stringAtoms, a.before a0 Z = true) (eT : T.heap = h) (hEL : EW Z a0 EL) (hmem : (own, index) ∈ EL) (B : oB Z EL s h0 vm h)
    {vs : List Value} {z : Int32} (ht : (∀ c ∈ text.toList, c.toNat < 256) ∧ text.toList.map (fun c => Value.int (Jvm.Lit.byteI c.toNat.toUInt16)) = vs) (hz : ¬ z < 0) (hl : z.toNatClampNeg = vs.length)
    {g : JFrame} (hg : g.method = m) (hd : decode c.code g.pc = .ok (.ldc index, 2)) {n : Nat} (hn : 4 * text.toList.length ≤ n) (hbig : n ≤ 536870912) (hc : cells + 2 ≤ R.cells) (hl' : slots + (n + 4) ≤ R.slots) :
    ∃ (a : Addr) (T' : State) (h' : Heap) (b : Addr) (k : ClassId), Stand p l e R (s.setVm T'.vm) m args below meth c T' locs (cells + 2) (slots + (n + 4)) ∧ T'.heap = h' ∧ Ext h h' ∧ Z.Warmed39 (s.setVm T'.vm).vm ∧ (s.setVm T'.vm).vm.findClass own = some m.cls ∧ oB Z EL s h0 T'.vm h' ∧ CHr Z EL vm h T'.vm h' ∧
      Exa Z h' a "java/lang/String" ∧ Fld Z h' a "java/lang/String" "coder" "B" (.int 0) ∧ Fld Z h' a "java/lang/String" "value" "[B" (.ref b) ∧ Arv Z h' b k .byte z vs (.int 0) ∧ (∀ x, Safe Z EL T'.vm h' x → x ≠ a ∧ x ≠ b) ∧
      ∀ target, Steps p.tables e below (T'.setTop { g with pc := g.pc + 2, stack := .ref a :: g.stack }) target → Steps p.tables e below (T.setTop g) target := by
  obtain ⟨⟨k0, hS, hk0⟩, C⟩ := B
  obtain ⟨a, T', h', k1, b, k, X', e1, E, hS', hk1, hZ', hown', f1, f2, f3, f4, -, -, C', -, hne, st⟩ := ldcCH X hx hZ hown w wS eT hS hk0 hEL hmem C.1 ht hz hl hg hd hn hbig hc hl'
  exact ⟨a, T', h', b, k, X', e1, E, hZ', hown', ⟨⟨k1, hS', hk1⟩, C.trans C'⟩, C', f1, f2, f3, f4, hne, st⟩
end OwnH
/-- the sheet's words -/
abbrev oHW (a0 : Array Value) (Z : State) : Prop := ∀ d ∈ tables_1, d.before a0 Z = true
/-- a byte out of a char -/
abbrev ib (x : Int32) : Value := .int x.toInt8.toInt32
abbrev iu0 (x : Int32) : Value := .int (x >>> ((0 : Int32) &&& 31)).toInt8.toInt32
abbrev iu8 (x : Int32) : Value := .int (x >>> ((8 : Int32) &&& 31)).toInt8.toInt32
/-- a call's place: whoever stands there and has the callee's contract comes out behind it -/
def oCall (Z : State) (own : String) (i : Instr) (y : MethodName) (bytes : ByteArray) (maxL : Nat) (ret : Option FieldType) (P : Heap → List Value → Prop) : Prop :=
  ∀ (p : Program) (l : Launch) (e : Env) (R : Room) (s : State) (m : MethodId) (args : Array Value) (below : List Frame) (meth : Method) (c : Code) (T : State) (locs : List Loc) (cells slots : Nat) (h : Heap) (rm : Room) (Q : Option Value → Heap → List Loc → Prop) (pc W : Nat) (Ls : Array Slot) (S rest A : List Value),
    Stand p l e R s m args below meth c T locs cells slots → p.tables.exec = Jvm.exec → Z.Warmed39 s.vm → s.vm.findClass own = some m.cls → T.heap = h → P h A → oCon l Z y bytes maxL ret [] rm A.toArray h Q →
    (rm.frames + 1 ≤ R.frames ∧ W + (maxL + 11) + rm.locals ≤ R.locals ∧ cells + rm.cells ≤ R.cells ∧ slots + rm.slots ≤ R.slots) → Ls.size = c.maxLocals → S = A.reverse ++ rest → (rest.map fun v => v.category).sum = W → decode c.code pc = .ok (i, 3) →
    ∃ (v : Option Value) (T' : State) (L : List Loc), Stand p l e R s m args below meth c T' (locs ++ L) (cells + rm.cells) (slots + rm.slots) ∧ Q v T'.heap L ∧ ∀ t, Steps p.tables e below (T'.setTop (mkF m (pc + 3) Ls (v.toList ++ rest))) t → Steps p.tables e below (T.setTop (mkF m pc Ls S)) t
section OwnK
variable {Z : State} {a0 : Array Value} {own C : String} {index : Nat} {y z : MethodName} {bytes : ByteArray} {maxL : Nat} {ret : Option FieldType} {ps : List FieldType} {r : Option FieldType}
abbrev oRv (Z : State) (n : Nat) (C : String) (h : Heap) (A : List Value) : Prop := A.length = n + 1 ∧ ∃ o B, A = .ref o :: B ∧ Exa Z h o C
abbrev oRi (n : Nat) (_ : Heap) (A : List Value) : Prop := A.length = n + 1 ∧ ∃ (o : Addr) (B : List Value), A = .ref o :: B
abbrev oRs (n : Nat) (_ : Heap) (A : List Value) : Prop := A.length = n
theorem oLenOf {d : String} (hd : parseMethodDescriptor d = some ⟨ps, r⟩) {L : List Value} (hl : L.length = ps.length) : ∀ sig, parseMethodDescriptor d = some sig → L.length = sig.parameters.length := lenOf hd hl
theorem oCall.stat (w1 : (Jvm.Cond.methodLink own index y).before a0 Z = true) (w2 : (Jvm.Cond.static y).before a0 Z = true) (w3 : (Jvm.Cond.initialized y.cls).before a0 Z = true) (w4 : (Jvm.Cond.code y bytes maxL ret).before a0 Z = true) (hy : y.cls ≠ "java/lang/invoke/MethodHandle" ∧ y.cls ≠ "java/lang/invoke/VarHandle") (hd : parseMethodDescriptor y.desc = some ⟨ps, r⟩) :
    oCall Z own (.invokestatic index) y bytes maxL ret (oRs ps.length) := by
  intro p l e R s m args below meth c T locs cells slots h rm Q pc W Ls S rest A X hx hZ hown e0 hP con hN hsz hS hW hdg
  obtain ⟨v, _, ⟨T', L', k', n'⟩, -, X', ⟨L, hQ, l1, y1, z1⟩, st⟩ := Jvm.LawKit.callS X hx (y := y) hown (mvT hZ w1) (mvT hZ w2) (mvT hZ w3) (mvT hZ w4) hy (backOf (W := W) con hZ w4 w3 hN.1 hN.2.1) (g := mkF m pc Ls S) rfl hsz (argsL := A) (rest := rest) (lenOf hd hP) hS (by show 2 * 0 + _ ≤ W; rw [hW, Nat.mul_zero, Nat.zero_add]; exact Nat.le_refl _) hdg (fun _ _ => ⟨rfl, e0, hN.2.2.1, hN.2.2.2⟩)
  dsimp only [Pt.U, Pt.locs, Pt.cells, Pt.slots] at X' l1 y1 z1 st hQ
  subst l1 y1 z1
  exact ⟨v, T', L, X', hQ, st⟩
theorem oCall.init (h1 : y.name = "<init>") (w1 : (Jvm.Cond.methodLink own index y).before a0 Z = true) (w2 : (Jvm.Cond.instanceMethod y).before a0 Z = true) (w3 : (Jvm.Cond.initialized y.cls).before a0 Z = true) (w4 : (Jvm.Cond.code y bytes maxL none).before a0 Z = true) (hy : y.cls ≠ "java/lang/invoke/MethodHandle" ∧ y.cls ≠ "java/lang/invoke/VarHandle") (hd : parseMethodDescriptor y.desc = some ⟨ps, r⟩) :
    oCall Z own (.invokespecial index) y bytes maxL none (oRi ps.length) := by
  intro p l e R s m args below meth c T locs cells slots h rm Q pc W Ls S rest A X hx hZ hown e0 hP con hN hsz hS hW hdg
  obtain ⟨hl, o, B, rfl⟩ := hP
  obtain ⟨v, _, ⟨T', L', k', n'⟩, -, X', ⟨L, hQ, l1, y1, z1⟩, st⟩ := X.specialBack hx (y := y) h1 hown (mvT hZ w1) (mvT hZ w2) (mvT hZ w4) hy (backOf (W := W) con hZ w4 w3 hN.1 hN.2.1) (g := mkF m pc Ls S) rfl hsz (Steps.refl _) (a := o) (argsL := B) (rest := rest) (lenOf hd (Nat.succ.inj hl)) (by rw [show (mkF m pc Ls S).stack = S from rfl, hS, List.reverse_cons, List.append_assoc]; rfl) (by show 2 * 0 + _ ≤ W; rw [hW, Nat.mul_zero, Nat.zero_add]; exact Nat.le_refl _) hdg (fun _ _ => ⟨rfl, e0, hN.2.2.1, hN.2.2.2⟩)
  dsimp only [Pt.U, Pt.locs, Pt.cells, Pt.slots] at X' l1 y1 z1 st hQ
  subst l1 y1 z1
  exact ⟨v, T', L, X', hQ, fun t k => st.trans k⟩
theorem oCall.initN {host : String} (h1 : y.name = "<init>") (w1 : (Jvm.Cond.methodLinkNest own index y host).before a0 Z = true) (w2 : (Jvm.Cond.instanceMethod y).before a0 Z = true) (w3 : (Jvm.Cond.initialized y.cls).before a0 Z = true) (w4 : (Jvm.Cond.code y bytes maxL none).before a0 Z = true) (hy : y.cls ≠ "java/lang/invoke/MethodHandle" ∧ y.cls ≠ "java/lang/invoke/VarHandle") (hd : parseMethodDescriptor y.desc = some ⟨ps, r⟩) :
    oCall Z own (.invokespecial index) y bytes maxL none (oRi ps.length) := by
  intro p l e R s m args below meth c T locs cells slots h rm Q pc W Ls S rest A X hx hZ hown e0 hP con hN hsz hS hW hdg
  obtain ⟨hl, o, B, rfl⟩ := hP
  obtain ⟨v, _, ⟨T', L', k', n'⟩, -, X', ⟨L, hQ, l1, y1, z1⟩, st⟩ := X.specialBackNest hx (y := y) h1 hown (oMvM hZ w1) (mvT hZ w2) (mvT hZ w4) hy (backOf (W := W) con hZ w4 w3 hN.1 hN.2.1) (g := mkF m pc Ls S) rfl hsz (Steps.refl _) (a := o) (argsL := B) (rest := rest) (lenOf hd (Nat.succ.inj hl)) (by rw [show (mkF m pc Ls S).stack = S from rfl, hS, List.reverse_cons, List.append_assoc]; rfl) (by show 2 * 0 + _ ≤ W; rw [hW, Nat.mul_zero, Nat.zero_add]; exact Nat.le_refl _) hdg (fun _ _ => ⟨rfl, e0, hN.2.2.1, hN.2.2.2⟩)
  dsimp only [Pt.U, Pt.locs, Pt.cells, Pt.slots] at X' l1 y1 z1 st hQ
  subst l1 y1 z1
  exact ⟨v, T', L, X', hQ, fun t k => st.trans k⟩
theorem oCall.virt (w1 : (Jvm.Cond.methodLink own index y).before a0 Z = true) (w2 : (Jvm.Cond.declares y).before a0 Z = true) (nf : ∀ s, Z.Warmed39 s.vm → NotFace s y) (w5 : (Jvm.Cond.selects C y z).before a0 Z = true) (w6 : (Jvm.Cond.instanceMethod z).before a0 Z = true) (w3 : (Jvm.Cond.initialized z.cls).before a0 Z = true) (w4 : (Jvm.Cond.code z bytes maxL ret).before a0 Z = true) (hy : y.cls ≠ "java/lang/invoke/MethodHandle" ∧ y.cls ≠ "java/lang/invoke/VarHandle") (hd : parseMethodDescriptor y.desc = some ⟨ps, r⟩) :
    oCall Z own (.invokevirtual index) z bytes maxL ret (oRv Z ps.length C) := by
  intro p l e R s m args below meth c T locs cells slots h rm Q pc W Ls S rest A X hx hZ hown e0 hP con hN hsz hS hW hdg
  obtain ⟨hl, o, B, rfl, E⟩ := hP
  obtain ⟨cq, kq, qa, qb, qc⟩ := isOf hZ e0 E
  obtain ⟨v, _, ⟨T', L', k', n'⟩, -, X', ⟨L, hQ, l1, y1, z1⟩, st⟩ := X.virtualBack hx (y := y) (z := z) hown (mvT hZ w1) (mvT hZ w2) (nf s hZ) (mvT hZ w5) (mvT hZ w6) hy (backOf (W := W) con hZ w4 w3 hN.1 hN.2.1) qa qc (g := mkF m pc Ls S) rfl hsz (Steps.refl _) (argsL := B) (rest := rest) (lenOf hd (Nat.succ.inj hl)) (by rw [show (mkF m pc Ls S).stack = S from rfl, hS, List.reverse_cons, List.append_assoc]; rfl) (by show 2 * 0 + _ ≤ W; rw [hW, Nat.mul_zero, Nat.zero_add]; exact Nat.le_refl _) hdg (fun _ _ => ⟨rfl, e0, hN.2.2.1, hN.2.2.2⟩)
  dsimp only [Pt.U, Pt.locs, Pt.cells, Pt.slots] at X' l1 y1 z1 st hQ
  subst l1 y1 z1
  exact ⟨v, T', L, X', hQ, fun t k => st.trans k⟩
theorem oCall.priv (w1 : (Jvm.Cond.methodLink own index y).before a0 Z = true) (w2 : (Jvm.Cond.instanceMethod y).before a0 Z = true) (w5 : (Jvm.Cond.selects y.cls y y).before a0 Z = true) (w6 : (Jvm.Cond.privateMethod y).before a0 Z = true) (w3 : (Jvm.Cond.initialized y.cls).before a0 Z = true) (w4 : (Jvm.Cond.code y bytes maxL ret).before a0 Z = true) (hy : y.cls ≠ "java/lang/invoke/MethodHandle" ∧ y.cls ≠ "java/lang/invoke/VarHandle") (hd : parseMethodDescriptor y.desc = some ⟨ps, r⟩) (C : String) :
    oCall Z own (.invokevirtual index) y bytes maxL ret (oRv Z ps.length C) := by
  intro p l e R s m args below meth c T locs cells slots h rm Q pc W Ls S rest A X hx hZ hown e0 hP con hN hsz hS hW hdg
  obtain ⟨hl, o, B, rfl, E⟩ := hP
  obtain ⟨cq, qa, qb⟩ := E.cell
  obtain ⟨v, _, ⟨T', L', k', n'⟩, -, X', ⟨L, hQ, l1, y1, z1⟩, st⟩ := X.privateBack hx (y := y) hown (mvT hZ w1) (mvT hZ w2) (mvT hZ w5) (Cond.privateMethod_at (mvP hZ w6 (args := #[]))) (mvT hZ w4) hy (backOf (W := W) con hZ w4 w3 hN.1 hN.2.1) (g := mkF m pc Ls S) rfl hsz (Steps.refl _) (a := o) (by rw [e0]; exact qa) qb (argsL := B) (rest := rest) (lenOf hd (Nat.succ.inj hl)) (by rw [show (mkF m pc Ls S).stack = S from rfl, hS, List.reverse_cons, List.append_assoc]; rfl) (by show 2 * 0 + _ ≤ W; rw [hW, Nat.mul_zero, Nat.zero_add]; exact Nat.le_refl _) hdg (fun _ _ => ⟨rfl, e0, hN.2.2.1, hN.2.2.2⟩)
  dsimp only [Pt.U, Pt.locs, Pt.cells, Pt.slots] at X' l1 y1 z1 st hQ
  subst l1 y1 z1
  exact ⟨v, T', L, X', hQ, fun t k => st.trans k⟩
variable {p : Program} {l : Launch} {e : Env} {R : Room} {s : State} {m : MethodId} {args : Array Value} {below : List Frame} {meth : Method} {c : Code} {T : State} {locs : List Loc} {cells slots : Nat} {h h0 : Heap} {rm : Room} {Q : Option Value → Heap → List Loc → Prop} {pc W ml : Nat} {Ls : Array Slot} {S rest A : List Value} {i : Instr} {P : Heap → List Value → Prop} {ws : List Addr} {w : Option Value} {bb : ByteArray}
/-- a call that leaves the heap as it is -/
theorem oCall.pure (H : oCall Z own i y bytes maxL ret P) (X : Stand p l e R s m args below meth c T locs cells slots) (hx : p.tables.exec = Jvm.exec) (hZ : Z.Warmed39 s.vm) (hown : s.vm.findClass own = some m.cls) (e0 : T.heap = h) (K : oKp h0 h ws locs) (hP : P h A) (con : oCon l Z y bytes maxL ret [] rm A.toArray h Q) (hQ : ∀ v h' L, Q v h' L → v = w ∧ h' = h ∧ oKp h h' [] L)
    (hN : rm.frames + 1 ≤ R.frames ∧ W + (maxL + 11) + rm.locals ≤ R.locals ∧ cells + rm.cells ≤ R.cells ∧ slots + rm.slots ≤ R.slots) (hml : c.maxLocals = ml) (hsz : Ls.size = ml) (hS : S = A.reverse ++ rest) (hW : (rest.map fun v => v.category).sum = W) (hby : c.code = bb) (hdg : decode bb pc = .ok (i, 3)) :
    ∃ (T' : State) (L : List Loc), Stand p l e R s m args below meth c T' (locs ++ L) (cells + rm.cells) (slots + rm.slots) ∧ T'.heap = h ∧ oKp h0 h ws (locs ++ L) ∧ ∀ t, Steps p.tables e below (T'.setTop (mkF m (pc + 3) Ls (w.toList ++ rest))) t → Steps p.tables e below (T.setTop (mkF m pc Ls S)) t := by
  obtain ⟨v, T', L, X', q, st⟩ := H _ _ _ _ _ _ _ _ _ _ _ _ _ _ _ _ _ _ _ _ _ _ _ X hx hZ hown e0 hP con hN (hsz.trans hml.symm) hS hW (hb hby hdg)
  obtain ⟨rfl, e1, K1⟩ := hQ _ _ _ q
  rw [e1] at K1
  exact ⟨T', L, X', e1, K.call K1 all0, st⟩
/-- a call that may change it -/
theorem oCall.run (H : oCall Z own i y bytes maxL ret P) (X : Stand p l e R s m args below meth c T locs cells slots) (hx : p.tables.exec = Jvm.exec) (hZ : Z.Warmed39 s.vm) (hown : s.vm.findClass own = some m.cls) (e0 : T.heap = h) (hP : P h A) (con : oCon l Z y bytes maxL ret [] rm A.toArray h Q)
    (hN : rm.frames + 1 ≤ R.frames ∧ W + (maxL + 11) + rm.locals ≤ R.locals ∧ cells + rm.cells ≤ R.cells ∧ slots + rm.slots ≤ R.slots) (hml : c.maxLocals = ml) (hsz : Ls.size = ml) (hS : S = A.reverse ++ rest) (hW : (rest.map fun v => v.category).sum = W) (hby : c.code = bb) (hdg : decode bb pc = .ok (i, 3)) :
    ∃ (v : Option Value) (T' : State) (h' : Heap) (L : List Loc), Stand p l e R s m args below meth c T' (locs ++ L) (cells + rm.cells) (slots + rm.slots) ∧ T'.heap = h' ∧ Q v h' L ∧ ∀ t, Steps p.tables e below (T'.setTop (mkF m (pc + 3) Ls (v.toList ++ rest))) t → Steps p.tables e below (T.setTop (mkF m pc Ls S)) t := by
  obtain ⟨v, T', L, X', q, st⟩ := H _ _ _ _ _ _ _ _ _ _ _ _ _ _ _ _ _ _ _ _ _ _ _ X hx hZ hown e0 hP con hN (hsz.trans hml.symm) hS hW (hb hby hdg)
  exact ⟨v, T', _, L, X', rfl, q, st⟩
end OwnK
section OwnZ
variable {p : Program} {l : Launch} {e : Env} {R : Room} {s : State} {m : MethodId} {args : Array Value} {below : List Frame} {meth : Method} {c : Code} {T t : State} {locs : List Loc} {cells slots : Nat} {b : ByteArray} {g : JFrame} {x y : Int32} {v : Value} {rest : List Value} {k : Nat} {k4 : Fin 4} {i o : Int} {l' : Array Slot} {pc' : Nat} {cd : ClassFile.Cond}
theorem zA (X : Stand p l e R s m args below meth c T locs cells slots) (hx : p.tables.exec = Jvm.exec) (hby : c.code = b) (hd : decode b g.pc = .ok (.aload_n k4, 1)) (hg : g.method = m) (h0 : g.locals[k4.val]? = some (.val v)) (h1 : v.isRef = true) (hr : Steps p.tables e below (T.setTop { g with pc := g.pc + 1, stack := v :: g.stack }) t) : Steps p.tables e below (T.setTop g) t := XS.aloadN X.here hx hg (hb hby hd) h0 h1 hr
theorem zI (X : Stand p l e R s m args below meth c T locs cells slots) (hx : p.tables.exec = Jvm.exec) (hby : c.code = b) (hd : decode b g.pc = .ok (.iload_n k4, 1)) (hg : g.method = m) (h0 : g.locals[k4.val]? = some (.val (.int x))) (hr : Steps p.tables e below (T.setTop { g with pc := g.pc + 1, stack := .int x :: g.stack }) t) : Steps p.tables e below (T.setTop g) t := XS.iloadN X.here hx hg (hb hby hd) h0 hr
theorem zB (X : Stand p l e R s m args below meth c T locs cells slots) (hx : p.tables.exec = Jvm.exec) (hby : c.code = b) (hd : decode b g.pc = .ok (.aload k, 2)) (hg : g.method = m) (h0 : g.locals[k]? = some (.val v)) (h1 : v.isRef = true) (hr : Steps p.tables e below (T.setTop { g with pc := g.pc + 2, stack := v :: g.stack }) t) : Steps p.tables e below (T.setTop g) t := XS.aload X.here hx hg (hb hby hd) h0 h1 hr
theorem zJ (X : Stand p l e R s m args below meth c T locs cells slots) (hx : p.tables.exec = Jvm.exec) (hby : c.code = b) (hd : decode b g.pc = .ok (.iload k, 2)) (hg : g.method = m) (h0 : g.locals[k]? = some (.val (.int x))) (hr : Steps p.tables e below (T.setTop { g with pc := g.pc + 2, stack := .int x :: g.stack }) t) : Steps p.tables e below (T.setTop g) t := XS.iload X.here hx hg (hb hby hd) h0 hr
theorem zK (X : Stand p l e R s m args below meth c T locs cells slots) (hx : p.tables.exec = Jvm.exec) (hby : c.code = b) (hd : decode b g.pc = .ok (.iconst i, 1)) (hg : g.method = m)  (hr : Steps p.tables e below (T.setTop { g with pc := g.pc + 1, stack := .int (Int32.ofInt i) :: g.stack }) t) : Steps p.tables e below (T.setTop g) t := XS.iconst X.here hx hg (hb hby hd) hr
theorem zL (X : Stand p l e R s m args below meth c T locs cells slots) (hx : p.tables.exec = Jvm.exec) (hby : c.code = b) (hd : decode b g.pc = .ok (.bipush i, 2)) (hg : g.method = m)  (hr : Steps p.tables e below (T.setTop { g with pc := g.pc + 2, stack := .int (Int8.ofInt i).toInt32 :: g.stack }) t) : Steps p.tables e below (T.setTop g) t := XS.bipush X.here hx hg (hb hby hd) hr
theorem zM (X : Stand p l e R s m args below meth c T locs cells slots) (hx : p.tables.exec = Jvm.exec) (hby : c.code = b) (hd : decode b g.pc = .ok (.sipush i, 3)) (hg : g.method = m)  (hr : Steps p.tables e below (T.setTop { g with pc := g.pc + 3, stack := .int (Int16.ofInt i).toInt32 :: g.stack }) t) : Steps p.tables e below (T.setTop g) t := XS.sipush X.here hx hg (hb hby hd) hr
theorem zS (X : Stand p l e R s m args below meth c T locs cells slots) (hx : p.tables.exec = Jvm.exec) (hby : c.code = b) (hd : decode b g.pc = .ok (.istore k, 2)) (hg : g.method = m) (h0 : g.stack = .int x :: rest) (h1 : storeLocals g.locals k (.int x) = some l') (hr : Steps p.tables e below (T.setTop { g with pc := g.pc + 2, locals := l', stack := rest }) t) : Steps p.tables e below (T.setTop g) t := XS.istore X.here hx hg (hb hby hd) h0 h1 hr
theorem zSn (X : Stand p l e R s m args below meth c T locs cells slots) (hx : p.tables.exec = Jvm.exec) (hby : c.code = b) (hd : decode b g.pc = .ok (.istore_n k4, 1)) (hg : g.method = m) (h0 : g.stack = .int x :: rest) (h1 : storeLocals g.locals k4.val (.int x) = some l') (hr : Steps p.tables e below (T.setTop { g with pc := g.pc + 1, locals := l', stack := rest }) t) : Steps p.tables e below (T.setTop g) t := XS.istoreN X.here hx hg (hb hby hd) h0 h1 hr
theorem zT (X : Stand p l e R s m args below meth c T locs cells slots) (hx : p.tables.exec = Jvm.exec) (hby : c.code = b) (hd : decode b g.pc = .ok (.astore k, 2)) (hg : g.method = m) (h0 : g.stack = v :: rest) (h1 : v.isRef = true) (h2 : storeLocals g.locals k v = some l') (hr : Steps p.tables e below (T.setTop { g with pc := g.pc + 2, locals := l', stack := rest }) t) : Steps p.tables e below (T.setTop g) t := XS.astore X.here hx hg (hb hby hd) h0 h1 h2 hr
theorem zTn (X : Stand p l e R s m args below meth c T locs cells slots) (hx : p.tables.exec = Jvm.exec) (hby : c.code = b) (hd : decode b g.pc = .ok (.astore_n k4, 1)) (hg : g.method = m) (h0 : g.stack = v :: rest) (h1 : v.isRef = true) (h2 : storeLocals g.locals k4.val v = some l') (hr : Steps p.tables e below (T.setTop { g with pc := g.pc + 1, locals := l', stack := rest }) t) : Steps p.tables e below (T.setTop g) t := XS.astoreN X.here hx hg (hb hby hd) h0 h1 h2 hr
theorem zG (X : Stand p l e R s m args below meth c T locs cells slots) (hx : p.tables.exec = Jvm.exec) (hby : c.code = b) (hd : decode b g.pc = .ok (.goto o, 3)) (hg : g.method = m)  (hj : (g.pc : Int) + o = (pc' : Int)) (hr : Steps p.tables e below (T.setTop { g with pc := pc' }) t) : Steps p.tables e below (T.setTop g) t := XS.goto X.here hx hg rfl (hb hby hd) (by rw [hj]; exact Int.natCast_nonneg _) (by rw [hj]; exact Int.toNat_natCast _) hr
theorem zY (X : Stand p l e R s m args below meth c T locs cells slots) (hx : p.tables.exec = Jvm.exec) (hby : c.code = b) (hd : decode b g.pc = .ok (.if_icmp cd o, 3)) (hg : g.method = m) (h0 : g.stack = .int y :: .int x :: rest) (h1 : if_icmp.holds cd x y = true) (hj : (g.pc : Int) + o = (pc' : Int)) (hr : Steps p.tables e below (T.setTop { g with pc := pc', stack := rest }) t) : Steps p.tables e below (T.setTop g) t := XS.icmpYes X.here hx hg rfl (hb hby hd) h0 h1 (by rw [hj]; exact Int.natCast_nonneg _) (by rw [hj]; exact Int.toNat_natCast _) hr
theorem zN (X : Stand p l e R s m args below meth c T locs cells slots) (hx : p.tables.exec = Jvm.exec) (hby : c.code = b) (hd : decode b g.pc = .ok (.if_icmp cd o, 3)) (hg : g.method = m) (h0 : g.stack = .int y :: .int x :: rest) (h1 : if_icmp.holds cd x y = false) (hr : Steps p.tables e below (T.setTop { g with pc := g.pc + 3, stack := rest }) t) : Steps p.tables e below (T.setTop g) t := XS.icmpNo X.here hx hg (hb hby hd) h0 h1 hr
theorem zF (X : Stand p l e R s m args below meth c T locs cells slots) (hx : p.tables.exec = Jvm.exec) (hby : c.code = b) (hd : decode b g.pc = .ok (.ifCond cd o, 3)) (hg : g.method = m) (h0 : g.stack = .int x :: rest) (h1 : ifCond.holds cd x = true) (hj : (g.pc : Int) + o = (pc' : Int)) (hr : Steps p.tables e below (T.setTop { g with pc := pc', stack := rest }) t) : Steps p.tables e below (T.setTop g) t := XS.ifYes X.here hx hg rfl (hb hby hd) h0 h1 (by rw [hj]; exact Int.natCast_nonneg _) (by rw [hj]; exact Int.toNat_natCast _) hr
theorem zH (X : Stand p l e R s m args below meth c T locs cells slots) (hx : p.tables.exec = Jvm.exec) (hby : c.code = b) (hd : decode b g.pc = .ok (.ifCond cd o, 3)) (hg : g.method = m) (h0 : g.stack = .int x :: rest) (h1 : ifCond.holds cd x = false) (hr : Steps p.tables e below (T.setTop { g with pc := g.pc + 3, stack := rest }) t) : Steps p.tables e below (T.setTop g) t := XS.ifNo X.here hx hg (hb hby hd) h0 h1 hr
theorem zC (X : Stand p l e R s m args below meth c T locs cells slots) (hx : p.tables.exec = Jvm.exec) (hby : c.code = b) (hd : decode b g.pc = .ok (.iinc k i, 3)) (hg : g.method = m) (h0 : g.locals[k]? = some (.val (.int x))) (h1 : storeLocals g.locals k (.int (x + Int32.ofInt i)) = some l') (hr : Steps p.tables e below (T.setTop { g with pc := g.pc + 3, locals := l' }) t) : Steps p.tables e below (T.setTop g) t := XS.iinc X.here hx hg (hb hby hd) h0 h1 hr
theorem zD (X : Stand p l e R s m args below meth c T locs cells slots) (hx : p.tables.exec = Jvm.exec) (hby : c.code = b) (hd : decode b g.pc = .ok (.dup, 1)) (hg : g.method = m) (h0 : g.stack = v :: rest) (h1 : v.category = 1) (hr : Steps p.tables e below (T.setTop { g with pc := g.pc + 1, stack := v :: v :: rest }) t) : Steps p.tables e below (T.setTop g) t := XS.dup X.here hx hg (hb hby hd) h0 h1 hr
end OwnZ
section OwnL
variable {p : Program} {l : Launch} {e : Env} {R : Room} {s : State} {m : MethodId} {args : Array Value} {below : List Frame} {meth : Method} {c : Code} {T t : State} {locs : List Loc} {cells slots : Nat} {b : ByteArray} {g : JFrame} {Z : State} {h : Heap} {a : Addr} {k : ClassId} {n : Int32} {vs : List Value} {dv : Value} {ty : FieldType} {rest : List Value}
theorem oAl (X : Stand p l e R s m args below meth c T locs cells slots) (hx : p.tables.exec = Jvm.exec) (hZ : Z.Warmed39 s.vm) (e0 : T.heap = h) (V : Arv Z h a k ty n vs dv) (hby : c.code = b) (hd : decode b g.pc = .ok (.arraylength, 1)) (hg : g.method = m) (hs : g.stack = .ref a :: rest) (hr : Steps p.tables e below (T.setTop { g with pc := g.pc + 1, stack := .int n :: rest }) t) : Steps p.tables e below (T.setTop g) t := by
  obtain ⟨cl, Ar, q, Sz, Nn, Hs, Ft⟩ := V
  exact X.arraylength hx (by rw [e0]; exact Ar.1) (State.isArrayOf_alike hZ.alike Ar.2.1) hg hs (hb hby hd) _ (by rw [len_of Sz Nn]; exact hr)
theorem oLdB (X : Stand p l e R s m args below meth c T locs cells slots) (hx : p.tables.exec = Jvm.exec) (hZ : Z.Warmed39 s.vm) (e0 : T.heap = h) (V : Arv Z h a k .byte n vs dv) (j : Int32) (v : Value) (hj : ¬ j < 0 ∧ j < n) (hv : vs.getD j.toNatClampNeg dv = v) (hby : c.code = b) (hd : decode b g.pc = .ok (.baload, 1)) (hg : g.method = m) (hs : g.stack = .int j :: .ref a :: rest) (hr : Steps p.tables e below (T.setTop { g with pc := g.pc + 1, stack := v :: rest }) t) : Steps p.tables e below (T.setTop g) t := by
  obtain ⟨cl, Ar, q, Sz, Nn, Hs, Ft⟩ := V
  exact X.baloadBytes hx (by rw [e0]; exact Ar.1) (State.isArrayOf_alike hZ.alike Ar.2.1) Ar.2.2 (inb_of Sz hj) (Hs.at (inb_of Sz hj) hv) hg hs (hb hby hd) _ hr
theorem oLdC (X : Stand p l e R s m args below meth c T locs cells slots) (hx : p.tables.exec = Jvm.exec) (hZ : Z.Warmed39 s.vm) (e0 : T.heap = h) (V : Arv Z h a k .char n vs dv) (j : Int32) (v : Value) (hj : ¬ j < 0 ∧ j < n) (hv : vs.getD j.toNatClampNeg dv = v) (hby : c.code = b) (hd : decode b g.pc = .ok (.caload, 1)) (hg : g.method = m) (hs : g.stack = .int j :: .ref a :: rest) (hr : Steps p.tables e below (T.setTop { g with pc := g.pc + 1, stack := v :: rest }) t) : Steps p.tables e below (T.setTop g) t := by
  obtain ⟨cl, Ar, q, Sz, Nn, Hs, Ft⟩ := V
  exact X.caload hx (by rw [e0]; exact Ar.1) (State.isArrayOf_alike hZ.alike Ar.2.1) Ar.2.2 (inb_of Sz hj) (Hs.at (inb_of Sz hj) hv) hg hs (hb hby hd) _ hr
theorem oLdR (X : Stand p l e R s m args below meth c T locs cells slots) (hx : p.tables.exec = Jvm.exec) (hZ : Z.Warmed39 s.vm) (e0 : T.heap = h) {C : String} (V : Arv Z h a k (.object C) n vs dv) (j : Int32) (v : Value) (hj : ¬ j < 0 ∧ j < n) (hv : vs.getD j.toNatClampNeg dv = v) (hby : c.code = b) (hd : decode b g.pc = .ok (.aaload, 1)) (hg : g.method = m) (hs : g.stack = .int j :: .ref a :: rest) (hr : Steps p.tables e below (T.setTop { g with pc := g.pc + 1, stack := v :: rest }) t) : Steps p.tables e below (T.setTop g) t := by
  obtain ⟨cl, Ar, q, Sz, Nn, Hs, Ft⟩ := V
  exact X.aaload hx (by rw [e0]; exact Ar.1) (State.isArrayOf_alike hZ.alike Ar.2.1) rfl Ar.2.2 (inb_of Sz hj) (Hs.at (inb_of Sz hj) hv) hg hs (hb hby hd) _ hr
end OwnL
abbrev Y0 : String := "java/lang/String"
abbrev Y1 : String := "COMPACT_STRINGS"
abbrev Y2 : String := "jdk/internal/util/Preconditions"
abbrev Y3 : String := "SIOOBE_FORMATTER"
abbrev Y4 : String := "Ljava/util/function/BiFunction;"
abbrev Y5 : String := "java/lang/StringLatin1"
abbrev Y6 : String := "com/example/tributary/tributary/LocationsSourcePathPinLaw"
abbrev Y7 : String := "java/util/Arrays"
abbrev Y8 : String := "java/lang/StringUTF16"
abbrev Y9 : String := "com/example/tributary/tributary/Locations"
def oEL : List (String × Nat) := [(Y5, 151)]
theorem oTx0 : (∀ c ∈ "".toList, c.toNat < 256) ∧ "".toList.map (fun c => Value.int (Jvm.Lit.byteI c.toNat.toUInt16)) = [] := ⟨by decide, by decide +kernel⟩
theorem oELw {a0 : Array Value} {Z : State} (hw : ∀ d ∈ tables_1, d.before a0 Z = true) : EW Z a0 oEL := (EW.cons (oW hw 94 rfl) oTx0.1 EW.nil)
theorem oSAin : ∀ a ∈ Bundle.stringAtoms, a ∈ tables_1 := by decide +kernel
theorem oSA {a0 : Array Value} {Z : State} (hw : ∀ d ∈ tables_1, d.before a0 Z = true) : ∀ a ∈ Bundle.stringAtoms, a.before a0 Z = true := fun a ha => hw a (oSAin a ha)
theorem oB8 (x : Int32) : x.toInt8.toInt32.toInt8.toInt32 = x.toInt8.toInt32 := by rw [Int8.toInt8_toInt32]
theorem oB8inj {x y : Int32} (hx : 0 ≤ x.toInt ∧ x.toInt < 256) (hy : 0 ≤ y.toInt ∧ y.toInt < 256) (h : x.toInt8.toInt32 = y.toInt8.toInt32) : x = y := by
  have a := c_i2b x
  have b := c_i2b y
  rw [h] at a
  apply Int32.toInt_inj.mp
  omega
theorem oCmp {P R : Prop} [Decidable P] [Decidable R] (h : P ↔ R) : oBi P = oBi R := by
  by_cases q : P
  · rw [oBi_t q, oBi_t (h.mp q)]
  · rw [oBi_f q, oBi_f (fun r => q (h.mpr r))]
theorem oM255 (x : Int32) : 0 ≤ (x &&& 255).toInt ∧ (x &&& 255).toInt < 256 := by
  have q := c_mask x 255 8 (by decide) (by decide)
  omega
theorem oChr {x : Int32} (h : 0 ≤ x.toInt ∧ x.toInt < 256) : x.toUInt32.toUInt16.toUInt32.toInt32 = x := by
  have a := c_i2c x
  apply Int32.toInt_inj.mp
  omega
theorem oLe255 {x : Int32} (h : 0 ≤ x.toInt ∧ x.toInt < 256) : ¬ (255 : Int32) < x := fun q => by
  have r : (255 : Int32).toInt < x.toInt := Int32.lt_iff_toInt_lt.mp q
  have s : (255 : Int32).toInt = 255 := by decide
  omega
theorem oBk {x : Int32} (h : 0 ≤ x.toInt ∧ x.toInt < 256) : (x.toInt8.toInt32 &&& 255).toUInt32.toUInt16.toUInt32.toInt32 = x := by
  have a := c_i2b x
  have b := c_mask x.toInt8.toInt32 255 8 (by decide) (by decide)
  rw [oChr (by omega)]
  apply Int32.toInt_inj.mp
  omega
theorem oCat {v : Value} (h : v.isRef = true) : v.category = 1 := by cases v <;> simp_all [Value.isRef, Value.category]

theorem oB58 {x : Int32} (h : x = 58) : x.toInt8.toInt32 = 58 := by rw [h]; decide
theorem oBn58 {x : Int32} (hr : 0 ≤ x.toInt ∧ x.toInt < 256) (h : ¬ x = 58) : ¬ x.toInt8.toInt32 = 58 := fun q => h (oB8inj hr (by decide) (q.trans (by decide)))
def Q_rCanI (Z : State)  (h0 : Heap) (v : Option Value) (h : Heap) (L : List Loc) : Prop := v = some (.int (1 : Int32)) ∧ h = h0 ∧ oKp h0 h [] L
theorem pn_0 : plainName "java/lang/StringLatin1" = true := by first | (simp [plainName, overriddenIn]; done) | decide +kernel
abbrev yy0 : MethodName := ⟨"java/lang/StringLatin1", "canEncode", "(I)Z"⟩
theorem d16_0 : decode jdk_43_method_4_code 0 = .ok (.iload_n 0, 1) := by decide +kernel
theorem d16_1 : decode jdk_43_method_4_code 1 = .ok (.ifCond .lt 14, 3) := by decide +kernel
theorem d16_4 : decode jdk_43_method_4_code 4 = .ok (.iload_n 0, 1) := by decide +kernel
theorem d16_5 : decode jdk_43_method_4_code 5 = .ok (.sipush 255, 3) := by decide +kernel
theorem d16_8 : decode jdk_43_method_4_code 8 = .ok (.if_icmp .gt 7, 3) := by decide +kernel
theorem d16_11 : decode jdk_43_method_4_code 11 = .ok (.iconst 1, 1) := by decide +kernel
theorem d16_12 : decode jdk_43_method_4_code 12 = .ok (.goto 4, 3) := by decide +kernel
theorem d16_16 : decode jdk_43_method_4_code 16 = .ok (.ireturn, 1) := by decide +kernel
theorem rCanI (l : Launch) (Z : State) (a0 : Array Value) (hw : oHW a0 Z) (ws : List Jvm.Cond)  (h0 : Heap) (O0 : Ext Z.heap h0)  :
    oCon l Z yy0 jdk_43_method_4_code 1 (some .boolean) ws ({ frames := 0, cells := 0, slots := 0, locals := 0 } : Room) #[(.int (58 : Int32))] h0 (Q_rCanI Z  h0) := by
  refine oCon.of (plainFor_of_name pn_0) ?_
  intro p e s m below meth c T X hx hby hml hown hnm hret hlk hZ e0
  have hml : c.maxLocals = 1 := hml
  have K : oKp h0 h0 [] [] := oKp.nil _ _
  refine oWk.cast (g' := (mkF m 0 #[iv 58] [])) (by first | rfl | (simp [entryFrame, mkF, argsToLocals, Value.category]; done)) ?_
  refine oWk.to (mkF m 16 #[iv 58] [(.int 1)]) (fun _ kt => zI X hx hby d16_0 rfl rfl (zH X hx hby d16_1 rfl rfl ((if0 _ _).trans (flt (by decide)).1) (zI X hx hby d16_4 rfl rfl (zM X hx hby d16_5 rfl (zN X hx hby d16_8 rfl rfl (flt (by decide)).2.2.1 (zK X hx hby d16_11 rfl (zG X hx hby d16_12 rfl (pc' := 16) rfl kt))))))) ?_
  exact oRetZ X hx hlk hret (hb hby d16_16) (Or.inr rfl) (by rw [e0]; exact ⟨rfl, rfl, K⟩) (by decide) (by decide)
def Q_rDr (Z : State) (xp : Int32) (h0 : Heap) (v : Option Value) (h : Heap) (L : List Loc) : Prop := ∃ (ne : Int32), v = some (.int ne) ∧ h = h0 ∧ oKp h0 h [] L ∧ (0 ≤ ne.toInt ∧ ne.toInt < 256)
theorem pn_1 : plainName "com/example/tributary/tributary/LocationsSourcePathPinLaw" = true := by first | (simp [plainName, overriddenIn]; done) | decide +kernel
abbrev yy1 : MethodName := ⟨"com/example/tributary/tributary/LocationsSourcePathPinLaw", "draw", "(I)C"⟩
theorem d1_0 : decode method_2_code 0 = .ok (.iload_n 0, 1) := by decide +kernel
theorem d1_1 : decode method_2_code 1 = .ok (.iconst 3, 1) := by decide +kernel
theorem d1_2 : decode method_2_code 2 = .ok (.iand, 1) := by decide +kernel
theorem d1_3 : decode method_2_code 3 = .ok (.ifCond .ne 6, 3) := by decide +kernel
theorem d1_6 : decode method_2_code 6 = .ok (.bipush 58, 2) := by decide +kernel
theorem d1_8 : decode method_2_code 8 = .ok (.ireturn, 1) := by decide +kernel
theorem d1_9 : decode method_2_code 9 = .ok (.iload_n 0, 1) := by decide +kernel
theorem d1_10 : decode method_2_code 10 = .ok (.iconst 2, 1) := by decide +kernel
theorem d1_11 : decode method_2_code 11 = .ok (.iushr, 1) := by decide +kernel
theorem d1_12 : decode method_2_code 12 = .ok (.sipush 255, 3) := by decide +kernel
theorem d1_15 : decode method_2_code 15 = .ok (.iand, 1) := by decide +kernel
theorem d1_16 : decode method_2_code 16 = .ok (.i2c, 1) := by decide +kernel
theorem d1_17 : decode method_2_code 17 = .ok (.ireturn, 1) := by decide +kernel
theorem rDr (l : Launch) (Z : State) (a0 : Array Value) (hw : oHW a0 Z) (ws : List Jvm.Cond) (xp : Int32) (h0 : Heap) (O0 : Ext Z.heap h0)  :
    oCon l Z yy1 method_2_code 1 (some .char) ws ({ frames := 0, cells := 0, slots := 0, locals := 0 } : Room) #[(.int xp)] h0 (Q_rDr Z xp h0) := by
  refine oCon.of (plainFor_of_name pn_1) ?_
  intro p e s m below meth c T X hx hby hml hown hnm hret hlk hZ e0
  have hml : c.maxLocals = 1 := hml
  have K : oKp h0 h0 [] [] := oKp.nil _ _
  refine oWk.cast (g' := (mkF m 0 #[iv xp] [])) (by first | rfl | (simp [entryFrame, mkF, argsToLocals, Value.category]; done)) ?_
  refine oWk.to (mkF m 3 #[iv xp] [(.int (xp &&& (3 : Int32)))]) (fun _ kt => zI X hx hby d1_0 rfl rfl (zK X hx hby d1_1 rfl (XS.iand X.here hx rfl (hb hby d1_2) rfl kt))) ?_
  by_cases hc3 : (xp &&& (3 : Int32)) = (0 : Int32)
  · refine oWk.to (mkF m 6 #[iv xp] []) (fun _ kt => zH X hx hby d1_3 rfl rfl ((if0 _ _).trans (teq hc3).2) kt) ?_
    refine oWk.to (mkF m 8 #[iv xp] [(.int 58)]) (fun _ kt => zL X hx hby d1_6 rfl kt) ?_
    exact oRetN X hx hlk hret (Or.inr (Or.inl rfl)) rfl (hb hby d1_8) (by rw [e0]; exact ⟨(58 : Int32), rfl, rfl, K, (by decide)⟩) (by decide) (by decide)
  · refine oWk.to (mkF m 9 #[iv xp] []) (fun _ kt => zF X hx hby d1_3 rfl rfl ((if0 _ _).trans (feq hc3).2) (pc' := 9) rfl kt) ?_
    refine oWk.to (mkF m 17 #[iv xp] [(.int ((((xp.toUInt32 >>> ((2 : Int32) &&& 31).toUInt32).toInt32) &&& (255 : Int32)).toUInt32.toUInt16.toUInt32.toInt32))]) (fun _ kt => zI X hx hby d1_9 rfl rfl (zK X hx hby d1_10 rfl (XS.iushr X.here hx rfl (hb hby d1_11) rfl (zM X hx hby d1_12 rfl (XS.iand X.here hx rfl (hb hby d1_15) rfl (XS.i2c X.here hx rfl (hb hby d1_16) rfl kt)))))) ?_
    rw [oChr (oM255 _)]
    show oWk _ _ _ _ T (mkF m 17 #[iv xp] [(.int (((xp.toUInt32 >>> ((2 : Int32) &&& 31).toUInt32).toInt32) &&& (255 : Int32)))])
    exact oRetN X hx hlk hret (Or.inr (Or.inl rfl)) (show narrow .char (.int (((xp.toUInt32 >>> ((2 : Int32) &&& 31).toUInt32).toInt32) &&& (255 : Int32))) = .int (((xp.toUInt32 >>> ((2 : Int32) &&& 31).toUInt32).toInt32) &&& (255 : Int32)) from congrArg Value.int (oChr (oM255 _))) (hb hby d1_17) (by rw [e0]; exact ⟨(((xp.toUInt32 >>> ((2 : Int32) &&& 31).toUInt32).toInt32) &&& (255 : Int32)), rfl, rfl, K, (oM255 _)⟩) (by decide) (by decide)
def Q_rC5_1 (Z : State) (xa xd : Addr) (xk xl : ClassId) (xc0 : Int32) (h0 : Heap) (v : Option Value) (h : Heap) (L : List Loc) : Prop := v = some (.int (1 : Int32)) ∧ oKp h0 h [xd] L ∧ (Arv Z h xd xl .byte (1 : Int32) [(ib xc0)] (.int (0 : Int32)))
theorem pn_2 : plainName "java/lang/StringUTF16" = true := by first | (simp [plainName, overriddenIn]; done) | decide +kernel
abbrev yy2 : MethodName := ⟨"java/lang/StringUTF16", "compress", "([CI[BII)I"⟩
theorem d7_0 : decode jdk_52_method_21_code 0 = .ok (.iconst 0, 1) := by decide +kernel
theorem d7_1 : decode jdk_52_method_21_code 1 = .ok (.istore 5, 2) := by decide +kernel
theorem d7_3 : decode jdk_52_method_21_code 3 = .ok (.iload 5, 2) := by decide +kernel
theorem d7_5 : decode jdk_52_method_21_code 5 = .ok (.iload 4, 2) := by decide +kernel
theorem d7_7 : decode jdk_52_method_21_code 7 = .ok (.if_icmp .ge 37, 3) := by decide +kernel
theorem d7_10 : decode jdk_52_method_21_code 10 = .ok (.aload_n 0, 1) := by decide +kernel
theorem d7_11 : decode jdk_52_method_21_code 11 = .ok (.iload_n 1, 1) := by decide +kernel
theorem d7_12 : decode jdk_52_method_21_code 12 = .ok (.caload, 1) := by decide +kernel
theorem d7_13 : decode jdk_52_method_21_code 13 = .ok (.istore 6, 2) := by decide +kernel
theorem d7_15 : decode jdk_52_method_21_code 15 = .ok (.iload 6, 2) := by decide +kernel
theorem d7_17 : decode jdk_52_method_21_code 17 = .ok (.sipush 255, 3) := by decide +kernel
theorem d7_20 : decode jdk_52_method_21_code 20 = .ok (.if_icmp .le 6, 3) := by decide +kernel
theorem d7_26 : decode jdk_52_method_21_code 26 = .ok (.aload_n 2, 1) := by decide +kernel
theorem d7_27 : decode jdk_52_method_21_code 27 = .ok (.iload_n 3, 1) := by decide +kernel
theorem d7_28 : decode jdk_52_method_21_code 28 = .ok (.iload 6, 2) := by decide +kernel
theorem d7_30 : decode jdk_52_method_21_code 30 = .ok (.i2b, 1) := by decide +kernel
theorem d7_31 : decode jdk_52_method_21_code 31 = .ok (.bastore, 1) := by decide +kernel
theorem d7_32 : decode jdk_52_method_21_code 32 = .ok (.iinc 1 1, 3) := by decide +kernel
theorem d7_35 : decode jdk_52_method_21_code 35 = .ok (.iinc 3 1, 3) := by decide +kernel
theorem d7_38 : decode jdk_52_method_21_code 38 = .ok (.iinc 5 1, 3) := by decide +kernel
theorem d7_41 : decode jdk_52_method_21_code 41 = .ok (.goto (-38), 3) := by decide +kernel
theorem d7_44 : decode jdk_52_method_21_code 44 = .ok (.iload 4, 2) := by decide +kernel
theorem d7_46 : decode jdk_52_method_21_code 46 = .ok (.ireturn, 1) := by decide +kernel
theorem rC5_1 (l : Launch) (Z : State) (a0 : Array Value) (hw : oHW a0 Z) (ws : List Jvm.Cond) (xa xd : Addr) (xk xl : ClassId) (xc0 : Int32) (h0 : Heap) (O0 : Ext Z.heap h0) (og_xd : Z.heap.size ≤ xd) (ne_xa_xd : xa ≠ xd) (V_xa : Arv Z h0 xa xk .char (1 : Int32) [(.int xc0)] (.int (0 : Int32))) (V_xd : Arv Z h0 xd xl .byte (1 : Int32) [(.int (0 : Int32))] (.int (0 : Int32))) (hc0_ : ¬ (255 : Int32) < xc0) :
    oCon l Z yy2 jdk_52_method_21_code 7 (some .int) ws ({ frames := 0, cells := 0, slots := 0, locals := 0 } : Room) #[(.ref xa), (.int (0 : Int32)), (.ref xd), (.int (0 : Int32)), (.int (1 : Int32))] h0 (Q_rC5_1 Z xa xd xk xl xc0 h0) := by
  refine oCon.of (plainFor_of_name pn_2) ?_
  intro p e s m below meth c T X hx hby hml hown hnm hret hlk hZ e0
  have hml : c.maxLocals = 7 := hml
  have K : oKp h0 h0 [xd] [] := oKp.nil _ _
  refine oWk.cast (g' := (mkF m 0 #[rv xa, iv 0, rv xd, iv 0, iv 1, uu, uu] [])) (by first | rfl | (simp [entryFrame, mkF, argsToLocals, Value.category]; done)) ?_
  refine oWk.to (mkF m 12 #[rv xa, iv 0, rv xd, iv 0, iv 1, iv 0, uu] [(.int 0), (.ref xa)]) (fun _ kt => zK X hx hby d7_0 rfl (zS X hx hby d7_1 rfl rfl (l' := #[rv xa, iv 0, rv xd, iv 0, iv 1, iv 0, uu]) rfl (zJ X hx hby d7_3 rfl rfl (zJ X hx hby d7_5 rfl rfl (zN X hx hby d7_7 rfl rfl (tlt (by decide)).2.1 (zA X hx hby d7_10 rfl rfl rfl (zI X hx hby d7_11 rfl rfl kt))))))) ?_
  refine oWk.to (mkF m 20 #[rv xa, iv 0, rv xd, iv 0, iv 1, iv 0, iv xc0] [(.int 255), (.int xc0)]) (fun _ kt => oLdC X hx hZ e0 V_xa (0 : Int32) (.int xc0) ⟨by decide, by decide⟩ rfl hby d7_12 rfl rfl (zS X hx hby d7_13 rfl rfl (l' := #[rv xa, iv 0, rv xd, iv 0, iv 1, iv 0, iv xc0]) rfl (zJ X hx hby d7_15 rfl rfl (zM X hx hby d7_17 rfl kt)))) ?_
  refine oWk.to (mkF m 31 #[rv xa, iv 0, rv xd, iv 0, iv 1, iv 0, iv xc0] [(ib xc0), (.int 0), (.ref xd)]) (fun _ kt => zY X hx hby d7_20 rfl rfl (flt hc0_).2.2.2 (pc' := 26) rfl (zA X hx hby d7_26 rfl rfl rfl (zI X hx hby d7_27 rfl rfl (zJ X hx hby d7_28 rfl rfl (XS.i2b X.here hx rfl (hb hby d7_30) rfl kt))))) ?_
  obtain ⟨cl2, Ar2, q2, Sz2, Nn2, Hs2, Ft2⟩ := id V_xd
  have hin2 : ¬ ((0 : Int32) < 0 ∨ cl2.slots.size ≤ ((0 : Int32)).toNatClampNeg) := inb_of Sz2 ⟨by decide, by decide⟩
  obtain ⟨T, h, X, e0, W2, st⟩ := stB X hx hZ e0 Ar2 (j := (0 : Int32)) hin2 (g := (mkF m 31 #[rv xa, iv 0, rv xd, iv 0, iv 1, iv 0, iv xc0] [(ib xc0), (.int 0), (.ref xd)])) rfl rfl (hb hby d7_31)
  have K := K.wr W2 (Or.inl (List.mem_of_getElem? (i := 0) rfl))
  have V_xd := Arv.set Ar2 q2 Sz2 Nn2 Hs2 Ft2 (fits_nar_byte _) W2 0 rfl (Nat.le_of_ble_eq_true rfl)
  rw [oB8 xc0] at V_xd
  replace V_xd : Arv Z h xd xl .byte (1 : Int32) [(ib xc0)] (.int (0 : Int32)) := V_xd
  refine oWk.to (mkF m 7 #[rv xa, iv 1, rv xd, iv 1, iv 1, iv 1, iv xc0] [(.int 1), (.int 1)]) (fun _ kt => st _ (zC X hx hby d7_32 rfl rfl (l' := #[rv xa, iv ((0 : Int32) + (1 : Int32)), rv xd, iv 0, iv 1, iv 0, iv xc0]) rfl (zC X hx hby d7_35 rfl rfl (l' := #[rv xa, iv 1, rv xd, iv ((0 : Int32) + (1 : Int32)), iv 1, iv 0, iv xc0]) rfl (zC X hx hby d7_38 rfl rfl (l' := #[rv xa, iv 1, rv xd, iv 1, iv 1, iv ((0 : Int32) + (1 : Int32)), iv xc0]) rfl (zG X hx hby d7_41 rfl (pc' := 3) rfl (zJ X hx hby d7_3 rfl rfl (zJ X hx hby d7_5 rfl rfl kt))))))) ?_
  refine oWk.to (mkF m 46 #[rv xa, iv 1, rv xd, iv 1, iv 1, iv 1, iv xc0] [(.int 1)]) (fun _ kt => zY X hx hby d7_7 rfl rfl (flt (by decide)).2.1 (pc' := 44) rfl (zJ X hx hby d7_44 rfl rfl kt)) ?_
  exact oRetI X hx hlk hret (hb hby d7_46) (by rw [e0]; exact ⟨rfl, K, V_xd⟩) (by decide) (by decide)
def Q_rC3_1 (Z : State) (xa : Addr) (xk : ClassId) (xc0 : Int32) (h0 : Heap) (v : Option Value) (h : Heap) (L : List Loc) : Prop := ∃ (nb : Addr) (nk : ClassId), v = some (.ref nb) ∧ oKp h0 h [] L ∧ (h0.size ≤ nb) ∧ (Arv Z h nb nk .byte (1 : Int32) [(ib xc0)] (.int (0 : Int32)))
abbrev yy3 : MethodName := ⟨"java/lang/StringUTF16", "compress", "([CII)[B"⟩
theorem d6_0 : decode jdk_52_method_16_code 0 = .ok (.iload_n 2, 1) := by decide +kernel
theorem d6_1 : decode jdk_52_method_16_code 1 = .ok (.newarray .byte, 2) := by decide +kernel
theorem d6_3 : decode jdk_52_method_16_code 3 = .ok (.astore_n 3, 1) := by decide +kernel
theorem d6_4 : decode jdk_52_method_16_code 4 = .ok (.aload_n 0, 1) := by decide +kernel
theorem d6_5 : decode jdk_52_method_16_code 5 = .ok (.iload_n 1, 1) := by decide +kernel
theorem d6_6 : decode jdk_52_method_16_code 6 = .ok (.aload_n 3, 1) := by decide +kernel
theorem d6_7 : decode jdk_52_method_16_code 7 = .ok (.iconst 0, 1) := by decide +kernel
theorem d6_8 : decode jdk_52_method_16_code 8 = .ok (.iload_n 2, 1) := by decide +kernel
theorem d6_9 : decode jdk_52_method_16_code 9 = .ok (.invokestatic 115, 3) := by decide +kernel
theorem pd_0 : parseMethodDescriptor "([CI[BII)I" = some ⟨[(.array .char), .int, (.array .byte), .int, .int], some .int⟩ := by decide +kernel
theorem cs0 {a0 : Array Value} {Z : State} (hw : oHW a0 Z) : oCall Z Y8 (.invokestatic 115) yy2 jdk_52_method_21_code 7 (some .int) (oRs 5) := oCall.stat (oW hw 28 rfl) (oW hw 29 rfl) (oW hw 25 rfl) (oW hw 30 rfl) (by decide) pd_0
theorem d6_12 : decode jdk_52_method_16_code 12 = .ok (.istore 4, 2) := by decide +kernel
theorem d6_14 : decode jdk_52_method_16_code 14 = .ok (.iload 4, 2) := by decide +kernel
theorem d6_16 : decode jdk_52_method_16_code 16 = .ok (.iload_n 2, 1) := by decide +kernel
theorem d6_17 : decode jdk_52_method_16_code 17 = .ok (.if_icmp .eq 40, 3) := by decide +kernel
theorem d6_57 : decode jdk_52_method_16_code 57 = .ok (.aload_n 3, 1) := by decide +kernel
theorem d6_58 : decode jdk_52_method_16_code 58 = .ok (.areturn, 1) := by decide +kernel
theorem rC3_1 (l : Launch) (Z : State) (a0 : Array Value) (hw : oHW a0 Z) (ws : List Jvm.Cond) (xa : Addr) (xk : ClassId) (xc0 : Int32) (h0 : Heap) (O0 : Ext Z.heap h0) (V_xa : Arv Z h0 xa xk .char (1 : Int32) [(.int xc0)] (.int (0 : Int32))) (hc0_ : ¬ (255 : Int32) < xc0) :
    oCon l Z yy3 jdk_52_method_16_code 6 (some (.array .byte)) ws ({ frames := 1, cells := 1, slots := 1, locals := 18 } : Room) #[(.ref xa), (.int (0 : Int32)), (.int (1 : Int32))] h0 (Q_rC3_1 Z xa xk xc0 h0) := by
  refine oCon.of (plainFor_of_name pn_2) ?_
  intro p e s m below meth c T X hx hby hml hown hnm hret hlk hZ e0
  have hml : c.maxLocals = 6 := hml
  have K : oKp h0 h0 [] [] := oKp.nil _ _
  refine oWk.cast (g' := (mkF m 0 #[rv xa, iv 0, iv 1, uu, uu, uu] [])) (by first | rfl | (simp [entryFrame, mkF, argsToLocals, Value.category]; done)) ?_
  refine oWk.st (fun _ kt => zI X hx hby d6_0 rfl rfl kt) ?_
  obtain ⟨o1, g1⟩ : ∃ z, z = h0.size := ⟨_, rfl⟩
  have ne_xa_o1 : xa ≠ o1 := Nat.ne_of_lt (Nat.lt_of_lt_of_le V_xa.lt (Nat.le_of_eq g1.symm))
  have ge_o1 : h0.size ≤ o1 := Nat.le_trans K.le (Nat.le_of_eq g1.symm)
  obtain ⟨T, h, k1, X, e0, E1, A1, st⟩ := newP X hx hZ (oW hw 27 rfl) e0 (g := (mkF m 1 #[rv xa, iv 0, iv 1, uu, uu, uu] [(.int 1)])) rfl (hb hby d6_1) rfl (by decide) (cap := 1) (by decide) (by decide) (by decide) (by decide)
  rw [← g1] at A1 st
  have K := K.ext E1
  have V_o1 : Arv Z h o1 k1 .byte (1 : Int32) [(.int (0 : Int32))] (.int (0 : Int32)) := (Arv.new A1 (by decide)).pad (pad_rep [] (.int (0 : Int32)) 1)
  refine oWk.to (mkF m 9 #[rv xa, iv 0, iv 1, rv o1, uu, uu] [(.int 1), (.int 0), (.ref o1), (.int 0), (.ref xa)]) (fun _ kt => st _ (zTn X hx hby d6_3 rfl rfl rfl (l' := #[rv xa, iv 0, iv 1, rv o1, uu, uu]) rfl (zA X hx hby d6_4 rfl rfl rfl (zI X hx hby d6_5 rfl rfl (zA X hx hby d6_6 rfl rfl rfl (zK X hx hby d6_7 rfl (zI X hx hby d6_8 rfl rfl kt))))))) ?_
  have V_xa := (V_xa.ext E1)
  have Oh := K.old O0 all0
  obtain ⟨_, T, h, Lc3, X, e0, hQ, st⟩ := (cs0 hw).run X hx hZ hown e0 (A := [(.ref xa), (.int (0 : Int32)), (.ref o1), (.int (0 : Int32)), (.int (1 : Int32))]) rfl (rC5_1 l Z a0 hw [] xa o1 xk k1 xc0 h Oh (Nat.le_trans O0.1 ge_o1) ne_xa_o1 V_xa V_o1 hc0_) (W := 0) (by decide) hml (Ls := #[rv xa, iv 0, iv 1, rv o1, uu, uu]) rfl (rest := []) rfl rfl hby d6_9
  obtain ⟨rfl, K2, V_o1⟩ := hQ
  have K := K.call K2 (allS (Or.inr ge_o1) all0)
  refine oWk.to (mkF m 58 #[rv xa, iv 0, iv 1, rv o1, iv 1, uu] [(.ref o1)]) (fun _ kt => st _ (zS X hx hby d6_12 rfl rfl (l' := #[rv xa, iv 0, iv 1, rv o1, iv 1, uu]) rfl (zJ X hx hby d6_14 rfl rfl (zI X hx hby d6_16 rfl rfl (zY X hx hby d6_17 rfl rfl (teq (by decide)).1 (pc' := 57) rfl (zA X hx hby d6_57 rfl rfl rfl kt)))))) ?_
  exact oRetA X hx hlk hret rfl rfl (hb hby d6_58) (by rw [e0]; exact ⟨o1, k1, rfl, K, ge_o1, V_o1⟩) (by decide) (by decide)
def Q_rCo_1 (Z : State) (xb : Addr) (xk : ClassId) (xy0 : Int32) (h0 : Heap) (v : Option Value) (h : Heap) (L : List Loc) : Prop := v = some (.int (0 : Int32)) ∧ h = h0 ∧ oKp h0 h [] L
abbrev yy4 : MethodName := ⟨"java/lang/StringUTF16", "coderFromArrayLen", "([BI)B"⟩
theorem d8_0 : decode jdk_52_method_15_code 0 = .ok (.iload_n 1, 1) := by decide +kernel
theorem d8_1 : decode jdk_52_method_15_code 1 = .ok (.aload_n 0, 1) := by decide +kernel
theorem d8_2 : decode jdk_52_method_15_code 2 = .ok (.arraylength, 1) := by decide +kernel
theorem d8_3 : decode jdk_52_method_15_code 3 = .ok (.isub, 1) := by decide +kernel
theorem d8_4 : decode jdk_52_method_15_code 4 = .ok (.bipush 31, 2) := by decide +kernel
theorem d8_6 : decode jdk_52_method_15_code 6 = .ok (.iushr, 1) := by decide +kernel
theorem d8_7 : decode jdk_52_method_15_code 7 = .ok (.i2b, 1) := by decide +kernel
theorem d8_8 : decode jdk_52_method_15_code 8 = .ok (.ireturn, 1) := by decide +kernel
theorem rCo_1 (l : Launch) (Z : State) (a0 : Array Value) (hw : oHW a0 Z) (ws : List Jvm.Cond) (xb : Addr) (xk : ClassId) (xy0 : Int32) (h0 : Heap) (O0 : Ext Z.heap h0) (V_xb : Arv Z h0 xb xk .byte (1 : Int32) [(.int xy0)] (.int (0 : Int32))) :
    oCon l Z yy4 jdk_52_method_15_code 2 (some .byte) ws ({ frames := 0, cells := 0, slots := 0, locals := 0 } : Room) #[(.ref xb), (.int (1 : Int32))] h0 (Q_rCo_1 Z xb xk xy0 h0) := by
  refine oCon.of (plainFor_of_name pn_2) ?_
  intro p e s m below meth c T X hx hby hml hown hnm hret hlk hZ e0
  have hml : c.maxLocals = 2 := hml
  have K : oKp h0 h0 [] [] := oKp.nil _ _
  refine oWk.cast (g' := (mkF m 0 #[rv xb, iv 1] [])) (by first | rfl | (simp [entryFrame, mkF, argsToLocals, Value.category]; done)) ?_
  refine oWk.to (mkF m 8 #[rv xb, iv 1] [(.int 0)]) (fun _ kt => zI X hx hby d8_0 rfl rfl (zA X hx hby d8_1 rfl rfl rfl (oAl X hx hZ e0 V_xb hby d8_2 rfl rfl (XS.isub X.here hx rfl (hb hby d8_3) rfl (zL X hx hby d8_4 rfl (XS.iushr X.here hx rfl (hb hby d8_6) rfl (XS.i2b X.here hx rfl (hb hby d8_7) rfl kt))))))) ?_
  exact oRetN X hx hlk hret (Or.inl rfl) rfl (hb hby d8_8) (by rw [e0]; exact ⟨rfl, rfl, K⟩) (by decide) (by decide)
def Q_rI4_1 (Z : State) (xs xa : Addr) (xk : ClassId) (xz : Int32) (xu xv : Value) (xc0 : Int32) (h0 : Heap) (v : Option Value) (h : Heap) (L : List Loc) : Prop := ∃ (nb : Addr) (nk : ClassId), v = none ∧ oKp h0 h [xs] L ∧ (Exa Z h xs Y0) ∧ (Fld Z h xs Y0 "coder" "B" (.int (0 : Int32))) ∧ (Fld Z h xs Y0 "value" "[B" (.ref nb)) ∧ (h0.size ≤ nb) ∧ (Arv Z h nb nk .byte (1 : Int32) [(ib xc0)] (.int (0 : Int32)))
theorem pn_3 : plainName "java/lang/String" = true := by first | (simp [plainName, overriddenIn]; done) | decide +kernel
abbrev yy5 : MethodName := ⟨"java/lang/String", "<init>", "([CIILjava/lang/Void;)V"⟩
theorem d4_0 : decode jdk_42_method_149_code 0 = .ok (.aload_n 0, 1) := by decide +kernel
theorem d4_1 : decode jdk_42_method_149_code 1 = .ok (.invokespecial 1, 3) := by decide +kernel
theorem d4_4 : decode jdk_42_method_149_code 4 = .ok (.iload_n 3, 1) := by decide +kernel
theorem d4_5 : decode jdk_42_method_149_code 5 = .ok (.ifCond .ne 22, 3) := by decide +kernel
theorem d4_27 : decode jdk_42_method_149_code 27 = .ok (.getstatic 38, 3) := by decide +kernel
theorem d4_30 : decode jdk_42_method_149_code 30 = .ok (.ifCond .eq 28, 3) := by decide +kernel
theorem d4_33 : decode jdk_42_method_149_code 33 = .ok (.aload_n 1, 1) := by decide +kernel
theorem d4_34 : decode jdk_42_method_149_code 34 = .ok (.iload_n 2, 1) := by decide +kernel
theorem d4_35 : decode jdk_42_method_149_code 35 = .ok (.iload_n 3, 1) := by decide +kernel
theorem d4_36 : decode jdk_42_method_149_code 36 = .ok (.invokestatic 177, 3) := by decide +kernel
theorem pd_1 : parseMethodDescriptor "([CII)[B" = some ⟨[(.array .char), .int, .int], some (.array .byte)⟩ := by decide +kernel
theorem cs1 {a0 : Array Value} {Z : State} (hw : oHW a0 Z) : oCall Z Y0 (.invokestatic 177) yy3 jdk_52_method_16_code 6 (some (.array .byte)) (oRs 3) := oCall.stat (oW hw 23 rfl) (oW hw 24 rfl) (oW hw 25 rfl) (oW hw 26 rfl) (by decide) pd_1
theorem d4_39 : decode jdk_42_method_149_code 39 = .ok (.astore 5, 2) := by decide +kernel
theorem d4_41 : decode jdk_42_method_149_code 41 = .ok (.aload_n 0, 1) := by decide +kernel
theorem d4_42 : decode jdk_42_method_149_code 42 = .ok (.aload 5, 2) := by decide +kernel
theorem d4_44 : decode jdk_42_method_149_code 44 = .ok (.iload_n 3, 1) := by decide +kernel
theorem d4_45 : decode jdk_42_method_149_code 45 = .ok (.invokestatic 47, 3) := by decide +kernel
theorem pd_2 : parseMethodDescriptor "([BI)B" = some ⟨[(.array .byte), .int], some .byte⟩ := by decide +kernel
theorem cs2 {a0 : Array Value} {Z : State} (hw : oHW a0 Z) : oCall Z Y0 (.invokestatic 47) yy4 jdk_52_method_15_code 2 (some .byte) (oRs 2) := oCall.stat (oW hw 31 rfl) (oW hw 32 rfl) (oW hw 25 rfl) (oW hw 33 rfl) (by decide) pd_2
theorem d4_48 : decode jdk_42_method_149_code 48 = .ok (.putfield 15, 3) := by decide +kernel
theorem d4_51 : decode jdk_42_method_149_code 51 = .ok (.aload_n 0, 1) := by decide +kernel
theorem d4_52 : decode jdk_42_method_149_code 52 = .ok (.aload 5, 2) := by decide +kernel
theorem d4_54 : decode jdk_42_method_149_code 54 = .ok (.putfield 9, 3) := by decide +kernel
theorem d4_57 : decode jdk_42_method_149_code 57 = .ok (.return_, 1) := by decide +kernel
theorem rI4_1 (l : Launch) (Z : State) (a0 : Array Value) (hw : oHW a0 Z) (ws : List Jvm.Cond) (xs xa : Addr) (xk : ClassId) (xz : Int32) (xu xv : Value) (xc0 : Int32) (h0 : Heap) (O0 : Ext Z.heap h0) (S_COMPACT_STRINGS : Sta Z Z.heap Y0 Y1 "Z" (.int xz)) (hz : ¬ xz = (0 : Int32)) (og_xs : Z.heap.size ≤ xs) (E_xs : Exa Z h0 xs Y0) (F_value_xs : Fld Z h0 xs Y0 "value" "[B" xu) (F_coder_xs : Fld Z h0 xs Y0 "coder" "B" xv) (V_xa : Arv Z h0 xa xk .char (1 : Int32) [(.int xc0)] (.int (0 : Int32))) (hc0_ : ¬ (255 : Int32) < xc0) :
    oCon l Z yy5 jdk_42_method_149_code 6 none ws ({ frames := 2, cells := 1, slots := 1, locals := 35 } : Room) #[(.ref xs), (.ref xa), (.int (0 : Int32)), (.int (1 : Int32)), .null] h0 (Q_rI4_1 Z xs xa xk xz xu xv xc0 h0) := by
  refine oCon.of (plainFor_of_name pn_3) ?_
  intro p e s m below meth c T X hx hby hml hown hnm hret hlk hZ e0
  have hml : c.maxLocals = 6 := hml
  have K : oKp h0 h0 [xs] [] := oKp.nil _ _
  refine oWk.cast (g' := (mkF m 0 #[rv xs, rv xa, iv 0, iv 1, .val .null, uu] [])) (by first | rfl | (simp [entryFrame, mkF, argsToLocals, Value.category]; done)) ?_
  refine oWk.st (fun _ kt => zA X hx hby d4_0 rfl rfl rfl kt) ?_
  obtain ⟨T, X, e0, st⟩ := initO X hx hZ hown (oW hw 19 rfl) (oW hw 20 rfl) (oW hw 21 rfl) e0 (g := (mkF m 1 #[rv xs, rv xa, iv 0, iv 1, .val .null, uu] [(.ref xs)])) rfl (by rw [hml]; rfl) rfl (hb hby d4_1) (by decide) (W := 0) (Nat.le_of_eq rfl) (by decide)
  refine oWk.st (fun _ kt => st _ (zI X hx hby d4_4 rfl rfl (zF X hx hby d4_5 rfl rfl ((if0 _ _).trans (feq (by decide)).2) (pc' := 27) rfl kt))) ?_
  have Oh := K.old O0 (allS og_xs all0)
  obtain ⟨T, X, e0, st⟩ := getS2 X hx hZ hown (host := "") (Or.inl (oW hw 22 rfl)) Via.refl e0 (S_COMPACT_STRINGS.ext Oh) (g := (mkF m 27 #[rv xs, rv xa, iv 0, iv 1, .val .null, uu] [])) rfl (hb hby d4_27)
  refine oWk.st (fun _ kt => st _ (zH X hx hby d4_30 rfl rfl ((if0 _ _).trans (feq hz).1) (zA X hx hby d4_33 rfl rfl rfl (zI X hx hby d4_34 rfl rfl (zI X hx hby d4_35 rfl rfl kt))))) ?_
  have lt_xs := E_xs.lt
  have lt_xa := V_xa.lt
  obtain ⟨_, T, h, Lc2, X, e0, hQ, st⟩ := (cs1 hw).run X hx hZ hown e0 (A := [(.ref xa), (.int (0 : Int32)), (.int (1 : Int32))]) rfl (rC3_1 l Z a0 hw [] xa xk xc0 h0 Oh V_xa hc0_) (W := 0) (by decide) hml (Ls := #[rv xs, rv xa, iv 0, iv 1, .val .null, uu]) rfl (rest := []) rfl rfl hby d4_36
  obtain ⟨nb1, nk1, rfl, K1, gn_nb1, V_nb1⟩ := hQ
  have ge_nb1 := Nat.le_trans K.le gn_nb1
  have ne_xs_nb1 : xs ≠ nb1 := Nat.ne_of_lt (Nat.lt_of_lt_of_le lt_xs gn_nb1)
  have ne_xa_nb1 : xa ≠ nb1 := Nat.ne_of_lt (Nat.lt_of_lt_of_le lt_xa gn_nb1)
  have K := K.call K1 all0
  refine oWk.st (fun _ kt => st _ (zT X hx hby d4_39 rfl rfl rfl (l' := #[rv xs, rv xa, iv 0, iv 1, .val .null, rv nb1]) rfl (zA X hx hby d4_41 rfl rfl rfl (zB X hx hby d4_42 rfl rfl rfl (zI X hx hby d4_44 rfl rfl kt))))) ?_
  have Oh := K.old O0 (allS og_xs all0)
  obtain ⟨T, L4, X, e0, K, st⟩ := (cs2 hw).pure X hx hZ hown e0 K (A := [(.ref nb1), (.int (1 : Int32))]) rfl (rCo_1 l Z a0 hw [] nb1 nk1 (xc0.toInt8.toInt32) h Oh V_nb1) (fun _ _ _ q => q) (W := 1) (by decide) hml (Ls := #[rv xs, rv xa, iv 0, iv 1, .val .null, rv nb1]) rfl (rest := [(.ref xs)]) rfl rfl hby d4_45
  refine oWk.st (fun _ kt => st _ kt) ?_
  have E_xs := (E_xs.keep K1.1)
  have F_coder_xs := (F_coder_xs.keep K1.1 nin0)
  obtain ⟨T, h, X, e0, W5, st⟩ := putFN X hx hZ hown (oW hw 34 rfl) Via.refl e0 F_coder_xs E_xs (Or.inr ⟨(oW hw 35 rfl), rfl, hnm⟩) (oW hw 10 rfl) (ty := .byte) (v' := .int (0 : Int32)) (by decide) rfl (by decide) (g := (mkF m 48 #[rv xs, rv xa, iv 0, iv 1, .val .null, rv nb1] [(.int 0), (.ref xs)])) rfl rfl (hb hby d4_48)
  have K := K.wr W5 (Or.inl (List.mem_of_getElem? (i := 0) rfl))
  have F_coder_xs := F_coder_xs.same W5
  refine oWk.st (fun _ kt => st _ (zA X hx hby d4_51 rfl rfl rfl (zB X hx hby d4_52 rfl rfl rfl kt))) ?_
  have E_xs := (E_xs.wr W5)
  have F_value_xs := ((F_value_xs.keep K1.1 nin0).other W5 (Or.inr (slot_ne (Or.inr (oW hw 37 rfl)) (Or.inr (oW hw 35 rfl)) (by decide) (t := (.array .byte)) (t' := .byte) (by decide) (by decide))))
  obtain ⟨T, h, X, e0, W6, st⟩ := putF X hx hZ hown (host := "") (Or.inl (oW hw 36 rfl)) Via.refl e0 F_value_xs E_xs (Or.inr ⟨(oW hw 37 rfl), rfl, hnm⟩) (oW hw 10 rfl) (ty := (.array .byte)) (by decide) rfl rfl (g := (mkF m 54 #[rv xs, rv xa, iv 0, iv 1, .val .null, rv nb1] [(.ref nb1), (.ref xs)])) rfl rfl (hb hby d4_54)
  have K := K.wr W6 (Or.inl (List.mem_of_getElem? (i := 0) rfl))
  have F_value_xs := F_value_xs.same W6
  refine oWk.to (mkF m 57 #[rv xs, rv xa, iv 0, iv 1, .val .null, rv nb1] []) (fun _ kt => st _ kt) ?_
  have E_xs := (E_xs.wr W6)
  have F_coder_xs := (F_coder_xs.other W6 (Or.inr (slot_ne (Or.inr (oW hw 35 rfl)) (Or.inr (oW hw 37 rfl)) (by decide) (t := .byte) (t' := (.array .byte)) (by decide) (by decide))))
  have V_nb1 := ((V_nb1.other W5 (Ne.symm ne_xs_nb1)).other W6 (Ne.symm ne_xs_nb1))
  exact oRetV X hx hlk hret (hb hby d4_57) (by rw [e0]; exact ⟨nb1, nk1, rfl, K, E_xs, F_coder_xs, F_value_xs, ge_nb1, V_nb1⟩) (by decide) (by decide)
def Q_rI1_1 (Z : State) (xs xa : Addr) (xk : ClassId) (xz : Int32) (xu xv : Value) (xc0 : Int32) (h0 : Heap) (v : Option Value) (h : Heap) (L : List Loc) : Prop := ∃ (nb : Addr) (nk : ClassId), v = none ∧ oKp h0 h [xs] L ∧ (Exa Z h xs Y0) ∧ (Fld Z h xs Y0 "coder" "B" (.int (0 : Int32))) ∧ (Fld Z h xs Y0 "value" "[B" (.ref nb)) ∧ (h0.size ≤ nb) ∧ (Arv Z h nb nk .byte (1 : Int32) [(ib xc0)] (.int (0 : Int32)))
abbrev yy6 : MethodName := ⟨"java/lang/String", "<init>", "([C)V"⟩
theorem d3_0 : decode jdk_42_method_3_code 0 = .ok (.aload_n 0, 1) := by decide +kernel
theorem d3_1 : decode jdk_42_method_3_code 1 = .ok (.aload_n 1, 1) := by decide +kernel
theorem d3_2 : decode jdk_42_method_3_code 2 = .ok (.iconst 0, 1) := by decide +kernel
theorem d3_3 : decode jdk_42_method_3_code 3 = .ok (.aload_n 1, 1) := by decide +kernel
theorem d3_4 : decode jdk_42_method_3_code 4 = .ok (.arraylength, 1) := by decide +kernel
theorem d3_5 : decode jdk_42_method_3_code 5 = .ok (.aconst_null, 1) := by decide +kernel
theorem d3_6 : decode jdk_42_method_3_code 6 = .ok (.invokespecial 27, 3) := by decide +kernel
theorem pd_3 : parseMethodDescriptor "([CIILjava/lang/Void;)V" = some ⟨[(.array .char), .int, .int, (.object "java/lang/Void")], none⟩ := by decide +kernel
theorem cs3 {a0 : Array Value} {Z : State} (hw : oHW a0 Z) : oCall Z Y0 (.invokespecial 27) yy5 jdk_42_method_149_code 6 none (oRi 4) := oCall.init rfl (oW hw 15 rfl) (oW hw 16 rfl) (oW hw 11 rfl) (oW hw 18 rfl) (by decide) pd_3
theorem d3_9 : decode jdk_42_method_3_code 9 = .ok (.return_, 1) := by decide +kernel
theorem rI1_1 (l : Launch) (Z : State) (a0 : Array Value) (hw : oHW a0 Z) (ws : List Jvm.Cond) (xs xa : Addr) (xk : ClassId) (xz : Int32) (xu xv : Value) (xc0 : Int32) (h0 : Heap) (O0 : Ext Z.heap h0) (S_COMPACT_STRINGS : Sta Z Z.heap Y0 Y1 "Z" (.int xz)) (hz : ¬ xz = (0 : Int32)) (og_xs : Z.heap.size ≤ xs) (E_xs : Exa Z h0 xs Y0) (F_value_xs : Fld Z h0 xs Y0 "value" "[B" xu) (F_coder_xs : Fld Z h0 xs Y0 "coder" "B" xv) (V_xa : Arv Z h0 xa xk .char (1 : Int32) [(.int xc0)] (.int (0 : Int32))) (hc0_ : ¬ (255 : Int32) < xc0) :
    oCon l Z yy6 jdk_42_method_3_code 2 none ws ({ frames := 3, cells := 1, slots := 1, locals := 52 } : Room) #[(.ref xs), (.ref xa)] h0 (Q_rI1_1 Z xs xa xk xz xu xv xc0 h0) := by
  refine oCon.of (plainFor_of_name pn_3) ?_
  intro p e s m below meth c T X hx hby hml hown hnm hret hlk hZ e0
  have hml : c.maxLocals = 2 := hml
  have K : oKp h0 h0 [xs] [] := oKp.nil _ _
  refine oWk.cast (g' := (mkF m 0 #[rv xs, rv xa] [])) (by first | rfl | (simp [entryFrame, mkF, argsToLocals, Value.category]; done)) ?_
  refine oWk.st (fun _ kt => zA X hx hby d3_0 rfl rfl rfl (zA X hx hby d3_1 rfl rfl rfl (zK X hx hby d3_2 rfl (zA X hx hby d3_3 rfl rfl rfl (oAl X hx hZ e0 V_xa hby d3_4 rfl rfl (XS.aconstNull X.here hx rfl (hb hby d3_5) kt)))))) ?_
  have lt_xs := E_xs.lt
  have lt_xa := V_xa.lt
  have Oh := K.old O0 (allS og_xs all0)
  obtain ⟨_, T, h, Lc3, X, e0, hQ, st⟩ := (cs3 hw).run X hx hZ hown e0 (A := [(.ref xs), (.ref xa), (.int (0 : Int32)), (.int (1 : Int32)), .null]) ⟨rfl, _, _, rfl⟩ (rI4_1 l Z a0 hw [] xs xa xk xz xu xv xc0 h0 Oh S_COMPACT_STRINGS hz og_xs E_xs F_value_xs F_coder_xs V_xa hc0_) (W := 0) (by decide) hml (Ls := #[rv xs, rv xa]) rfl (rest := []) rfl rfl hby d3_6
  obtain ⟨nb2, nk2, rfl, K2, E_xs, F_coder_xs, F_value_xs, gn_nb2, V_nb2⟩ := hQ
  have ge_nb2 := Nat.le_trans K.le gn_nb2
  have ne_xs_nb2 : xs ≠ nb2 := Nat.ne_of_lt (Nat.lt_of_lt_of_le lt_xs gn_nb2)
  have ne_xa_nb2 : xa ≠ nb2 := Nat.ne_of_lt (Nat.lt_of_lt_of_le lt_xa gn_nb2)
  have K := K.call K2 (allS (Or.inl (List.mem_of_getElem? (i := 0) rfl)) all0)
  refine oWk.to (mkF m 9 #[rv xs, rv xa] []) (fun _ kt => st _ kt) ?_
  exact oRetV X hx hlk hret (hb hby d3_9) (by rw [e0]; exact ⟨nb2, nk2, rfl, K, E_xs, F_coder_xs, F_value_xs, ge_nb2, V_nb2⟩) (by decide) (by decide)
def Q_rBd_1 (Z : State) (xa : Addr) (xk : ClassId) (xz xc0 xc1 xc2 xc3 xc4 : Int32) (h0 : Heap) (v : Option Value) (h : Heap) (L : List Loc) : Prop := ∃ (nr : Addr) (nb : Addr) (nk : ClassId), v = some (.ref nr) ∧ oKp h0 h [] L ∧ (h0.size ≤ nr) ∧ (h0.size ≤ nb) ∧ (Exa Z h nr Y0) ∧ (Fld Z h nr Y0 "coder" "B" (.int (0 : Int32))) ∧ (Fld Z h nr Y0 "value" "[B" (.ref nb)) ∧ (Arv Z h nb nk .byte (1 : Int32) [(ib xc0)] (.int (0 : Int32)))
abbrev yy7 : MethodName := ⟨"com/example/tributary/tributary/LocationsSourcePathPinLaw", "build", "([CI)Ljava/lang/String;"⟩
theorem d2_0 : decode method_3_code 0 = .ok (.iload_n 1, 1) := by decide +kernel
theorem d2_1 : decode method_3_code 1 = .ok (.iconst 1, 1) := by decide +kernel
theorem d2_2 : decode method_3_code 2 = .ok (.if_icmp .ne 20, 3) := by decide +kernel
theorem d2_5 : decode method_3_code 5 = .ok (.new 7, 3) := by decide +kernel
theorem d2_8 : decode method_3_code 8 = .ok (.dup, 1) := by decide +kernel
theorem d2_9 : decode method_3_code 9 = .ok (.iconst 1, 1) := by decide +kernel
theorem d2_10 : decode method_3_code 10 = .ok (.newarray .char, 2) := by decide +kernel
theorem d2_12 : decode method_3_code 12 = .ok (.dup, 1) := by decide +kernel
theorem d2_13 : decode method_3_code 13 = .ok (.iconst 0, 1) := by decide +kernel
theorem d2_14 : decode method_3_code 14 = .ok (.aload_n 0, 1) := by decide +kernel
theorem d2_15 : decode method_3_code 15 = .ok (.iconst 0, 1) := by decide +kernel
theorem d2_16 : decode method_3_code 16 = .ok (.caload, 1) := by decide +kernel
theorem d2_17 : decode method_3_code 17 = .ok (.castore, 1) := by decide +kernel
theorem d2_18 : decode method_3_code 18 = .ok (.invokespecial 9, 3) := by decide +kernel
theorem pd_4 : parseMethodDescriptor "([C)V" = some ⟨[(.array .char)], none⟩ := by decide +kernel
theorem cs4 {a0 : Array Value} {Z : State} (hw : oHW a0 Z) : oCall Z Y6 (.invokespecial 9) yy6 jdk_42_method_3_code 2 none (oRi 1) := oCall.init rfl (oW hw 12 rfl) (oW hw 13 rfl) (oW hw 11 rfl) (oW hw 14 rfl) (by decide) pd_4
theorem d2_21 : decode method_3_code 21 = .ok (.areturn, 1) := by decide +kernel
theorem rBd_1 (l : Launch) (Z : State) (a0 : Array Value) (hw : oHW a0 Z) (ws : List Jvm.Cond) (xa : Addr) (xk : ClassId) (xz xc0 xc1 xc2 xc3 xc4 : Int32) (h0 : Heap) (O0 : Ext Z.heap h0) (S_COMPACT_STRINGS : Sta Z Z.heap Y0 Y1 "Z" (.int xz)) (hz : ¬ xz = (0 : Int32)) (V_xa : Arv Z h0 xa xk .char (5 : Int32) [(.int xc0), (.int xc1), (.int xc2), (.int xc3), (.int xc4)] (.int (0 : Int32))) (hr0 : 0 ≤ xc0.toInt ∧ xc0.toInt < 256) :
    oCon l Z yy7 method_3_code 2 (some (.object Y0)) ws ({ frames := 4, cells := 3, slots := 6, locals := 66 } : Room) #[(.ref xa), (.int (1 : Int32))] h0 (Q_rBd_1 Z xa xk xz xc0 xc1 xc2 xc3 xc4 h0) := by
  refine oCon.of (plainFor_of_name pn_1) ?_
  intro p e s m below meth c T X hx hby hml hown hnm hret hlk hZ e0
  have hml : c.maxLocals = 2 := hml
  have K : oKp h0 h0 [] [] := oKp.nil _ _
  refine oWk.cast (g' := (mkF m 0 #[rv xa, iv 1] [])) (by first | rfl | (simp [entryFrame, mkF, argsToLocals, Value.category]; done)) ?_
  refine oWk.st (fun _ kt => zI X hx hby d2_0 rfl rfl (zK X hx hby d2_1 rfl (zN X hx hby d2_2 rfl rfl (teq (by decide)).2 kt))) ?_
  obtain ⟨o1, g1⟩ : ∃ z, z = h0.size := ⟨_, rfl⟩
  have ne_xa_o1 : xa ≠ o1 := Nat.ne_of_lt (Nat.lt_of_lt_of_le V_xa.lt (Nat.le_of_eq g1.symm))
  have ge_o1 : h0.size ≤ o1 := Nat.le_trans K.le (Nat.le_of_eq g1.symm)
  obtain ⟨T, h, X, e0, E1, A1, D1, -, st⟩ := newO X hx hZ hown (oW hw 9 rfl) (oW hw 10 rfl) (oW hw 11 rfl) e0 (g := (mkF m 5 #[rv xa, iv 1] [])) rfl (hb hby d2_5) (by decide) (by decide)
  rw [← g1] at A1 D1 st
  have K := K.ext E1
  have E_o1 := A1
  have F_coder_o1 : Fld Z h o1 Y0 "coder" "B" (.int (0 : Int32)) := D1 (Or.inr (oW hw 35 rfl)) (ty := .byte) (by decide)
  have F_value_o1 : Fld Z h o1 Y0 "value" "[B" .null := D1 (Or.inr (oW hw 37 rfl)) (ty := (.array .byte)) (by decide)
  refine oWk.st (fun _ kt => st _ (zD X hx hby d2_8 rfl rfl rfl (zK X hx hby d2_9 rfl kt))) ?_
  obtain ⟨o2, g2⟩ : ∃ z, z = h.size := ⟨_, rfl⟩
  have V_xa := (V_xa.ext E1)
  have ne_xa_o2 : xa ≠ o2 := Nat.ne_of_lt (Nat.lt_of_lt_of_le V_xa.lt (Nat.le_of_eq g2.symm))
  have ne_o1_o2 : o1 ≠ o2 := Nat.ne_of_lt (Nat.lt_of_lt_of_le E_o1.lt (Nat.le_of_eq g2.symm))
  have ge_o2 : h0.size ≤ o2 := Nat.le_trans K.le (Nat.le_of_eq g2.symm)
  obtain ⟨T, h, k2, X, e0, E2, A2, st⟩ := newP X hx hZ (oW hw 1 rfl) e0 (g := (mkF m 10 #[rv xa, iv 1] [(.int 1), (.ref o1), (.ref o1)])) rfl (hb hby d2_10) rfl (by decide) (cap := 1) (by decide) (by decide) (by decide) (by decide)
  rw [← g2] at A2 st
  have K := K.ext E2
  have V_o2 : Arv Z h o2 k2 .char (1 : Int32) [(.int (0 : Int32))] (.int (0 : Int32)) := (Arv.new A2 (by decide)).pad (pad_rep [] (.int (0 : Int32)) 1)
  refine oWk.st (fun _ kt => st _ (zD X hx hby d2_12 rfl rfl rfl (zK X hx hby d2_13 rfl (zA X hx hby d2_14 rfl rfl rfl (zK X hx hby d2_15 rfl kt))))) ?_
  have V_xa := (V_xa.ext E2)
  refine oWk.to (mkF m 17 #[rv xa, iv 1] [(.int xc0), (.int 0), (.ref o2), (.ref o2), (.ref o1), (.ref o1)]) (fun _ kt => oLdC X hx hZ e0 V_xa (0 : Int32) (.int xc0) ⟨by decide, by decide⟩ rfl hby d2_16 rfl rfl kt) ?_
  obtain ⟨cl4, Ar4, q4, Sz4, Nn4, Hs4, Ft4⟩ := id V_o2
  have hin4 : ¬ ((0 : Int32) < 0 ∨ cl4.slots.size ≤ ((0 : Int32)).toNatClampNeg) := inb_of Sz4 ⟨by decide, by decide⟩
  obtain ⟨T, h, X, e0, W4, st⟩ := stC X hx hZ e0 Ar4 (j := (0 : Int32)) hin4 (g := (mkF m 17 #[rv xa, iv 1] [(.int xc0), (.int 0), (.ref o2), (.ref o2), (.ref o1), (.ref o1)])) rfl rfl (hb hby d2_17)
  have K := K.wr W4 (Or.inr ge_o2)
  have V_o2 := Arv.set Ar4 q4 Sz4 Nn4 Hs4 Ft4 (fits_nar_char _) W4 0 rfl (Nat.le_of_ble_eq_true rfl)
  rw [show nar .char xc0 = xc0 from oChr hr0] at V_o2
  replace V_o2 : Arv Z h o2 k2 .char (1 : Int32) [(.int xc0)] (.int (0 : Int32)) := V_o2
  refine oWk.st (fun _ kt => st _ kt) ?_
  have E_o1 := ((E_o1.ext E2).wr W4)
  have F_value_o1 := ((F_value_o1.ext E2).other W4 (Or.inl ne_o1_o2))
  have F_coder_o1 := ((F_coder_o1.ext E2).other W4 (Or.inl ne_o1_o2))
  have V_xa := (V_xa.other W4 ne_xa_o2)
  have lt_xa := V_xa.lt
  have lt_o1 := E_o1.lt
  have lt_o2 := V_o2.lt
  have Oh := K.old O0 all0
  obtain ⟨_, T, h, Lc6, X, e0, hQ, st⟩ := (cs4 hw).run X hx hZ hown e0 (A := [(.ref o1), (.ref o2)]) ⟨rfl, _, _, rfl⟩ (rI1_1 l Z a0 hw [] o1 o2 k2 xz .null (.int (0 : Int32)) xc0 h Oh S_COMPACT_STRINGS hz (Nat.le_trans O0.1 ge_o1) E_o1 F_value_o1 F_coder_o1 V_o2 (oLe255 hr0)) (W := 1) (by decide) hml (Ls := #[rv xa, iv 1]) rfl (rest := [(.ref o1)]) rfl rfl hby d2_18
  obtain ⟨nb5, nk5, rfl, K5, E_o1, F_coder_o1, F_value_o1, gn_nb5, V_nb5⟩ := hQ
  have ge_nb5 := Nat.le_trans K.le gn_nb5
  have ne_xa_nb5 : xa ≠ nb5 := Nat.ne_of_lt (Nat.lt_of_lt_of_le lt_xa gn_nb5)
  have ne_o1_nb5 : o1 ≠ nb5 := Nat.ne_of_lt (Nat.lt_of_lt_of_le lt_o1 gn_nb5)
  have ne_o2_nb5 : o2 ≠ nb5 := Nat.ne_of_lt (Nat.lt_of_lt_of_le lt_o2 gn_nb5)
  have K := K.call K5 (allS (Or.inr ge_o1) all0)
  refine oWk.to (mkF m 21 #[rv xa, iv 1] [(.ref o1)]) (fun _ kt => st _ kt) ?_
  exact oRetA X hx hlk hret rfl rfl (hb hby d2_21) (by rw [e0]; exact ⟨o1, nb5, nk5, rfl, K, ge_o1, ge_nb5, E_o1, F_coder_o1, F_value_o1, V_nb5⟩) (by decide) (by decide)
def Q_rC5_2 (Z : State) (xa xd : Addr) (xk xl : ClassId) (xc0 xc1 : Int32) (h0 : Heap) (v : Option Value) (h : Heap) (L : List Loc) : Prop := v = some (.int (2 : Int32)) ∧ oKp h0 h [xd] L ∧ (Arv Z h xd xl .byte (2 : Int32) [(ib xc0), (ib xc1)] (.int (0 : Int32)))
theorem rC5_2 (l : Launch) (Z : State) (a0 : Array Value) (hw : oHW a0 Z) (ws : List Jvm.Cond) (xa xd : Addr) (xk xl : ClassId) (xc0 xc1 : Int32) (h0 : Heap) (O0 : Ext Z.heap h0) (og_xd : Z.heap.size ≤ xd) (ne_xa_xd : xa ≠ xd) (V_xa : Arv Z h0 xa xk .char (2 : Int32) [(.int xc0), (.int xc1)] (.int (0 : Int32))) (V_xd : Arv Z h0 xd xl .byte (2 : Int32) [(.int (0 : Int32)), (.int (0 : Int32))] (.int (0 : Int32))) (hc0_ : ¬ (255 : Int32) < xc0) (hc1_ : ¬ (255 : Int32) < xc1) :
    oCon l Z yy2 jdk_52_method_21_code 7 (some .int) ws ({ frames := 0, cells := 0, slots := 0, locals := 0 } : Room) #[(.ref xa), (.int (0 : Int32)), (.ref xd), (.int (0 : Int32)), (.int (2 : Int32))] h0 (Q_rC5_2 Z xa xd xk xl xc0 xc1 h0) := by
  refine oCon.of (plainFor_of_name pn_2) ?_
  intro p e s m below meth c T X hx hby hml hown hnm hret hlk hZ e0
  have hml : c.maxLocals = 7 := hml
  have K : oKp h0 h0 [xd] [] := oKp.nil _ _
  refine oWk.cast (g' := (mkF m 0 #[rv xa, iv 0, rv xd, iv 0, iv 2, uu, uu] [])) (by first | rfl | (simp [entryFrame, mkF, argsToLocals, Value.category]; done)) ?_
  refine oWk.to (mkF m 12 #[rv xa, iv 0, rv xd, iv 0, iv 2, iv 0, uu] [(.int 0), (.ref xa)]) (fun _ kt => zK X hx hby d7_0 rfl (zS X hx hby d7_1 rfl rfl (l' := #[rv xa, iv 0, rv xd, iv 0, iv 2, iv 0, uu]) rfl (zJ X hx hby d7_3 rfl rfl (zJ X hx hby d7_5 rfl rfl (zN X hx hby d7_7 rfl rfl (tlt (by decide)).2.1 (zA X hx hby d7_10 rfl rfl rfl (zI X hx hby d7_11 rfl rfl kt))))))) ?_
  refine oWk.to (mkF m 20 #[rv xa, iv 0, rv xd, iv 0, iv 2, iv 0, iv xc0] [(.int 255), (.int xc0)]) (fun _ kt => oLdC X hx hZ e0 V_xa (0 : Int32) (.int xc0) ⟨by decide, by decide⟩ rfl hby d7_12 rfl rfl (zS X hx hby d7_13 rfl rfl (l' := #[rv xa, iv 0, rv xd, iv 0, iv 2, iv 0, iv xc0]) rfl (zJ X hx hby d7_15 rfl rfl (zM X hx hby d7_17 rfl kt)))) ?_
  refine oWk.to (mkF m 31 #[rv xa, iv 0, rv xd, iv 0, iv 2, iv 0, iv xc0] [(ib xc0), (.int 0), (.ref xd)]) (fun _ kt => zY X hx hby d7_20 rfl rfl (flt hc0_).2.2.2 (pc' := 26) rfl (zA X hx hby d7_26 rfl rfl rfl (zI X hx hby d7_27 rfl rfl (zJ X hx hby d7_28 rfl rfl (XS.i2b X.here hx rfl (hb hby d7_30) rfl kt))))) ?_
  obtain ⟨cl2, Ar2, q2, Sz2, Nn2, Hs2, Ft2⟩ := id V_xd
  have hin2 : ¬ ((0 : Int32) < 0 ∨ cl2.slots.size ≤ ((0 : Int32)).toNatClampNeg) := inb_of Sz2 ⟨by decide, by decide⟩
  obtain ⟨T, h, X, e0, W2, st⟩ := stB X hx hZ e0 Ar2 (j := (0 : Int32)) hin2 (g := (mkF m 31 #[rv xa, iv 0, rv xd, iv 0, iv 2, iv 0, iv xc0] [(ib xc0), (.int 0), (.ref xd)])) rfl rfl (hb hby d7_31)
  have K := K.wr W2 (Or.inl (List.mem_of_getElem? (i := 0) rfl))
  have V_xd := Arv.set Ar2 q2 Sz2 Nn2 Hs2 Ft2 (fits_nar_byte _) W2 0 rfl (Nat.le_of_ble_eq_true rfl)
  rw [oB8 xc0] at V_xd
  replace V_xd : Arv Z h xd xl .byte (2 : Int32) [(ib xc0), (.int (0 : Int32))] (.int (0 : Int32)) := V_xd
  refine oWk.to (mkF m 7 #[rv xa, iv 1, rv xd, iv 1, iv 2, iv 1, iv xc0] [(.int 2), (.int 1)]) (fun _ kt => st _ (zC X hx hby d7_32 rfl rfl (l' := #[rv xa, iv ((0 : Int32) + (1 : Int32)), rv xd, iv 0, iv 2, iv 0, iv xc0]) rfl (zC X hx hby d7_35 rfl rfl (l' := #[rv xa, iv 1, rv xd, iv ((0 : Int32) + (1 : Int32)), iv 2, iv 0, iv xc0]) rfl (zC X hx hby d7_38 rfl rfl (l' := #[rv xa, iv 1, rv xd, iv 1, iv 2, iv ((0 : Int32) + (1 : Int32)), iv xc0]) rfl (zG X hx hby d7_41 rfl (pc' := 3) rfl (zJ X hx hby d7_3 rfl rfl (zJ X hx hby d7_5 rfl rfl kt))))))) ?_
  refine oWk.st (fun _ kt => zN X hx hby d7_7 rfl rfl (tlt (by decide)).2.1 (zA X hx hby d7_10 rfl rfl rfl (zI X hx hby d7_11 rfl rfl kt))) ?_
  have V_xa := (V_xa.other W2 ne_xa_xd)
  refine oWk.to (mkF m 20 #[rv xa, iv 1, rv xd, iv 1, iv 2, iv 1, iv xc1] [(.int 255), (.int xc1)]) (fun _ kt => oLdC X hx hZ e0 V_xa (1 : Int32) (.int xc1) ⟨by decide, by decide⟩ rfl hby d7_12 rfl rfl (zS X hx hby d7_13 rfl rfl (l' := #[rv xa, iv 1, rv xd, iv 1, iv 2, iv 1, iv xc1]) rfl (zJ X hx hby d7_15 rfl rfl (zM X hx hby d7_17 rfl kt)))) ?_
  refine oWk.to (mkF m 31 #[rv xa, iv 1, rv xd, iv 1, iv 2, iv 1, iv xc1] [(ib xc1), (.int 1), (.ref xd)]) (fun _ kt => zY X hx hby d7_20 rfl rfl (flt hc1_).2.2.2 (pc' := 26) rfl (zA X hx hby d7_26 rfl rfl rfl (zI X hx hby d7_27 rfl rfl (zJ X hx hby d7_28 rfl rfl (XS.i2b X.here hx rfl (hb hby d7_30) rfl kt))))) ?_
  obtain ⟨cl4, Ar4, q4, Sz4, Nn4, Hs4, Ft4⟩ := id V_xd
  have hin4 : ¬ ((1 : Int32) < 0 ∨ cl4.slots.size ≤ ((1 : Int32)).toNatClampNeg) := inb_of Sz4 ⟨by decide, by decide⟩
  obtain ⟨T, h, X, e0, W4, st⟩ := stB X hx hZ e0 Ar4 (j := (1 : Int32)) hin4 (g := (mkF m 31 #[rv xa, iv 1, rv xd, iv 1, iv 2, iv 1, iv xc1] [(ib xc1), (.int 1), (.ref xd)])) rfl rfl (hb hby d7_31)
  have K := K.wr W4 (Or.inl (List.mem_of_getElem? (i := 0) rfl))
  have V_xd := Arv.set Ar4 q4 Sz4 Nn4 Hs4 Ft4 (fits_nar_byte _) W4 1 rfl (Nat.le_of_ble_eq_true rfl)
  rw [oB8 xc1] at V_xd
  replace V_xd : Arv Z h xd xl .byte (2 : Int32) [(ib xc0), (ib xc1)] (.int (0 : Int32)) := V_xd
  refine oWk.to (mkF m 7 #[rv xa, iv 2, rv xd, iv 2, iv 2, iv 2, iv xc1] [(.int 2), (.int 2)]) (fun _ kt => st _ (zC X hx hby d7_32 rfl rfl (l' := #[rv xa, iv ((1 : Int32) + (1 : Int32)), rv xd, iv 1, iv 2, iv 1, iv xc1]) rfl (zC X hx hby d7_35 rfl rfl (l' := #[rv xa, iv 2, rv xd, iv ((1 : Int32) + (1 : Int32)), iv 2, iv 1, iv xc1]) rfl (zC X hx hby d7_38 rfl rfl (l' := #[rv xa, iv 2, rv xd, iv 2, iv 2, iv ((1 : Int32) + (1 : Int32)), iv xc1]) rfl (zG X hx hby d7_41 rfl (pc' := 3) rfl (zJ X hx hby d7_3 rfl rfl (zJ X hx hby d7_5 rfl rfl kt))))))) ?_
  refine oWk.to (mkF m 46 #[rv xa, iv 2, rv xd, iv 2, iv 2, iv 2, iv xc1] [(.int 2)]) (fun _ kt => zY X hx hby d7_7 rfl rfl (flt (by decide)).2.1 (pc' := 44) rfl (zJ X hx hby d7_44 rfl rfl kt)) ?_
  exact oRetI X hx hlk hret (hb hby d7_46) (by rw [e0]; exact ⟨rfl, K, V_xd⟩) (by decide) (by decide)
def Q_rC3_2 (Z : State) (xa : Addr) (xk : ClassId) (xc0 xc1 : Int32) (h0 : Heap) (v : Option Value) (h : Heap) (L : List Loc) : Prop := ∃ (nb : Addr) (nk : ClassId), v = some (.ref nb) ∧ oKp h0 h [] L ∧ (h0.size ≤ nb) ∧ (Arv Z h nb nk .byte (2 : Int32) [(ib xc0), (ib xc1)] (.int (0 : Int32)))
theorem rC3_2 (l : Launch) (Z : State) (a0 : Array Value) (hw : oHW a0 Z) (ws : List Jvm.Cond) (xa : Addr) (xk : ClassId) (xc0 xc1 : Int32) (h0 : Heap) (O0 : Ext Z.heap h0) (V_xa : Arv Z h0 xa xk .char (2 : Int32) [(.int xc0), (.int xc1)] (.int (0 : Int32))) (hc0_ : ¬ (255 : Int32) < xc0) (hc1_ : ¬ (255 : Int32) < xc1) :
    oCon l Z yy3 jdk_52_method_16_code 6 (some (.array .byte)) ws ({ frames := 1, cells := 1, slots := 2, locals := 18 } : Room) #[(.ref xa), (.int (0 : Int32)), (.int (2 : Int32))] h0 (Q_rC3_2 Z xa xk xc0 xc1 h0) := by
  refine oCon.of (plainFor_of_name pn_2) ?_
  intro p e s m below meth c T X hx hby hml hown hnm hret hlk hZ e0
  have hml : c.maxLocals = 6 := hml
  have K : oKp h0 h0 [] [] := oKp.nil _ _
  refine oWk.cast (g' := (mkF m 0 #[rv xa, iv 0, iv 2, uu, uu, uu] [])) (by first | rfl | (simp [entryFrame, mkF, argsToLocals, Value.category]; done)) ?_
  refine oWk.st (fun _ kt => zI X hx hby d6_0 rfl rfl kt) ?_
  obtain ⟨o1, g1⟩ : ∃ z, z = h0.size := ⟨_, rfl⟩
  have ne_xa_o1 : xa ≠ o1 := Nat.ne_of_lt (Nat.lt_of_lt_of_le V_xa.lt (Nat.le_of_eq g1.symm))
  have ge_o1 : h0.size ≤ o1 := Nat.le_trans K.le (Nat.le_of_eq g1.symm)
  obtain ⟨T, h, k1, X, e0, E1, A1, st⟩ := newP X hx hZ (oW hw 27 rfl) e0 (g := (mkF m 1 #[rv xa, iv 0, iv 2, uu, uu, uu] [(.int 2)])) rfl (hb hby d6_1) rfl (by decide) (cap := 2) (by decide) (by decide) (by decide) (by decide)
  rw [← g1] at A1 st
  have K := K.ext E1
  have V_o1 : Arv Z h o1 k1 .byte (2 : Int32) [(.int (0 : Int32)), (.int (0 : Int32))] (.int (0 : Int32)) := (Arv.new A1 (by decide)).pad (pad_rep [] (.int (0 : Int32)) 2)
  refine oWk.to (mkF m 9 #[rv xa, iv 0, iv 2, rv o1, uu, uu] [(.int 2), (.int 0), (.ref o1), (.int 0), (.ref xa)]) (fun _ kt => st _ (zTn X hx hby d6_3 rfl rfl rfl (l' := #[rv xa, iv 0, iv 2, rv o1, uu, uu]) rfl (zA X hx hby d6_4 rfl rfl rfl (zI X hx hby d6_5 rfl rfl (zA X hx hby d6_6 rfl rfl rfl (zK X hx hby d6_7 rfl (zI X hx hby d6_8 rfl rfl kt))))))) ?_
  have V_xa := (V_xa.ext E1)
  have Oh := K.old O0 all0
  obtain ⟨_, T, h, Lc3, X, e0, hQ, st⟩ := (cs0 hw).run X hx hZ hown e0 (A := [(.ref xa), (.int (0 : Int32)), (.ref o1), (.int (0 : Int32)), (.int (2 : Int32))]) rfl (rC5_2 l Z a0 hw [] xa o1 xk k1 xc0 xc1 h Oh (Nat.le_trans O0.1 ge_o1) ne_xa_o1 V_xa V_o1 hc0_ hc1_) (W := 0) (by decide) hml (Ls := #[rv xa, iv 0, iv 2, rv o1, uu, uu]) rfl (rest := []) rfl rfl hby d6_9
  obtain ⟨rfl, K2, V_o1⟩ := hQ
  have K := K.call K2 (allS (Or.inr ge_o1) all0)
  refine oWk.to (mkF m 58 #[rv xa, iv 0, iv 2, rv o1, iv 2, uu] [(.ref o1)]) (fun _ kt => st _ (zS X hx hby d6_12 rfl rfl (l' := #[rv xa, iv 0, iv 2, rv o1, iv 2, uu]) rfl (zJ X hx hby d6_14 rfl rfl (zI X hx hby d6_16 rfl rfl (zY X hx hby d6_17 rfl rfl (teq (by decide)).1 (pc' := 57) rfl (zA X hx hby d6_57 rfl rfl rfl kt)))))) ?_
  exact oRetA X hx hlk hret rfl rfl (hb hby d6_58) (by rw [e0]; exact ⟨o1, k1, rfl, K, ge_o1, V_o1⟩) (by decide) (by decide)
def Q_rCo_2 (Z : State) (xb : Addr) (xk : ClassId) (xy0 xy1 : Int32) (h0 : Heap) (v : Option Value) (h : Heap) (L : List Loc) : Prop := v = some (.int (0 : Int32)) ∧ h = h0 ∧ oKp h0 h [] L
theorem rCo_2 (l : Launch) (Z : State) (a0 : Array Value) (hw : oHW a0 Z) (ws : List Jvm.Cond) (xb : Addr) (xk : ClassId) (xy0 xy1 : Int32) (h0 : Heap) (O0 : Ext Z.heap h0) (V_xb : Arv Z h0 xb xk .byte (2 : Int32) [(.int xy0), (.int xy1)] (.int (0 : Int32))) :
    oCon l Z yy4 jdk_52_method_15_code 2 (some .byte) ws ({ frames := 0, cells := 0, slots := 0, locals := 0 } : Room) #[(.ref xb), (.int (2 : Int32))] h0 (Q_rCo_2 Z xb xk xy0 xy1 h0) := by
  refine oCon.of (plainFor_of_name pn_2) ?_
  intro p e s m below meth c T X hx hby hml hown hnm hret hlk hZ e0
  have hml : c.maxLocals = 2 := hml
  have K : oKp h0 h0 [] [] := oKp.nil _ _
  refine oWk.cast (g' := (mkF m 0 #[rv xb, iv 2] [])) (by first | rfl | (simp [entryFrame, mkF, argsToLocals, Value.category]; done)) ?_
  refine oWk.to (mkF m 8 #[rv xb, iv 2] [(.int 0)]) (fun _ kt => zI X hx hby d8_0 rfl rfl (zA X hx hby d8_1 rfl rfl rfl (oAl X hx hZ e0 V_xb hby d8_2 rfl rfl (XS.isub X.here hx rfl (hb hby d8_3) rfl (zL X hx hby d8_4 rfl (XS.iushr X.here hx rfl (hb hby d8_6) rfl (XS.i2b X.here hx rfl (hb hby d8_7) rfl kt))))))) ?_
  exact oRetN X hx hlk hret (Or.inl rfl) rfl (hb hby d8_8) (by rw [e0]; exact ⟨rfl, rfl, K⟩) (by decide) (by decide)
def Q_rI4_2 (Z : State) (xs xa : Addr) (xk : ClassId) (xz : Int32) (xu xv : Value) (xc0 xc1 : Int32) (h0 : Heap) (v : Option Value) (h : Heap) (L : List Loc) : Prop := ∃ (nb : Addr) (nk : ClassId), v = none ∧ oKp h0 h [xs] L ∧ (Exa Z h xs Y0) ∧ (Fld Z h xs Y0 "coder" "B" (.int (0 : Int32))) ∧ (Fld Z h xs Y0 "value" "[B" (.ref nb)) ∧ (h0.size ≤ nb) ∧ (Arv Z h nb nk .byte (2 : Int32) [(ib xc0), (ib xc1)] (.int (0 : Int32)))
theorem rI4_2 (l : Launch) (Z : State) (a0 : Array Value) (hw : oHW a0 Z) (ws : List Jvm.Cond) (xs xa : Addr) (xk : ClassId) (xz : Int32) (xu xv : Value) (xc0 xc1 : Int32) (h0 : Heap) (O0 : Ext Z.heap h0) (S_COMPACT_STRINGS : Sta Z Z.heap Y0 Y1 "Z" (.int xz)) (hz : ¬ xz = (0 : Int32)) (og_xs : Z.heap.size ≤ xs) (E_xs : Exa Z h0 xs Y0) (F_value_xs : Fld Z h0 xs Y0 "value" "[B" xu) (F_coder_xs : Fld Z h0 xs Y0 "coder" "B" xv) (V_xa : Arv Z h0 xa xk .char (2 : Int32) [(.int xc0), (.int xc1)] (.int (0 : Int32))) (hc0_ : ¬ (255 : Int32) < xc0) (hc1_ : ¬ (255 : Int32) < xc1) :
    oCon l Z yy5 jdk_42_method_149_code 6 none ws ({ frames := 2, cells := 1, slots := 2, locals := 35 } : Room) #[(.ref xs), (.ref xa), (.int (0 : Int32)), (.int (2 : Int32)), .null] h0 (Q_rI4_2 Z xs xa xk xz xu xv xc0 xc1 h0) := by
  refine oCon.of (plainFor_of_name pn_3) ?_
  intro p e s m below meth c T X hx hby hml hown hnm hret hlk hZ e0
  have hml : c.maxLocals = 6 := hml
  have K : oKp h0 h0 [xs] [] := oKp.nil _ _
  refine oWk.cast (g' := (mkF m 0 #[rv xs, rv xa, iv 0, iv 2, .val .null, uu] [])) (by first | rfl | (simp [entryFrame, mkF, argsToLocals, Value.category]; done)) ?_
  refine oWk.st (fun _ kt => zA X hx hby d4_0 rfl rfl rfl kt) ?_
  obtain ⟨T, X, e0, st⟩ := initO X hx hZ hown (oW hw 19 rfl) (oW hw 20 rfl) (oW hw 21 rfl) e0 (g := (mkF m 1 #[rv xs, rv xa, iv 0, iv 2, .val .null, uu] [(.ref xs)])) rfl (by rw [hml]; rfl) rfl (hb hby d4_1) (by decide) (W := 0) (Nat.le_of_eq rfl) (by decide)
  refine oWk.st (fun _ kt => st _ (zI X hx hby d4_4 rfl rfl (zF X hx hby d4_5 rfl rfl ((if0 _ _).trans (feq (by decide)).2) (pc' := 27) rfl kt))) ?_
  have Oh := K.old O0 (allS og_xs all0)
  obtain ⟨T, X, e0, st⟩ := getS2 X hx hZ hown (host := "") (Or.inl (oW hw 22 rfl)) Via.refl e0 (S_COMPACT_STRINGS.ext Oh) (g := (mkF m 27 #[rv xs, rv xa, iv 0, iv 2, .val .null, uu] [])) rfl (hb hby d4_27)
  refine oWk.st (fun _ kt => st _ (zH X hx hby d4_30 rfl rfl ((if0 _ _).trans (feq hz).1) (zA X hx hby d4_33 rfl rfl rfl (zI X hx hby d4_34 rfl rfl (zI X hx hby d4_35 rfl rfl kt))))) ?_
  have lt_xs := E_xs.lt
  have lt_xa := V_xa.lt
  obtain ⟨_, T, h, Lc2, X, e0, hQ, st⟩ := (cs1 hw).run X hx hZ hown e0 (A := [(.ref xa), (.int (0 : Int32)), (.int (2 : Int32))]) rfl (rC3_2 l Z a0 hw [] xa xk xc0 xc1 h0 Oh V_xa hc0_ hc1_) (W := 0) (by decide) hml (Ls := #[rv xs, rv xa, iv 0, iv 2, .val .null, uu]) rfl (rest := []) rfl rfl hby d4_36
  obtain ⟨nb1, nk1, rfl, K1, gn_nb1, V_nb1⟩ := hQ
  have ge_nb1 := Nat.le_trans K.le gn_nb1
  have ne_xs_nb1 : xs ≠ nb1 := Nat.ne_of_lt (Nat.lt_of_lt_of_le lt_xs gn_nb1)
  have ne_xa_nb1 : xa ≠ nb1 := Nat.ne_of_lt (Nat.lt_of_lt_of_le lt_xa gn_nb1)
  have K := K.call K1 all0
  refine oWk.st (fun _ kt => st _ (zT X hx hby d4_39 rfl rfl rfl (l' := #[rv xs, rv xa, iv 0, iv 2, .val .null, rv nb1]) rfl (zA X hx hby d4_41 rfl rfl rfl (zB X hx hby d4_42 rfl rfl rfl (zI X hx hby d4_44 rfl rfl kt))))) ?_
  have Oh := K.old O0 (allS og_xs all0)
  obtain ⟨T, L4, X, e0, K, st⟩ := (cs2 hw).pure X hx hZ hown e0 K (A := [(.ref nb1), (.int (2 : Int32))]) rfl (rCo_2 l Z a0 hw [] nb1 nk1 (xc0.toInt8.toInt32) (xc1.toInt8.toInt32) h Oh V_nb1) (fun _ _ _ q => q) (W := 1) (by decide) hml (Ls := #[rv xs, rv xa, iv 0, iv 2, .val .null, rv nb1]) rfl (rest := [(.ref xs)]) rfl rfl hby d4_45
  refine oWk.st (fun _ kt => st _ kt) ?_
  have E_xs := (E_xs.keep K1.1)
  have F_coder_xs := (F_coder_xs.keep K1.1 nin0)
  obtain ⟨T, h, X, e0, W5, st⟩ := putFN X hx hZ hown (oW hw 34 rfl) Via.refl e0 F_coder_xs E_xs (Or.inr ⟨(oW hw 35 rfl), rfl, hnm⟩) (oW hw 10 rfl) (ty := .byte) (v' := .int (0 : Int32)) (by decide) rfl (by decide) (g := (mkF m 48 #[rv xs, rv xa, iv 0, iv 2, .val .null, rv nb1] [(.int 0), (.ref xs)])) rfl rfl (hb hby d4_48)
  have K := K.wr W5 (Or.inl (List.mem_of_getElem? (i := 0) rfl))
  have F_coder_xs := F_coder_xs.same W5
  refine oWk.st (fun _ kt => st _ (zA X hx hby d4_51 rfl rfl rfl (zB X hx hby d4_52 rfl rfl rfl kt))) ?_
  have E_xs := (E_xs.wr W5)
  have F_value_xs := ((F_value_xs.keep K1.1 nin0).other W5 (Or.inr (slot_ne (Or.inr (oW hw 37 rfl)) (Or.inr (oW hw 35 rfl)) (by decide) (t := (.array .byte)) (t' := .byte) (by decide) (by decide))))
  obtain ⟨T, h, X, e0, W6, st⟩ := putF X hx hZ hown (host := "") (Or.inl (oW hw 36 rfl)) Via.refl e0 F_value_xs E_xs (Or.inr ⟨(oW hw 37 rfl), rfl, hnm⟩) (oW hw 10 rfl) (ty := (.array .byte)) (by decide) rfl rfl (g := (mkF m 54 #[rv xs, rv xa, iv 0, iv 2, .val .null, rv nb1] [(.ref nb1), (.ref xs)])) rfl rfl (hb hby d4_54)
  have K := K.wr W6 (Or.inl (List.mem_of_getElem? (i := 0) rfl))
  have F_value_xs := F_value_xs.same W6
  refine oWk.to (mkF m 57 #[rv xs, rv xa, iv 0, iv 2, .val .null, rv nb1] []) (fun _ kt => st _ kt) ?_
  have E_xs := (E_xs.wr W6)
  have F_coder_xs := (F_coder_xs.other W6 (Or.inr (slot_ne (Or.inr (oW hw 35 rfl)) (Or.inr (oW hw 37 rfl)) (by decide) (t := .byte) (t' := (.array .byte)) (by decide) (by decide))))
  have V_nb1 := ((V_nb1.other W5 (Ne.symm ne_xs_nb1)).other W6 (Ne.symm ne_xs_nb1))
  exact oRetV X hx hlk hret (hb hby d4_57) (by rw [e0]; exact ⟨nb1, nk1, rfl, K, E_xs, F_coder_xs, F_value_xs, ge_nb1, V_nb1⟩) (by decide) (by decide)
def Q_rI1_2 (Z : State) (xs xa : Addr) (xk : ClassId) (xz : Int32) (xu xv : Value) (xc0 xc1 : Int32) (h0 : Heap) (v : Option Value) (h : Heap) (L : List Loc) : Prop := ∃ (nb : Addr) (nk : ClassId), v = none ∧ oKp h0 h [xs] L ∧ (Exa Z h xs Y0) ∧ (Fld Z h xs Y0 "coder" "B" (.int (0 : Int32))) ∧ (Fld Z h xs Y0 "value" "[B" (.ref nb)) ∧ (h0.size ≤ nb) ∧ (Arv Z h nb nk .byte (2 : Int32) [(ib xc0), (ib xc1)] (.int (0 : Int32)))
theorem rI1_2 (l : Launch) (Z : State) (a0 : Array Value) (hw : oHW a0 Z) (ws : List Jvm.Cond) (xs xa : Addr) (xk : ClassId) (xz : Int32) (xu xv : Value) (xc0 xc1 : Int32) (h0 : Heap) (O0 : Ext Z.heap h0) (S_COMPACT_STRINGS : Sta Z Z.heap Y0 Y1 "Z" (.int xz)) (hz : ¬ xz = (0 : Int32)) (og_xs : Z.heap.size ≤ xs) (E_xs : Exa Z h0 xs Y0) (F_value_xs : Fld Z h0 xs Y0 "value" "[B" xu) (F_coder_xs : Fld Z h0 xs Y0 "coder" "B" xv) (V_xa : Arv Z h0 xa xk .char (2 : Int32) [(.int xc0), (.int xc1)] (.int (0 : Int32))) (hc0_ : ¬ (255 : Int32) < xc0) (hc1_ : ¬ (255 : Int32) < xc1) :
    oCon l Z yy6 jdk_42_method_3_code 2 none ws ({ frames := 3, cells := 1, slots := 2, locals := 52 } : Room) #[(.ref xs), (.ref xa)] h0 (Q_rI1_2 Z xs xa xk xz xu xv xc0 xc1 h0) := by
  refine oCon.of (plainFor_of_name pn_3) ?_
  intro p e s m below meth c T X hx hby hml hown hnm hret hlk hZ e0
  have hml : c.maxLocals = 2 := hml
  have K : oKp h0 h0 [xs] [] := oKp.nil _ _
  refine oWk.cast (g' := (mkF m 0 #[rv xs, rv xa] [])) (by first | rfl | (simp [entryFrame, mkF, argsToLocals, Value.category]; done)) ?_
  refine oWk.st (fun _ kt => zA X hx hby d3_0 rfl rfl rfl (zA X hx hby d3_1 rfl rfl rfl (zK X hx hby d3_2 rfl (zA X hx hby d3_3 rfl rfl rfl (oAl X hx hZ e0 V_xa hby d3_4 rfl rfl (XS.aconstNull X.here hx rfl (hb hby d3_5) kt)))))) ?_
  have lt_xs := E_xs.lt
  have lt_xa := V_xa.lt
  have Oh := K.old O0 (allS og_xs all0)
  obtain ⟨_, T, h, Lc3, X, e0, hQ, st⟩ := (cs3 hw).run X hx hZ hown e0 (A := [(.ref xs), (.ref xa), (.int (0 : Int32)), (.int (2 : Int32)), .null]) ⟨rfl, _, _, rfl⟩ (rI4_2 l Z a0 hw [] xs xa xk xz xu xv xc0 xc1 h0 Oh S_COMPACT_STRINGS hz og_xs E_xs F_value_xs F_coder_xs V_xa hc0_ hc1_) (W := 0) (by decide) hml (Ls := #[rv xs, rv xa]) rfl (rest := []) rfl rfl hby d3_6
  obtain ⟨nb2, nk2, rfl, K2, E_xs, F_coder_xs, F_value_xs, gn_nb2, V_nb2⟩ := hQ
  have ge_nb2 := Nat.le_trans K.le gn_nb2
  have ne_xs_nb2 : xs ≠ nb2 := Nat.ne_of_lt (Nat.lt_of_lt_of_le lt_xs gn_nb2)
  have ne_xa_nb2 : xa ≠ nb2 := Nat.ne_of_lt (Nat.lt_of_lt_of_le lt_xa gn_nb2)
  have K := K.call K2 (allS (Or.inl (List.mem_of_getElem? (i := 0) rfl)) all0)
  refine oWk.to (mkF m 9 #[rv xs, rv xa] []) (fun _ kt => st _ kt) ?_
  exact oRetV X hx hlk hret (hb hby d3_9) (by rw [e0]; exact ⟨nb2, nk2, rfl, K, E_xs, F_coder_xs, F_value_xs, ge_nb2, V_nb2⟩) (by decide) (by decide)
def Q_rBd_2 (Z : State) (xa : Addr) (xk : ClassId) (xz xc0 xc1 xc2 xc3 xc4 : Int32) (h0 : Heap) (v : Option Value) (h : Heap) (L : List Loc) : Prop := ∃ (nr : Addr) (nb : Addr) (nk : ClassId), v = some (.ref nr) ∧ oKp h0 h [] L ∧ (h0.size ≤ nr) ∧ (h0.size ≤ nb) ∧ (Exa Z h nr Y0) ∧ (Fld Z h nr Y0 "coder" "B" (.int (0 : Int32))) ∧ (Fld Z h nr Y0 "value" "[B" (.ref nb)) ∧ (Arv Z h nb nk .byte (2 : Int32) [(ib xc0), (ib xc1)] (.int (0 : Int32)))
theorem d2_22 : decode method_3_code 22 = .ok (.iload_n 1, 1) := by decide +kernel
theorem d2_23 : decode method_3_code 23 = .ok (.iconst 2, 1) := by decide +kernel
theorem d2_24 : decode method_3_code 24 = .ok (.if_icmp .ne 26, 3) := by decide +kernel
theorem d2_27 : decode method_3_code 27 = .ok (.new 7, 3) := by decide +kernel
theorem d2_30 : decode method_3_code 30 = .ok (.dup, 1) := by decide +kernel
theorem d2_31 : decode method_3_code 31 = .ok (.iconst 2, 1) := by decide +kernel
theorem d2_32 : decode method_3_code 32 = .ok (.newarray .char, 2) := by decide +kernel
theorem d2_34 : decode method_3_code 34 = .ok (.dup, 1) := by decide +kernel
theorem d2_35 : decode method_3_code 35 = .ok (.iconst 0, 1) := by decide +kernel
theorem d2_36 : decode method_3_code 36 = .ok (.aload_n 0, 1) := by decide +kernel
theorem d2_37 : decode method_3_code 37 = .ok (.iconst 0, 1) := by decide +kernel
theorem d2_38 : decode method_3_code 38 = .ok (.caload, 1) := by decide +kernel
theorem d2_39 : decode method_3_code 39 = .ok (.castore, 1) := by decide +kernel
theorem d2_40 : decode method_3_code 40 = .ok (.dup, 1) := by decide +kernel
theorem d2_41 : decode method_3_code 41 = .ok (.iconst 1, 1) := by decide +kernel
theorem d2_42 : decode method_3_code 42 = .ok (.aload_n 0, 1) := by decide +kernel
theorem d2_43 : decode method_3_code 43 = .ok (.iconst 1, 1) := by decide +kernel
theorem d2_44 : decode method_3_code 44 = .ok (.caload, 1) := by decide +kernel
theorem d2_45 : decode method_3_code 45 = .ok (.castore, 1) := by decide +kernel
theorem d2_46 : decode method_3_code 46 = .ok (.invokespecial 9, 3) := by decide +kernel
theorem d2_49 : decode method_3_code 49 = .ok (.areturn, 1) := by decide +kernel
theorem rBd_2 (l : Launch) (Z : State) (a0 : Array Value) (hw : oHW a0 Z) (ws : List Jvm.Cond) (xa : Addr) (xk : ClassId) (xz xc0 xc1 xc2 xc3 xc4 : Int32) (h0 : Heap) (O0 : Ext Z.heap h0) (S_COMPACT_STRINGS : Sta Z Z.heap Y0 Y1 "Z" (.int xz)) (hz : ¬ xz = (0 : Int32)) (V_xa : Arv Z h0 xa xk .char (5 : Int32) [(.int xc0), (.int xc1), (.int xc2), (.int xc3), (.int xc4)] (.int (0 : Int32))) (hr0 : 0 ≤ xc0.toInt ∧ xc0.toInt < 256) (hr1 : 0 ≤ xc1.toInt ∧ xc1.toInt < 256) :
    oCon l Z yy7 method_3_code 2 (some (.object Y0)) ws ({ frames := 4, cells := 3, slots := 8, locals := 66 } : Room) #[(.ref xa), (.int (2 : Int32))] h0 (Q_rBd_2 Z xa xk xz xc0 xc1 xc2 xc3 xc4 h0) := by
  refine oCon.of (plainFor_of_name pn_1) ?_
  intro p e s m below meth c T X hx hby hml hown hnm hret hlk hZ e0
  have hml : c.maxLocals = 2 := hml
  have K : oKp h0 h0 [] [] := oKp.nil _ _
  refine oWk.cast (g' := (mkF m 0 #[rv xa, iv 2] [])) (by first | rfl | (simp [entryFrame, mkF, argsToLocals, Value.category]; done)) ?_
  refine oWk.st (fun _ kt => zI X hx hby d2_0 rfl rfl (zK X hx hby d2_1 rfl (zY X hx hby d2_2 rfl rfl (feq (by decide)).2 (pc' := 22) rfl (zI X hx hby d2_22 rfl rfl (zK X hx hby d2_23 rfl (zN X hx hby d2_24 rfl rfl (teq (by decide)).2 kt)))))) ?_
  obtain ⟨o1, g1⟩ : ∃ z, z = h0.size := ⟨_, rfl⟩
  have ne_xa_o1 : xa ≠ o1 := Nat.ne_of_lt (Nat.lt_of_lt_of_le V_xa.lt (Nat.le_of_eq g1.symm))
  have ge_o1 : h0.size ≤ o1 := Nat.le_trans K.le (Nat.le_of_eq g1.symm)
  obtain ⟨T, h, X, e0, E1, A1, D1, -, st⟩ := newO X hx hZ hown (oW hw 9 rfl) (oW hw 10 rfl) (oW hw 11 rfl) e0 (g := (mkF m 27 #[rv xa, iv 2] [])) rfl (hb hby d2_27) (by decide) (by decide)
  rw [← g1] at A1 D1 st
  have K := K.ext E1
  have E_o1 := A1
  have F_coder_o1 : Fld Z h o1 Y0 "coder" "B" (.int (0 : Int32)) := D1 (Or.inr (oW hw 35 rfl)) (ty := .byte) (by decide)
  have F_value_o1 : Fld Z h o1 Y0 "value" "[B" .null := D1 (Or.inr (oW hw 37 rfl)) (ty := (.array .byte)) (by decide)
  refine oWk.st (fun _ kt => st _ (zD X hx hby d2_30 rfl rfl rfl (zK X hx hby d2_31 rfl kt))) ?_
  obtain ⟨o2, g2⟩ : ∃ z, z = h.size := ⟨_, rfl⟩
  have V_xa := (V_xa.ext E1)
  have ne_xa_o2 : xa ≠ o2 := Nat.ne_of_lt (Nat.lt_of_lt_of_le V_xa.lt (Nat.le_of_eq g2.symm))
  have ne_o1_o2 : o1 ≠ o2 := Nat.ne_of_lt (Nat.lt_of_lt_of_le E_o1.lt (Nat.le_of_eq g2.symm))
  have ge_o2 : h0.size ≤ o2 := Nat.le_trans K.le (Nat.le_of_eq g2.symm)
  obtain ⟨T, h, k2, X, e0, E2, A2, st⟩ := newP X hx hZ (oW hw 1 rfl) e0 (g := (mkF m 32 #[rv xa, iv 2] [(.int 2), (.ref o1), (.ref o1)])) rfl (hb hby d2_32) rfl (by decide) (cap := 2) (by decide) (by decide) (by decide) (by decide)
  rw [← g2] at A2 st
  have K := K.ext E2
  have V_o2 : Arv Z h o2 k2 .char (2 : Int32) [(.int (0 : Int32)), (.int (0 : Int32))] (.int (0 : Int32)) := (Arv.new A2 (by decide)).pad (pad_rep [] (.int (0 : Int32)) 2)
  refine oWk.st (fun _ kt => st _ (zD X hx hby d2_34 rfl rfl rfl (zK X hx hby d2_35 rfl (zA X hx hby d2_36 rfl rfl rfl (zK X hx hby d2_37 rfl kt))))) ?_
  have V_xa := (V_xa.ext E2)
  refine oWk.to (mkF m 39 #[rv xa, iv 2] [(.int xc0), (.int 0), (.ref o2), (.ref o2), (.ref o1), (.ref o1)]) (fun _ kt => oLdC X hx hZ e0 V_xa (0 : Int32) (.int xc0) ⟨by decide, by decide⟩ rfl hby d2_38 rfl rfl kt) ?_
  obtain ⟨cl4, Ar4, q4, Sz4, Nn4, Hs4, Ft4⟩ := id V_o2
  have hin4 : ¬ ((0 : Int32) < 0 ∨ cl4.slots.size ≤ ((0 : Int32)).toNatClampNeg) := inb_of Sz4 ⟨by decide, by decide⟩
  obtain ⟨T, h, X, e0, W4, st⟩ := stC X hx hZ e0 Ar4 (j := (0 : Int32)) hin4 (g := (mkF m 39 #[rv xa, iv 2] [(.int xc0), (.int 0), (.ref o2), (.ref o2), (.ref o1), (.ref o1)])) rfl rfl (hb hby d2_39)
  have K := K.wr W4 (Or.inr ge_o2)
  have V_o2 := Arv.set Ar4 q4 Sz4 Nn4 Hs4 Ft4 (fits_nar_char _) W4 0 rfl (Nat.le_of_ble_eq_true rfl)
  rw [show nar .char xc0 = xc0 from oChr hr0] at V_o2
  replace V_o2 : Arv Z h o2 k2 .char (2 : Int32) [(.int xc0), (.int (0 : Int32))] (.int (0 : Int32)) := V_o2
  refine oWk.st (fun _ kt => st _ (zD X hx hby d2_40 rfl rfl rfl (zK X hx hby d2_41 rfl (zA X hx hby d2_42 rfl rfl rfl (zK X hx hby d2_43 rfl kt))))) ?_
  have V_xa := (V_xa.other W4 ne_xa_o2)
  refine oWk.to (mkF m 45 #[rv xa, iv 2] [(.int xc1), (.int 1), (.ref o2), (.ref o2), (.ref o1), (.ref o1)]) (fun _ kt => oLdC X hx hZ e0 V_xa (1 : Int32) (.int xc1) ⟨by decide, by decide⟩ rfl hby d2_44 rfl rfl kt) ?_
  obtain ⟨cl6, Ar6, q6, Sz6, Nn6, Hs6, Ft6⟩ := id V_o2
  have hin6 : ¬ ((1 : Int32) < 0 ∨ cl6.slots.size ≤ ((1 : Int32)).toNatClampNeg) := inb_of Sz6 ⟨by decide, by decide⟩
  obtain ⟨T, h, X, e0, W6, st⟩ := stC X hx hZ e0 Ar6 (j := (1 : Int32)) hin6 (g := (mkF m 45 #[rv xa, iv 2] [(.int xc1), (.int 1), (.ref o2), (.ref o2), (.ref o1), (.ref o1)])) rfl rfl (hb hby d2_45)
  have K := K.wr W6 (Or.inr ge_o2)
  have V_o2 := Arv.set Ar6 q6 Sz6 Nn6 Hs6 Ft6 (fits_nar_char _) W6 1 rfl (Nat.le_of_ble_eq_true rfl)
  rw [show nar .char xc1 = xc1 from oChr hr1] at V_o2
  replace V_o2 : Arv Z h o2 k2 .char (2 : Int32) [(.int xc0), (.int xc1)] (.int (0 : Int32)) := V_o2
  refine oWk.st (fun _ kt => st _ kt) ?_
  have E_o1 := (((E_o1.ext E2).wr W4).wr W6)
  have F_value_o1 := (((F_value_o1.ext E2).other W4 (Or.inl ne_o1_o2)).other W6 (Or.inl ne_o1_o2))
  have F_coder_o1 := (((F_coder_o1.ext E2).other W4 (Or.inl ne_o1_o2)).other W6 (Or.inl ne_o1_o2))
  have V_xa := (V_xa.other W6 ne_xa_o2)
  have lt_xa := V_xa.lt
  have lt_o1 := E_o1.lt
  have lt_o2 := V_o2.lt
  have Oh := K.old O0 all0
  obtain ⟨_, T, h, Lc8, X, e0, hQ, st⟩ := (cs4 hw).run X hx hZ hown e0 (A := [(.ref o1), (.ref o2)]) ⟨rfl, _, _, rfl⟩ (rI1_2 l Z a0 hw [] o1 o2 k2 xz .null (.int (0 : Int32)) xc0 xc1 h Oh S_COMPACT_STRINGS hz (Nat.le_trans O0.1 ge_o1) E_o1 F_value_o1 F_coder_o1 V_o2 (oLe255 hr0) (oLe255 hr1)) (W := 1) (by decide) hml (Ls := #[rv xa, iv 2]) rfl (rest := [(.ref o1)]) rfl rfl hby d2_46
  obtain ⟨nb7, nk7, rfl, K7, E_o1, F_coder_o1, F_value_o1, gn_nb7, V_nb7⟩ := hQ
  have ge_nb7 := Nat.le_trans K.le gn_nb7
  have ne_xa_nb7 : xa ≠ nb7 := Nat.ne_of_lt (Nat.lt_of_lt_of_le lt_xa gn_nb7)
  have ne_o1_nb7 : o1 ≠ nb7 := Nat.ne_of_lt (Nat.lt_of_lt_of_le lt_o1 gn_nb7)
  have ne_o2_nb7 : o2 ≠ nb7 := Nat.ne_of_lt (Nat.lt_of_lt_of_le lt_o2 gn_nb7)
  have K := K.call K7 (allS (Or.inr ge_o1) all0)
  refine oWk.to (mkF m 49 #[rv xa, iv 2] [(.ref o1)]) (fun _ kt => st _ kt) ?_
  exact oRetA X hx hlk hret rfl rfl (hb hby d2_49) (by rw [e0]; exact ⟨o1, nb7, nk7, rfl, K, ge_o1, ge_nb7, E_o1, F_coder_o1, F_value_o1, V_nb7⟩) (by decide) (by decide)
def Q_rC5_3 (Z : State) (xa xd : Addr) (xk xl : ClassId) (xc0 xc1 xc2 : Int32) (h0 : Heap) (v : Option Value) (h : Heap) (L : List Loc) : Prop := v = some (.int (3 : Int32)) ∧ oKp h0 h [xd] L ∧ (Arv Z h xd xl .byte (3 : Int32) [(ib xc0), (ib xc1), (ib xc2)] (.int (0 : Int32)))
theorem rC5_3 (l : Launch) (Z : State) (a0 : Array Value) (hw : oHW a0 Z) (ws : List Jvm.Cond) (xa xd : Addr) (xk xl : ClassId) (xc0 xc1 xc2 : Int32) (h0 : Heap) (O0 : Ext Z.heap h0) (og_xd : Z.heap.size ≤ xd) (ne_xa_xd : xa ≠ xd) (V_xa : Arv Z h0 xa xk .char (3 : Int32) [(.int xc0), (.int xc1), (.int xc2)] (.int (0 : Int32))) (V_xd : Arv Z h0 xd xl .byte (3 : Int32) [(.int (0 : Int32)), (.int (0 : Int32)), (.int (0 : Int32))] (.int (0 : Int32))) (hc0_ : ¬ (255 : Int32) < xc0) (hc1_ : ¬ (255 : Int32) < xc1) (hc2_ : ¬ (255 : Int32) < xc2) :
    oCon l Z yy2 jdk_52_method_21_code 7 (some .int) ws ({ frames := 0, cells := 0, slots := 0, locals := 0 } : Room) #[(.ref xa), (.int (0 : Int32)), (.ref xd), (.int (0 : Int32)), (.int (3 : Int32))] h0 (Q_rC5_3 Z xa xd xk xl xc0 xc1 xc2 h0) := by
  refine oCon.of (plainFor_of_name pn_2) ?_
  intro p e s m below meth c T X hx hby hml hown hnm hret hlk hZ e0
  have hml : c.maxLocals = 7 := hml
  have K : oKp h0 h0 [xd] [] := oKp.nil _ _
  refine oWk.cast (g' := (mkF m 0 #[rv xa, iv 0, rv xd, iv 0, iv 3, uu, uu] [])) (by first | rfl | (simp [entryFrame, mkF, argsToLocals, Value.category]; done)) ?_
  refine oWk.to (mkF m 12 #[rv xa, iv 0, rv xd, iv 0, iv 3, iv 0, uu] [(.int 0), (.ref xa)]) (fun _ kt => zK X hx hby d7_0 rfl (zS X hx hby d7_1 rfl rfl (l' := #[rv xa, iv 0, rv xd, iv 0, iv 3, iv 0, uu]) rfl (zJ X hx hby d7_3 rfl rfl (zJ X hx hby d7_5 rfl rfl (zN X hx hby d7_7 rfl rfl (tlt (by decide)).2.1 (zA X hx hby d7_10 rfl rfl rfl (zI X hx hby d7_11 rfl rfl kt))))))) ?_
  refine oWk.to (mkF m 20 #[rv xa, iv 0, rv xd, iv 0, iv 3, iv 0, iv xc0] [(.int 255), (.int xc0)]) (fun _ kt => oLdC X hx hZ e0 V_xa (0 : Int32) (.int xc0) ⟨by decide, by decide⟩ rfl hby d7_12 rfl rfl (zS X hx hby d7_13 rfl rfl (l' := #[rv xa, iv 0, rv xd, iv 0, iv 3, iv 0, iv xc0]) rfl (zJ X hx hby d7_15 rfl rfl (zM X hx hby d7_17 rfl kt)))) ?_
  refine oWk.to (mkF m 31 #[rv xa, iv 0, rv xd, iv 0, iv 3, iv 0, iv xc0] [(ib xc0), (.int 0), (.ref xd)]) (fun _ kt => zY X hx hby d7_20 rfl rfl (flt hc0_).2.2.2 (pc' := 26) rfl (zA X hx hby d7_26 rfl rfl rfl (zI X hx hby d7_27 rfl rfl (zJ X hx hby d7_28 rfl rfl (XS.i2b X.here hx rfl (hb hby d7_30) rfl kt))))) ?_
  obtain ⟨cl2, Ar2, q2, Sz2, Nn2, Hs2, Ft2⟩ := id V_xd
  have hin2 : ¬ ((0 : Int32) < 0 ∨ cl2.slots.size ≤ ((0 : Int32)).toNatClampNeg) := inb_of Sz2 ⟨by decide, by decide⟩
  obtain ⟨T, h, X, e0, W2, st⟩ := stB X hx hZ e0 Ar2 (j := (0 : Int32)) hin2 (g := (mkF m 31 #[rv xa, iv 0, rv xd, iv 0, iv 3, iv 0, iv xc0] [(ib xc0), (.int 0), (.ref xd)])) rfl rfl (hb hby d7_31)
  have K := K.wr W2 (Or.inl (List.mem_of_getElem? (i := 0) rfl))
  have V_xd := Arv.set Ar2 q2 Sz2 Nn2 Hs2 Ft2 (fits_nar_byte _) W2 0 rfl (Nat.le_of_ble_eq_true rfl)
  rw [oB8 xc0] at V_xd
  replace V_xd : Arv Z h xd xl .byte (3 : Int32) [(ib xc0), (.int (0 : Int32)), (.int (0 : Int32))] (.int (0 : Int32)) := V_xd
  refine oWk.to (mkF m 7 #[rv xa, iv 1, rv xd, iv 1, iv 3, iv 1, iv xc0] [(.int 3), (.int 1)]) (fun _ kt => st _ (zC X hx hby d7_32 rfl rfl (l' := #[rv xa, iv ((0 : Int32) + (1 : Int32)), rv xd, iv 0, iv 3, iv 0, iv xc0]) rfl (zC X hx hby d7_35 rfl rfl (l' := #[rv xa, iv 1, rv xd, iv ((0 : Int32) + (1 : Int32)), iv 3, iv 0, iv xc0]) rfl (zC X hx hby d7_38 rfl rfl (l' := #[rv xa, iv 1, rv xd, iv 1, iv 3, iv ((0 : Int32) + (1 : Int32)), iv xc0]) rfl (zG X hx hby d7_41 rfl (pc' := 3) rfl (zJ X hx hby d7_3 rfl rfl (zJ X hx hby d7_5 rfl rfl kt))))))) ?_
  refine oWk.st (fun _ kt => zN X hx hby d7_7 rfl rfl (tlt (by decide)).2.1 (zA X hx hby d7_10 rfl rfl rfl (zI X hx hby d7_11 rfl rfl kt))) ?_
  have V_xa := (V_xa.other W2 ne_xa_xd)
  refine oWk.to (mkF m 20 #[rv xa, iv 1, rv xd, iv 1, iv 3, iv 1, iv xc1] [(.int 255), (.int xc1)]) (fun _ kt => oLdC X hx hZ e0 V_xa (1 : Int32) (.int xc1) ⟨by decide, by decide⟩ rfl hby d7_12 rfl rfl (zS X hx hby d7_13 rfl rfl (l' := #[rv xa, iv 1, rv xd, iv 1, iv 3, iv 1, iv xc1]) rfl (zJ X hx hby d7_15 rfl rfl (zM X hx hby d7_17 rfl kt)))) ?_
  refine oWk.to (mkF m 31 #[rv xa, iv 1, rv xd, iv 1, iv 3, iv 1, iv xc1] [(ib xc1), (.int 1), (.ref xd)]) (fun _ kt => zY X hx hby d7_20 rfl rfl (flt hc1_).2.2.2 (pc' := 26) rfl (zA X hx hby d7_26 rfl rfl rfl (zI X hx hby d7_27 rfl rfl (zJ X hx hby d7_28 rfl rfl (XS.i2b X.here hx rfl (hb hby d7_30) rfl kt))))) ?_
  obtain ⟨cl4, Ar4, q4, Sz4, Nn4, Hs4, Ft4⟩ := id V_xd
  have hin4 : ¬ ((1 : Int32) < 0 ∨ cl4.slots.size ≤ ((1 : Int32)).toNatClampNeg) := inb_of Sz4 ⟨by decide, by decide⟩
  obtain ⟨T, h, X, e0, W4, st⟩ := stB X hx hZ e0 Ar4 (j := (1 : Int32)) hin4 (g := (mkF m 31 #[rv xa, iv 1, rv xd, iv 1, iv 3, iv 1, iv xc1] [(ib xc1), (.int 1), (.ref xd)])) rfl rfl (hb hby d7_31)
  have K := K.wr W4 (Or.inl (List.mem_of_getElem? (i := 0) rfl))
  have V_xd := Arv.set Ar4 q4 Sz4 Nn4 Hs4 Ft4 (fits_nar_byte _) W4 1 rfl (Nat.le_of_ble_eq_true rfl)
  rw [oB8 xc1] at V_xd
  replace V_xd : Arv Z h xd xl .byte (3 : Int32) [(ib xc0), (ib xc1), (.int (0 : Int32))] (.int (0 : Int32)) := V_xd
  refine oWk.to (mkF m 7 #[rv xa, iv 2, rv xd, iv 2, iv 3, iv 2, iv xc1] [(.int 3), (.int 2)]) (fun _ kt => st _ (zC X hx hby d7_32 rfl rfl (l' := #[rv xa, iv ((1 : Int32) + (1 : Int32)), rv xd, iv 1, iv 3, iv 1, iv xc1]) rfl (zC X hx hby d7_35 rfl rfl (l' := #[rv xa, iv 2, rv xd, iv ((1 : Int32) + (1 : Int32)), iv 3, iv 1, iv xc1]) rfl (zC X hx hby d7_38 rfl rfl (l' := #[rv xa, iv 2, rv xd, iv 2, iv 3, iv ((1 : Int32) + (1 : Int32)), iv xc1]) rfl (zG X hx hby d7_41 rfl (pc' := 3) rfl (zJ X hx hby d7_3 rfl rfl (zJ X hx hby d7_5 rfl rfl kt))))))) ?_
  refine oWk.st (fun _ kt => zN X hx hby d7_7 rfl rfl (tlt (by decide)).2.1 (zA X hx hby d7_10 rfl rfl rfl (zI X hx hby d7_11 rfl rfl kt))) ?_
  have V_xa := (V_xa.other W4 ne_xa_xd)
  refine oWk.to (mkF m 20 #[rv xa, iv 2, rv xd, iv 2, iv 3, iv 2, iv xc2] [(.int 255), (.int xc2)]) (fun _ kt => oLdC X hx hZ e0 V_xa (2 : Int32) (.int xc2) ⟨by decide, by decide⟩ rfl hby d7_12 rfl rfl (zS X hx hby d7_13 rfl rfl (l' := #[rv xa, iv 2, rv xd, iv 2, iv 3, iv 2, iv xc2]) rfl (zJ X hx hby d7_15 rfl rfl (zM X hx hby d7_17 rfl kt)))) ?_
  refine oWk.to (mkF m 31 #[rv xa, iv 2, rv xd, iv 2, iv 3, iv 2, iv xc2] [(ib xc2), (.int 2), (.ref xd)]) (fun _ kt => zY X hx hby d7_20 rfl rfl (flt hc2_).2.2.2 (pc' := 26) rfl (zA X hx hby d7_26 rfl rfl rfl (zI X hx hby d7_27 rfl rfl (zJ X hx hby d7_28 rfl rfl (XS.i2b X.here hx rfl (hb hby d7_30) rfl kt))))) ?_
  obtain ⟨cl6, Ar6, q6, Sz6, Nn6, Hs6, Ft6⟩ := id V_xd
  have hin6 : ¬ ((2 : Int32) < 0 ∨ cl6.slots.size ≤ ((2 : Int32)).toNatClampNeg) := inb_of Sz6 ⟨by decide, by decide⟩
  obtain ⟨T, h, X, e0, W6, st⟩ := stB X hx hZ e0 Ar6 (j := (2 : Int32)) hin6 (g := (mkF m 31 #[rv xa, iv 2, rv xd, iv 2, iv 3, iv 2, iv xc2] [(ib xc2), (.int 2), (.ref xd)])) rfl rfl (hb hby d7_31)
  have K := K.wr W6 (Or.inl (List.mem_of_getElem? (i := 0) rfl))
  have V_xd := Arv.set Ar6 q6 Sz6 Nn6 Hs6 Ft6 (fits_nar_byte _) W6 2 rfl (Nat.le_of_ble_eq_true rfl)
  rw [oB8 xc2] at V_xd
  replace V_xd : Arv Z h xd xl .byte (3 : Int32) [(ib xc0), (ib xc1), (ib xc2)] (.int (0 : Int32)) := V_xd
  refine oWk.to (mkF m 7 #[rv xa, iv 3, rv xd, iv 3, iv 3, iv 3, iv xc2] [(.int 3), (.int 3)]) (fun _ kt => st _ (zC X hx hby d7_32 rfl rfl (l' := #[rv xa, iv ((2 : Int32) + (1 : Int32)), rv xd, iv 2, iv 3, iv 2, iv xc2]) rfl (zC X hx hby d7_35 rfl rfl (l' := #[rv xa, iv 3, rv xd, iv ((2 : Int32) + (1 : Int32)), iv 3, iv 2, iv xc2]) rfl (zC X hx hby d7_38 rfl rfl (l' := #[rv xa, iv 3, rv xd, iv 3, iv 3, iv ((2 : Int32) + (1 : Int32)), iv xc2]) rfl (zG X hx hby d7_41 rfl (pc' := 3) rfl (zJ X hx hby d7_3 rfl rfl (zJ X hx hby d7_5 rfl rfl kt))))))) ?_
  refine oWk.to (mkF m 46 #[rv xa, iv 3, rv xd, iv 3, iv 3, iv 3, iv xc2] [(.int 3)]) (fun _ kt => zY X hx hby d7_7 rfl rfl (flt (by decide)).2.1 (pc' := 44) rfl (zJ X hx hby d7_44 rfl rfl kt)) ?_
  exact oRetI X hx hlk hret (hb hby d7_46) (by rw [e0]; exact ⟨rfl, K, V_xd⟩) (by decide) (by decide)
def Q_rC3_3 (Z : State) (xa : Addr) (xk : ClassId) (xc0 xc1 xc2 : Int32) (h0 : Heap) (v : Option Value) (h : Heap) (L : List Loc) : Prop := ∃ (nb : Addr) (nk : ClassId), v = some (.ref nb) ∧ oKp h0 h [] L ∧ (h0.size ≤ nb) ∧ (Arv Z h nb nk .byte (3 : Int32) [(ib xc0), (ib xc1), (ib xc2)] (.int (0 : Int32)))
theorem rC3_3 (l : Launch) (Z : State) (a0 : Array Value) (hw : oHW a0 Z) (ws : List Jvm.Cond) (xa : Addr) (xk : ClassId) (xc0 xc1 xc2 : Int32) (h0 : Heap) (O0 : Ext Z.heap h0) (V_xa : Arv Z h0 xa xk .char (3 : Int32) [(.int xc0), (.int xc1), (.int xc2)] (.int (0 : Int32))) (hc0_ : ¬ (255 : Int32) < xc0) (hc1_ : ¬ (255 : Int32) < xc1) (hc2_ : ¬ (255 : Int32) < xc2) :
    oCon l Z yy3 jdk_52_method_16_code 6 (some (.array .byte)) ws ({ frames := 1, cells := 1, slots := 3, locals := 18 } : Room) #[(.ref xa), (.int (0 : Int32)), (.int (3 : Int32))] h0 (Q_rC3_3 Z xa xk xc0 xc1 xc2 h0) := by
  refine oCon.of (plainFor_of_name pn_2) ?_
  intro p e s m below meth c T X hx hby hml hown hnm hret hlk hZ e0
  have hml : c.maxLocals = 6 := hml
  have K : oKp h0 h0 [] [] := oKp.nil _ _
  refine oWk.cast (g' := (mkF m 0 #[rv xa, iv 0, iv 3, uu, uu, uu] [])) (by first | rfl | (simp [entryFrame, mkF, argsToLocals, Value.category]; done)) ?_
  refine oWk.st (fun _ kt => zI X hx hby d6_0 rfl rfl kt) ?_
  obtain ⟨o1, g1⟩ : ∃ z, z = h0.size := ⟨_, rfl⟩
  have ne_xa_o1 : xa ≠ o1 := Nat.ne_of_lt (Nat.lt_of_lt_of_le V_xa.lt (Nat.le_of_eq g1.symm))
  have ge_o1 : h0.size ≤ o1 := Nat.le_trans K.le (Nat.le_of_eq g1.symm)
  obtain ⟨T, h, k1, X, e0, E1, A1, st⟩ := newP X hx hZ (oW hw 27 rfl) e0 (g := (mkF m 1 #[rv xa, iv 0, iv 3, uu, uu, uu] [(.int 3)])) rfl (hb hby d6_1) rfl (by decide) (cap := 3) (by decide) (by decide) (by decide) (by decide)
  rw [← g1] at A1 st
  have K := K.ext E1
  have V_o1 : Arv Z h o1 k1 .byte (3 : Int32) [(.int (0 : Int32)), (.int (0 : Int32)), (.int (0 : Int32))] (.int (0 : Int32)) := (Arv.new A1 (by decide)).pad (pad_rep [] (.int (0 : Int32)) 3)
  refine oWk.to (mkF m 9 #[rv xa, iv 0, iv 3, rv o1, uu, uu] [(.int 3), (.int 0), (.ref o1), (.int 0), (.ref xa)]) (fun _ kt => st _ (zTn X hx hby d6_3 rfl rfl rfl (l' := #[rv xa, iv 0, iv 3, rv o1, uu, uu]) rfl (zA X hx hby d6_4 rfl rfl rfl (zI X hx hby d6_5 rfl rfl (zA X hx hby d6_6 rfl rfl rfl (zK X hx hby d6_7 rfl (zI X hx hby d6_8 rfl rfl kt))))))) ?_
  have V_xa := (V_xa.ext E1)
  have Oh := K.old O0 all0
  obtain ⟨_, T, h, Lc3, X, e0, hQ, st⟩ := (cs0 hw).run X hx hZ hown e0 (A := [(.ref xa), (.int (0 : Int32)), (.ref o1), (.int (0 : Int32)), (.int (3 : Int32))]) rfl (rC5_3 l Z a0 hw [] xa o1 xk k1 xc0 xc1 xc2 h Oh (Nat.le_trans O0.1 ge_o1) ne_xa_o1 V_xa V_o1 hc0_ hc1_ hc2_) (W := 0) (by decide) hml (Ls := #[rv xa, iv 0, iv 3, rv o1, uu, uu]) rfl (rest := []) rfl rfl hby d6_9
  obtain ⟨rfl, K2, V_o1⟩ := hQ
  have K := K.call K2 (allS (Or.inr ge_o1) all0)
  refine oWk.to (mkF m 58 #[rv xa, iv 0, iv 3, rv o1, iv 3, uu] [(.ref o1)]) (fun _ kt => st _ (zS X hx hby d6_12 rfl rfl (l' := #[rv xa, iv 0, iv 3, rv o1, iv 3, uu]) rfl (zJ X hx hby d6_14 rfl rfl (zI X hx hby d6_16 rfl rfl (zY X hx hby d6_17 rfl rfl (teq (by decide)).1 (pc' := 57) rfl (zA X hx hby d6_57 rfl rfl rfl kt)))))) ?_
  exact oRetA X hx hlk hret rfl rfl (hb hby d6_58) (by rw [e0]; exact ⟨o1, k1, rfl, K, ge_o1, V_o1⟩) (by decide) (by decide)
def Q_rCo_3 (Z : State) (xb : Addr) (xk : ClassId) (xy0 xy1 xy2 : Int32) (h0 : Heap) (v : Option Value) (h : Heap) (L : List Loc) : Prop := v = some (.int (0 : Int32)) ∧ h = h0 ∧ oKp h0 h [] L
theorem rCo_3 (l : Launch) (Z : State) (a0 : Array Value) (hw : oHW a0 Z) (ws : List Jvm.Cond) (xb : Addr) (xk : ClassId) (xy0 xy1 xy2 : Int32) (h0 : Heap) (O0 : Ext Z.heap h0) (V_xb : Arv Z h0 xb xk .byte (3 : Int32) [(.int xy0), (.int xy1), (.int xy2)] (.int (0 : Int32))) :
    oCon l Z yy4 jdk_52_method_15_code 2 (some .byte) ws ({ frames := 0, cells := 0, slots := 0, locals := 0 } : Room) #[(.ref xb), (.int (3 : Int32))] h0 (Q_rCo_3 Z xb xk xy0 xy1 xy2 h0) := by
  refine oCon.of (plainFor_of_name pn_2) ?_
  intro p e s m below meth c T X hx hby hml hown hnm hret hlk hZ e0
  have hml : c.maxLocals = 2 := hml
  have K : oKp h0 h0 [] [] := oKp.nil _ _
  refine oWk.cast (g' := (mkF m 0 #[rv xb, iv 3] [])) (by first | rfl | (simp [entryFrame, mkF, argsToLocals, Value.category]; done)) ?_
  refine oWk.to (mkF m 8 #[rv xb, iv 3] [(.int 0)]) (fun _ kt => zI X hx hby d8_0 rfl rfl (zA X hx hby d8_1 rfl rfl rfl (oAl X hx hZ e0 V_xb hby d8_2 rfl rfl (XS.isub X.here hx rfl (hb hby d8_3) rfl (zL X hx hby d8_4 rfl (XS.iushr X.here hx rfl (hb hby d8_6) rfl (XS.i2b X.here hx rfl (hb hby d8_7) rfl kt))))))) ?_
  exact oRetN X hx hlk hret (Or.inl rfl) rfl (hb hby d8_8) (by rw [e0]; exact ⟨rfl, rfl, K⟩) (by decide) (by decide)
def Q_rI4_3 (Z : State) (xs xa : Addr) (xk : ClassId) (xz : Int32) (xu xv : Value) (xc0 xc1 xc2 : Int32) (h0 : Heap) (v : Option Value) (h : Heap) (L : List Loc) : Prop := ∃ (nb : Addr) (nk : ClassId), v = none ∧ oKp h0 h [xs] L ∧ (Exa Z h xs Y0) ∧ (Fld Z h xs Y0 "coder" "B" (.int (0 : Int32))) ∧ (Fld Z h xs Y0 "value" "[B" (.ref nb)) ∧ (h0.size ≤ nb) ∧ (Arv Z h nb nk .byte (3 : Int32) [(ib xc0), (ib xc1), (ib xc2)] (.int (0 : Int32)))
theorem rI4_3 (l : Launch) (Z : State) (a0 : Array Value) (hw : oHW a0 Z) (ws : List Jvm.Cond) (xs xa : Addr) (xk : ClassId) (xz : Int32) (xu xv : Value) (xc0 xc1 xc2 : Int32) (h0 : Heap) (O0 : Ext Z.heap h0) (S_COMPACT_STRINGS : Sta Z Z.heap Y0 Y1 "Z" (.int xz)) (hz : ¬ xz = (0 : Int32)) (og_xs : Z.heap.size ≤ xs) (E_xs : Exa Z h0 xs Y0) (F_value_xs : Fld Z h0 xs Y0 "value" "[B" xu) (F_coder_xs : Fld Z h0 xs Y0 "coder" "B" xv) (V_xa : Arv Z h0 xa xk .char (3 : Int32) [(.int xc0), (.int xc1), (.int xc2)] (.int (0 : Int32))) (hc0_ : ¬ (255 : Int32) < xc0) (hc1_ : ¬ (255 : Int32) < xc1) (hc2_ : ¬ (255 : Int32) < xc2) :
    oCon l Z yy5 jdk_42_method_149_code 6 none ws ({ frames := 2, cells := 1, slots := 3, locals := 35 } : Room) #[(.ref xs), (.ref xa), (.int (0 : Int32)), (.int (3 : Int32)), .null] h0 (Q_rI4_3 Z xs xa xk xz xu xv xc0 xc1 xc2 h0) := by
  refine oCon.of (plainFor_of_name pn_3) ?_
  intro p e s m below meth c T X hx hby hml hown hnm hret hlk hZ e0
  have hml : c.maxLocals = 6 := hml
  have K : oKp h0 h0 [xs] [] := oKp.nil _ _
  refine oWk.cast (g' := (mkF m 0 #[rv xs, rv xa, iv 0, iv 3, .val .null, uu] [])) (by first | rfl | (simp [entryFrame, mkF, argsToLocals, Value.category]; done)) ?_
  refine oWk.st (fun _ kt => zA X hx hby d4_0 rfl rfl rfl kt) ?_
  obtain ⟨T, X, e0, st⟩ := initO X hx hZ hown (oW hw 19 rfl) (oW hw 20 rfl) (oW hw 21 rfl) e0 (g := (mkF m 1 #[rv xs, rv xa, iv 0, iv 3, .val .null, uu] [(.ref xs)])) rfl (by rw [hml]; rfl) rfl (hb hby d4_1) (by decide) (W := 0) (Nat.le_of_eq rfl) (by decide)
  refine oWk.st (fun _ kt => st _ (zI X hx hby d4_4 rfl rfl (zF X hx hby d4_5 rfl rfl ((if0 _ _).trans (feq (by decide)).2) (pc' := 27) rfl kt))) ?_
  have Oh := K.old O0 (allS og_xs all0)
  obtain ⟨T, X, e0, st⟩ := getS2 X hx hZ hown (host := "") (Or.inl (oW hw 22 rfl)) Via.refl e0 (S_COMPACT_STRINGS.ext Oh) (g := (mkF m 27 #[rv xs, rv xa, iv 0, iv 3, .val .null, uu] [])) rfl (hb hby d4_27)
  refine oWk.st (fun _ kt => st _ (zH X hx hby d4_30 rfl rfl ((if0 _ _).trans (feq hz).1) (zA X hx hby d4_33 rfl rfl rfl (zI X hx hby d4_34 rfl rfl (zI X hx hby d4_35 rfl rfl kt))))) ?_
  have lt_xs := E_xs.lt
  have lt_xa := V_xa.lt
  obtain ⟨_, T, h, Lc2, X, e0, hQ, st⟩ := (cs1 hw).run X hx hZ hown e0 (A := [(.ref xa), (.int (0 : Int32)), (.int (3 : Int32))]) rfl (rC3_3 l Z a0 hw [] xa xk xc0 xc1 xc2 h0 Oh V_xa hc0_ hc1_ hc2_) (W := 0) (by decide) hml (Ls := #[rv xs, rv xa, iv 0, iv 3, .val .null, uu]) rfl (rest := []) rfl rfl hby d4_36
  obtain ⟨nb1, nk1, rfl, K1, gn_nb1, V_nb1⟩ := hQ
  have ge_nb1 := Nat.le_trans K.le gn_nb1
  have ne_xs_nb1 : xs ≠ nb1 := Nat.ne_of_lt (Nat.lt_of_lt_of_le lt_xs gn_nb1)
  have ne_xa_nb1 : xa ≠ nb1 := Nat.ne_of_lt (Nat.lt_of_lt_of_le lt_xa gn_nb1)
  have K := K.call K1 all0
  refine oWk.st (fun _ kt => st _ (zT X hx hby d4_39 rfl rfl rfl (l' := #[rv xs, rv xa, iv 0, iv 3, .val .null, rv nb1]) rfl (zA X hx hby d4_41 rfl rfl rfl (zB X hx hby d4_42 rfl rfl rfl (zI X hx hby d4_44 rfl rfl kt))))) ?_
  have Oh := K.old O0 (allS og_xs all0)
  obtain ⟨T, L4, X, e0, K, st⟩ := (cs2 hw).pure X hx hZ hown e0 K (A := [(.ref nb1), (.int (3 : Int32))]) rfl (rCo_3 l Z a0 hw [] nb1 nk1 (xc0.toInt8.toInt32) (xc1.toInt8.toInt32) (xc2.toInt8.toInt32) h Oh V_nb1) (fun _ _ _ q => q) (W := 1) (by decide) hml (Ls := #[rv xs, rv xa, iv 0, iv 3, .val .null, rv nb1]) rfl (rest := [(.ref xs)]) rfl rfl hby d4_45
  refine oWk.st (fun _ kt => st _ kt) ?_
  have E_xs := (E_xs.keep K1.1)
  have F_coder_xs := (F_coder_xs.keep K1.1 nin0)
  obtain ⟨T, h, X, e0, W5, st⟩ := putFN X hx hZ hown (oW hw 34 rfl) Via.refl e0 F_coder_xs E_xs (Or.inr ⟨(oW hw 35 rfl), rfl, hnm⟩) (oW hw 10 rfl) (ty := .byte) (v' := .int (0 : Int32)) (by decide) rfl (by decide) (g := (mkF m 48 #[rv xs, rv xa, iv 0, iv 3, .val .null, rv nb1] [(.int 0), (.ref xs)])) rfl rfl (hb hby d4_48)
  have K := K.wr W5 (Or.inl (List.mem_of_getElem? (i := 0) rfl))
  have F_coder_xs := F_coder_xs.same W5
  refine oWk.st (fun _ kt => st _ (zA X hx hby d4_51 rfl rfl rfl (zB X hx hby d4_52 rfl rfl rfl kt))) ?_
  have E_xs := (E_xs.wr W5)
  have F_value_xs := ((F_value_xs.keep K1.1 nin0).other W5 (Or.inr (slot_ne (Or.inr (oW hw 37 rfl)) (Or.inr (oW hw 35 rfl)) (by decide) (t := (.array .byte)) (t' := .byte) (by decide) (by decide))))
  obtain ⟨T, h, X, e0, W6, st⟩ := putF X hx hZ hown (host := "") (Or.inl (oW hw 36 rfl)) Via.refl e0 F_value_xs E_xs (Or.inr ⟨(oW hw 37 rfl), rfl, hnm⟩) (oW hw 10 rfl) (ty := (.array .byte)) (by decide) rfl rfl (g := (mkF m 54 #[rv xs, rv xa, iv 0, iv 3, .val .null, rv nb1] [(.ref nb1), (.ref xs)])) rfl rfl (hb hby d4_54)
  have K := K.wr W6 (Or.inl (List.mem_of_getElem? (i := 0) rfl))
  have F_value_xs := F_value_xs.same W6
  refine oWk.to (mkF m 57 #[rv xs, rv xa, iv 0, iv 3, .val .null, rv nb1] []) (fun _ kt => st _ kt) ?_
  have E_xs := (E_xs.wr W6)
  have F_coder_xs := (F_coder_xs.other W6 (Or.inr (slot_ne (Or.inr (oW hw 35 rfl)) (Or.inr (oW hw 37 rfl)) (by decide) (t := .byte) (t' := (.array .byte)) (by decide) (by decide))))
  have V_nb1 := ((V_nb1.other W5 (Ne.symm ne_xs_nb1)).other W6 (Ne.symm ne_xs_nb1))
  exact oRetV X hx hlk hret (hb hby d4_57) (by rw [e0]; exact ⟨nb1, nk1, rfl, K, E_xs, F_coder_xs, F_value_xs, ge_nb1, V_nb1⟩) (by decide) (by decide)
def Q_rI1_3 (Z : State) (xs xa : Addr) (xk : ClassId) (xz : Int32) (xu xv : Value) (xc0 xc1 xc2 : Int32) (h0 : Heap) (v : Option Value) (h : Heap) (L : List Loc) : Prop := ∃ (nb : Addr) (nk : ClassId), v = none ∧ oKp h0 h [xs] L ∧ (Exa Z h xs Y0) ∧ (Fld Z h xs Y0 "coder" "B" (.int (0 : Int32))) ∧ (Fld Z h xs Y0 "value" "[B" (.ref nb)) ∧ (h0.size ≤ nb) ∧ (Arv Z h nb nk .byte (3 : Int32) [(ib xc0), (ib xc1), (ib xc2)] (.int (0 : Int32)))
theorem rI1_3 (l : Launch) (Z : State) (a0 : Array Value) (hw : oHW a0 Z) (ws : List Jvm.Cond) (xs xa : Addr) (xk : ClassId) (xz : Int32) (xu xv : Value) (xc0 xc1 xc2 : Int32) (h0 : Heap) (O0 : Ext Z.heap h0) (S_COMPACT_STRINGS : Sta Z Z.heap Y0 Y1 "Z" (.int xz)) (hz : ¬ xz = (0 : Int32)) (og_xs : Z.heap.size ≤ xs) (E_xs : Exa Z h0 xs Y0) (F_value_xs : Fld Z h0 xs Y0 "value" "[B" xu) (F_coder_xs : Fld Z h0 xs Y0 "coder" "B" xv) (V_xa : Arv Z h0 xa xk .char (3 : Int32) [(.int xc0), (.int xc1), (.int xc2)] (.int (0 : Int32))) (hc0_ : ¬ (255 : Int32) < xc0) (hc1_ : ¬ (255 : Int32) < xc1) (hc2_ : ¬ (255 : Int32) < xc2) :
    oCon l Z yy6 jdk_42_method_3_code 2 none ws ({ frames := 3, cells := 1, slots := 3, locals := 52 } : Room) #[(.ref xs), (.ref xa)] h0 (Q_rI1_3 Z xs xa xk xz xu xv xc0 xc1 xc2 h0) := by
  refine oCon.of (plainFor_of_name pn_3) ?_
  intro p e s m below meth c T X hx hby hml hown hnm hret hlk hZ e0
  have hml : c.maxLocals = 2 := hml
  have K : oKp h0 h0 [xs] [] := oKp.nil _ _
  refine oWk.cast (g' := (mkF m 0 #[rv xs, rv xa] [])) (by first | rfl | (simp [entryFrame, mkF, argsToLocals, Value.category]; done)) ?_
  refine oWk.st (fun _ kt => zA X hx hby d3_0 rfl rfl rfl (zA X hx hby d3_1 rfl rfl rfl (zK X hx hby d3_2 rfl (zA X hx hby d3_3 rfl rfl rfl (oAl X hx hZ e0 V_xa hby d3_4 rfl rfl (XS.aconstNull X.here hx rfl (hb hby d3_5) kt)))))) ?_
  have lt_xs := E_xs.lt
  have lt_xa := V_xa.lt
  have Oh := K.old O0 (allS og_xs all0)
  obtain ⟨_, T, h, Lc3, X, e0, hQ, st⟩ := (cs3 hw).run X hx hZ hown e0 (A := [(.ref xs), (.ref xa), (.int (0 : Int32)), (.int (3 : Int32)), .null]) ⟨rfl, _, _, rfl⟩ (rI4_3 l Z a0 hw [] xs xa xk xz xu xv xc0 xc1 xc2 h0 Oh S_COMPACT_STRINGS hz og_xs E_xs F_value_xs F_coder_xs V_xa hc0_ hc1_ hc2_) (W := 0) (by decide) hml (Ls := #[rv xs, rv xa]) rfl (rest := []) rfl rfl hby d3_6
  obtain ⟨nb2, nk2, rfl, K2, E_xs, F_coder_xs, F_value_xs, gn_nb2, V_nb2⟩ := hQ
  have ge_nb2 := Nat.le_trans K.le gn_nb2
  have ne_xs_nb2 : xs ≠ nb2 := Nat.ne_of_lt (Nat.lt_of_lt_of_le lt_xs gn_nb2)
  have ne_xa_nb2 : xa ≠ nb2 := Nat.ne_of_lt (Nat.lt_of_lt_of_le lt_xa gn_nb2)
  have K := K.call K2 (allS (Or.inl (List.mem_of_getElem? (i := 0) rfl)) all0)
  refine oWk.to (mkF m 9 #[rv xs, rv xa] []) (fun _ kt => st _ kt) ?_
  exact oRetV X hx hlk hret (hb hby d3_9) (by rw [e0]; exact ⟨nb2, nk2, rfl, K, E_xs, F_coder_xs, F_value_xs, ge_nb2, V_nb2⟩) (by decide) (by decide)
def Q_rBd_3 (Z : State) (xa : Addr) (xk : ClassId) (xz xc0 xc1 xc2 xc3 xc4 : Int32) (h0 : Heap) (v : Option Value) (h : Heap) (L : List Loc) : Prop := ∃ (nr : Addr) (nb : Addr) (nk : ClassId), v = some (.ref nr) ∧ oKp h0 h [] L ∧ (h0.size ≤ nr) ∧ (h0.size ≤ nb) ∧ (Exa Z h nr Y0) ∧ (Fld Z h nr Y0 "coder" "B" (.int (0 : Int32))) ∧ (Fld Z h nr Y0 "value" "[B" (.ref nb)) ∧ (Arv Z h nb nk .byte (3 : Int32) [(ib xc0), (ib xc1), (ib xc2)] (.int (0 : Int32)))
theorem d2_50 : decode method_3_code 50 = .ok (.iload_n 1, 1) := by decide +kernel
theorem d2_51 : decode method_3_code 51 = .ok (.iconst 3, 1) := by decide +kernel
theorem d2_52 : decode method_3_code 52 = .ok (.if_icmp .ne 32, 3) := by decide +kernel
theorem d2_55 : decode method_3_code 55 = .ok (.new 7, 3) := by decide +kernel
theorem d2_58 : decode method_3_code 58 = .ok (.dup, 1) := by decide +kernel
theorem d2_59 : decode method_3_code 59 = .ok (.iconst 3, 1) := by decide +kernel
theorem d2_60 : decode method_3_code 60 = .ok (.newarray .char, 2) := by decide +kernel
theorem d2_62 : decode method_3_code 62 = .ok (.dup, 1) := by decide +kernel
theorem d2_63 : decode method_3_code 63 = .ok (.iconst 0, 1) := by decide +kernel
theorem d2_64 : decode method_3_code 64 = .ok (.aload_n 0, 1) := by decide +kernel
theorem d2_65 : decode method_3_code 65 = .ok (.iconst 0, 1) := by decide +kernel
theorem d2_66 : decode method_3_code 66 = .ok (.caload, 1) := by decide +kernel
theorem d2_67 : decode method_3_code 67 = .ok (.castore, 1) := by decide +kernel
theorem d2_68 : decode method_3_code 68 = .ok (.dup, 1) := by decide +kernel
theorem d2_69 : decode method_3_code 69 = .ok (.iconst 1, 1) := by decide +kernel
theorem d2_70 : decode method_3_code 70 = .ok (.aload_n 0, 1) := by decide +kernel
theorem d2_71 : decode method_3_code 71 = .ok (.iconst 1, 1) := by decide +kernel
theorem d2_72 : decode method_3_code 72 = .ok (.caload, 1) := by decide +kernel
theorem d2_73 : decode method_3_code 73 = .ok (.castore, 1) := by decide +kernel
theorem d2_74 : decode method_3_code 74 = .ok (.dup, 1) := by decide +kernel
theorem d2_75 : decode method_3_code 75 = .ok (.iconst 2, 1) := by decide +kernel
theorem d2_76 : decode method_3_code 76 = .ok (.aload_n 0, 1) := by decide +kernel
theorem d2_77 : decode method_3_code 77 = .ok (.iconst 2, 1) := by decide +kernel
theorem d2_78 : decode method_3_code 78 = .ok (.caload, 1) := by decide +kernel
theorem d2_79 : decode method_3_code 79 = .ok (.castore, 1) := by decide +kernel
theorem d2_80 : decode method_3_code 80 = .ok (.invokespecial 9, 3) := by decide +kernel
theorem d2_83 : decode method_3_code 83 = .ok (.areturn, 1) := by decide +kernel
theorem rBd_3 (l : Launch) (Z : State) (a0 : Array Value) (hw : oHW a0 Z) (ws : List Jvm.Cond) (xa : Addr) (xk : ClassId) (xz xc0 xc1 xc2 xc3 xc4 : Int32) (h0 : Heap) (O0 : Ext Z.heap h0) (S_COMPACT_STRINGS : Sta Z Z.heap Y0 Y1 "Z" (.int xz)) (hz : ¬ xz = (0 : Int32)) (V_xa : Arv Z h0 xa xk .char (5 : Int32) [(.int xc0), (.int xc1), (.int xc2), (.int xc3), (.int xc4)] (.int (0 : Int32))) (hr0 : 0 ≤ xc0.toInt ∧ xc0.toInt < 256) (hr1 : 0 ≤ xc1.toInt ∧ xc1.toInt < 256) (hr2 : 0 ≤ xc2.toInt ∧ xc2.toInt < 256) :
    oCon l Z yy7 method_3_code 2 (some (.object Y0)) ws ({ frames := 4, cells := 3, slots := 10, locals := 66 } : Room) #[(.ref xa), (.int (3 : Int32))] h0 (Q_rBd_3 Z xa xk xz xc0 xc1 xc2 xc3 xc4 h0) := by
  refine oCon.of (plainFor_of_name pn_1) ?_
  intro p e s m below meth c T X hx hby hml hown hnm hret hlk hZ e0
  have hml : c.maxLocals = 2 := hml
  have K : oKp h0 h0 [] [] := oKp.nil _ _
  refine oWk.cast (g' := (mkF m 0 #[rv xa, iv 3] [])) (by first | rfl | (simp [entryFrame, mkF, argsToLocals, Value.category]; done)) ?_
  refine oWk.to (mkF m 51 #[rv xa, iv 3] [(.int 3)]) (fun _ kt => zI X hx hby d2_0 rfl rfl (zK X hx hby d2_1 rfl (zY X hx hby d2_2 rfl rfl (feq (by decide)).2 (pc' := 22) rfl (zI X hx hby d2_22 rfl rfl (zK X hx hby d2_23 rfl (zY X hx hby d2_24 rfl rfl (feq (by decide)).2 (pc' := 50) rfl (zI X hx hby d2_50 rfl rfl kt))))))) ?_
  refine oWk.st (fun _ kt => zK X hx hby d2_51 rfl (zN X hx hby d2_52 rfl rfl (teq (by decide)).2 kt)) ?_
  obtain ⟨o1, g1⟩ : ∃ z, z = h0.size := ⟨_, rfl⟩
  have ne_xa_o1 : xa ≠ o1 := Nat.ne_of_lt (Nat.lt_of_lt_of_le V_xa.lt (Nat.le_of_eq g1.symm))
  have ge_o1 : h0.size ≤ o1 := Nat.le_trans K.le (Nat.le_of_eq g1.symm)
  obtain ⟨T, h, X, e0, E1, A1, D1, -, st⟩ := newO X hx hZ hown (oW hw 9 rfl) (oW hw 10 rfl) (oW hw 11 rfl) e0 (g := (mkF m 55 #[rv xa, iv 3] [])) rfl (hb hby d2_55) (by decide) (by decide)
  rw [← g1] at A1 D1 st
  have K := K.ext E1
  have E_o1 := A1
  have F_coder_o1 : Fld Z h o1 Y0 "coder" "B" (.int (0 : Int32)) := D1 (Or.inr (oW hw 35 rfl)) (ty := .byte) (by decide)
  have F_value_o1 : Fld Z h o1 Y0 "value" "[B" .null := D1 (Or.inr (oW hw 37 rfl)) (ty := (.array .byte)) (by decide)
  refine oWk.st (fun _ kt => st _ (zD X hx hby d2_58 rfl rfl rfl (zK X hx hby d2_59 rfl kt))) ?_
  obtain ⟨o2, g2⟩ : ∃ z, z = h.size := ⟨_, rfl⟩
  have V_xa := (V_xa.ext E1)
  have ne_xa_o2 : xa ≠ o2 := Nat.ne_of_lt (Nat.lt_of_lt_of_le V_xa.lt (Nat.le_of_eq g2.symm))
  have ne_o1_o2 : o1 ≠ o2 := Nat.ne_of_lt (Nat.lt_of_lt_of_le E_o1.lt (Nat.le_of_eq g2.symm))
  have ge_o2 : h0.size ≤ o2 := Nat.le_trans K.le (Nat.le_of_eq g2.symm)
  obtain ⟨T, h, k2, X, e0, E2, A2, st⟩ := newP X hx hZ (oW hw 1 rfl) e0 (g := (mkF m 60 #[rv xa, iv 3] [(.int 3), (.ref o1), (.ref o1)])) rfl (hb hby d2_60) rfl (by decide) (cap := 3) (by decide) (by decide) (by decide) (by decide)
  rw [← g2] at A2 st
  have K := K.ext E2
  have V_o2 : Arv Z h o2 k2 .char (3 : Int32) [(.int (0 : Int32)), (.int (0 : Int32)), (.int (0 : Int32))] (.int (0 : Int32)) := (Arv.new A2 (by decide)).pad (pad_rep [] (.int (0 : Int32)) 3)
  refine oWk.st (fun _ kt => st _ (zD X hx hby d2_62 rfl rfl rfl (zK X hx hby d2_63 rfl (zA X hx hby d2_64 rfl rfl rfl (zK X hx hby d2_65 rfl kt))))) ?_
  have V_xa := (V_xa.ext E2)
  refine oWk.to (mkF m 67 #[rv xa, iv 3] [(.int xc0), (.int 0), (.ref o2), (.ref o2), (.ref o1), (.ref o1)]) (fun _ kt => oLdC X hx hZ e0 V_xa (0 : Int32) (.int xc0) ⟨by decide, by decide⟩ rfl hby d2_66 rfl rfl kt) ?_
  obtain ⟨cl4, Ar4, q4, Sz4, Nn4, Hs4, Ft4⟩ := id V_o2
  have hin4 : ¬ ((0 : Int32) < 0 ∨ cl4.slots.size ≤ ((0 : Int32)).toNatClampNeg) := inb_of Sz4 ⟨by decide, by decide⟩
  obtain ⟨T, h, X, e0, W4, st⟩ := stC X hx hZ e0 Ar4 (j := (0 : Int32)) hin4 (g := (mkF m 67 #[rv xa, iv 3] [(.int xc0), (.int 0), (.ref o2), (.ref o2), (.ref o1), (.ref o1)])) rfl rfl (hb hby d2_67)
  have K := K.wr W4 (Or.inr ge_o2)
  have V_o2 := Arv.set Ar4 q4 Sz4 Nn4 Hs4 Ft4 (fits_nar_char _) W4 0 rfl (Nat.le_of_ble_eq_true rfl)
  rw [show nar .char xc0 = xc0 from oChr hr0] at V_o2
  replace V_o2 : Arv Z h o2 k2 .char (3 : Int32) [(.int xc0), (.int (0 : Int32)), (.int (0 : Int32))] (.int (0 : Int32)) := V_o2
  refine oWk.st (fun _ kt => st _ (zD X hx hby d2_68 rfl rfl rfl (zK X hx hby d2_69 rfl (zA X hx hby d2_70 rfl rfl rfl (zK X hx hby d2_71 rfl kt))))) ?_
  have V_xa := (V_xa.other W4 ne_xa_o2)
  refine oWk.to (mkF m 73 #[rv xa, iv 3] [(.int xc1), (.int 1), (.ref o2), (.ref o2), (.ref o1), (.ref o1)]) (fun _ kt => oLdC X hx hZ e0 V_xa (1 : Int32) (.int xc1) ⟨by decide, by decide⟩ rfl hby d2_72 rfl rfl kt) ?_
  obtain ⟨cl6, Ar6, q6, Sz6, Nn6, Hs6, Ft6⟩ := id V_o2
  have hin6 : ¬ ((1 : Int32) < 0 ∨ cl6.slots.size ≤ ((1 : Int32)).toNatClampNeg) := inb_of Sz6 ⟨by decide, by decide⟩
  obtain ⟨T, h, X, e0, W6, st⟩ := stC X hx hZ e0 Ar6 (j := (1 : Int32)) hin6 (g := (mkF m 73 #[rv xa, iv 3] [(.int xc1), (.int 1), (.ref o2), (.ref o2), (.ref o1), (.ref o1)])) rfl rfl (hb hby d2_73)
  have K := K.wr W6 (Or.inr ge_o2)
  have V_o2 := Arv.set Ar6 q6 Sz6 Nn6 Hs6 Ft6 (fits_nar_char _) W6 1 rfl (Nat.le_of_ble_eq_true rfl)
  rw [show nar .char xc1 = xc1 from oChr hr1] at V_o2
  replace V_o2 : Arv Z h o2 k2 .char (3 : Int32) [(.int xc0), (.int xc1), (.int (0 : Int32))] (.int (0 : Int32)) := V_o2
  refine oWk.st (fun _ kt => st _ (zD X hx hby d2_74 rfl rfl rfl (zK X hx hby d2_75 rfl (zA X hx hby d2_76 rfl rfl rfl (zK X hx hby d2_77 rfl kt))))) ?_
  have V_xa := (V_xa.other W6 ne_xa_o2)
  refine oWk.to (mkF m 79 #[rv xa, iv 3] [(.int xc2), (.int 2), (.ref o2), (.ref o2), (.ref o1), (.ref o1)]) (fun _ kt => oLdC X hx hZ e0 V_xa (2 : Int32) (.int xc2) ⟨by decide, by decide⟩ rfl hby d2_78 rfl rfl kt) ?_
  obtain ⟨cl8, Ar8, q8, Sz8, Nn8, Hs8, Ft8⟩ := id V_o2
  have hin8 : ¬ ((2 : Int32) < 0 ∨ cl8.slots.size ≤ ((2 : Int32)).toNatClampNeg) := inb_of Sz8 ⟨by decide, by decide⟩
  obtain ⟨T, h, X, e0, W8, st⟩ := stC X hx hZ e0 Ar8 (j := (2 : Int32)) hin8 (g := (mkF m 79 #[rv xa, iv 3] [(.int xc2), (.int 2), (.ref o2), (.ref o2), (.ref o1), (.ref o1)])) rfl rfl (hb hby d2_79)
  have K := K.wr W8 (Or.inr ge_o2)
  have V_o2 := Arv.set Ar8 q8 Sz8 Nn8 Hs8 Ft8 (fits_nar_char _) W8 2 rfl (Nat.le_of_ble_eq_true rfl)
  rw [show nar .char xc2 = xc2 from oChr hr2] at V_o2
  replace V_o2 : Arv Z h o2 k2 .char (3 : Int32) [(.int xc0), (.int xc1), (.int xc2)] (.int (0 : Int32)) := V_o2
  refine oWk.st (fun _ kt => st _ kt) ?_
  have E_o1 := ((((E_o1.ext E2).wr W4).wr W6).wr W8)
  have F_value_o1 := ((((F_value_o1.ext E2).other W4 (Or.inl ne_o1_o2)).other W6 (Or.inl ne_o1_o2)).other W8 (Or.inl ne_o1_o2))
  have F_coder_o1 := ((((F_coder_o1.ext E2).other W4 (Or.inl ne_o1_o2)).other W6 (Or.inl ne_o1_o2)).other W8 (Or.inl ne_o1_o2))
  have V_xa := (V_xa.other W8 ne_xa_o2)
  have lt_xa := V_xa.lt
  have lt_o1 := E_o1.lt
  have lt_o2 := V_o2.lt
  have Oh := K.old O0 all0
  obtain ⟨_, T, h, Lc10, X, e0, hQ, st⟩ := (cs4 hw).run X hx hZ hown e0 (A := [(.ref o1), (.ref o2)]) ⟨rfl, _, _, rfl⟩ (rI1_3 l Z a0 hw [] o1 o2 k2 xz .null (.int (0 : Int32)) xc0 xc1 xc2 h Oh S_COMPACT_STRINGS hz (Nat.le_trans O0.1 ge_o1) E_o1 F_value_o1 F_coder_o1 V_o2 (oLe255 hr0) (oLe255 hr1) (oLe255 hr2)) (W := 1) (by decide) hml (Ls := #[rv xa, iv 3]) rfl (rest := [(.ref o1)]) rfl rfl hby d2_80
  obtain ⟨nb9, nk9, rfl, K9, E_o1, F_coder_o1, F_value_o1, gn_nb9, V_nb9⟩ := hQ
  have ge_nb9 := Nat.le_trans K.le gn_nb9
  have ne_xa_nb9 : xa ≠ nb9 := Nat.ne_of_lt (Nat.lt_of_lt_of_le lt_xa gn_nb9)
  have ne_o1_nb9 : o1 ≠ nb9 := Nat.ne_of_lt (Nat.lt_of_lt_of_le lt_o1 gn_nb9)
  have ne_o2_nb9 : o2 ≠ nb9 := Nat.ne_of_lt (Nat.lt_of_lt_of_le lt_o2 gn_nb9)
  have K := K.call K9 (allS (Or.inr ge_o1) all0)
  refine oWk.to (mkF m 83 #[rv xa, iv 3] [(.ref o1)]) (fun _ kt => st _ kt) ?_
  exact oRetA X hx hlk hret rfl rfl (hb hby d2_83) (by rw [e0]; exact ⟨o1, nb9, nk9, rfl, K, ge_o1, ge_nb9, E_o1, F_coder_o1, F_value_o1, V_nb9⟩) (by decide) (by decide)
def Q_rC5_4 (Z : State) (xa xd : Addr) (xk xl : ClassId) (xc0 xc1 xc2 xc3 : Int32) (h0 : Heap) (v : Option Value) (h : Heap) (L : List Loc) : Prop := v = some (.int (4 : Int32)) ∧ oKp h0 h [xd] L ∧ (Arv Z h xd xl .byte (4 : Int32) [(ib xc0), (ib xc1), (ib xc2), (ib xc3)] (.int (0 : Int32)))
theorem rC5_4 (l : Launch) (Z : State) (a0 : Array Value) (hw : oHW a0 Z) (ws : List Jvm.Cond) (xa xd : Addr) (xk xl : ClassId) (xc0 xc1 xc2 xc3 : Int32) (h0 : Heap) (O0 : Ext Z.heap h0) (og_xd : Z.heap.size ≤ xd) (ne_xa_xd : xa ≠ xd) (V_xa : Arv Z h0 xa xk .char (4 : Int32) [(.int xc0), (.int xc1), (.int xc2), (.int xc3)] (.int (0 : Int32))) (V_xd : Arv Z h0 xd xl .byte (4 : Int32) [(.int (0 : Int32)), (.int (0 : Int32)), (.int (0 : Int32)), (.int (0 : Int32))] (.int (0 : Int32))) (hc0_ : ¬ (255 : Int32) < xc0) (hc1_ : ¬ (255 : Int32) < xc1) (hc2_ : ¬ (255 : Int32) < xc2) (hc3_ : ¬ (255 : Int32) < xc3) :
    oCon l Z yy2 jdk_52_method_21_code 7 (some .int) ws ({ frames := 0, cells := 0, slots := 0, locals := 0 } : Room) #[(.ref xa), (.int (0 : Int32)), (.ref xd), (.int (0 : Int32)), (.int (4 : Int32))] h0 (Q_rC5_4 Z xa xd xk xl xc0 xc1 xc2 xc3 h0) := by
  refine oCon.of (plainFor_of_name pn_2) ?_
  intro p e s m below meth c T X hx hby hml hown hnm hret hlk hZ e0
  have hml : c.maxLocals = 7 := hml
  have K : oKp h0 h0 [xd] [] := oKp.nil _ _
  refine oWk.cast (g' := (mkF m 0 #[rv xa, iv 0, rv xd, iv 0, iv 4, uu, uu] [])) (by first | rfl | (simp [entryFrame, mkF, argsToLocals, Value.category]; done)) ?_
  refine oWk.to (mkF m 12 #[rv xa, iv 0, rv xd, iv 0, iv 4, iv 0, uu] [(.int 0), (.ref xa)]) (fun _ kt => zK X hx hby d7_0 rfl (zS X hx hby d7_1 rfl rfl (l' := #[rv xa, iv 0, rv xd, iv 0, iv 4, iv 0, uu]) rfl (zJ X hx hby d7_3 rfl rfl (zJ X hx hby d7_5 rfl rfl (zN X hx hby d7_7 rfl rfl (tlt (by decide)).2.1 (zA X hx hby d7_10 rfl rfl rfl (zI X hx hby d7_11 rfl rfl kt))))))) ?_
  refine oWk.to (mkF m 20 #[rv xa, iv 0, rv xd, iv 0, iv 4, iv 0, iv xc0] [(.int 255), (.int xc0)]) (fun _ kt => oLdC X hx hZ e0 V_xa (0 : Int32) (.int xc0) ⟨by decide, by decide⟩ rfl hby d7_12 rfl rfl (zS X hx hby d7_13 rfl rfl (l' := #[rv xa, iv 0, rv xd, iv 0, iv 4, iv 0, iv xc0]) rfl (zJ X hx hby d7_15 rfl rfl (zM X hx hby d7_17 rfl kt)))) ?_
  refine oWk.to (mkF m 31 #[rv xa, iv 0, rv xd, iv 0, iv 4, iv 0, iv xc0] [(ib xc0), (.int 0), (.ref xd)]) (fun _ kt => zY X hx hby d7_20 rfl rfl (flt hc0_).2.2.2 (pc' := 26) rfl (zA X hx hby d7_26 rfl rfl rfl (zI X hx hby d7_27 rfl rfl (zJ X hx hby d7_28 rfl rfl (XS.i2b X.here hx rfl (hb hby d7_30) rfl kt))))) ?_
  obtain ⟨cl2, Ar2, q2, Sz2, Nn2, Hs2, Ft2⟩ := id V_xd
  have hin2 : ¬ ((0 : Int32) < 0 ∨ cl2.slots.size ≤ ((0 : Int32)).toNatClampNeg) := inb_of Sz2 ⟨by decide, by decide⟩
  obtain ⟨T, h, X, e0, W2, st⟩ := stB X hx hZ e0 Ar2 (j := (0 : Int32)) hin2 (g := (mkF m 31 #[rv xa, iv 0, rv xd, iv 0, iv 4, iv 0, iv xc0] [(ib xc0), (.int 0), (.ref xd)])) rfl rfl (hb hby d7_31)
  have K := K.wr W2 (Or.inl (List.mem_of_getElem? (i := 0) rfl))
  have V_xd := Arv.set Ar2 q2 Sz2 Nn2 Hs2 Ft2 (fits_nar_byte _) W2 0 rfl (Nat.le_of_ble_eq_true rfl)
  rw [oB8 xc0] at V_xd
  replace V_xd : Arv Z h xd xl .byte (4 : Int32) [(ib xc0), (.int (0 : Int32)), (.int (0 : Int32)), (.int (0 : Int32))] (.int (0 : Int32)) := V_xd
  refine oWk.to (mkF m 7 #[rv xa, iv 1, rv xd, iv 1, iv 4, iv 1, iv xc0] [(.int 4), (.int 1)]) (fun _ kt => st _ (zC X hx hby d7_32 rfl rfl (l' := #[rv xa, iv ((0 : Int32) + (1 : Int32)), rv xd, iv 0, iv 4, iv 0, iv xc0]) rfl (zC X hx hby d7_35 rfl rfl (l' := #[rv xa, iv 1, rv xd, iv ((0 : Int32) + (1 : Int32)), iv 4, iv 0, iv xc0]) rfl (zC X hx hby d7_38 rfl rfl (l' := #[rv xa, iv 1, rv xd, iv 1, iv 4, iv ((0 : Int32) + (1 : Int32)), iv xc0]) rfl (zG X hx hby d7_41 rfl (pc' := 3) rfl (zJ X hx hby d7_3 rfl rfl (zJ X hx hby d7_5 rfl rfl kt))))))) ?_
  refine oWk.st (fun _ kt => zN X hx hby d7_7 rfl rfl (tlt (by decide)).2.1 (zA X hx hby d7_10 rfl rfl rfl (zI X hx hby d7_11 rfl rfl kt))) ?_
  have V_xa := (V_xa.other W2 ne_xa_xd)
  refine oWk.to (mkF m 20 #[rv xa, iv 1, rv xd, iv 1, iv 4, iv 1, iv xc1] [(.int 255), (.int xc1)]) (fun _ kt => oLdC X hx hZ e0 V_xa (1 : Int32) (.int xc1) ⟨by decide, by decide⟩ rfl hby d7_12 rfl rfl (zS X hx hby d7_13 rfl rfl (l' := #[rv xa, iv 1, rv xd, iv 1, iv 4, iv 1, iv xc1]) rfl (zJ X hx hby d7_15 rfl rfl (zM X hx hby d7_17 rfl kt)))) ?_
  refine oWk.to (mkF m 31 #[rv xa, iv 1, rv xd, iv 1, iv 4, iv 1, iv xc1] [(ib xc1), (.int 1), (.ref xd)]) (fun _ kt => zY X hx hby d7_20 rfl rfl (flt hc1_).2.2.2 (pc' := 26) rfl (zA X hx hby d7_26 rfl rfl rfl (zI X hx hby d7_27 rfl rfl (zJ X hx hby d7_28 rfl rfl (XS.i2b X.here hx rfl (hb hby d7_30) rfl kt))))) ?_
  obtain ⟨cl4, Ar4, q4, Sz4, Nn4, Hs4, Ft4⟩ := id V_xd
  have hin4 : ¬ ((1 : Int32) < 0 ∨ cl4.slots.size ≤ ((1 : Int32)).toNatClampNeg) := inb_of Sz4 ⟨by decide, by decide⟩
  obtain ⟨T, h, X, e0, W4, st⟩ := stB X hx hZ e0 Ar4 (j := (1 : Int32)) hin4 (g := (mkF m 31 #[rv xa, iv 1, rv xd, iv 1, iv 4, iv 1, iv xc1] [(ib xc1), (.int 1), (.ref xd)])) rfl rfl (hb hby d7_31)
  have K := K.wr W4 (Or.inl (List.mem_of_getElem? (i := 0) rfl))
  have V_xd := Arv.set Ar4 q4 Sz4 Nn4 Hs4 Ft4 (fits_nar_byte _) W4 1 rfl (Nat.le_of_ble_eq_true rfl)
  rw [oB8 xc1] at V_xd
  replace V_xd : Arv Z h xd xl .byte (4 : Int32) [(ib xc0), (ib xc1), (.int (0 : Int32)), (.int (0 : Int32))] (.int (0 : Int32)) := V_xd
  refine oWk.to (mkF m 7 #[rv xa, iv 2, rv xd, iv 2, iv 4, iv 2, iv xc1] [(.int 4), (.int 2)]) (fun _ kt => st _ (zC X hx hby d7_32 rfl rfl (l' := #[rv xa, iv ((1 : Int32) + (1 : Int32)), rv xd, iv 1, iv 4, iv 1, iv xc1]) rfl (zC X hx hby d7_35 rfl rfl (l' := #[rv xa, iv 2, rv xd, iv ((1 : Int32) + (1 : Int32)), iv 4, iv 1, iv xc1]) rfl (zC X hx hby d7_38 rfl rfl (l' := #[rv xa, iv 2, rv xd, iv 2, iv 4, iv ((1 : Int32) + (1 : Int32)), iv xc1]) rfl (zG X hx hby d7_41 rfl (pc' := 3) rfl (zJ X hx hby d7_3 rfl rfl (zJ X hx hby d7_5 rfl rfl kt))))))) ?_
  refine oWk.st (fun _ kt => zN X hx hby d7_7 rfl rfl (tlt (by decide)).2.1 (zA X hx hby d7_10 rfl rfl rfl (zI X hx hby d7_11 rfl rfl kt))) ?_
  have V_xa := (V_xa.other W4 ne_xa_xd)
  refine oWk.to (mkF m 20 #[rv xa, iv 2, rv xd, iv 2, iv 4, iv 2, iv xc2] [(.int 255), (.int xc2)]) (fun _ kt => oLdC X hx hZ e0 V_xa (2 : Int32) (.int xc2) ⟨by decide, by decide⟩ rfl hby d7_12 rfl rfl (zS X hx hby d7_13 rfl rfl (l' := #[rv xa, iv 2, rv xd, iv 2, iv 4, iv 2, iv xc2]) rfl (zJ X hx hby d7_15 rfl rfl (zM X hx hby d7_17 rfl kt)))) ?_
  refine oWk.to (mkF m 31 #[rv xa, iv 2, rv xd, iv 2, iv 4, iv 2, iv xc2] [(ib xc2), (.int 2), (.ref xd)]) (fun _ kt => zY X hx hby d7_20 rfl rfl (flt hc2_).2.2.2 (pc' := 26) rfl (zA X hx hby d7_26 rfl rfl rfl (zI X hx hby d7_27 rfl rfl (zJ X hx hby d7_28 rfl rfl (XS.i2b X.here hx rfl (hb hby d7_30) rfl kt))))) ?_
  obtain ⟨cl6, Ar6, q6, Sz6, Nn6, Hs6, Ft6⟩ := id V_xd
  have hin6 : ¬ ((2 : Int32) < 0 ∨ cl6.slots.size ≤ ((2 : Int32)).toNatClampNeg) := inb_of Sz6 ⟨by decide, by decide⟩
  obtain ⟨T, h, X, e0, W6, st⟩ := stB X hx hZ e0 Ar6 (j := (2 : Int32)) hin6 (g := (mkF m 31 #[rv xa, iv 2, rv xd, iv 2, iv 4, iv 2, iv xc2] [(ib xc2), (.int 2), (.ref xd)])) rfl rfl (hb hby d7_31)
  have K := K.wr W6 (Or.inl (List.mem_of_getElem? (i := 0) rfl))
  have V_xd := Arv.set Ar6 q6 Sz6 Nn6 Hs6 Ft6 (fits_nar_byte _) W6 2 rfl (Nat.le_of_ble_eq_true rfl)
  rw [oB8 xc2] at V_xd
  replace V_xd : Arv Z h xd xl .byte (4 : Int32) [(ib xc0), (ib xc1), (ib xc2), (.int (0 : Int32))] (.int (0 : Int32)) := V_xd
  refine oWk.to (mkF m 7 #[rv xa, iv 3, rv xd, iv 3, iv 4, iv 3, iv xc2] [(.int 4), (.int 3)]) (fun _ kt => st _ (zC X hx hby d7_32 rfl rfl (l' := #[rv xa, iv ((2 : Int32) + (1 : Int32)), rv xd, iv 2, iv 4, iv 2, iv xc2]) rfl (zC X hx hby d7_35 rfl rfl (l' := #[rv xa, iv 3, rv xd, iv ((2 : Int32) + (1 : Int32)), iv 4, iv 2, iv xc2]) rfl (zC X hx hby d7_38 rfl rfl (l' := #[rv xa, iv 3, rv xd, iv 3, iv 4, iv ((2 : Int32) + (1 : Int32)), iv xc2]) rfl (zG X hx hby d7_41 rfl (pc' := 3) rfl (zJ X hx hby d7_3 rfl rfl (zJ X hx hby d7_5 rfl rfl kt))))))) ?_
  refine oWk.st (fun _ kt => zN X hx hby d7_7 rfl rfl (tlt (by decide)).2.1 (zA X hx hby d7_10 rfl rfl rfl (zI X hx hby d7_11 rfl rfl kt))) ?_
  have V_xa := (V_xa.other W6 ne_xa_xd)
  refine oWk.to (mkF m 20 #[rv xa, iv 3, rv xd, iv 3, iv 4, iv 3, iv xc3] [(.int 255), (.int xc3)]) (fun _ kt => oLdC X hx hZ e0 V_xa (3 : Int32) (.int xc3) ⟨by decide, by decide⟩ rfl hby d7_12 rfl rfl (zS X hx hby d7_13 rfl rfl (l' := #[rv xa, iv 3, rv xd, iv 3, iv 4, iv 3, iv xc3]) rfl (zJ X hx hby d7_15 rfl rfl (zM X hx hby d7_17 rfl kt)))) ?_
  refine oWk.to (mkF m 31 #[rv xa, iv 3, rv xd, iv 3, iv 4, iv 3, iv xc3] [(ib xc3), (.int 3), (.ref xd)]) (fun _ kt => zY X hx hby d7_20 rfl rfl (flt hc3_).2.2.2 (pc' := 26) rfl (zA X hx hby d7_26 rfl rfl rfl (zI X hx hby d7_27 rfl rfl (zJ X hx hby d7_28 rfl rfl (XS.i2b X.here hx rfl (hb hby d7_30) rfl kt))))) ?_
  obtain ⟨cl8, Ar8, q8, Sz8, Nn8, Hs8, Ft8⟩ := id V_xd
  have hin8 : ¬ ((3 : Int32) < 0 ∨ cl8.slots.size ≤ ((3 : Int32)).toNatClampNeg) := inb_of Sz8 ⟨by decide, by decide⟩
  obtain ⟨T, h, X, e0, W8, st⟩ := stB X hx hZ e0 Ar8 (j := (3 : Int32)) hin8 (g := (mkF m 31 #[rv xa, iv 3, rv xd, iv 3, iv 4, iv 3, iv xc3] [(ib xc3), (.int 3), (.ref xd)])) rfl rfl (hb hby d7_31)
  have K := K.wr W8 (Or.inl (List.mem_of_getElem? (i := 0) rfl))
  have V_xd := Arv.set Ar8 q8 Sz8 Nn8 Hs8 Ft8 (fits_nar_byte _) W8 3 rfl (Nat.le_of_ble_eq_true rfl)
  rw [oB8 xc3] at V_xd
  replace V_xd : Arv Z h xd xl .byte (4 : Int32) [(ib xc0), (ib xc1), (ib xc2), (ib xc3)] (.int (0 : Int32)) := V_xd
  refine oWk.to (mkF m 7 #[rv xa, iv 4, rv xd, iv 4, iv 4, iv 4, iv xc3] [(.int 4), (.int 4)]) (fun _ kt => st _ (zC X hx hby d7_32 rfl rfl (l' := #[rv xa, iv ((3 : Int32) + (1 : Int32)), rv xd, iv 3, iv 4, iv 3, iv xc3]) rfl (zC X hx hby d7_35 rfl rfl (l' := #[rv xa, iv 4, rv xd, iv ((3 : Int32) + (1 : Int32)), iv 4, iv 3, iv xc3]) rfl (zC X hx hby d7_38 rfl rfl (l' := #[rv xa, iv 4, rv xd, iv 4, iv 4, iv ((3 : Int32) + (1 : Int32)), iv xc3]) rfl (zG X hx hby d7_41 rfl (pc' := 3) rfl (zJ X hx hby d7_3 rfl rfl (zJ X hx hby d7_5 rfl rfl kt))))))) ?_
  refine oWk.to (mkF m 46 #[rv xa, iv 4, rv xd, iv 4, iv 4, iv 4, iv xc3] [(.int 4)]) (fun _ kt => zY X hx hby d7_7 rfl rfl (flt (by decide)).2.1 (pc' := 44) rfl (zJ X hx hby d7_44 rfl rfl kt)) ?_
  exact oRetI X hx hlk hret (hb hby d7_46) (by rw [e0]; exact ⟨rfl, K, V_xd⟩) (by decide) (by decide)
def Q_rC3_4 (Z : State) (xa : Addr) (xk : ClassId) (xc0 xc1 xc2 xc3 : Int32) (h0 : Heap) (v : Option Value) (h : Heap) (L : List Loc) : Prop := ∃ (nb : Addr) (nk : ClassId), v = some (.ref nb) ∧ oKp h0 h [] L ∧ (h0.size ≤ nb) ∧ (Arv Z h nb nk .byte (4 : Int32) [(ib xc0), (ib xc1), (ib xc2), (ib xc3)] (.int (0 : Int32)))
theorem rC3_4 (l : Launch) (Z : State) (a0 : Array Value) (hw : oHW a0 Z) (ws : List Jvm.Cond) (xa : Addr) (xk : ClassId) (xc0 xc1 xc2 xc3 : Int32) (h0 : Heap) (O0 : Ext Z.heap h0) (V_xa : Arv Z h0 xa xk .char (4 : Int32) [(.int xc0), (.int xc1), (.int xc2), (.int xc3)] (.int (0 : Int32))) (hc0_ : ¬ (255 : Int32) < xc0) (hc1_ : ¬ (255 : Int32) < xc1) (hc2_ : ¬ (255 : Int32) < xc2) (hc3_ : ¬ (255 : Int32) < xc3) :
    oCon l Z yy3 jdk_52_method_16_code 6 (some (.array .byte)) ws ({ frames := 1, cells := 1, slots := 4, locals := 18 } : Room) #[(.ref xa), (.int (0 : Int32)), (.int (4 : Int32))] h0 (Q_rC3_4 Z xa xk xc0 xc1 xc2 xc3 h0) := by
  refine oCon.of (plainFor_of_name pn_2) ?_
  intro p e s m below meth c T X hx hby hml hown hnm hret hlk hZ e0
  have hml : c.maxLocals = 6 := hml
  have K : oKp h0 h0 [] [] := oKp.nil _ _
  refine oWk.cast (g' := (mkF m 0 #[rv xa, iv 0, iv 4, uu, uu, uu] [])) (by first | rfl | (simp [entryFrame, mkF, argsToLocals, Value.category]; done)) ?_
  refine oWk.st (fun _ kt => zI X hx hby d6_0 rfl rfl kt) ?_
  obtain ⟨o1, g1⟩ : ∃ z, z = h0.size := ⟨_, rfl⟩
  have ne_xa_o1 : xa ≠ o1 := Nat.ne_of_lt (Nat.lt_of_lt_of_le V_xa.lt (Nat.le_of_eq g1.symm))
  have ge_o1 : h0.size ≤ o1 := Nat.le_trans K.le (Nat.le_of_eq g1.symm)
  obtain ⟨T, h, k1, X, e0, E1, A1, st⟩ := newP X hx hZ (oW hw 27 rfl) e0 (g := (mkF m 1 #[rv xa, iv 0, iv 4, uu, uu, uu] [(.int 4)])) rfl (hb hby d6_1) rfl (by decide) (cap := 4) (by decide) (by decide) (by decide) (by decide)
  rw [← g1] at A1 st
  have K := K.ext E1
  have V_o1 : Arv Z h o1 k1 .byte (4 : Int32) [(.int (0 : Int32)), (.int (0 : Int32)), (.int (0 : Int32)), (.int (0 : Int32))] (.int (0 : Int32)) := (Arv.new A1 (by decide)).pad (pad_rep [] (.int (0 : Int32)) 4)
  refine oWk.to (mkF m 9 #[rv xa, iv 0, iv 4, rv o1, uu, uu] [(.int 4), (.int 0), (.ref o1), (.int 0), (.ref xa)]) (fun _ kt => st _ (zTn X hx hby d6_3 rfl rfl rfl (l' := #[rv xa, iv 0, iv 4, rv o1, uu, uu]) rfl (zA X hx hby d6_4 rfl rfl rfl (zI X hx hby d6_5 rfl rfl (zA X hx hby d6_6 rfl rfl rfl (zK X hx hby d6_7 rfl (zI X hx hby d6_8 rfl rfl kt))))))) ?_
  have V_xa := (V_xa.ext E1)
  have Oh := K.old O0 all0
  obtain ⟨_, T, h, Lc3, X, e0, hQ, st⟩ := (cs0 hw).run X hx hZ hown e0 (A := [(.ref xa), (.int (0 : Int32)), (.ref o1), (.int (0 : Int32)), (.int (4 : Int32))]) rfl (rC5_4 l Z a0 hw [] xa o1 xk k1 xc0 xc1 xc2 xc3 h Oh (Nat.le_trans O0.1 ge_o1) ne_xa_o1 V_xa V_o1 hc0_ hc1_ hc2_ hc3_) (W := 0) (by decide) hml (Ls := #[rv xa, iv 0, iv 4, rv o1, uu, uu]) rfl (rest := []) rfl rfl hby d6_9
  obtain ⟨rfl, K2, V_o1⟩ := hQ
  have K := K.call K2 (allS (Or.inr ge_o1) all0)
  refine oWk.to (mkF m 58 #[rv xa, iv 0, iv 4, rv o1, iv 4, uu] [(.ref o1)]) (fun _ kt => st _ (zS X hx hby d6_12 rfl rfl (l' := #[rv xa, iv 0, iv 4, rv o1, iv 4, uu]) rfl (zJ X hx hby d6_14 rfl rfl (zI X hx hby d6_16 rfl rfl (zY X hx hby d6_17 rfl rfl (teq (by decide)).1 (pc' := 57) rfl (zA X hx hby d6_57 rfl rfl rfl kt)))))) ?_
  exact oRetA X hx hlk hret rfl rfl (hb hby d6_58) (by rw [e0]; exact ⟨o1, k1, rfl, K, ge_o1, V_o1⟩) (by decide) (by decide)
def Q_rCo_4 (Z : State) (xb : Addr) (xk : ClassId) (xy0 xy1 xy2 xy3 : Int32) (h0 : Heap) (v : Option Value) (h : Heap) (L : List Loc) : Prop := v = some (.int (0 : Int32)) ∧ h = h0 ∧ oKp h0 h [] L
theorem rCo_4 (l : Launch) (Z : State) (a0 : Array Value) (hw : oHW a0 Z) (ws : List Jvm.Cond) (xb : Addr) (xk : ClassId) (xy0 xy1 xy2 xy3 : Int32) (h0 : Heap) (O0 : Ext Z.heap h0) (V_xb : Arv Z h0 xb xk .byte (4 : Int32) [(.int xy0), (.int xy1), (.int xy2), (.int xy3)] (.int (0 : Int32))) :
    oCon l Z yy4 jdk_52_method_15_code 2 (some .byte) ws ({ frames := 0, cells := 0, slots := 0, locals := 0 } : Room) #[(.ref xb), (.int (4 : Int32))] h0 (Q_rCo_4 Z xb xk xy0 xy1 xy2 xy3 h0) := by
  refine oCon.of (plainFor_of_name pn_2) ?_
  intro p e s m below meth c T X hx hby hml hown hnm hret hlk hZ e0
  have hml : c.maxLocals = 2 := hml
  have K : oKp h0 h0 [] [] := oKp.nil _ _
  refine oWk.cast (g' := (mkF m 0 #[rv xb, iv 4] [])) (by first | rfl | (simp [entryFrame, mkF, argsToLocals, Value.category]; done)) ?_
  refine oWk.to (mkF m 8 #[rv xb, iv 4] [(.int 0)]) (fun _ kt => zI X hx hby d8_0 rfl rfl (zA X hx hby d8_1 rfl rfl rfl (oAl X hx hZ e0 V_xb hby d8_2 rfl rfl (XS.isub X.here hx rfl (hb hby d8_3) rfl (zL X hx hby d8_4 rfl (XS.iushr X.here hx rfl (hb hby d8_6) rfl (XS.i2b X.here hx rfl (hb hby d8_7) rfl kt))))))) ?_
  exact oRetN X hx hlk hret (Or.inl rfl) rfl (hb hby d8_8) (by rw [e0]; exact ⟨rfl, rfl, K⟩) (by decide) (by decide)
def Q_rI4_4 (Z : State) (xs xa : Addr) (xk : ClassId) (xz : Int32) (xu xv : Value) (xc0 xc1 xc2 xc3 : Int32) (h0 : Heap) (v : Option Value) (h : Heap) (L : List Loc) : Prop := ∃ (nb : Addr) (nk : ClassId), v = none ∧ oKp h0 h [xs] L ∧ (Exa Z h xs Y0) ∧ (Fld Z h xs Y0 "coder" "B" (.int (0 : Int32))) ∧ (Fld Z h xs Y0 "value" "[B" (.ref nb)) ∧ (h0.size ≤ nb) ∧ (Arv Z h nb nk .byte (4 : Int32) [(ib xc0), (ib xc1), (ib xc2), (ib xc3)] (.int (0 : Int32)))
theorem rI4_4 (l : Launch) (Z : State) (a0 : Array Value) (hw : oHW a0 Z) (ws : List Jvm.Cond) (xs xa : Addr) (xk : ClassId) (xz : Int32) (xu xv : Value) (xc0 xc1 xc2 xc3 : Int32) (h0 : Heap) (O0 : Ext Z.heap h0) (S_COMPACT_STRINGS : Sta Z Z.heap Y0 Y1 "Z" (.int xz)) (hz : ¬ xz = (0 : Int32)) (og_xs : Z.heap.size ≤ xs) (E_xs : Exa Z h0 xs Y0) (F_value_xs : Fld Z h0 xs Y0 "value" "[B" xu) (F_coder_xs : Fld Z h0 xs Y0 "coder" "B" xv) (V_xa : Arv Z h0 xa xk .char (4 : Int32) [(.int xc0), (.int xc1), (.int xc2), (.int xc3)] (.int (0 : Int32))) (hc0_ : ¬ (255 : Int32) < xc0) (hc1_ : ¬ (255 : Int32) < xc1) (hc2_ : ¬ (255 : Int32) < xc2) (hc3_ : ¬ (255 : Int32) < xc3) :
    oCon l Z yy5 jdk_42_method_149_code 6 none ws ({ frames := 2, cells := 1, slots := 4, locals := 35 } : Room) #[(.ref xs), (.ref xa), (.int (0 : Int32)), (.int (4 : Int32)), .null] h0 (Q_rI4_4 Z xs xa xk xz xu xv xc0 xc1 xc2 xc3 h0) := by
  refine oCon.of (plainFor_of_name pn_3) ?_
  intro p e s m below meth c T X hx hby hml hown hnm hret hlk hZ e0
  have hml : c.maxLocals = 6 := hml
  have K : oKp h0 h0 [xs] [] := oKp.nil _ _
  refine oWk.cast (g' := (mkF m 0 #[rv xs, rv xa, iv 0, iv 4, .val .null, uu] [])) (by first | rfl | (simp [entryFrame, mkF, argsToLocals, Value.category]; done)) ?_
  refine oWk.st (fun _ kt => zA X hx hby d4_0 rfl rfl rfl kt) ?_
  obtain ⟨T, X, e0, st⟩ := initO X hx hZ hown (oW hw 19 rfl) (oW hw 20 rfl) (oW hw 21 rfl) e0 (g := (mkF m 1 #[rv xs, rv xa, iv 0, iv 4, .val .null, uu] [(.ref xs)])) rfl (by rw [hml]; rfl) rfl (hb hby d4_1) (by decide) (W := 0) (Nat.le_of_eq rfl) (by decide)
  refine oWk.st (fun _ kt => st _ (zI X hx hby d4_4 rfl rfl (zF X hx hby d4_5 rfl rfl ((if0 _ _).trans (feq (by decide)).2) (pc' := 27) rfl kt))) ?_
  have Oh := K.old O0 (allS og_xs all0)
  obtain ⟨T, X, e0, st⟩ := getS2 X hx hZ hown (host := "") (Or.inl (oW hw 22 rfl)) Via.refl e0 (S_COMPACT_STRINGS.ext Oh) (g := (mkF m 27 #[rv xs, rv xa, iv 0, iv 4, .val .null, uu] [])) rfl (hb hby d4_27)
  refine oWk.st (fun _ kt => st _ (zH X hx hby d4_30 rfl rfl ((if0 _ _).trans (feq hz).1) (zA X hx hby d4_33 rfl rfl rfl (zI X hx hby d4_34 rfl rfl (zI X hx hby d4_35 rfl rfl kt))))) ?_
  have lt_xs := E_xs.lt
  have lt_xa := V_xa.lt
  obtain ⟨_, T, h, Lc2, X, e0, hQ, st⟩ := (cs1 hw).run X hx hZ hown e0 (A := [(.ref xa), (.int (0 : Int32)), (.int (4 : Int32))]) rfl (rC3_4 l Z a0 hw [] xa xk xc0 xc1 xc2 xc3 h0 Oh V_xa hc0_ hc1_ hc2_ hc3_) (W := 0) (by decide) hml (Ls := #[rv xs, rv xa, iv 0, iv 4, .val .null, uu]) rfl (rest := []) rfl rfl hby d4_36
  obtain ⟨nb1, nk1, rfl, K1, gn_nb1, V_nb1⟩ := hQ
  have ge_nb1 := Nat.le_trans K.le gn_nb1
  have ne_xs_nb1 : xs ≠ nb1 := Nat.ne_of_lt (Nat.lt_of_lt_of_le lt_xs gn_nb1)
  have ne_xa_nb1 : xa ≠ nb1 := Nat.ne_of_lt (Nat.lt_of_lt_of_le lt_xa gn_nb1)
  have K := K.call K1 all0
  refine oWk.st (fun _ kt => st _ (zT X hx hby d4_39 rfl rfl rfl (l' := #[rv xs, rv xa, iv 0, iv 4, .val .null, rv nb1]) rfl (zA X hx hby d4_41 rfl rfl rfl (zB X hx hby d4_42 rfl rfl rfl (zI X hx hby d4_44 rfl rfl kt))))) ?_
  have Oh := K.old O0 (allS og_xs all0)
  obtain ⟨T, L4, X, e0, K, st⟩ := (cs2 hw).pure X hx hZ hown e0 K (A := [(.ref nb1), (.int (4 : Int32))]) rfl (rCo_4 l Z a0 hw [] nb1 nk1 (xc0.toInt8.toInt32) (xc1.toInt8.toInt32) (xc2.toInt8.toInt32) (xc3.toInt8.toInt32) h Oh V_nb1) (fun _ _ _ q => q) (W := 1) (by decide) hml (Ls := #[rv xs, rv xa, iv 0, iv 4, .val .null, rv nb1]) rfl (rest := [(.ref xs)]) rfl rfl hby d4_45
  refine oWk.st (fun _ kt => st _ kt) ?_
  have E_xs := (E_xs.keep K1.1)
  have F_coder_xs := (F_coder_xs.keep K1.1 nin0)
  obtain ⟨T, h, X, e0, W5, st⟩ := putFN X hx hZ hown (oW hw 34 rfl) Via.refl e0 F_coder_xs E_xs (Or.inr ⟨(oW hw 35 rfl), rfl, hnm⟩) (oW hw 10 rfl) (ty := .byte) (v' := .int (0 : Int32)) (by decide) rfl (by decide) (g := (mkF m 48 #[rv xs, rv xa, iv 0, iv 4, .val .null, rv nb1] [(.int 0), (.ref xs)])) rfl rfl (hb hby d4_48)
  have K := K.wr W5 (Or.inl (List.mem_of_getElem? (i := 0) rfl))
  have F_coder_xs := F_coder_xs.same W5
  refine oWk.st (fun _ kt => st _ (zA X hx hby d4_51 rfl rfl rfl (zB X hx hby d4_52 rfl rfl rfl kt))) ?_
  have E_xs := (E_xs.wr W5)
  have F_value_xs := ((F_value_xs.keep K1.1 nin0).other W5 (Or.inr (slot_ne (Or.inr (oW hw 37 rfl)) (Or.inr (oW hw 35 rfl)) (by decide) (t := (.array .byte)) (t' := .byte) (by decide) (by decide))))
  obtain ⟨T, h, X, e0, W6, st⟩ := putF X hx hZ hown (host := "") (Or.inl (oW hw 36 rfl)) Via.refl e0 F_value_xs E_xs (Or.inr ⟨(oW hw 37 rfl), rfl, hnm⟩) (oW hw 10 rfl) (ty := (.array .byte)) (by decide) rfl rfl (g := (mkF m 54 #[rv xs, rv xa, iv 0, iv 4, .val .null, rv nb1] [(.ref nb1), (.ref xs)])) rfl rfl (hb hby d4_54)
  have K := K.wr W6 (Or.inl (List.mem_of_getElem? (i := 0) rfl))
  have F_value_xs := F_value_xs.same W6
  refine oWk.to (mkF m 57 #[rv xs, rv xa, iv 0, iv 4, .val .null, rv nb1] []) (fun _ kt => st _ kt) ?_
  have E_xs := (E_xs.wr W6)
  have F_coder_xs := (F_coder_xs.other W6 (Or.inr (slot_ne (Or.inr (oW hw 35 rfl)) (Or.inr (oW hw 37 rfl)) (by decide) (t := .byte) (t' := (.array .byte)) (by decide) (by decide))))
  have V_nb1 := ((V_nb1.other W5 (Ne.symm ne_xs_nb1)).other W6 (Ne.symm ne_xs_nb1))
  exact oRetV X hx hlk hret (hb hby d4_57) (by rw [e0]; exact ⟨nb1, nk1, rfl, K, E_xs, F_coder_xs, F_value_xs, ge_nb1, V_nb1⟩) (by decide) (by decide)
def Q_rI1_4 (Z : State) (xs xa : Addr) (xk : ClassId) (xz : Int32) (xu xv : Value) (xc0 xc1 xc2 xc3 : Int32) (h0 : Heap) (v : Option Value) (h : Heap) (L : List Loc) : Prop := ∃ (nb : Addr) (nk : ClassId), v = none ∧ oKp h0 h [xs] L ∧ (Exa Z h xs Y0) ∧ (Fld Z h xs Y0 "coder" "B" (.int (0 : Int32))) ∧ (Fld Z h xs Y0 "value" "[B" (.ref nb)) ∧ (h0.size ≤ nb) ∧ (Arv Z h nb nk .byte (4 : Int32) [(ib xc0), (ib xc1), (ib xc2), (ib xc3)] (.int (0 : Int32)))
theorem rI1_4 (l : Launch) (Z : State) (a0 : Array Value) (hw : oHW a0 Z) (ws : List Jvm.Cond) (xs xa : Addr) (xk : ClassId) (xz : Int32) (xu xv : Value) (xc0 xc1 xc2 xc3 : Int32) (h0 : Heap) (O0 : Ext Z.heap h0) (S_COMPACT_STRINGS : Sta Z Z.heap Y0 Y1 "Z" (.int xz)) (hz : ¬ xz = (0 : Int32)) (og_xs : Z.heap.size ≤ xs) (E_xs : Exa Z h0 xs Y0) (F_value_xs : Fld Z h0 xs Y0 "value" "[B" xu) (F_coder_xs : Fld Z h0 xs Y0 "coder" "B" xv) (V_xa : Arv Z h0 xa xk .char (4 : Int32) [(.int xc0), (.int xc1), (.int xc2), (.int xc3)] (.int (0 : Int32))) (hc0_ : ¬ (255 : Int32) < xc0) (hc1_ : ¬ (255 : Int32) < xc1) (hc2_ : ¬ (255 : Int32) < xc2) (hc3_ : ¬ (255 : Int32) < xc3) :
    oCon l Z yy6 jdk_42_method_3_code 2 none ws ({ frames := 3, cells := 1, slots := 4, locals := 52 } : Room) #[(.ref xs), (.ref xa)] h0 (Q_rI1_4 Z xs xa xk xz xu xv xc0 xc1 xc2 xc3 h0) := by
  refine oCon.of (plainFor_of_name pn_3) ?_
  intro p e s m below meth c T X hx hby hml hown hnm hret hlk hZ e0
  have hml : c.maxLocals = 2 := hml
  have K : oKp h0 h0 [xs] [] := oKp.nil _ _
  refine oWk.cast (g' := (mkF m 0 #[rv xs, rv xa] [])) (by first | rfl | (simp [entryFrame, mkF, argsToLocals, Value.category]; done)) ?_
  refine oWk.st (fun _ kt => zA X hx hby d3_0 rfl rfl rfl (zA X hx hby d3_1 rfl rfl rfl (zK X hx hby d3_2 rfl (zA X hx hby d3_3 rfl rfl rfl (oAl X hx hZ e0 V_xa hby d3_4 rfl rfl (XS.aconstNull X.here hx rfl (hb hby d3_5) kt)))))) ?_
  have lt_xs := E_xs.lt
  have lt_xa := V_xa.lt
  have Oh := K.old O0 (allS og_xs all0)
  obtain ⟨_, T, h, Lc3, X, e0, hQ, st⟩ := (cs3 hw).run X hx hZ hown e0 (A := [(.ref xs), (.ref xa), (.int (0 : Int32)), (.int (4 : Int32)), .null]) ⟨rfl, _, _, rfl⟩ (rI4_4 l Z a0 hw [] xs xa xk xz xu xv xc0 xc1 xc2 xc3 h0 Oh S_COMPACT_STRINGS hz og_xs E_xs F_value_xs F_coder_xs V_xa hc0_ hc1_ hc2_ hc3_) (W := 0) (by decide) hml (Ls := #[rv xs, rv xa]) rfl (rest := []) rfl rfl hby d3_6
  obtain ⟨nb2, nk2, rfl, K2, E_xs, F_coder_xs, F_value_xs, gn_nb2, V_nb2⟩ := hQ
  have ge_nb2 := Nat.le_trans K.le gn_nb2
  have ne_xs_nb2 : xs ≠ nb2 := Nat.ne_of_lt (Nat.lt_of_lt_of_le lt_xs gn_nb2)
  have ne_xa_nb2 : xa ≠ nb2 := Nat.ne_of_lt (Nat.lt_of_lt_of_le lt_xa gn_nb2)
  have K := K.call K2 (allS (Or.inl (List.mem_of_getElem? (i := 0) rfl)) all0)
  refine oWk.to (mkF m 9 #[rv xs, rv xa] []) (fun _ kt => st _ kt) ?_
  exact oRetV X hx hlk hret (hb hby d3_9) (by rw [e0]; exact ⟨nb2, nk2, rfl, K, E_xs, F_coder_xs, F_value_xs, ge_nb2, V_nb2⟩) (by decide) (by decide)
def Q_rBd_4 (Z : State) (xa : Addr) (xk : ClassId) (xz xc0 xc1 xc2 xc3 xc4 : Int32) (h0 : Heap) (v : Option Value) (h : Heap) (L : List Loc) : Prop := ∃ (nr : Addr) (nb : Addr) (nk : ClassId), v = some (.ref nr) ∧ oKp h0 h [] L ∧ (h0.size ≤ nr) ∧ (h0.size ≤ nb) ∧ (Exa Z h nr Y0) ∧ (Fld Z h nr Y0 "coder" "B" (.int (0 : Int32))) ∧ (Fld Z h nr Y0 "value" "[B" (.ref nb)) ∧ (Arv Z h nb nk .byte (4 : Int32) [(ib xc0), (ib xc1), (ib xc2), (ib xc3)] (.int (0 : Int32)))
theorem d2_84 : decode method_3_code 84 = .ok (.iload_n 1, 1) := by decide +kernel
theorem d2_85 : decode method_3_code 85 = .ok (.iconst 4, 1) := by decide +kernel
theorem d2_86 : decode method_3_code 86 = .ok (.if_icmp .ne 38, 3) := by decide +kernel
theorem d2_89 : decode method_3_code 89 = .ok (.new 7, 3) := by decide +kernel
theorem d2_92 : decode method_3_code 92 = .ok (.dup, 1) := by decide +kernel
theorem d2_93 : decode method_3_code 93 = .ok (.iconst 4, 1) := by decide +kernel
theorem d2_94 : decode method_3_code 94 = .ok (.newarray .char, 2) := by decide +kernel
theorem d2_96 : decode method_3_code 96 = .ok (.dup, 1) := by decide +kernel
theorem d2_97 : decode method_3_code 97 = .ok (.iconst 0, 1) := by decide +kernel
theorem d2_98 : decode method_3_code 98 = .ok (.aload_n 0, 1) := by decide +kernel
theorem d2_99 : decode method_3_code 99 = .ok (.iconst 0, 1) := by decide +kernel
theorem d2_100 : decode method_3_code 100 = .ok (.caload, 1) := by decide +kernel
theorem d2_101 : decode method_3_code 101 = .ok (.castore, 1) := by decide +kernel
theorem d2_102 : decode method_3_code 102 = .ok (.dup, 1) := by decide +kernel
theorem d2_103 : decode method_3_code 103 = .ok (.iconst 1, 1) := by decide +kernel
theorem d2_104 : decode method_3_code 104 = .ok (.aload_n 0, 1) := by decide +kernel
theorem d2_105 : decode method_3_code 105 = .ok (.iconst 1, 1) := by decide +kernel
theorem d2_106 : decode method_3_code 106 = .ok (.caload, 1) := by decide +kernel
theorem d2_107 : decode method_3_code 107 = .ok (.castore, 1) := by decide +kernel
theorem d2_108 : decode method_3_code 108 = .ok (.dup, 1) := by decide +kernel
theorem d2_109 : decode method_3_code 109 = .ok (.iconst 2, 1) := by decide +kernel
theorem d2_110 : decode method_3_code 110 = .ok (.aload_n 0, 1) := by decide +kernel
theorem d2_111 : decode method_3_code 111 = .ok (.iconst 2, 1) := by decide +kernel
theorem d2_112 : decode method_3_code 112 = .ok (.caload, 1) := by decide +kernel
theorem d2_113 : decode method_3_code 113 = .ok (.castore, 1) := by decide +kernel
theorem d2_114 : decode method_3_code 114 = .ok (.dup, 1) := by decide +kernel
theorem d2_115 : decode method_3_code 115 = .ok (.iconst 3, 1) := by decide +kernel
theorem d2_116 : decode method_3_code 116 = .ok (.aload_n 0, 1) := by decide +kernel
theorem d2_117 : decode method_3_code 117 = .ok (.iconst 3, 1) := by decide +kernel
theorem d2_118 : decode method_3_code 118 = .ok (.caload, 1) := by decide +kernel
theorem d2_119 : decode method_3_code 119 = .ok (.castore, 1) := by decide +kernel
theorem d2_120 : decode method_3_code 120 = .ok (.invokespecial 9, 3) := by decide +kernel
theorem d2_123 : decode method_3_code 123 = .ok (.areturn, 1) := by decide +kernel
theorem rBd_4 (l : Launch) (Z : State) (a0 : Array Value) (hw : oHW a0 Z) (ws : List Jvm.Cond) (xa : Addr) (xk : ClassId) (xz xc0 xc1 xc2 xc3 xc4 : Int32) (h0 : Heap) (O0 : Ext Z.heap h0) (S_COMPACT_STRINGS : Sta Z Z.heap Y0 Y1 "Z" (.int xz)) (hz : ¬ xz = (0 : Int32)) (V_xa : Arv Z h0 xa xk .char (5 : Int32) [(.int xc0), (.int xc1), (.int xc2), (.int xc3), (.int xc4)] (.int (0 : Int32))) (hr0 : 0 ≤ xc0.toInt ∧ xc0.toInt < 256) (hr1 : 0 ≤ xc1.toInt ∧ xc1.toInt < 256) (hr2 : 0 ≤ xc2.toInt ∧ xc2.toInt < 256) (hr3 : 0 ≤ xc3.toInt ∧ xc3.toInt < 256) :
    oCon l Z yy7 method_3_code 2 (some (.object Y0)) ws ({ frames := 4, cells := 3, slots := 12, locals := 66 } : Room) #[(.ref xa), (.int (4 : Int32))] h0 (Q_rBd_4 Z xa xk xz xc0 xc1 xc2 xc3 xc4 h0) := by
  refine oCon.of (plainFor_of_name pn_1) ?_
  intro p e s m below meth c T X hx hby hml hown hnm hret hlk hZ e0
  have hml : c.maxLocals = 2 := hml
  have K : oKp h0 h0 [] [] := oKp.nil _ _
  refine oWk.cast (g' := (mkF m 0 #[rv xa, iv 4] [])) (by first | rfl | (simp [entryFrame, mkF, argsToLocals, Value.category]; done)) ?_
  refine oWk.to (mkF m 51 #[rv xa, iv 4] [(.int 4)]) (fun _ kt => zI X hx hby d2_0 rfl rfl (zK X hx hby d2_1 rfl (zY X hx hby d2_2 rfl rfl (feq (by decide)).2 (pc' := 22) rfl (zI X hx hby d2_22 rfl rfl (zK X hx hby d2_23 rfl (zY X hx hby d2_24 rfl rfl (feq (by decide)).2 (pc' := 50) rfl (zI X hx hby d2_50 rfl rfl kt))))))) ?_
  refine oWk.st (fun _ kt => zK X hx hby d2_51 rfl (zY X hx hby d2_52 rfl rfl (feq (by decide)).2 (pc' := 84) rfl (zI X hx hby d2_84 rfl rfl (zK X hx hby d2_85 rfl (zN X hx hby d2_86 rfl rfl (teq (by decide)).2 kt))))) ?_
  obtain ⟨o1, g1⟩ : ∃ z, z = h0.size := ⟨_, rfl⟩
  have ne_xa_o1 : xa ≠ o1 := Nat.ne_of_lt (Nat.lt_of_lt_of_le V_xa.lt (Nat.le_of_eq g1.symm))
  have ge_o1 : h0.size ≤ o1 := Nat.le_trans K.le (Nat.le_of_eq g1.symm)
  obtain ⟨T, h, X, e0, E1, A1, D1, -, st⟩ := newO X hx hZ hown (oW hw 9 rfl) (oW hw 10 rfl) (oW hw 11 rfl) e0 (g := (mkF m 89 #[rv xa, iv 4] [])) rfl (hb hby d2_89) (by decide) (by decide)
  rw [← g1] at A1 D1 st
  have K := K.ext E1
  have E_o1 := A1
  have F_coder_o1 : Fld Z h o1 Y0 "coder" "B" (.int (0 : Int32)) := D1 (Or.inr (oW hw 35 rfl)) (ty := .byte) (by decide)
  have F_value_o1 : Fld Z h o1 Y0 "value" "[B" .null := D1 (Or.inr (oW hw 37 rfl)) (ty := (.array .byte)) (by decide)
  refine oWk.st (fun _ kt => st _ (zD X hx hby d2_92 rfl rfl rfl (zK X hx hby d2_93 rfl kt))) ?_
  obtain ⟨o2, g2⟩ : ∃ z, z = h.size := ⟨_, rfl⟩
  have V_xa := (V_xa.ext E1)
  have ne_xa_o2 : xa ≠ o2 := Nat.ne_of_lt (Nat.lt_of_lt_of_le V_xa.lt (Nat.le_of_eq g2.symm))
  have ne_o1_o2 : o1 ≠ o2 := Nat.ne_of_lt (Nat.lt_of_lt_of_le E_o1.lt (Nat.le_of_eq g2.symm))
  have ge_o2 : h0.size ≤ o2 := Nat.le_trans K.le (Nat.le_of_eq g2.symm)
  obtain ⟨T, h, k2, X, e0, E2, A2, st⟩ := newP X hx hZ (oW hw 1 rfl) e0 (g := (mkF m 94 #[rv xa, iv 4] [(.int 4), (.ref o1), (.ref o1)])) rfl (hb hby d2_94) rfl (by decide) (cap := 4) (by decide) (by decide) (by decide) (by decide)
  rw [← g2] at A2 st
  have K := K.ext E2
  have V_o2 : Arv Z h o2 k2 .char (4 : Int32) [(.int (0 : Int32)), (.int (0 : Int32)), (.int (0 : Int32)), (.int (0 : Int32))] (.int (0 : Int32)) := (Arv.new A2 (by decide)).pad (pad_rep [] (.int (0 : Int32)) 4)
  refine oWk.st (fun _ kt => st _ (zD X hx hby d2_96 rfl rfl rfl (zK X hx hby d2_97 rfl (zA X hx hby d2_98 rfl rfl rfl (zK X hx hby d2_99 rfl kt))))) ?_
  have V_xa := (V_xa.ext E2)
  refine oWk.to (mkF m 101 #[rv xa, iv 4] [(.int xc0), (.int 0), (.ref o2), (.ref o2), (.ref o1), (.ref o1)]) (fun _ kt => oLdC X hx hZ e0 V_xa (0 : Int32) (.int xc0) ⟨by decide, by decide⟩ rfl hby d2_100 rfl rfl kt) ?_
  obtain ⟨cl4, Ar4, q4, Sz4, Nn4, Hs4, Ft4⟩ := id V_o2
  have hin4 : ¬ ((0 : Int32) < 0 ∨ cl4.slots.size ≤ ((0 : Int32)).toNatClampNeg) := inb_of Sz4 ⟨by decide, by decide⟩
  obtain ⟨T, h, X, e0, W4, st⟩ := stC X hx hZ e0 Ar4 (j := (0 : Int32)) hin4 (g := (mkF m 101 #[rv xa, iv 4] [(.int xc0), (.int 0), (.ref o2), (.ref o2), (.ref o1), (.ref o1)])) rfl rfl (hb hby d2_101)
  have K := K.wr W4 (Or.inr ge_o2)
  have V_o2 := Arv.set Ar4 q4 Sz4 Nn4 Hs4 Ft4 (fits_nar_char _) W4 0 rfl (Nat.le_of_ble_eq_true rfl)
  rw [show nar .char xc0 = xc0 from oChr hr0] at V_o2
  replace V_o2 : Arv Z h o2 k2 .char (4 : Int32) [(.int xc0), (.int (0 : Int32)), (.int (0 : Int32)), (.int (0 : Int32))] (.int (0 : Int32)) := V_o2
  refine oWk.st (fun _ kt => st _ (zD X hx hby d2_102 rfl rfl rfl (zK X hx hby d2_103 rfl (zA X hx hby d2_104 rfl rfl rfl (zK X hx hby d2_105 rfl kt))))) ?_
  have V_xa := (V_xa.other W4 ne_xa_o2)
  refine oWk.to (mkF m 107 #[rv xa, iv 4] [(.int xc1), (.int 1), (.ref o2), (.ref o2), (.ref o1), (.ref o1)]) (fun _ kt => oLdC X hx hZ e0 V_xa (1 : Int32) (.int xc1) ⟨by decide, by decide⟩ rfl hby d2_106 rfl rfl kt) ?_
  obtain ⟨cl6, Ar6, q6, Sz6, Nn6, Hs6, Ft6⟩ := id V_o2
  have hin6 : ¬ ((1 : Int32) < 0 ∨ cl6.slots.size ≤ ((1 : Int32)).toNatClampNeg) := inb_of Sz6 ⟨by decide, by decide⟩
  obtain ⟨T, h, X, e0, W6, st⟩ := stC X hx hZ e0 Ar6 (j := (1 : Int32)) hin6 (g := (mkF m 107 #[rv xa, iv 4] [(.int xc1), (.int 1), (.ref o2), (.ref o2), (.ref o1), (.ref o1)])) rfl rfl (hb hby d2_107)
  have K := K.wr W6 (Or.inr ge_o2)
  have V_o2 := Arv.set Ar6 q6 Sz6 Nn6 Hs6 Ft6 (fits_nar_char _) W6 1 rfl (Nat.le_of_ble_eq_true rfl)
  rw [show nar .char xc1 = xc1 from oChr hr1] at V_o2
  replace V_o2 : Arv Z h o2 k2 .char (4 : Int32) [(.int xc0), (.int xc1), (.int (0 : Int32)), (.int (0 : Int32))] (.int (0 : Int32)) := V_o2
  refine oWk.st (fun _ kt => st _ (zD X hx hby d2_108 rfl rfl rfl (zK X hx hby d2_109 rfl (zA X hx hby d2_110 rfl rfl rfl (zK X hx hby d2_111 rfl kt))))) ?_
  have V_xa := (V_xa.other W6 ne_xa_o2)
  refine oWk.to (mkF m 113 #[rv xa, iv 4] [(.int xc2), (.int 2), (.ref o2), (.ref o2), (.ref o1), (.ref o1)]) (fun _ kt => oLdC X hx hZ e0 V_xa (2 : Int32) (.int xc2) ⟨by decide, by decide⟩ rfl hby d2_112 rfl rfl kt) ?_
  obtain ⟨cl8, Ar8, q8, Sz8, Nn8, Hs8, Ft8⟩ := id V_o2
  have hin8 : ¬ ((2 : Int32) < 0 ∨ cl8.slots.size ≤ ((2 : Int32)).toNatClampNeg) := inb_of Sz8 ⟨by decide, by decide⟩
  obtain ⟨T, h, X, e0, W8, st⟩ := stC X hx hZ e0 Ar8 (j := (2 : Int32)) hin8 (g := (mkF m 113 #[rv xa, iv 4] [(.int xc2), (.int 2), (.ref o2), (.ref o2), (.ref o1), (.ref o1)])) rfl rfl (hb hby d2_113)
  have K := K.wr W8 (Or.inr ge_o2)
  have V_o2 := Arv.set Ar8 q8 Sz8 Nn8 Hs8 Ft8 (fits_nar_char _) W8 2 rfl (Nat.le_of_ble_eq_true rfl)
  rw [show nar .char xc2 = xc2 from oChr hr2] at V_o2
  replace V_o2 : Arv Z h o2 k2 .char (4 : Int32) [(.int xc0), (.int xc1), (.int xc2), (.int (0 : Int32))] (.int (0 : Int32)) := V_o2
  refine oWk.st (fun _ kt => st _ (zD X hx hby d2_114 rfl rfl rfl (zK X hx hby d2_115 rfl (zA X hx hby d2_116 rfl rfl rfl (zK X hx hby d2_117 rfl kt))))) ?_
  have V_xa := (V_xa.other W8 ne_xa_o2)
  refine oWk.to (mkF m 119 #[rv xa, iv 4] [(.int xc3), (.int 3), (.ref o2), (.ref o2), (.ref o1), (.ref o1)]) (fun _ kt => oLdC X hx hZ e0 V_xa (3 : Int32) (.int xc3) ⟨by decide, by decide⟩ rfl hby d2_118 rfl rfl kt) ?_
  obtain ⟨cl10, Ar10, q10, Sz10, Nn10, Hs10, Ft10⟩ := id V_o2
  have hin10 : ¬ ((3 : Int32) < 0 ∨ cl10.slots.size ≤ ((3 : Int32)).toNatClampNeg) := inb_of Sz10 ⟨by decide, by decide⟩
  obtain ⟨T, h, X, e0, W10, st⟩ := stC X hx hZ e0 Ar10 (j := (3 : Int32)) hin10 (g := (mkF m 119 #[rv xa, iv 4] [(.int xc3), (.int 3), (.ref o2), (.ref o2), (.ref o1), (.ref o1)])) rfl rfl (hb hby d2_119)
  have K := K.wr W10 (Or.inr ge_o2)
  have V_o2 := Arv.set Ar10 q10 Sz10 Nn10 Hs10 Ft10 (fits_nar_char _) W10 3 rfl (Nat.le_of_ble_eq_true rfl)
  rw [show nar .char xc3 = xc3 from oChr hr3] at V_o2
  replace V_o2 : Arv Z h o2 k2 .char (4 : Int32) [(.int xc0), (.int xc1), (.int xc2), (.int xc3)] (.int (0 : Int32)) := V_o2
  refine oWk.st (fun _ kt => st _ kt) ?_
  have E_o1 := (((((E_o1.ext E2).wr W4).wr W6).wr W8).wr W10)
  have F_value_o1 := (((((F_value_o1.ext E2).other W4 (Or.inl ne_o1_o2)).other W6 (Or.inl ne_o1_o2)).other W8 (Or.inl ne_o1_o2)).other W10 (Or.inl ne_o1_o2))
  have F_coder_o1 := (((((F_coder_o1.ext E2).other W4 (Or.inl ne_o1_o2)).other W6 (Or.inl ne_o1_o2)).other W8 (Or.inl ne_o1_o2)).other W10 (Or.inl ne_o1_o2))
  have V_xa := (V_xa.other W10 ne_xa_o2)
  have lt_xa := V_xa.lt
  have lt_o1 := E_o1.lt
  have lt_o2 := V_o2.lt
  have Oh := K.old O0 all0
  obtain ⟨_, T, h, Lc12, X, e0, hQ, st⟩ := (cs4 hw).run X hx hZ hown e0 (A := [(.ref o1), (.ref o2)]) ⟨rfl, _, _, rfl⟩ (rI1_4 l Z a0 hw [] o1 o2 k2 xz .null (.int (0 : Int32)) xc0 xc1 xc2 xc3 h Oh S_COMPACT_STRINGS hz (Nat.le_trans O0.1 ge_o1) E_o1 F_value_o1 F_coder_o1 V_o2 (oLe255 hr0) (oLe255 hr1) (oLe255 hr2) (oLe255 hr3)) (W := 1) (by decide) hml (Ls := #[rv xa, iv 4]) rfl (rest := [(.ref o1)]) rfl rfl hby d2_120
  obtain ⟨nb11, nk11, rfl, K11, E_o1, F_coder_o1, F_value_o1, gn_nb11, V_nb11⟩ := hQ
  have ge_nb11 := Nat.le_trans K.le gn_nb11
  have ne_xa_nb11 : xa ≠ nb11 := Nat.ne_of_lt (Nat.lt_of_lt_of_le lt_xa gn_nb11)
  have ne_o1_nb11 : o1 ≠ nb11 := Nat.ne_of_lt (Nat.lt_of_lt_of_le lt_o1 gn_nb11)
  have ne_o2_nb11 : o2 ≠ nb11 := Nat.ne_of_lt (Nat.lt_of_lt_of_le lt_o2 gn_nb11)
  have K := K.call K11 (allS (Or.inr ge_o1) all0)
  refine oWk.to (mkF m 123 #[rv xa, iv 4] [(.ref o1)]) (fun _ kt => st _ kt) ?_
  exact oRetA X hx hlk hret rfl rfl (hb hby d2_123) (by rw [e0]; exact ⟨o1, nb11, nk11, rfl, K, ge_o1, ge_nb11, E_o1, F_coder_o1, F_value_o1, V_nb11⟩) (by decide) (by decide)
def Q_rC5_5 (Z : State) (xa xd : Addr) (xk xl : ClassId) (xc0 xc1 xc2 xc3 xc4 : Int32) (h0 : Heap) (v : Option Value) (h : Heap) (L : List Loc) : Prop := v = some (.int (5 : Int32)) ∧ oKp h0 h [xd] L ∧ (Arv Z h xd xl .byte (5 : Int32) [(ib xc0), (ib xc1), (ib xc2), (ib xc3), (ib xc4)] (.int (0 : Int32)))
theorem rC5_5 (l : Launch) (Z : State) (a0 : Array Value) (hw : oHW a0 Z) (ws : List Jvm.Cond) (xa xd : Addr) (xk xl : ClassId) (xc0 xc1 xc2 xc3 xc4 : Int32) (h0 : Heap) (O0 : Ext Z.heap h0) (og_xd : Z.heap.size ≤ xd) (ne_xa_xd : xa ≠ xd) (V_xa : Arv Z h0 xa xk .char (5 : Int32) [(.int xc0), (.int xc1), (.int xc2), (.int xc3), (.int xc4)] (.int (0 : Int32))) (V_xd : Arv Z h0 xd xl .byte (5 : Int32) [(.int (0 : Int32)), (.int (0 : Int32)), (.int (0 : Int32)), (.int (0 : Int32)), (.int (0 : Int32))] (.int (0 : Int32))) (hc0_ : ¬ (255 : Int32) < xc0) (hc1_ : ¬ (255 : Int32) < xc1) (hc2_ : ¬ (255 : Int32) < xc2) (hc3_ : ¬ (255 : Int32) < xc3) (hc4_ : ¬ (255 : Int32) < xc4) :
    oCon l Z yy2 jdk_52_method_21_code 7 (some .int) ws ({ frames := 0, cells := 0, slots := 0, locals := 0 } : Room) #[(.ref xa), (.int (0 : Int32)), (.ref xd), (.int (0 : Int32)), (.int (5 : Int32))] h0 (Q_rC5_5 Z xa xd xk xl xc0 xc1 xc2 xc3 xc4 h0) := by
  refine oCon.of (plainFor_of_name pn_2) ?_
  intro p e s m below meth c T X hx hby hml hown hnm hret hlk hZ e0
  have hml : c.maxLocals = 7 := hml
  have K : oKp h0 h0 [xd] [] := oKp.nil _ _
  refine oWk.cast (g' := (mkF m 0 #[rv xa, iv 0, rv xd, iv 0, iv 5, uu, uu] [])) (by first | rfl | (simp [entryFrame, mkF, argsToLocals, Value.category]; done)) ?_
  refine oWk.to (mkF m 12 #[rv xa, iv 0, rv xd, iv 0, iv 5, iv 0, uu] [(.int 0), (.ref xa)]) (fun _ kt => zK X hx hby d7_0 rfl (zS X hx hby d7_1 rfl rfl (l' := #[rv xa, iv 0, rv xd, iv 0, iv 5, iv 0, uu]) rfl (zJ X hx hby d7_3 rfl rfl (zJ X hx hby d7_5 rfl rfl (zN X hx hby d7_7 rfl rfl (tlt (by decide)).2.1 (zA X hx hby d7_10 rfl rfl rfl (zI X hx hby d7_11 rfl rfl kt))))))) ?_
  refine oWk.to (mkF m 20 #[rv xa, iv 0, rv xd, iv 0, iv 5, iv 0, iv xc0] [(.int 255), (.int xc0)]) (fun _ kt => oLdC X hx hZ e0 V_xa (0 : Int32) (.int xc0) ⟨by decide, by decide⟩ rfl hby d7_12 rfl rfl (zS X hx hby d7_13 rfl rfl (l' := #[rv xa, iv 0, rv xd, iv 0, iv 5, iv 0, iv xc0]) rfl (zJ X hx hby d7_15 rfl rfl (zM X hx hby d7_17 rfl kt)))) ?_
  refine oWk.to (mkF m 31 #[rv xa, iv 0, rv xd, iv 0, iv 5, iv 0, iv xc0] [(ib xc0), (.int 0), (.ref xd)]) (fun _ kt => zY X hx hby d7_20 rfl rfl (flt hc0_).2.2.2 (pc' := 26) rfl (zA X hx hby d7_26 rfl rfl rfl (zI X hx hby d7_27 rfl rfl (zJ X hx hby d7_28 rfl rfl (XS.i2b X.here hx rfl (hb hby d7_30) rfl kt))))) ?_
  obtain ⟨cl2, Ar2, q2, Sz2, Nn2, Hs2, Ft2⟩ := id V_xd
  have hin2 : ¬ ((0 : Int32) < 0 ∨ cl2.slots.size ≤ ((0 : Int32)).toNatClampNeg) := inb_of Sz2 ⟨by decide, by decide⟩
  obtain ⟨T, h, X, e0, W2, st⟩ := stB X hx hZ e0 Ar2 (j := (0 : Int32)) hin2 (g := (mkF m 31 #[rv xa, iv 0, rv xd, iv 0, iv 5, iv 0, iv xc0] [(ib xc0), (.int 0), (.ref xd)])) rfl rfl (hb hby d7_31)
  have K := K.wr W2 (Or.inl (List.mem_of_getElem? (i := 0) rfl))
  have V_xd := Arv.set Ar2 q2 Sz2 Nn2 Hs2 Ft2 (fits_nar_byte _) W2 0 rfl (Nat.le_of_ble_eq_true rfl)
  rw [oB8 xc0] at V_xd
  replace V_xd : Arv Z h xd xl .byte (5 : Int32) [(ib xc0), (.int (0 : Int32)), (.int (0 : Int32)), (.int (0 : Int32)), (.int (0 : Int32))] (.int (0 : Int32)) := V_xd
  refine oWk.to (mkF m 7 #[rv xa, iv 1, rv xd, iv 1, iv 5, iv 1, iv xc0] [(.int 5), (.int 1)]) (fun _ kt => st _ (zC X hx hby d7_32 rfl rfl (l' := #[rv xa, iv ((0 : Int32) + (1 : Int32)), rv xd, iv 0, iv 5, iv 0, iv xc0]) rfl (zC X hx hby d7_35 rfl rfl (l' := #[rv xa, iv 1, rv xd, iv ((0 : Int32) + (1 : Int32)), iv 5, iv 0, iv xc0]) rfl (zC X hx hby d7_38 rfl rfl (l' := #[rv xa, iv 1, rv xd, iv 1, iv 5, iv ((0 : Int32) + (1 : Int32)), iv xc0]) rfl (zG X hx hby d7_41 rfl (pc' := 3) rfl (zJ X hx hby d7_3 rfl rfl (zJ X hx hby d7_5 rfl rfl kt))))))) ?_
  refine oWk.st (fun _ kt => zN X hx hby d7_7 rfl rfl (tlt (by decide)).2.1 (zA X hx hby d7_10 rfl rfl rfl (zI X hx hby d7_11 rfl rfl kt))) ?_
  have V_xa := (V_xa.other W2 ne_xa_xd)
  refine oWk.to (mkF m 20 #[rv xa, iv 1, rv xd, iv 1, iv 5, iv 1, iv xc1] [(.int 255), (.int xc1)]) (fun _ kt => oLdC X hx hZ e0 V_xa (1 : Int32) (.int xc1) ⟨by decide, by decide⟩ rfl hby d7_12 rfl rfl (zS X hx hby d7_13 rfl rfl (l' := #[rv xa, iv 1, rv xd, iv 1, iv 5, iv 1, iv xc1]) rfl (zJ X hx hby d7_15 rfl rfl (zM X hx hby d7_17 rfl kt)))) ?_
  refine oWk.to (mkF m 31 #[rv xa, iv 1, rv xd, iv 1, iv 5, iv 1, iv xc1] [(ib xc1), (.int 1), (.ref xd)]) (fun _ kt => zY X hx hby d7_20 rfl rfl (flt hc1_).2.2.2 (pc' := 26) rfl (zA X hx hby d7_26 rfl rfl rfl (zI X hx hby d7_27 rfl rfl (zJ X hx hby d7_28 rfl rfl (XS.i2b X.here hx rfl (hb hby d7_30) rfl kt))))) ?_
  obtain ⟨cl4, Ar4, q4, Sz4, Nn4, Hs4, Ft4⟩ := id V_xd
  have hin4 : ¬ ((1 : Int32) < 0 ∨ cl4.slots.size ≤ ((1 : Int32)).toNatClampNeg) := inb_of Sz4 ⟨by decide, by decide⟩
  obtain ⟨T, h, X, e0, W4, st⟩ := stB X hx hZ e0 Ar4 (j := (1 : Int32)) hin4 (g := (mkF m 31 #[rv xa, iv 1, rv xd, iv 1, iv 5, iv 1, iv xc1] [(ib xc1), (.int 1), (.ref xd)])) rfl rfl (hb hby d7_31)
  have K := K.wr W4 (Or.inl (List.mem_of_getElem? (i := 0) rfl))
  have V_xd := Arv.set Ar4 q4 Sz4 Nn4 Hs4 Ft4 (fits_nar_byte _) W4 1 rfl (Nat.le_of_ble_eq_true rfl)
  rw [oB8 xc1] at V_xd
  replace V_xd : Arv Z h xd xl .byte (5 : Int32) [(ib xc0), (ib xc1), (.int (0 : Int32)), (.int (0 : Int32)), (.int (0 : Int32))] (.int (0 : Int32)) := V_xd
  refine oWk.to (mkF m 7 #[rv xa, iv 2, rv xd, iv 2, iv 5, iv 2, iv xc1] [(.int 5), (.int 2)]) (fun _ kt => st _ (zC X hx hby d7_32 rfl rfl (l' := #[rv xa, iv ((1 : Int32) + (1 : Int32)), rv xd, iv 1, iv 5, iv 1, iv xc1]) rfl (zC X hx hby d7_35 rfl rfl (l' := #[rv xa, iv 2, rv xd, iv ((1 : Int32) + (1 : Int32)), iv 5, iv 1, iv xc1]) rfl (zC X hx hby d7_38 rfl rfl (l' := #[rv xa, iv 2, rv xd, iv 2, iv 5, iv ((1 : Int32) + (1 : Int32)), iv xc1]) rfl (zG X hx hby d7_41 rfl (pc' := 3) rfl (zJ X hx hby d7_3 rfl rfl (zJ X hx hby d7_5 rfl rfl kt))))))) ?_
  refine oWk.st (fun _ kt => zN X hx hby d7_7 rfl rfl (tlt (by decide)).2.1 (zA X hx hby d7_10 rfl rfl rfl (zI X hx hby d7_11 rfl rfl kt))) ?_
  have V_xa := (V_xa.other W4 ne_xa_xd)
  refine oWk.to (mkF m 20 #[rv xa, iv 2, rv xd, iv 2, iv 5, iv 2, iv xc2] [(.int 255), (.int xc2)]) (fun _ kt => oLdC X hx hZ e0 V_xa (2 : Int32) (.int xc2) ⟨by decide, by decide⟩ rfl hby d7_12 rfl rfl (zS X hx hby d7_13 rfl rfl (l' := #[rv xa, iv 2, rv xd, iv 2, iv 5, iv 2, iv xc2]) rfl (zJ X hx hby d7_15 rfl rfl (zM X hx hby d7_17 rfl kt)))) ?_
  refine oWk.to (mkF m 31 #[rv xa, iv 2, rv xd, iv 2, iv 5, iv 2, iv xc2] [(ib xc2), (.int 2), (.ref xd)]) (fun _ kt => zY X hx hby d7_20 rfl rfl (flt hc2_).2.2.2 (pc' := 26) rfl (zA X hx hby d7_26 rfl rfl rfl (zI X hx hby d7_27 rfl rfl (zJ X hx hby d7_28 rfl rfl (XS.i2b X.here hx rfl (hb hby d7_30) rfl kt))))) ?_
  obtain ⟨cl6, Ar6, q6, Sz6, Nn6, Hs6, Ft6⟩ := id V_xd
  have hin6 : ¬ ((2 : Int32) < 0 ∨ cl6.slots.size ≤ ((2 : Int32)).toNatClampNeg) := inb_of Sz6 ⟨by decide, by decide⟩
  obtain ⟨T, h, X, e0, W6, st⟩ := stB X hx hZ e0 Ar6 (j := (2 : Int32)) hin6 (g := (mkF m 31 #[rv xa, iv 2, rv xd, iv 2, iv 5, iv 2, iv xc2] [(ib xc2), (.int 2), (.ref xd)])) rfl rfl (hb hby d7_31)
  have K := K.wr W6 (Or.inl (List.mem_of_getElem? (i := 0) rfl))
  have V_xd := Arv.set Ar6 q6 Sz6 Nn6 Hs6 Ft6 (fits_nar_byte _) W6 2 rfl (Nat.le_of_ble_eq_true rfl)
  rw [oB8 xc2] at V_xd
  replace V_xd : Arv Z h xd xl .byte (5 : Int32) [(ib xc0), (ib xc1), (ib xc2), (.int (0 : Int32)), (.int (0 : Int32))] (.int (0 : Int32)) := V_xd
  refine oWk.to (mkF m 7 #[rv xa, iv 3, rv xd, iv 3, iv 5, iv 3, iv xc2] [(.int 5), (.int 3)]) (fun _ kt => st _ (zC X hx hby d7_32 rfl rfl (l' := #[rv xa, iv ((2 : Int32) + (1 : Int32)), rv xd, iv 2, iv 5, iv 2, iv xc2]) rfl (zC X hx hby d7_35 rfl rfl (l' := #[rv xa, iv 3, rv xd, iv ((2 : Int32) + (1 : Int32)), iv 5, iv 2, iv xc2]) rfl (zC X hx hby d7_38 rfl rfl (l' := #[rv xa, iv 3, rv xd, iv 3, iv 5, iv ((2 : Int32) + (1 : Int32)), iv xc2]) rfl (zG X hx hby d7_41 rfl (pc' := 3) rfl (zJ X hx hby d7_3 rfl rfl (zJ X hx hby d7_5 rfl rfl kt))))))) ?_
  refine oWk.st (fun _ kt => zN X hx hby d7_7 rfl rfl (tlt (by decide)).2.1 (zA X hx hby d7_10 rfl rfl rfl (zI X hx hby d7_11 rfl rfl kt))) ?_
  have V_xa := (V_xa.other W6 ne_xa_xd)
  refine oWk.to (mkF m 20 #[rv xa, iv 3, rv xd, iv 3, iv 5, iv 3, iv xc3] [(.int 255), (.int xc3)]) (fun _ kt => oLdC X hx hZ e0 V_xa (3 : Int32) (.int xc3) ⟨by decide, by decide⟩ rfl hby d7_12 rfl rfl (zS X hx hby d7_13 rfl rfl (l' := #[rv xa, iv 3, rv xd, iv 3, iv 5, iv 3, iv xc3]) rfl (zJ X hx hby d7_15 rfl rfl (zM X hx hby d7_17 rfl kt)))) ?_
  refine oWk.to (mkF m 31 #[rv xa, iv 3, rv xd, iv 3, iv 5, iv 3, iv xc3] [(ib xc3), (.int 3), (.ref xd)]) (fun _ kt => zY X hx hby d7_20 rfl rfl (flt hc3_).2.2.2 (pc' := 26) rfl (zA X hx hby d7_26 rfl rfl rfl (zI X hx hby d7_27 rfl rfl (zJ X hx hby d7_28 rfl rfl (XS.i2b X.here hx rfl (hb hby d7_30) rfl kt))))) ?_
  obtain ⟨cl8, Ar8, q8, Sz8, Nn8, Hs8, Ft8⟩ := id V_xd
  have hin8 : ¬ ((3 : Int32) < 0 ∨ cl8.slots.size ≤ ((3 : Int32)).toNatClampNeg) := inb_of Sz8 ⟨by decide, by decide⟩
  obtain ⟨T, h, X, e0, W8, st⟩ := stB X hx hZ e0 Ar8 (j := (3 : Int32)) hin8 (g := (mkF m 31 #[rv xa, iv 3, rv xd, iv 3, iv 5, iv 3, iv xc3] [(ib xc3), (.int 3), (.ref xd)])) rfl rfl (hb hby d7_31)
  have K := K.wr W8 (Or.inl (List.mem_of_getElem? (i := 0) rfl))
  have V_xd := Arv.set Ar8 q8 Sz8 Nn8 Hs8 Ft8 (fits_nar_byte _) W8 3 rfl (Nat.le_of_ble_eq_true rfl)
  rw [oB8 xc3] at V_xd
  replace V_xd : Arv Z h xd xl .byte (5 : Int32) [(ib xc0), (ib xc1), (ib xc2), (ib xc3), (.int (0 : Int32))] (.int (0 : Int32)) := V_xd
  refine oWk.to (mkF m 7 #[rv xa, iv 4, rv xd, iv 4, iv 5, iv 4, iv xc3] [(.int 5), (.int 4)]) (fun _ kt => st _ (zC X hx hby d7_32 rfl rfl (l' := #[rv xa, iv ((3 : Int32) + (1 : Int32)), rv xd, iv 3, iv 5, iv 3, iv xc3]) rfl (zC X hx hby d7_35 rfl rfl (l' := #[rv xa, iv 4, rv xd, iv ((3 : Int32) + (1 : Int32)), iv 5, iv 3, iv xc3]) rfl (zC X hx hby d7_38 rfl rfl (l' := #[rv xa, iv 4, rv xd, iv 4, iv 5, iv ((3 : Int32) + (1 : Int32)), iv xc3]) rfl (zG X hx hby d7_41 rfl (pc' := 3) rfl (zJ X hx hby d7_3 rfl rfl (zJ X hx hby d7_5 rfl rfl kt))))))) ?_
  refine oWk.st (fun _ kt => zN X hx hby d7_7 rfl rfl (tlt (by decide)).2.1 (zA X hx hby d7_10 rfl rfl rfl (zI X hx hby d7_11 rfl rfl kt))) ?_
  have V_xa := (V_xa.other W8 ne_xa_xd)
  refine oWk.to (mkF m 20 #[rv xa, iv 4, rv xd, iv 4, iv 5, iv 4, iv xc4] [(.int 255), (.int xc4)]) (fun _ kt => oLdC X hx hZ e0 V_xa (4 : Int32) (.int xc4) ⟨by decide, by decide⟩ rfl hby d7_12 rfl rfl (zS X hx hby d7_13 rfl rfl (l' := #[rv xa, iv 4, rv xd, iv 4, iv 5, iv 4, iv xc4]) rfl (zJ X hx hby d7_15 rfl rfl (zM X hx hby d7_17 rfl kt)))) ?_
  refine oWk.to (mkF m 31 #[rv xa, iv 4, rv xd, iv 4, iv 5, iv 4, iv xc4] [(ib xc4), (.int 4), (.ref xd)]) (fun _ kt => zY X hx hby d7_20 rfl rfl (flt hc4_).2.2.2 (pc' := 26) rfl (zA X hx hby d7_26 rfl rfl rfl (zI X hx hby d7_27 rfl rfl (zJ X hx hby d7_28 rfl rfl (XS.i2b X.here hx rfl (hb hby d7_30) rfl kt))))) ?_
  obtain ⟨cl10, Ar10, q10, Sz10, Nn10, Hs10, Ft10⟩ := id V_xd
  have hin10 : ¬ ((4 : Int32) < 0 ∨ cl10.slots.size ≤ ((4 : Int32)).toNatClampNeg) := inb_of Sz10 ⟨by decide, by decide⟩
  obtain ⟨T, h, X, e0, W10, st⟩ := stB X hx hZ e0 Ar10 (j := (4 : Int32)) hin10 (g := (mkF m 31 #[rv xa, iv 4, rv xd, iv 4, iv 5, iv 4, iv xc4] [(ib xc4), (.int 4), (.ref xd)])) rfl rfl (hb hby d7_31)
  have K := K.wr W10 (Or.inl (List.mem_of_getElem? (i := 0) rfl))
  have V_xd := Arv.set Ar10 q10 Sz10 Nn10 Hs10 Ft10 (fits_nar_byte _) W10 4 rfl (Nat.le_of_ble_eq_true rfl)
  rw [oB8 xc4] at V_xd
  replace V_xd : Arv Z h xd xl .byte (5 : Int32) [(ib xc0), (ib xc1), (ib xc2), (ib xc3), (ib xc4)] (.int (0 : Int32)) := V_xd
  refine oWk.to (mkF m 7 #[rv xa, iv 5, rv xd, iv 5, iv 5, iv 5, iv xc4] [(.int 5), (.int 5)]) (fun _ kt => st _ (zC X hx hby d7_32 rfl rfl (l' := #[rv xa, iv ((4 : Int32) + (1 : Int32)), rv xd, iv 4, iv 5, iv 4, iv xc4]) rfl (zC X hx hby d7_35 rfl rfl (l' := #[rv xa, iv 5, rv xd, iv ((4 : Int32) + (1 : Int32)), iv 5, iv 4, iv xc4]) rfl (zC X hx hby d7_38 rfl rfl (l' := #[rv xa, iv 5, rv xd, iv 5, iv 5, iv ((4 : Int32) + (1 : Int32)), iv xc4]) rfl (zG X hx hby d7_41 rfl (pc' := 3) rfl (zJ X hx hby d7_3 rfl rfl (zJ X hx hby d7_5 rfl rfl kt))))))) ?_
  refine oWk.to (mkF m 46 #[rv xa, iv 5, rv xd, iv 5, iv 5, iv 5, iv xc4] [(.int 5)]) (fun _ kt => zY X hx hby d7_7 rfl rfl (flt (by decide)).2.1 (pc' := 44) rfl (zJ X hx hby d7_44 rfl rfl kt)) ?_
  exact oRetI X hx hlk hret (hb hby d7_46) (by rw [e0]; exact ⟨rfl, K, V_xd⟩) (by decide) (by decide)
def Q_rC3_5 (Z : State) (xa : Addr) (xk : ClassId) (xc0 xc1 xc2 xc3 xc4 : Int32) (h0 : Heap) (v : Option Value) (h : Heap) (L : List Loc) : Prop := ∃ (nb : Addr) (nk : ClassId), v = some (.ref nb) ∧ oKp h0 h [] L ∧ (h0.size ≤ nb) ∧ (Arv Z h nb nk .byte (5 : Int32) [(ib xc0), (ib xc1), (ib xc2), (ib xc3), (ib xc4)] (.int (0 : Int32)))
theorem rC3_5 (l : Launch) (Z : State) (a0 : Array Value) (hw : oHW a0 Z) (ws : List Jvm.Cond) (xa : Addr) (xk : ClassId) (xc0 xc1 xc2 xc3 xc4 : Int32) (h0 : Heap) (O0 : Ext Z.heap h0) (V_xa : Arv Z h0 xa xk .char (5 : Int32) [(.int xc0), (.int xc1), (.int xc2), (.int xc3), (.int xc4)] (.int (0 : Int32))) (hc0_ : ¬ (255 : Int32) < xc0) (hc1_ : ¬ (255 : Int32) < xc1) (hc2_ : ¬ (255 : Int32) < xc2) (hc3_ : ¬ (255 : Int32) < xc3) (hc4_ : ¬ (255 : Int32) < xc4) :
    oCon l Z yy3 jdk_52_method_16_code 6 (some (.array .byte)) ws ({ frames := 1, cells := 1, slots := 5, locals := 18 } : Room) #[(.ref xa), (.int (0 : Int32)), (.int (5 : Int32))] h0 (Q_rC3_5 Z xa xk xc0 xc1 xc2 xc3 xc4 h0) := by
  refine oCon.of (plainFor_of_name pn_2) ?_
  intro p e s m below meth c T X hx hby hml hown hnm hret hlk hZ e0
  have hml : c.maxLocals = 6 := hml
  have K : oKp h0 h0 [] [] := oKp.nil _ _
  refine oWk.cast (g' := (mkF m 0 #[rv xa, iv 0, iv 5, uu, uu, uu] [])) (by first | rfl | (simp [entryFrame, mkF, argsToLocals, Value.category]; done)) ?_
  refine oWk.st (fun _ kt => zI X hx hby d6_0 rfl rfl kt) ?_
  obtain ⟨o1, g1⟩ : ∃ z, z = h0.size := ⟨_, rfl⟩
  have ne_xa_o1 : xa ≠ o1 := Nat.ne_of_lt (Nat.lt_of_lt_of_le V_xa.lt (Nat.le_of_eq g1.symm))
  have ge_o1 : h0.size ≤ o1 := Nat.le_trans K.le (Nat.le_of_eq g1.symm)
  obtain ⟨T, h, k1, X, e0, E1, A1, st⟩ := newP X hx hZ (oW hw 27 rfl) e0 (g := (mkF m 1 #[rv xa, iv 0, iv 5, uu, uu, uu] [(.int 5)])) rfl (hb hby d6_1) rfl (by decide) (cap := 5) (by decide) (by decide) (by decide) (by decide)
  rw [← g1] at A1 st
  have K := K.ext E1
  have V_o1 : Arv Z h o1 k1 .byte (5 : Int32) [(.int (0 : Int32)), (.int (0 : Int32)), (.int (0 : Int32)), (.int (0 : Int32)), (.int (0 : Int32))] (.int (0 : Int32)) := (Arv.new A1 (by decide)).pad (pad_rep [] (.int (0 : Int32)) 5)
  refine oWk.to (mkF m 9 #[rv xa, iv 0, iv 5, rv o1, uu, uu] [(.int 5), (.int 0), (.ref o1), (.int 0), (.ref xa)]) (fun _ kt => st _ (zTn X hx hby d6_3 rfl rfl rfl (l' := #[rv xa, iv 0, iv 5, rv o1, uu, uu]) rfl (zA X hx hby d6_4 rfl rfl rfl (zI X hx hby d6_5 rfl rfl (zA X hx hby d6_6 rfl rfl rfl (zK X hx hby d6_7 rfl (zI X hx hby d6_8 rfl rfl kt))))))) ?_
  have V_xa := (V_xa.ext E1)
  have Oh := K.old O0 all0
  obtain ⟨_, T, h, Lc3, X, e0, hQ, st⟩ := (cs0 hw).run X hx hZ hown e0 (A := [(.ref xa), (.int (0 : Int32)), (.ref o1), (.int (0 : Int32)), (.int (5 : Int32))]) rfl (rC5_5 l Z a0 hw [] xa o1 xk k1 xc0 xc1 xc2 xc3 xc4 h Oh (Nat.le_trans O0.1 ge_o1) ne_xa_o1 V_xa V_o1 hc0_ hc1_ hc2_ hc3_ hc4_) (W := 0) (by decide) hml (Ls := #[rv xa, iv 0, iv 5, rv o1, uu, uu]) rfl (rest := []) rfl rfl hby d6_9
  obtain ⟨rfl, K2, V_o1⟩ := hQ
  have K := K.call K2 (allS (Or.inr ge_o1) all0)
  refine oWk.to (mkF m 58 #[rv xa, iv 0, iv 5, rv o1, iv 5, uu] [(.ref o1)]) (fun _ kt => st _ (zS X hx hby d6_12 rfl rfl (l' := #[rv xa, iv 0, iv 5, rv o1, iv 5, uu]) rfl (zJ X hx hby d6_14 rfl rfl (zI X hx hby d6_16 rfl rfl (zY X hx hby d6_17 rfl rfl (teq (by decide)).1 (pc' := 57) rfl (zA X hx hby d6_57 rfl rfl rfl kt)))))) ?_
  exact oRetA X hx hlk hret rfl rfl (hb hby d6_58) (by rw [e0]; exact ⟨o1, k1, rfl, K, ge_o1, V_o1⟩) (by decide) (by decide)
def Q_rCo_5 (Z : State) (xb : Addr) (xk : ClassId) (xy0 xy1 xy2 xy3 xy4 : Int32) (h0 : Heap) (v : Option Value) (h : Heap) (L : List Loc) : Prop := v = some (.int (0 : Int32)) ∧ h = h0 ∧ oKp h0 h [] L
theorem rCo_5 (l : Launch) (Z : State) (a0 : Array Value) (hw : oHW a0 Z) (ws : List Jvm.Cond) (xb : Addr) (xk : ClassId) (xy0 xy1 xy2 xy3 xy4 : Int32) (h0 : Heap) (O0 : Ext Z.heap h0) (V_xb : Arv Z h0 xb xk .byte (5 : Int32) [(.int xy0), (.int xy1), (.int xy2), (.int xy3), (.int xy4)] (.int (0 : Int32))) :
    oCon l Z yy4 jdk_52_method_15_code 2 (some .byte) ws ({ frames := 0, cells := 0, slots := 0, locals := 0 } : Room) #[(.ref xb), (.int (5 : Int32))] h0 (Q_rCo_5 Z xb xk xy0 xy1 xy2 xy3 xy4 h0) := by
  refine oCon.of (plainFor_of_name pn_2) ?_
  intro p e s m below meth c T X hx hby hml hown hnm hret hlk hZ e0
  have hml : c.maxLocals = 2 := hml
  have K : oKp h0 h0 [] [] := oKp.nil _ _
  refine oWk.cast (g' := (mkF m 0 #[rv xb, iv 5] [])) (by first | rfl | (simp [entryFrame, mkF, argsToLocals, Value.category]; done)) ?_
  refine oWk.to (mkF m 8 #[rv xb, iv 5] [(.int 0)]) (fun _ kt => zI X hx hby d8_0 rfl rfl (zA X hx hby d8_1 rfl rfl rfl (oAl X hx hZ e0 V_xb hby d8_2 rfl rfl (XS.isub X.here hx rfl (hb hby d8_3) rfl (zL X hx hby d8_4 rfl (XS.iushr X.here hx rfl (hb hby d8_6) rfl (XS.i2b X.here hx rfl (hb hby d8_7) rfl kt))))))) ?_
  exact oRetN X hx hlk hret (Or.inl rfl) rfl (hb hby d8_8) (by rw [e0]; exact ⟨rfl, rfl, K⟩) (by decide) (by decide)
def Q_rI4_5 (Z : State) (xs xa : Addr) (xk : ClassId) (xz : Int32) (xu xv : Value) (xc0 xc1 xc2 xc3 xc4 : Int32) (h0 : Heap) (v : Option Value) (h : Heap) (L : List Loc) : Prop := ∃ (nb : Addr) (nk : ClassId), v = none ∧ oKp h0 h [xs] L ∧ (Exa Z h xs Y0) ∧ (Fld Z h xs Y0 "coder" "B" (.int (0 : Int32))) ∧ (Fld Z h xs Y0 "value" "[B" (.ref nb)) ∧ (h0.size ≤ nb) ∧ (Arv Z h nb nk .byte (5 : Int32) [(ib xc0), (ib xc1), (ib xc2), (ib xc3), (ib xc4)] (.int (0 : Int32)))
theorem rI4_5 (l : Launch) (Z : State) (a0 : Array Value) (hw : oHW a0 Z) (ws : List Jvm.Cond) (xs xa : Addr) (xk : ClassId) (xz : Int32) (xu xv : Value) (xc0 xc1 xc2 xc3 xc4 : Int32) (h0 : Heap) (O0 : Ext Z.heap h0) (S_COMPACT_STRINGS : Sta Z Z.heap Y0 Y1 "Z" (.int xz)) (hz : ¬ xz = (0 : Int32)) (og_xs : Z.heap.size ≤ xs) (E_xs : Exa Z h0 xs Y0) (F_value_xs : Fld Z h0 xs Y0 "value" "[B" xu) (F_coder_xs : Fld Z h0 xs Y0 "coder" "B" xv) (V_xa : Arv Z h0 xa xk .char (5 : Int32) [(.int xc0), (.int xc1), (.int xc2), (.int xc3), (.int xc4)] (.int (0 : Int32))) (hc0_ : ¬ (255 : Int32) < xc0) (hc1_ : ¬ (255 : Int32) < xc1) (hc2_ : ¬ (255 : Int32) < xc2) (hc3_ : ¬ (255 : Int32) < xc3) (hc4_ : ¬ (255 : Int32) < xc4) :
    oCon l Z yy5 jdk_42_method_149_code 6 none ws ({ frames := 2, cells := 1, slots := 5, locals := 35 } : Room) #[(.ref xs), (.ref xa), (.int (0 : Int32)), (.int (5 : Int32)), .null] h0 (Q_rI4_5 Z xs xa xk xz xu xv xc0 xc1 xc2 xc3 xc4 h0) := by
  refine oCon.of (plainFor_of_name pn_3) ?_
  intro p e s m below meth c T X hx hby hml hown hnm hret hlk hZ e0
  have hml : c.maxLocals = 6 := hml
  have K : oKp h0 h0 [xs] [] := oKp.nil _ _
  refine oWk.cast (g' := (mkF m 0 #[rv xs, rv xa, iv 0, iv 5, .val .null, uu] [])) (by first | rfl | (simp [entryFrame, mkF, argsToLocals, Value.category]; done)) ?_
  refine oWk.st (fun _ kt => zA X hx hby d4_0 rfl rfl rfl kt) ?_
  obtain ⟨T, X, e0, st⟩ := initO X hx hZ hown (oW hw 19 rfl) (oW hw 20 rfl) (oW hw 21 rfl) e0 (g := (mkF m 1 #[rv xs, rv xa, iv 0, iv 5, .val .null, uu] [(.ref xs)])) rfl (by rw [hml]; rfl) rfl (hb hby d4_1) (by decide) (W := 0) (Nat.le_of_eq rfl) (by decide)
  refine oWk.st (fun _ kt => st _ (zI X hx hby d4_4 rfl rfl (zF X hx hby d4_5 rfl rfl ((if0 _ _).trans (feq (by decide)).2) (pc' := 27) rfl kt))) ?_
  have Oh := K.old O0 (allS og_xs all0)
  obtain ⟨T, X, e0, st⟩ := getS2 X hx hZ hown (host := "") (Or.inl (oW hw 22 rfl)) Via.refl e0 (S_COMPACT_STRINGS.ext Oh) (g := (mkF m 27 #[rv xs, rv xa, iv 0, iv 5, .val .null, uu] [])) rfl (hb hby d4_27)
  refine oWk.st (fun _ kt => st _ (zH X hx hby d4_30 rfl rfl ((if0 _ _).trans (feq hz).1) (zA X hx hby d4_33 rfl rfl rfl (zI X hx hby d4_34 rfl rfl (zI X hx hby d4_35 rfl rfl kt))))) ?_
  have lt_xs := E_xs.lt
  have lt_xa := V_xa.lt
  obtain ⟨_, T, h, Lc2, X, e0, hQ, st⟩ := (cs1 hw).run X hx hZ hown e0 (A := [(.ref xa), (.int (0 : Int32)), (.int (5 : Int32))]) rfl (rC3_5 l Z a0 hw [] xa xk xc0 xc1 xc2 xc3 xc4 h0 Oh V_xa hc0_ hc1_ hc2_ hc3_ hc4_) (W := 0) (by decide) hml (Ls := #[rv xs, rv xa, iv 0, iv 5, .val .null, uu]) rfl (rest := []) rfl rfl hby d4_36
  obtain ⟨nb1, nk1, rfl, K1, gn_nb1, V_nb1⟩ := hQ
  have ge_nb1 := Nat.le_trans K.le gn_nb1
  have ne_xs_nb1 : xs ≠ nb1 := Nat.ne_of_lt (Nat.lt_of_lt_of_le lt_xs gn_nb1)
  have ne_xa_nb1 : xa ≠ nb1 := Nat.ne_of_lt (Nat.lt_of_lt_of_le lt_xa gn_nb1)
  have K := K.call K1 all0
  refine oWk.st (fun _ kt => st _ (zT X hx hby d4_39 rfl rfl rfl (l' := #[rv xs, rv xa, iv 0, iv 5, .val .null, rv nb1]) rfl (zA X hx hby d4_41 rfl rfl rfl (zB X hx hby d4_42 rfl rfl rfl (zI X hx hby d4_44 rfl rfl kt))))) ?_
  have Oh := K.old O0 (allS og_xs all0)
  obtain ⟨T, L4, X, e0, K, st⟩ := (cs2 hw).pure X hx hZ hown e0 K (A := [(.ref nb1), (.int (5 : Int32))]) rfl (rCo_5 l Z a0 hw [] nb1 nk1 (xc0.toInt8.toInt32) (xc1.toInt8.toInt32) (xc2.toInt8.toInt32) (xc3.toInt8.toInt32) (xc4.toInt8.toInt32) h Oh V_nb1) (fun _ _ _ q => q) (W := 1) (by decide) hml (Ls := #[rv xs, rv xa, iv 0, iv 5, .val .null, rv nb1]) rfl (rest := [(.ref xs)]) rfl rfl hby d4_45
  refine oWk.st (fun _ kt => st _ kt) ?_
  have E_xs := (E_xs.keep K1.1)
  have F_coder_xs := (F_coder_xs.keep K1.1 nin0)
  obtain ⟨T, h, X, e0, W5, st⟩ := putFN X hx hZ hown (oW hw 34 rfl) Via.refl e0 F_coder_xs E_xs (Or.inr ⟨(oW hw 35 rfl), rfl, hnm⟩) (oW hw 10 rfl) (ty := .byte) (v' := .int (0 : Int32)) (by decide) rfl (by decide) (g := (mkF m 48 #[rv xs, rv xa, iv 0, iv 5, .val .null, rv nb1] [(.int 0), (.ref xs)])) rfl rfl (hb hby d4_48)
  have K := K.wr W5 (Or.inl (List.mem_of_getElem? (i := 0) rfl))
  have F_coder_xs := F_coder_xs.same W5
  refine oWk.st (fun _ kt => st _ (zA X hx hby d4_51 rfl rfl rfl (zB X hx hby d4_52 rfl rfl rfl kt))) ?_
  have E_xs := (E_xs.wr W5)
  have F_value_xs := ((F_value_xs.keep K1.1 nin0).other W5 (Or.inr (slot_ne (Or.inr (oW hw 37 rfl)) (Or.inr (oW hw 35 rfl)) (by decide) (t := (.array .byte)) (t' := .byte) (by decide) (by decide))))
  obtain ⟨T, h, X, e0, W6, st⟩ := putF X hx hZ hown (host := "") (Or.inl (oW hw 36 rfl)) Via.refl e0 F_value_xs E_xs (Or.inr ⟨(oW hw 37 rfl), rfl, hnm⟩) (oW hw 10 rfl) (ty := (.array .byte)) (by decide) rfl rfl (g := (mkF m 54 #[rv xs, rv xa, iv 0, iv 5, .val .null, rv nb1] [(.ref nb1), (.ref xs)])) rfl rfl (hb hby d4_54)
  have K := K.wr W6 (Or.inl (List.mem_of_getElem? (i := 0) rfl))
  have F_value_xs := F_value_xs.same W6
  refine oWk.to (mkF m 57 #[rv xs, rv xa, iv 0, iv 5, .val .null, rv nb1] []) (fun _ kt => st _ kt) ?_
  have E_xs := (E_xs.wr W6)
  have F_coder_xs := (F_coder_xs.other W6 (Or.inr (slot_ne (Or.inr (oW hw 35 rfl)) (Or.inr (oW hw 37 rfl)) (by decide) (t := .byte) (t' := (.array .byte)) (by decide) (by decide))))
  have V_nb1 := ((V_nb1.other W5 (Ne.symm ne_xs_nb1)).other W6 (Ne.symm ne_xs_nb1))
  exact oRetV X hx hlk hret (hb hby d4_57) (by rw [e0]; exact ⟨nb1, nk1, rfl, K, E_xs, F_coder_xs, F_value_xs, ge_nb1, V_nb1⟩) (by decide) (by decide)
def Q_rI1_5 (Z : State) (xs xa : Addr) (xk : ClassId) (xz : Int32) (xu xv : Value) (xc0 xc1 xc2 xc3 xc4 : Int32) (h0 : Heap) (v : Option Value) (h : Heap) (L : List Loc) : Prop := ∃ (nb : Addr) (nk : ClassId), v = none ∧ oKp h0 h [xs] L ∧ (Exa Z h xs Y0) ∧ (Fld Z h xs Y0 "coder" "B" (.int (0 : Int32))) ∧ (Fld Z h xs Y0 "value" "[B" (.ref nb)) ∧ (h0.size ≤ nb) ∧ (Arv Z h nb nk .byte (5 : Int32) [(ib xc0), (ib xc1), (ib xc2), (ib xc3), (ib xc4)] (.int (0 : Int32)))
theorem rI1_5 (l : Launch) (Z : State) (a0 : Array Value) (hw : oHW a0 Z) (ws : List Jvm.Cond) (xs xa : Addr) (xk : ClassId) (xz : Int32) (xu xv : Value) (xc0 xc1 xc2 xc3 xc4 : Int32) (h0 : Heap) (O0 : Ext Z.heap h0) (S_COMPACT_STRINGS : Sta Z Z.heap Y0 Y1 "Z" (.int xz)) (hz : ¬ xz = (0 : Int32)) (og_xs : Z.heap.size ≤ xs) (E_xs : Exa Z h0 xs Y0) (F_value_xs : Fld Z h0 xs Y0 "value" "[B" xu) (F_coder_xs : Fld Z h0 xs Y0 "coder" "B" xv) (V_xa : Arv Z h0 xa xk .char (5 : Int32) [(.int xc0), (.int xc1), (.int xc2), (.int xc3), (.int xc4)] (.int (0 : Int32))) (hc0_ : ¬ (255 : Int32) < xc0) (hc1_ : ¬ (255 : Int32) < xc1) (hc2_ : ¬ (255 : Int32) < xc2) (hc3_ : ¬ (255 : Int32) < xc3) (hc4_ : ¬ (255 : Int32) < xc4) :
    oCon l Z yy6 jdk_42_method_3_code 2 none ws ({ frames := 3, cells := 1, slots := 5, locals := 52 } : Room) #[(.ref xs), (.ref xa)] h0 (Q_rI1_5 Z xs xa xk xz xu xv xc0 xc1 xc2 xc3 xc4 h0) := by
  refine oCon.of (plainFor_of_name pn_3) ?_
  intro p e s m below meth c T X hx hby hml hown hnm hret hlk hZ e0
  have hml : c.maxLocals = 2 := hml
  have K : oKp h0 h0 [xs] [] := oKp.nil _ _
  refine oWk.cast (g' := (mkF m 0 #[rv xs, rv xa] [])) (by first | rfl | (simp [entryFrame, mkF, argsToLocals, Value.category]; done)) ?_
  refine oWk.st (fun _ kt => zA X hx hby d3_0 rfl rfl rfl (zA X hx hby d3_1 rfl rfl rfl (zK X hx hby d3_2 rfl (zA X hx hby d3_3 rfl rfl rfl (oAl X hx hZ e0 V_xa hby d3_4 rfl rfl (XS.aconstNull X.here hx rfl (hb hby d3_5) kt)))))) ?_
  have lt_xs := E_xs.lt
  have lt_xa := V_xa.lt
  have Oh := K.old O0 (allS og_xs all0)
  obtain ⟨_, T, h, Lc3, X, e0, hQ, st⟩ := (cs3 hw).run X hx hZ hown e0 (A := [(.ref xs), (.ref xa), (.int (0 : Int32)), (.int (5 : Int32)), .null]) ⟨rfl, _, _, rfl⟩ (rI4_5 l Z a0 hw [] xs xa xk xz xu xv xc0 xc1 xc2 xc3 xc4 h0 Oh S_COMPACT_STRINGS hz og_xs E_xs F_value_xs F_coder_xs V_xa hc0_ hc1_ hc2_ hc3_ hc4_) (W := 0) (by decide) hml (Ls := #[rv xs, rv xa]) rfl (rest := []) rfl rfl hby d3_6
  obtain ⟨nb2, nk2, rfl, K2, E_xs, F_coder_xs, F_value_xs, gn_nb2, V_nb2⟩ := hQ
  have ge_nb2 := Nat.le_trans K.le gn_nb2
  have ne_xs_nb2 : xs ≠ nb2 := Nat.ne_of_lt (Nat.lt_of_lt_of_le lt_xs gn_nb2)
  have ne_xa_nb2 : xa ≠ nb2 := Nat.ne_of_lt (Nat.lt_of_lt_of_le lt_xa gn_nb2)
  have K := K.call K2 (allS (Or.inl (List.mem_of_getElem? (i := 0) rfl)) all0)
  refine oWk.to (mkF m 9 #[rv xs, rv xa] []) (fun _ kt => st _ kt) ?_
  exact oRetV X hx hlk hret (hb hby d3_9) (by rw [e0]; exact ⟨nb2, nk2, rfl, K, E_xs, F_coder_xs, F_value_xs, ge_nb2, V_nb2⟩) (by decide) (by decide)
def Q_rBd_5 (Z : State) (xa : Addr) (xk : ClassId) (xz xc0 xc1 xc2 xc3 xc4 : Int32) (h0 : Heap) (v : Option Value) (h : Heap) (L : List Loc) : Prop := ∃ (nr : Addr) (nb : Addr) (nk : ClassId), v = some (.ref nr) ∧ oKp h0 h [] L ∧ (h0.size ≤ nr) ∧ (h0.size ≤ nb) ∧ (Exa Z h nr Y0) ∧ (Fld Z h nr Y0 "coder" "B" (.int (0 : Int32))) ∧ (Fld Z h nr Y0 "value" "[B" (.ref nb)) ∧ (Arv Z h nb nk .byte (5 : Int32) [(ib xc0), (ib xc1), (ib xc2), (ib xc3), (ib xc4)] (.int (0 : Int32)))
theorem d2_124 : decode method_3_code 124 = .ok (.new 7, 3) := by decide +kernel
theorem d2_127 : decode method_3_code 127 = .ok (.dup, 1) := by decide +kernel
theorem d2_128 : decode method_3_code 128 = .ok (.iconst 5, 1) := by decide +kernel
theorem d2_129 : decode method_3_code 129 = .ok (.newarray .char, 2) := by decide +kernel
theorem d2_131 : decode method_3_code 131 = .ok (.dup, 1) := by decide +kernel
theorem d2_132 : decode method_3_code 132 = .ok (.iconst 0, 1) := by decide +kernel
theorem d2_133 : decode method_3_code 133 = .ok (.aload_n 0, 1) := by decide +kernel
theorem d2_134 : decode method_3_code 134 = .ok (.iconst 0, 1) := by decide +kernel
theorem d2_135 : decode method_3_code 135 = .ok (.caload, 1) := by decide +kernel
theorem d2_136 : decode method_3_code 136 = .ok (.castore, 1) := by decide +kernel
theorem d2_137 : decode method_3_code 137 = .ok (.dup, 1) := by decide +kernel
theorem d2_138 : decode method_3_code 138 = .ok (.iconst 1, 1) := by decide +kernel
theorem d2_139 : decode method_3_code 139 = .ok (.aload_n 0, 1) := by decide +kernel
theorem d2_140 : decode method_3_code 140 = .ok (.iconst 1, 1) := by decide +kernel
theorem d2_141 : decode method_3_code 141 = .ok (.caload, 1) := by decide +kernel
theorem d2_142 : decode method_3_code 142 = .ok (.castore, 1) := by decide +kernel
theorem d2_143 : decode method_3_code 143 = .ok (.dup, 1) := by decide +kernel
theorem d2_144 : decode method_3_code 144 = .ok (.iconst 2, 1) := by decide +kernel
theorem d2_145 : decode method_3_code 145 = .ok (.aload_n 0, 1) := by decide +kernel
theorem d2_146 : decode method_3_code 146 = .ok (.iconst 2, 1) := by decide +kernel
theorem d2_147 : decode method_3_code 147 = .ok (.caload, 1) := by decide +kernel
theorem d2_148 : decode method_3_code 148 = .ok (.castore, 1) := by decide +kernel
theorem d2_149 : decode method_3_code 149 = .ok (.dup, 1) := by decide +kernel
theorem d2_150 : decode method_3_code 150 = .ok (.iconst 3, 1) := by decide +kernel
theorem d2_151 : decode method_3_code 151 = .ok (.aload_n 0, 1) := by decide +kernel
theorem d2_152 : decode method_3_code 152 = .ok (.iconst 3, 1) := by decide +kernel
theorem d2_153 : decode method_3_code 153 = .ok (.caload, 1) := by decide +kernel
theorem d2_154 : decode method_3_code 154 = .ok (.castore, 1) := by decide +kernel
theorem d2_155 : decode method_3_code 155 = .ok (.dup, 1) := by decide +kernel
theorem d2_156 : decode method_3_code 156 = .ok (.iconst 4, 1) := by decide +kernel
theorem d2_157 : decode method_3_code 157 = .ok (.aload_n 0, 1) := by decide +kernel
theorem d2_158 : decode method_3_code 158 = .ok (.iconst 4, 1) := by decide +kernel
theorem d2_159 : decode method_3_code 159 = .ok (.caload, 1) := by decide +kernel
theorem d2_160 : decode method_3_code 160 = .ok (.castore, 1) := by decide +kernel
theorem d2_161 : decode method_3_code 161 = .ok (.invokespecial 9, 3) := by decide +kernel
theorem d2_164 : decode method_3_code 164 = .ok (.areturn, 1) := by decide +kernel
theorem rBd_5 (l : Launch) (Z : State) (a0 : Array Value) (hw : oHW a0 Z) (ws : List Jvm.Cond) (xa : Addr) (xk : ClassId) (xz xc0 xc1 xc2 xc3 xc4 : Int32) (h0 : Heap) (O0 : Ext Z.heap h0) (S_COMPACT_STRINGS : Sta Z Z.heap Y0 Y1 "Z" (.int xz)) (hz : ¬ xz = (0 : Int32)) (V_xa : Arv Z h0 xa xk .char (5 : Int32) [(.int xc0), (.int xc1), (.int xc2), (.int xc3), (.int xc4)] (.int (0 : Int32))) (hr0 : 0 ≤ xc0.toInt ∧ xc0.toInt < 256) (hr1 : 0 ≤ xc1.toInt ∧ xc1.toInt < 256) (hr2 : 0 ≤ xc2.toInt ∧ xc2.toInt < 256) (hr3 : 0 ≤ xc3.toInt ∧ xc3.toInt < 256) (hr4 : 0 ≤ xc4.toInt ∧ xc4.toInt < 256) :
    oCon l Z yy7 method_3_code 2 (some (.object Y0)) ws ({ frames := 4, cells := 3, slots := 14, locals := 66 } : Room) #[(.ref xa), (.int (5 : Int32))] h0 (Q_rBd_5 Z xa xk xz xc0 xc1 xc2 xc3 xc4 h0) := by
  refine oCon.of (plainFor_of_name pn_1) ?_
  intro p e s m below meth c T X hx hby hml hown hnm hret hlk hZ e0
  have hml : c.maxLocals = 2 := hml
  have K : oKp h0 h0 [] [] := oKp.nil _ _
  refine oWk.cast (g' := (mkF m 0 #[rv xa, iv 5] [])) (by first | rfl | (simp [entryFrame, mkF, argsToLocals, Value.category]; done)) ?_
  refine oWk.to (mkF m 51 #[rv xa, iv 5] [(.int 5)]) (fun _ kt => zI X hx hby d2_0 rfl rfl (zK X hx hby d2_1 rfl (zY X hx hby d2_2 rfl rfl (feq (by decide)).2 (pc' := 22) rfl (zI X hx hby d2_22 rfl rfl (zK X hx hby d2_23 rfl (zY X hx hby d2_24 rfl rfl (feq (by decide)).2 (pc' := 50) rfl (zI X hx hby d2_50 rfl rfl kt))))))) ?_
  refine oWk.st (fun _ kt => zK X hx hby d2_51 rfl (zY X hx hby d2_52 rfl rfl (feq (by decide)).2 (pc' := 84) rfl (zI X hx hby d2_84 rfl rfl (zK X hx hby d2_85 rfl (zY X hx hby d2_86 rfl rfl (feq (by decide)).2 (pc' := 124) rfl kt))))) ?_
  obtain ⟨o1, g1⟩ : ∃ z, z = h0.size := ⟨_, rfl⟩
  have ne_xa_o1 : xa ≠ o1 := Nat.ne_of_lt (Nat.lt_of_lt_of_le V_xa.lt (Nat.le_of_eq g1.symm))
  have ge_o1 : h0.size ≤ o1 := Nat.le_trans K.le (Nat.le_of_eq g1.symm)
  obtain ⟨T, h, X, e0, E1, A1, D1, -, st⟩ := newO X hx hZ hown (oW hw 9 rfl) (oW hw 10 rfl) (oW hw 11 rfl) e0 (g := (mkF m 124 #[rv xa, iv 5] [])) rfl (hb hby d2_124) (by decide) (by decide)
  rw [← g1] at A1 D1 st
  have K := K.ext E1
  have E_o1 := A1
  have F_coder_o1 : Fld Z h o1 Y0 "coder" "B" (.int (0 : Int32)) := D1 (Or.inr (oW hw 35 rfl)) (ty := .byte) (by decide)
  have F_value_o1 : Fld Z h o1 Y0 "value" "[B" .null := D1 (Or.inr (oW hw 37 rfl)) (ty := (.array .byte)) (by decide)
  refine oWk.st (fun _ kt => st _ (zD X hx hby d2_127 rfl rfl rfl (zK X hx hby d2_128 rfl kt))) ?_
  obtain ⟨o2, g2⟩ : ∃ z, z = h.size := ⟨_, rfl⟩
  have V_xa := (V_xa.ext E1)
  have ne_xa_o2 : xa ≠ o2 := Nat.ne_of_lt (Nat.lt_of_lt_of_le V_xa.lt (Nat.le_of_eq g2.symm))
  have ne_o1_o2 : o1 ≠ o2 := Nat.ne_of_lt (Nat.lt_of_lt_of_le E_o1.lt (Nat.le_of_eq g2.symm))
  have ge_o2 : h0.size ≤ o2 := Nat.le_trans K.le (Nat.le_of_eq g2.symm)
  obtain ⟨T, h, k2, X, e0, E2, A2, st⟩ := newP X hx hZ (oW hw 1 rfl) e0 (g := (mkF m 129 #[rv xa, iv 5] [(.int 5), (.ref o1), (.ref o1)])) rfl (hb hby d2_129) rfl (by decide) (cap := 5) (by decide) (by decide) (by decide) (by decide)
  rw [← g2] at A2 st
  have K := K.ext E2
  have V_o2 : Arv Z h o2 k2 .char (5 : Int32) [(.int (0 : Int32)), (.int (0 : Int32)), (.int (0 : Int32)), (.int (0 : Int32)), (.int (0 : Int32))] (.int (0 : Int32)) := (Arv.new A2 (by decide)).pad (pad_rep [] (.int (0 : Int32)) 5)
  refine oWk.st (fun _ kt => st _ (zD X hx hby d2_131 rfl rfl rfl (zK X hx hby d2_132 rfl (zA X hx hby d2_133 rfl rfl rfl (zK X hx hby d2_134 rfl kt))))) ?_
  have V_xa := (V_xa.ext E2)
  refine oWk.to (mkF m 136 #[rv xa, iv 5] [(.int xc0), (.int 0), (.ref o2), (.ref o2), (.ref o1), (.ref o1)]) (fun _ kt => oLdC X hx hZ e0 V_xa (0 : Int32) (.int xc0) ⟨by decide, by decide⟩ rfl hby d2_135 rfl rfl kt) ?_
  obtain ⟨cl4, Ar4, q4, Sz4, Nn4, Hs4, Ft4⟩ := id V_o2
  have hin4 : ¬ ((0 : Int32) < 0 ∨ cl4.slots.size ≤ ((0 : Int32)).toNatClampNeg) := inb_of Sz4 ⟨by decide, by decide⟩
  obtain ⟨T, h, X, e0, W4, st⟩ := stC X hx hZ e0 Ar4 (j := (0 : Int32)) hin4 (g := (mkF m 136 #[rv xa, iv 5] [(.int xc0), (.int 0), (.ref o2), (.ref o2), (.ref o1), (.ref o1)])) rfl rfl (hb hby d2_136)
  have K := K.wr W4 (Or.inr ge_o2)
  have V_o2 := Arv.set Ar4 q4 Sz4 Nn4 Hs4 Ft4 (fits_nar_char _) W4 0 rfl (Nat.le_of_ble_eq_true rfl)
  rw [show nar .char xc0 = xc0 from oChr hr0] at V_o2
  replace V_o2 : Arv Z h o2 k2 .char (5 : Int32) [(.int xc0), (.int (0 : Int32)), (.int (0 : Int32)), (.int (0 : Int32)), (.int (0 : Int32))] (.int (0 : Int32)) := V_o2
  refine oWk.st (fun _ kt => st _ (zD X hx hby d2_137 rfl rfl rfl (zK X hx hby d2_138 rfl (zA X hx hby d2_139 rfl rfl rfl (zK X hx hby d2_140 rfl kt))))) ?_
  have V_xa := (V_xa.other W4 ne_xa_o2)
  refine oWk.to (mkF m 142 #[rv xa, iv 5] [(.int xc1), (.int 1), (.ref o2), (.ref o2), (.ref o1), (.ref o1)]) (fun _ kt => oLdC X hx hZ e0 V_xa (1 : Int32) (.int xc1) ⟨by decide, by decide⟩ rfl hby d2_141 rfl rfl kt) ?_
  obtain ⟨cl6, Ar6, q6, Sz6, Nn6, Hs6, Ft6⟩ := id V_o2
  have hin6 : ¬ ((1 : Int32) < 0 ∨ cl6.slots.size ≤ ((1 : Int32)).toNatClampNeg) := inb_of Sz6 ⟨by decide, by decide⟩
  obtain ⟨T, h, X, e0, W6, st⟩ := stC X hx hZ e0 Ar6 (j := (1 : Int32)) hin6 (g := (mkF m 142 #[rv xa, iv 5] [(.int xc1), (.int 1), (.ref o2), (.ref o2), (.ref o1), (.ref o1)])) rfl rfl (hb hby d2_142)
  have K := K.wr W6 (Or.inr ge_o2)
  have V_o2 := Arv.set Ar6 q6 Sz6 Nn6 Hs6 Ft6 (fits_nar_char _) W6 1 rfl (Nat.le_of_ble_eq_true rfl)
  rw [show nar .char xc1 = xc1 from oChr hr1] at V_o2
  replace V_o2 : Arv Z h o2 k2 .char (5 : Int32) [(.int xc0), (.int xc1), (.int (0 : Int32)), (.int (0 : Int32)), (.int (0 : Int32))] (.int (0 : Int32)) := V_o2
  refine oWk.st (fun _ kt => st _ (zD X hx hby d2_143 rfl rfl rfl (zK X hx hby d2_144 rfl (zA X hx hby d2_145 rfl rfl rfl (zK X hx hby d2_146 rfl kt))))) ?_
  have V_xa := (V_xa.other W6 ne_xa_o2)
  refine oWk.to (mkF m 148 #[rv xa, iv 5] [(.int xc2), (.int 2), (.ref o2), (.ref o2), (.ref o1), (.ref o1)]) (fun _ kt => oLdC X hx hZ e0 V_xa (2 : Int32) (.int xc2) ⟨by decide, by decide⟩ rfl hby d2_147 rfl rfl kt) ?_
  obtain ⟨cl8, Ar8, q8, Sz8, Nn8, Hs8, Ft8⟩ := id V_o2
  have hin8 : ¬ ((2 : Int32) < 0 ∨ cl8.slots.size ≤ ((2 : Int32)).toNatClampNeg) := inb_of Sz8 ⟨by decide, by decide⟩
  obtain ⟨T, h, X, e0, W8, st⟩ := stC X hx hZ e0 Ar8 (j := (2 : Int32)) hin8 (g := (mkF m 148 #[rv xa, iv 5] [(.int xc2), (.int 2), (.ref o2), (.ref o2), (.ref o1), (.ref o1)])) rfl rfl (hb hby d2_148)
  have K := K.wr W8 (Or.inr ge_o2)
  have V_o2 := Arv.set Ar8 q8 Sz8 Nn8 Hs8 Ft8 (fits_nar_char _) W8 2 rfl (Nat.le_of_ble_eq_true rfl)
  rw [show nar .char xc2 = xc2 from oChr hr2] at V_o2
  replace V_o2 : Arv Z h o2 k2 .char (5 : Int32) [(.int xc0), (.int xc1), (.int xc2), (.int (0 : Int32)), (.int (0 : Int32))] (.int (0 : Int32)) := V_o2
  refine oWk.st (fun _ kt => st _ (zD X hx hby d2_149 rfl rfl rfl (zK X hx hby d2_150 rfl (zA X hx hby d2_151 rfl rfl rfl (zK X hx hby d2_152 rfl kt))))) ?_
  have V_xa := (V_xa.other W8 ne_xa_o2)
  refine oWk.to (mkF m 154 #[rv xa, iv 5] [(.int xc3), (.int 3), (.ref o2), (.ref o2), (.ref o1), (.ref o1)]) (fun _ kt => oLdC X hx hZ e0 V_xa (3 : Int32) (.int xc3) ⟨by decide, by decide⟩ rfl hby d2_153 rfl rfl kt) ?_
  obtain ⟨cl10, Ar10, q10, Sz10, Nn10, Hs10, Ft10⟩ := id V_o2
  have hin10 : ¬ ((3 : Int32) < 0 ∨ cl10.slots.size ≤ ((3 : Int32)).toNatClampNeg) := inb_of Sz10 ⟨by decide, by decide⟩
  obtain ⟨T, h, X, e0, W10, st⟩ := stC X hx hZ e0 Ar10 (j := (3 : Int32)) hin10 (g := (mkF m 154 #[rv xa, iv 5] [(.int xc3), (.int 3), (.ref o2), (.ref o2), (.ref o1), (.ref o1)])) rfl rfl (hb hby d2_154)
  have K := K.wr W10 (Or.inr ge_o2)
  have V_o2 := Arv.set Ar10 q10 Sz10 Nn10 Hs10 Ft10 (fits_nar_char _) W10 3 rfl (Nat.le_of_ble_eq_true rfl)
  rw [show nar .char xc3 = xc3 from oChr hr3] at V_o2
  replace V_o2 : Arv Z h o2 k2 .char (5 : Int32) [(.int xc0), (.int xc1), (.int xc2), (.int xc3), (.int (0 : Int32))] (.int (0 : Int32)) := V_o2
  refine oWk.st (fun _ kt => st _ (zD X hx hby d2_155 rfl rfl rfl (zK X hx hby d2_156 rfl (zA X hx hby d2_157 rfl rfl rfl (zK X hx hby d2_158 rfl kt))))) ?_
  have V_xa := (V_xa.other W10 ne_xa_o2)
  refine oWk.to (mkF m 160 #[rv xa, iv 5] [(.int xc4), (.int 4), (.ref o2), (.ref o2), (.ref o1), (.ref o1)]) (fun _ kt => oLdC X hx hZ e0 V_xa (4 : Int32) (.int xc4) ⟨by decide, by decide⟩ rfl hby d2_159 rfl rfl kt) ?_
  obtain ⟨cl12, Ar12, q12, Sz12, Nn12, Hs12, Ft12⟩ := id V_o2
  have hin12 : ¬ ((4 : Int32) < 0 ∨ cl12.slots.size ≤ ((4 : Int32)).toNatClampNeg) := inb_of Sz12 ⟨by decide, by decide⟩
  obtain ⟨T, h, X, e0, W12, st⟩ := stC X hx hZ e0 Ar12 (j := (4 : Int32)) hin12 (g := (mkF m 160 #[rv xa, iv 5] [(.int xc4), (.int 4), (.ref o2), (.ref o2), (.ref o1), (.ref o1)])) rfl rfl (hb hby d2_160)
  have K := K.wr W12 (Or.inr ge_o2)
  have V_o2 := Arv.set Ar12 q12 Sz12 Nn12 Hs12 Ft12 (fits_nar_char _) W12 4 rfl (Nat.le_of_ble_eq_true rfl)
  rw [show nar .char xc4 = xc4 from oChr hr4] at V_o2
  replace V_o2 : Arv Z h o2 k2 .char (5 : Int32) [(.int xc0), (.int xc1), (.int xc2), (.int xc3), (.int xc4)] (.int (0 : Int32)) := V_o2
  refine oWk.st (fun _ kt => st _ kt) ?_
  have E_o1 := ((((((E_o1.ext E2).wr W4).wr W6).wr W8).wr W10).wr W12)
  have F_value_o1 := ((((((F_value_o1.ext E2).other W4 (Or.inl ne_o1_o2)).other W6 (Or.inl ne_o1_o2)).other W8 (Or.inl ne_o1_o2)).other W10 (Or.inl ne_o1_o2)).other W12 (Or.inl ne_o1_o2))
  have F_coder_o1 := ((((((F_coder_o1.ext E2).other W4 (Or.inl ne_o1_o2)).other W6 (Or.inl ne_o1_o2)).other W8 (Or.inl ne_o1_o2)).other W10 (Or.inl ne_o1_o2)).other W12 (Or.inl ne_o1_o2))
  have V_xa := (V_xa.other W12 ne_xa_o2)
  have lt_xa := V_xa.lt
  have lt_o1 := E_o1.lt
  have lt_o2 := V_o2.lt
  have Oh := K.old O0 all0
  obtain ⟨_, T, h, Lc14, X, e0, hQ, st⟩ := (cs4 hw).run X hx hZ hown e0 (A := [(.ref o1), (.ref o2)]) ⟨rfl, _, _, rfl⟩ (rI1_5 l Z a0 hw [] o1 o2 k2 xz .null (.int (0 : Int32)) xc0 xc1 xc2 xc3 xc4 h Oh S_COMPACT_STRINGS hz (Nat.le_trans O0.1 ge_o1) E_o1 F_value_o1 F_coder_o1 V_o2 (oLe255 hr0) (oLe255 hr1) (oLe255 hr2) (oLe255 hr3) (oLe255 hr4)) (W := 1) (by decide) hml (Ls := #[rv xa, iv 5]) rfl (rest := [(.ref o1)]) rfl rfl hby d2_161
  obtain ⟨nb13, nk13, rfl, K13, E_o1, F_coder_o1, F_value_o1, gn_nb13, V_nb13⟩ := hQ
  have ge_nb13 := Nat.le_trans K.le gn_nb13
  have ne_xa_nb13 : xa ≠ nb13 := Nat.ne_of_lt (Nat.lt_of_lt_of_le lt_xa gn_nb13)
  have ne_o1_nb13 : o1 ≠ nb13 := Nat.ne_of_lt (Nat.lt_of_lt_of_le lt_o1 gn_nb13)
  have ne_o2_nb13 : o2 ≠ nb13 := Nat.ne_of_lt (Nat.lt_of_lt_of_le lt_o2 gn_nb13)
  have K := K.call K13 (allS (Or.inr ge_o1) all0)
  refine oWk.to (mkF m 164 #[rv xa, iv 5] [(.ref o1)]) (fun _ kt => st _ kt) ?_
  exact oRetA X hx hlk hret rfl rfl (hb hby d2_164) (by rw [e0]; exact ⟨o1, nb13, nk13, rfl, K, ge_o1, ge_nb13, E_o1, F_coder_o1, F_value_o1, V_nb13⟩) (by decide) (by decide)
def Q_rMin_0_0 (Z : State)  (h0 : Heap) (v : Option Value) (h : Heap) (L : List Loc) : Prop := v = some (.int (0 : Int32)) ∧ h = h0 ∧ oKp h0 h [] L
abbrev yy8 : MethodName := ⟨"java/lang/Math", "min", "(II)I"⟩
theorem d17_0 : decode jdk_29_method_69_code 0 = .ok (.iload_n 0, 1) := by decide +kernel
theorem d17_1 : decode jdk_29_method_69_code 1 = .ok (.iload_n 1, 1) := by decide +kernel
theorem d17_2 : decode jdk_29_method_69_code 2 = .ok (.if_icmp .gt 7, 3) := by decide +kernel
theorem d17_5 : decode jdk_29_method_69_code 5 = .ok (.iload_n 0, 1) := by decide +kernel
theorem d17_6 : decode jdk_29_method_69_code 6 = .ok (.goto 4, 3) := by decide +kernel
theorem d17_10 : decode jdk_29_method_69_code 10 = .ok (.ireturn, 1) := by decide +kernel
theorem rMin_0_0 (l : Launch) (Z : State) (a0 : Array Value) (hw : oHW a0 Z) (ws : List Jvm.Cond)  (h0 : Heap) (O0 : Ext Z.heap h0)  :
    oCon l Z yy8 jdk_29_method_69_code 2 (some .int) ws ({ frames := 0, cells := 0, slots := 0, locals := 0 } : Room) #[(.int (0 : Int32)), (.int (0 : Int32))] h0 (Q_rMin_0_0 Z  h0) := by
  refine oCon.of (Jvm.Free.JP.mathPlain rfl (by decide +kernel)) ?_
  intro p e s m below meth c T X hx hby hml hown hnm hret hlk hZ e0
  have hml : c.maxLocals = 2 := hml
  have K : oKp h0 h0 [] [] := oKp.nil _ _
  refine oWk.cast (g' := (mkF m 0 #[iv 0, iv 0] [])) (by first | rfl | (simp [entryFrame, mkF, argsToLocals, Value.category]; done)) ?_
  refine oWk.to (mkF m 10 #[iv 0, iv 0] [(.int 0)]) (fun _ kt => zI X hx hby d17_0 rfl rfl (zI X hx hby d17_1 rfl rfl (zN X hx hby d17_2 rfl rfl (flt (by decide)).2.2.1 (zI X hx hby d17_5 rfl rfl (zG X hx hby d17_6 rfl (pc' := 10) rfl kt))))) ?_
  exact oRetI X hx hlk hret (hb hby d17_10) (by rw [e0]; exact ⟨rfl, rfl, K⟩) (by decide) (by decide)
def Q_rLI_1_0 (Z : State) (xb : Addr) (xk : ClassId) (xc0 : Int32) (h0 : Heap) (v : Option Value) (h : Heap) (L : List Loc) : Prop := v = some (.int (0 : Int32)) ∧ h = h0 ∧ oKp h0 h [] L
abbrev yy9 : MethodName := ⟨"java/lang/StringLatin1", "lastIndexOf", "([BII)I"⟩
theorem d15_0 : decode jdk_43_method_27_code 0 = .ok (.iload_n 1, 1) := by decide +kernel
theorem d15_1 : decode jdk_43_method_27_code 1 = .ok (.invokestatic 88, 3) := by decide +kernel
theorem pd_5 : parseMethodDescriptor "(I)Z" = some ⟨[.int], some .boolean⟩ := by decide +kernel
theorem cs5 {a0 : Array Value} {Z : State} (hw : oHW a0 Z) : oCall Z Y5 (.invokestatic 88) yy0 jdk_43_method_4_code 1 (some .boolean) (oRs 1) := oCall.stat (oW hw 71 rfl) (oW hw 72 rfl) (oW hw 69 rfl) (oW hw 73 rfl) (by decide) pd_5
theorem d15_4 : decode jdk_43_method_27_code 4 = .ok (.ifCond .ne 5, 3) := by decide +kernel
theorem d15_9 : decode jdk_43_method_27_code 9 = .ok (.iload_n 2, 1) := by decide +kernel
theorem d15_10 : decode jdk_43_method_27_code 10 = .ok (.aload_n 0, 1) := by decide +kernel
theorem d15_11 : decode jdk_43_method_27_code 11 = .ok (.arraylength, 1) := by decide +kernel
theorem d15_12 : decode jdk_43_method_27_code 12 = .ok (.iconst 1, 1) := by decide +kernel
theorem d15_13 : decode jdk_43_method_27_code 13 = .ok (.isub, 1) := by decide +kernel
theorem d15_14 : decode jdk_43_method_27_code 14 = .ok (.invokestatic 38, 3) := by decide +kernel
theorem pd_6 : parseMethodDescriptor "(II)I" = some ⟨[.int, .int], some .int⟩ := by decide +kernel
theorem cs6 {a0 : Array Value} {Z : State} (hw : oHW a0 Z) : oCall Z Y5 (.invokestatic 38) yy8 jdk_29_method_69_code 2 (some .int) (oRs 2) := oCall.stat (oW hw 74 rfl) (oW hw 75 rfl) (oW hw 76 rfl) (oW hw 77 rfl) (by decide) pd_6
theorem d15_17 : decode jdk_43_method_27_code 17 = .ok (.istore_n 3, 1) := by decide +kernel
theorem d15_18 : decode jdk_43_method_27_code 18 = .ok (.iload_n 3, 1) := by decide +kernel
theorem d15_19 : decode jdk_43_method_27_code 19 = .ok (.ifCond .lt 19, 3) := by decide +kernel
theorem d15_22 : decode jdk_43_method_27_code 22 = .ok (.aload_n 0, 1) := by decide +kernel
theorem d15_23 : decode jdk_43_method_27_code 23 = .ok (.iload_n 3, 1) := by decide +kernel
theorem d15_24 : decode jdk_43_method_27_code 24 = .ok (.baload, 1) := by decide +kernel
theorem d15_25 : decode jdk_43_method_27_code 25 = .ok (.iload_n 1, 1) := by decide +kernel
theorem d15_26 : decode jdk_43_method_27_code 26 = .ok (.i2b, 1) := by decide +kernel
theorem d15_27 : decode jdk_43_method_27_code 27 = .ok (.if_icmp .ne 5, 3) := by decide +kernel
theorem d15_30 : decode jdk_43_method_27_code 30 = .ok (.iload_n 3, 1) := by decide +kernel
theorem d15_31 : decode jdk_43_method_27_code 31 = .ok (.ireturn, 1) := by decide +kernel
theorem rLI_1_0 (l : Launch) (Z : State) (a0 : Array Value) (hw : oHW a0 Z) (ws : List Jvm.Cond) (xb : Addr) (xk : ClassId) (xc0 : Int32) (h0 : Heap) (O0 : Ext Z.heap h0) (V_xb : Arv Z h0 xb xk .byte (1 : Int32) [(ib xc0)] (.int (0 : Int32))) (hu0 : (xc0.toInt8.toInt32) = (58 : Int32)) :
    oCon l Z yy9 jdk_43_method_27_code 4 (some .int) ws ({ frames := 1, cells := 0, slots := 0, locals := 13 } : Room) #[(.ref xb), (.int (58 : Int32)), (.int (0 : Int32))] h0 (Q_rLI_1_0 Z xb xk xc0 h0) := by
  refine oCon.of (plainFor_of_name pn_0) ?_
  intro p e s m below meth c T X hx hby hml hown hnm hret hlk hZ e0
  have hml : c.maxLocals = 4 := hml
  have K : oKp h0 h0 [] [] := oKp.nil _ _
  refine oWk.cast (g' := (mkF m 0 #[rv xb, iv 58, iv 0, uu] [])) (by first | rfl | (simp [entryFrame, mkF, argsToLocals, Value.category]; done)) ?_
  refine oWk.st (fun _ kt => zI X hx hby d15_0 rfl rfl kt) ?_
  have Oh := K.old O0 all0
  obtain ⟨T, L2, X, e0, K, st⟩ := (cs5 hw).pure X hx hZ hown e0 K (A := [(.int (58 : Int32))]) rfl (rCanI l Z a0 hw []  h0 Oh ) (fun _ _ _ q => q) (W := 0) (by decide) hml (Ls := #[rv xb, iv 58, iv 0, uu]) rfl (rest := []) rfl rfl hby d15_1
  refine oWk.to (mkF m 14 #[rv xb, iv 58, iv 0, uu] [(.int 0), (.int 0)]) (fun _ kt => st _ (zF X hx hby d15_4 rfl rfl ((if0 _ _).trans (feq (by decide)).2) (pc' := 9) rfl (zI X hx hby d15_9 rfl rfl (zA X hx hby d15_10 rfl rfl rfl (oAl X hx hZ e0 V_xb hby d15_11 rfl rfl (zK X hx hby d15_12 rfl (XS.isub X.here hx rfl (hb hby d15_13) rfl kt))))))) ?_
  obtain ⟨T, L5, X, e0, K, st⟩ := (cs6 hw).pure X hx hZ hown e0 K (A := [(.int (0 : Int32)), (.int (0 : Int32))]) rfl (rMin_0_0 l Z a0 hw []  h0 Oh ) (fun _ _ _ q => q) (W := 0) (by decide) hml (Ls := #[rv xb, iv 58, iv 0, uu]) rfl (rest := []) rfl rfl hby d15_14
  refine oWk.to (mkF m 25 #[rv xb, iv 58, iv 0, iv 0] [(ib xc0)]) (fun _ kt => st _ (zSn X hx hby d15_17 rfl rfl (l' := #[rv xb, iv 58, iv 0, iv 0]) rfl (zI X hx hby d15_18 rfl rfl (zH X hx hby d15_19 rfl rfl ((if0 _ _).trans (flt (by decide)).1) (zA X hx hby d15_22 rfl rfl rfl (zI X hx hby d15_23 rfl rfl (oLdB X hx hZ e0 V_xb (0 : Int32) (ib xc0) ⟨by decide, by decide⟩ rfl hby d15_24 rfl rfl kt))))))) ?_
  refine oWk.to (mkF m 27 #[rv xb, iv 58, iv 0, iv 0] [(.int 58), (ib xc0)]) (fun _ kt => zI X hx hby d15_25 rfl rfl (XS.i2b X.here hx rfl (hb hby d15_26) rfl kt)) ?_
  refine oWk.to (mkF m 31 #[rv xb, iv 58, iv 0, iv 0] [(.int 0)]) (fun _ kt => zN X hx hby d15_27 rfl rfl (teq hu0).2 (zI X hx hby d15_30 rfl rfl kt)) ?_
  exact oRetI X hx hlk hret (hb hby d15_31) (by rw [e0]; exact ⟨rfl, rfl, K⟩) (by decide) (by decide)
def Q_rIsL (Z : State) (xa : Addr) (xz : Int32) (h0 : Heap) (v : Option Value) (h : Heap) (L : List Loc) : Prop := v = some (.int (1 : Int32)) ∧ h = h0 ∧ oKp h0 h [] L
abbrev yy10 : MethodName := ⟨"java/lang/String", "isLatin1", "()Z"⟩
theorem d14_0 : decode jdk_42_method_154_code 0 = .ok (.getstatic 38, 3) := by decide +kernel
theorem d14_3 : decode jdk_42_method_154_code 3 = .ok (.ifCond .eq 14, 3) := by decide +kernel
theorem d14_6 : decode jdk_42_method_154_code 6 = .ok (.aload_n 0, 1) := by decide +kernel
theorem d14_7 : decode jdk_42_method_154_code 7 = .ok (.getfield 15, 3) := by decide +kernel
theorem d14_10 : decode jdk_42_method_154_code 10 = .ok (.ifCond .ne 7, 3) := by decide +kernel
theorem d14_13 : decode jdk_42_method_154_code 13 = .ok (.iconst 1, 1) := by decide +kernel
theorem d14_14 : decode jdk_42_method_154_code 14 = .ok (.goto 4, 3) := by decide +kernel
theorem d14_18 : decode jdk_42_method_154_code 18 = .ok (.ireturn, 1) := by decide +kernel
theorem rIsL (l : Launch) (Z : State) (a0 : Array Value) (hw : oHW a0 Z) (ws : List Jvm.Cond) (xa : Addr) (xz : Int32) (h0 : Heap) (O0 : Ext Z.heap h0) (S_COMPACT_STRINGS : Sta Z Z.heap Y0 Y1 "Z" (.int xz)) (hz : ¬ xz = (0 : Int32)) (F_coder_xa : Fld Z h0 xa Y0 "coder" "B" (.int (0 : Int32))) :
    oCon l Z yy10 jdk_42_method_154_code 1 (some .boolean) ws ({ frames := 0, cells := 0, slots := 0, locals := 0 } : Room) #[(.ref xa)] h0 (Q_rIsL Z xa xz h0) := by
  refine oCon.of (plainFor_of_name pn_3) ?_
  intro p e s m below meth c T X hx hby hml hown hnm hret hlk hZ e0
  have hml : c.maxLocals = 1 := hml
  have K : oKp h0 h0 [] [] := oKp.nil _ _
  refine oWk.cast (g' := (mkF m 0 #[rv xa] [])) (by first | rfl | (simp [entryFrame, mkF, argsToLocals, Value.category]; done)) ?_
  have Oh := K.old O0 all0
  obtain ⟨T, X, e0, st⟩ := getS2 X hx hZ hown (host := "") (Or.inl (oW hw 22 rfl)) Via.refl e0 (S_COMPACT_STRINGS.ext Oh) (g := (mkF m 0 #[rv xa] [])) rfl (hb hby d14_0)
  refine oWk.st (fun _ kt => st _ (zH X hx hby d14_3 rfl rfl ((if0 _ _).trans (feq hz).1) (zA X hx hby d14_6 rfl rfl rfl kt))) ?_
  obtain ⟨T, X, e0, st⟩ := getF X hx hZ hown (host := "") (Or.inl (oW hw 34 rfl)) Via.refl e0 F_coder_xa (g := (mkF m 7 #[rv xa] [(.ref xa)])) rfl rfl (hb hby d14_7)
  refine oWk.to (mkF m 18 #[rv xa] [(.int 1)]) (fun _ kt => st _ (zH X hx hby d14_10 rfl rfl ((if0 _ _).trans (teq (by decide)).2) (zK X hx hby d14_13 rfl (zG X hx hby d14_14 rfl (pc' := 18) rfl kt)))) ?_
  exact oRetZ X hx hlk hret (hb hby d14_18) (Or.inr rfl) (by rw [e0]; exact ⟨rfl, rfl, K⟩) (by decide) (by decide)
def Q_rCdr (Z : State) (xa : Addr) (xz : Int32) (h0 : Heap) (v : Option Value) (h : Heap) (L : List Loc) : Prop := v = some (.int (0 : Int32)) ∧ h = h0 ∧ oKp h0 h [] L
abbrev yy11 : MethodName := ⟨"java/lang/String", "coder", "()B"⟩
theorem d12_0 : decode jdk_42_method_152_code 0 = .ok (.getstatic 38, 3) := by decide +kernel
theorem d12_3 : decode jdk_42_method_152_code 3 = .ok (.ifCond .eq 10, 3) := by decide +kernel
theorem d12_6 : decode jdk_42_method_152_code 6 = .ok (.aload_n 0, 1) := by decide +kernel
theorem d12_7 : decode jdk_42_method_152_code 7 = .ok (.getfield 15, 3) := by decide +kernel
theorem d12_10 : decode jdk_42_method_152_code 10 = .ok (.goto 4, 3) := by decide +kernel
theorem d12_14 : decode jdk_42_method_152_code 14 = .ok (.ireturn, 1) := by decide +kernel
theorem rCdr (l : Launch) (Z : State) (a0 : Array Value) (hw : oHW a0 Z) (ws : List Jvm.Cond) (xa : Addr) (xz : Int32) (h0 : Heap) (O0 : Ext Z.heap h0) (S_COMPACT_STRINGS : Sta Z Z.heap Y0 Y1 "Z" (.int xz)) (hz : ¬ xz = (0 : Int32)) (F_coder_xa : Fld Z h0 xa Y0 "coder" "B" (.int (0 : Int32))) :
    oCon l Z yy11 jdk_42_method_152_code 1 (some .byte) ws ({ frames := 0, cells := 0, slots := 0, locals := 0 } : Room) #[(.ref xa)] h0 (Q_rCdr Z xa xz h0) := by
  refine oCon.of (plainFor_of_name pn_3) ?_
  intro p e s m below meth c T X hx hby hml hown hnm hret hlk hZ e0
  have hml : c.maxLocals = 1 := hml
  have K : oKp h0 h0 [] [] := oKp.nil _ _
  refine oWk.cast (g' := (mkF m 0 #[rv xa] [])) (by first | rfl | (simp [entryFrame, mkF, argsToLocals, Value.category]; done)) ?_
  have Oh := K.old O0 all0
  obtain ⟨T, X, e0, st⟩ := getS2 X hx hZ hown (host := "") (Or.inl (oW hw 22 rfl)) Via.refl e0 (S_COMPACT_STRINGS.ext Oh) (g := (mkF m 0 #[rv xa] [])) rfl (hb hby d12_0)
  refine oWk.st (fun _ kt => st _ (zH X hx hby d12_3 rfl rfl ((if0 _ _).trans (feq hz).1) (zA X hx hby d12_6 rfl rfl rfl kt))) ?_
  obtain ⟨T, X, e0, st⟩ := getF X hx hZ hown (host := "") (Or.inl (oW hw 34 rfl)) Via.refl e0 F_coder_xa (g := (mkF m 7 #[rv xa] [(.ref xa)])) rfl rfl (hb hby d12_7)
  refine oWk.to (mkF m 14 #[rv xa] [(.int 0)]) (fun _ kt => st _ (zG X hx hby d12_10 rfl (pc' := 14) rfl kt)) ?_
  exact oRetN X hx hlk hret (Or.inl rfl) rfl (hb hby d12_14) (by rw [e0]; exact ⟨rfl, rfl, K⟩) (by decide) (by decide)
def Q_rLn_1 (Z : State) (xa xb : Addr) (xk : ClassId) (xz xc0 : Int32) (h0 : Heap) (v : Option Value) (h : Heap) (L : List Loc) : Prop := v = some (.int (1 : Int32)) ∧ h = h0 ∧ oKp h0 h [] L
abbrev yy12 : MethodName := ⟨"java/lang/String", "length", "()I"⟩
theorem d11_0 : decode jdk_42_method_54_code 0 = .ok (.aload_n 0, 1) := by decide +kernel
theorem d11_1 : decode jdk_42_method_54_code 1 = .ok (.getfield 9, 3) := by decide +kernel
theorem d11_4 : decode jdk_42_method_54_code 4 = .ok (.arraylength, 1) := by decide +kernel
theorem d11_5 : decode jdk_42_method_54_code 5 = .ok (.aload_n 0, 1) := by decide +kernel
theorem d11_6 : decode jdk_42_method_54_code 6 = .ok (.invokevirtual 335, 3) := by decide +kernel
theorem pd_7 : parseMethodDescriptor "()B" = some ⟨[], some .byte⟩ := by decide +kernel
theorem cs7 {a0 : Array Value} {Z : State} (hw : oHW a0 Z) : oCall Z Y0 (.invokevirtual 335) yy11 jdk_42_method_152_code 1 (some .byte) (oRv Z 0 Y0) := oCall.virt (oW hw 52 rfl) (oW hw 53 rfl) (fun _ hZ => notFace_of_selects (args := #[]) (mvT hZ (oW hw 55 rfl))) (oW hw 55 rfl) (oW hw 54 rfl) (oW hw 11 rfl) (oW hw 56 rfl) (by decide) pd_7
theorem d11_9 : decode jdk_42_method_54_code 9 = .ok (.ishr, 1) := by decide +kernel
theorem d11_10 : decode jdk_42_method_54_code 10 = .ok (.ireturn, 1) := by decide +kernel
theorem rLn_1 (l : Launch) (Z : State) (a0 : Array Value) (hw : oHW a0 Z) (ws : List Jvm.Cond) (xa xb : Addr) (xk : ClassId) (xz xc0 : Int32) (h0 : Heap) (O0 : Ext Z.heap h0) (S_COMPACT_STRINGS : Sta Z Z.heap Y0 Y1 "Z" (.int xz)) (hz : ¬ xz = (0 : Int32)) (E_xa : Exa Z h0 xa Y0) (F_coder_xa : Fld Z h0 xa Y0 "coder" "B" (.int (0 : Int32))) (F_value_xa : Fld Z h0 xa Y0 "value" "[B" (.ref xb)) (V_xb : Arv Z h0 xb xk .byte (1 : Int32) [(ib xc0)] (.int (0 : Int32))) :
    oCon l Z yy12 jdk_42_method_54_code 1 (some .int) ws ({ frames := 1, cells := 0, slots := 0, locals := 13 } : Room) #[(.ref xa)] h0 (Q_rLn_1 Z xa xb xk xz xc0 h0) := by
  refine oCon.of (plainFor_of_name pn_3) ?_
  intro p e s m below meth c T X hx hby hml hown hnm hret hlk hZ e0
  have hml : c.maxLocals = 1 := hml
  have K : oKp h0 h0 [] [] := oKp.nil _ _
  refine oWk.cast (g' := (mkF m 0 #[rv xa] [])) (by first | rfl | (simp [entryFrame, mkF, argsToLocals, Value.category]; done)) ?_
  refine oWk.st (fun _ kt => zA X hx hby d11_0 rfl rfl rfl kt) ?_
  obtain ⟨T, X, e0, st⟩ := getF X hx hZ hown (host := "") (Or.inl (oW hw 36 rfl)) Via.refl e0 F_value_xa (g := (mkF m 1 #[rv xa] [(.ref xa)])) rfl rfl (hb hby d11_1)
  refine oWk.st (fun _ kt => st _ (oAl X hx hZ e0 V_xb hby d11_4 rfl rfl (zA X hx hby d11_5 rfl rfl rfl kt))) ?_
  have Oh := K.old O0 all0
  obtain ⟨T, L3, X, e0, K, st⟩ := (cs7 hw).pure X hx hZ hown e0 K (A := [(.ref xa)]) ⟨rfl, _, _, rfl, E_xa⟩ (rCdr l Z a0 hw [] xa xz h0 Oh S_COMPACT_STRINGS hz F_coder_xa) (fun _ _ _ q => q) (W := 1) (by decide) hml (Ls := #[rv xa]) rfl (rest := [(.int (1 : Int32))]) rfl rfl hby d11_6
  refine oWk.to (mkF m 10 #[rv xa] [(.int 1)]) (fun _ kt => st _ (XS.ishr X.here hx rfl (hb hby d11_9) rfl kt)) ?_
  exact oRetI X hx hlk hret (hb hby d11_10) (by rw [e0]; exact ⟨rfl, rfl, K⟩) (by decide) (by decide)
def Q_rLJ_1_0 (Z : State) (xa xb : Addr) (xk : ClassId) (xz xc0 : Int32) (h0 : Heap) (v : Option Value) (h : Heap) (L : List Loc) : Prop := v = some (.int (0 : Int32)) ∧ h = h0 ∧ oKp h0 h [] L
abbrev yy13 : MethodName := ⟨"java/lang/String", "lastIndexOf", "(II)I"⟩
theorem d13_0 : decode jdk_42_method_83_code 0 = .ok (.aload_n 0, 1) := by decide +kernel
theorem d13_1 : decode jdk_42_method_83_code 1 = .ok (.invokevirtual 492, 3) := by decide +kernel
theorem pd_8 : parseMethodDescriptor "()Z" = some ⟨[], some .boolean⟩ := by decide +kernel
theorem cs8 {a0 : Array Value} {Z : State} (hw : oHW a0 Z) : oCall Z Y0 (.invokevirtual 492) yy10 jdk_42_method_154_code 1 (some .boolean) (oRv Z 0 Y0) := oCall.virt (oW hw 62 rfl) (oW hw 63 rfl) (fun _ hZ => notFace_of_selects (args := #[]) (mvT hZ (oW hw 65 rfl))) (oW hw 65 rfl) (oW hw 64 rfl) (oW hw 11 rfl) (oW hw 66 rfl) (by decide) pd_8
theorem d13_4 : decode jdk_42_method_83_code 4 = .ok (.ifCond .eq 15, 3) := by decide +kernel
theorem d13_7 : decode jdk_42_method_83_code 7 = .ok (.aload_n 0, 1) := by decide +kernel
theorem d13_8 : decode jdk_42_method_83_code 8 = .ok (.getfield 9, 3) := by decide +kernel
theorem d13_11 : decode jdk_42_method_83_code 11 = .ok (.iload_n 1, 1) := by decide +kernel
theorem d13_12 : decode jdk_42_method_83_code 12 = .ok (.iload_n 2, 1) := by decide +kernel
theorem d13_13 : decode jdk_42_method_83_code 13 = .ok (.invokestatic 644, 3) := by decide +kernel
theorem pd_9 : parseMethodDescriptor "([BII)I" = some ⟨[(.array .byte), .int, .int], some .int⟩ := by decide +kernel
theorem cs9 {a0 : Array Value} {Z : State} (hw : oHW a0 Z) : oCall Z Y0 (.invokestatic 644) yy9 jdk_43_method_27_code 4 (some .int) (oRs 3) := oCall.stat (oW hw 67 rfl) (oW hw 68 rfl) (oW hw 69 rfl) (oW hw 70 rfl) (by decide) pd_9
theorem d13_16 : decode jdk_42_method_83_code 16 = .ok (.goto 12, 3) := by decide +kernel
theorem d13_28 : decode jdk_42_method_83_code 28 = .ok (.ireturn, 1) := by decide +kernel
theorem rLJ_1_0 (l : Launch) (Z : State) (a0 : Array Value) (hw : oHW a0 Z) (ws : List Jvm.Cond) (xa xb : Addr) (xk : ClassId) (xz xc0 : Int32) (h0 : Heap) (O0 : Ext Z.heap h0) (S_COMPACT_STRINGS : Sta Z Z.heap Y0 Y1 "Z" (.int xz)) (hz : ¬ xz = (0 : Int32)) (E_xa : Exa Z h0 xa Y0) (F_coder_xa : Fld Z h0 xa Y0 "coder" "B" (.int (0 : Int32))) (F_value_xa : Fld Z h0 xa Y0 "value" "[B" (.ref xb)) (V_xb : Arv Z h0 xb xk .byte (1 : Int32) [(ib xc0)] (.int (0 : Int32))) (hu0 : (xc0.toInt8.toInt32) = (58 : Int32)) :
    oCon l Z yy13 jdk_42_method_83_code 3 (some .int) ws ({ frames := 2, cells := 0, slots := 0, locals := 28 } : Room) #[(.ref xa), (.int (58 : Int32)), (.int (0 : Int32))] h0 (Q_rLJ_1_0 Z xa xb xk xz xc0 h0) := by
  refine oCon.of (plainFor_of_name pn_3) ?_
  intro p e s m below meth c T X hx hby hml hown hnm hret hlk hZ e0
  have hml : c.maxLocals = 3 := hml
  have K : oKp h0 h0 [] [] := oKp.nil _ _
  refine oWk.cast (g' := (mkF m 0 #[rv xa, iv 58, iv 0] [])) (by first | rfl | (simp [entryFrame, mkF, argsToLocals, Value.category]; done)) ?_
  refine oWk.st (fun _ kt => zA X hx hby d13_0 rfl rfl rfl kt) ?_
  have Oh := K.old O0 all0
  obtain ⟨T, L2, X, e0, K, st⟩ := (cs8 hw).pure X hx hZ hown e0 K (A := [(.ref xa)]) ⟨rfl, _, _, rfl, E_xa⟩ (rIsL l Z a0 hw [] xa xz h0 Oh S_COMPACT_STRINGS hz F_coder_xa) (fun _ _ _ q => q) (W := 0) (by decide) hml (Ls := #[rv xa, iv 58, iv 0]) rfl (rest := []) rfl rfl hby d13_1
  refine oWk.st (fun _ kt => st _ (zH X hx hby d13_4 rfl rfl ((if0 _ _).trans (feq (by decide)).1) (zA X hx hby d13_7 rfl rfl rfl kt))) ?_
  obtain ⟨T, X, e0, st⟩ := getF X hx hZ hown (host := "") (Or.inl (oW hw 36 rfl)) Via.refl e0 F_value_xa (g := (mkF m 8 #[rv xa, iv 58, iv 0] [(.ref xa)])) rfl rfl (hb hby d13_8)
  refine oWk.st (fun _ kt => st _ (zI X hx hby d13_11 rfl rfl (zI X hx hby d13_12 rfl rfl kt))) ?_
  obtain ⟨T, L4, X, e0, K, st⟩ := (cs9 hw).pure X hx hZ hown e0 K (A := [(.ref xb), (.int (58 : Int32)), (.int (0 : Int32))]) rfl (rLI_1_0 l Z a0 hw [] xb xk xc0 h0 Oh V_xb hu0) (fun _ _ _ q => q) (W := 0) (by decide) hml (Ls := #[rv xa, iv 58, iv 0]) rfl (rest := []) rfl rfl hby d13_13
  refine oWk.to (mkF m 28 #[rv xa, iv 58, iv 0] [(.int 0)]) (fun _ kt => st _ (zG X hx hby d13_16 rfl (pc' := 28) rfl kt)) ?_
  exact oRetI X hx hlk hret (hb hby d13_28) (by rw [e0]; exact ⟨rfl, rfl, K⟩) (by decide) (by decide)
def Q_rLK_1_0 (Z : State) (xa xb : Addr) (xk : ClassId) (xz xc0 : Int32) (h0 : Heap) (v : Option Value) (h : Heap) (L : List Loc) : Prop := v = some (.int (0 : Int32)) ∧ h = h0 ∧ oKp h0 h [] L
abbrev yy14 : MethodName := ⟨"java/lang/String", "lastIndexOf", "(I)I"⟩
theorem d10_0 : decode jdk_42_method_82_code 0 = .ok (.aload_n 0, 1) := by decide +kernel
theorem d10_1 : decode jdk_42_method_82_code 1 = .ok (.iload_n 1, 1) := by decide +kernel
theorem d10_2 : decode jdk_42_method_82_code 2 = .ok (.aload_n 0, 1) := by decide +kernel
theorem d10_3 : decode jdk_42_method_82_code 3 = .ok (.invokevirtual 505, 3) := by decide +kernel
theorem pd_10 : parseMethodDescriptor "()I" = some ⟨[], some .int⟩ := by decide +kernel
theorem cs10 {a0 : Array Value} {Z : State} (hw : oHW a0 Z) : oCall Z Y0 (.invokevirtual 505) yy12 jdk_42_method_54_code 1 (some .int) (oRv Z 0 Y0) := oCall.virt (oW hw 47 rfl) (oW hw 48 rfl) (fun _ hZ => notFace_of_selects (args := #[]) (mvT hZ (oW hw 50 rfl))) (oW hw 50 rfl) (oW hw 49 rfl) (oW hw 11 rfl) (oW hw 51 rfl) (by decide) pd_10
theorem d10_6 : decode jdk_42_method_82_code 6 = .ok (.iconst 1, 1) := by decide +kernel
theorem d10_7 : decode jdk_42_method_82_code 7 = .ok (.isub, 1) := by decide +kernel
theorem d10_8 : decode jdk_42_method_82_code 8 = .ok (.invokevirtual 641, 3) := by decide +kernel
theorem cs11 {a0 : Array Value} {Z : State} (hw : oHW a0 Z) : oCall Z Y0 (.invokevirtual 641) yy13 jdk_42_method_83_code 3 (some .int) (oRv Z 2 Y0) := oCall.virt (oW hw 57 rfl) (oW hw 58 rfl) (fun _ hZ => notFace_of_selects (args := #[]) (mvT hZ (oW hw 60 rfl))) (oW hw 60 rfl) (oW hw 59 rfl) (oW hw 11 rfl) (oW hw 61 rfl) (by decide) pd_6
theorem d10_11 : decode jdk_42_method_82_code 11 = .ok (.ireturn, 1) := by decide +kernel
theorem rLK_1_0 (l : Launch) (Z : State) (a0 : Array Value) (hw : oHW a0 Z) (ws : List Jvm.Cond) (xa xb : Addr) (xk : ClassId) (xz xc0 : Int32) (h0 : Heap) (O0 : Ext Z.heap h0) (S_COMPACT_STRINGS : Sta Z Z.heap Y0 Y1 "Z" (.int xz)) (hz : ¬ xz = (0 : Int32)) (E_xa : Exa Z h0 xa Y0) (F_coder_xa : Fld Z h0 xa Y0 "coder" "B" (.int (0 : Int32))) (F_value_xa : Fld Z h0 xa Y0 "value" "[B" (.ref xb)) (V_xb : Arv Z h0 xb xk .byte (1 : Int32) [(ib xc0)] (.int (0 : Int32))) (hu0 : (xc0.toInt8.toInt32) = (58 : Int32)) :
    oCon l Z yy14 jdk_42_method_82_code 2 (some .int) ws ({ frames := 3, cells := 0, slots := 0, locals := 42 } : Room) #[(.ref xa), (.int (58 : Int32))] h0 (Q_rLK_1_0 Z xa xb xk xz xc0 h0) := by
  refine oCon.of (plainFor_of_name pn_3) ?_
  intro p e s m below meth c T X hx hby hml hown hnm hret hlk hZ e0
  have hml : c.maxLocals = 2 := hml
  have K : oKp h0 h0 [] [] := oKp.nil _ _
  refine oWk.cast (g' := (mkF m 0 #[rv xa, iv 58] [])) (by first | rfl | (simp [entryFrame, mkF, argsToLocals, Value.category]; done)) ?_
  refine oWk.st (fun _ kt => zA X hx hby d10_0 rfl rfl rfl (zI X hx hby d10_1 rfl rfl (zA X hx hby d10_2 rfl rfl rfl kt))) ?_
  have Oh := K.old O0 all0
  obtain ⟨T, L2, X, e0, K, st⟩ := (cs10 hw).pure X hx hZ hown e0 K (A := [(.ref xa)]) ⟨rfl, _, _, rfl, E_xa⟩ (rLn_1 l Z a0 hw [] xa xb xk xz xc0 h0 Oh S_COMPACT_STRINGS hz E_xa F_coder_xa F_value_xa V_xb) (fun _ _ _ q => q) (W := 2) (by decide) hml (Ls := #[rv xa, iv 58]) rfl (rest := [(.int (58 : Int32)), (.ref xa)]) rfl rfl hby d10_3
  refine oWk.st (fun _ kt => st _ (zK X hx hby d10_6 rfl (XS.isub X.here hx rfl (hb hby d10_7) rfl kt))) ?_
  obtain ⟨T, L4, X, e0, K, st⟩ := (cs11 hw).pure X hx hZ hown e0 K (A := [(.ref xa), (.int (58 : Int32)), (.int (0 : Int32))]) ⟨rfl, _, _, rfl, E_xa⟩ (rLJ_1_0 l Z a0 hw [] xa xb xk xz xc0 h0 Oh S_COMPACT_STRINGS hz E_xa F_coder_xa F_value_xa V_xb hu0) (fun _ _ _ q => q) (W := 0) (by decide) hml (Ls := #[rv xa, iv 58]) rfl (rest := []) rfl rfl hby d10_8
  refine oWk.to (mkF m 11 #[rv xa, iv 58] [(.int 0)]) (fun _ kt => st _ kt) ?_
  exact oRetI X hx hlk hret (hb hby d10_11) (by rw [e0]; exact ⟨rfl, rfl, K⟩) (by decide) (by decide)
def Q_rPFt (Z : State) (xi xe xn : Int32) (xfm : Value) (h0 : Heap) (v : Option Value) (h : Heap) (L : List Loc) : Prop := v = some (.int xi) ∧ h = h0 ∧ oKp h0 h [] L
theorem pn_4 : plainName "jdk/internal/util/Preconditions" = true := by first | (simp [plainName, overriddenIn]; done) | decide +kernel
abbrev yy15 : MethodName := ⟨"jdk/internal/util/Preconditions", "checkFromToIndex", "(IIILjava/util/function/BiFunction;)I"⟩
theorem d20_0 : decode jdk_41_method_12_code 0 = .ok (.iload_n 0, 1) := by decide +kernel
theorem d20_1 : decode jdk_41_method_12_code 1 = .ok (.ifCond .lt 13, 3) := by decide +kernel
theorem d20_4 : decode jdk_41_method_12_code 4 = .ok (.iload_n 0, 1) := by decide +kernel
theorem d20_5 : decode jdk_41_method_12_code 5 = .ok (.iload_n 1, 1) := by decide +kernel
theorem d20_6 : decode jdk_41_method_12_code 6 = .ok (.if_icmp .gt 8, 3) := by decide +kernel
theorem d20_9 : decode jdk_41_method_12_code 9 = .ok (.iload_n 1, 1) := by decide +kernel
theorem d20_10 : decode jdk_41_method_12_code 10 = .ok (.iload_n 2, 1) := by decide +kernel
theorem d20_11 : decode jdk_41_method_12_code 11 = .ok (.if_icmp .le 11, 3) := by decide +kernel
theorem d20_22 : decode jdk_41_method_12_code 22 = .ok (.iload_n 0, 1) := by decide +kernel
theorem d20_23 : decode jdk_41_method_12_code 23 = .ok (.ireturn, 1) := by decide +kernel
theorem rPFt (l : Launch) (Z : State) (a0 : Array Value) (hw : oHW a0 Z) (ws : List Jvm.Cond) (xi xe xn : Int32) (xfm : Value) (h0 : Heap) (O0 : Ext Z.heap h0) (hcat : xfm.category = 1) (h1 : ¬ xi < (0 : Int32)) (h2 : ¬ xe < xi) (h3 : ¬ xn < xe) :
    oCon l Z yy15 jdk_41_method_12_code 4 (some .int) ws ({ frames := 0, cells := 0, slots := 0, locals := 0 } : Room) #[(.int xi), (.int xe), (.int xn), xfm] h0 (Q_rPFt Z xi xe xn xfm h0) := by
  refine oCon.of (plainFor_of_name pn_4) ?_
  intro p e s m below meth c T X hx hby hml hown hnm hret hlk hZ e0
  have hml : c.maxLocals = 4 := hml
  have K : oKp h0 h0 [] [] := oKp.nil _ _
  refine oWk.cast (g' := (mkF m 0 #[iv xi, iv xe, iv xn, .val xfm] [])) (by cases xfm <;> first | rfl | exact absurd hcat (by simp [Value.category])) ?_
  refine oWk.to (mkF m 11 #[iv xi, iv xe, iv xn, .val xfm] [(.int xn), (.int xe)]) (fun _ kt => zI X hx hby d20_0 rfl rfl (zH X hx hby d20_1 rfl rfl ((if0 _ _).trans (flt h1).1) (zI X hx hby d20_4 rfl rfl (zI X hx hby d20_5 rfl rfl (zN X hx hby d20_6 rfl rfl (flt h2).2.2.1 (zI X hx hby d20_9 rfl rfl (zI X hx hby d20_10 rfl rfl kt))))))) ?_
  refine oWk.to (mkF m 23 #[iv xi, iv xe, iv xn, .val xfm] [(.int xi)]) (fun _ kt => zY X hx hby d20_11 rfl rfl (flt h3).2.2.2 (pc' := 22) rfl (zI X hx hby d20_22 rfl rfl kt)) ?_
  exact oRetI X hx hlk hret (hb hby d20_23) (by rw [e0]; exact ⟨rfl, rfl, K⟩) (by decide) (by decide)
def Q_rCkB (Z : State) (xi xe xn : Int32) (xfm : Value) (h0 : Heap) (v : Option Value) (h : Heap) (L : List Loc) : Prop := v = none ∧ h = h0 ∧ oKp h0 h [] L
abbrev yy16 : MethodName := ⟨"java/lang/String", "checkBoundsBeginEnd", "(III)V"⟩
theorem d19_0 : decode jdk_42_method_158_code 0 = .ok (.iload_n 0, 1) := by decide +kernel
theorem d19_1 : decode jdk_42_method_158_code 1 = .ok (.iload_n 1, 1) := by decide +kernel
theorem d19_2 : decode jdk_42_method_158_code 2 = .ok (.iload_n 2, 1) := by decide +kernel
theorem d19_3 : decode jdk_42_method_158_code 3 = .ok (.getstatic 1053, 3) := by decide +kernel
theorem d19_6 : decode jdk_42_method_158_code 6 = .ok (.invokestatic 1062, 3) := by decide +kernel
theorem pd_11 : parseMethodDescriptor "(IIILjava/util/function/BiFunction;)I" = some ⟨[.int, .int, .int, (.object "java/util/function/BiFunction")], some .int⟩ := by decide +kernel
theorem cs12 {a0 : Array Value} {Z : State} (hw : oHW a0 Z) : oCall Z Y0 (.invokestatic 1062) yy15 jdk_41_method_12_code 4 (some .int) (oRs 4) := oCall.stat (oW hw 88 rfl) (oW hw 89 rfl) (oW hw 87 rfl) (oW hw 90 rfl) (by decide) pd_11
theorem d19_9 : decode jdk_42_method_158_code 9 = .ok (.pop, 1) := by decide +kernel
theorem d19_10 : decode jdk_42_method_158_code 10 = .ok (.return_, 1) := by decide +kernel
theorem rCkB (l : Launch) (Z : State) (a0 : Array Value) (hw : oHW a0 Z) (ws : List Jvm.Cond) (xi xe xn : Int32) (xfm : Value) (h0 : Heap) (O0 : Ext Z.heap h0) (S_SIOOBE_FORMATTER : Sta Z Z.heap Y2 Y3 Y4 xfm) (hcat : xfm.category = 1) (h1 : ¬ xi < (0 : Int32)) (h2 : ¬ xe < xi) (h3 : ¬ xn < xe) :
    oCon l Z yy16 jdk_42_method_158_code 3 none ws ({ frames := 1, cells := 0, slots := 0, locals := 15 } : Room) #[(.int xi), (.int xe), (.int xn)] h0 (Q_rCkB Z xi xe xn xfm h0) := by
  refine oCon.of (plainFor_of_name pn_3) ?_
  intro p e s m below meth c T X hx hby hml hown hnm hret hlk hZ e0
  have hml : c.maxLocals = 3 := hml
  have K : oKp h0 h0 [] [] := oKp.nil _ _
  refine oWk.cast (g' := (mkF m 0 #[iv xi, iv xe, iv xn] [])) (by first | rfl | (simp [entryFrame, mkF, argsToLocals, Value.category]; done)) ?_
  refine oWk.st (fun _ kt => zI X hx hby d19_0 rfl rfl (zI X hx hby d19_1 rfl rfl (zI X hx hby d19_2 rfl rfl kt))) ?_
  have Oh := K.old O0 all0
  obtain ⟨T, X, e0, st⟩ := getS2 X hx hZ hown (host := "") (Or.inl (oW hw 86 rfl)) Via.refl e0 (S_SIOOBE_FORMATTER.ext Oh) (g := (mkF m 3 #[iv xi, iv xe, iv xn] [(.int xn), (.int xe), (.int xi)])) rfl (hb hby d19_3)
  refine oWk.st (fun _ kt => st _ kt) ?_
  obtain ⟨T, L2, X, e0, K, st⟩ := (cs12 hw).pure X hx hZ hown e0 K (A := [(.int xi), (.int xe), (.int xn), xfm]) rfl (rPFt l Z a0 hw [] xi xe xn xfm h0 Oh hcat h1 h2 h3) (fun _ _ _ q => q) (W := 0) (by decide) hml (Ls := #[iv xi, iv xe, iv xn]) rfl (rest := []) rfl rfl hby d19_6
  refine oWk.to (mkF m 10 #[iv xi, iv xe, iv xn] []) (fun _ kt => st _ (XS.pop X.here hx rfl (hb hby d19_9) rfl rfl kt)) ?_
  exact oRetV X hx hlk hret (hb hby d19_10) (by rw [e0]; exact ⟨rfl, rfl, K⟩) (by decide) (by decide)
def Q_rNS_1_0_0 (Z : State) (xb : Addr) (xk : ClassId) (xc0 : Int32) (h0 : Heap) (v : Option Value) (h : Heap) (L : List Loc) : Prop := ∃ (nr : Addr) (nb : Addr) (nk : ClassId), v = some (.ref nr) ∧ oKp h0 h [] L ∧ (Exa Z h nr Y0) ∧ (Fld Z h nr Y0 "coder" "B" (.int (0 : Int32))) ∧ (Fld Z h nr Y0 "value" "[B" (.ref nb)) ∧ (Arv Z h nb nk .byte (0 : Int32) [] (.int (0 : Int32)))
abbrev yy17 : MethodName := ⟨"java/lang/StringLatin1", "newString", "([BII)Ljava/lang/String;"⟩
theorem d21_0 : decode jdk_43_method_47_code 0 = .ok (.iload_n 2, 1) := by decide +kernel
theorem d21_1 : decode jdk_43_method_47_code 1 = .ok (.ifCond .ne 6, 3) := by decide +kernel
theorem d21_4 : decode jdk_43_method_47_code 4 = .ok (.ldc 151, 2) := by decide +kernel
theorem d21_6 : decode jdk_43_method_47_code 6 = .ok (.areturn, 1) := by decide +kernel
theorem rNS_1_0_0 (l : Launch) (Z : State) (a0 : Array Value) (hw : oHW a0 Z) (ws : List Jvm.Cond) (xb : Addr) (xk : ClassId) (xc0 : Int32) (h0 : Heap) (O0 : Ext Z.heap h0) (V_xb : Arv Z h0 xb xk .byte (1 : Int32) [(ib xc0)] (.int (0 : Int32))) :
    oConH l Z oEL yy17 jdk_43_method_47_code 3 (some (.object Y0)) ws ({ frames := 0, cells := 2, slots := 4, locals := 0 } : Room) #[(.ref xb), (.int (0 : Int32)), (.int (0 : Int32))] h0 [] (Q_rNS_1_0_0 Z xb xk xc0 h0) := by
  refine oConH.of (plainFor_of_name pn_0) ?_
  intro p e s m below meth c T vm X hx hby hml hown hnm hret hlk hZ e0 B hsf
  have hml : c.maxLocals = 3 := hml
  have K : oKp h0 h0 [] [] := oKp.nil _ _
  refine oWk.cast (g' := (mkF m 0 #[rv xb, iv 0, iv 0] [])) (by first | rfl | (simp [entryFrame, mkF, argsToLocals, Value.category]; done)) ?_
  refine oWk.st (fun _ kt => zI X hx hby d21_0 rfl rfl (zH X hx hby d21_1 rfl rfl ((if0 _ _).trans (teq (by decide)).2) kt)) ?_
  obtain ⟨lt1, T, h, lt1b, lt1k, X, e2, E1, hZ, hown, B, C, E_lt1, F_coder_lt1, F_value_lt1, V_lt1b, hne, st⟩ := oLdcR X hx hZ hown (oW hw 94 rfl) (oSA hw) e0 (oELw hw) (List.mem_of_getElem? (i := 0) rfl) B (vs := []) (z := 0) oTx0 (by decide) rfl (g := (mkF m 4 #[rv xb, iv 0, iv 0] [])) rfl (hb hby d21_4) (n := 0) (by decide) (by decide) (by decide) (by decide)
  have e0 := e2
  have K := K.ext E1
  refine oWk.to (mkF m 6 #[rv xb, iv 0, iv 0] [(.ref lt1)]) (fun _ kt => st _ kt) ?_
  exact oRetH X hx hlk hZ (oELw hw) e0 B hret (oNarR rfl rfl) (Or.inr (Or.inr (Or.inr (Or.inr ⟨rfl, rfl, rfl⟩)))) (hb hby d21_6) (by rw [e0]; exact ⟨lt1, lt1b, lt1k, rfl, K, E_lt1, F_coder_lt1, F_value_lt1, V_lt1b⟩) (by decide) (by decide)
def Q_rSub_1_0_0 (Z : State) (xa xb : Addr) (xk : ClassId) (xfm : Value) (xz xc0 : Int32) (h0 : Heap) (v : Option Value) (h : Heap) (L : List Loc) : Prop := ∃ (nr : Addr) (nb : Addr) (nk : ClassId), v = some (.ref nr) ∧ oKp h0 h [] L ∧ (Exa Z h nr Y0) ∧ (Fld Z h nr Y0 "coder" "B" (.int (0 : Int32))) ∧ (Fld Z h nr Y0 "value" "[B" (.ref nb)) ∧ (Arv Z h nb nk .byte (0 : Int32) [] (.int (0 : Int32)))
abbrev yy18 : MethodName := ⟨"java/lang/String", "substring", "(II)Ljava/lang/String;"⟩
theorem d18_0 : decode jdk_42_method_92_code 0 = .ok (.aload_n 0, 1) := by decide +kernel
theorem d18_1 : decode jdk_42_method_92_code 1 = .ok (.invokevirtual 505, 3) := by decide +kernel
theorem d18_4 : decode jdk_42_method_92_code 4 = .ok (.istore_n 3, 1) := by decide +kernel
theorem d18_5 : decode jdk_42_method_92_code 5 = .ok (.iload_n 1, 1) := by decide +kernel
theorem d18_6 : decode jdk_42_method_92_code 6 = .ok (.iload_n 2, 1) := by decide +kernel
theorem d18_7 : decode jdk_42_method_92_code 7 = .ok (.iload_n 3, 1) := by decide +kernel
theorem d18_8 : decode jdk_42_method_92_code 8 = .ok (.invokestatic 521, 3) := by decide +kernel
theorem pd_12 : parseMethodDescriptor "(III)V" = some ⟨[.int, .int, .int], none⟩ := by decide +kernel
theorem cs13 {a0 : Array Value} {Z : State} (hw : oHW a0 Z) : oCall Z Y0 (.invokestatic 521) yy16 jdk_42_method_158_code 3 none (oRs 3) := oCall.stat (oW hw 83 rfl) (oW hw 84 rfl) (oW hw 11 rfl) (oW hw 85 rfl) (by decide) pd_12
theorem d18_11 : decode jdk_42_method_92_code 11 = .ok (.iload_n 1, 1) := by decide +kernel
theorem d18_12 : decode jdk_42_method_92_code 12 = .ok (.ifCond .ne 10, 3) := by decide +kernel
theorem d18_15 : decode jdk_42_method_92_code 15 = .ok (.iload_n 2, 1) := by decide +kernel
theorem d18_16 : decode jdk_42_method_92_code 16 = .ok (.iload_n 3, 1) := by decide +kernel
theorem d18_17 : decode jdk_42_method_92_code 17 = .ok (.if_icmp .ne 5, 3) := by decide +kernel
theorem d18_22 : decode jdk_42_method_92_code 22 = .ok (.iload_n 2, 1) := by decide +kernel
theorem d18_23 : decode jdk_42_method_92_code 23 = .ok (.iload_n 1, 1) := by decide +kernel
theorem d18_24 : decode jdk_42_method_92_code 24 = .ok (.isub, 1) := by decide +kernel
theorem d18_25 : decode jdk_42_method_92_code 25 = .ok (.istore 4, 2) := by decide +kernel
theorem d18_27 : decode jdk_42_method_92_code 27 = .ok (.aload_n 0, 1) := by decide +kernel
theorem d18_28 : decode jdk_42_method_92_code 28 = .ok (.invokevirtual 492, 3) := by decide +kernel
theorem d18_31 : decode jdk_42_method_92_code 31 = .ok (.ifCond .eq 16, 3) := by decide +kernel
theorem d18_34 : decode jdk_42_method_92_code 34 = .ok (.aload_n 0, 1) := by decide +kernel
theorem d18_35 : decode jdk_42_method_92_code 35 = .ok (.getfield 9, 3) := by decide +kernel
theorem d18_38 : decode jdk_42_method_92_code 38 = .ok (.iload_n 1, 1) := by decide +kernel
theorem d18_39 : decode jdk_42_method_92_code 39 = .ok (.iload 4, 2) := by decide +kernel
theorem d18_41 : decode jdk_42_method_92_code 41 = .ok (.invokestatic 685, 3) := by decide +kernel
theorem pd_13 : parseMethodDescriptor "([BII)Ljava/lang/String;" = some ⟨[(.array .byte), .int, .int], some (.object "java/lang/String")⟩ := by decide +kernel
theorem d18_44 : decode jdk_42_method_92_code 44 = .ok (.goto 13, 3) := by decide +kernel
theorem d18_57 : decode jdk_42_method_92_code 57 = .ok (.areturn, 1) := by decide +kernel
theorem rSub_1_0_0 (l : Launch) (Z : State) (a0 : Array Value) (hw : oHW a0 Z) (ws : List Jvm.Cond) (xa xb : Addr) (xk : ClassId) (xfm : Value) (xz xc0 : Int32) (h0 : Heap) (O0 : Ext Z.heap h0) (S_COMPACT_STRINGS : Sta Z Z.heap Y0 Y1 "Z" (.int xz)) (hz : ¬ xz = (0 : Int32)) (S_SIOOBE_FORMATTER : Sta Z Z.heap Y2 Y3 Y4 xfm) (hcat : xfm.category = 1) (E_xa : Exa Z h0 xa Y0) (F_coder_xa : Fld Z h0 xa Y0 "coder" "B" (.int (0 : Int32))) (F_value_xa : Fld Z h0 xa Y0 "value" "[B" (.ref xb)) (V_xb : Arv Z h0 xb xk .byte (1 : Int32) [(ib xc0)] (.int (0 : Int32))) :
    oConH l Z oEL yy18 jdk_42_method_92_code 5 (some (.object Y0)) ws ({ frames := 2, cells := 2, slots := 4, locals := 29 } : Room) #[(.ref xa), (.int (0 : Int32)), (.int (0 : Int32))] h0 [] (Q_rSub_1_0_0 Z xa xb xk xfm xz xc0 h0) := by
  refine oConH.of (plainFor_of_name pn_3) ?_
  intro p e s m below meth c T vm X hx hby hml hown hnm hret hlk hZ e0 B hsf
  have hml : c.maxLocals = 5 := hml
  have K : oKp h0 h0 [] [] := oKp.nil _ _
  refine oWk.cast (g' := (mkF m 0 #[rv xa, iv 0, iv 0, uu, uu] [])) (by first | rfl | (simp [entryFrame, mkF, argsToLocals, Value.category]; done)) ?_
  refine oWk.st (fun _ kt => zA X hx hby d18_0 rfl rfl rfl kt) ?_
  have Oh := K.old O0 all0
  obtain ⟨T, L2, X, e0, K, st⟩ := (cs10 hw).pure X hx hZ hown e0 K (A := [(.ref xa)]) ⟨rfl, _, _, rfl, E_xa⟩ (rLn_1 l Z a0 hw [] xa xb xk xz xc0 h0 Oh S_COMPACT_STRINGS hz E_xa F_coder_xa F_value_xa V_xb) (fun _ _ _ q => q) (W := 0) (by decide) hml (Ls := #[rv xa, iv 0, iv 0, uu, uu]) rfl (rest := []) rfl rfl hby d18_1
  refine oWk.st (fun _ kt => st _ (zSn X hx hby d18_4 rfl rfl (l' := #[rv xa, iv 0, iv 0, iv 1, uu]) rfl (zI X hx hby d18_5 rfl rfl (zI X hx hby d18_6 rfl rfl (zI X hx hby d18_7 rfl rfl kt))))) ?_
  obtain ⟨T, L4, X, e0, K, st⟩ := (cs13 hw).pure X hx hZ hown e0 K (A := [(.int (0 : Int32)), (.int (0 : Int32)), (.int (1 : Int32))]) rfl (rCkB l Z a0 hw [] (0 : Int32) (0 : Int32) (1 : Int32) xfm h0 Oh S_SIOOBE_FORMATTER hcat (by decide) (by decide) (by decide)) (fun _ _ _ q => q) (W := 0) (by decide) hml (Ls := #[rv xa, iv 0, iv 0, iv 1, uu]) rfl (rest := []) rfl rfl hby d18_8
  refine oWk.to (mkF m 23 #[rv xa, iv 0, iv 0, iv 1, uu] [(.int 0)]) (fun _ kt => st _ (zI X hx hby d18_11 rfl rfl (zH X hx hby d18_12 rfl rfl ((if0 _ _).trans (teq (by decide)).2) (zI X hx hby d18_15 rfl rfl (zI X hx hby d18_16 rfl rfl (zY X hx hby d18_17 rfl rfl (feq (by decide)).2 (pc' := 22) rfl (zI X hx hby d18_22 rfl rfl kt))))))) ?_
  refine oWk.st (fun _ kt => zI X hx hby d18_23 rfl rfl (XS.isub X.here hx rfl (hb hby d18_24) rfl (zS X hx hby d18_25 rfl rfl (l' := #[rv xa, iv 0, iv 0, iv 1, iv 0]) rfl (zA X hx hby d18_27 rfl rfl rfl kt)))) ?_
  obtain ⟨T, L6, X, e0, K, st⟩ := (cs8 hw).pure X hx hZ hown e0 K (A := [(.ref xa)]) ⟨rfl, _, _, rfl, E_xa⟩ (rIsL l Z a0 hw [] xa xz h0 Oh S_COMPACT_STRINGS hz F_coder_xa) (fun _ _ _ q => q) (W := 0) (by decide) hml (Ls := #[rv xa, iv 0, iv 0, iv 1, iv 0]) rfl (rest := []) rfl rfl hby d18_28
  refine oWk.st (fun _ kt => st _ (zH X hx hby d18_31 rfl rfl ((if0 _ _).trans (feq (by decide)).1) (zA X hx hby d18_34 rfl rfl rfl kt))) ?_
  obtain ⟨T, X, e0, st⟩ := getF X hx hZ hown (host := "") (Or.inl (oW hw 36 rfl)) Via.refl e0 F_value_xa (g := (mkF m 35 #[rv xa, iv 0, iv 0, iv 1, iv 0] [(.ref xa)])) rfl rfl (hb hby d18_35)
  refine oWk.st (fun _ kt => st _ (zI X hx hby d18_38 rfl rfl (zJ X hx hby d18_39 rfl rfl kt))) ?_
  obtain ⟨_, _, ⟨T, L8, k8, n8⟩, -, X, hS, hgr, ⟨Lc8, hQ, l8, y8, z8, C⟩, st⟩ := callSS X hx (y := yy17) hown (mvT hZ (oW hw 91 rfl)) (mvT hZ (oW hw 92 rfl)) (mvT hZ (oW hw 69 rfl)) (mvT hZ (oW hw 93 rfl)) (by decide) (oBackH (W := 0) (rNS_1_0_0 l Z a0 hw [] xb xk xc0 h0 Oh V_xb) hZ (oW hw 93 rfl) (oW hw 69 rfl) (by decide) (by decide) (oELw hw) B.2.1 all0) (g := (mkF m 41 #[rv xa, iv 0, iv 0, iv 1, iv 0] [(.int 0), (.int 0), (.ref xb)])) rfl (by rw [hml]; rfl) (argsL := [(.ref xb), (.int (0 : Int32)), (.int (0 : Int32))]) (rest := []) (lenOf pd_13 rfl) rfl (Nat.le_of_eq rfl) (hb hby d18_41) (fun _ _ => ⟨rfl, e0, (by decide : 0 + 2 ≤ _), (by decide : 0 + 4 ≤ _)⟩)
  dsimp only [Pt.U, Pt.locs, Pt.cells, Pt.slots] at X l8 y8 z8 st hQ C hS hgr
  subst l8 y8 z8
  have X : Stand p l e _ (s.setVm T.vm) m _ below meth c T _ _ _ := X
  obtain ⟨h, e2⟩ : ∃ z, T.heap = z := ⟨_, rfl⟩
  have B := B.call e0 hS hgr C e2
  obtain ⟨hZ, hown⟩ := oWide hZ hown hS
  rw [e2] at hQ C
  have e0 := e2
  obtain ⟨nr7, nb7, nk7, rfl, K7, E_nr7, F_coder_nr7, F_value_nr7, V_nb7⟩ := hQ
  have K := K.call K7 all0
  refine oWk.to (mkF m 57 #[rv xa, iv 0, iv 0, iv 1, iv 0] [(.ref nr7)]) (fun _ kt => st.trans (zG X hx hby d18_44 rfl (pc' := 57) rfl kt)) ?_
  exact oRetH X hx hlk hZ (oELw hw) e0 B hret (oNarR rfl rfl) (Or.inr (Or.inr (Or.inr (Or.inr ⟨rfl, rfl, rfl⟩)))) (hb hby d18_57) (by rw [e0]; exact ⟨nr7, nb7, nk7, rfl, K, E_nr7, F_coder_nr7, F_value_nr7, V_nb7⟩) (by decide) (by decide)
def Q_rSP_1_0 (Z : State) (xa xb : Addr) (xk : ClassId) (xfm : Value) (xz xc0 : Int32) (h0 : Heap) (v : Option Value) (h : Heap) (L : List Loc) : Prop := ∃ (nr : Addr) (nb : Addr) (nk : ClassId), v = some (.ref nr) ∧ oKp h0 h [] L ∧ (Exa Z h nr Y0) ∧ (Fld Z h nr Y0 "coder" "B" (.int (0 : Int32))) ∧ (Fld Z h nr Y0 "value" "[B" (.ref nb)) ∧ (Arv Z h nb nk .byte (0 : Int32) [] (.int (0 : Int32)))
theorem pn_5 : plainName "com/example/tributary/tributary/Locations" = true := by first | (simp [plainName, overriddenIn]; done) | decide +kernel
abbrev yy19 : MethodName := ⟨"com/example/tributary/tributary/Locations", "sourcePath", "(Ljava/lang/String;)Ljava/lang/String;"⟩
theorem d9_0 : decode prog_3_method_2_code 0 = .ok (.aload_n 0, 1) := by decide +kernel
theorem d9_1 : decode prog_3_method_2_code 1 = .ok (.iconst 0, 1) := by decide +kernel
theorem d9_2 : decode prog_3_method_2_code 2 = .ok (.aload_n 0, 1) := by decide +kernel
theorem d9_3 : decode prog_3_method_2_code 3 = .ok (.bipush 58, 2) := by decide +kernel
theorem d9_5 : decode prog_3_method_2_code 5 = .ok (.invokevirtual 7, 3) := by decide +kernel
theorem pd_14 : parseMethodDescriptor "(I)I" = some ⟨[.int], some .int⟩ := by decide +kernel
theorem cs14 {a0 : Array Value} {Z : State} (hw : oHW a0 Z) : oCall Z Y9 (.invokevirtual 7) yy14 jdk_42_method_82_code 2 (some .int) (oRv Z 1 Y0) := oCall.virt (oW hw 42 rfl) (oW hw 43 rfl) (fun _ hZ => notFace_of_selects (args := #[]) (mvT hZ (oW hw 45 rfl))) (oW hw 45 rfl) (oW hw 44 rfl) (oW hw 11 rfl) (oW hw 46 rfl) (by decide) pd_14
theorem d9_8 : decode prog_3_method_2_code 8 = .ok (.invokevirtual 13, 3) := by decide +kernel
theorem pd_15 : parseMethodDescriptor "(II)Ljava/lang/String;" = some ⟨[.int, .int], some (.object "java/lang/String")⟩ := by decide +kernel
theorem d9_11 : decode prog_3_method_2_code 11 = .ok (.areturn, 1) := by decide +kernel
theorem rSP_1_0 (l : Launch) (Z : State) (a0 : Array Value) (hw : oHW a0 Z) (ws : List Jvm.Cond) (xa xb : Addr) (xk : ClassId) (xfm : Value) (xz xc0 : Int32) (h0 : Heap) (O0 : Ext Z.heap h0) (S_COMPACT_STRINGS : Sta Z Z.heap Y0 Y1 "Z" (.int xz)) (hz : ¬ xz = (0 : Int32)) (S_SIOOBE_FORMATTER : Sta Z Z.heap Y2 Y3 Y4 xfm) (hcat : xfm.category = 1) (E_xa : Exa Z h0 xa Y0) (F_coder_xa : Fld Z h0 xa Y0 "coder" "B" (.int (0 : Int32))) (F_value_xa : Fld Z h0 xa Y0 "value" "[B" (.ref xb)) (V_xb : Arv Z h0 xb xk .byte (1 : Int32) [(ib xc0)] (.int (0 : Int32))) (hu0 : (xc0.toInt8.toInt32) = (58 : Int32)) :
    oConH l Z oEL yy19 prog_3_method_2_code 1 (some (.object Y0)) ws ({ frames := 4, cells := 2, slots := 4, locals := 57 } : Room) #[(.ref xa)] h0 [] (Q_rSP_1_0 Z xa xb xk xfm xz xc0 h0) := by
  refine oConH.of (plainFor_of_name pn_5) ?_
  intro p e s m below meth c T vm X hx hby hml hown hnm hret hlk hZ e0 B hsf
  have hml : c.maxLocals = 1 := hml
  have K : oKp h0 h0 [] [] := oKp.nil _ _
  refine oWk.cast (g' := (mkF m 0 #[rv xa] [])) (by first | rfl | (simp [entryFrame, mkF, argsToLocals, Value.category]; done)) ?_
  refine oWk.st (fun _ kt => zA X hx hby d9_0 rfl rfl rfl (zK X hx hby d9_1 rfl (zA X hx hby d9_2 rfl rfl rfl (zL X hx hby d9_3 rfl kt)))) ?_
  have Oh := K.old O0 all0
  obtain ⟨T, L2, X, e0, K, st⟩ := (cs14 hw).pure X hx hZ hown e0 K (A := [(.ref xa), (.int (58 : Int32))]) ⟨rfl, _, _, rfl, E_xa⟩ (rLK_1_0 l Z a0 hw [] xa xb xk xz xc0 h0 Oh S_COMPACT_STRINGS hz E_xa F_coder_xa F_value_xa V_xb hu0) (fun _ _ _ q => q) (W := 2) (by decide) hml (Ls := #[rv xa]) rfl (rest := [(.int (0 : Int32)), (.ref xa)]) rfl rfl hby d9_5
  refine oWk.st (fun _ kt => st _ kt) ?_
  obtain ⟨cq4, kq4, q4a, q4b, q4c⟩ := isOf hZ e0 E_xa
  obtain ⟨_, _, ⟨T, L4, k4, n4⟩, -, X, hS, hgr, ⟨Lc4, hQ, l4, y4, z4, C⟩, st⟩ := X.virtualBackS hx (y := yy18) (z := yy18) hown (mvT hZ (oW hw 78 rfl)) (mvT hZ (oW hw 79 rfl)) (notFace_of_selects (args := #[]) (mvT hZ (oW hw 81 rfl))) (mvT hZ (oW hw 81 rfl)) (mvT hZ (oW hw 80 rfl)) (by decide) (oBackH (W := 0) (rSub_1_0_0 l Z a0 hw [] xa xb xk xfm xz xc0 h0 Oh S_COMPACT_STRINGS hz S_SIOOBE_FORMATTER hcat E_xa F_coder_xa F_value_xa V_xb) hZ (oW hw 82 rfl) (oW hw 11 rfl) (by decide) (by decide) (oELw hw) B.2.1 all0) q4a q4c (g := (mkF m 8 #[rv xa] [(.int 0), (.int 0), (.ref xa)])) rfl (by rw [hml]; rfl) (Steps.refl _) (argsL := [(.int (0 : Int32)), (.int (0 : Int32))]) (rest := []) (lenOf pd_15 rfl) rfl (Nat.le_of_eq rfl) (hb hby d9_8) (fun _ _ => ⟨rfl, e0, (by decide : 0 + 2 ≤ _), (by decide : 0 + 4 ≤ _)⟩)
  dsimp only [Pt.U, Pt.locs, Pt.cells, Pt.slots] at X l4 y4 z4 st hQ C hS hgr
  subst l4 y4 z4
  have X : Stand p l e _ (s.setVm T.vm) m _ below meth c T _ _ _ := X
  obtain ⟨h, e2⟩ : ∃ z, T.heap = z := ⟨_, rfl⟩
  have B := B.call e0 hS hgr C e2
  obtain ⟨hZ, hown⟩ := oWide hZ hown hS
  rw [e2] at hQ C
  have e0 := e2
  obtain ⟨nr3, nb3, nk3, rfl, K3, E_nr3, F_coder_nr3, F_value_nr3, V_nb3⟩ := hQ
  have K := K.call K3 all0
  refine oWk.to (mkF m 11 #[rv xa] [(.ref nr3)]) (fun _ kt => st.trans kt) ?_
  exact oRetH X hx hlk hZ (oELw hw) e0 B hret (oNarR rfl rfl) (Or.inr (Or.inr (Or.inr (Or.inr ⟨rfl, rfl, rfl⟩)))) (hb hby d9_11) (by rw [e0]; exact ⟨nr3, nb3, nk3, rfl, K, E_nr3, F_coder_nr3, F_value_nr3, V_nb3⟩) (by decide) (by decide)
def Q_rMin_1_1 (Z : State)  (h0 : Heap) (v : Option Value) (h : Heap) (L : List Loc) : Prop := v = some (.int (1 : Int32)) ∧ h = h0 ∧ oKp h0 h [] L
theorem rMin_1_1 (l : Launch) (Z : State) (a0 : Array Value) (hw : oHW a0 Z) (ws : List Jvm.Cond)  (h0 : Heap) (O0 : Ext Z.heap h0)  :
    oCon l Z yy8 jdk_29_method_69_code 2 (some .int) ws ({ frames := 0, cells := 0, slots := 0, locals := 0 } : Room) #[(.int (1 : Int32)), (.int (1 : Int32))] h0 (Q_rMin_1_1 Z  h0) := by
  refine oCon.of (Jvm.Free.JP.mathPlain rfl (by decide +kernel)) ?_
  intro p e s m below meth c T X hx hby hml hown hnm hret hlk hZ e0
  have hml : c.maxLocals = 2 := hml
  have K : oKp h0 h0 [] [] := oKp.nil _ _
  refine oWk.cast (g' := (mkF m 0 #[iv 1, iv 1] [])) (by first | rfl | (simp [entryFrame, mkF, argsToLocals, Value.category]; done)) ?_
  refine oWk.to (mkF m 10 #[iv 1, iv 1] [(.int 1)]) (fun _ kt => zI X hx hby d17_0 rfl rfl (zI X hx hby d17_1 rfl rfl (zN X hx hby d17_2 rfl rfl (flt (by decide)).2.2.1 (zI X hx hby d17_5 rfl rfl (zG X hx hby d17_6 rfl (pc' := 10) rfl kt))))) ?_
  exact oRetI X hx hlk hret (hb hby d17_10) (by rw [e0]; exact ⟨rfl, rfl, K⟩) (by decide) (by decide)
def Q_rLI_2_0 (Z : State) (xb : Addr) (xk : ClassId) (xc0 xc1 : Int32) (h0 : Heap) (v : Option Value) (h : Heap) (L : List Loc) : Prop := v = some (.int (0 : Int32)) ∧ h = h0 ∧ oKp h0 h [] L
theorem d15_32 : decode jdk_43_method_27_code 32 = .ok (.iinc 3 (-1), 3) := by decide +kernel
theorem d15_35 : decode jdk_43_method_27_code 35 = .ok (.goto (-17), 3) := by decide +kernel
theorem rLI_2_0 (l : Launch) (Z : State) (a0 : Array Value) (hw : oHW a0 Z) (ws : List Jvm.Cond) (xb : Addr) (xk : ClassId) (xc0 xc1 : Int32) (h0 : Heap) (O0 : Ext Z.heap h0) (V_xb : Arv Z h0 xb xk .byte (2 : Int32) [(ib xc0), (ib xc1)] (.int (0 : Int32))) (hu0 : (xc0.toInt8.toInt32) = (58 : Int32)) (hu1 : ¬ (xc1.toInt8.toInt32) = (58 : Int32)) :
    oCon l Z yy9 jdk_43_method_27_code 4 (some .int) ws ({ frames := 1, cells := 0, slots := 0, locals := 13 } : Room) #[(.ref xb), (.int (58 : Int32)), (.int (1 : Int32))] h0 (Q_rLI_2_0 Z xb xk xc0 xc1 h0) := by
  refine oCon.of (plainFor_of_name pn_0) ?_
  intro p e s m below meth c T X hx hby hml hown hnm hret hlk hZ e0
  have hml : c.maxLocals = 4 := hml
  have K : oKp h0 h0 [] [] := oKp.nil _ _
  refine oWk.cast (g' := (mkF m 0 #[rv xb, iv 58, iv 1, uu] [])) (by first | rfl | (simp [entryFrame, mkF, argsToLocals, Value.category]; done)) ?_
  refine oWk.st (fun _ kt => zI X hx hby d15_0 rfl rfl kt) ?_
  have Oh := K.old O0 all0
  obtain ⟨T, L2, X, e0, K, st⟩ := (cs5 hw).pure X hx hZ hown e0 K (A := [(.int (58 : Int32))]) rfl (rCanI l Z a0 hw []  h0 Oh ) (fun _ _ _ q => q) (W := 0) (by decide) hml (Ls := #[rv xb, iv 58, iv 1, uu]) rfl (rest := []) rfl rfl hby d15_1
  refine oWk.to (mkF m 14 #[rv xb, iv 58, iv 1, uu] [(.int 1), (.int 1)]) (fun _ kt => st _ (zF X hx hby d15_4 rfl rfl ((if0 _ _).trans (feq (by decide)).2) (pc' := 9) rfl (zI X hx hby d15_9 rfl rfl (zA X hx hby d15_10 rfl rfl rfl (oAl X hx hZ e0 V_xb hby d15_11 rfl rfl (zK X hx hby d15_12 rfl (XS.isub X.here hx rfl (hb hby d15_13) rfl kt))))))) ?_
  obtain ⟨T, L5, X, e0, K, st⟩ := (cs6 hw).pure X hx hZ hown e0 K (A := [(.int (1 : Int32)), (.int (1 : Int32))]) rfl (rMin_1_1 l Z a0 hw []  h0 Oh ) (fun _ _ _ q => q) (W := 0) (by decide) hml (Ls := #[rv xb, iv 58, iv 1, uu]) rfl (rest := []) rfl rfl hby d15_14
  refine oWk.to (mkF m 25 #[rv xb, iv 58, iv 1, iv 1] [(ib xc1)]) (fun _ kt => st _ (zSn X hx hby d15_17 rfl rfl (l' := #[rv xb, iv 58, iv 1, iv 1]) rfl (zI X hx hby d15_18 rfl rfl (zH X hx hby d15_19 rfl rfl ((if0 _ _).trans (flt (by decide)).1) (zA X hx hby d15_22 rfl rfl rfl (zI X hx hby d15_23 rfl rfl (oLdB X hx hZ e0 V_xb (1 : Int32) (ib xc1) ⟨by decide, by decide⟩ rfl hby d15_24 rfl rfl kt))))))) ?_
  refine oWk.to (mkF m 27 #[rv xb, iv 58, iv 1, iv 1] [(.int 58), (ib xc1)]) (fun _ kt => zI X hx hby d15_25 rfl rfl (XS.i2b X.here hx rfl (hb hby d15_26) rfl kt)) ?_
  refine oWk.to (mkF m 24 #[rv xb, iv 58, iv 1, iv 0] [(.int 0), (.ref xb)]) (fun _ kt => zY X hx hby d15_27 rfl rfl (feq hu1).2 (pc' := 32) rfl (zC X hx hby d15_32 rfl rfl (l' := #[rv xb, iv 58, iv 1, iv ((1 : Int32) + (-1 : Int32))]) rfl (zG X hx hby d15_35 rfl (pc' := 18) rfl (zI X hx hby d15_18 rfl rfl (zH X hx hby d15_19 rfl rfl ((if0 _ _).trans (flt (by decide)).1) (zA X hx hby d15_22 rfl rfl rfl (zI X hx hby d15_23 rfl rfl kt))))))) ?_
  refine oWk.to (mkF m 27 #[rv xb, iv 58, iv 1, iv 0] [(.int 58), (ib xc0)]) (fun _ kt => oLdB X hx hZ e0 V_xb (0 : Int32) (ib xc0) ⟨by decide, by decide⟩ rfl hby d15_24 rfl rfl (zI X hx hby d15_25 rfl rfl (XS.i2b X.here hx rfl (hb hby d15_26) rfl kt))) ?_
  refine oWk.to (mkF m 31 #[rv xb, iv 58, iv 1, iv 0] [(.int 0)]) (fun _ kt => zN X hx hby d15_27 rfl rfl (teq hu0).2 (zI X hx hby d15_30 rfl rfl kt)) ?_
  exact oRetI X hx hlk hret (hb hby d15_31) (by rw [e0]; exact ⟨rfl, rfl, K⟩) (by decide) (by decide)
def Q_rLn_2 (Z : State) (xa xb : Addr) (xk : ClassId) (xz xc0 xc1 : Int32) (h0 : Heap) (v : Option Value) (h : Heap) (L : List Loc) : Prop := v = some (.int (2 : Int32)) ∧ h = h0 ∧ oKp h0 h [] L
theorem rLn_2 (l : Launch) (Z : State) (a0 : Array Value) (hw : oHW a0 Z) (ws : List Jvm.Cond) (xa xb : Addr) (xk : ClassId) (xz xc0 xc1 : Int32) (h0 : Heap) (O0 : Ext Z.heap h0) (S_COMPACT_STRINGS : Sta Z Z.heap Y0 Y1 "Z" (.int xz)) (hz : ¬ xz = (0 : Int32)) (E_xa : Exa Z h0 xa Y0) (F_coder_xa : Fld Z h0 xa Y0 "coder" "B" (.int (0 : Int32))) (F_value_xa : Fld Z h0 xa Y0 "value" "[B" (.ref xb)) (V_xb : Arv Z h0 xb xk .byte (2 : Int32) [(ib xc0), (ib xc1)] (.int (0 : Int32))) :
    oCon l Z yy12 jdk_42_method_54_code 1 (some .int) ws ({ frames := 1, cells := 0, slots := 0, locals := 13 } : Room) #[(.ref xa)] h0 (Q_rLn_2 Z xa xb xk xz xc0 xc1 h0) := by
  refine oCon.of (plainFor_of_name pn_3) ?_
  intro p e s m below meth c T X hx hby hml hown hnm hret hlk hZ e0
  have hml : c.maxLocals = 1 := hml
  have K : oKp h0 h0 [] [] := oKp.nil _ _
  refine oWk.cast (g' := (mkF m 0 #[rv xa] [])) (by first | rfl | (simp [entryFrame, mkF, argsToLocals, Value.category]; done)) ?_
  refine oWk.st (fun _ kt => zA X hx hby d11_0 rfl rfl rfl kt) ?_
  obtain ⟨T, X, e0, st⟩ := getF X hx hZ hown (host := "") (Or.inl (oW hw 36 rfl)) Via.refl e0 F_value_xa (g := (mkF m 1 #[rv xa] [(.ref xa)])) rfl rfl (hb hby d11_1)
  refine oWk.st (fun _ kt => st _ (oAl X hx hZ e0 V_xb hby d11_4 rfl rfl (zA X hx hby d11_5 rfl rfl rfl kt))) ?_
  have Oh := K.old O0 all0
  obtain ⟨T, L3, X, e0, K, st⟩ := (cs7 hw).pure X hx hZ hown e0 K (A := [(.ref xa)]) ⟨rfl, _, _, rfl, E_xa⟩ (rCdr l Z a0 hw [] xa xz h0 Oh S_COMPACT_STRINGS hz F_coder_xa) (fun _ _ _ q => q) (W := 1) (by decide) hml (Ls := #[rv xa]) rfl (rest := [(.int (2 : Int32))]) rfl rfl hby d11_6
  refine oWk.to (mkF m 10 #[rv xa] [(.int 2)]) (fun _ kt => st _ (XS.ishr X.here hx rfl (hb hby d11_9) rfl kt)) ?_
  exact oRetI X hx hlk hret (hb hby d11_10) (by rw [e0]; exact ⟨rfl, rfl, K⟩) (by decide) (by decide)
def Q_rLJ_2_0 (Z : State) (xa xb : Addr) (xk : ClassId) (xz xc0 xc1 : Int32) (h0 : Heap) (v : Option Value) (h : Heap) (L : List Loc) : Prop := v = some (.int (0 : Int32)) ∧ h = h0 ∧ oKp h0 h [] L
theorem rLJ_2_0 (l : Launch) (Z : State) (a0 : Array Value) (hw : oHW a0 Z) (ws : List Jvm.Cond) (xa xb : Addr) (xk : ClassId) (xz xc0 xc1 : Int32) (h0 : Heap) (O0 : Ext Z.heap h0) (S_COMPACT_STRINGS : Sta Z Z.heap Y0 Y1 "Z" (.int xz)) (hz : ¬ xz = (0 : Int32)) (E_xa : Exa Z h0 xa Y0) (F_coder_xa : Fld Z h0 xa Y0 "coder" "B" (.int (0 : Int32))) (F_value_xa : Fld Z h0 xa Y0 "value" "[B" (.ref xb)) (V_xb : Arv Z h0 xb xk .byte (2 : Int32) [(ib xc0), (ib xc1)] (.int (0 : Int32))) (hu0 : (xc0.toInt8.toInt32) = (58 : Int32)) (hu1 : ¬ (xc1.toInt8.toInt32) = (58 : Int32)) :
    oCon l Z yy13 jdk_42_method_83_code 3 (some .int) ws ({ frames := 2, cells := 0, slots := 0, locals := 28 } : Room) #[(.ref xa), (.int (58 : Int32)), (.int (1 : Int32))] h0 (Q_rLJ_2_0 Z xa xb xk xz xc0 xc1 h0) := by
  refine oCon.of (plainFor_of_name pn_3) ?_
  intro p e s m below meth c T X hx hby hml hown hnm hret hlk hZ e0
  have hml : c.maxLocals = 3 := hml
  have K : oKp h0 h0 [] [] := oKp.nil _ _
  refine oWk.cast (g' := (mkF m 0 #[rv xa, iv 58, iv 1] [])) (by first | rfl | (simp [entryFrame, mkF, argsToLocals, Value.category]; done)) ?_
  refine oWk.st (fun _ kt => zA X hx hby d13_0 rfl rfl rfl kt) ?_
  have Oh := K.old O0 all0
  obtain ⟨T, L2, X, e0, K, st⟩ := (cs8 hw).pure X hx hZ hown e0 K (A := [(.ref xa)]) ⟨rfl, _, _, rfl, E_xa⟩ (rIsL l Z a0 hw [] xa xz h0 Oh S_COMPACT_STRINGS hz F_coder_xa) (fun _ _ _ q => q) (W := 0) (by decide) hml (Ls := #[rv xa, iv 58, iv 1]) rfl (rest := []) rfl rfl hby d13_1
  refine oWk.st (fun _ kt => st _ (zH X hx hby d13_4 rfl rfl ((if0 _ _).trans (feq (by decide)).1) (zA X hx hby d13_7 rfl rfl rfl kt))) ?_
  obtain ⟨T, X, e0, st⟩ := getF X hx hZ hown (host := "") (Or.inl (oW hw 36 rfl)) Via.refl e0 F_value_xa (g := (mkF m 8 #[rv xa, iv 58, iv 1] [(.ref xa)])) rfl rfl (hb hby d13_8)
  refine oWk.st (fun _ kt => st _ (zI X hx hby d13_11 rfl rfl (zI X hx hby d13_12 rfl rfl kt))) ?_
  obtain ⟨T, L4, X, e0, K, st⟩ := (cs9 hw).pure X hx hZ hown e0 K (A := [(.ref xb), (.int (58 : Int32)), (.int (1 : Int32))]) rfl (rLI_2_0 l Z a0 hw [] xb xk xc0 xc1 h0 Oh V_xb hu0 hu1) (fun _ _ _ q => q) (W := 0) (by decide) hml (Ls := #[rv xa, iv 58, iv 1]) rfl (rest := []) rfl rfl hby d13_13
  refine oWk.to (mkF m 28 #[rv xa, iv 58, iv 1] [(.int 0)]) (fun _ kt => st _ (zG X hx hby d13_16 rfl (pc' := 28) rfl kt)) ?_
  exact oRetI X hx hlk hret (hb hby d13_28) (by rw [e0]; exact ⟨rfl, rfl, K⟩) (by decide) (by decide)
def Q_rLK_2_0 (Z : State) (xa xb : Addr) (xk : ClassId) (xz xc0 xc1 : Int32) (h0 : Heap) (v : Option Value) (h : Heap) (L : List Loc) : Prop := v = some (.int (0 : Int32)) ∧ h = h0 ∧ oKp h0 h [] L
theorem rLK_2_0 (l : Launch) (Z : State) (a0 : Array Value) (hw : oHW a0 Z) (ws : List Jvm.Cond) (xa xb : Addr) (xk : ClassId) (xz xc0 xc1 : Int32) (h0 : Heap) (O0 : Ext Z.heap h0) (S_COMPACT_STRINGS : Sta Z Z.heap Y0 Y1 "Z" (.int xz)) (hz : ¬ xz = (0 : Int32)) (E_xa : Exa Z h0 xa Y0) (F_coder_xa : Fld Z h0 xa Y0 "coder" "B" (.int (0 : Int32))) (F_value_xa : Fld Z h0 xa Y0 "value" "[B" (.ref xb)) (V_xb : Arv Z h0 xb xk .byte (2 : Int32) [(ib xc0), (ib xc1)] (.int (0 : Int32))) (hu0 : (xc0.toInt8.toInt32) = (58 : Int32)) (hu1 : ¬ (xc1.toInt8.toInt32) = (58 : Int32)) :
    oCon l Z yy14 jdk_42_method_82_code 2 (some .int) ws ({ frames := 3, cells := 0, slots := 0, locals := 42 } : Room) #[(.ref xa), (.int (58 : Int32))] h0 (Q_rLK_2_0 Z xa xb xk xz xc0 xc1 h0) := by
  refine oCon.of (plainFor_of_name pn_3) ?_
  intro p e s m below meth c T X hx hby hml hown hnm hret hlk hZ e0
  have hml : c.maxLocals = 2 := hml
  have K : oKp h0 h0 [] [] := oKp.nil _ _
  refine oWk.cast (g' := (mkF m 0 #[rv xa, iv 58] [])) (by first | rfl | (simp [entryFrame, mkF, argsToLocals, Value.category]; done)) ?_
  refine oWk.st (fun _ kt => zA X hx hby d10_0 rfl rfl rfl (zI X hx hby d10_1 rfl rfl (zA X hx hby d10_2 rfl rfl rfl kt))) ?_
  have Oh := K.old O0 all0
  obtain ⟨T, L2, X, e0, K, st⟩ := (cs10 hw).pure X hx hZ hown e0 K (A := [(.ref xa)]) ⟨rfl, _, _, rfl, E_xa⟩ (rLn_2 l Z a0 hw [] xa xb xk xz xc0 xc1 h0 Oh S_COMPACT_STRINGS hz E_xa F_coder_xa F_value_xa V_xb) (fun _ _ _ q => q) (W := 2) (by decide) hml (Ls := #[rv xa, iv 58]) rfl (rest := [(.int (58 : Int32)), (.ref xa)]) rfl rfl hby d10_3
  refine oWk.st (fun _ kt => st _ (zK X hx hby d10_6 rfl (XS.isub X.here hx rfl (hb hby d10_7) rfl kt))) ?_
  obtain ⟨T, L4, X, e0, K, st⟩ := (cs11 hw).pure X hx hZ hown e0 K (A := [(.ref xa), (.int (58 : Int32)), (.int (1 : Int32))]) ⟨rfl, _, _, rfl, E_xa⟩ (rLJ_2_0 l Z a0 hw [] xa xb xk xz xc0 xc1 h0 Oh S_COMPACT_STRINGS hz E_xa F_coder_xa F_value_xa V_xb hu0 hu1) (fun _ _ _ q => q) (W := 0) (by decide) hml (Ls := #[rv xa, iv 58]) rfl (rest := []) rfl rfl hby d10_8
  refine oWk.to (mkF m 11 #[rv xa, iv 58] [(.int 0)]) (fun _ kt => st _ kt) ?_
  exact oRetI X hx hlk hret (hb hby d10_11) (by rw [e0]; exact ⟨rfl, rfl, K⟩) (by decide) (by decide)
def Q_rNS_2_0_0 (Z : State) (xb : Addr) (xk : ClassId) (xc0 xc1 : Int32) (h0 : Heap) (v : Option Value) (h : Heap) (L : List Loc) : Prop := ∃ (nr : Addr) (nb : Addr) (nk : ClassId), v = some (.ref nr) ∧ oKp h0 h [] L ∧ (Exa Z h nr Y0) ∧ (Fld Z h nr Y0 "coder" "B" (.int (0 : Int32))) ∧ (Fld Z h nr Y0 "value" "[B" (.ref nb)) ∧ (Arv Z h nb nk .byte (0 : Int32) [] (.int (0 : Int32)))
theorem rNS_2_0_0 (l : Launch) (Z : State) (a0 : Array Value) (hw : oHW a0 Z) (ws : List Jvm.Cond) (xb : Addr) (xk : ClassId) (xc0 xc1 : Int32) (h0 : Heap) (O0 : Ext Z.heap h0) (V_xb : Arv Z h0 xb xk .byte (2 : Int32) [(ib xc0), (ib xc1)] (.int (0 : Int32))) :
    oConH l Z oEL yy17 jdk_43_method_47_code 3 (some (.object Y0)) ws ({ frames := 0, cells := 2, slots := 4, locals := 0 } : Room) #[(.ref xb), (.int (0 : Int32)), (.int (0 : Int32))] h0 [] (Q_rNS_2_0_0 Z xb xk xc0 xc1 h0) := by
  refine oConH.of (plainFor_of_name pn_0) ?_
  intro p e s m below meth c T vm X hx hby hml hown hnm hret hlk hZ e0 B hsf
  have hml : c.maxLocals = 3 := hml
  have K : oKp h0 h0 [] [] := oKp.nil _ _
  refine oWk.cast (g' := (mkF m 0 #[rv xb, iv 0, iv 0] [])) (by first | rfl | (simp [entryFrame, mkF, argsToLocals, Value.category]; done)) ?_
  refine oWk.st (fun _ kt => zI X hx hby d21_0 rfl rfl (zH X hx hby d21_1 rfl rfl ((if0 _ _).trans (teq (by decide)).2) kt)) ?_
  obtain ⟨lt1, T, h, lt1b, lt1k, X, e2, E1, hZ, hown, B, C, E_lt1, F_coder_lt1, F_value_lt1, V_lt1b, hne, st⟩ := oLdcR X hx hZ hown (oW hw 94 rfl) (oSA hw) e0 (oELw hw) (List.mem_of_getElem? (i := 0) rfl) B (vs := []) (z := 0) oTx0 (by decide) rfl (g := (mkF m 4 #[rv xb, iv 0, iv 0] [])) rfl (hb hby d21_4) (n := 0) (by decide) (by decide) (by decide) (by decide)
  have e0 := e2
  have K := K.ext E1
  refine oWk.to (mkF m 6 #[rv xb, iv 0, iv 0] [(.ref lt1)]) (fun _ kt => st _ kt) ?_
  exact oRetH X hx hlk hZ (oELw hw) e0 B hret (oNarR rfl rfl) (Or.inr (Or.inr (Or.inr (Or.inr ⟨rfl, rfl, rfl⟩)))) (hb hby d21_6) (by rw [e0]; exact ⟨lt1, lt1b, lt1k, rfl, K, E_lt1, F_coder_lt1, F_value_lt1, V_lt1b⟩) (by decide) (by decide)
def Q_rSub_2_0_0 (Z : State) (xa xb : Addr) (xk : ClassId) (xfm : Value) (xz xc0 xc1 : Int32) (h0 : Heap) (v : Option Value) (h : Heap) (L : List Loc) : Prop := ∃ (nr : Addr) (nb : Addr) (nk : ClassId), v = some (.ref nr) ∧ oKp h0 h [] L ∧ (Exa Z h nr Y0) ∧ (Fld Z h nr Y0 "coder" "B" (.int (0 : Int32))) ∧ (Fld Z h nr Y0 "value" "[B" (.ref nb)) ∧ (Arv Z h nb nk .byte (0 : Int32) [] (.int (0 : Int32)))
theorem rSub_2_0_0 (l : Launch) (Z : State) (a0 : Array Value) (hw : oHW a0 Z) (ws : List Jvm.Cond) (xa xb : Addr) (xk : ClassId) (xfm : Value) (xz xc0 xc1 : Int32) (h0 : Heap) (O0 : Ext Z.heap h0) (S_COMPACT_STRINGS : Sta Z Z.heap Y0 Y1 "Z" (.int xz)) (hz : ¬ xz = (0 : Int32)) (S_SIOOBE_FORMATTER : Sta Z Z.heap Y2 Y3 Y4 xfm) (hcat : xfm.category = 1) (E_xa : Exa Z h0 xa Y0) (F_coder_xa : Fld Z h0 xa Y0 "coder" "B" (.int (0 : Int32))) (F_value_xa : Fld Z h0 xa Y0 "value" "[B" (.ref xb)) (V_xb : Arv Z h0 xb xk .byte (2 : Int32) [(ib xc0), (ib xc1)] (.int (0 : Int32))) :
    oConH l Z oEL yy18 jdk_42_method_92_code 5 (some (.object Y0)) ws ({ frames := 2, cells := 2, slots := 4, locals := 29 } : Room) #[(.ref xa), (.int (0 : Int32)), (.int (0 : Int32))] h0 [] (Q_rSub_2_0_0 Z xa xb xk xfm xz xc0 xc1 h0) := by
  refine oConH.of (plainFor_of_name pn_3) ?_
  intro p e s m below meth c T vm X hx hby hml hown hnm hret hlk hZ e0 B hsf
  have hml : c.maxLocals = 5 := hml
  have K : oKp h0 h0 [] [] := oKp.nil _ _
  refine oWk.cast (g' := (mkF m 0 #[rv xa, iv 0, iv 0, uu, uu] [])) (by first | rfl | (simp [entryFrame, mkF, argsToLocals, Value.category]; done)) ?_
  refine oWk.st (fun _ kt => zA X hx hby d18_0 rfl rfl rfl kt) ?_
  have Oh := K.old O0 all0
  obtain ⟨T, L2, X, e0, K, st⟩ := (cs10 hw).pure X hx hZ hown e0 K (A := [(.ref xa)]) ⟨rfl, _, _, rfl, E_xa⟩ (rLn_2 l Z a0 hw [] xa xb xk xz xc0 xc1 h0 Oh S_COMPACT_STRINGS hz E_xa F_coder_xa F_value_xa V_xb) (fun _ _ _ q => q) (W := 0) (by decide) hml (Ls := #[rv xa, iv 0, iv 0, uu, uu]) rfl (rest := []) rfl rfl hby d18_1
  refine oWk.st (fun _ kt => st _ (zSn X hx hby d18_4 rfl rfl (l' := #[rv xa, iv 0, iv 0, iv 2, uu]) rfl (zI X hx hby d18_5 rfl rfl (zI X hx hby d18_6 rfl rfl (zI X hx hby d18_7 rfl rfl kt))))) ?_
  obtain ⟨T, L4, X, e0, K, st⟩ := (cs13 hw).pure X hx hZ hown e0 K (A := [(.int (0 : Int32)), (.int (0 : Int32)), (.int (2 : Int32))]) rfl (rCkB l Z a0 hw [] (0 : Int32) (0 : Int32) (2 : Int32) xfm h0 Oh S_SIOOBE_FORMATTER hcat (by decide) (by decide) (by decide)) (fun _ _ _ q => q) (W := 0) (by decide) hml (Ls := #[rv xa, iv 0, iv 0, iv 2, uu]) rfl (rest := []) rfl rfl hby d18_8
  refine oWk.to (mkF m 23 #[rv xa, iv 0, iv 0, iv 2, uu] [(.int 0)]) (fun _ kt => st _ (zI X hx hby d18_11 rfl rfl (zH X hx hby d18_12 rfl rfl ((if0 _ _).trans (teq (by decide)).2) (zI X hx hby d18_15 rfl rfl (zI X hx hby d18_16 rfl rfl (zY X hx hby d18_17 rfl rfl (feq (by decide)).2 (pc' := 22) rfl (zI X hx hby d18_22 rfl rfl kt))))))) ?_
  refine oWk.st (fun _ kt => zI X hx hby d18_23 rfl rfl (XS.isub X.here hx rfl (hb hby d18_24) rfl (zS X hx hby d18_25 rfl rfl (l' := #[rv xa, iv 0, iv 0, iv 2, iv 0]) rfl (zA X hx hby d18_27 rfl rfl rfl kt)))) ?_
  obtain ⟨T, L6, X, e0, K, st⟩ := (cs8 hw).pure X hx hZ hown e0 K (A := [(.ref xa)]) ⟨rfl, _, _, rfl, E_xa⟩ (rIsL l Z a0 hw [] xa xz h0 Oh S_COMPACT_STRINGS hz F_coder_xa) (fun _ _ _ q => q) (W := 0) (by decide) hml (Ls := #[rv xa, iv 0, iv 0, iv 2, iv 0]) rfl (rest := []) rfl rfl hby d18_28
  refine oWk.st (fun _ kt => st _ (zH X hx hby d18_31 rfl rfl ((if0 _ _).trans (feq (by decide)).1) (zA X hx hby d18_34 rfl rfl rfl kt))) ?_
  obtain ⟨T, X, e0, st⟩ := getF X hx hZ hown (host := "") (Or.inl (oW hw 36 rfl)) Via.refl e0 F_value_xa (g := (mkF m 35 #[rv xa, iv 0, iv 0, iv 2, iv 0] [(.ref xa)])) rfl rfl (hb hby d18_35)
  refine oWk.st (fun _ kt => st _ (zI X hx hby d18_38 rfl rfl (zJ X hx hby d18_39 rfl rfl kt))) ?_
  obtain ⟨_, _, ⟨T, L8, k8, n8⟩, -, X, hS, hgr, ⟨Lc8, hQ, l8, y8, z8, C⟩, st⟩ := callSS X hx (y := yy17) hown (mvT hZ (oW hw 91 rfl)) (mvT hZ (oW hw 92 rfl)) (mvT hZ (oW hw 69 rfl)) (mvT hZ (oW hw 93 rfl)) (by decide) (oBackH (W := 0) (rNS_2_0_0 l Z a0 hw [] xb xk xc0 xc1 h0 Oh V_xb) hZ (oW hw 93 rfl) (oW hw 69 rfl) (by decide) (by decide) (oELw hw) B.2.1 all0) (g := (mkF m 41 #[rv xa, iv 0, iv 0, iv 2, iv 0] [(.int 0), (.int 0), (.ref xb)])) rfl (by rw [hml]; rfl) (argsL := [(.ref xb), (.int (0 : Int32)), (.int (0 : Int32))]) (rest := []) (lenOf pd_13 rfl) rfl (Nat.le_of_eq rfl) (hb hby d18_41) (fun _ _ => ⟨rfl, e0, (by decide : 0 + 2 ≤ _), (by decide : 0 + 4 ≤ _)⟩)
  dsimp only [Pt.U, Pt.locs, Pt.cells, Pt.slots] at X l8 y8 z8 st hQ C hS hgr
  subst l8 y8 z8
  have X : Stand p l e _ (s.setVm T.vm) m _ below meth c T _ _ _ := X
  obtain ⟨h, e2⟩ : ∃ z, T.heap = z := ⟨_, rfl⟩
  have B := B.call e0 hS hgr C e2
  obtain ⟨hZ, hown⟩ := oWide hZ hown hS
  rw [e2] at hQ C
  have e0 := e2
  obtain ⟨nr7, nb7, nk7, rfl, K7, E_nr7, F_coder_nr7, F_value_nr7, V_nb7⟩ := hQ
  have K := K.call K7 all0
  refine oWk.to (mkF m 57 #[rv xa, iv 0, iv 0, iv 2, iv 0] [(.ref nr7)]) (fun _ kt => st.trans (zG X hx hby d18_44 rfl (pc' := 57) rfl kt)) ?_
  exact oRetH X hx hlk hZ (oELw hw) e0 B hret (oNarR rfl rfl) (Or.inr (Or.inr (Or.inr (Or.inr ⟨rfl, rfl, rfl⟩)))) (hb hby d18_57) (by rw [e0]; exact ⟨nr7, nb7, nk7, rfl, K, E_nr7, F_coder_nr7, F_value_nr7, V_nb7⟩) (by decide) (by decide)
def Q_rSP_2_0 (Z : State) (xa xb : Addr) (xk : ClassId) (xfm : Value) (xz xc0 xc1 : Int32) (h0 : Heap) (v : Option Value) (h : Heap) (L : List Loc) : Prop := ∃ (nr : Addr) (nb : Addr) (nk : ClassId), v = some (.ref nr) ∧ oKp h0 h [] L ∧ (Exa Z h nr Y0) ∧ (Fld Z h nr Y0 "coder" "B" (.int (0 : Int32))) ∧ (Fld Z h nr Y0 "value" "[B" (.ref nb)) ∧ (Arv Z h nb nk .byte (0 : Int32) [] (.int (0 : Int32)))
theorem rSP_2_0 (l : Launch) (Z : State) (a0 : Array Value) (hw : oHW a0 Z) (ws : List Jvm.Cond) (xa xb : Addr) (xk : ClassId) (xfm : Value) (xz xc0 xc1 : Int32) (h0 : Heap) (O0 : Ext Z.heap h0) (S_COMPACT_STRINGS : Sta Z Z.heap Y0 Y1 "Z" (.int xz)) (hz : ¬ xz = (0 : Int32)) (S_SIOOBE_FORMATTER : Sta Z Z.heap Y2 Y3 Y4 xfm) (hcat : xfm.category = 1) (E_xa : Exa Z h0 xa Y0) (F_coder_xa : Fld Z h0 xa Y0 "coder" "B" (.int (0 : Int32))) (F_value_xa : Fld Z h0 xa Y0 "value" "[B" (.ref xb)) (V_xb : Arv Z h0 xb xk .byte (2 : Int32) [(ib xc0), (ib xc1)] (.int (0 : Int32))) (hu0 : (xc0.toInt8.toInt32) = (58 : Int32)) (hu1 : ¬ (xc1.toInt8.toInt32) = (58 : Int32)) :
    oConH l Z oEL yy19 prog_3_method_2_code 1 (some (.object Y0)) ws ({ frames := 4, cells := 2, slots := 4, locals := 57 } : Room) #[(.ref xa)] h0 [] (Q_rSP_2_0 Z xa xb xk xfm xz xc0 xc1 h0) := by
  refine oConH.of (plainFor_of_name pn_5) ?_
  intro p e s m below meth c T vm X hx hby hml hown hnm hret hlk hZ e0 B hsf
  have hml : c.maxLocals = 1 := hml
  have K : oKp h0 h0 [] [] := oKp.nil _ _
  refine oWk.cast (g' := (mkF m 0 #[rv xa] [])) (by first | rfl | (simp [entryFrame, mkF, argsToLocals, Value.category]; done)) ?_
  refine oWk.st (fun _ kt => zA X hx hby d9_0 rfl rfl rfl (zK X hx hby d9_1 rfl (zA X hx hby d9_2 rfl rfl rfl (zL X hx hby d9_3 rfl kt)))) ?_
  have Oh := K.old O0 all0
  obtain ⟨T, L2, X, e0, K, st⟩ := (cs14 hw).pure X hx hZ hown e0 K (A := [(.ref xa), (.int (58 : Int32))]) ⟨rfl, _, _, rfl, E_xa⟩ (rLK_2_0 l Z a0 hw [] xa xb xk xz xc0 xc1 h0 Oh S_COMPACT_STRINGS hz E_xa F_coder_xa F_value_xa V_xb hu0 hu1) (fun _ _ _ q => q) (W := 2) (by decide) hml (Ls := #[rv xa]) rfl (rest := [(.int (0 : Int32)), (.ref xa)]) rfl rfl hby d9_5
  refine oWk.st (fun _ kt => st _ kt) ?_
  obtain ⟨cq4, kq4, q4a, q4b, q4c⟩ := isOf hZ e0 E_xa
  obtain ⟨_, _, ⟨T, L4, k4, n4⟩, -, X, hS, hgr, ⟨Lc4, hQ, l4, y4, z4, C⟩, st⟩ := X.virtualBackS hx (y := yy18) (z := yy18) hown (mvT hZ (oW hw 78 rfl)) (mvT hZ (oW hw 79 rfl)) (notFace_of_selects (args := #[]) (mvT hZ (oW hw 81 rfl))) (mvT hZ (oW hw 81 rfl)) (mvT hZ (oW hw 80 rfl)) (by decide) (oBackH (W := 0) (rSub_2_0_0 l Z a0 hw [] xa xb xk xfm xz xc0 xc1 h0 Oh S_COMPACT_STRINGS hz S_SIOOBE_FORMATTER hcat E_xa F_coder_xa F_value_xa V_xb) hZ (oW hw 82 rfl) (oW hw 11 rfl) (by decide) (by decide) (oELw hw) B.2.1 all0) q4a q4c (g := (mkF m 8 #[rv xa] [(.int 0), (.int 0), (.ref xa)])) rfl (by rw [hml]; rfl) (Steps.refl _) (argsL := [(.int (0 : Int32)), (.int (0 : Int32))]) (rest := []) (lenOf pd_15 rfl) rfl (Nat.le_of_eq rfl) (hb hby d9_8) (fun _ _ => ⟨rfl, e0, (by decide : 0 + 2 ≤ _), (by decide : 0 + 4 ≤ _)⟩)
  dsimp only [Pt.U, Pt.locs, Pt.cells, Pt.slots] at X l4 y4 z4 st hQ C hS hgr
  subst l4 y4 z4
  have X : Stand p l e _ (s.setVm T.vm) m _ below meth c T _ _ _ := X
  obtain ⟨h, e2⟩ : ∃ z, T.heap = z := ⟨_, rfl⟩
  have B := B.call e0 hS hgr C e2
  obtain ⟨hZ, hown⟩ := oWide hZ hown hS
  rw [e2] at hQ C
  have e0 := e2
  obtain ⟨nr3, nb3, nk3, rfl, K3, E_nr3, F_coder_nr3, F_value_nr3, V_nb3⟩ := hQ
  have K := K.call K3 all0
  refine oWk.to (mkF m 11 #[rv xa] [(.ref nr3)]) (fun _ kt => st.trans kt) ?_
  exact oRetH X hx hlk hZ (oELw hw) e0 B hret (oNarR rfl rfl) (Or.inr (Or.inr (Or.inr (Or.inr ⟨rfl, rfl, rfl⟩)))) (hb hby d9_11) (by rw [e0]; exact ⟨nr3, nb3, nk3, rfl, K, E_nr3, F_coder_nr3, F_value_nr3, V_nb3⟩) (by decide) (by decide)
def Q_rLI_2_1 (Z : State) (xb : Addr) (xk : ClassId) (xc0 xc1 : Int32) (h0 : Heap) (v : Option Value) (h : Heap) (L : List Loc) : Prop := v = some (.int (1 : Int32)) ∧ h = h0 ∧ oKp h0 h [] L
theorem rLI_2_1 (l : Launch) (Z : State) (a0 : Array Value) (hw : oHW a0 Z) (ws : List Jvm.Cond) (xb : Addr) (xk : ClassId) (xc0 xc1 : Int32) (h0 : Heap) (O0 : Ext Z.heap h0) (V_xb : Arv Z h0 xb xk .byte (2 : Int32) [(ib xc0), (ib xc1)] (.int (0 : Int32))) (hu1 : (xc1.toInt8.toInt32) = (58 : Int32)) :
    oCon l Z yy9 jdk_43_method_27_code 4 (some .int) ws ({ frames := 1, cells := 0, slots := 0, locals := 13 } : Room) #[(.ref xb), (.int (58 : Int32)), (.int (1 : Int32))] h0 (Q_rLI_2_1 Z xb xk xc0 xc1 h0) := by
  refine oCon.of (plainFor_of_name pn_0) ?_
  intro p e s m below meth c T X hx hby hml hown hnm hret hlk hZ e0
  have hml : c.maxLocals = 4 := hml
  have K : oKp h0 h0 [] [] := oKp.nil _ _
  refine oWk.cast (g' := (mkF m 0 #[rv xb, iv 58, iv 1, uu] [])) (by first | rfl | (simp [entryFrame, mkF, argsToLocals, Value.category]; done)) ?_
  refine oWk.st (fun _ kt => zI X hx hby d15_0 rfl rfl kt) ?_
  have Oh := K.old O0 all0
  obtain ⟨T, L2, X, e0, K, st⟩ := (cs5 hw).pure X hx hZ hown e0 K (A := [(.int (58 : Int32))]) rfl (rCanI l Z a0 hw []  h0 Oh ) (fun _ _ _ q => q) (W := 0) (by decide) hml (Ls := #[rv xb, iv 58, iv 1, uu]) rfl (rest := []) rfl rfl hby d15_1
  refine oWk.to (mkF m 14 #[rv xb, iv 58, iv 1, uu] [(.int 1), (.int 1)]) (fun _ kt => st _ (zF X hx hby d15_4 rfl rfl ((if0 _ _).trans (feq (by decide)).2) (pc' := 9) rfl (zI X hx hby d15_9 rfl rfl (zA X hx hby d15_10 rfl rfl rfl (oAl X hx hZ e0 V_xb hby d15_11 rfl rfl (zK X hx hby d15_12 rfl (XS.isub X.here hx rfl (hb hby d15_13) rfl kt))))))) ?_
  obtain ⟨T, L5, X, e0, K, st⟩ := (cs6 hw).pure X hx hZ hown e0 K (A := [(.int (1 : Int32)), (.int (1 : Int32))]) rfl (rMin_1_1 l Z a0 hw []  h0 Oh ) (fun _ _ _ q => q) (W := 0) (by decide) hml (Ls := #[rv xb, iv 58, iv 1, uu]) rfl (rest := []) rfl rfl hby d15_14
  refine oWk.to (mkF m 25 #[rv xb, iv 58, iv 1, iv 1] [(ib xc1)]) (fun _ kt => st _ (zSn X hx hby d15_17 rfl rfl (l' := #[rv xb, iv 58, iv 1, iv 1]) rfl (zI X hx hby d15_18 rfl rfl (zH X hx hby d15_19 rfl rfl ((if0 _ _).trans (flt (by decide)).1) (zA X hx hby d15_22 rfl rfl rfl (zI X hx hby d15_23 rfl rfl (oLdB X hx hZ e0 V_xb (1 : Int32) (ib xc1) ⟨by decide, by decide⟩ rfl hby d15_24 rfl rfl kt))))))) ?_
  refine oWk.to (mkF m 27 #[rv xb, iv 58, iv 1, iv 1] [(.int 58), (ib xc1)]) (fun _ kt => zI X hx hby d15_25 rfl rfl (XS.i2b X.here hx rfl (hb hby d15_26) rfl kt)) ?_
  refine oWk.to (mkF m 31 #[rv xb, iv 58, iv 1, iv 1] [(.int 1)]) (fun _ kt => zN X hx hby d15_27 rfl rfl (teq hu1).2 (zI X hx hby d15_30 rfl rfl kt)) ?_
  exact oRetI X hx hlk hret (hb hby d15_31) (by rw [e0]; exact ⟨rfl, rfl, K⟩) (by decide) (by decide)
def Q_rLJ_2_1 (Z : State) (xa xb : Addr) (xk : ClassId) (xz xc0 xc1 : Int32) (h0 : Heap) (v : Option Value) (h : Heap) (L : List Loc) : Prop := v = some (.int (1 : Int32)) ∧ h = h0 ∧ oKp h0 h [] L
theorem rLJ_2_1 (l : Launch) (Z : State) (a0 : Array Value) (hw : oHW a0 Z) (ws : List Jvm.Cond) (xa xb : Addr) (xk : ClassId) (xz xc0 xc1 : Int32) (h0 : Heap) (O0 : Ext Z.heap h0) (S_COMPACT_STRINGS : Sta Z Z.heap Y0 Y1 "Z" (.int xz)) (hz : ¬ xz = (0 : Int32)) (E_xa : Exa Z h0 xa Y0) (F_coder_xa : Fld Z h0 xa Y0 "coder" "B" (.int (0 : Int32))) (F_value_xa : Fld Z h0 xa Y0 "value" "[B" (.ref xb)) (V_xb : Arv Z h0 xb xk .byte (2 : Int32) [(ib xc0), (ib xc1)] (.int (0 : Int32))) (hu1 : (xc1.toInt8.toInt32) = (58 : Int32)) :
    oCon l Z yy13 jdk_42_method_83_code 3 (some .int) ws ({ frames := 2, cells := 0, slots := 0, locals := 28 } : Room) #[(.ref xa), (.int (58 : Int32)), (.int (1 : Int32))] h0 (Q_rLJ_2_1 Z xa xb xk xz xc0 xc1 h0) := by
  refine oCon.of (plainFor_of_name pn_3) ?_
  intro p e s m below meth c T X hx hby hml hown hnm hret hlk hZ e0
  have hml : c.maxLocals = 3 := hml
  have K : oKp h0 h0 [] [] := oKp.nil _ _
  refine oWk.cast (g' := (mkF m 0 #[rv xa, iv 58, iv 1] [])) (by first | rfl | (simp [entryFrame, mkF, argsToLocals, Value.category]; done)) ?_
  refine oWk.st (fun _ kt => zA X hx hby d13_0 rfl rfl rfl kt) ?_
  have Oh := K.old O0 all0
  obtain ⟨T, L2, X, e0, K, st⟩ := (cs8 hw).pure X hx hZ hown e0 K (A := [(.ref xa)]) ⟨rfl, _, _, rfl, E_xa⟩ (rIsL l Z a0 hw [] xa xz h0 Oh S_COMPACT_STRINGS hz F_coder_xa) (fun _ _ _ q => q) (W := 0) (by decide) hml (Ls := #[rv xa, iv 58, iv 1]) rfl (rest := []) rfl rfl hby d13_1
  refine oWk.st (fun _ kt => st _ (zH X hx hby d13_4 rfl rfl ((if0 _ _).trans (feq (by decide)).1) (zA X hx hby d13_7 rfl rfl rfl kt))) ?_
  obtain ⟨T, X, e0, st⟩ := getF X hx hZ hown (host := "") (Or.inl (oW hw 36 rfl)) Via.refl e0 F_value_xa (g := (mkF m 8 #[rv xa, iv 58, iv 1] [(.ref xa)])) rfl rfl (hb hby d13_8)
  refine oWk.st (fun _ kt => st _ (zI X hx hby d13_11 rfl rfl (zI X hx hby d13_12 rfl rfl kt))) ?_
  obtain ⟨T, L4, X, e0, K, st⟩ := (cs9 hw).pure X hx hZ hown e0 K (A := [(.ref xb), (.int (58 : Int32)), (.int (1 : Int32))]) rfl (rLI_2_1 l Z a0 hw [] xb xk xc0 xc1 h0 Oh V_xb hu1) (fun _ _ _ q => q) (W := 0) (by decide) hml (Ls := #[rv xa, iv 58, iv 1]) rfl (rest := []) rfl rfl hby d13_13
  refine oWk.to (mkF m 28 #[rv xa, iv 58, iv 1] [(.int 1)]) (fun _ kt => st _ (zG X hx hby d13_16 rfl (pc' := 28) rfl kt)) ?_
  exact oRetI X hx hlk hret (hb hby d13_28) (by rw [e0]; exact ⟨rfl, rfl, K⟩) (by decide) (by decide)
def Q_rLK_2_1 (Z : State) (xa xb : Addr) (xk : ClassId) (xz xc0 xc1 : Int32) (h0 : Heap) (v : Option Value) (h : Heap) (L : List Loc) : Prop := v = some (.int (1 : Int32)) ∧ h = h0 ∧ oKp h0 h [] L
theorem rLK_2_1 (l : Launch) (Z : State) (a0 : Array Value) (hw : oHW a0 Z) (ws : List Jvm.Cond) (xa xb : Addr) (xk : ClassId) (xz xc0 xc1 : Int32) (h0 : Heap) (O0 : Ext Z.heap h0) (S_COMPACT_STRINGS : Sta Z Z.heap Y0 Y1 "Z" (.int xz)) (hz : ¬ xz = (0 : Int32)) (E_xa : Exa Z h0 xa Y0) (F_coder_xa : Fld Z h0 xa Y0 "coder" "B" (.int (0 : Int32))) (F_value_xa : Fld Z h0 xa Y0 "value" "[B" (.ref xb)) (V_xb : Arv Z h0 xb xk .byte (2 : Int32) [(ib xc0), (ib xc1)] (.int (0 : Int32))) (hu1 : (xc1.toInt8.toInt32) = (58 : Int32)) :
    oCon l Z yy14 jdk_42_method_82_code 2 (some .int) ws ({ frames := 3, cells := 0, slots := 0, locals := 42 } : Room) #[(.ref xa), (.int (58 : Int32))] h0 (Q_rLK_2_1 Z xa xb xk xz xc0 xc1 h0) := by
  refine oCon.of (plainFor_of_name pn_3) ?_
  intro p e s m below meth c T X hx hby hml hown hnm hret hlk hZ e0
  have hml : c.maxLocals = 2 := hml
  have K : oKp h0 h0 [] [] := oKp.nil _ _
  refine oWk.cast (g' := (mkF m 0 #[rv xa, iv 58] [])) (by first | rfl | (simp [entryFrame, mkF, argsToLocals, Value.category]; done)) ?_
  refine oWk.st (fun _ kt => zA X hx hby d10_0 rfl rfl rfl (zI X hx hby d10_1 rfl rfl (zA X hx hby d10_2 rfl rfl rfl kt))) ?_
  have Oh := K.old O0 all0
  obtain ⟨T, L2, X, e0, K, st⟩ := (cs10 hw).pure X hx hZ hown e0 K (A := [(.ref xa)]) ⟨rfl, _, _, rfl, E_xa⟩ (rLn_2 l Z a0 hw [] xa xb xk xz xc0 xc1 h0 Oh S_COMPACT_STRINGS hz E_xa F_coder_xa F_value_xa V_xb) (fun _ _ _ q => q) (W := 2) (by decide) hml (Ls := #[rv xa, iv 58]) rfl (rest := [(.int (58 : Int32)), (.ref xa)]) rfl rfl hby d10_3
  refine oWk.st (fun _ kt => st _ (zK X hx hby d10_6 rfl (XS.isub X.here hx rfl (hb hby d10_7) rfl kt))) ?_
  obtain ⟨T, L4, X, e0, K, st⟩ := (cs11 hw).pure X hx hZ hown e0 K (A := [(.ref xa), (.int (58 : Int32)), (.int (1 : Int32))]) ⟨rfl, _, _, rfl, E_xa⟩ (rLJ_2_1 l Z a0 hw [] xa xb xk xz xc0 xc1 h0 Oh S_COMPACT_STRINGS hz E_xa F_coder_xa F_value_xa V_xb hu1) (fun _ _ _ q => q) (W := 0) (by decide) hml (Ls := #[rv xa, iv 58]) rfl (rest := []) rfl rfl hby d10_8
  refine oWk.to (mkF m 11 #[rv xa, iv 58] [(.int 1)]) (fun _ kt => st _ kt) ?_
  exact oRetI X hx hlk hret (hb hby d10_11) (by rw [e0]; exact ⟨rfl, rfl, K⟩) (by decide) (by decide)
def Q_rMin_2_1 (Z : State)  (h0 : Heap) (v : Option Value) (h : Heap) (L : List Loc) : Prop := v = some (.int (1 : Int32)) ∧ h = h0 ∧ oKp h0 h [] L
theorem d17_9 : decode jdk_29_method_69_code 9 = .ok (.iload_n 1, 1) := by decide +kernel
theorem rMin_2_1 (l : Launch) (Z : State) (a0 : Array Value) (hw : oHW a0 Z) (ws : List Jvm.Cond)  (h0 : Heap) (O0 : Ext Z.heap h0)  :
    oCon l Z yy8 jdk_29_method_69_code 2 (some .int) ws ({ frames := 0, cells := 0, slots := 0, locals := 0 } : Room) #[(.int (2 : Int32)), (.int (1 : Int32))] h0 (Q_rMin_2_1 Z  h0) := by
  refine oCon.of (Jvm.Free.JP.mathPlain rfl (by decide +kernel)) ?_
  intro p e s m below meth c T X hx hby hml hown hnm hret hlk hZ e0
  have hml : c.maxLocals = 2 := hml
  have K : oKp h0 h0 [] [] := oKp.nil _ _
  refine oWk.cast (g' := (mkF m 0 #[iv 2, iv 1] [])) (by first | rfl | (simp [entryFrame, mkF, argsToLocals, Value.category]; done)) ?_
  refine oWk.to (mkF m 10 #[iv 2, iv 1] [(.int 1)]) (fun _ kt => zI X hx hby d17_0 rfl rfl (zI X hx hby d17_1 rfl rfl (zY X hx hby d17_2 rfl rfl (tlt (by decide)).2.2.1 (pc' := 9) rfl (zI X hx hby d17_9 rfl rfl kt)))) ?_
  exact oRetI X hx hlk hret (hb hby d17_10) (by rw [e0]; exact ⟨rfl, rfl, K⟩) (by decide) (by decide)
def Q_rCkL_0_1 (Z : State)  (h0 : Heap) (v : Option Value) (h : Heap) (L : List Loc) : Prop := v = none ∧ h = h0 ∧ oKp h0 h [] L
theorem pn_6 : plainName "java/util/Arrays" = true := by first | (simp [plainName, overriddenIn]; done) | decide +kernel
abbrev yy20 : MethodName := ⟨"java/util/Arrays", "checkLength", "(II)V"⟩
theorem d24_0 : decode jdk_65_method_131_code 0 = .ok (.iload_n 1, 1) := by decide +kernel
theorem d24_1 : decode jdk_65_method_131_code 1 = .ok (.iload_n 0, 1) := by decide +kernel
theorem d24_2 : decode jdk_65_method_131_code 2 = .ok (.if_icmp .ge 35, 3) := by decide +kernel
theorem d24_37 : decode jdk_65_method_131_code 37 = .ok (.return_, 1) := by decide +kernel
theorem rCkL_0_1 (l : Launch) (Z : State) (a0 : Array Value) (hw : oHW a0 Z) (ws : List Jvm.Cond)  (h0 : Heap) (O0 : Ext Z.heap h0)  :
    oCon l Z yy20 jdk_65_method_131_code 2 none ws ({ frames := 0, cells := 0, slots := 0, locals := 0 } : Room) #[(.int (0 : Int32)), (.int (1 : Int32))] h0 (Q_rCkL_0_1 Z  h0) := by
  refine oCon.of (plainFor_of_name pn_6) ?_
  intro p e s m below meth c T X hx hby hml hown hnm hret hlk hZ e0
  have hml : c.maxLocals = 2 := hml
  have K : oKp h0 h0 [] [] := oKp.nil _ _
  refine oWk.cast (g' := (mkF m 0 #[iv 0, iv 1] [])) (by first | rfl | (simp [entryFrame, mkF, argsToLocals, Value.category]; done)) ?_
  refine oWk.to (mkF m 37 #[iv 0, iv 1] []) (fun _ kt => zI X hx hby d24_0 rfl rfl (zI X hx hby d24_1 rfl rfl (zY X hx hby d24_2 rfl rfl (flt (by decide)).2.1 (pc' := 37) rfl kt))) ?_
  exact oRetV X hx hlk hret (hb hby d24_37) (by rw [e0]; exact ⟨rfl, rfl, K⟩) (by decide) (by decide)
def Q_rCRB_2_0_1 (Z : State) (xb : Addr) (xk : ClassId) (xc0 xc1 : Int32) (h0 : Heap) (v : Option Value) (h : Heap) (L : List Loc) : Prop := ∃ (nb : Addr) (nk : ClassId), v = some (.ref nb) ∧ oKp h0 h [] L ∧ (h0.size ≤ nb) ∧ (Arv Z h nb nk .byte (1 : Int32) [(ib xc0)] (.int (0 : Int32)))
abbrev yy21 : MethodName := ⟨"java/util/Arrays", "copyOfRangeByte", "([BII)[B"⟩
theorem d23_0 : decode jdk_65_method_133_code 0 = .ok (.iload_n 1, 1) := by decide +kernel
theorem d23_1 : decode jdk_65_method_133_code 1 = .ok (.iload_n 2, 1) := by decide +kernel
theorem d23_2 : decode jdk_65_method_133_code 2 = .ok (.invokestatic 343, 3) := by decide +kernel
theorem pd_16 : parseMethodDescriptor "(II)V" = some ⟨[.int, .int], none⟩ := by decide +kernel
theorem cs15 {a0 : Array Value} {Z : State} (hw : oHW a0 Z) : oCall Z Y7 (.invokestatic 343) yy20 jdk_65_method_131_code 2 none (oRs 2) := oCall.stat (oW hw 106 rfl) (oW hw 107 rfl) (oW hw 101 rfl) (oW hw 108 rfl) (by decide) pd_16
theorem d23_5 : decode jdk_65_method_133_code 5 = .ok (.iload_n 2, 1) := by decide +kernel
theorem d23_6 : decode jdk_65_method_133_code 6 = .ok (.iload_n 1, 1) := by decide +kernel
theorem d23_7 : decode jdk_65_method_133_code 7 = .ok (.isub, 1) := by decide +kernel
theorem d23_8 : decode jdk_65_method_133_code 8 = .ok (.istore_n 3, 1) := by decide +kernel
theorem d23_9 : decode jdk_65_method_133_code 9 = .ok (.iload_n 3, 1) := by decide +kernel
theorem d23_10 : decode jdk_65_method_133_code 10 = .ok (.newarray .byte, 2) := by decide +kernel
theorem d23_12 : decode jdk_65_method_133_code 12 = .ok (.astore 4, 2) := by decide +kernel
theorem d23_14 : decode jdk_65_method_133_code 14 = .ok (.aload_n 0, 1) := by decide +kernel
theorem d23_15 : decode jdk_65_method_133_code 15 = .ok (.iload_n 1, 1) := by decide +kernel
theorem d23_16 : decode jdk_65_method_133_code 16 = .ok (.aload 4, 2) := by decide +kernel
theorem d23_18 : decode jdk_65_method_133_code 18 = .ok (.iconst 0, 1) := by decide +kernel
theorem d23_19 : decode jdk_65_method_133_code 19 = .ok (.aload_n 0, 1) := by decide +kernel
theorem d23_20 : decode jdk_65_method_133_code 20 = .ok (.arraylength, 1) := by decide +kernel
theorem d23_21 : decode jdk_65_method_133_code 21 = .ok (.iload_n 1, 1) := by decide +kernel
theorem d23_22 : decode jdk_65_method_133_code 22 = .ok (.isub, 1) := by decide +kernel
theorem d23_23 : decode jdk_65_method_133_code 23 = .ok (.iload_n 3, 1) := by decide +kernel
theorem d23_24 : decode jdk_65_method_133_code 24 = .ok (.invokestatic 304, 3) := by decide +kernel
theorem cs16 {a0 : Array Value} {Z : State} (hw : oHW a0 Z) : oCall Z Y7 (.invokestatic 304) yy8 jdk_29_method_69_code 2 (some .int) (oRs 2) := oCall.stat (oW hw 109 rfl) (oW hw 75 rfl) (oW hw 76 rfl) (oW hw 77 rfl) (by decide) pd_6
theorem d23_27 : decode jdk_65_method_133_code 27 = .ok (.invokestatic 150, 3) := by decide +kernel
theorem d23_30 : decode jdk_65_method_133_code 30 = .ok (.aload 4, 2) := by decide +kernel
theorem d23_32 : decode jdk_65_method_133_code 32 = .ok (.areturn, 1) := by decide +kernel
theorem rCRB_2_0_1 (l : Launch) (Z : State) (a0 : Array Value) (hw : oHW a0 Z) (ws : List Jvm.Cond) (xb : Addr) (xk : ClassId) (xc0 xc1 : Int32) (h0 : Heap) (O0 : Ext Z.heap h0) (V_xb : Arv Z h0 xb xk .byte (2 : Int32) [(ib xc0), (ib xc1)] (.int (0 : Int32))) :
    oCon l Z yy21 jdk_65_method_133_code 5 (some (.array .byte)) ws ({ frames := 1, cells := 1, slots := 1, locals := 18 } : Room) #[(.ref xb), (.int (0 : Int32)), (.int (1 : Int32))] h0 (Q_rCRB_2_0_1 Z xb xk xc0 xc1 h0) := by
  refine oCon.of (plainFor_of_name pn_6) ?_
  intro p e s m below meth c T X hx hby hml hown hnm hret hlk hZ e0
  have hml : c.maxLocals = 5 := hml
  have K : oKp h0 h0 [] [] := oKp.nil _ _
  refine oWk.cast (g' := (mkF m 0 #[rv xb, iv 0, iv 1, uu, uu] [])) (by first | rfl | (simp [entryFrame, mkF, argsToLocals, Value.category]; done)) ?_
  refine oWk.st (fun _ kt => zI X hx hby d23_0 rfl rfl (zI X hx hby d23_1 rfl rfl kt)) ?_
  have Oh := K.old O0 all0
  obtain ⟨T, L2, X, e0, K, st⟩ := (cs15 hw).pure X hx hZ hown e0 K (A := [(.int (0 : Int32)), (.int (1 : Int32))]) rfl (rCkL_0_1 l Z a0 hw []  h0 Oh ) (fun _ _ _ q => q) (W := 0) (by decide) hml (Ls := #[rv xb, iv 0, iv 1, uu, uu]) rfl (rest := []) rfl rfl hby d23_2
  refine oWk.st (fun _ kt => st _ (zI X hx hby d23_5 rfl rfl (zI X hx hby d23_6 rfl rfl (XS.isub X.here hx rfl (hb hby d23_7) rfl (zSn X hx hby d23_8 rfl rfl (l' := #[rv xb, iv 0, iv 1, iv 1, uu]) rfl (zI X hx hby d23_9 rfl rfl kt)))))) ?_
  obtain ⟨o3, g3⟩ : ∃ z, z = h0.size := ⟨_, rfl⟩
  have ne_xb_o3 : xb ≠ o3 := Nat.ne_of_lt (Nat.lt_of_lt_of_le V_xb.lt (Nat.le_of_eq g3.symm))
  have ge_o3 : h0.size ≤ o3 := Nat.le_trans K.le (Nat.le_of_eq g3.symm)
  obtain ⟨T, h, k3, X, e0, E3, A3, st⟩ := newP X hx hZ (oW hw 27 rfl) e0 (g := (mkF m 10 #[rv xb, iv 0, iv 1, iv 1, uu] [(.int 1)])) rfl (hb hby d23_10) rfl (by decide) (cap := 1) (by decide) (by decide) (by decide) (by decide)
  rw [← g3] at A3 st
  have K := K.ext E3
  have V_o3 : Arv Z h o3 k3 .byte (1 : Int32) [(.int (0 : Int32))] (.int (0 : Int32)) := (Arv.new A3 (by decide)).pad (pad_rep [] (.int (0 : Int32)) 1)
  refine oWk.to (mkF m 20 #[rv xb, iv 0, iv 1, iv 1, rv o3] [(.ref xb), (.int 0), (.ref o3), (.int 0), (.ref xb)]) (fun _ kt => st _ (zT X hx hby d23_12 rfl rfl rfl (l' := #[rv xb, iv 0, iv 1, iv 1, rv o3]) rfl (zA X hx hby d23_14 rfl rfl rfl (zI X hx hby d23_15 rfl rfl (zB X hx hby d23_16 rfl rfl rfl (zK X hx hby d23_18 rfl (zA X hx hby d23_19 rfl rfl rfl kt))))))) ?_
  have V_xb := (V_xb.ext E3)
  refine oWk.st (fun _ kt => oAl X hx hZ e0 V_xb hby d23_20 rfl rfl (zI X hx hby d23_21 rfl rfl (XS.isub X.here hx rfl (hb hby d23_22) rfl (zI X hx hby d23_23 rfl rfl kt)))) ?_
  have Oh := K.old O0 all0
  obtain ⟨T, L6, X, e0, K, st⟩ := (cs16 hw).pure X hx hZ hown e0 K (A := [(.int (2 : Int32)), (.int (1 : Int32))]) rfl (rMin_2_1 l Z a0 hw []  h Oh ) (fun _ _ _ q => q) (W := 4) (by decide) hml (Ls := #[rv xb, iv 0, iv 1, iv 1, rv o3]) rfl (rest := [(.int (0 : Int32)), (.ref o3), (.int (0 : Int32)), (.ref xb)]) rfl rfl hby d23_24
  refine oWk.st (fun _ kt => st _ kt) ?_
  obtain ⟨T, h, L7, X, e0, N7, C7, V7, st⟩ := cpA X hx hZ hown (oW hw 110 rfl) (oW hw 113 rfl) (oW hw 111 rfl) (oW hw 112 rfl) e0 (us := [(ib xc0)]) V_xb V_o3 (Or.inl ⟨rfl, rfl⟩) (by decide) (by decide) (by decide) (by decide) (by decide) rfl (by decide) K.fr ge_o3 (g := (mkF m 27 #[rv xb, iv 0, iv 1, iv 1, rv o3] [(.int 1), (.int 0), (.ref o3), (.int 0), (.ref xb)])) rfl (by rw [hml]; rfl) rfl (hb hby d23_27) (by decide) (W := 0) (Nat.le_of_eq rfl) (by decide)
  have K : oKp h0 h [] L7 := ⟨K.1.trans C7 (allS (Or.inr ge_o3) all0), fun y hy => Or.inr (N7 y hy)⟩
  have V_o3 : Arv Z h o3 k3 .byte (1 : Int32) [(ib xc0)] (.int (0 : Int32)) := V7
  refine oWk.to (mkF m 32 #[rv xb, iv 0, iv 1, iv 1, rv o3] [(.ref o3)]) (fun _ kt => st _ (zB X hx hby d23_30 rfl rfl rfl kt)) ?_
  exact oRetA X hx hlk hret rfl rfl (hb hby d23_32) (by rw [e0]; exact ⟨o3, k3, rfl, K, ge_o3, V_o3⟩) (by decide) (by decide)
def Q_rCR_2_0_1 (Z : State) (xb : Addr) (xk : ClassId) (xc0 xc1 : Int32) (h0 : Heap) (v : Option Value) (h : Heap) (L : List Loc) : Prop := ∃ (nb : Addr) (nk : ClassId), v = some (.ref nb) ∧ oKp h0 h [] L ∧ (h0.size ≤ nb) ∧ (Arv Z h nb nk .byte (1 : Int32) [(ib xc0)] (.int (0 : Int32)))
abbrev yy22 : MethodName := ⟨"java/util/Arrays", "copyOfRange", "([BII)[B"⟩
theorem d22_0 : decode jdk_65_method_132_code 0 = .ok (.iload_n 1, 1) := by decide +kernel
theorem d22_1 : decode jdk_65_method_132_code 1 = .ok (.ifCond .ne 9, 3) := by decide +kernel
theorem d22_4 : decode jdk_65_method_132_code 4 = .ok (.iload_n 2, 1) := by decide +kernel
theorem d22_5 : decode jdk_65_method_132_code 5 = .ok (.aload_n 0, 1) := by decide +kernel
theorem d22_6 : decode jdk_65_method_132_code 6 = .ok (.arraylength, 1) := by decide +kernel
theorem d22_7 : decode jdk_65_method_132_code 7 = .ok (.if_icmp .eq 10, 3) := by decide +kernel
theorem d22_10 : decode jdk_65_method_132_code 10 = .ok (.aload_n 0, 1) := by decide +kernel
theorem d22_11 : decode jdk_65_method_132_code 11 = .ok (.iload_n 1, 1) := by decide +kernel
theorem d22_12 : decode jdk_65_method_132_code 12 = .ok (.iload_n 2, 1) := by decide +kernel
theorem d22_13 : decode jdk_65_method_132_code 13 = .ok (.invokestatic 339, 3) := by decide +kernel
theorem pd_17 : parseMethodDescriptor "([BII)[B" = some ⟨[(.array .byte), .int, .int], some (.array .byte)⟩ := by decide +kernel
theorem cs17 {a0 : Array Value} {Z : State} (hw : oHW a0 Z) : oCall Z Y7 (.invokestatic 339) yy21 jdk_65_method_133_code 5 (some (.array .byte)) (oRs 3) := oCall.stat (oW hw 103 rfl) (oW hw 104 rfl) (oW hw 101 rfl) (oW hw 105 rfl) (by decide) pd_17
theorem d22_16 : decode jdk_65_method_132_code 16 = .ok (.areturn, 1) := by decide +kernel
theorem rCR_2_0_1 (l : Launch) (Z : State) (a0 : Array Value) (hw : oHW a0 Z) (ws : List Jvm.Cond) (xb : Addr) (xk : ClassId) (xc0 xc1 : Int32) (h0 : Heap) (O0 : Ext Z.heap h0) (V_xb : Arv Z h0 xb xk .byte (2 : Int32) [(ib xc0), (ib xc1)] (.int (0 : Int32))) :
    oCon l Z yy22 jdk_65_method_132_code 3 (some (.array .byte)) ws ({ frames := 2, cells := 1, slots := 1, locals := 34 } : Room) #[(.ref xb), (.int (0 : Int32)), (.int (1 : Int32))] h0 (Q_rCR_2_0_1 Z xb xk xc0 xc1 h0) := by
  refine oCon.of (plainFor_of_name pn_6) ?_
  intro p e s m below meth c T X hx hby hml hown hnm hret hlk hZ e0
  have hml : c.maxLocals = 3 := hml
  have K : oKp h0 h0 [] [] := oKp.nil _ _
  refine oWk.cast (g' := (mkF m 0 #[rv xb, iv 0, iv 1] [])) (by first | rfl | (simp [entryFrame, mkF, argsToLocals, Value.category]; done)) ?_
  refine oWk.to (mkF m 11 #[rv xb, iv 0, iv 1] [(.ref xb)]) (fun _ kt => zI X hx hby d22_0 rfl rfl (zH X hx hby d22_1 rfl rfl ((if0 _ _).trans (teq (by decide)).2) (zI X hx hby d22_4 rfl rfl (zA X hx hby d22_5 rfl rfl rfl (oAl X hx hZ e0 V_xb hby d22_6 rfl rfl (zN X hx hby d22_7 rfl rfl (feq (by decide)).1 (zA X hx hby d22_10 rfl rfl rfl kt))))))) ?_
  refine oWk.st (fun _ kt => zI X hx hby d22_11 rfl rfl (zI X hx hby d22_12 rfl rfl kt)) ?_
  have lt_xb := V_xb.lt
  have Oh := K.old O0 all0
  obtain ⟨_, T, h, Lc3, X, e0, hQ, st⟩ := (cs17 hw).run X hx hZ hown e0 (A := [(.ref xb), (.int (0 : Int32)), (.int (1 : Int32))]) rfl (rCRB_2_0_1 l Z a0 hw [] xb xk xc0 xc1 h0 Oh V_xb) (W := 0) (by decide) hml (Ls := #[rv xb, iv 0, iv 1]) rfl (rest := []) rfl rfl hby d22_13
  obtain ⟨nb2, nk2, rfl, K2, gn_nb2, V_nb2⟩ := hQ
  have ge_nb2 := Nat.le_trans K.le gn_nb2
  have ne_xb_nb2 : xb ≠ nb2 := Nat.ne_of_lt (Nat.lt_of_lt_of_le lt_xb gn_nb2)
  have K := K.call K2 all0
  refine oWk.to (mkF m 16 #[rv xb, iv 0, iv 1] [(.ref nb2)]) (fun _ kt => st _ kt) ?_
  exact oRetA X hx hlk hret rfl rfl (hb hby d22_16) (by rw [e0]; exact ⟨nb2, nk2, rfl, K, ge_nb2, V_nb2⟩) (by decide) (by decide)
def Q_rSIn (Z : State) (xa xb : Addr) (xu xv : Value) (h0 : Heap) (v : Option Value) (h : Heap) (L : List Loc) : Prop := v = none ∧ oKp h0 h [xa] L ∧ (Exa Z h xa Y0) ∧ (Fld Z h xa Y0 "value" "[B" (.ref xb)) ∧ (Fld Z h xa Y0 "coder" "B" (.int (0 : Int32)))
abbrev yy23 : MethodName := ⟨"java/lang/String", "<init>", "([BB)V"⟩
theorem d25_0 : decode jdk_42_method_151_code 0 = .ok (.aload_n 0, 1) := by decide +kernel
theorem d25_1 : decode jdk_42_method_151_code 1 = .ok (.invokespecial 1, 3) := by decide +kernel
theorem d25_4 : decode jdk_42_method_151_code 4 = .ok (.aload_n 0, 1) := by decide +kernel
theorem d25_5 : decode jdk_42_method_151_code 5 = .ok (.aload_n 1, 1) := by decide +kernel
theorem d25_6 : decode jdk_42_method_151_code 6 = .ok (.putfield 9, 3) := by decide +kernel
theorem d25_9 : decode jdk_42_method_151_code 9 = .ok (.aload_n 0, 1) := by decide +kernel
theorem d25_10 : decode jdk_42_method_151_code 10 = .ok (.iload_n 2, 1) := by decide +kernel
theorem d25_11 : decode jdk_42_method_151_code 11 = .ok (.putfield 15, 3) := by decide +kernel
theorem d25_14 : decode jdk_42_method_151_code 14 = .ok (.return_, 1) := by decide +kernel
theorem rSIn (l : Launch) (Z : State) (a0 : Array Value) (hw : oHW a0 Z) (ws : List Jvm.Cond) (xa xb : Addr) (xu xv : Value) (h0 : Heap) (O0 : Ext Z.heap h0) (og_xa : Z.heap.size ≤ xa) (E_xa : Exa Z h0 xa Y0) (F_value_xa : Fld Z h0 xa Y0 "value" "[B" xu) (F_coder_xa : Fld Z h0 xa Y0 "coder" "B" xv) :
    oCon l Z yy23 jdk_42_method_151_code 3 none ws ({ frames := 1, cells := 0, slots := 0, locals := 12 } : Room) #[(.ref xa), (.ref xb), (.int (0 : Int32))] h0 (Q_rSIn Z xa xb xu xv h0) := by
  refine oCon.of (plainFor_of_name pn_3) ?_
  intro p e s m below meth c T X hx hby hml hown hnm hret hlk hZ e0
  have hml : c.maxLocals = 3 := hml
  have K : oKp h0 h0 [xa] [] := oKp.nil _ _
  refine oWk.cast (g' := (mkF m 0 #[rv xa, rv xb, iv 0] [])) (by first | rfl | (simp [entryFrame, mkF, argsToLocals, Value.category]; done)) ?_
  refine oWk.st (fun _ kt => zA X hx hby d25_0 rfl rfl rfl kt) ?_
  obtain ⟨T, X, e0, st⟩ := initO X hx hZ hown (oW hw 19 rfl) (oW hw 20 rfl) (oW hw 21 rfl) e0 (g := (mkF m 1 #[rv xa, rv xb, iv 0] [(.ref xa)])) rfl (by rw [hml]; rfl) rfl (hb hby d25_1) (by decide) (W := 0) (Nat.le_of_eq rfl) (by decide)
  refine oWk.st (fun _ kt => st _ (zA X hx hby d25_4 rfl rfl rfl (zA X hx hby d25_5 rfl rfl rfl kt))) ?_
  obtain ⟨T, h, X, e0, W1, st⟩ := putF X hx hZ hown (host := "") (Or.inl (oW hw 36 rfl)) Via.refl e0 F_value_xa E_xa (Or.inr ⟨(oW hw 37 rfl), rfl, hnm⟩) (oW hw 10 rfl) (ty := (.array .byte)) (by decide) rfl rfl (g := (mkF m 6 #[rv xa, rv xb, iv 0] [(.ref xb), (.ref xa)])) rfl rfl (hb hby d25_6)
  have K := K.wr W1 (Or.inl (List.mem_of_getElem? (i := 0) rfl))
  have F_value_xa := F_value_xa.same W1
  refine oWk.st (fun _ kt => st _ (zA X hx hby d25_9 rfl rfl rfl (zI X hx hby d25_10 rfl rfl kt))) ?_
  have E_xa := (E_xa.wr W1)
  have F_coder_xa := (F_coder_xa.other W1 (Or.inr (slot_ne (Or.inr (oW hw 35 rfl)) (Or.inr (oW hw 37 rfl)) (by decide) (t := .byte) (t' := (.array .byte)) (by decide) (by decide))))
  obtain ⟨T, h, X, e0, W2, st⟩ := putFN X hx hZ hown (oW hw 34 rfl) Via.refl e0 F_coder_xa E_xa (Or.inr ⟨(oW hw 35 rfl), rfl, hnm⟩) (oW hw 10 rfl) (ty := .byte) (v' := .int (0 : Int32)) (by decide) rfl (by decide) (g := (mkF m 11 #[rv xa, rv xb, iv 0] [(.int 0), (.ref xa)])) rfl rfl (hb hby d25_11)
  have K := K.wr W2 (Or.inl (List.mem_of_getElem? (i := 0) rfl))
  have F_coder_xa := F_coder_xa.same W2
  refine oWk.to (mkF m 14 #[rv xa, rv xb, iv 0] []) (fun _ kt => st _ kt) ?_
  have E_xa := (E_xa.wr W2)
  have F_value_xa := (F_value_xa.other W2 (Or.inr (slot_ne (Or.inr (oW hw 37 rfl)) (Or.inr (oW hw 35 rfl)) (by decide) (t := (.array .byte)) (t' := .byte) (by decide) (by decide))))
  exact oRetV X hx hlk hret (hb hby d25_14) (by rw [e0]; exact ⟨rfl, K, E_xa, F_value_xa, F_coder_xa⟩) (by decide) (by decide)
def Q_rNS_2_0_1 (Z : State) (xb : Addr) (xk : ClassId) (xc0 xc1 : Int32) (h0 : Heap) (v : Option Value) (h : Heap) (L : List Loc) : Prop := ∃ (nr : Addr) (nb : Addr) (nk : ClassId), v = some (.ref nr) ∧ oKp h0 h [] L ∧ (h0.size ≤ nr) ∧ (h0.size ≤ nb) ∧ (Exa Z h nr Y0) ∧ (Fld Z h nr Y0 "coder" "B" (.int (0 : Int32))) ∧ (Fld Z h nr Y0 "value" "[B" (.ref nb)) ∧ (Arv Z h nb nk .byte (1 : Int32) [(ib xc0)] (.int (0 : Int32)))
theorem d21_7 : decode jdk_43_method_47_code 7 = .ok (.new 1, 3) := by decide +kernel
theorem d21_10 : decode jdk_43_method_47_code 10 = .ok (.dup, 1) := by decide +kernel
theorem d21_11 : decode jdk_43_method_47_code 11 = .ok (.aload_n 0, 1) := by decide +kernel
theorem d21_12 : decode jdk_43_method_47_code 12 = .ok (.iload_n 1, 1) := by decide +kernel
theorem d21_13 : decode jdk_43_method_47_code 13 = .ok (.iload_n 1, 1) := by decide +kernel
theorem d21_14 : decode jdk_43_method_47_code 14 = .ok (.iload_n 2, 1) := by decide +kernel
theorem d21_15 : decode jdk_43_method_47_code 15 = .ok (.iadd, 1) := by decide +kernel
theorem d21_16 : decode jdk_43_method_47_code 16 = .ok (.invokestatic 232, 3) := by decide +kernel
theorem cs18 {a0 : Array Value} {Z : State} (hw : oHW a0 Z) : oCall Z Y5 (.invokestatic 232) yy22 jdk_65_method_132_code 3 (some (.array .byte)) (oRs 3) := oCall.stat (oW hw 99 rfl) (oW hw 100 rfl) (oW hw 101 rfl) (oW hw 102 rfl) (by decide) pd_17
theorem d21_19 : decode jdk_43_method_47_code 19 = .ok (.iconst 0, 1) := by decide +kernel
theorem d21_20 : decode jdk_43_method_47_code 20 = .ok (.invokespecial 112, 3) := by decide +kernel
theorem pd_18 : parseMethodDescriptor "([BB)V" = some ⟨[(.array .byte), .byte], none⟩ := by decide +kernel
theorem cs19 {a0 : Array Value} {Z : State} (hw : oHW a0 Z) : oCall Z Y5 (.invokespecial 112) yy23 jdk_42_method_151_code 3 none (oRi 2) := oCall.init rfl (oW hw 114 rfl) (oW hw 115 rfl) (oW hw 11 rfl) (oW hw 116 rfl) (by decide) pd_18
theorem d21_23 : decode jdk_43_method_47_code 23 = .ok (.areturn, 1) := by decide +kernel
theorem rNS_2_0_1 (l : Launch) (Z : State) (a0 : Array Value) (hw : oHW a0 Z) (ws : List Jvm.Cond) (xb : Addr) (xk : ClassId) (xc0 xc1 : Int32) (h0 : Heap) (O0 : Ext Z.heap h0) (V_xb : Arv Z h0 xb xk .byte (2 : Int32) [(ib xc0), (ib xc1)] (.int (0 : Int32))) :
    oCon l Z yy17 jdk_43_method_47_code 3 (some (.object Y0)) ws ({ frames := 3, cells := 2, slots := 5, locals := 50 } : Room) #[(.ref xb), (.int (0 : Int32)), (.int (1 : Int32))] h0 (Q_rNS_2_0_1 Z xb xk xc0 xc1 h0) := by
  refine oCon.of (plainFor_of_name pn_0) ?_
  intro p e s m below meth c T X hx hby hml hown hnm hret hlk hZ e0
  have hml : c.maxLocals = 3 := hml
  have K : oKp h0 h0 [] [] := oKp.nil _ _
  refine oWk.cast (g' := (mkF m 0 #[rv xb, iv 0, iv 1] [])) (by first | rfl | (simp [entryFrame, mkF, argsToLocals, Value.category]; done)) ?_
  refine oWk.st (fun _ kt => zI X hx hby d21_0 rfl rfl (zF X hx hby d21_1 rfl rfl ((if0 _ _).trans (feq (by decide)).2) (pc' := 7) rfl kt)) ?_
  obtain ⟨o1, g1⟩ : ∃ z, z = h0.size := ⟨_, rfl⟩
  have ne_xb_o1 : xb ≠ o1 := Nat.ne_of_lt (Nat.lt_of_lt_of_le V_xb.lt (Nat.le_of_eq g1.symm))
  have ge_o1 : h0.size ≤ o1 := Nat.le_trans K.le (Nat.le_of_eq g1.symm)
  obtain ⟨T, h, X, e0, E1, A1, D1, -, st⟩ := newO X hx hZ hown (oW hw 98 rfl) (oW hw 10 rfl) (oW hw 11 rfl) e0 (g := (mkF m 7 #[rv xb, iv 0, iv 1] [])) rfl (hb hby d21_7) (by decide) (by decide)
  rw [← g1] at A1 D1 st
  have K := K.ext E1
  have E_o1 := A1
  have F_coder_o1 : Fld Z h o1 Y0 "coder" "B" (.int (0 : Int32)) := D1 (Or.inr (oW hw 35 rfl)) (ty := .byte) (by decide)
  have F_value_o1 : Fld Z h o1 Y0 "value" "[B" .null := D1 (Or.inr (oW hw 37 rfl)) (ty := (.array .byte)) (by decide)
  refine oWk.to (mkF m 16 #[rv xb, iv 0, iv 1] [(.int 1), (.int 0), (.ref xb), (.ref o1), (.ref o1)]) (fun _ kt => st _ (zD X hx hby d21_10 rfl rfl rfl (zA X hx hby d21_11 rfl rfl rfl (zI X hx hby d21_12 rfl rfl (zI X hx hby d21_13 rfl rfl (zI X hx hby d21_14 rfl rfl (XS.iadd X.here hx rfl (hb hby d21_15) rfl kt))))))) ?_
  have V_xb := (V_xb.ext E1)
  have lt_xb := V_xb.lt
  have lt_o1 := E_o1.lt
  have Oh := K.old O0 all0
  obtain ⟨_, T, h, Lc3, X, e0, hQ, st⟩ := (cs18 hw).run X hx hZ hown e0 (A := [(.ref xb), (.int (0 : Int32)), (.int (1 : Int32))]) rfl (rCR_2_0_1 l Z a0 hw [] xb xk xc0 xc1 h Oh V_xb) (W := 2) (by decide) hml (Ls := #[rv xb, iv 0, iv 1]) rfl (rest := [(.ref o1), (.ref o1)]) rfl rfl hby d21_16
  obtain ⟨nb2, nk2, rfl, K2, gn_nb2, V_nb2⟩ := hQ
  have ge_nb2 := Nat.le_trans K.le gn_nb2
  have ne_xb_nb2 : xb ≠ nb2 := Nat.ne_of_lt (Nat.lt_of_lt_of_le lt_xb gn_nb2)
  have ne_o1_nb2 : o1 ≠ nb2 := Nat.ne_of_lt (Nat.lt_of_lt_of_le lt_o1 gn_nb2)
  have K := K.call K2 all0
  refine oWk.st (fun _ kt => st _ (zK X hx hby d21_19 rfl kt)) ?_
  have E_o1 := (E_o1.keep K2.1)
  have F_value_o1 := (F_value_o1.keep K2.1 nin0)
  have F_coder_o1 := (F_coder_o1.keep K2.1 nin0)
  have Oh := K.old O0 all0
  obtain ⟨_, T, h, Lc5, X, e0, hQ, st⟩ := (cs19 hw).run X hx hZ hown e0 (A := [(.ref o1), (.ref nb2), (.int (0 : Int32))]) ⟨rfl, _, _, rfl⟩ (rSIn l Z a0 hw [] o1 nb2 .null (.int (0 : Int32)) h Oh (Nat.le_trans O0.1 ge_o1) E_o1 F_value_o1 F_coder_o1) (W := 1) (by decide) hml (Ls := #[rv xb, iv 0, iv 1]) rfl (rest := [(.ref o1)]) rfl rfl hby d21_20
  obtain ⟨rfl, K4, E_o1, F_value_o1, F_coder_o1⟩ := hQ
  have K := K.call K4 (allS (Or.inr ge_o1) all0)
  refine oWk.to (mkF m 23 #[rv xb, iv 0, iv 1] [(.ref o1)]) (fun _ kt => st _ kt) ?_
  have V_nb2 := (V_nb2.keep K4.1 (ninS (Ne.symm ne_o1_nb2) nin0))
  exact oRetA X hx hlk hret rfl rfl (hb hby d21_23) (by rw [e0]; exact ⟨o1, nb2, nk2, rfl, K, ge_o1, ge_nb2, E_o1, F_coder_o1, F_value_o1, V_nb2⟩) (by decide) (by decide)
def Q_rSub_2_0_1 (Z : State) (xa xb : Addr) (xk : ClassId) (xfm : Value) (xz xc0 xc1 : Int32) (h0 : Heap) (v : Option Value) (h : Heap) (L : List Loc) : Prop := ∃ (nr : Addr) (nb : Addr) (nk : ClassId), v = some (.ref nr) ∧ oKp h0 h [] L ∧ (h0.size ≤ nr) ∧ (h0.size ≤ nb) ∧ (Exa Z h nr Y0) ∧ (Fld Z h nr Y0 "coder" "B" (.int (0 : Int32))) ∧ (Fld Z h nr Y0 "value" "[B" (.ref nb)) ∧ (Arv Z h nb nk .byte (1 : Int32) [(ib xc0)] (.int (0 : Int32)))
theorem cs20 {a0 : Array Value} {Z : State} (hw : oHW a0 Z) : oCall Z Y0 (.invokestatic 685) yy17 jdk_43_method_47_code 3 (some (.object Y0)) (oRs 3) := oCall.stat (oW hw 91 rfl) (oW hw 92 rfl) (oW hw 69 rfl) (oW hw 93 rfl) (by decide) pd_13
theorem rSub_2_0_1 (l : Launch) (Z : State) (a0 : Array Value) (hw : oHW a0 Z) (ws : List Jvm.Cond) (xa xb : Addr) (xk : ClassId) (xfm : Value) (xz xc0 xc1 : Int32) (h0 : Heap) (O0 : Ext Z.heap h0) (S_COMPACT_STRINGS : Sta Z Z.heap Y0 Y1 "Z" (.int xz)) (hz : ¬ xz = (0 : Int32)) (S_SIOOBE_FORMATTER : Sta Z Z.heap Y2 Y3 Y4 xfm) (hcat : xfm.category = 1) (E_xa : Exa Z h0 xa Y0) (F_coder_xa : Fld Z h0 xa Y0 "coder" "B" (.int (0 : Int32))) (F_value_xa : Fld Z h0 xa Y0 "value" "[B" (.ref xb)) (V_xb : Arv Z h0 xb xk .byte (2 : Int32) [(ib xc0), (ib xc1)] (.int (0 : Int32))) :
    oCon l Z yy18 jdk_42_method_92_code 5 (some (.object Y0)) ws ({ frames := 4, cells := 2, slots := 5, locals := 64 } : Room) #[(.ref xa), (.int (0 : Int32)), (.int (1 : Int32))] h0 (Q_rSub_2_0_1 Z xa xb xk xfm xz xc0 xc1 h0) := by
  refine oCon.of (plainFor_of_name pn_3) ?_
  intro p e s m below meth c T X hx hby hml hown hnm hret hlk hZ e0
  have hml : c.maxLocals = 5 := hml
  have K : oKp h0 h0 [] [] := oKp.nil _ _
  refine oWk.cast (g' := (mkF m 0 #[rv xa, iv 0, iv 1, uu, uu] [])) (by first | rfl | (simp [entryFrame, mkF, argsToLocals, Value.category]; done)) ?_
  refine oWk.st (fun _ kt => zA X hx hby d18_0 rfl rfl rfl kt) ?_
  have Oh := K.old O0 all0
  obtain ⟨T, L2, X, e0, K, st⟩ := (cs10 hw).pure X hx hZ hown e0 K (A := [(.ref xa)]) ⟨rfl, _, _, rfl, E_xa⟩ (rLn_2 l Z a0 hw [] xa xb xk xz xc0 xc1 h0 Oh S_COMPACT_STRINGS hz E_xa F_coder_xa F_value_xa V_xb) (fun _ _ _ q => q) (W := 0) (by decide) hml (Ls := #[rv xa, iv 0, iv 1, uu, uu]) rfl (rest := []) rfl rfl hby d18_1
  refine oWk.st (fun _ kt => st _ (zSn X hx hby d18_4 rfl rfl (l' := #[rv xa, iv 0, iv 1, iv 2, uu]) rfl (zI X hx hby d18_5 rfl rfl (zI X hx hby d18_6 rfl rfl (zI X hx hby d18_7 rfl rfl kt))))) ?_
  obtain ⟨T, L4, X, e0, K, st⟩ := (cs13 hw).pure X hx hZ hown e0 K (A := [(.int (0 : Int32)), (.int (1 : Int32)), (.int (2 : Int32))]) rfl (rCkB l Z a0 hw [] (0 : Int32) (1 : Int32) (2 : Int32) xfm h0 Oh S_SIOOBE_FORMATTER hcat (by decide) (by decide) (by decide)) (fun _ _ _ q => q) (W := 0) (by decide) hml (Ls := #[rv xa, iv 0, iv 1, iv 2, uu]) rfl (rest := []) rfl rfl hby d18_8
  refine oWk.to (mkF m 23 #[rv xa, iv 0, iv 1, iv 2, uu] [(.int 1)]) (fun _ kt => st _ (zI X hx hby d18_11 rfl rfl (zH X hx hby d18_12 rfl rfl ((if0 _ _).trans (teq (by decide)).2) (zI X hx hby d18_15 rfl rfl (zI X hx hby d18_16 rfl rfl (zY X hx hby d18_17 rfl rfl (feq (by decide)).2 (pc' := 22) rfl (zI X hx hby d18_22 rfl rfl kt))))))) ?_
  refine oWk.st (fun _ kt => zI X hx hby d18_23 rfl rfl (XS.isub X.here hx rfl (hb hby d18_24) rfl (zS X hx hby d18_25 rfl rfl (l' := #[rv xa, iv 0, iv 1, iv 2, iv 1]) rfl (zA X hx hby d18_27 rfl rfl rfl kt)))) ?_
  obtain ⟨T, L6, X, e0, K, st⟩ := (cs8 hw).pure X hx hZ hown e0 K (A := [(.ref xa)]) ⟨rfl, _, _, rfl, E_xa⟩ (rIsL l Z a0 hw [] xa xz h0 Oh S_COMPACT_STRINGS hz F_coder_xa) (fun _ _ _ q => q) (W := 0) (by decide) hml (Ls := #[rv xa, iv 0, iv 1, iv 2, iv 1]) rfl (rest := []) rfl rfl hby d18_28
  refine oWk.st (fun _ kt => st _ (zH X hx hby d18_31 rfl rfl ((if0 _ _).trans (feq (by decide)).1) (zA X hx hby d18_34 rfl rfl rfl kt))) ?_
  obtain ⟨T, X, e0, st⟩ := getF X hx hZ hown (host := "") (Or.inl (oW hw 36 rfl)) Via.refl e0 F_value_xa (g := (mkF m 35 #[rv xa, iv 0, iv 1, iv 2, iv 1] [(.ref xa)])) rfl rfl (hb hby d18_35)
  refine oWk.st (fun _ kt => st _ (zI X hx hby d18_38 rfl rfl (zJ X hx hby d18_39 rfl rfl kt))) ?_
  have lt_xa := E_xa.lt
  have lt_xb := V_xb.lt
  obtain ⟨_, T, h, Lc8, X, e0, hQ, st⟩ := (cs20 hw).run X hx hZ hown e0 (A := [(.ref xb), (.int (0 : Int32)), (.int (1 : Int32))]) rfl (rNS_2_0_1 l Z a0 hw [] xb xk xc0 xc1 h0 Oh V_xb) (W := 0) (by decide) hml (Ls := #[rv xa, iv 0, iv 1, iv 2, iv 1]) rfl (rest := []) rfl rfl hby d18_41
  obtain ⟨nr7, nb7, nk7, rfl, K7, gn_nr7, gn_nb7, E_nr7, F_coder_nr7, F_value_nr7, V_nb7⟩ := hQ
  have ge_nr7 := Nat.le_trans K.le gn_nr7
  have ne_xa_nr7 : xa ≠ nr7 := Nat.ne_of_lt (Nat.lt_of_lt_of_le lt_xa gn_nr7)
  have ne_xb_nr7 : xb ≠ nr7 := Nat.ne_of_lt (Nat.lt_of_lt_of_le lt_xb gn_nr7)
  have ge_nb7 := Nat.le_trans K.le gn_nb7
  have ne_xa_nb7 : xa ≠ nb7 := Nat.ne_of_lt (Nat.lt_of_lt_of_le lt_xa gn_nb7)
  have ne_xb_nb7 : xb ≠ nb7 := Nat.ne_of_lt (Nat.lt_of_lt_of_le lt_xb gn_nb7)
  have K := K.call K7 all0
  refine oWk.to (mkF m 57 #[rv xa, iv 0, iv 1, iv 2, iv 1] [(.ref nr7)]) (fun _ kt => st _ (zG X hx hby d18_44 rfl (pc' := 57) rfl kt)) ?_
  exact oRetA X hx hlk hret rfl rfl (hb hby d18_57) (by rw [e0]; exact ⟨nr7, nb7, nk7, rfl, K, ge_nr7, ge_nb7, E_nr7, F_coder_nr7, F_value_nr7, V_nb7⟩) (by decide) (by decide)
def Q_rSP_2_1 (Z : State) (xa xb : Addr) (xk : ClassId) (xfm : Value) (xz xc0 xc1 : Int32) (h0 : Heap) (v : Option Value) (h : Heap) (L : List Loc) : Prop := ∃ (nr : Addr) (nb : Addr) (nk : ClassId), v = some (.ref nr) ∧ oKp h0 h [] L ∧ (h0.size ≤ nr) ∧ (h0.size ≤ nb) ∧ (Exa Z h nr Y0) ∧ (Fld Z h nr Y0 "coder" "B" (.int (0 : Int32))) ∧ (Fld Z h nr Y0 "value" "[B" (.ref nb)) ∧ (Arv Z h nb nk .byte (1 : Int32) [(ib xc0)] (.int (0 : Int32)))
theorem cs21 {a0 : Array Value} {Z : State} (hw : oHW a0 Z) : oCall Z Y9 (.invokevirtual 13) yy18 jdk_42_method_92_code 5 (some (.object Y0)) (oRv Z 2 Y0) := oCall.virt (oW hw 78 rfl) (oW hw 79 rfl) (fun _ hZ => notFace_of_selects (args := #[]) (mvT hZ (oW hw 81 rfl))) (oW hw 81 rfl) (oW hw 80 rfl) (oW hw 11 rfl) (oW hw 82 rfl) (by decide) pd_15
theorem rSP_2_1 (l : Launch) (Z : State) (a0 : Array Value) (hw : oHW a0 Z) (ws : List Jvm.Cond) (xa xb : Addr) (xk : ClassId) (xfm : Value) (xz xc0 xc1 : Int32) (h0 : Heap) (O0 : Ext Z.heap h0) (S_COMPACT_STRINGS : Sta Z Z.heap Y0 Y1 "Z" (.int xz)) (hz : ¬ xz = (0 : Int32)) (S_SIOOBE_FORMATTER : Sta Z Z.heap Y2 Y3 Y4 xfm) (hcat : xfm.category = 1) (E_xa : Exa Z h0 xa Y0) (F_coder_xa : Fld Z h0 xa Y0 "coder" "B" (.int (0 : Int32))) (F_value_xa : Fld Z h0 xa Y0 "value" "[B" (.ref xb)) (V_xb : Arv Z h0 xb xk .byte (2 : Int32) [(ib xc0), (ib xc1)] (.int (0 : Int32))) (hu1 : (xc1.toInt8.toInt32) = (58 : Int32)) :
    oCon l Z yy19 prog_3_method_2_code 1 (some (.object Y0)) ws ({ frames := 5, cells := 2, slots := 5, locals := 80 } : Room) #[(.ref xa)] h0 (Q_rSP_2_1 Z xa xb xk xfm xz xc0 xc1 h0) := by
  refine oCon.of (plainFor_of_name pn_5) ?_
  intro p e s m below meth c T X hx hby hml hown hnm hret hlk hZ e0
  have hml : c.maxLocals = 1 := hml
  have K : oKp h0 h0 [] [] := oKp.nil _ _
  refine oWk.cast (g' := (mkF m 0 #[rv xa] [])) (by first | rfl | (simp [entryFrame, mkF, argsToLocals, Value.category]; done)) ?_
  refine oWk.st (fun _ kt => zA X hx hby d9_0 rfl rfl rfl (zK X hx hby d9_1 rfl (zA X hx hby d9_2 rfl rfl rfl (zL X hx hby d9_3 rfl kt)))) ?_
  have Oh := K.old O0 all0
  obtain ⟨T, L2, X, e0, K, st⟩ := (cs14 hw).pure X hx hZ hown e0 K (A := [(.ref xa), (.int (58 : Int32))]) ⟨rfl, _, _, rfl, E_xa⟩ (rLK_2_1 l Z a0 hw [] xa xb xk xz xc0 xc1 h0 Oh S_COMPACT_STRINGS hz E_xa F_coder_xa F_value_xa V_xb hu1) (fun _ _ _ q => q) (W := 2) (by decide) hml (Ls := #[rv xa]) rfl (rest := [(.int (0 : Int32)), (.ref xa)]) rfl rfl hby d9_5
  refine oWk.st (fun _ kt => st _ kt) ?_
  have lt_xa := E_xa.lt
  have lt_xb := V_xb.lt
  obtain ⟨_, T, h, Lc4, X, e0, hQ, st⟩ := (cs21 hw).run X hx hZ hown e0 (A := [(.ref xa), (.int (0 : Int32)), (.int (1 : Int32))]) ⟨rfl, _, _, rfl, E_xa⟩ (rSub_2_0_1 l Z a0 hw [] xa xb xk xfm xz xc0 xc1 h0 Oh S_COMPACT_STRINGS hz S_SIOOBE_FORMATTER hcat E_xa F_coder_xa F_value_xa V_xb) (W := 0) (by decide) hml (Ls := #[rv xa]) rfl (rest := []) rfl rfl hby d9_8
  obtain ⟨nr3, nb3, nk3, rfl, K3, gn_nr3, gn_nb3, E_nr3, F_coder_nr3, F_value_nr3, V_nb3⟩ := hQ
  have ge_nr3 := Nat.le_trans K.le gn_nr3
  have ne_xa_nr3 : xa ≠ nr3 := Nat.ne_of_lt (Nat.lt_of_lt_of_le lt_xa gn_nr3)
  have ne_xb_nr3 : xb ≠ nr3 := Nat.ne_of_lt (Nat.lt_of_lt_of_le lt_xb gn_nr3)
  have ge_nb3 := Nat.le_trans K.le gn_nb3
  have ne_xa_nb3 : xa ≠ nb3 := Nat.ne_of_lt (Nat.lt_of_lt_of_le lt_xa gn_nb3)
  have ne_xb_nb3 : xb ≠ nb3 := Nat.ne_of_lt (Nat.lt_of_lt_of_le lt_xb gn_nb3)
  have K := K.call K3 all0
  refine oWk.to (mkF m 11 #[rv xa] [(.ref nr3)]) (fun _ kt => st _ kt) ?_
  exact oRetA X hx hlk hret rfl rfl (hb hby d9_11) (by rw [e0]; exact ⟨nr3, nb3, nk3, rfl, K, ge_nr3, ge_nb3, E_nr3, F_coder_nr3, F_value_nr3, V_nb3⟩) (by decide) (by decide)
def Q_rMin_2_2 (Z : State)  (h0 : Heap) (v : Option Value) (h : Heap) (L : List Loc) : Prop := v = some (.int (2 : Int32)) ∧ h = h0 ∧ oKp h0 h [] L
theorem rMin_2_2 (l : Launch) (Z : State) (a0 : Array Value) (hw : oHW a0 Z) (ws : List Jvm.Cond)  (h0 : Heap) (O0 : Ext Z.heap h0)  :
    oCon l Z yy8 jdk_29_method_69_code 2 (some .int) ws ({ frames := 0, cells := 0, slots := 0, locals := 0 } : Room) #[(.int (2 : Int32)), (.int (2 : Int32))] h0 (Q_rMin_2_2 Z  h0) := by
  refine oCon.of (Jvm.Free.JP.mathPlain rfl (by decide +kernel)) ?_
  intro p e s m below meth c T X hx hby hml hown hnm hret hlk hZ e0
  have hml : c.maxLocals = 2 := hml
  have K : oKp h0 h0 [] [] := oKp.nil _ _
  refine oWk.cast (g' := (mkF m 0 #[iv 2, iv 2] [])) (by first | rfl | (simp [entryFrame, mkF, argsToLocals, Value.category]; done)) ?_
  refine oWk.to (mkF m 10 #[iv 2, iv 2] [(.int 2)]) (fun _ kt => zI X hx hby d17_0 rfl rfl (zI X hx hby d17_1 rfl rfl (zN X hx hby d17_2 rfl rfl (flt (by decide)).2.2.1 (zI X hx hby d17_5 rfl rfl (zG X hx hby d17_6 rfl (pc' := 10) rfl kt))))) ?_
  exact oRetI X hx hlk hret (hb hby d17_10) (by rw [e0]; exact ⟨rfl, rfl, K⟩) (by decide) (by decide)
def Q_rLI_3_0 (Z : State) (xb : Addr) (xk : ClassId) (xc0 xc1 xc2 : Int32) (h0 : Heap) (v : Option Value) (h : Heap) (L : List Loc) : Prop := v = some (.int (0 : Int32)) ∧ h = h0 ∧ oKp h0 h [] L
theorem rLI_3_0 (l : Launch) (Z : State) (a0 : Array Value) (hw : oHW a0 Z) (ws : List Jvm.Cond) (xb : Addr) (xk : ClassId) (xc0 xc1 xc2 : Int32) (h0 : Heap) (O0 : Ext Z.heap h0) (V_xb : Arv Z h0 xb xk .byte (3 : Int32) [(ib xc0), (ib xc1), (ib xc2)] (.int (0 : Int32))) (hu0 : (xc0.toInt8.toInt32) = (58 : Int32)) (hu1 : ¬ (xc1.toInt8.toInt32) = (58 : Int32)) (hu2 : ¬ (xc2.toInt8.toInt32) = (58 : Int32)) :
    oCon l Z yy9 jdk_43_method_27_code 4 (some .int) ws ({ frames := 1, cells := 0, slots := 0, locals := 13 } : Room) #[(.ref xb), (.int (58 : Int32)), (.int (2 : Int32))] h0 (Q_rLI_3_0 Z xb xk xc0 xc1 xc2 h0) := by
  refine oCon.of (plainFor_of_name pn_0) ?_
  intro p e s m below meth c T X hx hby hml hown hnm hret hlk hZ e0
  have hml : c.maxLocals = 4 := hml
  have K : oKp h0 h0 [] [] := oKp.nil _ _
  refine oWk.cast (g' := (mkF m 0 #[rv xb, iv 58, iv 2, uu] [])) (by first | rfl | (simp [entryFrame, mkF, argsToLocals, Value.category]; done)) ?_
  refine oWk.st (fun _ kt => zI X hx hby d15_0 rfl rfl kt) ?_
  have Oh := K.old O0 all0
  obtain ⟨T, L2, X, e0, K, st⟩ := (cs5 hw).pure X hx hZ hown e0 K (A := [(.int (58 : Int32))]) rfl (rCanI l Z a0 hw []  h0 Oh ) (fun _ _ _ q => q) (W := 0) (by decide) hml (Ls := #[rv xb, iv 58, iv 2, uu]) rfl (rest := []) rfl rfl hby d15_1
  refine oWk.to (mkF m 14 #[rv xb, iv 58, iv 2, uu] [(.int 2), (.int 2)]) (fun _ kt => st _ (zF X hx hby d15_4 rfl rfl ((if0 _ _).trans (feq (by decide)).2) (pc' := 9) rfl (zI X hx hby d15_9 rfl rfl (zA X hx hby d15_10 rfl rfl rfl (oAl X hx hZ e0 V_xb hby d15_11 rfl rfl (zK X hx hby d15_12 rfl (XS.isub X.here hx rfl (hb hby d15_13) rfl kt))))))) ?_
  obtain ⟨T, L5, X, e0, K, st⟩ := (cs6 hw).pure X hx hZ hown e0 K (A := [(.int (2 : Int32)), (.int (2 : Int32))]) rfl (rMin_2_2 l Z a0 hw []  h0 Oh ) (fun _ _ _ q => q) (W := 0) (by decide) hml (Ls := #[rv xb, iv 58, iv 2, uu]) rfl (rest := []) rfl rfl hby d15_14
  refine oWk.to (mkF m 25 #[rv xb, iv 58, iv 2, iv 2] [(ib xc2)]) (fun _ kt => st _ (zSn X hx hby d15_17 rfl rfl (l' := #[rv xb, iv 58, iv 2, iv 2]) rfl (zI X hx hby d15_18 rfl rfl (zH X hx hby d15_19 rfl rfl ((if0 _ _).trans (flt (by decide)).1) (zA X hx hby d15_22 rfl rfl rfl (zI X hx hby d15_23 rfl rfl (oLdB X hx hZ e0 V_xb (2 : Int32) (ib xc2) ⟨by decide, by decide⟩ rfl hby d15_24 rfl rfl kt))))))) ?_
  refine oWk.to (mkF m 27 #[rv xb, iv 58, iv 2, iv 2] [(.int 58), (ib xc2)]) (fun _ kt => zI X hx hby d15_25 rfl rfl (XS.i2b X.here hx rfl (hb hby d15_26) rfl kt)) ?_
  refine oWk.to (mkF m 24 #[rv xb, iv 58, iv 2, iv 1] [(.int 1), (.ref xb)]) (fun _ kt => zY X hx hby d15_27 rfl rfl (feq hu2).2 (pc' := 32) rfl (zC X hx hby d15_32 rfl rfl (l' := #[rv xb, iv 58, iv 2, iv ((2 : Int32) + (-1 : Int32))]) rfl (zG X hx hby d15_35 rfl (pc' := 18) rfl (zI X hx hby d15_18 rfl rfl (zH X hx hby d15_19 rfl rfl ((if0 _ _).trans (flt (by decide)).1) (zA X hx hby d15_22 rfl rfl rfl (zI X hx hby d15_23 rfl rfl kt))))))) ?_
  refine oWk.to (mkF m 27 #[rv xb, iv 58, iv 2, iv 1] [(.int 58), (ib xc1)]) (fun _ kt => oLdB X hx hZ e0 V_xb (1 : Int32) (ib xc1) ⟨by decide, by decide⟩ rfl hby d15_24 rfl rfl (zI X hx hby d15_25 rfl rfl (XS.i2b X.here hx rfl (hb hby d15_26) rfl kt))) ?_
  refine oWk.to (mkF m 24 #[rv xb, iv 58, iv 2, iv 0] [(.int 0), (.ref xb)]) (fun _ kt => zY X hx hby d15_27 rfl rfl (feq hu1).2 (pc' := 32) rfl (zC X hx hby d15_32 rfl rfl (l' := #[rv xb, iv 58, iv 2, iv ((1 : Int32) + (-1 : Int32))]) rfl (zG X hx hby d15_35 rfl (pc' := 18) rfl (zI X hx hby d15_18 rfl rfl (zH X hx hby d15_19 rfl rfl ((if0 _ _).trans (flt (by decide)).1) (zA X hx hby d15_22 rfl rfl rfl (zI X hx hby d15_23 rfl rfl kt))))))) ?_
  refine oWk.to (mkF m 27 #[rv xb, iv 58, iv 2, iv 0] [(.int 58), (ib xc0)]) (fun _ kt => oLdB X hx hZ e0 V_xb (0 : Int32) (ib xc0) ⟨by decide, by decide⟩ rfl hby d15_24 rfl rfl (zI X hx hby d15_25 rfl rfl (XS.i2b X.here hx rfl (hb hby d15_26) rfl kt))) ?_
  refine oWk.to (mkF m 31 #[rv xb, iv 58, iv 2, iv 0] [(.int 0)]) (fun _ kt => zN X hx hby d15_27 rfl rfl (teq hu0).2 (zI X hx hby d15_30 rfl rfl kt)) ?_
  exact oRetI X hx hlk hret (hb hby d15_31) (by rw [e0]; exact ⟨rfl, rfl, K⟩) (by decide) (by decide)
def Q_rLn_3 (Z : State) (xa xb : Addr) (xk : ClassId) (xz xc0 xc1 xc2 : Int32) (h0 : Heap) (v : Option Value) (h : Heap) (L : List Loc) : Prop := v = some (.int (3 : Int32)) ∧ h = h0 ∧ oKp h0 h [] L
theorem rLn_3 (l : Launch) (Z : State) (a0 : Array Value) (hw : oHW a0 Z) (ws : List Jvm.Cond) (xa xb : Addr) (xk : ClassId) (xz xc0 xc1 xc2 : Int32) (h0 : Heap) (O0 : Ext Z.heap h0) (S_COMPACT_STRINGS : Sta Z Z.heap Y0 Y1 "Z" (.int xz)) (hz : ¬ xz = (0 : Int32)) (E_xa : Exa Z h0 xa Y0) (F_coder_xa : Fld Z h0 xa Y0 "coder" "B" (.int (0 : Int32))) (F_value_xa : Fld Z h0 xa Y0 "value" "[B" (.ref xb)) (V_xb : Arv Z h0 xb xk .byte (3 : Int32) [(ib xc0), (ib xc1), (ib xc2)] (.int (0 : Int32))) :
    oCon l Z yy12 jdk_42_method_54_code 1 (some .int) ws ({ frames := 1, cells := 0, slots := 0, locals := 13 } : Room) #[(.ref xa)] h0 (Q_rLn_3 Z xa xb xk xz xc0 xc1 xc2 h0) := by
  refine oCon.of (plainFor_of_name pn_3) ?_
  intro p e s m below meth c T X hx hby hml hown hnm hret hlk hZ e0
  have hml : c.maxLocals = 1 := hml
  have K : oKp h0 h0 [] [] := oKp.nil _ _
  refine oWk.cast (g' := (mkF m 0 #[rv xa] [])) (by first | rfl | (simp [entryFrame, mkF, argsToLocals, Value.category]; done)) ?_
  refine oWk.st (fun _ kt => zA X hx hby d11_0 rfl rfl rfl kt) ?_
  obtain ⟨T, X, e0, st⟩ := getF X hx hZ hown (host := "") (Or.inl (oW hw 36 rfl)) Via.refl e0 F_value_xa (g := (mkF m 1 #[rv xa] [(.ref xa)])) rfl rfl (hb hby d11_1)
  refine oWk.st (fun _ kt => st _ (oAl X hx hZ e0 V_xb hby d11_4 rfl rfl (zA X hx hby d11_5 rfl rfl rfl kt))) ?_
  have Oh := K.old O0 all0
  obtain ⟨T, L3, X, e0, K, st⟩ := (cs7 hw).pure X hx hZ hown e0 K (A := [(.ref xa)]) ⟨rfl, _, _, rfl, E_xa⟩ (rCdr l Z a0 hw [] xa xz h0 Oh S_COMPACT_STRINGS hz F_coder_xa) (fun _ _ _ q => q) (W := 1) (by decide) hml (Ls := #[rv xa]) rfl (rest := [(.int (3 : Int32))]) rfl rfl hby d11_6
  refine oWk.to (mkF m 10 #[rv xa] [(.int 3)]) (fun _ kt => st _ (XS.ishr X.here hx rfl (hb hby d11_9) rfl kt)) ?_
  exact oRetI X hx hlk hret (hb hby d11_10) (by rw [e0]; exact ⟨rfl, rfl, K⟩) (by decide) (by decide)
def Q_rLJ_3_0 (Z : State) (xa xb : Addr) (xk : ClassId) (xz xc0 xc1 xc2 : Int32) (h0 : Heap) (v : Option Value) (h : Heap) (L : List Loc) : Prop := v = some (.int (0 : Int32)) ∧ h = h0 ∧ oKp h0 h [] L
theorem rLJ_3_0 (l : Launch) (Z : State) (a0 : Array Value) (hw : oHW a0 Z) (ws : List Jvm.Cond) (xa xb : Addr) (xk : ClassId) (xz xc0 xc1 xc2 : Int32) (h0 : Heap) (O0 : Ext Z.heap h0) (S_COMPACT_STRINGS : Sta Z Z.heap Y0 Y1 "Z" (.int xz)) (hz : ¬ xz = (0 : Int32)) (E_xa : Exa Z h0 xa Y0) (F_coder_xa : Fld Z h0 xa Y0 "coder" "B" (.int (0 : Int32))) (F_value_xa : Fld Z h0 xa Y0 "value" "[B" (.ref xb)) (V_xb : Arv Z h0 xb xk .byte (3 : Int32) [(ib xc0), (ib xc1), (ib xc2)] (.int (0 : Int32))) (hu0 : (xc0.toInt8.toInt32) = (58 : Int32)) (hu1 : ¬ (xc1.toInt8.toInt32) = (58 : Int32)) (hu2 : ¬ (xc2.toInt8.toInt32) = (58 : Int32)) :
    oCon l Z yy13 jdk_42_method_83_code 3 (some .int) ws ({ frames := 2, cells := 0, slots := 0, locals := 28 } : Room) #[(.ref xa), (.int (58 : Int32)), (.int (2 : Int32))] h0 (Q_rLJ_3_0 Z xa xb xk xz xc0 xc1 xc2 h0) := by
  refine oCon.of (plainFor_of_name pn_3) ?_
  intro p e s m below meth c T X hx hby hml hown hnm hret hlk hZ e0
  have hml : c.maxLocals = 3 := hml
  have K : oKp h0 h0 [] [] := oKp.nil _ _
  refine oWk.cast (g' := (mkF m 0 #[rv xa, iv 58, iv 2] [])) (by first | rfl | (simp [entryFrame, mkF, argsToLocals, Value.category]; done)) ?_
  refine oWk.st (fun _ kt => zA X hx hby d13_0 rfl rfl rfl kt) ?_
  have Oh := K.old O0 all0
  obtain ⟨T, L2, X, e0, K, st⟩ := (cs8 hw).pure X hx hZ hown e0 K (A := [(.ref xa)]) ⟨rfl, _, _, rfl, E_xa⟩ (rIsL l Z a0 hw [] xa xz h0 Oh S_COMPACT_STRINGS hz F_coder_xa) (fun _ _ _ q => q) (W := 0) (by decide) hml (Ls := #[rv xa, iv 58, iv 2]) rfl (rest := []) rfl rfl hby d13_1
  refine oWk.st (fun _ kt => st _ (zH X hx hby d13_4 rfl rfl ((if0 _ _).trans (feq (by decide)).1) (zA X hx hby d13_7 rfl rfl rfl kt))) ?_
  obtain ⟨T, X, e0, st⟩ := getF X hx hZ hown (host := "") (Or.inl (oW hw 36 rfl)) Via.refl e0 F_value_xa (g := (mkF m 8 #[rv xa, iv 58, iv 2] [(.ref xa)])) rfl rfl (hb hby d13_8)
  refine oWk.st (fun _ kt => st _ (zI X hx hby d13_11 rfl rfl (zI X hx hby d13_12 rfl rfl kt))) ?_
  obtain ⟨T, L4, X, e0, K, st⟩ := (cs9 hw).pure X hx hZ hown e0 K (A := [(.ref xb), (.int (58 : Int32)), (.int (2 : Int32))]) rfl (rLI_3_0 l Z a0 hw [] xb xk xc0 xc1 xc2 h0 Oh V_xb hu0 hu1 hu2) (fun _ _ _ q => q) (W := 0) (by decide) hml (Ls := #[rv xa, iv 58, iv 2]) rfl (rest := []) rfl rfl hby d13_13
  refine oWk.to (mkF m 28 #[rv xa, iv 58, iv 2] [(.int 0)]) (fun _ kt => st _ (zG X hx hby d13_16 rfl (pc' := 28) rfl kt)) ?_
  exact oRetI X hx hlk hret (hb hby d13_28) (by rw [e0]; exact ⟨rfl, rfl, K⟩) (by decide) (by decide)
def Q_rLK_3_0 (Z : State) (xa xb : Addr) (xk : ClassId) (xz xc0 xc1 xc2 : Int32) (h0 : Heap) (v : Option Value) (h : Heap) (L : List Loc) : Prop := v = some (.int (0 : Int32)) ∧ h = h0 ∧ oKp h0 h [] L
theorem rLK_3_0 (l : Launch) (Z : State) (a0 : Array Value) (hw : oHW a0 Z) (ws : List Jvm.Cond) (xa xb : Addr) (xk : ClassId) (xz xc0 xc1 xc2 : Int32) (h0 : Heap) (O0 : Ext Z.heap h0) (S_COMPACT_STRINGS : Sta Z Z.heap Y0 Y1 "Z" (.int xz)) (hz : ¬ xz = (0 : Int32)) (E_xa : Exa Z h0 xa Y0) (F_coder_xa : Fld Z h0 xa Y0 "coder" "B" (.int (0 : Int32))) (F_value_xa : Fld Z h0 xa Y0 "value" "[B" (.ref xb)) (V_xb : Arv Z h0 xb xk .byte (3 : Int32) [(ib xc0), (ib xc1), (ib xc2)] (.int (0 : Int32))) (hu0 : (xc0.toInt8.toInt32) = (58 : Int32)) (hu1 : ¬ (xc1.toInt8.toInt32) = (58 : Int32)) (hu2 : ¬ (xc2.toInt8.toInt32) = (58 : Int32)) :
    oCon l Z yy14 jdk_42_method_82_code 2 (some .int) ws ({ frames := 3, cells := 0, slots := 0, locals := 42 } : Room) #[(.ref xa), (.int (58 : Int32))] h0 (Q_rLK_3_0 Z xa xb xk xz xc0 xc1 xc2 h0) := by
  refine oCon.of (plainFor_of_name pn_3) ?_
  intro p e s m below meth c T X hx hby hml hown hnm hret hlk hZ e0
  have hml : c.maxLocals = 2 := hml
  have K : oKp h0 h0 [] [] := oKp.nil _ _
  refine oWk.cast (g' := (mkF m 0 #[rv xa, iv 58] [])) (by first | rfl | (simp [entryFrame, mkF, argsToLocals, Value.category]; done)) ?_
  refine oWk.st (fun _ kt => zA X hx hby d10_0 rfl rfl rfl (zI X hx hby d10_1 rfl rfl (zA X hx hby d10_2 rfl rfl rfl kt))) ?_
  have Oh := K.old O0 all0
  obtain ⟨T, L2, X, e0, K, st⟩ := (cs10 hw).pure X hx hZ hown e0 K (A := [(.ref xa)]) ⟨rfl, _, _, rfl, E_xa⟩ (rLn_3 l Z a0 hw [] xa xb xk xz xc0 xc1 xc2 h0 Oh S_COMPACT_STRINGS hz E_xa F_coder_xa F_value_xa V_xb) (fun _ _ _ q => q) (W := 2) (by decide) hml (Ls := #[rv xa, iv 58]) rfl (rest := [(.int (58 : Int32)), (.ref xa)]) rfl rfl hby d10_3
  refine oWk.st (fun _ kt => st _ (zK X hx hby d10_6 rfl (XS.isub X.here hx rfl (hb hby d10_7) rfl kt))) ?_
  obtain ⟨T, L4, X, e0, K, st⟩ := (cs11 hw).pure X hx hZ hown e0 K (A := [(.ref xa), (.int (58 : Int32)), (.int (2 : Int32))]) ⟨rfl, _, _, rfl, E_xa⟩ (rLJ_3_0 l Z a0 hw [] xa xb xk xz xc0 xc1 xc2 h0 Oh S_COMPACT_STRINGS hz E_xa F_coder_xa F_value_xa V_xb hu0 hu1 hu2) (fun _ _ _ q => q) (W := 0) (by decide) hml (Ls := #[rv xa, iv 58]) rfl (rest := []) rfl rfl hby d10_8
  refine oWk.to (mkF m 11 #[rv xa, iv 58] [(.int 0)]) (fun _ kt => st _ kt) ?_
  exact oRetI X hx hlk hret (hb hby d10_11) (by rw [e0]; exact ⟨rfl, rfl, K⟩) (by decide) (by decide)
def Q_rNS_3_0_0 (Z : State) (xb : Addr) (xk : ClassId) (xc0 xc1 xc2 : Int32) (h0 : Heap) (v : Option Value) (h : Heap) (L : List Loc) : Prop := ∃ (nr : Addr) (nb : Addr) (nk : ClassId), v = some (.ref nr) ∧ oKp h0 h [] L ∧ (Exa Z h nr Y0) ∧ (Fld Z h nr Y0 "coder" "B" (.int (0 : Int32))) ∧ (Fld Z h nr Y0 "value" "[B" (.ref nb)) ∧ (Arv Z h nb nk .byte (0 : Int32) [] (.int (0 : Int32)))
theorem rNS_3_0_0 (l : Launch) (Z : State) (a0 : Array Value) (hw : oHW a0 Z) (ws : List Jvm.Cond) (xb : Addr) (xk : ClassId) (xc0 xc1 xc2 : Int32) (h0 : Heap) (O0 : Ext Z.heap h0) (V_xb : Arv Z h0 xb xk .byte (3 : Int32) [(ib xc0), (ib xc1), (ib xc2)] (.int (0 : Int32))) :
    oConH l Z oEL yy17 jdk_43_method_47_code 3 (some (.object Y0)) ws ({ frames := 0, cells := 2, slots := 4, locals := 0 } : Room) #[(.ref xb), (.int (0 : Int32)), (.int (0 : Int32))] h0 [] (Q_rNS_3_0_0 Z xb xk xc0 xc1 xc2 h0) := by
  refine oConH.of (plainFor_of_name pn_0) ?_
  intro p e s m below meth c T vm X hx hby hml hown hnm hret hlk hZ e0 B hsf
  have hml : c.maxLocals = 3 := hml
  have K : oKp h0 h0 [] [] := oKp.nil _ _
  refine oWk.cast (g' := (mkF m 0 #[rv xb, iv 0, iv 0] [])) (by first | rfl | (simp [entryFrame, mkF, argsToLocals, Value.category]; done)) ?_
  refine oWk.st (fun _ kt => zI X hx hby d21_0 rfl rfl (zH X hx hby d21_1 rfl rfl ((if0 _ _).trans (teq (by decide)).2) kt)) ?_
  obtain ⟨lt1, T, h, lt1b, lt1k, X, e2, E1, hZ, hown, B, C, E_lt1, F_coder_lt1, F_value_lt1, V_lt1b, hne, st⟩ := oLdcR X hx hZ hown (oW hw 94 rfl) (oSA hw) e0 (oELw hw) (List.mem_of_getElem? (i := 0) rfl) B (vs := []) (z := 0) oTx0 (by decide) rfl (g := (mkF m 4 #[rv xb, iv 0, iv 0] [])) rfl (hb hby d21_4) (n := 0) (by decide) (by decide) (by decide) (by decide)
  have e0 := e2
  have K := K.ext E1
  refine oWk.to (mkF m 6 #[rv xb, iv 0, iv 0] [(.ref lt1)]) (fun _ kt => st _ kt) ?_
  exact oRetH X hx hlk hZ (oELw hw) e0 B hret (oNarR rfl rfl) (Or.inr (Or.inr (Or.inr (Or.inr ⟨rfl, rfl, rfl⟩)))) (hb hby d21_6) (by rw [e0]; exact ⟨lt1, lt1b, lt1k, rfl, K, E_lt1, F_coder_lt1, F_value_lt1, V_lt1b⟩) (by decide) (by decide)
def Q_rSub_3_0_0 (Z : State) (xa xb : Addr) (xk : ClassId) (xfm : Value) (xz xc0 xc1 xc2 : Int32) (h0 : Heap) (v : Option Value) (h : Heap) (L : List Loc) : Prop := ∃ (nr : Addr) (nb : Addr) (nk : ClassId), v = some (.ref nr) ∧ oKp h0 h [] L ∧ (Exa Z h nr Y0) ∧ (Fld Z h nr Y0 "coder" "B" (.int (0 : Int32))) ∧ (Fld Z h nr Y0 "value" "[B" (.ref nb)) ∧ (Arv Z h nb nk .byte (0 : Int32) [] (.int (0 : Int32)))
theorem rSub_3_0_0 (l : Launch) (Z : State) (a0 : Array Value) (hw : oHW a0 Z) (ws : List Jvm.Cond) (xa xb : Addr) (xk : ClassId) (xfm : Value) (xz xc0 xc1 xc2 : Int32) (h0 : Heap) (O0 : Ext Z.heap h0) (S_COMPACT_STRINGS : Sta Z Z.heap Y0 Y1 "Z" (.int xz)) (hz : ¬ xz = (0 : Int32)) (S_SIOOBE_FORMATTER : Sta Z Z.heap Y2 Y3 Y4 xfm) (hcat : xfm.category = 1) (E_xa : Exa Z h0 xa Y0) (F_coder_xa : Fld Z h0 xa Y0 "coder" "B" (.int (0 : Int32))) (F_value_xa : Fld Z h0 xa Y0 "value" "[B" (.ref xb)) (V_xb : Arv Z h0 xb xk .byte (3 : Int32) [(ib xc0), (ib xc1), (ib xc2)] (.int (0 : Int32))) :
    oConH l Z oEL yy18 jdk_42_method_92_code 5 (some (.object Y0)) ws ({ frames := 2, cells := 2, slots := 4, locals := 29 } : Room) #[(.ref xa), (.int (0 : Int32)), (.int (0 : Int32))] h0 [] (Q_rSub_3_0_0 Z xa xb xk xfm xz xc0 xc1 xc2 h0) := by
  refine oConH.of (plainFor_of_name pn_3) ?_
  intro p e s m below meth c T vm X hx hby hml hown hnm hret hlk hZ e0 B hsf
  have hml : c.maxLocals = 5 := hml
  have K : oKp h0 h0 [] [] := oKp.nil _ _
  refine oWk.cast (g' := (mkF m 0 #[rv xa, iv 0, iv 0, uu, uu] [])) (by first | rfl | (simp [entryFrame, mkF, argsToLocals, Value.category]; done)) ?_
  refine oWk.st (fun _ kt => zA X hx hby d18_0 rfl rfl rfl kt) ?_
  have Oh := K.old O0 all0
  obtain ⟨T, L2, X, e0, K, st⟩ := (cs10 hw).pure X hx hZ hown e0 K (A := [(.ref xa)]) ⟨rfl, _, _, rfl, E_xa⟩ (rLn_3 l Z a0 hw [] xa xb xk xz xc0 xc1 xc2 h0 Oh S_COMPACT_STRINGS hz E_xa F_coder_xa F_value_xa V_xb) (fun _ _ _ q => q) (W := 0) (by decide) hml (Ls := #[rv xa, iv 0, iv 0, uu, uu]) rfl (rest := []) rfl rfl hby d18_1
  refine oWk.st (fun _ kt => st _ (zSn X hx hby d18_4 rfl rfl (l' := #[rv xa, iv 0, iv 0, iv 3, uu]) rfl (zI X hx hby d18_5 rfl rfl (zI X hx hby d18_6 rfl rfl (zI X hx hby d18_7 rfl rfl kt))))) ?_
  obtain ⟨T, L4, X, e0, K, st⟩ := (cs13 hw).pure X hx hZ hown e0 K (A := [(.int (0 : Int32)), (.int (0 : Int32)), (.int (3 : Int32))]) rfl (rCkB l Z a0 hw [] (0 : Int32) (0 : Int32) (3 : Int32) xfm h0 Oh S_SIOOBE_FORMATTER hcat (by decide) (by decide) (by decide)) (fun _ _ _ q => q) (W := 0) (by decide) hml (Ls := #[rv xa, iv 0, iv 0, iv 3, uu]) rfl (rest := []) rfl rfl hby d18_8
  refine oWk.to (mkF m 23 #[rv xa, iv 0, iv 0, iv 3, uu] [(.int 0)]) (fun _ kt => st _ (zI X hx hby d18_11 rfl rfl (zH X hx hby d18_12 rfl rfl ((if0 _ _).trans (teq (by decide)).2) (zI X hx hby d18_15 rfl rfl (zI X hx hby d18_16 rfl rfl (zY X hx hby d18_17 rfl rfl (feq (by decide)).2 (pc' := 22) rfl (zI X hx hby d18_22 rfl rfl kt))))))) ?_
  refine oWk.st (fun _ kt => zI X hx hby d18_23 rfl rfl (XS.isub X.here hx rfl (hb hby d18_24) rfl (zS X hx hby d18_25 rfl rfl (l' := #[rv xa, iv 0, iv 0, iv 3, iv 0]) rfl (zA X hx hby d18_27 rfl rfl rfl kt)))) ?_
  obtain ⟨T, L6, X, e0, K, st⟩ := (cs8 hw).pure X hx hZ hown e0 K (A := [(.ref xa)]) ⟨rfl, _, _, rfl, E_xa⟩ (rIsL l Z a0 hw [] xa xz h0 Oh S_COMPACT_STRINGS hz F_coder_xa) (fun _ _ _ q => q) (W := 0) (by decide) hml (Ls := #[rv xa, iv 0, iv 0, iv 3, iv 0]) rfl (rest := []) rfl rfl hby d18_28
  refine oWk.st (fun _ kt => st _ (zH X hx hby d18_31 rfl rfl ((if0 _ _).trans (feq (by decide)).1) (zA X hx hby d18_34 rfl rfl rfl kt))) ?_
  obtain ⟨T, X, e0, st⟩ := getF X hx hZ hown (host := "") (Or.inl (oW hw 36 rfl)) Via.refl e0 F_value_xa (g := (mkF m 35 #[rv xa, iv 0, iv 0, iv 3, iv 0] [(.ref xa)])) rfl rfl (hb hby d18_35)
  refine oWk.st (fun _ kt => st _ (zI X hx hby d18_38 rfl rfl (zJ X hx hby d18_39 rfl rfl kt))) ?_
  obtain ⟨_, _, ⟨T, L8, k8, n8⟩, -, X, hS, hgr, ⟨Lc8, hQ, l8, y8, z8, C⟩, st⟩ := callSS X hx (y := yy17) hown (mvT hZ (oW hw 91 rfl)) (mvT hZ (oW hw 92 rfl)) (mvT hZ (oW hw 69 rfl)) (mvT hZ (oW hw 93 rfl)) (by decide) (oBackH (W := 0) (rNS_3_0_0 l Z a0 hw [] xb xk xc0 xc1 xc2 h0 Oh V_xb) hZ (oW hw 93 rfl) (oW hw 69 rfl) (by decide) (by decide) (oELw hw) B.2.1 all0) (g := (mkF m 41 #[rv xa, iv 0, iv 0, iv 3, iv 0] [(.int 0), (.int 0), (.ref xb)])) rfl (by rw [hml]; rfl) (argsL := [(.ref xb), (.int (0 : Int32)), (.int (0 : Int32))]) (rest := []) (lenOf pd_13 rfl) rfl (Nat.le_of_eq rfl) (hb hby d18_41) (fun _ _ => ⟨rfl, e0, (by decide : 0 + 2 ≤ _), (by decide : 0 + 4 ≤ _)⟩)
  dsimp only [Pt.U, Pt.locs, Pt.cells, Pt.slots] at X l8 y8 z8 st hQ C hS hgr
  subst l8 y8 z8
  have X : Stand p l e _ (s.setVm T.vm) m _ below meth c T _ _ _ := X
  obtain ⟨h, e2⟩ : ∃ z, T.heap = z := ⟨_, rfl⟩
  have B := B.call e0 hS hgr C e2
  obtain ⟨hZ, hown⟩ := oWide hZ hown hS
  rw [e2] at hQ C
  have e0 := e2
  obtain ⟨nr7, nb7, nk7, rfl, K7, E_nr7, F_coder_nr7, F_value_nr7, V_nb7⟩ := hQ
  have K := K.call K7 all0
  refine oWk.to (mkF m 57 #[rv xa, iv 0, iv 0, iv 3, iv 0] [(.ref nr7)]) (fun _ kt => st.trans (zG X hx hby d18_44 rfl (pc' := 57) rfl kt)) ?_
  exact oRetH X hx hlk hZ (oELw hw) e0 B hret (oNarR rfl rfl) (Or.inr (Or.inr (Or.inr (Or.inr ⟨rfl, rfl, rfl⟩)))) (hb hby d18_57) (by rw [e0]; exact ⟨nr7, nb7, nk7, rfl, K, E_nr7, F_coder_nr7, F_value_nr7, V_nb7⟩) (by decide) (by decide)
def Q_rSP_3_0 (Z : State) (xa xb : Addr) (xk : ClassId) (xfm : Value) (xz xc0 xc1 xc2 : Int32) (h0 : Heap) (v : Option Value) (h : Heap) (L : List Loc) : Prop := ∃ (nr : Addr) (nb : Addr) (nk : ClassId), v = some (.ref nr) ∧ oKp h0 h [] L ∧ (Exa Z h nr Y0) ∧ (Fld Z h nr Y0 "coder" "B" (.int (0 : Int32))) ∧ (Fld Z h nr Y0 "value" "[B" (.ref nb)) ∧ (Arv Z h nb nk .byte (0 : Int32) [] (.int (0 : Int32)))
theorem rSP_3_0 (l : Launch) (Z : State) (a0 : Array Value) (hw : oHW a0 Z) (ws : List Jvm.Cond) (xa xb : Addr) (xk : ClassId) (xfm : Value) (xz xc0 xc1 xc2 : Int32) (h0 : Heap) (O0 : Ext Z.heap h0) (S_COMPACT_STRINGS : Sta Z Z.heap Y0 Y1 "Z" (.int xz)) (hz : ¬ xz = (0 : Int32)) (S_SIOOBE_FORMATTER : Sta Z Z.heap Y2 Y3 Y4 xfm) (hcat : xfm.category = 1) (E_xa : Exa Z h0 xa Y0) (F_coder_xa : Fld Z h0 xa Y0 "coder" "B" (.int (0 : Int32))) (F_value_xa : Fld Z h0 xa Y0 "value" "[B" (.ref xb)) (V_xb : Arv Z h0 xb xk .byte (3 : Int32) [(ib xc0), (ib xc1), (ib xc2)] (.int (0 : Int32))) (hu0 : (xc0.toInt8.toInt32) = (58 : Int32)) (hu1 : ¬ (xc1.toInt8.toInt32) = (58 : Int32)) (hu2 : ¬ (xc2.toInt8.toInt32) = (58 : Int32)) :
    oConH l Z oEL yy19 prog_3_method_2_code 1 (some (.object Y0)) ws ({ frames := 4, cells := 2, slots := 4, locals := 57 } : Room) #[(.ref xa)] h0 [] (Q_rSP_3_0 Z xa xb xk xfm xz xc0 xc1 xc2 h0) := by
  refine oConH.of (plainFor_of_name pn_5) ?_
  intro p e s m below meth c T vm X hx hby hml hown hnm hret hlk hZ e0 B hsf
  have hml : c.maxLocals = 1 := hml
  have K : oKp h0 h0 [] [] := oKp.nil _ _
  refine oWk.cast (g' := (mkF m 0 #[rv xa] [])) (by first | rfl | (simp [entryFrame, mkF, argsToLocals, Value.category]; done)) ?_
  refine oWk.st (fun _ kt => zA X hx hby d9_0 rfl rfl rfl (zK X hx hby d9_1 rfl (zA X hx hby d9_2 rfl rfl rfl (zL X hx hby d9_3 rfl kt)))) ?_
  have Oh := K.old O0 all0
  obtain ⟨T, L2, X, e0, K, st⟩ := (cs14 hw).pure X hx hZ hown e0 K (A := [(.ref xa), (.int (58 : Int32))]) ⟨rfl, _, _, rfl, E_xa⟩ (rLK_3_0 l Z a0 hw [] xa xb xk xz xc0 xc1 xc2 h0 Oh S_COMPACT_STRINGS hz E_xa F_coder_xa F_value_xa V_xb hu0 hu1 hu2) (fun _ _ _ q => q) (W := 2) (by decide) hml (Ls := #[rv xa]) rfl (rest := [(.int (0 : Int32)), (.ref xa)]) rfl rfl hby d9_5
  refine oWk.st (fun _ kt => st _ kt) ?_
  obtain ⟨cq4, kq4, q4a, q4b, q4c⟩ := isOf hZ e0 E_xa
  obtain ⟨_, _, ⟨T, L4, k4, n4⟩, -, X, hS, hgr, ⟨Lc4, hQ, l4, y4, z4, C⟩, st⟩ := X.virtualBackS hx (y := yy18) (z := yy18) hown (mvT hZ (oW hw 78 rfl)) (mvT hZ (oW hw 79 rfl)) (notFace_of_selects (args := #[]) (mvT hZ (oW hw 81 rfl))) (mvT hZ (oW hw 81 rfl)) (mvT hZ (oW hw 80 rfl)) (by decide) (oBackH (W := 0) (rSub_3_0_0 l Z a0 hw [] xa xb xk xfm xz xc0 xc1 xc2 h0 Oh S_COMPACT_STRINGS hz S_SIOOBE_FORMATTER hcat E_xa F_coder_xa F_value_xa V_xb) hZ (oW hw 82 rfl) (oW hw 11 rfl) (by decide) (by decide) (oELw hw) B.2.1 all0) q4a q4c (g := (mkF m 8 #[rv xa] [(.int 0), (.int 0), (.ref xa)])) rfl (by rw [hml]; rfl) (Steps.refl _) (argsL := [(.int (0 : Int32)), (.int (0 : Int32))]) (rest := []) (lenOf pd_15 rfl) rfl (Nat.le_of_eq rfl) (hb hby d9_8) (fun _ _ => ⟨rfl, e0, (by decide : 0 + 2 ≤ _), (by decide : 0 + 4 ≤ _)⟩)
  dsimp only [Pt.U, Pt.locs, Pt.cells, Pt.slots] at X l4 y4 z4 st hQ C hS hgr
  subst l4 y4 z4
  have X : Stand p l e _ (s.setVm T.vm) m _ below meth c T _ _ _ := X
  obtain ⟨h, e2⟩ : ∃ z, T.heap = z := ⟨_, rfl⟩
  have B := B.call e0 hS hgr C e2
  obtain ⟨hZ, hown⟩ := oWide hZ hown hS
  rw [e2] at hQ C
  have e0 := e2
  obtain ⟨nr3, nb3, nk3, rfl, K3, E_nr3, F_coder_nr3, F_value_nr3, V_nb3⟩ := hQ
  have K := K.call K3 all0
  refine oWk.to (mkF m 11 #[rv xa] [(.ref nr3)]) (fun _ kt => st.trans kt) ?_
  exact oRetH X hx hlk hZ (oELw hw) e0 B hret (oNarR rfl rfl) (Or.inr (Or.inr (Or.inr (Or.inr ⟨rfl, rfl, rfl⟩)))) (hb hby d9_11) (by rw [e0]; exact ⟨nr3, nb3, nk3, rfl, K, E_nr3, F_coder_nr3, F_value_nr3, V_nb3⟩) (by decide) (by decide)
def Q_rLI_3_1 (Z : State) (xb : Addr) (xk : ClassId) (xc0 xc1 xc2 : Int32) (h0 : Heap) (v : Option Value) (h : Heap) (L : List Loc) : Prop := v = some (.int (1 : Int32)) ∧ h = h0 ∧ oKp h0 h [] L
theorem rLI_3_1 (l : Launch) (Z : State) (a0 : Array Value) (hw : oHW a0 Z) (ws : List Jvm.Cond) (xb : Addr) (xk : ClassId) (xc0 xc1 xc2 : Int32) (h0 : Heap) (O0 : Ext Z.heap h0) (V_xb : Arv Z h0 xb xk .byte (3 : Int32) [(ib xc0), (ib xc1), (ib xc2)] (.int (0 : Int32))) (hu1 : (xc1.toInt8.toInt32) = (58 : Int32)) (hu2 : ¬ (xc2.toInt8.toInt32) = (58 : Int32)) :
    oCon l Z yy9 jdk_43_method_27_code 4 (some .int) ws ({ frames := 1, cells := 0, slots := 0, locals := 13 } : Room) #[(.ref xb), (.int (58 : Int32)), (.int (2 : Int32))] h0 (Q_rLI_3_1 Z xb xk xc0 xc1 xc2 h0) := by
  refine oCon.of (plainFor_of_name pn_0) ?_
  intro p e s m below meth c T X hx hby hml hown hnm hret hlk hZ e0
  have hml : c.maxLocals = 4 := hml
  have K : oKp h0 h0 [] [] := oKp.nil _ _
  refine oWk.cast (g' := (mkF m 0 #[rv xb, iv 58, iv 2, uu] [])) (by first | rfl | (simp [entryFrame, mkF, argsToLocals, Value.category]; done)) ?_
  refine oWk.st (fun _ kt => zI X hx hby d15_0 rfl rfl kt) ?_
  have Oh := K.old O0 all0
  obtain ⟨T, L2, X, e0, K, st⟩ := (cs5 hw).pure X hx hZ hown e0 K (A := [(.int (58 : Int32))]) rfl (rCanI l Z a0 hw []  h0 Oh ) (fun _ _ _ q => q) (W := 0) (by decide) hml (Ls := #[rv xb, iv 58, iv 2, uu]) rfl (rest := []) rfl rfl hby d15_1
  refine oWk.to (mkF m 14 #[rv xb, iv 58, iv 2, uu] [(.int 2), (.int 2)]) (fun _ kt => st _ (zF X hx hby d15_4 rfl rfl ((if0 _ _).trans (feq (by decide)).2) (pc' := 9) rfl (zI X hx hby d15_9 rfl rfl (zA X hx hby d15_10 rfl rfl rfl (oAl X hx hZ e0 V_xb hby d15_11 rfl rfl (zK X hx hby d15_12 rfl (XS.isub X.here hx rfl (hb hby d15_13) rfl kt))))))) ?_
  obtain ⟨T, L5, X, e0, K, st⟩ := (cs6 hw).pure X hx hZ hown e0 K (A := [(.int (2 : Int32)), (.int (2 : Int32))]) rfl (rMin_2_2 l Z a0 hw []  h0 Oh ) (fun _ _ _ q => q) (W := 0) (by decide) hml (Ls := #[rv xb, iv 58, iv 2, uu]) rfl (rest := []) rfl rfl hby d15_14
  refine oWk.to (mkF m 25 #[rv xb, iv 58, iv 2, iv 2] [(ib xc2)]) (fun _ kt => st _ (zSn X hx hby d15_17 rfl rfl (l' := #[rv xb, iv 58, iv 2, iv 2]) rfl (zI X hx hby d15_18 rfl rfl (zH X hx hby d15_19 rfl rfl ((if0 _ _).trans (flt (by decide)).1) (zA X hx hby d15_22 rfl rfl rfl (zI X hx hby d15_23 rfl rfl (oLdB X hx hZ e0 V_xb (2 : Int32) (ib xc2) ⟨by decide, by decide⟩ rfl hby d15_24 rfl rfl kt))))))) ?_
  refine oWk.to (mkF m 27 #[rv xb, iv 58, iv 2, iv 2] [(.int 58), (ib xc2)]) (fun _ kt => zI X hx hby d15_25 rfl rfl (XS.i2b X.here hx rfl (hb hby d15_26) rfl kt)) ?_
  refine oWk.to (mkF m 24 #[rv xb, iv 58, iv 2, iv 1] [(.int 1), (.ref xb)]) (fun _ kt => zY X hx hby d15_27 rfl rfl (feq hu2).2 (pc' := 32) rfl (zC X hx hby d15_32 rfl rfl (l' := #[rv xb, iv 58, iv 2, iv ((2 : Int32) + (-1 : Int32))]) rfl (zG X hx hby d15_35 rfl (pc' := 18) rfl (zI X hx hby d15_18 rfl rfl (zH X hx hby d15_19 rfl rfl ((if0 _ _).trans (flt (by decide)).1) (zA X hx hby d15_22 rfl rfl rfl (zI X hx hby d15_23 rfl rfl kt))))))) ?_
  refine oWk.to (mkF m 27 #[rv xb, iv 58, iv 2, iv 1] [(.int 58), (ib xc1)]) (fun _ kt => oLdB X hx hZ e0 V_xb (1 : Int32) (ib xc1) ⟨by decide, by decide⟩ rfl hby d15_24 rfl rfl (zI X hx hby d15_25 rfl rfl (XS.i2b X.here hx rfl (hb hby d15_26) rfl kt))) ?_
  refine oWk.to (mkF m 31 #[rv xb, iv 58, iv 2, iv 1] [(.int 1)]) (fun _ kt => zN X hx hby d15_27 rfl rfl (teq hu1).2 (zI X hx hby d15_30 rfl rfl kt)) ?_
  exact oRetI X hx hlk hret (hb hby d15_31) (by rw [e0]; exact ⟨rfl, rfl, K⟩) (by decide) (by decide)
def Q_rLJ_3_1 (Z : State) (xa xb : Addr) (xk : ClassId) (xz xc0 xc1 xc2 : Int32) (h0 : Heap) (v : Option Value) (h : Heap) (L : List Loc) : Prop := v = some (.int (1 : Int32)) ∧ h = h0 ∧ oKp h0 h [] L
theorem rLJ_3_1 (l : Launch) (Z : State) (a0 : Array Value) (hw : oHW a0 Z) (ws : List Jvm.Cond) (xa xb : Addr) (xk : ClassId) (xz xc0 xc1 xc2 : Int32) (h0 : Heap) (O0 : Ext Z.heap h0) (S_COMPACT_STRINGS : Sta Z Z.heap Y0 Y1 "Z" (.int xz)) (hz : ¬ xz = (0 : Int32)) (E_xa : Exa Z h0 xa Y0) (F_coder_xa : Fld Z h0 xa Y0 "coder" "B" (.int (0 : Int32))) (F_value_xa : Fld Z h0 xa Y0 "value" "[B" (.ref xb)) (V_xb : Arv Z h0 xb xk .byte (3 : Int32) [(ib xc0), (ib xc1), (ib xc2)] (.int (0 : Int32))) (hu1 : (xc1.toInt8.toInt32) = (58 : Int32)) (hu2 : ¬ (xc2.toInt8.toInt32) = (58 : Int32)) :
    oCon l Z yy13 jdk_42_method_83_code 3 (some .int) ws ({ frames := 2, cells := 0, slots := 0, locals := 28 } : Room) #[(.ref xa), (.int (58 : Int32)), (.int (2 : Int32))] h0 (Q_rLJ_3_1 Z xa xb xk xz xc0 xc1 xc2 h0) := by
  refine oCon.of (plainFor_of_name pn_3) ?_
  intro p e s m below meth c T X hx hby hml hown hnm hret hlk hZ e0
  have hml : c.maxLocals = 3 := hml
  have K : oKp h0 h0 [] [] := oKp.nil _ _
  refine oWk.cast (g' := (mkF m 0 #[rv xa, iv 58, iv 2] [])) (by first | rfl | (simp [entryFrame, mkF, argsToLocals, Value.category]; done)) ?_
  refine oWk.st (fun _ kt => zA X hx hby d13_0 rfl rfl rfl kt) ?_
  have Oh := K.old O0 all0
  obtain ⟨T, L2, X, e0, K, st⟩ := (cs8 hw).pure X hx hZ hown e0 K (A := [(.ref xa)]) ⟨rfl, _, _, rfl, E_xa⟩ (rIsL l Z a0 hw [] xa xz h0 Oh S_COMPACT_STRINGS hz F_coder_xa) (fun _ _ _ q => q) (W := 0) (by decide) hml (Ls := #[rv xa, iv 58, iv 2]) rfl (rest := []) rfl rfl hby d13_1
  refine oWk.st (fun _ kt => st _ (zH X hx hby d13_4 rfl rfl ((if0 _ _).trans (feq (by decide)).1) (zA X hx hby d13_7 rfl rfl rfl kt))) ?_
  obtain ⟨T, X, e0, st⟩ := getF X hx hZ hown (host := "") (Or.inl (oW hw 36 rfl)) Via.refl e0 F_value_xa (g := (mkF m 8 #[rv xa, iv 58, iv 2] [(.ref xa)])) rfl rfl (hb hby d13_8)
  refine oWk.st (fun _ kt => st _ (zI X hx hby d13_11 rfl rfl (zI X hx hby d13_12 rfl rfl kt))) ?_
  obtain ⟨T, L4, X, e0, K, st⟩ := (cs9 hw).pure X hx hZ hown e0 K (A := [(.ref xb), (.int (58 : Int32)), (.int (2 : Int32))]) rfl (rLI_3_1 l Z a0 hw [] xb xk xc0 xc1 xc2 h0 Oh V_xb hu1 hu2) (fun _ _ _ q => q) (W := 0) (by decide) hml (Ls := #[rv xa, iv 58, iv 2]) rfl (rest := []) rfl rfl hby d13_13
  refine oWk.to (mkF m 28 #[rv xa, iv 58, iv 2] [(.int 1)]) (fun _ kt => st _ (zG X hx hby d13_16 rfl (pc' := 28) rfl kt)) ?_
  exact oRetI X hx hlk hret (hb hby d13_28) (by rw [e0]; exact ⟨rfl, rfl, K⟩) (by decide) (by decide)
def Q_rLK_3_1 (Z : State) (xa xb : Addr) (xk : ClassId) (xz xc0 xc1 xc2 : Int32) (h0 : Heap) (v : Option Value) (h : Heap) (L : List Loc) : Prop := v = some (.int (1 : Int32)) ∧ h = h0 ∧ oKp h0 h [] L
theorem rLK_3_1 (l : Launch) (Z : State) (a0 : Array Value) (hw : oHW a0 Z) (ws : List Jvm.Cond) (xa xb : Addr) (xk : ClassId) (xz xc0 xc1 xc2 : Int32) (h0 : Heap) (O0 : Ext Z.heap h0) (S_COMPACT_STRINGS : Sta Z Z.heap Y0 Y1 "Z" (.int xz)) (hz : ¬ xz = (0 : Int32)) (E_xa : Exa Z h0 xa Y0) (F_coder_xa : Fld Z h0 xa Y0 "coder" "B" (.int (0 : Int32))) (F_value_xa : Fld Z h0 xa Y0 "value" "[B" (.ref xb)) (V_xb : Arv Z h0 xb xk .byte (3 : Int32) [(ib xc0), (ib xc1), (ib xc2)] (.int (0 : Int32))) (hu1 : (xc1.toInt8.toInt32) = (58 : Int32)) (hu2 : ¬ (xc2.toInt8.toInt32) = (58 : Int32)) :
    oCon l Z yy14 jdk_42_method_82_code 2 (some .int) ws ({ frames := 3, cells := 0, slots := 0, locals := 42 } : Room) #[(.ref xa), (.int (58 : Int32))] h0 (Q_rLK_3_1 Z xa xb xk xz xc0 xc1 xc2 h0) := by
  refine oCon.of (plainFor_of_name pn_3) ?_
  intro p e s m below meth c T X hx hby hml hown hnm hret hlk hZ e0
  have hml : c.maxLocals = 2 := hml
  have K : oKp h0 h0 [] [] := oKp.nil _ _
  refine oWk.cast (g' := (mkF m 0 #[rv xa, iv 58] [])) (by first | rfl | (simp [entryFrame, mkF, argsToLocals, Value.category]; done)) ?_
  refine oWk.st (fun _ kt => zA X hx hby d10_0 rfl rfl rfl (zI X hx hby d10_1 rfl rfl (zA X hx hby d10_2 rfl rfl rfl kt))) ?_
  have Oh := K.old O0 all0
  obtain ⟨T, L2, X, e0, K, st⟩ := (cs10 hw).pure X hx hZ hown e0 K (A := [(.ref xa)]) ⟨rfl, _, _, rfl, E_xa⟩ (rLn_3 l Z a0 hw [] xa xb xk xz xc0 xc1 xc2 h0 Oh S_COMPACT_STRINGS hz E_xa F_coder_xa F_value_xa V_xb) (fun _ _ _ q => q) (W := 2) (by decide) hml (Ls := #[rv xa, iv 58]) rfl (rest := [(.int (58 : Int32)), (.ref xa)]) rfl rfl hby d10_3
  refine oWk.st (fun _ kt => st _ (zK X hx hby d10_6 rfl (XS.isub X.here hx rfl (hb hby d10_7) rfl kt))) ?_
  obtain ⟨T, L4, X, e0, K, st⟩ := (cs11 hw).pure X hx hZ hown e0 K (A := [(.ref xa), (.int (58 : Int32)), (.int (2 : Int32))]) ⟨rfl, _, _, rfl, E_xa⟩ (rLJ_3_1 l Z a0 hw [] xa xb xk xz xc0 xc1 xc2 h0 Oh S_COMPACT_STRINGS hz E_xa F_coder_xa F_value_xa V_xb hu1 hu2) (fun _ _ _ q => q) (W := 0) (by decide) hml (Ls := #[rv xa, iv 58]) rfl (rest := []) rfl rfl hby d10_8
  refine oWk.to (mkF m 11 #[rv xa, iv 58] [(.int 1)]) (fun _ kt => st _ kt) ?_
  exact oRetI X hx hlk hret (hb hby d10_11) (by rw [e0]; exact ⟨rfl, rfl, K⟩) (by decide) (by decide)
def Q_rMin_3_1 (Z : State)  (h0 : Heap) (v : Option Value) (h : Heap) (L : List Loc) : Prop := v = some (.int (1 : Int32)) ∧ h = h0 ∧ oKp h0 h [] L
theorem rMin_3_1 (l : Launch) (Z : State) (a0 : Array Value) (hw : oHW a0 Z) (ws : List Jvm.Cond)  (h0 : Heap) (O0 : Ext Z.heap h0)  :
    oCon l Z yy8 jdk_29_method_69_code 2 (some .int) ws ({ frames := 0, cells := 0, slots := 0, locals := 0 } : Room) #[(.int (3 : Int32)), (.int (1 : Int32))] h0 (Q_rMin_3_1 Z  h0) := by
  refine oCon.of (Jvm.Free.JP.mathPlain rfl (by decide +kernel)) ?_
  intro p e s m below meth c T X hx hby hml hown hnm hret hlk hZ e0
  have hml : c.maxLocals = 2 := hml
  have K : oKp h0 h0 [] [] := oKp.nil _ _
  refine oWk.cast (g' := (mkF m 0 #[iv 3, iv 1] [])) (by first | rfl | (simp [entryFrame, mkF, argsToLocals, Value.category]; done)) ?_
  refine oWk.to (mkF m 10 #[iv 3, iv 1] [(.int 1)]) (fun _ kt => zI X hx hby d17_0 rfl rfl (zI X hx hby d17_1 rfl rfl (zY X hx hby d17_2 rfl rfl (tlt (by decide)).2.2.1 (pc' := 9) rfl (zI X hx hby d17_9 rfl rfl kt)))) ?_
  exact oRetI X hx hlk hret (hb hby d17_10) (by rw [e0]; exact ⟨rfl, rfl, K⟩) (by decide) (by decide)
def Q_rCRB_3_0_1 (Z : State) (xb : Addr) (xk : ClassId) (xc0 xc1 xc2 : Int32) (h0 : Heap) (v : Option Value) (h : Heap) (L : List Loc) : Prop := ∃ (nb : Addr) (nk : ClassId), v = some (.ref nb) ∧ oKp h0 h [] L ∧ (h0.size ≤ nb) ∧ (Arv Z h nb nk .byte (1 : Int32) [(ib xc0)] (.int (0 : Int32)))
theorem rCRB_3_0_1 (l : Launch) (Z : State) (a0 : Array Value) (hw : oHW a0 Z) (ws : List Jvm.Cond) (xb : Addr) (xk : ClassId) (xc0 xc1 xc2 : Int32) (h0 : Heap) (O0 : Ext Z.heap h0) (V_xb : Arv Z h0 xb xk .byte (3 : Int32) [(ib xc0), (ib xc1), (ib xc2)] (.int (0 : Int32))) :
    oCon l Z yy21 jdk_65_method_133_code 5 (some (.array .byte)) ws ({ frames := 1, cells := 1, slots := 1, locals := 18 } : Room) #[(.ref xb), (.int (0 : Int32)), (.int (1 : Int32))] h0 (Q_rCRB_3_0_1 Z xb xk xc0 xc1 xc2 h0) := by
  refine oCon.of (plainFor_of_name pn_6) ?_
  intro p e s m below meth c T X hx hby hml hown hnm hret hlk hZ e0
  have hml : c.maxLocals = 5 := hml
  have K : oKp h0 h0 [] [] := oKp.nil _ _
  refine oWk.cast (g' := (mkF m 0 #[rv xb, iv 0, iv 1, uu, uu] [])) (by first | rfl | (simp [entryFrame, mkF, argsToLocals, Value.category]; done)) ?_
  refine oWk.st (fun _ kt => zI X hx hby d23_0 rfl rfl (zI X hx hby d23_1 rfl rfl kt)) ?_
  have Oh := K.old O0 all0
  obtain ⟨T, L2, X, e0, K, st⟩ := (cs15 hw).pure X hx hZ hown e0 K (A := [(.int (0 : Int32)), (.int (1 : Int32))]) rfl (rCkL_0_1 l Z a0 hw []  h0 Oh ) (fun _ _ _ q => q) (W := 0) (by decide) hml (Ls := #[rv xb, iv 0, iv 1, uu, uu]) rfl (rest := []) rfl rfl hby d23_2
  refine oWk.st (fun _ kt => st _ (zI X hx hby d23_5 rfl rfl (zI X hx hby d23_6 rfl rfl (XS.isub X.here hx rfl (hb hby d23_7) rfl (zSn X hx hby d23_8 rfl rfl (l' := #[rv xb, iv 0, iv 1, iv 1, uu]) rfl (zI X hx hby d23_9 rfl rfl kt)))))) ?_
  obtain ⟨o3, g3⟩ : ∃ z, z = h0.size := ⟨_, rfl⟩
  have ne_xb_o3 : xb ≠ o3 := Nat.ne_of_lt (Nat.lt_of_lt_of_le V_xb.lt (Nat.le_of_eq g3.symm))
  have ge_o3 : h0.size ≤ o3 := Nat.le_trans K.le (Nat.le_of_eq g3.symm)
  obtain ⟨T, h, k3, X, e0, E3, A3, st⟩ := newP X hx hZ (oW hw 27 rfl) e0 (g := (mkF m 10 #[rv xb, iv 0, iv 1, iv 1, uu] [(.int 1)])) rfl (hb hby d23_10) rfl (by decide) (cap := 1) (by decide) (by decide) (by decide) (by decide)
  rw [← g3] at A3 st
  have K := K.ext E3
  have V_o3 : Arv Z h o3 k3 .byte (1 : Int32) [(.int (0 : Int32))] (.int (0 : Int32)) := (Arv.new A3 (by decide)).pad (pad_rep [] (.int (0 : Int32)) 1)
  refine oWk.to (mkF m 20 #[rv xb, iv 0, iv 1, iv 1, rv o3] [(.ref xb), (.int 0), (.ref o3), (.int 0), (.ref xb)]) (fun _ kt => st _ (zT X hx hby d23_12 rfl rfl rfl (l' := #[rv xb, iv 0, iv 1, iv 1, rv o3]) rfl (zA X hx hby d23_14 rfl rfl rfl (zI X hx hby d23_15 rfl rfl (zB X hx hby d23_16 rfl rfl rfl (zK X hx hby d23_18 rfl (zA X hx hby d23_19 rfl rfl rfl kt))))))) ?_
  have V_xb := (V_xb.ext E3)
  refine oWk.st (fun _ kt => oAl X hx hZ e0 V_xb hby d23_20 rfl rfl (zI X hx hby d23_21 rfl rfl (XS.isub X.here hx rfl (hb hby d23_22) rfl (zI X hx hby d23_23 rfl rfl kt)))) ?_
  have Oh := K.old O0 all0
  obtain ⟨T, L6, X, e0, K, st⟩ := (cs16 hw).pure X hx hZ hown e0 K (A := [(.int (3 : Int32)), (.int (1 : Int32))]) rfl (rMin_3_1 l Z a0 hw []  h Oh ) (fun _ _ _ q => q) (W := 4) (by decide) hml (Ls := #[rv xb, iv 0, iv 1, iv 1, rv o3]) rfl (rest := [(.int (0 : Int32)), (.ref o3), (.int (0 : Int32)), (.ref xb)]) rfl rfl hby d23_24
  refine oWk.st (fun _ kt => st _ kt) ?_
  obtain ⟨T, h, L7, X, e0, N7, C7, V7, st⟩ := cpA X hx hZ hown (oW hw 110 rfl) (oW hw 113 rfl) (oW hw 111 rfl) (oW hw 112 rfl) e0 (us := [(ib xc0)]) V_xb V_o3 (Or.inl ⟨rfl, rfl⟩) (by decide) (by decide) (by decide) (by decide) (by decide) rfl (by decide) K.fr ge_o3 (g := (mkF m 27 #[rv xb, iv 0, iv 1, iv 1, rv o3] [(.int 1), (.int 0), (.ref o3), (.int 0), (.ref xb)])) rfl (by rw [hml]; rfl) rfl (hb hby d23_27) (by decide) (W := 0) (Nat.le_of_eq rfl) (by decide)
  have K : oKp h0 h [] L7 := ⟨K.1.trans C7 (allS (Or.inr ge_o3) all0), fun y hy => Or.inr (N7 y hy)⟩
  have V_o3 : Arv Z h o3 k3 .byte (1 : Int32) [(ib xc0)] (.int (0 : Int32)) := V7
  refine oWk.to (mkF m 32 #[rv xb, iv 0, iv 1, iv 1, rv o3] [(.ref o3)]) (fun _ kt => st _ (zB X hx hby d23_30 rfl rfl rfl kt)) ?_
  exact oRetA X hx hlk hret rfl rfl (hb hby d23_32) (by rw [e0]; exact ⟨o3, k3, rfl, K, ge_o3, V_o3⟩) (by decide) (by decide)
def Q_rCR_3_0_1 (Z : State) (xb : Addr) (xk : ClassId) (xc0 xc1 xc2 : Int32) (h0 : Heap) (v : Option Value) (h : Heap) (L : List Loc) : Prop := ∃ (nb : Addr) (nk : ClassId), v = some (.ref nb) ∧ oKp h0 h [] L ∧ (h0.size ≤ nb) ∧ (Arv Z h nb nk .byte (1 : Int32) [(ib xc0)] (.int (0 : Int32)))
theorem rCR_3_0_1 (l : Launch) (Z : State) (a0 : Array Value) (hw : oHW a0 Z) (ws : List Jvm.Cond) (xb : Addr) (xk : ClassId) (xc0 xc1 xc2 : Int32) (h0 : Heap) (O0 : Ext Z.heap h0) (V_xb : Arv Z h0 xb xk .byte (3 : Int32) [(ib xc0), (ib xc1), (ib xc2)] (.int (0 : Int32))) :
    oCon l Z yy22 jdk_65_method_132_code 3 (some (.array .byte)) ws ({ frames := 2, cells := 1, slots := 1, locals := 34 } : Room) #[(.ref xb), (.int (0 : Int32)), (.int (1 : Int32))] h0 (Q_rCR_3_0_1 Z xb xk xc0 xc1 xc2 h0) := by
  refine oCon.of (plainFor_of_name pn_6) ?_
  intro p e s m below meth c T X hx hby hml hown hnm hret hlk hZ e0
  have hml : c.maxLocals = 3 := hml
  have K : oKp h0 h0 [] [] := oKp.nil _ _
  refine oWk.cast (g' := (mkF m 0 #[rv xb, iv 0, iv 1] [])) (by first | rfl | (simp [entryFrame, mkF, argsToLocals, Value.category]; done)) ?_
  refine oWk.to (mkF m 11 #[rv xb, iv 0, iv 1] [(.ref xb)]) (fun _ kt => zI X hx hby d22_0 rfl rfl (zH X hx hby d22_1 rfl rfl ((if0 _ _).trans (teq (by decide)).2) (zI X hx hby d22_4 rfl rfl (zA X hx hby d22_5 rfl rfl rfl (oAl X hx hZ e0 V_xb hby d22_6 rfl rfl (zN X hx hby d22_7 rfl rfl (feq (by decide)).1 (zA X hx hby d22_10 rfl rfl rfl kt))))))) ?_
  refine oWk.st (fun _ kt => zI X hx hby d22_11 rfl rfl (zI X hx hby d22_12 rfl rfl kt)) ?_
  have lt_xb := V_xb.lt
  have Oh := K.old O0 all0
  obtain ⟨_, T, h, Lc3, X, e0, hQ, st⟩ := (cs17 hw).run X hx hZ hown e0 (A := [(.ref xb), (.int (0 : Int32)), (.int (1 : Int32))]) rfl (rCRB_3_0_1 l Z a0 hw [] xb xk xc0 xc1 xc2 h0 Oh V_xb) (W := 0) (by decide) hml (Ls := #[rv xb, iv 0, iv 1]) rfl (rest := []) rfl rfl hby d22_13
  obtain ⟨nb2, nk2, rfl, K2, gn_nb2, V_nb2⟩ := hQ
  have ge_nb2 := Nat.le_trans K.le gn_nb2
  have ne_xb_nb2 : xb ≠ nb2 := Nat.ne_of_lt (Nat.lt_of_lt_of_le lt_xb gn_nb2)
  have K := K.call K2 all0
  refine oWk.to (mkF m 16 #[rv xb, iv 0, iv 1] [(.ref nb2)]) (fun _ kt => st _ kt) ?_
  exact oRetA X hx hlk hret rfl rfl (hb hby d22_16) (by rw [e0]; exact ⟨nb2, nk2, rfl, K, ge_nb2, V_nb2⟩) (by decide) (by decide)
def Q_rNS_3_0_1 (Z : State) (xb : Addr) (xk : ClassId) (xc0 xc1 xc2 : Int32) (h0 : Heap) (v : Option Value) (h : Heap) (L : List Loc) : Prop := ∃ (nr : Addr) (nb : Addr) (nk : ClassId), v = some (.ref nr) ∧ oKp h0 h [] L ∧ (h0.size ≤ nr) ∧ (h0.size ≤ nb) ∧ (Exa Z h nr Y0) ∧ (Fld Z h nr Y0 "coder" "B" (.int (0 : Int32))) ∧ (Fld Z h nr Y0 "value" "[B" (.ref nb)) ∧ (Arv Z h nb nk .byte (1 : Int32) [(ib xc0)] (.int (0 : Int32)))
theorem rNS_3_0_1 (l : Launch) (Z : State) (a0 : Array Value) (hw : oHW a0 Z) (ws : List Jvm.Cond) (xb : Addr) (xk : ClassId) (xc0 xc1 xc2 : Int32) (h0 : Heap) (O0 : Ext Z.heap h0) (V_xb : Arv Z h0 xb xk .byte (3 : Int32) [(ib xc0), (ib xc1), (ib xc2)] (.int (0 : Int32))) :
    oCon l Z yy17 jdk_43_method_47_code 3 (some (.object Y0)) ws ({ frames := 3, cells := 2, slots := 5, locals := 50 } : Room) #[(.ref xb), (.int (0 : Int32)), (.int (1 : Int32))] h0 (Q_rNS_3_0_1 Z xb xk xc0 xc1 xc2 h0) := by
  refine oCon.of (plainFor_of_name pn_0) ?_
  intro p e s m below meth c T X hx hby hml hown hnm hret hlk hZ e0
  have hml : c.maxLocals = 3 := hml
  have K : oKp h0 h0 [] [] := oKp.nil _ _
  refine oWk.cast (g' := (mkF m 0 #[rv xb, iv 0, iv 1] [])) (by first | rfl | (simp [entryFrame, mkF, argsToLocals, Value.category]; done)) ?_
  refine oWk.st (fun _ kt => zI X hx hby d21_0 rfl rfl (zF X hx hby d21_1 rfl rfl ((if0 _ _).trans (feq (by decide)).2) (pc' := 7) rfl kt)) ?_
  obtain ⟨o1, g1⟩ : ∃ z, z = h0.size := ⟨_, rfl⟩
  have ne_xb_o1 : xb ≠ o1 := Nat.ne_of_lt (Nat.lt_of_lt_of_le V_xb.lt (Nat.le_of_eq g1.symm))
  have ge_o1 : h0.size ≤ o1 := Nat.le_trans K.le (Nat.le_of_eq g1.symm)
  obtain ⟨T, h, X, e0, E1, A1, D1, -, st⟩ := newO X hx hZ hown (oW hw 98 rfl) (oW hw 10 rfl) (oW hw 11 rfl) e0 (g := (mkF m 7 #[rv xb, iv 0, iv 1] [])) rfl (hb hby d21_7) (by decide) (by decide)
  rw [← g1] at A1 D1 st
  have K := K.ext E1
  have E_o1 := A1
  have F_coder_o1 : Fld Z h o1 Y0 "coder" "B" (.int (0 : Int32)) := D1 (Or.inr (oW hw 35 rfl)) (ty := .byte) (by decide)
  have F_value_o1 : Fld Z h o1 Y0 "value" "[B" .null := D1 (Or.inr (oW hw 37 rfl)) (ty := (.array .byte)) (by decide)
  refine oWk.to (mkF m 16 #[rv xb, iv 0, iv 1] [(.int 1), (.int 0), (.ref xb), (.ref o1), (.ref o1)]) (fun _ kt => st _ (zD X hx hby d21_10 rfl rfl rfl (zA X hx hby d21_11 rfl rfl rfl (zI X hx hby d21_12 rfl rfl (zI X hx hby d21_13 rfl rfl (zI X hx hby d21_14 rfl rfl (XS.iadd X.here hx rfl (hb hby d21_15) rfl kt))))))) ?_
  have V_xb := (V_xb.ext E1)
  have lt_xb := V_xb.lt
  have lt_o1 := E_o1.lt
  have Oh := K.old O0 all0
  obtain ⟨_, T, h, Lc3, X, e0, hQ, st⟩ := (cs18 hw).run X hx hZ hown e0 (A := [(.ref xb), (.int (0 : Int32)), (.int (1 : Int32))]) rfl (rCR_3_0_1 l Z a0 hw [] xb xk xc0 xc1 xc2 h Oh V_xb) (W := 2) (by decide) hml (Ls := #[rv xb, iv 0, iv 1]) rfl (rest := [(.ref o1), (.ref o1)]) rfl rfl hby d21_16
  obtain ⟨nb2, nk2, rfl, K2, gn_nb2, V_nb2⟩ := hQ
  have ge_nb2 := Nat.le_trans K.le gn_nb2
  have ne_xb_nb2 : xb ≠ nb2 := Nat.ne_of_lt (Nat.lt_of_lt_of_le lt_xb gn_nb2)
  have ne_o1_nb2 : o1 ≠ nb2 := Nat.ne_of_lt (Nat.lt_of_lt_of_le lt_o1 gn_nb2)
  have K := K.call K2 all0
  refine oWk.st (fun _ kt => st _ (zK X hx hby d21_19 rfl kt)) ?_
  have E_o1 := (E_o1.keep K2.1)
  have F_value_o1 := (F_value_o1.keep K2.1 nin0)
  have F_coder_o1 := (F_coder_o1.keep K2.1 nin0)
  have Oh := K.old O0 all0
  obtain ⟨_, T, h, Lc5, X, e0, hQ, st⟩ := (cs19 hw).run X hx hZ hown e0 (A := [(.ref o1), (.ref nb2), (.int (0 : Int32))]) ⟨rfl, _, _, rfl⟩ (rSIn l Z a0 hw [] o1 nb2 .null (.int (0 : Int32)) h Oh (Nat.le_trans O0.1 ge_o1) E_o1 F_value_o1 F_coder_o1) (W := 1) (by decide) hml (Ls := #[rv xb, iv 0, iv 1]) rfl (rest := [(.ref o1)]) rfl rfl hby d21_20
  obtain ⟨rfl, K4, E_o1, F_value_o1, F_coder_o1⟩ := hQ
  have K := K.call K4 (allS (Or.inr ge_o1) all0)
  refine oWk.to (mkF m 23 #[rv xb, iv 0, iv 1] [(.ref o1)]) (fun _ kt => st _ kt) ?_
  have V_nb2 := (V_nb2.keep K4.1 (ninS (Ne.symm ne_o1_nb2) nin0))
  exact oRetA X hx hlk hret rfl rfl (hb hby d21_23) (by rw [e0]; exact ⟨o1, nb2, nk2, rfl, K, ge_o1, ge_nb2, E_o1, F_coder_o1, F_value_o1, V_nb2⟩) (by decide) (by decide)
def Q_rSub_3_0_1 (Z : State) (xa xb : Addr) (xk : ClassId) (xfm : Value) (xz xc0 xc1 xc2 : Int32) (h0 : Heap) (v : Option Value) (h : Heap) (L : List Loc) : Prop := ∃ (nr : Addr) (nb : Addr) (nk : ClassId), v = some (.ref nr) ∧ oKp h0 h [] L ∧ (h0.size ≤ nr) ∧ (h0.size ≤ nb) ∧ (Exa Z h nr Y0) ∧ (Fld Z h nr Y0 "coder" "B" (.int (0 : Int32))) ∧ (Fld Z h nr Y0 "value" "[B" (.ref nb)) ∧ (Arv Z h nb nk .byte (1 : Int32) [(ib xc0)] (.int (0 : Int32)))
theorem rSub_3_0_1 (l : Launch) (Z : State) (a0 : Array Value) (hw : oHW a0 Z) (ws : List Jvm.Cond) (xa xb : Addr) (xk : ClassId) (xfm : Value) (xz xc0 xc1 xc2 : Int32) (h0 : Heap) (O0 : Ext Z.heap h0) (S_COMPACT_STRINGS : Sta Z Z.heap Y0 Y1 "Z" (.int xz)) (hz : ¬ xz = (0 : Int32)) (S_SIOOBE_FORMATTER : Sta Z Z.heap Y2 Y3 Y4 xfm) (hcat : xfm.category = 1) (E_xa : Exa Z h0 xa Y0) (F_coder_xa : Fld Z h0 xa Y0 "coder" "B" (.int (0 : Int32))) (F_value_xa : Fld Z h0 xa Y0 "value" "[B" (.ref xb)) (V_xb : Arv Z h0 xb xk .byte (3 : Int32) [(ib xc0), (ib xc1), (ib xc2)] (.int (0 : Int32))) :
    oCon l Z yy18 jdk_42_method_92_code 5 (some (.object Y0)) ws ({ frames := 4, cells := 2, slots := 5, locals := 64 } : Room) #[(.ref xa), (.int (0 : Int32)), (.int (1 : Int32))] h0 (Q_rSub_3_0_1 Z xa xb xk xfm xz xc0 xc1 xc2 h0) := by
  refine oCon.of (plainFor_of_name pn_3) ?_
  intro p e s m below meth c T X hx hby hml hown hnm hret hlk hZ e0
  have hml : c.maxLocals = 5 := hml
  have K : oKp h0 h0 [] [] := oKp.nil _ _
  refine oWk.cast (g' := (mkF m 0 #[rv xa, iv 0, iv 1, uu, uu] [])) (by first | rfl | (simp [entryFrame, mkF, argsToLocals, Value.category]; done)) ?_
  refine oWk.st (fun _ kt => zA X hx hby d18_0 rfl rfl rfl kt) ?_
  have Oh := K.old O0 all0
  obtain ⟨T, L2, X, e0, K, st⟩ := (cs10 hw).pure X hx hZ hown e0 K (A := [(.ref xa)]) ⟨rfl, _, _, rfl, E_xa⟩ (rLn_3 l Z a0 hw [] xa xb xk xz xc0 xc1 xc2 h0 Oh S_COMPACT_STRINGS hz E_xa F_coder_xa F_value_xa V_xb) (fun _ _ _ q => q) (W := 0) (by decide) hml (Ls := #[rv xa, iv 0, iv 1, uu, uu]) rfl (rest := []) rfl rfl hby d18_1
  refine oWk.st (fun _ kt => st _ (zSn X hx hby d18_4 rfl rfl (l' := #[rv xa, iv 0, iv 1, iv 3, uu]) rfl (zI X hx hby d18_5 rfl rfl (zI X hx hby d18_6 rfl rfl (zI X hx hby d18_7 rfl rfl kt))))) ?_
  obtain ⟨T, L4, X, e0, K, st⟩ := (cs13 hw).pure X hx hZ hown e0 K (A := [(.int (0 : Int32)), (.int (1 : Int32)), (.int (3 : Int32))]) rfl (rCkB l Z a0 hw [] (0 : Int32) (1 : Int32) (3 : Int32) xfm h0 Oh S_SIOOBE_FORMATTER hcat (by decide) (by decide) (by decide)) (fun _ _ _ q => q) (W := 0) (by decide) hml (Ls := #[rv xa, iv 0, iv 1, iv 3, uu]) rfl (rest := []) rfl rfl hby d18_8
  refine oWk.to (mkF m 23 #[rv xa, iv 0, iv 1, iv 3, uu] [(.int 1)]) (fun _ kt => st _ (zI X hx hby d18_11 rfl rfl (zH X hx hby d18_12 rfl rfl ((if0 _ _).trans (teq (by decide)).2) (zI X hx hby d18_15 rfl rfl (zI X hx hby d18_16 rfl rfl (zY X hx hby d18_17 rfl rfl (feq (by decide)).2 (pc' := 22) rfl (zI X hx hby d18_22 rfl rfl kt))))))) ?_
  refine oWk.st (fun _ kt => zI X hx hby d18_23 rfl rfl (XS.isub X.here hx rfl (hb hby d18_24) rfl (zS X hx hby d18_25 rfl rfl (l' := #[rv xa, iv 0, iv 1, iv 3, iv 1]) rfl (zA X hx hby d18_27 rfl rfl rfl kt)))) ?_
  obtain ⟨T, L6, X, e0, K, st⟩ := (cs8 hw).pure X hx hZ hown e0 K (A := [(.ref xa)]) ⟨rfl, _, _, rfl, E_xa⟩ (rIsL l Z a0 hw [] xa xz h0 Oh S_COMPACT_STRINGS hz F_coder_xa) (fun _ _ _ q => q) (W := 0) (by decide) hml (Ls := #[rv xa, iv 0, iv 1, iv 3, iv 1]) rfl (rest := []) rfl rfl hby d18_28
  refine oWk.st (fun _ kt => st _ (zH X hx hby d18_31 rfl rfl ((if0 _ _).trans (feq (by decide)).1) (zA X hx hby d18_34 rfl rfl rfl kt))) ?_
  obtain ⟨T, X, e0, st⟩ := getF X hx hZ hown (host := "") (Or.inl (oW hw 36 rfl)) Via.refl e0 F_value_xa (g := (mkF m 35 #[rv xa, iv 0, iv 1, iv 3, iv 1] [(.ref xa)])) rfl rfl (hb hby d18_35)
  refine oWk.st (fun _ kt => st _ (zI X hx hby d18_38 rfl rfl (zJ X hx hby d18_39 rfl rfl kt))) ?_
  have lt_xa := E_xa.lt
  have lt_xb := V_xb.lt
  obtain ⟨_, T, h, Lc8, X, e0, hQ, st⟩ := (cs20 hw).run X hx hZ hown e0 (A := [(.ref xb), (.int (0 : Int32)), (.int (1 : Int32))]) rfl (rNS_3_0_1 l Z a0 hw [] xb xk xc0 xc1 xc2 h0 Oh V_xb) (W := 0) (by decide) hml (Ls := #[rv xa, iv 0, iv 1, iv 3, iv 1]) rfl (rest := []) rfl rfl hby d18_41
  obtain ⟨nr7, nb7, nk7, rfl, K7, gn_nr7, gn_nb7, E_nr7, F_coder_nr7, F_value_nr7, V_nb7⟩ := hQ
  have ge_nr7 := Nat.le_trans K.le gn_nr7
  have ne_xa_nr7 : xa ≠ nr7 := Nat.ne_of_lt (Nat.lt_of_lt_of_le lt_xa gn_nr7)
  have ne_xb_nr7 : xb ≠ nr7 := Nat.ne_of_lt (Nat.lt_of_lt_of_le lt_xb gn_nr7)
  have ge_nb7 := Nat.le_trans K.le gn_nb7
  have ne_xa_nb7 : xa ≠ nb7 := Nat.ne_of_lt (Nat.lt_of_lt_of_le lt_xa gn_nb7)
  have ne_xb_nb7 : xb ≠ nb7 := Nat.ne_of_lt (Nat.lt_of_lt_of_le lt_xb gn_nb7)
  have K := K.call K7 all0
  refine oWk.to (mkF m 57 #[rv xa, iv 0, iv 1, iv 3, iv 1] [(.ref nr7)]) (fun _ kt => st _ (zG X hx hby d18_44 rfl (pc' := 57) rfl kt)) ?_
  exact oRetA X hx hlk hret rfl rfl (hb hby d18_57) (by rw [e0]; exact ⟨nr7, nb7, nk7, rfl, K, ge_nr7, ge_nb7, E_nr7, F_coder_nr7, F_value_nr7, V_nb7⟩) (by decide) (by decide)
def Q_rSP_3_1 (Z : State) (xa xb : Addr) (xk : ClassId) (xfm : Value) (xz xc0 xc1 xc2 : Int32) (h0 : Heap) (v : Option Value) (h : Heap) (L : List Loc) : Prop := ∃ (nr : Addr) (nb : Addr) (nk : ClassId), v = some (.ref nr) ∧ oKp h0 h [] L ∧ (h0.size ≤ nr) ∧ (h0.size ≤ nb) ∧ (Exa Z h nr Y0) ∧ (Fld Z h nr Y0 "coder" "B" (.int (0 : Int32))) ∧ (Fld Z h nr Y0 "value" "[B" (.ref nb)) ∧ (Arv Z h nb nk .byte (1 : Int32) [(ib xc0)] (.int (0 : Int32)))
theorem rSP_3_1 (l : Launch) (Z : State) (a0 : Array Value) (hw : oHW a0 Z) (ws : List Jvm.Cond) (xa xb : Addr) (xk : ClassId) (xfm : Value) (xz xc0 xc1 xc2 : Int32) (h0 : Heap) (O0 : Ext Z.heap h0) (S_COMPACT_STRINGS : Sta Z Z.heap Y0 Y1 "Z" (.int xz)) (hz : ¬ xz = (0 : Int32)) (S_SIOOBE_FORMATTER : Sta Z Z.heap Y2 Y3 Y4 xfm) (hcat : xfm.category = 1) (E_xa : Exa Z h0 xa Y0) (F_coder_xa : Fld Z h0 xa Y0 "coder" "B" (.int (0 : Int32))) (F_value_xa : Fld Z h0 xa Y0 "value" "[B" (.ref xb)) (V_xb : Arv Z h0 xb xk .byte (3 : Int32) [(ib xc0), (ib xc1), (ib xc2)] (.int (0 : Int32))) (hu1 : (xc1.toInt8.toInt32) = (58 : Int32)) (hu2 : ¬ (xc2.toInt8.toInt32) = (58 : Int32)) :
    oCon l Z yy19 prog_3_method_2_code 1 (some (.object Y0)) ws ({ frames := 5, cells := 2, slots := 5, locals := 80 } : Room) #[(.ref xa)] h0 (Q_rSP_3_1 Z xa xb xk xfm xz xc0 xc1 xc2 h0) := by
  refine oCon.of (plainFor_of_name pn_5) ?_
  intro p e s m below meth c T X hx hby hml hown hnm hret hlk hZ e0
  have hml : c.maxLocals = 1 := hml
  have K : oKp h0 h0 [] [] := oKp.nil _ _
  refine oWk.cast (g' := (mkF m 0 #[rv xa] [])) (by first | rfl | (simp [entryFrame, mkF, argsToLocals, Value.category]; done)) ?_
  refine oWk.st (fun _ kt => zA X hx hby d9_0 rfl rfl rfl (zK X hx hby d9_1 rfl (zA X hx hby d9_2 rfl rfl rfl (zL X hx hby d9_3 rfl kt)))) ?_
  have Oh := K.old O0 all0
  obtain ⟨T, L2, X, e0, K, st⟩ := (cs14 hw).pure X hx hZ hown e0 K (A := [(.ref xa), (.int (58 : Int32))]) ⟨rfl, _, _, rfl, E_xa⟩ (rLK_3_1 l Z a0 hw [] xa xb xk xz xc0 xc1 xc2 h0 Oh S_COMPACT_STRINGS hz E_xa F_coder_xa F_value_xa V_xb hu1 hu2) (fun _ _ _ q => q) (W := 2) (by decide) hml (Ls := #[rv xa]) rfl (rest := [(.int (0 : Int32)), (.ref xa)]) rfl rfl hby d9_5
  refine oWk.st (fun _ kt => st _ kt) ?_
  have lt_xa := E_xa.lt
  have lt_xb := V_xb.lt
  obtain ⟨_, T, h, Lc4, X, e0, hQ, st⟩ := (cs21 hw).run X hx hZ hown e0 (A := [(.ref xa), (.int (0 : Int32)), (.int (1 : Int32))]) ⟨rfl, _, _, rfl, E_xa⟩ (rSub_3_0_1 l Z a0 hw [] xa xb xk xfm xz xc0 xc1 xc2 h0 Oh S_COMPACT_STRINGS hz S_SIOOBE_FORMATTER hcat E_xa F_coder_xa F_value_xa V_xb) (W := 0) (by decide) hml (Ls := #[rv xa]) rfl (rest := []) rfl rfl hby d9_8
  obtain ⟨nr3, nb3, nk3, rfl, K3, gn_nr3, gn_nb3, E_nr3, F_coder_nr3, F_value_nr3, V_nb3⟩ := hQ
  have ge_nr3 := Nat.le_trans K.le gn_nr3
  have ne_xa_nr3 : xa ≠ nr3 := Nat.ne_of_lt (Nat.lt_of_lt_of_le lt_xa gn_nr3)
  have ne_xb_nr3 : xb ≠ nr3 := Nat.ne_of_lt (Nat.lt_of_lt_of_le lt_xb gn_nr3)
  have ge_nb3 := Nat.le_trans K.le gn_nb3
  have ne_xa_nb3 : xa ≠ nb3 := Nat.ne_of_lt (Nat.lt_of_lt_of_le lt_xa gn_nb3)
  have ne_xb_nb3 : xb ≠ nb3 := Nat.ne_of_lt (Nat.lt_of_lt_of_le lt_xb gn_nb3)
  have K := K.call K3 all0
  refine oWk.to (mkF m 11 #[rv xa] [(.ref nr3)]) (fun _ kt => st _ kt) ?_
  exact oRetA X hx hlk hret rfl rfl (hb hby d9_11) (by rw [e0]; exact ⟨nr3, nb3, nk3, rfl, K, ge_nr3, ge_nb3, E_nr3, F_coder_nr3, F_value_nr3, V_nb3⟩) (by decide) (by decide)
def Q_rLI_3_2 (Z : State) (xb : Addr) (xk : ClassId) (xc0 xc1 xc2 : Int32) (h0 : Heap) (v : Option Value) (h : Heap) (L : List Loc) : Prop := v = some (.int (2 : Int32)) ∧ h = h0 ∧ oKp h0 h [] L
theorem rLI_3_2 (l : Launch) (Z : State) (a0 : Array Value) (hw : oHW a0 Z) (ws : List Jvm.Cond) (xb : Addr) (xk : ClassId) (xc0 xc1 xc2 : Int32) (h0 : Heap) (O0 : Ext Z.heap h0) (V_xb : Arv Z h0 xb xk .byte (3 : Int32) [(ib xc0), (ib xc1), (ib xc2)] (.int (0 : Int32))) (hu2 : (xc2.toInt8.toInt32) = (58 : Int32)) :
    oCon l Z yy9 jdk_43_method_27_code 4 (some .int) ws ({ frames := 1, cells := 0, slots := 0, locals := 13 } : Room) #[(.ref xb), (.int (58 : Int32)), (.int (2 : Int32))] h0 (Q_rLI_3_2 Z xb xk xc0 xc1 xc2 h0) := by
  refine oCon.of (plainFor_of_name pn_0) ?_
  intro p e s m below meth c T X hx hby hml hown hnm hret hlk hZ e0
  have hml : c.maxLocals = 4 := hml
  have K : oKp h0 h0 [] [] := oKp.nil _ _
  refine oWk.cast (g' := (mkF m 0 #[rv xb, iv 58, iv 2, uu] [])) (by first | rfl | (simp [entryFrame, mkF, argsToLocals, Value.category]; done)) ?_
  refine oWk.st (fun _ kt => zI X hx hby d15_0 rfl rfl kt) ?_
  have Oh := K.old O0 all0
  obtain ⟨T, L2, X, e0, K, st⟩ := (cs5 hw).pure X hx hZ hown e0 K (A := [(.int (58 : Int32))]) rfl (rCanI l Z a0 hw []  h0 Oh ) (fun _ _ _ q => q) (W := 0) (by decide) hml (Ls := #[rv xb, iv 58, iv 2, uu]) rfl (rest := []) rfl rfl hby d15_1
  refine oWk.to (mkF m 14 #[rv xb, iv 58, iv 2, uu] [(.int 2), (.int 2)]) (fun _ kt => st _ (zF X hx hby d15_4 rfl rfl ((if0 _ _).trans (feq (by decide)).2) (pc' := 9) rfl (zI X hx hby d15_9 rfl rfl (zA X hx hby d15_10 rfl rfl rfl (oAl X hx hZ e0 V_xb hby d15_11 rfl rfl (zK X hx hby d15_12 rfl (XS.isub X.here hx rfl (hb hby d15_13) rfl kt))))))) ?_
  obtain ⟨T, L5, X, e0, K, st⟩ := (cs6 hw).pure X hx hZ hown e0 K (A := [(.int (2 : Int32)), (.int (2 : Int32))]) rfl (rMin_2_2 l Z a0 hw []  h0 Oh ) (fun _ _ _ q => q) (W := 0) (by decide) hml (Ls := #[rv xb, iv 58, iv 2, uu]) rfl (rest := []) rfl rfl hby d15_14
  refine oWk.to (mkF m 25 #[rv xb, iv 58, iv 2, iv 2] [(ib xc2)]) (fun _ kt => st _ (zSn X hx hby d15_17 rfl rfl (l' := #[rv xb, iv 58, iv 2, iv 2]) rfl (zI X hx hby d15_18 rfl rfl (zH X hx hby d15_19 rfl rfl ((if0 _ _).trans (flt (by decide)).1) (zA X hx hby d15_22 rfl rfl rfl (zI X hx hby d15_23 rfl rfl (oLdB X hx hZ e0 V_xb (2 : Int32) (ib xc2) ⟨by decide, by decide⟩ rfl hby d15_24 rfl rfl kt))))))) ?_
  refine oWk.to (mkF m 27 #[rv xb, iv 58, iv 2, iv 2] [(.int 58), (ib xc2)]) (fun _ kt => zI X hx hby d15_25 rfl rfl (XS.i2b X.here hx rfl (hb hby d15_26) rfl kt)) ?_
  refine oWk.to (mkF m 31 #[rv xb, iv 58, iv 2, iv 2] [(.int 2)]) (fun _ kt => zN X hx hby d15_27 rfl rfl (teq hu2).2 (zI X hx hby d15_30 rfl rfl kt)) ?_
  exact oRetI X hx hlk hret (hb hby d15_31) (by rw [e0]; exact ⟨rfl, rfl, K⟩) (by decide) (by decide)
def Q_rLJ_3_2 (Z : State) (xa xb : Addr) (xk : ClassId) (xz xc0 xc1 xc2 : Int32) (h0 : Heap) (v : Option Value) (h : Heap) (L : List Loc) : Prop := v = some (.int (2 : Int32)) ∧ h = h0 ∧ oKp h0 h [] L
theorem rLJ_3_2 (l : Launch) (Z : State) (a0 : Array Value) (hw : oHW a0 Z) (ws : List Jvm.Cond) (xa xb : Addr) (xk : ClassId) (xz xc0 xc1 xc2 : Int32) (h0 : Heap) (O0 : Ext Z.heap h0) (S_COMPACT_STRINGS : Sta Z Z.heap Y0 Y1 "Z" (.int xz)) (hz : ¬ xz = (0 : Int32)) (E_xa : Exa Z h0 xa Y0) (F_coder_xa : Fld Z h0 xa Y0 "coder" "B" (.int (0 : Int32))) (F_value_xa : Fld Z h0 xa Y0 "value" "[B" (.ref xb)) (V_xb : Arv Z h0 xb xk .byte (3 : Int32) [(ib xc0), (ib xc1), (ib xc2)] (.int (0 : Int32))) (hu2 : (xc2.toInt8.toInt32) = (58 : Int32)) :
    oCon l Z yy13 jdk_42_method_83_code 3 (some .int) ws ({ frames := 2, cells := 0, slots := 0, locals := 28 } : Room) #[(.ref xa), (.int (58 : Int32)), (.int (2 : Int32))] h0 (Q_rLJ_3_2 Z xa xb xk xz xc0 xc1 xc2 h0) := by
  refine oCon.of (plainFor_of_name pn_3) ?_
  intro p e s m below meth c T X hx hby hml hown hnm hret hlk hZ e0
  have hml : c.maxLocals = 3 := hml
  have K : oKp h0 h0 [] [] := oKp.nil _ _
  refine oWk.cast (g' := (mkF m 0 #[rv xa, iv 58, iv 2] [])) (by first | rfl | (simp [entryFrame, mkF, argsToLocals, Value.category]; done)) ?_
  refine oWk.st (fun _ kt => zA X hx hby d13_0 rfl rfl rfl kt) ?_
  have Oh := K.old O0 all0
  obtain ⟨T, L2, X, e0, K, st⟩ := (cs8 hw).pure X hx hZ hown e0 K (A := [(.ref xa)]) ⟨rfl, _, _, rfl, E_xa⟩ (rIsL l Z a0 hw [] xa xz h0 Oh S_COMPACT_STRINGS hz F_coder_xa) (fun _ _ _ q => q) (W := 0) (by decide) hml (Ls := #[rv xa, iv 58, iv 2]) rfl (rest := []) rfl rfl hby d13_1
  refine oWk.st (fun _ kt => st _ (zH X hx hby d13_4 rfl rfl ((if0 _ _).trans (feq (by decide)).1) (zA X hx hby d13_7 rfl rfl rfl kt))) ?_
  obtain ⟨T, X, e0, st⟩ := getF X hx hZ hown (host := "") (Or.inl (oW hw 36 rfl)) Via.refl e0 F_value_xa (g := (mkF m 8 #[rv xa, iv 58, iv 2] [(.ref xa)])) rfl rfl (hb hby d13_8)
  refine oWk.st (fun _ kt => st _ (zI X hx hby d13_11 rfl rfl (zI X hx hby d13_12 rfl rfl kt))) ?_
  obtain ⟨T, L4, X, e0, K, st⟩ := (cs9 hw).pure X hx hZ hown e0 K (A := [(.ref xb), (.int (58 : Int32)), (.int (2 : Int32))]) rfl (rLI_3_2 l Z a0 hw [] xb xk xc0 xc1 xc2 h0 Oh V_xb hu2) (fun _ _ _ q => q) (W := 0) (by decide) hml (Ls := #[rv xa, iv 58, iv 2]) rfl (rest := []) rfl rfl hby d13_13
  refine oWk.to (mkF m 28 #[rv xa, iv 58, iv 2] [(.int 2)]) (fun _ kt => st _ (zG X hx hby d13_16 rfl (pc' := 28) rfl kt)) ?_
  exact oRetI X hx hlk hret (hb hby d13_28) (by rw [e0]; exact ⟨rfl, rfl, K⟩) (by decide) (by decide)
def Q_rLK_3_2 (Z : State) (xa xb : Addr) (xk : ClassId) (xz xc0 xc1 xc2 : Int32) (h0 : Heap) (v : Option Value) (h : Heap) (L : List Loc) : Prop := v = some (.int (2 : Int32)) ∧ h = h0 ∧ oKp h0 h [] L
theorem rLK_3_2 (l : Launch) (Z : State) (a0 : Array Value) (hw : oHW a0 Z) (ws : List Jvm.Cond) (xa xb : Addr) (xk : ClassId) (xz xc0 xc1 xc2 : Int32) (h0 : Heap) (O0 : Ext Z.heap h0) (S_COMPACT_STRINGS : Sta Z Z.heap Y0 Y1 "Z" (.int xz)) (hz : ¬ xz = (0 : Int32)) (E_xa : Exa Z h0 xa Y0) (F_coder_xa : Fld Z h0 xa Y0 "coder" "B" (.int (0 : Int32))) (F_value_xa : Fld Z h0 xa Y0 "value" "[B" (.ref xb)) (V_xb : Arv Z h0 xb xk .byte (3 : Int32) [(ib xc0), (ib xc1), (ib xc2)] (.int (0 : Int32))) (hu2 : (xc2.toInt8.toInt32) = (58 : Int32)) :
    oCon l Z yy14 jdk_42_method_82_code 2 (some .int) ws ({ frames := 3, cells := 0, slots := 0, locals := 42 } : Room) #[(.ref xa), (.int (58 : Int32))] h0 (Q_rLK_3_2 Z xa xb xk xz xc0 xc1 xc2 h0) := by
  refine oCon.of (plainFor_of_name pn_3) ?_
  intro p e s m below meth c T X hx hby hml hown hnm hret hlk hZ e0
  have hml : c.maxLocals = 2 := hml
  have K : oKp h0 h0 [] [] := oKp.nil _ _
  refine oWk.cast (g' := (mkF m 0 #[rv xa, iv 58] [])) (by first | rfl | (simp [entryFrame, mkF, argsToLocals, Value.category]; done)) ?_
  refine oWk.st (fun _ kt => zA X hx hby d10_0 rfl rfl rfl (zI X hx hby d10_1 rfl rfl (zA X hx hby d10_2 rfl rfl rfl kt))) ?_
  have Oh := K.old O0 all0
  obtain ⟨T, L2, X, e0, K, st⟩ := (cs10 hw).pure X hx hZ hown e0 K (A := [(.ref xa)]) ⟨rfl, _, _, rfl, E_xa⟩ (rLn_3 l Z a0 hw [] xa xb xk xz xc0 xc1 xc2 h0 Oh S_COMPACT_STRINGS hz E_xa F_coder_xa F_value_xa V_xb) (fun _ _ _ q => q) (W := 2) (by decide) hml (Ls := #[rv xa, iv 58]) rfl (rest := [(.int (58 : Int32)), (.ref xa)]) rfl rfl hby d10_3
  refine oWk.st (fun _ kt => st _ (zK X hx hby d10_6 rfl (XS.isub X.here hx rfl (hb hby d10_7) rfl kt))) ?_
  obtain ⟨T, L4, X, e0, K, st⟩ := (cs11 hw).pure X hx hZ hown e0 K (A := [(.ref xa), (.int (58 : Int32)), (.int (2 : Int32))]) ⟨rfl, _, _, rfl, E_xa⟩ (rLJ_3_2 l Z a0 hw [] xa xb xk xz xc0 xc1 xc2 h0 Oh S_COMPACT_STRINGS hz E_xa F_coder_xa F_value_xa V_xb hu2) (fun _ _ _ q => q) (W := 0) (by decide) hml (Ls := #[rv xa, iv 58]) rfl (rest := []) rfl rfl hby d10_8
  refine oWk.to (mkF m 11 #[rv xa, iv 58] [(.int 2)]) (fun _ kt => st _ kt) ?_
  exact oRetI X hx hlk hret (hb hby d10_11) (by rw [e0]; exact ⟨rfl, rfl, K⟩) (by decide) (by decide)
def Q_rMin_3_2 (Z : State)  (h0 : Heap) (v : Option Value) (h : Heap) (L : List Loc) : Prop := v = some (.int (2 : Int32)) ∧ h = h0 ∧ oKp h0 h [] L
theorem rMin_3_2 (l : Launch) (Z : State) (a0 : Array Value) (hw : oHW a0 Z) (ws : List Jvm.Cond)  (h0 : Heap) (O0 : Ext Z.heap h0)  :
    oCon l Z yy8 jdk_29_method_69_code 2 (some .int) ws ({ frames := 0, cells := 0, slots := 0, locals := 0 } : Room) #[(.int (3 : Int32)), (.int (2 : Int32))] h0 (Q_rMin_3_2 Z  h0) := by
  refine oCon.of (Jvm.Free.JP.mathPlain rfl (by decide +kernel)) ?_
  intro p e s m below meth c T X hx hby hml hown hnm hret hlk hZ e0
  have hml : c.maxLocals = 2 := hml
  have K : oKp h0 h0 [] [] := oKp.nil _ _
  refine oWk.cast (g' := (mkF m 0 #[iv 3, iv 2] [])) (by first | rfl | (simp [entryFrame, mkF, argsToLocals, Value.category]; done)) ?_
  refine oWk.to (mkF m 10 #[iv 3, iv 2] [(.int 2)]) (fun _ kt => zI X hx hby d17_0 rfl rfl (zI X hx hby d17_1 rfl rfl (zY X hx hby d17_2 rfl rfl (tlt (by decide)).2.2.1 (pc' := 9) rfl (zI X hx hby d17_9 rfl rfl kt)))) ?_
  exact oRetI X hx hlk hret (hb hby d17_10) (by rw [e0]; exact ⟨rfl, rfl, K⟩) (by decide) (by decide)
def Q_rCkL_0_2 (Z : State)  (h0 : Heap) (v : Option Value) (h : Heap) (L : List Loc) : Prop := v = none ∧ h = h0 ∧ oKp h0 h [] L
theorem rCkL_0_2 (l : Launch) (Z : State) (a0 : Array Value) (hw : oHW a0 Z) (ws : List Jvm.Cond)  (h0 : Heap) (O0 : Ext Z.heap h0)  :
    oCon l Z yy20 jdk_65_method_131_code 2 none ws ({ frames := 0, cells := 0, slots := 0, locals := 0 } : Room) #[(.int (0 : Int32)), (.int (2 : Int32))] h0 (Q_rCkL_0_2 Z  h0) := by
  refine oCon.of (plainFor_of_name pn_6) ?_
  intro p e s m below meth c T X hx hby hml hown hnm hret hlk hZ e0
  have hml : c.maxLocals = 2 := hml
  have K : oKp h0 h0 [] [] := oKp.nil _ _
  refine oWk.cast (g' := (mkF m 0 #[iv 0, iv 2] [])) (by first | rfl | (simp [entryFrame, mkF, argsToLocals, Value.category]; done)) ?_
  refine oWk.to (mkF m 37 #[iv 0, iv 2] []) (fun _ kt => zI X hx hby d24_0 rfl rfl (zI X hx hby d24_1 rfl rfl (zY X hx hby d24_2 rfl rfl (flt (by decide)).2.1 (pc' := 37) rfl kt))) ?_
  exact oRetV X hx hlk hret (hb hby d24_37) (by rw [e0]; exact ⟨rfl, rfl, K⟩) (by decide) (by decide)
def Q_rCRB_3_0_2 (Z : State) (xb : Addr) (xk : ClassId) (xc0 xc1 xc2 : Int32) (h0 : Heap) (v : Option Value) (h : Heap) (L : List Loc) : Prop := ∃ (nb : Addr) (nk : ClassId), v = some (.ref nb) ∧ oKp h0 h [] L ∧ (h0.size ≤ nb) ∧ (Arv Z h nb nk .byte (2 : Int32) [(ib xc0), (ib xc1)] (.int (0 : Int32)))
theorem rCRB_3_0_2 (l : Launch) (Z : State) (a0 : Array Value) (hw : oHW a0 Z) (ws : List Jvm.Cond) (xb : Addr) (xk : ClassId) (xc0 xc1 xc2 : Int32) (h0 : Heap) (O0 : Ext Z.heap h0) (V_xb : Arv Z h0 xb xk .byte (3 : Int32) [(ib xc0), (ib xc1), (ib xc2)] (.int (0 : Int32))) :
    oCon l Z yy21 jdk_65_method_133_code 5 (some (.array .byte)) ws ({ frames := 1, cells := 1, slots := 2, locals := 18 } : Room) #[(.ref xb), (.int (0 : Int32)), (.int (2 : Int32))] h0 (Q_rCRB_3_0_2 Z xb xk xc0 xc1 xc2 h0) := by
  refine oCon.of (plainFor_of_name pn_6) ?_
  intro p e s m below meth c T X hx hby hml hown hnm hret hlk hZ e0
  have hml : c.maxLocals = 5 := hml
  have K : oKp h0 h0 [] [] := oKp.nil _ _
  refine oWk.cast (g' := (mkF m 0 #[rv xb, iv 0, iv 2, uu, uu] [])) (by first | rfl | (simp [entryFrame, mkF, argsToLocals, Value.category]; done)) ?_
  refine oWk.st (fun _ kt => zI X hx hby d23_0 rfl rfl (zI X hx hby d23_1 rfl rfl kt)) ?_
  have Oh := K.old O0 all0
  obtain ⟨T, L2, X, e0, K, st⟩ := (cs15 hw).pure X hx hZ hown e0 K (A := [(.int (0 : Int32)), (.int (2 : Int32))]) rfl (rCkL_0_2 l Z a0 hw []  h0 Oh ) (fun _ _ _ q => q) (W := 0) (by decide) hml (Ls := #[rv xb, iv 0, iv 2, uu, uu]) rfl (rest := []) rfl rfl hby d23_2
  refine oWk.st (fun _ kt => st _ (zI X hx hby d23_5 rfl rfl (zI X hx hby d23_6 rfl rfl (XS.isub X.here hx rfl (hb hby d23_7) rfl (zSn X hx hby d23_8 rfl rfl (l' := #[rv xb, iv 0, iv 2, iv 2, uu]) rfl (zI X hx hby d23_9 rfl rfl kt)))))) ?_
  obtain ⟨o3, g3⟩ : ∃ z, z = h0.size := ⟨_, rfl⟩
  have ne_xb_o3 : xb ≠ o3 := Nat.ne_of_lt (Nat.lt_of_lt_of_le V_xb.lt (Nat.le_of_eq g3.symm))
  have ge_o3 : h0.size ≤ o3 := Nat.le_trans K.le (Nat.le_of_eq g3.symm)
  obtain ⟨T, h, k3, X, e0, E3, A3, st⟩ := newP X hx hZ (oW hw 27 rfl) e0 (g := (mkF m 10 #[rv xb, iv 0, iv 2, iv 2, uu] [(.int 2)])) rfl (hb hby d23_10) rfl (by decide) (cap := 2) (by decide) (by decide) (by decide) (by decide)
  rw [← g3] at A3 st
  have K := K.ext E3
  have V_o3 : Arv Z h o3 k3 .byte (2 : Int32) [(.int (0 : Int32)), (.int (0 : Int32))] (.int (0 : Int32)) := (Arv.new A3 (by decide)).pad (pad_rep [] (.int (0 : Int32)) 2)
  refine oWk.to (mkF m 20 #[rv xb, iv 0, iv 2, iv 2, rv o3] [(.ref xb), (.int 0), (.ref o3), (.int 0), (.ref xb)]) (fun _ kt => st _ (zT X hx hby d23_12 rfl rfl rfl (l' := #[rv xb, iv 0, iv 2, iv 2, rv o3]) rfl (zA X hx hby d23_14 rfl rfl rfl (zI X hx hby d23_15 rfl rfl (zB X hx hby d23_16 rfl rfl rfl (zK X hx hby d23_18 rfl (zA X hx hby d23_19 rfl rfl rfl kt))))))) ?_
  have V_xb := (V_xb.ext E3)
  refine oWk.st (fun _ kt => oAl X hx hZ e0 V_xb hby d23_20 rfl rfl (zI X hx hby d23_21 rfl rfl (XS.isub X.here hx rfl (hb hby d23_22) rfl (zI X hx hby d23_23 rfl rfl kt)))) ?_
  have Oh := K.old O0 all0
  obtain ⟨T, L6, X, e0, K, st⟩ := (cs16 hw).pure X hx hZ hown e0 K (A := [(.int (3 : Int32)), (.int (2 : Int32))]) rfl (rMin_3_2 l Z a0 hw []  h Oh ) (fun _ _ _ q => q) (W := 4) (by decide) hml (Ls := #[rv xb, iv 0, iv 2, iv 2, rv o3]) rfl (rest := [(.int (0 : Int32)), (.ref o3), (.int (0 : Int32)), (.ref xb)]) rfl rfl hby d23_24
  refine oWk.st (fun _ kt => st _ kt) ?_
  obtain ⟨T, h, L7, X, e0, N7, C7, V7, st⟩ := cpA X hx hZ hown (oW hw 110 rfl) (oW hw 113 rfl) (oW hw 111 rfl) (oW hw 112 rfl) e0 (us := [(ib xc0), (ib xc1)]) V_xb V_o3 (Or.inl ⟨rfl, rfl⟩) (by decide) (by decide) (by decide) (by decide) (by decide) rfl (by decide) K.fr ge_o3 (g := (mkF m 27 #[rv xb, iv 0, iv 2, iv 2, rv o3] [(.int 2), (.int 0), (.ref o3), (.int 0), (.ref xb)])) rfl (by rw [hml]; rfl) rfl (hb hby d23_27) (by decide) (W := 0) (Nat.le_of_eq rfl) (by decide)
  have K : oKp h0 h [] L7 := ⟨K.1.trans C7 (allS (Or.inr ge_o3) all0), fun y hy => Or.inr (N7 y hy)⟩
  have V_o3 : Arv Z h o3 k3 .byte (2 : Int32) [(ib xc0), (ib xc1)] (.int (0 : Int32)) := V7
  refine oWk.to (mkF m 32 #[rv xb, iv 0, iv 2, iv 2, rv o3] [(.ref o3)]) (fun _ kt => st _ (zB X hx hby d23_30 rfl rfl rfl kt)) ?_
  exact oRetA X hx hlk hret rfl rfl (hb hby d23_32) (by rw [e0]; exact ⟨o3, k3, rfl, K, ge_o3, V_o3⟩) (by decide) (by decide)
def Q_rCR_3_0_2 (Z : State) (xb : Addr) (xk : ClassId) (xc0 xc1 xc2 : Int32) (h0 : Heap) (v : Option Value) (h : Heap) (L : List Loc) : Prop := ∃ (nb : Addr) (nk : ClassId), v = some (.ref nb) ∧ oKp h0 h [] L ∧ (h0.size ≤ nb) ∧ (Arv Z h nb nk .byte (2 : Int32) [(ib xc0), (ib xc1)] (.int (0 : Int32)))
theorem rCR_3_0_2 (l : Launch) (Z : State) (a0 : Array Value) (hw : oHW a0 Z) (ws : List Jvm.Cond) (xb : Addr) (xk : ClassId) (xc0 xc1 xc2 : Int32) (h0 : Heap) (O0 : Ext Z.heap h0) (V_xb : Arv Z h0 xb xk .byte (3 : Int32) [(ib xc0), (ib xc1), (ib xc2)] (.int (0 : Int32))) :
    oCon l Z yy22 jdk_65_method_132_code 3 (some (.array .byte)) ws ({ frames := 2, cells := 1, slots := 2, locals := 34 } : Room) #[(.ref xb), (.int (0 : Int32)), (.int (2 : Int32))] h0 (Q_rCR_3_0_2 Z xb xk xc0 xc1 xc2 h0) := by
  refine oCon.of (plainFor_of_name pn_6) ?_
  intro p e s m below meth c T X hx hby hml hown hnm hret hlk hZ e0
  have hml : c.maxLocals = 3 := hml
  have K : oKp h0 h0 [] [] := oKp.nil _ _
  refine oWk.cast (g' := (mkF m 0 #[rv xb, iv 0, iv 2] [])) (by first | rfl | (simp [entryFrame, mkF, argsToLocals, Value.category]; done)) ?_
  refine oWk.to (mkF m 11 #[rv xb, iv 0, iv 2] [(.ref xb)]) (fun _ kt => zI X hx hby d22_0 rfl rfl (zH X hx hby d22_1 rfl rfl ((if0 _ _).trans (teq (by decide)).2) (zI X hx hby d22_4 rfl rfl (zA X hx hby d22_5 rfl rfl rfl (oAl X hx hZ e0 V_xb hby d22_6 rfl rfl (zN X hx hby d22_7 rfl rfl (feq (by decide)).1 (zA X hx hby d22_10 rfl rfl rfl kt))))))) ?_
  refine oWk.st (fun _ kt => zI X hx hby d22_11 rfl rfl (zI X hx hby d22_12 rfl rfl kt)) ?_
  have lt_xb := V_xb.lt
  have Oh := K.old O0 all0
  obtain ⟨_, T, h, Lc3, X, e0, hQ, st⟩ := (cs17 hw).run X hx hZ hown e0 (A := [(.ref xb), (.int (0 : Int32)), (.int (2 : Int32))]) rfl (rCRB_3_0_2 l Z a0 hw [] xb xk xc0 xc1 xc2 h0 Oh V_xb) (W := 0) (by decide) hml (Ls := #[rv xb, iv 0, iv 2]) rfl (rest := []) rfl rfl hby d22_13
  obtain ⟨nb2, nk2, rfl, K2, gn_nb2, V_nb2⟩ := hQ
  have ge_nb2 := Nat.le_trans K.le gn_nb2
  have ne_xb_nb2 : xb ≠ nb2 := Nat.ne_of_lt (Nat.lt_of_lt_of_le lt_xb gn_nb2)
  have K := K.call K2 all0
  refine oWk.to (mkF m 16 #[rv xb, iv 0, iv 2] [(.ref nb2)]) (fun _ kt => st _ kt) ?_
  exact oRetA X hx hlk hret rfl rfl (hb hby d22_16) (by rw [e0]; exact ⟨nb2, nk2, rfl, K, ge_nb2, V_nb2⟩) (by decide) (by decide)
def Q_rNS_3_0_2 (Z : State) (xb : Addr) (xk : ClassId) (xc0 xc1 xc2 : Int32) (h0 : Heap) (v : Option Value) (h : Heap) (L : List Loc) : Prop := ∃ (nr : Addr) (nb : Addr) (nk : ClassId), v = some (.ref nr) ∧ oKp h0 h [] L ∧ (h0.size ≤ nr) ∧ (h0.size ≤ nb) ∧ (Exa Z h nr Y0) ∧ (Fld Z h nr Y0 "coder" "B" (.int (0 : Int32))) ∧ (Fld Z h nr Y0 "value" "[B" (.ref nb)) ∧ (Arv Z h nb nk .byte (2 : Int32) [(ib xc0), (ib xc1)] (.int (0 : Int32)))
theorem rNS_3_0_2 (l : Launch) (Z : State) (a0 : Array Value) (hw : oHW a0 Z) (ws : List Jvm.Cond) (xb : Addr) (xk : ClassId) (xc0 xc1 xc2 : Int32) (h0 : Heap) (O0 : Ext Z.heap h0) (V_xb : Arv Z h0 xb xk .byte (3 : Int32) [(ib xc0), (ib xc1), (ib xc2)] (.int (0 : Int32))) :
    oCon l Z yy17 jdk_43_method_47_code 3 (some (.object Y0)) ws ({ frames := 3, cells := 2, slots := 6, locals := 50 } : Room) #[(.ref xb), (.int (0 : Int32)), (.int (2 : Int32))] h0 (Q_rNS_3_0_2 Z xb xk xc0 xc1 xc2 h0) := by
  refine oCon.of (plainFor_of_name pn_0) ?_
  intro p e s m below meth c T X hx hby hml hown hnm hret hlk hZ e0
  have hml : c.maxLocals = 3 := hml
  have K : oKp h0 h0 [] [] := oKp.nil _ _
  refine oWk.cast (g' := (mkF m 0 #[rv xb, iv 0, iv 2] [])) (by first | rfl | (simp [entryFrame, mkF, argsToLocals, Value.category]; done)) ?_
  refine oWk.st (fun _ kt => zI X hx hby d21_0 rfl rfl (zF X hx hby d21_1 rfl rfl ((if0 _ _).trans (feq (by decide)).2) (pc' := 7) rfl kt)) ?_
  obtain ⟨o1, g1⟩ : ∃ z, z = h0.size := ⟨_, rfl⟩
  have ne_xb_o1 : xb ≠ o1 := Nat.ne_of_lt (Nat.lt_of_lt_of_le V_xb.lt (Nat.le_of_eq g1.symm))
  have ge_o1 : h0.size ≤ o1 := Nat.le_trans K.le (Nat.le_of_eq g1.symm)
  obtain ⟨T, h, X, e0, E1, A1, D1, -, st⟩ := newO X hx hZ hown (oW hw 98 rfl) (oW hw 10 rfl) (oW hw 11 rfl) e0 (g := (mkF m 7 #[rv xb, iv 0, iv 2] [])) rfl (hb hby d21_7) (by decide) (by decide)
  rw [← g1] at A1 D1 st
  have K := K.ext E1
  have E_o1 := A1
  have F_coder_o1 : Fld Z h o1 Y0 "coder" "B" (.int (0 : Int32)) := D1 (Or.inr (oW hw 35 rfl)) (ty := .byte) (by decide)
  have F_value_o1 : Fld Z h o1 Y0 "value" "[B" .null := D1 (Or.inr (oW hw 37 rfl)) (ty := (.array .byte)) (by decide)
  refine oWk.to (mkF m 16 #[rv xb, iv 0, iv 2] [(.int 2), (.int 0), (.ref xb), (.ref o1), (.ref o1)]) (fun _ kt => st _ (zD X hx hby d21_10 rfl rfl rfl (zA X hx hby d21_11 rfl rfl rfl (zI X hx hby d21_12 rfl rfl (zI X hx hby d21_13 rfl rfl (zI X hx hby d21_14 rfl rfl (XS.iadd X.here hx rfl (hb hby d21_15) rfl kt))))))) ?_
  have V_xb := (V_xb.ext E1)
  have lt_xb := V_xb.lt
  have lt_o1 := E_o1.lt
  have Oh := K.old O0 all0
  obtain ⟨_, T, h, Lc3, X, e0, hQ, st⟩ := (cs18 hw).run X hx hZ hown e0 (A := [(.ref xb), (.int (0 : Int32)), (.int (2 : Int32))]) rfl (rCR_3_0_2 l Z a0 hw [] xb xk xc0 xc1 xc2 h Oh V_xb) (W := 2) (by decide) hml (Ls := #[rv xb, iv 0, iv 2]) rfl (rest := [(.ref o1), (.ref o1)]) rfl rfl hby d21_16
  obtain ⟨nb2, nk2, rfl, K2, gn_nb2, V_nb2⟩ := hQ
  have ge_nb2 := Nat.le_trans K.le gn_nb2
  have ne_xb_nb2 : xb ≠ nb2 := Nat.ne_of_lt (Nat.lt_of_lt_of_le lt_xb gn_nb2)
  have ne_o1_nb2 : o1 ≠ nb2 := Nat.ne_of_lt (Nat.lt_of_lt_of_le lt_o1 gn_nb2)
  have K := K.call K2 all0
  refine oWk.st (fun _ kt => st _ (zK X hx hby d21_19 rfl kt)) ?_
  have E_o1 := (E_o1.keep K2.1)
  have F_value_o1 := (F_value_o1.keep K2.1 nin0)
  have F_coder_o1 := (F_coder_o1.keep K2.1 nin0)
  have Oh := K.old O0 all0
  obtain ⟨_, T, h, Lc5, X, e0, hQ, st⟩ := (cs19 hw).run X hx hZ hown e0 (A := [(.ref o1), (.ref nb2), (.int (0 : Int32))]) ⟨rfl, _, _, rfl⟩ (rSIn l Z a0 hw [] o1 nb2 .null (.int (0 : Int32)) h Oh (Nat.le_trans O0.1 ge_o1) E_o1 F_value_o1 F_coder_o1) (W := 1) (by decide) hml (Ls := #[rv xb, iv 0, iv 2]) rfl (rest := [(.ref o1)]) rfl rfl hby d21_20
  obtain ⟨rfl, K4, E_o1, F_value_o1, F_coder_o1⟩ := hQ
  have K := K.call K4 (allS (Or.inr ge_o1) all0)
  refine oWk.to (mkF m 23 #[rv xb, iv 0, iv 2] [(.ref o1)]) (fun _ kt => st _ kt) ?_
  have V_nb2 := (V_nb2.keep K4.1 (ninS (Ne.symm ne_o1_nb2) nin0))
  exact oRetA X hx hlk hret rfl rfl (hb hby d21_23) (by rw [e0]; exact ⟨o1, nb2, nk2, rfl, K, ge_o1, ge_nb2, E_o1, F_coder_o1, F_value_o1, V_nb2⟩) (by decide) (by decide)
def Q_rSub_3_0_2 (Z : State) (xa xb : Addr) (xk : ClassId) (xfm : Value) (xz xc0 xc1 xc2 : Int32) (h0 : Heap) (v : Option Value) (h : Heap) (L : List Loc) : Prop := ∃ (nr : Addr) (nb : Addr) (nk : ClassId), v = some (.ref nr) ∧ oKp h0 h [] L ∧ (h0.size ≤ nr) ∧ (h0.size ≤ nb) ∧ (Exa Z h nr Y0) ∧ (Fld Z h nr Y0 "coder" "B" (.int (0 : Int32))) ∧ (Fld Z h nr Y0 "value" "[B" (.ref nb)) ∧ (Arv Z h nb nk .byte (2 : Int32) [(ib xc0), (ib xc1)] (.int (0 : Int32)))
theorem rSub_3_0_2 (l : Launch) (Z : State) (a0 : Array Value) (hw : oHW a0 Z) (ws : List Jvm.Cond) (xa xb : Addr) (xk : ClassId) (xfm : Value) (xz xc0 xc1 xc2 : Int32) (h0 : Heap) (O0 : Ext Z.heap h0) (S_COMPACT_STRINGS : Sta Z Z.heap Y0 Y1 "Z" (.int xz)) (hz : ¬ xz = (0 : Int32)) (S_SIOOBE_FORMATTER : Sta Z Z.heap Y2 Y3 Y4 xfm) (hcat : xfm.category = 1) (E_xa : Exa Z h0 xa Y0) (F_coder_xa : Fld Z h0 xa Y0 "coder" "B" (.int (0 : Int32))) (F_value_xa : Fld Z h0 xa Y0 "value" "[B" (.ref xb)) (V_xb : Arv Z h0 xb xk .byte (3 : Int32) [(ib xc0), (ib xc1), (ib xc2)] (.int (0 : Int32))) :
    oCon l Z yy18 jdk_42_method_92_code 5 (some (.object Y0)) ws ({ frames := 4, cells := 2, slots := 6, locals := 64 } : Room) #[(.ref xa), (.int (0 : Int32)), (.int (2 : Int32))] h0 (Q_rSub_3_0_2 Z xa xb xk xfm xz xc0 xc1 xc2 h0) := by
  refine oCon.of (plainFor_of_name pn_3) ?_
  intro p e s m below meth c T X hx hby hml hown hnm hret hlk hZ e0
  have hml : c.maxLocals = 5 := hml
  have K : oKp h0 h0 [] [] := oKp.nil _ _
  refine oWk.cast (g' := (mkF m 0 #[rv xa, iv 0, iv 2, uu, uu] [])) (by first | rfl | (simp [entryFrame, mkF, argsToLocals, Value.category]; done)) ?_
  refine oWk.st (fun _ kt => zA X hx hby d18_0 rfl rfl rfl kt) ?_
  have Oh := K.old O0 all0
  obtain ⟨T, L2, X, e0, K, st⟩ := (cs10 hw).pure X hx hZ hown e0 K (A := [(.ref xa)]) ⟨rfl, _, _, rfl, E_xa⟩ (rLn_3 l Z a0 hw [] xa xb xk xz xc0 xc1 xc2 h0 Oh S_COMPACT_STRINGS hz E_xa F_coder_xa F_value_xa V_xb) (fun _ _ _ q => q) (W := 0) (by decide) hml (Ls := #[rv xa, iv 0, iv 2, uu, uu]) rfl (rest := []) rfl rfl hby d18_1
  refine oWk.st (fun _ kt => st _ (zSn X hx hby d18_4 rfl rfl (l' := #[rv xa, iv 0, iv 2, iv 3, uu]) rfl (zI X hx hby d18_5 rfl rfl (zI X hx hby d18_6 rfl rfl (zI X hx hby d18_7 rfl rfl kt))))) ?_
  obtain ⟨T, L4, X, e0, K, st⟩ := (cs13 hw).pure X hx hZ hown e0 K (A := [(.int (0 : Int32)), (.int (2 : Int32)), (.int (3 : Int32))]) rfl (rCkB l Z a0 hw [] (0 : Int32) (2 : Int32) (3 : Int32) xfm h0 Oh S_SIOOBE_FORMATTER hcat (by decide) (by decide) (by decide)) (fun _ _ _ q => q) (W := 0) (by decide) hml (Ls := #[rv xa, iv 0, iv 2, iv 3, uu]) rfl (rest := []) rfl rfl hby d18_8
  refine oWk.to (mkF m 23 #[rv xa, iv 0, iv 2, iv 3, uu] [(.int 2)]) (fun _ kt => st _ (zI X hx hby d18_11 rfl rfl (zH X hx hby d18_12 rfl rfl ((if0 _ _).trans (teq (by decide)).2) (zI X hx hby d18_15 rfl rfl (zI X hx hby d18_16 rfl rfl (zY X hx hby d18_17 rfl rfl (feq (by decide)).2 (pc' := 22) rfl (zI X hx hby d18_22 rfl rfl kt))))))) ?_
  refine oWk.st (fun _ kt => zI X hx hby d18_23 rfl rfl (XS.isub X.here hx rfl (hb hby d18_24) rfl (zS X hx hby d18_25 rfl rfl (l' := #[rv xa, iv 0, iv 2, iv 3, iv 2]) rfl (zA X hx hby d18_27 rfl rfl rfl kt)))) ?_
  obtain ⟨T, L6, X, e0, K, st⟩ := (cs8 hw).pure X hx hZ hown e0 K (A := [(.ref xa)]) ⟨rfl, _, _, rfl, E_xa⟩ (rIsL l Z a0 hw [] xa xz h0 Oh S_COMPACT_STRINGS hz F_coder_xa) (fun _ _ _ q => q) (W := 0) (by decide) hml (Ls := #[rv xa, iv 0, iv 2, iv 3, iv 2]) rfl (rest := []) rfl rfl hby d18_28
  refine oWk.st (fun _ kt => st _ (zH X hx hby d18_31 rfl rfl ((if0 _ _).trans (feq (by decide)).1) (zA X hx hby d18_34 rfl rfl rfl kt))) ?_
  obtain ⟨T, X, e0, st⟩ := getF X hx hZ hown (host := "") (Or.inl (oW hw 36 rfl)) Via.refl e0 F_value_xa (g := (mkF m 35 #[rv xa, iv 0, iv 2, iv 3, iv 2] [(.ref xa)])) rfl rfl (hb hby d18_35)
  refine oWk.st (fun _ kt => st _ (zI X hx hby d18_38 rfl rfl (zJ X hx hby d18_39 rfl rfl kt))) ?_
  have lt_xa := E_xa.lt
  have lt_xb := V_xb.lt
  obtain ⟨_, T, h, Lc8, X, e0, hQ, st⟩ := (cs20 hw).run X hx hZ hown e0 (A := [(.ref xb), (.int (0 : Int32)), (.int (2 : Int32))]) rfl (rNS_3_0_2 l Z a0 hw [] xb xk xc0 xc1 xc2 h0 Oh V_xb) (W := 0) (by decide) hml (Ls := #[rv xa, iv 0, iv 2, iv 3, iv 2]) rfl (rest := []) rfl rfl hby d18_41
  obtain ⟨nr7, nb7, nk7, rfl, K7, gn_nr7, gn_nb7, E_nr7, F_coder_nr7, F_value_nr7, V_nb7⟩ := hQ
  have ge_nr7 := Nat.le_trans K.le gn_nr7
  have ne_xa_nr7 : xa ≠ nr7 := Nat.ne_of_lt (Nat.lt_of_lt_of_le lt_xa gn_nr7)
  have ne_xb_nr7 : xb ≠ nr7 := Nat.ne_of_lt (Nat.lt_of_lt_of_le lt_xb gn_nr7)
  have ge_nb7 := Nat.le_trans K.le gn_nb7
  have ne_xa_nb7 : xa ≠ nb7 := Nat.ne_of_lt (Nat.lt_of_lt_of_le lt_xa gn_nb7)
  have ne_xb_nb7 : xb ≠ nb7 := Nat.ne_of_lt (Nat.lt_of_lt_of_le lt_xb gn_nb7)
  have K := K.call K7 all0
  refine oWk.to (mkF m 57 #[rv xa, iv 0, iv 2, iv 3, iv 2] [(.ref nr7)]) (fun _ kt => st _ (zG X hx hby d18_44 rfl (pc' := 57) rfl kt)) ?_
  exact oRetA X hx hlk hret rfl rfl (hb hby d18_57) (by rw [e0]; exact ⟨nr7, nb7, nk7, rfl, K, ge_nr7, ge_nb7, E_nr7, F_coder_nr7, F_value_nr7, V_nb7⟩) (by decide) (by decide)
def Q_rSP_3_2 (Z : State) (xa xb : Addr) (xk : ClassId) (xfm : Value) (xz xc0 xc1 xc2 : Int32) (h0 : Heap) (v : Option Value) (h : Heap) (L : List Loc) : Prop := ∃ (nr : Addr) (nb : Addr) (nk : ClassId), v = some (.ref nr) ∧ oKp h0 h [] L ∧ (h0.size ≤ nr) ∧ (h0.size ≤ nb) ∧ (Exa Z h nr Y0) ∧ (Fld Z h nr Y0 "coder" "B" (.int (0 : Int32))) ∧ (Fld Z h nr Y0 "value" "[B" (.ref nb)) ∧ (Arv Z h nb nk .byte (2 : Int32) [(ib xc0), (ib xc1)] (.int (0 : Int32)))
theorem rSP_3_2 (l : Launch) (Z : State) (a0 : Array Value) (hw : oHW a0 Z) (ws : List Jvm.Cond) (xa xb : Addr) (xk : ClassId) (xfm : Value) (xz xc0 xc1 xc2 : Int32) (h0 : Heap) (O0 : Ext Z.heap h0) (S_COMPACT_STRINGS : Sta Z Z.heap Y0 Y1 "Z" (.int xz)) (hz : ¬ xz = (0 : Int32)) (S_SIOOBE_FORMATTER : Sta Z Z.heap Y2 Y3 Y4 xfm) (hcat : xfm.category = 1) (E_xa : Exa Z h0 xa Y0) (F_coder_xa : Fld Z h0 xa Y0 "coder" "B" (.int (0 : Int32))) (F_value_xa : Fld Z h0 xa Y0 "value" "[B" (.ref xb)) (V_xb : Arv Z h0 xb xk .byte (3 : Int32) [(ib xc0), (ib xc1), (ib xc2)] (.int (0 : Int32))) (hu2 : (xc2.toInt8.toInt32) = (58 : Int32)) :
    oCon l Z yy19 prog_3_method_2_code 1 (some (.object Y0)) ws ({ frames := 5, cells := 2, slots := 6, locals := 80 } : Room) #[(.ref xa)] h0 (Q_rSP_3_2 Z xa xb xk xfm xz xc0 xc1 xc2 h0) := by
  refine oCon.of (plainFor_of_name pn_5) ?_
  intro p e s m below meth c T X hx hby hml hown hnm hret hlk hZ e0
  have hml : c.maxLocals = 1 := hml
  have K : oKp h0 h0 [] [] := oKp.nil _ _
  refine oWk.cast (g' := (mkF m 0 #[rv xa] [])) (by first | rfl | (simp [entryFrame, mkF, argsToLocals, Value.category]; done)) ?_
  refine oWk.st (fun _ kt => zA X hx hby d9_0 rfl rfl rfl (zK X hx hby d9_1 rfl (zA X hx hby d9_2 rfl rfl rfl (zL X hx hby d9_3 rfl kt)))) ?_
  have Oh := K.old O0 all0
  obtain ⟨T, L2, X, e0, K, st⟩ := (cs14 hw).pure X hx hZ hown e0 K (A := [(.ref xa), (.int (58 : Int32))]) ⟨rfl, _, _, rfl, E_xa⟩ (rLK_3_2 l Z a0 hw [] xa xb xk xz xc0 xc1 xc2 h0 Oh S_COMPACT_STRINGS hz E_xa F_coder_xa F_value_xa V_xb hu2) (fun _ _ _ q => q) (W := 2) (by decide) hml (Ls := #[rv xa]) rfl (rest := [(.int (0 : Int32)), (.ref xa)]) rfl rfl hby d9_5
  refine oWk.st (fun _ kt => st _ kt) ?_
  have lt_xa := E_xa.lt
  have lt_xb := V_xb.lt
  obtain ⟨_, T, h, Lc4, X, e0, hQ, st⟩ := (cs21 hw).run X hx hZ hown e0 (A := [(.ref xa), (.int (0 : Int32)), (.int (2 : Int32))]) ⟨rfl, _, _, rfl, E_xa⟩ (rSub_3_0_2 l Z a0 hw [] xa xb xk xfm xz xc0 xc1 xc2 h0 Oh S_COMPACT_STRINGS hz S_SIOOBE_FORMATTER hcat E_xa F_coder_xa F_value_xa V_xb) (W := 0) (by decide) hml (Ls := #[rv xa]) rfl (rest := []) rfl rfl hby d9_8
  obtain ⟨nr3, nb3, nk3, rfl, K3, gn_nr3, gn_nb3, E_nr3, F_coder_nr3, F_value_nr3, V_nb3⟩ := hQ
  have ge_nr3 := Nat.le_trans K.le gn_nr3
  have ne_xa_nr3 : xa ≠ nr3 := Nat.ne_of_lt (Nat.lt_of_lt_of_le lt_xa gn_nr3)
  have ne_xb_nr3 : xb ≠ nr3 := Nat.ne_of_lt (Nat.lt_of_lt_of_le lt_xb gn_nr3)
  have ge_nb3 := Nat.le_trans K.le gn_nb3
  have ne_xa_nb3 : xa ≠ nb3 := Nat.ne_of_lt (Nat.lt_of_lt_of_le lt_xa gn_nb3)
  have ne_xb_nb3 : xb ≠ nb3 := Nat.ne_of_lt (Nat.lt_of_lt_of_le lt_xb gn_nb3)
  have K := K.call K3 all0
  refine oWk.to (mkF m 11 #[rv xa] [(.ref nr3)]) (fun _ kt => st _ kt) ?_
  exact oRetA X hx hlk hret rfl rfl (hb hby d9_11) (by rw [e0]; exact ⟨nr3, nb3, nk3, rfl, K, ge_nr3, ge_nb3, E_nr3, F_coder_nr3, F_value_nr3, V_nb3⟩) (by decide) (by decide)
def Q_rMin_3_3 (Z : State)  (h0 : Heap) (v : Option Value) (h : Heap) (L : List Loc) : Prop := v = some (.int (3 : Int32)) ∧ h = h0 ∧ oKp h0 h [] L
theorem rMin_3_3 (l : Launch) (Z : State) (a0 : Array Value) (hw : oHW a0 Z) (ws : List Jvm.Cond)  (h0 : Heap) (O0 : Ext Z.heap h0)  :
    oCon l Z yy8 jdk_29_method_69_code 2 (some .int) ws ({ frames := 0, cells := 0, slots := 0, locals := 0 } : Room) #[(.int (3 : Int32)), (.int (3 : Int32))] h0 (Q_rMin_3_3 Z  h0) := by
  refine oCon.of (Jvm.Free.JP.mathPlain rfl (by decide +kernel)) ?_
  intro p e s m below meth c T X hx hby hml hown hnm hret hlk hZ e0
  have hml : c.maxLocals = 2 := hml
  have K : oKp h0 h0 [] [] := oKp.nil _ _
  refine oWk.cast (g' := (mkF m 0 #[iv 3, iv 3] [])) (by first | rfl | (simp [entryFrame, mkF, argsToLocals, Value.category]; done)) ?_
  refine oWk.to (mkF m 10 #[iv 3, iv 3] [(.int 3)]) (fun _ kt => zI X hx hby d17_0 rfl rfl (zI X hx hby d17_1 rfl rfl (zN X hx hby d17_2 rfl rfl (flt (by decide)).2.2.1 (zI X hx hby d17_5 rfl rfl (zG X hx hby d17_6 rfl (pc' := 10) rfl kt))))) ?_
  exact oRetI X hx hlk hret (hb hby d17_10) (by rw [e0]; exact ⟨rfl, rfl, K⟩) (by decide) (by decide)
def Q_rLI_4_0 (Z : State) (xb : Addr) (xk : ClassId) (xc0 xc1 xc2 xc3 : Int32) (h0 : Heap) (v : Option Value) (h : Heap) (L : List Loc) : Prop := v = some (.int (0 : Int32)) ∧ h = h0 ∧ oKp h0 h [] L
theorem rLI_4_0 (l : Launch) (Z : State) (a0 : Array Value) (hw : oHW a0 Z) (ws : List Jvm.Cond) (xb : Addr) (xk : ClassId) (xc0 xc1 xc2 xc3 : Int32) (h0 : Heap) (O0 : Ext Z.heap h0) (V_xb : Arv Z h0 xb xk .byte (4 : Int32) [(ib xc0), (ib xc1), (ib xc2), (ib xc3)] (.int (0 : Int32))) (hu0 : (xc0.toInt8.toInt32) = (58 : Int32)) (hu1 : ¬ (xc1.toInt8.toInt32) = (58 : Int32)) (hu2 : ¬ (xc2.toInt8.toInt32) = (58 : Int32)) (hu3 : ¬ (xc3.toInt8.toInt32) = (58 : Int32)) :
    oCon l Z yy9 jdk_43_method_27_code 4 (some .int) ws ({ frames := 1, cells := 0, slots := 0, locals := 13 } : Room) #[(.ref xb), (.int (58 : Int32)), (.int (3 : Int32))] h0 (Q_rLI_4_0 Z xb xk xc0 xc1 xc2 xc3 h0) := by
  refine oCon.of (plainFor_of_name pn_0) ?_
  intro p e s m below meth c T X hx hby hml hown hnm hret hlk hZ e0
  have hml : c.maxLocals = 4 := hml
  have K : oKp h0 h0 [] [] := oKp.nil _ _
  refine oWk.cast (g' := (mkF m 0 #[rv xb, iv 58, iv 3, uu] [])) (by first | rfl | (simp [entryFrame, mkF, argsToLocals, Value.category]; done)) ?_
  refine oWk.st (fun _ kt => zI X hx hby d15_0 rfl rfl kt) ?_
  have Oh := K.old O0 all0
  obtain ⟨T, L2, X, e0, K, st⟩ := (cs5 hw).pure X hx hZ hown e0 K (A := [(.int (58 : Int32))]) rfl (rCanI l Z a0 hw []  h0 Oh ) (fun _ _ _ q => q) (W := 0) (by decide) hml (Ls := #[rv xb, iv 58, iv 3, uu]) rfl (rest := []) rfl rfl hby d15_1
  refine oWk.to (mkF m 14 #[rv xb, iv 58, iv 3, uu] [(.int 3), (.int 3)]) (fun _ kt => st _ (zF X hx hby d15_4 rfl rfl ((if0 _ _).trans (feq (by decide)).2) (pc' := 9) rfl (zI X hx hby d15_9 rfl rfl (zA X hx hby d15_10 rfl rfl rfl (oAl X hx hZ e0 V_xb hby d15_11 rfl rfl (zK X hx hby d15_12 rfl (XS.isub X.here hx rfl (hb hby d15_13) rfl kt))))))) ?_
  obtain ⟨T, L5, X, e0, K, st⟩ := (cs6 hw).pure X hx hZ hown e0 K (A := [(.int (3 : Int32)), (.int (3 : Int32))]) rfl (rMin_3_3 l Z a0 hw []  h0 Oh ) (fun _ _ _ q => q) (W := 0) (by decide) hml (Ls := #[rv xb, iv 58, iv 3, uu]) rfl (rest := []) rfl rfl hby d15_14
  refine oWk.to (mkF m 25 #[rv xb, iv 58, iv 3, iv 3] [(ib xc3)]) (fun _ kt => st _ (zSn X hx hby d15_17 rfl rfl (l' := #[rv xb, iv 58, iv 3, iv 3]) rfl (zI X hx hby d15_18 rfl rfl (zH X hx hby d15_19 rfl rfl ((if0 _ _).trans (flt (by decide)).1) (zA X hx hby d15_22 rfl rfl rfl (zI X hx hby d15_23 rfl rfl (oLdB X hx hZ e0 V_xb (3 : Int32) (ib xc3) ⟨by decide, by decide⟩ rfl hby d15_24 rfl rfl kt))))))) ?_
  refine oWk.to (mkF m 27 #[rv xb, iv 58, iv 3, iv 3] [(.int 58), (ib xc3)]) (fun _ kt => zI X hx hby d15_25 rfl rfl (XS.i2b X.here hx rfl (hb hby d15_26) rfl kt)) ?_
  refine oWk.to (mkF m 24 #[rv xb, iv 58, iv 3, iv 2] [(.int 2), (.ref xb)]) (fun _ kt => zY X hx hby d15_27 rfl rfl (feq hu3).2 (pc' := 32) rfl (zC X hx hby d15_32 rfl rfl (l' := #[rv xb, iv 58, iv 3, iv ((3 : Int32) + (-1 : Int32))]) rfl (zG X hx hby d15_35 rfl (pc' := 18) rfl (zI X hx hby d15_18 rfl rfl (zH X hx hby d15_19 rfl rfl ((if0 _ _).trans (flt (by decide)).1) (zA X hx hby d15_22 rfl rfl rfl (zI X hx hby d15_23 rfl rfl kt))))))) ?_
  refine oWk.to (mkF m 27 #[rv xb, iv 58, iv 3, iv 2] [(.int 58), (ib xc2)]) (fun _ kt => oLdB X hx hZ e0 V_xb (2 : Int32) (ib xc2) ⟨by decide, by decide⟩ rfl hby d15_24 rfl rfl (zI X hx hby d15_25 rfl rfl (XS.i2b X.here hx rfl (hb hby d15_26) rfl kt))) ?_
  refine oWk.to (mkF m 24 #[rv xb, iv 58, iv 3, iv 1] [(.int 1), (.ref xb)]) (fun _ kt => zY X hx hby d15_27 rfl rfl (feq hu2).2 (pc' := 32) rfl (zC X hx hby d15_32 rfl rfl (l' := #[rv xb, iv 58, iv 3, iv ((2 : Int32) + (-1 : Int32))]) rfl (zG X hx hby d15_35 rfl (pc' := 18) rfl (zI X hx hby d15_18 rfl rfl (zH X hx hby d15_19 rfl rfl ((if0 _ _).trans (flt (by decide)).1) (zA X hx hby d15_22 rfl rfl rfl (zI X hx hby d15_23 rfl rfl kt))))))) ?_
  refine oWk.to (mkF m 27 #[rv xb, iv 58, iv 3, iv 1] [(.int 58), (ib xc1)]) (fun _ kt => oLdB X hx hZ e0 V_xb (1 : Int32) (ib xc1) ⟨by decide, by decide⟩ rfl hby d15_24 rfl rfl (zI X hx hby d15_25 rfl rfl (XS.i2b X.here hx rfl (hb hby d15_26) rfl kt))) ?_
  refine oWk.to (mkF m 24 #[rv xb, iv 58, iv 3, iv 0] [(.int 0), (.ref xb)]) (fun _ kt => zY X hx hby d15_27 rfl rfl (feq hu1).2 (pc' := 32) rfl (zC X hx hby d15_32 rfl rfl (l' := #[rv xb, iv 58, iv 3, iv ((1 : Int32) + (-1 : Int32))]) rfl (zG X hx hby d15_35 rfl (pc' := 18) rfl (zI X hx hby d15_18 rfl rfl (zH X hx hby d15_19 rfl rfl ((if0 _ _).trans (flt (by decide)).1) (zA X hx hby d15_22 rfl rfl rfl (zI X hx hby d15_23 rfl rfl kt))))))) ?_
  refine oWk.to (mkF m 27 #[rv xb, iv 58, iv 3, iv 0] [(.int 58), (ib xc0)]) (fun _ kt => oLdB X hx hZ e0 V_xb (0 : Int32) (ib xc0) ⟨by decide, by decide⟩ rfl hby d15_24 rfl rfl (zI X hx hby d15_25 rfl rfl (XS.i2b X.here hx rfl (hb hby d15_26) rfl kt))) ?_
  refine oWk.to (mkF m 31 #[rv xb, iv 58, iv 3, iv 0] [(.int 0)]) (fun _ kt => zN X hx hby d15_27 rfl rfl (teq hu0).2 (zI X hx hby d15_30 rfl rfl kt)) ?_
  exact oRetI X hx hlk hret (hb hby d15_31) (by rw [e0]; exact ⟨rfl, rfl, K⟩) (by decide) (by decide)
def Q_rLn_4 (Z : State) (xa xb : Addr) (xk : ClassId) (xz xc0 xc1 xc2 xc3 : Int32) (h0 : Heap) (v : Option Value) (h : Heap) (L : List Loc) : Prop := v = some (.int (4 : Int32)) ∧ h = h0 ∧ oKp h0 h [] L
theorem rLn_4 (l : Launch) (Z : State) (a0 : Array Value) (hw : oHW a0 Z) (ws : List Jvm.Cond) (xa xb : Addr) (xk : ClassId) (xz xc0 xc1 xc2 xc3 : Int32) (h0 : Heap) (O0 : Ext Z.heap h0) (S_COMPACT_STRINGS : Sta Z Z.heap Y0 Y1 "Z" (.int xz)) (hz : ¬ xz = (0 : Int32)) (E_xa : Exa Z h0 xa Y0) (F_coder_xa : Fld Z h0 xa Y0 "coder" "B" (.int (0 : Int32))) (F_value_xa : Fld Z h0 xa Y0 "value" "[B" (.ref xb)) (V_xb : Arv Z h0 xb xk .byte (4 : Int32) [(ib xc0), (ib xc1), (ib xc2), (ib xc3)] (.int (0 : Int32))) :
    oCon l Z yy12 jdk_42_method_54_code 1 (some .int) ws ({ frames := 1, cells := 0, slots := 0, locals := 13 } : Room) #[(.ref xa)] h0 (Q_rLn_4 Z xa xb xk xz xc0 xc1 xc2 xc3 h0) := by
  refine oCon.of (plainFor_of_name pn_3) ?_
  intro p e s m below meth c T X hx hby hml hown hnm hret hlk hZ e0
  have hml : c.maxLocals = 1 := hml
  have K : oKp h0 h0 [] [] := oKp.nil _ _
  refine oWk.cast (g' := (mkF m 0 #[rv xa] [])) (by first | rfl | (simp [entryFrame, mkF, argsToLocals, Value.category]; done)) ?_
  refine oWk.st (fun _ kt => zA X hx hby d11_0 rfl rfl rfl kt) ?_
  obtain ⟨T, X, e0, st⟩ := getF X hx hZ hown (host := "") (Or.inl (oW hw 36 rfl)) Via.refl e0 F_value_xa (g := (mkF m 1 #[rv xa] [(.ref xa)])) rfl rfl (hb hby d11_1)
  refine oWk.st (fun _ kt => st _ (oAl X hx hZ e0 V_xb hby d11_4 rfl rfl (zA X hx hby d11_5 rfl rfl rfl kt))) ?_
  have Oh := K.old O0 all0
  obtain ⟨T, L3, X, e0, K, st⟩ := (cs7 hw).pure X hx hZ hown e0 K (A := [(.ref xa)]) ⟨rfl, _, _, rfl, E_xa⟩ (rCdr l Z a0 hw [] xa xz h0 Oh S_COMPACT_STRINGS hz F_coder_xa) (fun _ _ _ q => q) (W := 1) (by decide) hml (Ls := #[rv xa]) rfl (rest := [(.int (4 : Int32))]) rfl rfl hby d11_6
  refine oWk.to (mkF m 10 #[rv xa] [(.int 4)]) (fun _ kt => st _ (XS.ishr X.here hx rfl (hb hby d11_9) rfl kt)) ?_
  exact oRetI X hx hlk hret (hb hby d11_10) (by rw [e0]; exact ⟨rfl, rfl, K⟩) (by decide) (by decide)
def Q_rLJ_4_0 (Z : State) (xa xb : Addr) (xk : ClassId) (xz xc0 xc1 xc2 xc3 : Int32) (h0 : Heap) (v : Option Value) (h : Heap) (L : List Loc) : Prop := v = some (.int (0 : Int32)) ∧ h = h0 ∧ oKp h0 h [] L
theorem rLJ_4_0 (l : Launch) (Z : State) (a0 : Array Value) (hw : oHW a0 Z) (ws : List Jvm.Cond) (xa xb : Addr) (xk : ClassId) (xz xc0 xc1 xc2 xc3 : Int32) (h0 : Heap) (O0 : Ext Z.heap h0) (S_COMPACT_STRINGS : Sta Z Z.heap Y0 Y1 "Z" (.int xz)) (hz : ¬ xz = (0 : Int32)) (E_xa : Exa Z h0 xa Y0) (F_coder_xa : Fld Z h0 xa Y0 "coder" "B" (.int (0 : Int32))) (F_value_xa : Fld Z h0 xa Y0 "value" "[B" (.ref xb)) (V_xb : Arv Z h0 xb xk .byte (4 : Int32) [(ib xc0), (ib xc1), (ib xc2), (ib xc3)] (.int (0 : Int32))) (hu0 : (xc0.toInt8.toInt32) = (58 : Int32)) (hu1 : ¬ (xc1.toInt8.toInt32) = (58 : Int32)) (hu2 : ¬ (xc2.toInt8.toInt32) = (58 : Int32)) (hu3 : ¬ (xc3.toInt8.toInt32) = (58 : Int32)) :
    oCon l Z yy13 jdk_42_method_83_code 3 (some .int) ws ({ frames := 2, cells := 0, slots := 0, locals := 28 } : Room) #[(.ref xa), (.int (58 : Int32)), (.int (3 : Int32))] h0 (Q_rLJ_4_0 Z xa xb xk xz xc0 xc1 xc2 xc3 h0) := by
  refine oCon.of (plainFor_of_name pn_3) ?_
  intro p e s m below meth c T X hx hby hml hown hnm hret hlk hZ e0
  have hml : c.maxLocals = 3 := hml
  have K : oKp h0 h0 [] [] := oKp.nil _ _
  refine oWk.cast (g' := (mkF m 0 #[rv xa, iv 58, iv 3] [])) (by first | rfl | (simp [entryFrame, mkF, argsToLocals, Value.category]; done)) ?_
  refine oWk.st (fun _ kt => zA X hx hby d13_0 rfl rfl rfl kt) ?_
  have Oh := K.old O0 all0
  obtain ⟨T, L2, X, e0, K, st⟩ := (cs8 hw).pure X hx hZ hown e0 K (A := [(.ref xa)]) ⟨rfl, _, _, rfl, E_xa⟩ (rIsL l Z a0 hw [] xa xz h0 Oh S_COMPACT_STRINGS hz F_coder_xa) (fun _ _ _ q => q) (W := 0) (by decide) hml (Ls := #[rv xa, iv 58, iv 3]) rfl (rest := []) rfl rfl hby d13_1
  refine oWk.st (fun _ kt => st _ (zH X hx hby d13_4 rfl rfl ((if0 _ _).trans (feq (by decide)).1) (zA X hx hby d13_7 rfl rfl rfl kt))) ?_
  obtain ⟨T, X, e0, st⟩ := getF X hx hZ hown (host := "") (Or.inl (oW hw 36 rfl)) Via.refl e0 F_value_xa (g := (mkF m 8 #[rv xa, iv 58, iv 3] [(.ref xa)])) rfl rfl (hb hby d13_8)
  refine oWk.st (fun _ kt => st _ (zI X hx hby d13_11 rfl rfl (zI X hx hby d13_12 rfl rfl kt))) ?_
  obtain ⟨T, L4, X, e0, K, st⟩ := (cs9 hw).pure X hx hZ hown e0 K (A := [(.ref xb), (.int (58 : Int32)), (.int (3 : Int32))]) rfl (rLI_4_0 l Z a0 hw [] xb xk xc0 xc1 xc2 xc3 h0 Oh V_xb hu0 hu1 hu2 hu3) (fun _ _ _ q => q) (W := 0) (by decide) hml (Ls := #[rv xa, iv 58, iv 3]) rfl (rest := []) rfl rfl hby d13_13
  refine oWk.to (mkF m 28 #[rv xa, iv 58, iv 3] [(.int 0)]) (fun _ kt => st _ (zG X hx hby d13_16 rfl (pc' := 28) rfl kt)) ?_
  exact oRetI X hx hlk hret (hb hby d13_28) (by rw [e0]; exact ⟨rfl, rfl, K⟩) (by decide) (by decide)
def Q_rLK_4_0 (Z : State) (xa xb : Addr) (xk : ClassId) (xz xc0 xc1 xc2 xc3 : Int32) (h0 : Heap) (v : Option Value) (h : Heap) (L : List Loc) : Prop := v = some (.int (0 : Int32)) ∧ h = h0 ∧ oKp h0 h [] L
theorem rLK_4_0 (l : Launch) (Z : State) (a0 : Array Value) (hw : oHW a0 Z) (ws : List Jvm.Cond) (xa xb : Addr) (xk : ClassId) (xz xc0 xc1 xc2 xc3 : Int32) (h0 : Heap) (O0 : Ext Z.heap h0) (S_COMPACT_STRINGS : Sta Z Z.heap Y0 Y1 "Z" (.int xz)) (hz : ¬ xz = (0 : Int32)) (E_xa : Exa Z h0 xa Y0) (F_coder_xa : Fld Z h0 xa Y0 "coder" "B" (.int (0 : Int32))) (F_value_xa : Fld Z h0 xa Y0 "value" "[B" (.ref xb)) (V_xb : Arv Z h0 xb xk .byte (4 : Int32) [(ib xc0), (ib xc1), (ib xc2), (ib xc3)] (.int (0 : Int32))) (hu0 : (xc0.toInt8.toInt32) = (58 : Int32)) (hu1 : ¬ (xc1.toInt8.toInt32) = (58 : Int32)) (hu2 : ¬ (xc2.toInt8.toInt32) = (58 : Int32)) (hu3 : ¬ (xc3.toInt8.toInt32) = (58 : Int32)) :
    oCon l Z yy14 jdk_42_method_82_code 2 (some .int) ws ({ frames := 3, cells := 0, slots := 0, locals := 42 } : Room) #[(.ref xa), (.int (58 : Int32))] h0 (Q_rLK_4_0 Z xa xb xk xz xc0 xc1 xc2 xc3 h0) := by
  refine oCon.of (plainFor_of_name pn_3) ?_
  intro p e s m below meth c T X hx hby hml hown hnm hret hlk hZ e0
  have hml : c.maxLocals = 2 := hml
  have K : oKp h0 h0 [] [] := oKp.nil _ _
  refine oWk.cast (g' := (mkF m 0 #[rv xa, iv 58] [])) (by first | rfl | (simp [entryFrame, mkF, argsToLocals, Value.category]; done)) ?_
  refine oWk.st (fun _ kt => zA X hx hby d10_0 rfl rfl rfl (zI X hx hby d10_1 rfl rfl (zA X hx hby d10_2 rfl rfl rfl kt))) ?_
  have Oh := K.old O0 all0
  obtain ⟨T, L2, X, e0, K, st⟩ := (cs10 hw).pure X hx hZ hown e0 K (A := [(.ref xa)]) ⟨rfl, _, _, rfl, E_xa⟩ (rLn_4 l Z a0 hw [] xa xb xk xz xc0 xc1 xc2 xc3 h0 Oh S_COMPACT_STRINGS hz E_xa F_coder_xa F_value_xa V_xb) (fun _ _ _ q => q) (W := 2) (by decide) hml (Ls := #[rv xa, iv 58]) rfl (rest := [(.int (58 : Int32)), (.ref xa)]) rfl rfl hby d10_3
  refine oWk.st (fun _ kt => st _ (zK X hx hby d10_6 rfl (XS.isub X.here hx rfl (hb hby d10_7) rfl kt))) ?_
  obtain ⟨T, L4, X, e0, K, st⟩ := (cs11 hw).pure X hx hZ hown e0 K (A := [(.ref xa), (.int (58 : Int32)), (.int (3 : Int32))]) ⟨rfl, _, _, rfl, E_xa⟩ (rLJ_4_0 l Z a0 hw [] xa xb xk xz xc0 xc1 xc2 xc3 h0 Oh S_COMPACT_STRINGS hz E_xa F_coder_xa F_value_xa V_xb hu0 hu1 hu2 hu3) (fun _ _ _ q => q) (W := 0) (by decide) hml (Ls := #[rv xa, iv 58]) rfl (rest := []) rfl rfl hby d10_8
  refine oWk.to (mkF m 11 #[rv xa, iv 58] [(.int 0)]) (fun _ kt => st _ kt) ?_
  exact oRetI X hx hlk hret (hb hby d10_11) (by rw [e0]; exact ⟨rfl, rfl, K⟩) (by decide) (by decide)
def Q_rNS_4_0_0 (Z : State) (xb : Addr) (xk : ClassId) (xc0 xc1 xc2 xc3 : Int32) (h0 : Heap) (v : Option Value) (h : Heap) (L : List Loc) : Prop := ∃ (nr : Addr) (nb : Addr) (nk : ClassId), v = some (.ref nr) ∧ oKp h0 h [] L ∧ (Exa Z h nr Y0) ∧ (Fld Z h nr Y0 "coder" "B" (.int (0 : Int32))) ∧ (Fld Z h nr Y0 "value" "[B" (.ref nb)) ∧ (Arv Z h nb nk .byte (0 : Int32) [] (.int (0 : Int32)))
theorem rNS_4_0_0 (l : Launch) (Z : State) (a0 : Array Value) (hw : oHW a0 Z) (ws : List Jvm.Cond) (xb : Addr) (xk : ClassId) (xc0 xc1 xc2 xc3 : Int32) (h0 : Heap) (O0 : Ext Z.heap h0) (V_xb : Arv Z h0 xb xk .byte (4 : Int32) [(ib xc0), (ib xc1), (ib xc2), (ib xc3)] (.int (0 : Int32))) :
    oConH l Z oEL yy17 jdk_43_method_47_code 3 (some (.object Y0)) ws ({ frames := 0, cells := 2, slots := 4, locals := 0 } : Room) #[(.ref xb), (.int (0 : Int32)), (.int (0 : Int32))] h0 [] (Q_rNS_4_0_0 Z xb xk xc0 xc1 xc2 xc3 h0) := by
  refine oConH.of (plainFor_of_name pn_0) ?_
  intro p e s m below meth c T vm X hx hby hml hown hnm hret hlk hZ e0 B hsf
  have hml : c.maxLocals = 3 := hml
  have K : oKp h0 h0 [] [] := oKp.nil _ _
  refine oWk.cast (g' := (mkF m 0 #[rv xb, iv 0, iv 0] [])) (by first | rfl | (simp [entryFrame, mkF, argsToLocals, Value.category]; done)) ?_
  refine oWk.st (fun _ kt => zI X hx hby d21_0 rfl rfl (zH X hx hby d21_1 rfl rfl ((if0 _ _).trans (teq (by decide)).2) kt)) ?_
  obtain ⟨lt1, T, h, lt1b, lt1k, X, e2, E1, hZ, hown, B, C, E_lt1, F_coder_lt1, F_value_lt1, V_lt1b, hne, st⟩ := oLdcR X hx hZ hown (oW hw 94 rfl) (oSA hw) e0 (oELw hw) (List.mem_of_getElem? (i := 0) rfl) B (vs := []) (z := 0) oTx0 (by decide) rfl (g := (mkF m 4 #[rv xb, iv 0, iv 0] [])) rfl (hb hby d21_4) (n := 0) (by decide) (by decide) (by decide) (by decide)
  have e0 := e2
  have K := K.ext E1
  refine oWk.to (mkF m 6 #[rv xb, iv 0, iv 0] [(.ref lt1)]) (fun _ kt => st _ kt) ?_
  exact oRetH X hx hlk hZ (oELw hw) e0 B hret (oNarR rfl rfl) (Or.inr (Or.inr (Or.inr (Or.inr ⟨rfl, rfl, rfl⟩)))) (hb hby d21_6) (by rw [e0]; exact ⟨lt1, lt1b, lt1k, rfl, K, E_lt1, F_coder_lt1, F_value_lt1, V_lt1b⟩) (by decide) (by decide)
def Q_rSub_4_0_0 (Z : State) (xa xb : Addr) (xk : ClassId) (xfm : Value) (xz xc0 xc1 xc2 xc3 : Int32) (h0 : Heap) (v : Option Value) (h : Heap) (L : List Loc) : Prop := ∃ (nr : Addr) (nb : Addr) (nk : ClassId), v = some (.ref nr) ∧ oKp h0 h [] L ∧ (Exa Z h nr Y0) ∧ (Fld Z h nr Y0 "coder" "B" (.int (0 : Int32))) ∧ (Fld Z h nr Y0 "value" "[B" (.ref nb)) ∧ (Arv Z h nb nk .byte (0 : Int32) [] (.int (0 : Int32)))
theorem rSub_4_0_0 (l : Launch) (Z : State) (a0 : Array Value) (hw : oHW a0 Z) (ws : List Jvm.Cond) (xa xb : Addr) (xk : ClassId) (xfm : Value) (xz xc0 xc1 xc2 xc3 : Int32) (h0 : Heap) (O0 : Ext Z.heap h0) (S_COMPACT_STRINGS : Sta Z Z.heap Y0 Y1 "Z" (.int xz)) (hz : ¬ xz = (0 : Int32)) (S_SIOOBE_FORMATTER : Sta Z Z.heap Y2 Y3 Y4 xfm) (hcat : xfm.category = 1) (E_xa : Exa Z h0 xa Y0) (F_coder_xa : Fld Z h0 xa Y0 "coder" "B" (.int (0 : Int32))) (F_value_xa : Fld Z h0 xa Y0 "value" "[B" (.ref xb)) (V_xb : Arv Z h0 xb xk .byte (4 : Int32) [(ib xc0), (ib xc1), (ib xc2), (ib xc3)] (.int (0 : Int32))) :
    oConH l Z oEL yy18 jdk_42_method_92_code 5 (some (.object Y0)) ws ({ frames := 2, cells := 2, slots := 4, locals := 29 } : Room) #[(.ref xa), (.int (0 : Int32)), (.int (0 : Int32))] h0 [] (Q_rSub_4_0_0 Z xa xb xk xfm xz xc0 xc1 xc2 xc3 h0) := by
  refine oConH.of (plainFor_of_name pn_3) ?_
  intro p e s m below meth c T vm X hx hby hml hown hnm hret hlk hZ e0 B hsf
  have hml : c.maxLocals = 5 := hml
  have K : oKp h0 h0 [] [] := oKp.nil _ _
  refine oWk.cast (g' := (mkF m 0 #[rv xa, iv 0, iv 0, uu, uu] [])) (by first | rfl | (simp [entryFrame, mkF, argsToLocals, Value.category]; done)) ?_
  refine oWk.st (fun _ kt => zA X hx hby d18_0 rfl rfl rfl kt) ?_
  have Oh := K.old O0 all0
  obtain ⟨T, L2, X, e0, K, st⟩ := (cs10 hw).pure X hx hZ hown e0 K (A := [(.ref xa)]) ⟨rfl, _, _, rfl, E_xa⟩ (rLn_4 l Z a0 hw [] xa xb xk xz xc0 xc1 xc2 xc3 h0 Oh S_COMPACT_STRINGS hz E_xa F_coder_xa F_value_xa V_xb) (fun _ _ _ q => q) (W := 0) (by decide) hml (Ls := #[rv xa, iv 0, iv 0, uu, uu]) rfl (rest := []) rfl rfl hby d18_1
  refine oWk.st (fun _ kt => st _ (zSn X hx hby d18_4 rfl rfl (l' := #[rv xa, iv 0, iv 0, iv 4, uu]) rfl (zI X hx hby d18_5 rfl rfl (zI X hx hby d18_6 rfl rfl (zI X hx hby d18_7 rfl rfl kt))))) ?_
  obtain ⟨T, L4, X, e0, K, st⟩ := (cs13 hw).pure X hx hZ hown e0 K (A := [(.int (0 : Int32)), (.int (0 : Int32)), (.int (4 : Int32))]) rfl (rCkB l Z a0 hw [] (0 : Int32) (0 : Int32) (4 : Int32) xfm h0 Oh S_SIOOBE_FORMATTER hcat (by decide) (by decide) (by decide)) (fun _ _ _ q => q) (W := 0) (by decide) hml (Ls := #[rv xa, iv 0, iv 0, iv 4, uu]) rfl (rest := []) rfl rfl hby d18_8
  refine oWk.to (mkF m 23 #[rv xa, iv 0, iv 0, iv 4, uu] [(.int 0)]) (fun _ kt => st _ (zI X hx hby d18_11 rfl rfl (zH X hx hby d18_12 rfl rfl ((if0 _ _).trans (teq (by decide)).2) (zI X hx hby d18_15 rfl rfl (zI X hx hby d18_16 rfl rfl (zY X hx hby d18_17 rfl rfl (feq (by decide)).2 (pc' := 22) rfl (zI X hx hby d18_22 rfl rfl kt))))))) ?_
  refine oWk.st (fun _ kt => zI X hx hby d18_23 rfl rfl (XS.isub X.here hx rfl (hb hby d18_24) rfl (zS X hx hby d18_25 rfl rfl (l' := #[rv xa, iv 0, iv 0, iv 4, iv 0]) rfl (zA X hx hby d18_27 rfl rfl rfl kt)))) ?_
  obtain ⟨T, L6, X, e0, K, st⟩ := (cs8 hw).pure X hx hZ hown e0 K (A := [(.ref xa)]) ⟨rfl, _, _, rfl, E_xa⟩ (rIsL l Z a0 hw [] xa xz h0 Oh S_COMPACT_STRINGS hz F_coder_xa) (fun _ _ _ q => q) (W := 0) (by decide) hml (Ls := #[rv xa, iv 0, iv 0, iv 4, iv 0]) rfl (rest := []) rfl rfl hby d18_28
  refine oWk.st (fun _ kt => st _ (zH X hx hby d18_31 rfl rfl ((if0 _ _).trans (feq (by decide)).1) (zA X hx hby d18_34 rfl rfl rfl kt))) ?_
  obtain ⟨T, X, e0, st⟩ := getF X hx hZ hown (host := "") (Or.inl (oW hw 36 rfl)) Via.refl e0 F_value_xa (g := (mkF m 35 #[rv xa, iv 0, iv 0, iv 4, iv 0] [(.ref xa)])) rfl rfl (hb hby d18_35)
  refine oWk.st (fun _ kt => st _ (zI X hx hby d18_38 rfl rfl (zJ X hx hby d18_39 rfl rfl kt))) ?_
  obtain ⟨_, _, ⟨T, L8, k8, n8⟩, -, X, hS, hgr, ⟨Lc8, hQ, l8, y8, z8, C⟩, st⟩ := callSS X hx (y := yy17) hown (mvT hZ (oW hw 91 rfl)) (mvT hZ (oW hw 92 rfl)) (mvT hZ (oW hw 69 rfl)) (mvT hZ (oW hw 93 rfl)) (by decide) (oBackH (W := 0) (rNS_4_0_0 l Z a0 hw [] xb xk xc0 xc1 xc2 xc3 h0 Oh V_xb) hZ (oW hw 93 rfl) (oW hw 69 rfl) (by decide) (by decide) (oELw hw) B.2.1 all0) (g := (mkF m 41 #[rv xa, iv 0, iv 0, iv 4, iv 0] [(.int 0), (.int 0), (.ref xb)])) rfl (by rw [hml]; rfl) (argsL := [(.ref xb), (.int (0 : Int32)), (.int (0 : Int32))]) (rest := []) (lenOf pd_13 rfl) rfl (Nat.le_of_eq rfl) (hb hby d18_41) (fun _ _ => ⟨rfl, e0, (by decide : 0 + 2 ≤ _), (by decide : 0 + 4 ≤ _)⟩)
  dsimp only [Pt.U, Pt.locs, Pt.cells, Pt.slots] at X l8 y8 z8 st hQ C hS hgr
  subst l8 y8 z8
  have X : Stand p l e _ (s.setVm T.vm) m _ below meth c T _ _ _ := X
  obtain ⟨h, e2⟩ : ∃ z, T.heap = z := ⟨_, rfl⟩
  have B := B.call e0 hS hgr C e2
  obtain ⟨hZ, hown⟩ := oWide hZ hown hS
  rw [e2] at hQ C
  have e0 := e2
  obtain ⟨nr7, nb7, nk7, rfl, K7, E_nr7, F_coder_nr7, F_value_nr7, V_nb7⟩ := hQ
  have K := K.call K7 all0
  refine oWk.to (mkF m 57 #[rv xa, iv 0, iv 0, iv 4, iv 0] [(.ref nr7)]) (fun _ kt => st.trans (zG X hx hby d18_44 rfl (pc' := 57) rfl kt)) ?_
  exact oRetH X hx hlk hZ (oELw hw) e0 B hret (oNarR rfl rfl) (Or.inr (Or.inr (Or.inr (Or.inr ⟨rfl, rfl, rfl⟩)))) (hb hby d18_57) (by rw [e0]; exact ⟨nr7, nb7, nk7, rfl, K, E_nr7, F_coder_nr7, F_value_nr7, V_nb7⟩) (by decide) (by decide)
def Q_rSP_4_0 (Z : State) (xa xb : Addr) (xk : ClassId) (xfm : Value) (xz xc0 xc1 xc2 xc3 : Int32) (h0 : Heap) (v : Option Value) (h : Heap) (L : List Loc) : Prop := ∃ (nr : Addr) (nb : Addr) (nk : ClassId), v = some (.ref nr) ∧ oKp h0 h [] L ∧ (Exa Z h nr Y0) ∧ (Fld Z h nr Y0 "coder" "B" (.int (0 : Int32))) ∧ (Fld Z h nr Y0 "value" "[B" (.ref nb)) ∧ (Arv Z h nb nk .byte (0 : Int32) [] (.int (0 : Int32)))
theorem rSP_4_0 (l : Launch) (Z : State) (a0 : Array Value) (hw : oHW a0 Z) (ws : List Jvm.Cond) (xa xb : Addr) (xk : ClassId) (xfm : Value) (xz xc0 xc1 xc2 xc3 : Int32) (h0 : Heap) (O0 : Ext Z.heap h0) (S_COMPACT_STRINGS : Sta Z Z.heap Y0 Y1 "Z" (.int xz)) (hz : ¬ xz = (0 : Int32)) (S_SIOOBE_FORMATTER : Sta Z Z.heap Y2 Y3 Y4 xfm) (hcat : xfm.category = 1) (E_xa : Exa Z h0 xa Y0) (F_coder_xa : Fld Z h0 xa Y0 "coder" "B" (.int (0 : Int32))) (F_value_xa : Fld Z h0 xa Y0 "value" "[B" (.ref xb)) (V_xb : Arv Z h0 xb xk .byte (4 : Int32) [(ib xc0), (ib xc1), (ib xc2), (ib xc3)] (.int (0 : Int32))) (hu0 : (xc0.toInt8.toInt32) = (58 : Int32)) (hu1 : ¬ (xc1.toInt8.toInt32) = (58 : Int32)) (hu2 : ¬ (xc2.toInt8.toInt32) = (58 : Int32)) (hu3 : ¬ (xc3.toInt8.toInt32) = (58 : Int32)) :
    oConH l Z oEL yy19 prog_3_method_2_code 1 (some (.object Y0)) ws ({ frames := 4, cells := 2, slots := 4, locals := 57 } : Room) #[(.ref xa)] h0 [] (Q_rSP_4_0 Z xa xb xk xfm xz xc0 xc1 xc2 xc3 h0) := by
  refine oConH.of (plainFor_of_name pn_5) ?_
  intro p e s m below meth c T vm X hx hby hml hown hnm hret hlk hZ e0 B hsf
  have hml : c.maxLocals = 1 := hml
  have K : oKp h0 h0 [] [] := oKp.nil _ _
  refine oWk.cast (g' := (mkF m 0 #[rv xa] [])) (by first | rfl | (simp [entryFrame, mkF, argsToLocals, Value.category]; done)) ?_
  refine oWk.st (fun _ kt => zA X hx hby d9_0 rfl rfl rfl (zK X hx hby d9_1 rfl (zA X hx hby d9_2 rfl rfl rfl (zL X hx hby d9_3 rfl kt)))) ?_
  have Oh := K.old O0 all0
  obtain ⟨T, L2, X, e0, K, st⟩ := (cs14 hw).pure X hx hZ hown e0 K (A := [(.ref xa), (.int (58 : Int32))]) ⟨rfl, _, _, rfl, E_xa⟩ (rLK_4_0 l Z a0 hw [] xa xb xk xz xc0 xc1 xc2 xc3 h0 Oh S_COMPACT_STRINGS hz E_xa F_coder_xa F_value_xa V_xb hu0 hu1 hu2 hu3) (fun _ _ _ q => q) (W := 2) (by decide) hml (Ls := #[rv xa]) rfl (rest := [(.int (0 : Int32)), (.ref xa)]) rfl rfl hby d9_5
  refine oWk.st (fun _ kt => st _ kt) ?_
  obtain ⟨cq4, kq4, q4a, q4b, q4c⟩ := isOf hZ e0 E_xa
  obtain ⟨_, _, ⟨T, L4, k4, n4⟩, -, X, hS, hgr, ⟨Lc4, hQ, l4, y4, z4, C⟩, st⟩ := X.virtualBackS hx (y := yy18) (z := yy18) hown (mvT hZ (oW hw 78 rfl)) (mvT hZ (oW hw 79 rfl)) (notFace_of_selects (args := #[]) (mvT hZ (oW hw 81 rfl))) (mvT hZ (oW hw 81 rfl)) (mvT hZ (oW hw 80 rfl)) (by decide) (oBackH (W := 0) (rSub_4_0_0 l Z a0 hw [] xa xb xk xfm xz xc0 xc1 xc2 xc3 h0 Oh S_COMPACT_STRINGS hz S_SIOOBE_FORMATTER hcat E_xa F_coder_xa F_value_xa V_xb) hZ (oW hw 82 rfl) (oW hw 11 rfl) (by decide) (by decide) (oELw hw) B.2.1 all0) q4a q4c (g := (mkF m 8 #[rv xa] [(.int 0), (.int 0), (.ref xa)])) rfl (by rw [hml]; rfl) (Steps.refl _) (argsL := [(.int (0 : Int32)), (.int (0 : Int32))]) (rest := []) (lenOf pd_15 rfl) rfl (Nat.le_of_eq rfl) (hb hby d9_8) (fun _ _ => ⟨rfl, e0, (by decide : 0 + 2 ≤ _), (by decide : 0 + 4 ≤ _)⟩)
  dsimp only [Pt.U, Pt.locs, Pt.cells, Pt.slots] at X l4 y4 z4 st hQ C hS hgr
  subst l4 y4 z4
  have X : Stand p l e _ (s.setVm T.vm) m _ below meth c T _ _ _ := X
  obtain ⟨h, e2⟩ : ∃ z, T.heap = z := ⟨_, rfl⟩
  have B := B.call e0 hS hgr C e2
  obtain ⟨hZ, hown⟩ := oWide hZ hown hS
  rw [e2] at hQ C
  have e0 := e2
  obtain ⟨nr3, nb3, nk3, rfl, K3, E_nr3, F_coder_nr3, F_value_nr3, V_nb3⟩ := hQ
  have K := K.call K3 all0
  refine oWk.to (mkF m 11 #[rv xa] [(.ref nr3)]) (fun _ kt => st.trans kt) ?_
  exact oRetH X hx hlk hZ (oELw hw) e0 B hret (oNarR rfl rfl) (Or.inr (Or.inr (Or.inr (Or.inr ⟨rfl, rfl, rfl⟩)))) (hb hby d9_11) (by rw [e0]; exact ⟨nr3, nb3, nk3, rfl, K, E_nr3, F_coder_nr3, F_value_nr3, V_nb3⟩) (by decide) (by decide)
def Q_rLI_4_1 (Z : State) (xb : Addr) (xk : ClassId) (xc0 xc1 xc2 xc3 : Int32) (h0 : Heap) (v : Option Value) (h : Heap) (L : List Loc) : Prop := v = some (.int (1 : Int32)) ∧ h = h0 ∧ oKp h0 h [] L
theorem rLI_4_1 (l : Launch) (Z : State) (a0 : Array Value) (hw : oHW a0 Z) (ws : List Jvm.Cond) (xb : Addr) (xk : ClassId) (xc0 xc1 xc2 xc3 : Int32) (h0 : Heap) (O0 : Ext Z.heap h0) (V_xb : Arv Z h0 xb xk .byte (4 : Int32) [(ib xc0), (ib xc1), (ib xc2), (ib xc3)] (.int (0 : Int32))) (hu1 : (xc1.toInt8.toInt32) = (58 : Int32)) (hu2 : ¬ (xc2.toInt8.toInt32) = (58 : Int32)) (hu3 : ¬ (xc3.toInt8.toInt32) = (58 : Int32)) :
    oCon l Z yy9 jdk_43_method_27_code 4 (some .int) ws ({ frames := 1, cells := 0, slots := 0, locals := 13 } : Room) #[(.ref xb), (.int (58 : Int32)), (.int (3 : Int32))] h0 (Q_rLI_4_1 Z xb xk xc0 xc1 xc2 xc3 h0) := by
  refine oCon.of (plainFor_of_name pn_0) ?_
  intro p e s m below meth c T X hx hby hml hown hnm hret hlk hZ e0
  have hml : c.maxLocals = 4 := hml
  have K : oKp h0 h0 [] [] := oKp.nil _ _
  refine oWk.cast (g' := (mkF m 0 #[rv xb, iv 58, iv 3, uu] [])) (by first | rfl | (simp [entryFrame, mkF, argsToLocals, Value.category]; done)) ?_
  refine oWk.st (fun _ kt => zI X hx hby d15_0 rfl rfl kt) ?_
  have Oh := K.old O0 all0
  obtain ⟨T, L2, X, e0, K, st⟩ := (cs5 hw).pure X hx hZ hown e0 K (A := [(.int (58 : Int32))]) rfl (rCanI l Z a0 hw []  h0 Oh ) (fun _ _ _ q => q) (W := 0) (by decide) hml (Ls := #[rv xb, iv 58, iv 3, uu]) rfl (rest := []) rfl rfl hby d15_1
  refine oWk.to (mkF m 14 #[rv xb, iv 58, iv 3, uu] [(.int 3), (.int 3)]) (fun _ kt => st _ (zF X hx hby d15_4 rfl rfl ((if0 _ _).trans (feq (by decide)).2) (pc' := 9) rfl (zI X hx hby d15_9 rfl rfl (zA X hx hby d15_10 rfl rfl rfl (oAl X hx hZ e0 V_xb hby d15_11 rfl rfl (zK X hx hby d15_12 rfl (XS.isub X.here hx rfl (hb hby d15_13) rfl kt))))))) ?_
  obtain ⟨T, L5, X, e0, K, st⟩ := (cs6 hw).pure X hx hZ hown e0 K (A := [(.int (3 : Int32)), (.int (3 : Int32))]) rfl (rMin_3_3 l Z a0 hw []  h0 Oh ) (fun _ _ _ q => q) (W := 0) (by decide) hml (Ls := #[rv xb, iv 58, iv 3, uu]) rfl (rest := []) rfl rfl hby d15_14
  refine oWk.to (mkF m 25 #[rv xb, iv 58, iv 3, iv 3] [(ib xc3)]) (fun _ kt => st _ (zSn X hx hby d15_17 rfl rfl (l' := #[rv xb, iv 58, iv 3, iv 3]) rfl (zI X hx hby d15_18 rfl rfl (zH X hx hby d15_19 rfl rfl ((if0 _ _).trans (flt (by decide)).1) (zA X hx hby d15_22 rfl rfl rfl (zI X hx hby d15_23 rfl rfl (oLdB X hx hZ e0 V_xb (3 : Int32) (ib xc3) ⟨by decide, by decide⟩ rfl hby d15_24 rfl rfl kt))))))) ?_
  refine oWk.to (mkF m 27 #[rv xb, iv 58, iv 3, iv 3] [(.int 58), (ib xc3)]) (fun _ kt => zI X hx hby d15_25 rfl rfl (XS.i2b X.here hx rfl (hb hby d15_26) rfl kt)) ?_
  refine oWk.to (mkF m 24 #[rv xb, iv 58, iv 3, iv 2] [(.int 2), (.ref xb)]) (fun _ kt => zY X hx hby d15_27 rfl rfl (feq hu3).2 (pc' := 32) rfl (zC X hx hby d15_32 rfl rfl (l' := #[rv xb, iv 58, iv 3, iv ((3 : Int32) + (-1 : Int32))]) rfl (zG X hx hby d15_35 rfl (pc' := 18) rfl (zI X hx hby d15_18 rfl rfl (zH X hx hby d15_19 rfl rfl ((if0 _ _).trans (flt (by decide)).1) (zA X hx hby d15_22 rfl rfl rfl (zI X hx hby d15_23 rfl rfl kt))))))) ?_
  refine oWk.to (mkF m 27 #[rv xb, iv 58, iv 3, iv 2] [(.int 58), (ib xc2)]) (fun _ kt => oLdB X hx hZ e0 V_xb (2 : Int32) (ib xc2) ⟨by decide, by decide⟩ rfl hby d15_24 rfl rfl (zI X hx hby d15_25 rfl rfl (XS.i2b X.here hx rfl (hb hby d15_26) rfl kt))) ?_
  refine oWk.to (mkF m 24 #[rv xb, iv 58, iv 3, iv 1] [(.int 1), (.ref xb)]) (fun _ kt => zY X hx hby d15_27 rfl rfl (feq hu2).2 (pc' := 32) rfl (zC X hx hby d15_32 rfl rfl (l' := #[rv xb, iv 58, iv 3, iv ((2 : Int32) + (-1 : Int32))]) rfl (zG X hx hby d15_35 rfl (pc' := 18) rfl (zI X hx hby d15_18 rfl rfl (zH X hx hby d15_19 rfl rfl ((if0 _ _).trans (flt (by decide)).1) (zA X hx hby d15_22 rfl rfl rfl (zI X hx hby d15_23 rfl rfl kt))))))) ?_
  refine oWk.to (mkF m 27 #[rv xb, iv 58, iv 3, iv 1] [(.int 58), (ib xc1)]) (fun _ kt => oLdB X hx hZ e0 V_xb (1 : Int32) (ib xc1) ⟨by decide, by decide⟩ rfl hby d15_24 rfl rfl (zI X hx hby d15_25 rfl rfl (XS.i2b X.here hx rfl (hb hby d15_26) rfl kt))) ?_
  refine oWk.to (mkF m 31 #[rv xb, iv 58, iv 3, iv 1] [(.int 1)]) (fun _ kt => zN X hx hby d15_27 rfl rfl (teq hu1).2 (zI X hx hby d15_30 rfl rfl kt)) ?_
  exact oRetI X hx hlk hret (hb hby d15_31) (by rw [e0]; exact ⟨rfl, rfl, K⟩) (by decide) (by decide)
def Q_rLJ_4_1 (Z : State) (xa xb : Addr) (xk : ClassId) (xz xc0 xc1 xc2 xc3 : Int32) (h0 : Heap) (v : Option Value) (h : Heap) (L : List Loc) : Prop := v = some (.int (1 : Int32)) ∧ h = h0 ∧ oKp h0 h [] L
theorem rLJ_4_1 (l : Launch) (Z : State) (a0 : Array Value) (hw : oHW a0 Z) (ws : List Jvm.Cond) (xa xb : Addr) (xk : ClassId) (xz xc0 xc1 xc2 xc3 : Int32) (h0 : Heap) (O0 : Ext Z.heap h0) (S_COMPACT_STRINGS : Sta Z Z.heap Y0 Y1 "Z" (.int xz)) (hz : ¬ xz = (0 : Int32)) (E_xa : Exa Z h0 xa Y0) (F_coder_xa : Fld Z h0 xa Y0 "coder" "B" (.int (0 : Int32))) (F_value_xa : Fld Z h0 xa Y0 "value" "[B" (.ref xb)) (V_xb : Arv Z h0 xb xk .byte (4 : Int32) [(ib xc0), (ib xc1), (ib xc2), (ib xc3)] (.int (0 : Int32))) (hu1 : (xc1.toInt8.toInt32) = (58 : Int32)) (hu2 : ¬ (xc2.toInt8.toInt32) = (58 : Int32)) (hu3 : ¬ (xc3.toInt8.toInt32) = (58 : Int32)) :
    oCon l Z yy13 jdk_42_method_83_code 3 (some .int) ws ({ frames := 2, cells := 0, slots := 0, locals := 28 } : Room) #[(.ref xa), (.int (58 : Int32)), (.int (3 : Int32))] h0 (Q_rLJ_4_1 Z xa xb xk xz xc0 xc1 xc2 xc3 h0) := by
  refine oCon.of (plainFor_of_name pn_3) ?_
  intro p e s m below meth c T X hx hby hml hown hnm hret hlk hZ e0
  have hml : c.maxLocals = 3 := hml
  have K : oKp h0 h0 [] [] := oKp.nil _ _
  refine oWk.cast (g' := (mkF m 0 #[rv xa, iv 58, iv 3] [])) (by first | rfl | (simp [entryFrame, mkF, argsToLocals, Value.category]; done)) ?_
  refine oWk.st (fun _ kt => zA X hx hby d13_0 rfl rfl rfl kt) ?_
  have Oh := K.old O0 all0
  obtain ⟨T, L2, X, e0, K, st⟩ := (cs8 hw).pure X hx hZ hown e0 K (A := [(.ref xa)]) ⟨rfl, _, _, rfl, E_xa⟩ (rIsL l Z a0 hw [] xa xz h0 Oh S_COMPACT_STRINGS hz F_coder_xa) (fun _ _ _ q => q) (W := 0) (by decide) hml (Ls := #[rv xa, iv 58, iv 3]) rfl (rest := []) rfl rfl hby d13_1
  refine oWk.st (fun _ kt => st _ (zH X hx hby d13_4 rfl rfl ((if0 _ _).trans (feq (by decide)).1) (zA X hx hby d13_7 rfl rfl rfl kt))) ?_
  obtain ⟨T, X, e0, st⟩ := getF X hx hZ hown (host := "") (Or.inl (oW hw 36 rfl)) Via.refl e0 F_value_xa (g := (mkF m 8 #[rv xa, iv 58, iv 3] [(.ref xa)])) rfl rfl (hb hby d13_8)
  refine oWk.st (fun _ kt => st _ (zI X hx hby d13_11 rfl rfl (zI X hx hby d13_12 rfl rfl kt))) ?_
  obtain ⟨T, L4, X, e0, K, st⟩ := (cs9 hw).pure X hx hZ hown e0 K (A := [(.ref xb), (.int (58 : Int32)), (.int (3 : Int32))]) rfl (rLI_4_1 l Z a0 hw [] xb xk xc0 xc1 xc2 xc3 h0 Oh V_xb hu1 hu2 hu3) (fun _ _ _ q => q) (W := 0) (by decide) hml (Ls := #[rv xa, iv 58, iv 3]) rfl (rest := []) rfl rfl hby d13_13
  refine oWk.to (mkF m 28 #[rv xa, iv 58, iv 3] [(.int 1)]) (fun _ kt => st _ (zG X hx hby d13_16 rfl (pc' := 28) rfl kt)) ?_
  exact oRetI X hx hlk hret (hb hby d13_28) (by rw [e0]; exact ⟨rfl, rfl, K⟩) (by decide) (by decide)
def Q_rLK_4_1 (Z : State) (xa xb : Addr) (xk : ClassId) (xz xc0 xc1 xc2 xc3 : Int32) (h0 : Heap) (v : Option Value) (h : Heap) (L : List Loc) : Prop := v = some (.int (1 : Int32)) ∧ h = h0 ∧ oKp h0 h [] L
theorem rLK_4_1 (l : Launch) (Z : State) (a0 : Array Value) (hw : oHW a0 Z) (ws : List Jvm.Cond) (xa xb : Addr) (xk : ClassId) (xz xc0 xc1 xc2 xc3 : Int32) (h0 : Heap) (O0 : Ext Z.heap h0) (S_COMPACT_STRINGS : Sta Z Z.heap Y0 Y1 "Z" (.int xz)) (hz : ¬ xz = (0 : Int32)) (E_xa : Exa Z h0 xa Y0) (F_coder_xa : Fld Z h0 xa Y0 "coder" "B" (.int (0 : Int32))) (F_value_xa : Fld Z h0 xa Y0 "value" "[B" (.ref xb)) (V_xb : Arv Z h0 xb xk .byte (4 : Int32) [(ib xc0), (ib xc1), (ib xc2), (ib xc3)] (.int (0 : Int32))) (hu1 : (xc1.toInt8.toInt32) = (58 : Int32)) (hu2 : ¬ (xc2.toInt8.toInt32) = (58 : Int32)) (hu3 : ¬ (xc3.toInt8.toInt32) = (58 : Int32)) :
    oCon l Z yy14 jdk_42_method_82_code 2 (some .int) ws ({ frames := 3, cells := 0, slots := 0, locals := 42 } : Room) #[(.ref xa), (.int (58 : Int32))] h0 (Q_rLK_4_1 Z xa xb xk xz xc0 xc1 xc2 xc3 h0) := by
  refine oCon.of (plainFor_of_name pn_3) ?_
  intro p e s m below meth c T X hx hby hml hown hnm hret hlk hZ e0
  have hml : c.maxLocals = 2 := hml
  have K : oKp h0 h0 [] [] := oKp.nil _ _
  refine oWk.cast (g' := (mkF m 0 #[rv xa, iv 58] [])) (by first | rfl | (simp [entryFrame, mkF, argsToLocals, Value.category]; done)) ?_
  refine oWk.st (fun _ kt => zA X hx hby d10_0 rfl rfl rfl (zI X hx hby d10_1 rfl rfl (zA X hx hby d10_2 rfl rfl rfl kt))) ?_
  have Oh := K.old O0 all0
  obtain ⟨T, L2, X, e0, K, st⟩ := (cs10 hw).pure X hx hZ hown e0 K (A := [(.ref xa)]) ⟨rfl, _, _, rfl, E_xa⟩ (rLn_4 l Z a0 hw [] xa xb xk xz xc0 xc1 xc2 xc3 h0 Oh S_COMPACT_STRINGS hz E_xa F_coder_xa F_value_xa V_xb) (fun _ _ _ q => q) (W := 2) (by decide) hml (Ls := #[rv xa, iv 58]) rfl (rest := [(.int (58 : Int32)), (.ref xa)]) rfl rfl hby d10_3
  refine oWk.st (fun _ kt => st _ (zK X hx hby d10_6 rfl (XS.isub X.here hx rfl (hb hby d10_7) rfl kt))) ?_
  obtain ⟨T, L4, X, e0, K, st⟩ := (cs11 hw).pure X hx hZ hown e0 K (A := [(.ref xa), (.int (58 : Int32)), (.int (3 : Int32))]) ⟨rfl, _, _, rfl, E_xa⟩ (rLJ_4_1 l Z a0 hw [] xa xb xk xz xc0 xc1 xc2 xc3 h0 Oh S_COMPACT_STRINGS hz E_xa F_coder_xa F_value_xa V_xb hu1 hu2 hu3) (fun _ _ _ q => q) (W := 0) (by decide) hml (Ls := #[rv xa, iv 58]) rfl (rest := []) rfl rfl hby d10_8
  refine oWk.to (mkF m 11 #[rv xa, iv 58] [(.int 1)]) (fun _ kt => st _ kt) ?_
  exact oRetI X hx hlk hret (hb hby d10_11) (by rw [e0]; exact ⟨rfl, rfl, K⟩) (by decide) (by decide)
def Q_rMin_4_1 (Z : State)  (h0 : Heap) (v : Option Value) (h : Heap) (L : List Loc) : Prop := v = some (.int (1 : Int32)) ∧ h = h0 ∧ oKp h0 h [] L
theorem rMin_4_1 (l : Launch) (Z : State) (a0 : Array Value) (hw : oHW a0 Z) (ws : List Jvm.Cond)  (h0 : Heap) (O0 : Ext Z.heap h0)  :
    oCon l Z yy8 jdk_29_method_69_code 2 (some .int) ws ({ frames := 0, cells := 0, slots := 0, locals := 0 } : Room) #[(.int (4 : Int32)), (.int (1 : Int32))] h0 (Q_rMin_4_1 Z  h0) := by
  refine oCon.of (Jvm.Free.JP.mathPlain rfl (by decide +kernel)) ?_
  intro p e s m below meth c T X hx hby hml hown hnm hret hlk hZ e0
  have hml : c.maxLocals = 2 := hml
  have K : oKp h0 h0 [] [] := oKp.nil _ _
  refine oWk.cast (g' := (mkF m 0 #[iv 4, iv 1] [])) (by first | rfl | (simp [entryFrame, mkF, argsToLocals, Value.category]; done)) ?_
  refine oWk.to (mkF m 10 #[iv 4, iv 1] [(.int 1)]) (fun _ kt => zI X hx hby d17_0 rfl rfl (zI X hx hby d17_1 rfl rfl (zY X hx hby d17_2 rfl rfl (tlt (by decide)).2.2.1 (pc' := 9) rfl (zI X hx hby d17_9 rfl rfl kt)))) ?_
  exact oRetI X hx hlk hret (hb hby d17_10) (by rw [e0]; exact ⟨rfl, rfl, K⟩) (by decide) (by decide)
def Q_rCRB_4_0_1 (Z : State) (xb : Addr) (xk : ClassId) (xc0 xc1 xc2 xc3 : Int32) (h0 : Heap) (v : Option Value) (h : Heap) (L : List Loc) : Prop := ∃ (nb : Addr) (nk : ClassId), v = some (.ref nb) ∧ oKp h0 h [] L ∧ (h0.size ≤ nb) ∧ (Arv Z h nb nk .byte (1 : Int32) [(ib xc0)] (.int (0 : Int32)))
theorem rCRB_4_0_1 (l : Launch) (Z : State) (a0 : Array Value) (hw : oHW a0 Z) (ws : List Jvm.Cond) (xb : Addr) (xk : ClassId) (xc0 xc1 xc2 xc3 : Int32) (h0 : Heap) (O0 : Ext Z.heap h0) (V_xb : Arv Z h0 xb xk .byte (4 : Int32) [(ib xc0), (ib xc1), (ib xc2), (ib xc3)] (.int (0 : Int32))) :
    oCon l Z yy21 jdk_65_method_133_code 5 (some (.array .byte)) ws ({ frames := 1, cells := 1, slots := 1, locals := 18 } : Room) #[(.ref xb), (.int (0 : Int32)), (.int (1 : Int32))] h0 (Q_rCRB_4_0_1 Z xb xk xc0 xc1 xc2 xc3 h0) := by
  refine oCon.of (plainFor_of_name pn_6) ?_
  intro p e s m below meth c T X hx hby hml hown hnm hret hlk hZ e0
  have hml : c.maxLocals = 5 := hml
  have K : oKp h0 h0 [] [] := oKp.nil _ _
  refine oWk.cast (g' := (mkF m 0 #[rv xb, iv 0, iv 1, uu, uu] [])) (by first | rfl | (simp [entryFrame, mkF, argsToLocals, Value.category]; done)) ?_
  refine oWk.st (fun _ kt => zI X hx hby d23_0 rfl rfl (zI X hx hby d23_1 rfl rfl kt)) ?_
  have Oh := K.old O0 all0
  obtain ⟨T, L2, X, e0, K, st⟩ := (cs15 hw).pure X hx hZ hown e0 K (A := [(.int (0 : Int32)), (.int (1 : Int32))]) rfl (rCkL_0_1 l Z a0 hw []  h0 Oh ) (fun _ _ _ q => q) (W := 0) (by decide) hml (Ls := #[rv xb, iv 0, iv 1, uu, uu]) rfl (rest := []) rfl rfl hby d23_2
  refine oWk.st (fun _ kt => st _ (zI X hx hby d23_5 rfl rfl (zI X hx hby d23_6 rfl rfl (XS.isub X.here hx rfl (hb hby d23_7) rfl (zSn X hx hby d23_8 rfl rfl (l' := #[rv xb, iv 0, iv 1, iv 1, uu]) rfl (zI X hx hby d23_9 rfl rfl kt)))))) ?_
  obtain ⟨o3, g3⟩ : ∃ z, z = h0.size := ⟨_, rfl⟩
  have ne_xb_o3 : xb ≠ o3 := Nat.ne_of_lt (Nat.lt_of_lt_of_le V_xb.lt (Nat.le_of_eq g3.symm))
  have ge_o3 : h0.size ≤ o3 := Nat.le_trans K.le (Nat.le_of_eq g3.symm)
  obtain ⟨T, h, k3, X, e0, E3, A3, st⟩ := newP X hx hZ (oW hw 27 rfl) e0 (g := (mkF m 10 #[rv xb, iv 0, iv 1, iv 1, uu] [(.int 1)])) rfl (hb hby d23_10) rfl (by decide) (cap := 1) (by decide) (by decide) (by decide) (by decide)
  rw [← g3] at A3 st
  have K := K.ext E3
  have V_o3 : Arv Z h o3 k3 .byte (1 : Int32) [(.int (0 : Int32))] (.int (0 : Int32)) := (Arv.new A3 (by decide)).pad (pad_rep [] (.int (0 : Int32)) 1)
  refine oWk.to (mkF m 20 #[rv xb, iv 0, iv 1, iv 1, rv o3] [(.ref xb), (.int 0), (.ref o3), (.int 0), (.ref xb)]) (fun _ kt => st _ (zT X hx hby d23_12 rfl rfl rfl (l' := #[rv xb, iv 0, iv 1, iv 1, rv o3]) rfl (zA X hx hby d23_14 rfl rfl rfl (zI X hx hby d23_15 rfl rfl (zB X hx hby d23_16 rfl rfl rfl (zK X hx hby d23_18 rfl (zA X hx hby d23_19 rfl rfl rfl kt))))))) ?_
  have V_xb := (V_xb.ext E3)
  refine oWk.st (fun _ kt => oAl X hx hZ e0 V_xb hby d23_20 rfl rfl (zI X hx hby d23_21 rfl rfl (XS.isub X.here hx rfl (hb hby d23_22) rfl (zI X hx hby d23_23 rfl rfl kt)))) ?_
  have Oh := K.old O0 all0
  obtain ⟨T, L6, X, e0, K, st⟩ := (cs16 hw).pure X hx hZ hown e0 K (A := [(.int (4 : Int32)), (.int (1 : Int32))]) rfl (rMin_4_1 l Z a0 hw []  h Oh ) (fun _ _ _ q => q) (W := 4) (by decide) hml (Ls := #[rv xb, iv 0, iv 1, iv 1, rv o3]) rfl (rest := [(.int (0 : Int32)), (.ref o3), (.int (0 : Int32)), (.ref xb)]) rfl rfl hby d23_24
  refine oWk.st (fun _ kt => st _ kt) ?_
  obtain ⟨T, h, L7, X, e0, N7, C7, V7, st⟩ := cpA X hx hZ hown (oW hw 110 rfl) (oW hw 113 rfl) (oW hw 111 rfl) (oW hw 112 rfl) e0 (us := [(ib xc0)]) V_xb V_o3 (Or.inl ⟨rfl, rfl⟩) (by decide) (by decide) (by decide) (by decide) (by decide) rfl (by decide) K.fr ge_o3 (g := (mkF m 27 #[rv xb, iv 0, iv 1, iv 1, rv o3] [(.int 1), (.int 0), (.ref o3), (.int 0), (.ref xb)])) rfl (by rw [hml]; rfl) rfl (hb hby d23_27) (by decide) (W := 0) (Nat.le_of_eq rfl) (by decide)
  have K : oKp h0 h [] L7 := ⟨K.1.trans C7 (allS (Or.inr ge_o3) all0), fun y hy => Or.inr (N7 y hy)⟩
  have V_o3 : Arv Z h o3 k3 .byte (1 : Int32) [(ib xc0)] (.int (0 : Int32)) := V7
  refine oWk.to (mkF m 32 #[rv xb, iv 0, iv 1, iv 1, rv o3] [(.ref o3)]) (fun _ kt => st _ (zB X hx hby d23_30 rfl rfl rfl kt)) ?_
  exact oRetA X hx hlk hret rfl rfl (hb hby d23_32) (by rw [e0]; exact ⟨o3, k3, rfl, K, ge_o3, V_o3⟩) (by decide) (by decide)
def Q_rCR_4_0_1 (Z : State) (xb : Addr) (xk : ClassId) (xc0 xc1 xc2 xc3 : Int32) (h0 : Heap) (v : Option Value) (h : Heap) (L : List Loc) : Prop := ∃ (nb : Addr) (nk : ClassId), v = some (.ref nb) ∧ oKp h0 h [] L ∧ (h0.size ≤ nb) ∧ (Arv Z h nb nk .byte (1 : Int32) [(ib xc0)] (.int (0 : Int32)))
theorem rCR_4_0_1 (l : Launch) (Z : State) (a0 : Array Value) (hw : oHW a0 Z) (ws : List Jvm.Cond) (xb : Addr) (xk : ClassId) (xc0 xc1 xc2 xc3 : Int32) (h0 : Heap) (O0 : Ext Z.heap h0) (V_xb : Arv Z h0 xb xk .byte (4 : Int32) [(ib xc0), (ib xc1), (ib xc2), (ib xc3)] (.int (0 : Int32))) :
    oCon l Z yy22 jdk_65_method_132_code 3 (some (.array .byte)) ws ({ frames := 2, cells := 1, slots := 1, locals := 34 } : Room) #[(.ref xb), (.int (0 : Int32)), (.int (1 : Int32))] h0 (Q_rCR_4_0_1 Z xb xk xc0 xc1 xc2 xc3 h0) := by
  refine oCon.of (plainFor_of_name pn_6) ?_
  intro p e s m below meth c T X hx hby hml hown hnm hret hlk hZ e0
  have hml : c.maxLocals = 3 := hml
  have K : oKp h0 h0 [] [] := oKp.nil _ _
  refine oWk.cast (g' := (mkF m 0 #[rv xb, iv 0, iv 1] [])) (by first | rfl | (simp [entryFrame, mkF, argsToLocals, Value.category]; done)) ?_
  refine oWk.to (mkF m 11 #[rv xb, iv 0, iv 1] [(.ref xb)]) (fun _ kt => zI X hx hby d22_0 rfl rfl (zH X hx hby d22_1 rfl rfl ((if0 _ _).trans (teq (by decide)).2) (zI X hx hby d22_4 rfl rfl (zA X hx hby d22_5 rfl rfl rfl (oAl X hx hZ e0 V_xb hby d22_6 rfl rfl (zN X hx hby d22_7 rfl rfl (feq (by decide)).1 (zA X hx hby d22_10 rfl rfl rfl kt))))))) ?_
  refine oWk.st (fun _ kt => zI X hx hby d22_11 rfl rfl (zI X hx hby d22_12 rfl rfl kt)) ?_
  have lt_xb := V_xb.lt
  have Oh := K.old O0 all0
  obtain ⟨_, T, h, Lc3, X, e0, hQ, st⟩ := (cs17 hw).run X hx hZ hown e0 (A := [(.ref xb), (.int (0 : Int32)), (.int (1 : Int32))]) rfl (rCRB_4_0_1 l Z a0 hw [] xb xk xc0 xc1 xc2 xc3 h0 Oh V_xb) (W := 0) (by decide) hml (Ls := #[rv xb, iv 0, iv 1]) rfl (rest := []) rfl rfl hby d22_13
  obtain ⟨nb2, nk2, rfl, K2, gn_nb2, V_nb2⟩ := hQ
  have ge_nb2 := Nat.le_trans K.le gn_nb2
  have ne_xb_nb2 : xb ≠ nb2 := Nat.ne_of_lt (Nat.lt_of_lt_of_le lt_xb gn_nb2)
  have K := K.call K2 all0
  refine oWk.to (mkF m 16 #[rv xb, iv 0, iv 1] [(.ref nb2)]) (fun _ kt => st _ kt) ?_
  exact oRetA X hx hlk hret rfl rfl (hb hby d22_16) (by rw [e0]; exact ⟨nb2, nk2, rfl, K, ge_nb2, V_nb2⟩) (by decide) (by decide)
def Q_rNS_4_0_1 (Z : State) (xb : Addr) (xk : ClassId) (xc0 xc1 xc2 xc3 : Int32) (h0 : Heap) (v : Option Value) (h : Heap) (L : List Loc) : Prop := ∃ (nr : Addr) (nb : Addr) (nk : ClassId), v = some (.ref nr) ∧ oKp h0 h [] L ∧ (h0.size ≤ nr) ∧ (h0.size ≤ nb) ∧ (Exa Z h nr Y0) ∧ (Fld Z h nr Y0 "coder" "B" (.int (0 : Int32))) ∧ (Fld Z h nr Y0 "value" "[B" (.ref nb)) ∧ (Arv Z h nb nk .byte (1 : Int32) [(ib xc0)] (.int (0 : Int32)))
theorem rNS_4_0_1 (l : Launch) (Z : State) (a0 : Array Value) (hw : oHW a0 Z) (ws : List Jvm.Cond) (xb : Addr) (xk : ClassId) (xc0 xc1 xc2 xc3 : Int32) (h0 : Heap) (O0 : Ext Z.heap h0) (V_xb : Arv Z h0 xb xk .byte (4 : Int32) [(ib xc0), (ib xc1), (ib xc2), (ib xc3)] (.int (0 : Int32))) :
    oCon l Z yy17 jdk_43_method_47_code 3 (some (.object Y0)) ws ({ frames := 3, cells := 2, slots := 5, locals := 50 } : Room) #[(.ref xb), (.int (0 : Int32)), (.int (1 : Int32))] h0 (Q_rNS_4_0_1 Z xb xk xc0 xc1 xc2 xc3 h0) := by
  refine oCon.of (plainFor_of_name pn_0) ?_
  intro p e s m below meth c T X hx hby hml hown hnm hret hlk hZ e0
  have hml : c.maxLocals = 3 := hml
  have K : oKp h0 h0 [] [] := oKp.nil _ _
  refine oWk.cast (g' := (mkF m 0 #[rv xb, iv 0, iv 1] [])) (by first | rfl | (simp [entryFrame, mkF, argsToLocals, Value.category]; done)) ?_
  refine oWk.st (fun _ kt => zI X hx hby d21_0 rfl rfl (zF X hx hby d21_1 rfl rfl ((if0 _ _).trans (feq (by decide)).2) (pc' := 7) rfl kt)) ?_
  obtain ⟨o1, g1⟩ : ∃ z, z = h0.size := ⟨_, rfl⟩
  have ne_xb_o1 : xb ≠ o1 := Nat.ne_of_lt (Nat.lt_of_lt_of_le V_xb.lt (Nat.le_of_eq g1.symm))
  have ge_o1 : h0.size ≤ o1 := Nat.le_trans K.le (Nat.le_of_eq g1.symm)
  obtain ⟨T, h, X, e0, E1, A1, D1, -, st⟩ := newO X hx hZ hown (oW hw 98 rfl) (oW hw 10 rfl) (oW hw 11 rfl) e0 (g := (mkF m 7 #[rv xb, iv 0, iv 1] [])) rfl (hb hby d21_7) (by decide) (by decide)
  rw [← g1] at A1 D1 st
  have K := K.ext E1
  have E_o1 := A1
  have F_coder_o1 : Fld Z h o1 Y0 "coder" "B" (.int (0 : Int32)) := D1 (Or.inr (oW hw 35 rfl)) (ty := .byte) (by decide)
  have F_value_o1 : Fld Z h o1 Y0 "value" "[B" .null := D1 (Or.inr (oW hw 37 rfl)) (ty := (.array .byte)) (by decide)
  refine oWk.to (mkF m 16 #[rv xb, iv 0, iv 1] [(.int 1), (.int 0), (.ref xb), (.ref o1), (.ref o1)]) (fun _ kt => st _ (zD X hx hby d21_10 rfl rfl rfl (zA X hx hby d21_11 rfl rfl rfl (zI X hx hby d21_12 rfl rfl (zI X hx hby d21_13 rfl rfl (zI X hx hby d21_14 rfl rfl (XS.iadd X.here hx rfl (hb hby d21_15) rfl kt))))))) ?_
  have V_xb := (V_xb.ext E1)
  have lt_xb := V_xb.lt
  have lt_o1 := E_o1.lt
  have Oh := K.old O0 all0
  obtain ⟨_, T, h, Lc3, X, e0, hQ, st⟩ := (cs18 hw).run X hx hZ hown e0 (A := [(.ref xb), (.int (0 : Int32)), (.int (1 : Int32))]) rfl (rCR_4_0_1 l Z a0 hw [] xb xk xc0 xc1 xc2 xc3 h Oh V_xb) (W := 2) (by decide) hml (Ls := #[rv xb, iv 0, iv 1]) rfl (rest := [(.ref o1), (.ref o1)]) rfl rfl hby d21_16
  obtain ⟨nb2, nk2, rfl, K2, gn_nb2, V_nb2⟩ := hQ
  have ge_nb2 := Nat.le_trans K.le gn_nb2
  have ne_xb_nb2 : xb ≠ nb2 := Nat.ne_of_lt (Nat.lt_of_lt_of_le lt_xb gn_nb2)
  have ne_o1_nb2 : o1 ≠ nb2 := Nat.ne_of_lt (Nat.lt_of_lt_of_le lt_o1 gn_nb2)
  have K := K.call K2 all0
  refine oWk.st (fun _ kt => st _ (zK X hx hby d21_19 rfl kt)) ?_
  have E_o1 := (E_o1.keep K2.1)
  have F_value_o1 := (F_value_o1.keep K2.1 nin0)
  have F_coder_o1 := (F_coder_o1.keep K2.1 nin0)
  have Oh := K.old O0 all0
  obtain ⟨_, T, h, Lc5, X, e0, hQ, st⟩ := (cs19 hw).run X hx hZ hown e0 (A := [(.ref o1), (.ref nb2), (.int (0 : Int32))]) ⟨rfl, _, _, rfl⟩ (rSIn l Z a0 hw [] o1 nb2 .null (.int (0 : Int32)) h Oh (Nat.le_trans O0.1 ge_o1) E_o1 F_value_o1 F_coder_o1) (W := 1) (by decide) hml (Ls := #[rv xb, iv 0, iv 1]) rfl (rest := [(.ref o1)]) rfl rfl hby d21_20
  obtain ⟨rfl, K4, E_o1, F_value_o1, F_coder_o1⟩ := hQ
  have K := K.call K4 (allS (Or.inr ge_o1) all0)
  refine oWk.to (mkF m 23 #[rv xb, iv 0, iv 1] [(.ref o1)]) (fun _ kt => st _ kt) ?_
  have V_nb2 := (V_nb2.keep K4.1 (ninS (Ne.symm ne_o1_nb2) nin0))
  exact oRetA X hx hlk hret rfl rfl (hb hby d21_23) (by rw [e0]; exact ⟨o1, nb2, nk2, rfl, K, ge_o1, ge_nb2, E_o1, F_coder_o1, F_value_o1, V_nb2⟩) (by decide) (by decide)
def Q_rSub_4_0_1 (Z : State) (xa xb : Addr) (xk : ClassId) (xfm : Value) (xz xc0 xc1 xc2 xc3 : Int32) (h0 : Heap) (v : Option Value) (h : Heap) (L : List Loc) : Prop := ∃ (nr : Addr) (nb : Addr) (nk : ClassId), v = some (.ref nr) ∧ oKp h0 h [] L ∧ (h0.size ≤ nr) ∧ (h0.size ≤ nb) ∧ (Exa Z h nr Y0) ∧ (Fld Z h nr Y0 "coder" "B" (.int (0 : Int32))) ∧ (Fld Z h nr Y0 "value" "[B" (.ref nb)) ∧ (Arv Z h nb nk .byte (1 : Int32) [(ib xc0)] (.int (0 : Int32)))
theorem rSub_4_0_1 (l : Launch) (Z : State) (a0 : Array Value) (hw : oHW a0 Z) (ws : List Jvm.Cond) (xa xb : Addr) (xk : ClassId) (xfm : Value) (xz xc0 xc1 xc2 xc3 : Int32) (h0 : Heap) (O0 : Ext Z.heap h0) (S_COMPACT_STRINGS : Sta Z Z.heap Y0 Y1 "Z" (.int xz)) (hz : ¬ xz = (0 : Int32)) (S_SIOOBE_FORMATTER : Sta Z Z.heap Y2 Y3 Y4 xfm) (hcat : xfm.category = 1) (E_xa : Exa Z h0 xa Y0) (F_coder_xa : Fld Z h0 xa Y0 "coder" "B" (.int (0 : Int32))) (F_value_xa : Fld Z h0 xa Y0 "value" "[B" (.ref xb)) (V_xb : Arv Z h0 xb xk .byte (4 : Int32) [(ib xc0), (ib xc1), (ib xc2), (ib xc3)] (.int (0 : Int32))) :
    oCon l Z yy18 jdk_42_method_92_code 5 (some (.object Y0)) ws ({ frames := 4, cells := 2, slots := 5, locals := 64 } : Room) #[(.ref xa), (.int (0 : Int32)), (.int (1 : Int32))] h0 (Q_rSub_4_0_1 Z xa xb xk xfm xz xc0 xc1 xc2 xc3 h0) := by
  refine oCon.of (plainFor_of_name pn_3) ?_
  intro p e s m below meth c T X hx hby hml hown hnm hret hlk hZ e0
  have hml : c.maxLocals = 5 := hml
  have K : oKp h0 h0 [] [] := oKp.nil _ _
  refine oWk.cast (g' := (mkF m 0 #[rv xa, iv 0, iv 1, uu, uu] [])) (by first | rfl | (simp [entryFrame, mkF, argsToLocals, Value.category]; done)) ?_
  refine oWk.st (fun _ kt => zA X hx hby d18_0 rfl rfl rfl kt) ?_
  have Oh := K.old O0 all0
  obtain ⟨T, L2, X, e0, K, st⟩ := (cs10 hw).pure X hx hZ hown e0 K (A := [(.ref xa)]) ⟨rfl, _, _, rfl, E_xa⟩ (rLn_4 l Z a0 hw [] xa xb xk xz xc0 xc1 xc2 xc3 h0 Oh S_COMPACT_STRINGS hz E_xa F_coder_xa F_value_xa V_xb) (fun _ _ _ q => q) (W := 0) (by decide) hml (Ls := #[rv xa, iv 0, iv 1, uu, uu]) rfl (rest := []) rfl rfl hby d18_1
  refine oWk.st (fun _ kt => st _ (zSn X hx hby d18_4 rfl rfl (l' := #[rv xa, iv 0, iv 1, iv 4, uu]) rfl (zI X hx hby d18_5 rfl rfl (zI X hx hby d18_6 rfl rfl (zI X hx hby d18_7 rfl rfl kt))))) ?_
  obtain ⟨T, L4, X, e0, K, st⟩ := (cs13 hw).pure X hx hZ hown e0 K (A := [(.int (0 : Int32)), (.int (1 : Int32)), (.int (4 : Int32))]) rfl (rCkB l Z a0 hw [] (0 : Int32) (1 : Int32) (4 : Int32) xfm h0 Oh S_SIOOBE_FORMATTER hcat (by decide) (by decide) (by decide)) (fun _ _ _ q => q) (W := 0) (by decide) hml (Ls := #[rv xa, iv 0, iv 1, iv 4, uu]) rfl (rest := []) rfl rfl hby d18_8
  refine oWk.to (mkF m 23 #[rv xa, iv 0, iv 1, iv 4, uu] [(.int 1)]) (fun _ kt => st _ (zI X hx hby d18_11 rfl rfl (zH X hx hby d18_12 rfl rfl ((if0 _ _).trans (teq (by decide)).2) (zI X hx hby d18_15 rfl rfl (zI X hx hby d18_16 rfl rfl (zY X hx hby d18_17 rfl rfl (feq (by decide)).2 (pc' := 22) rfl (zI X hx hby d18_22 rfl rfl kt))))))) ?_
  refine oWk.st (fun _ kt => zI X hx hby d18_23 rfl rfl (XS.isub X.here hx rfl (hb hby d18_24) rfl (zS X hx hby d18_25 rfl rfl (l' := #[rv xa, iv 0, iv 1, iv 4, iv 1]) rfl (zA X hx hby d18_27 rfl rfl rfl kt)))) ?_
  obtain ⟨T, L6, X, e0, K, st⟩ := (cs8 hw).pure X hx hZ hown e0 K (A := [(.ref xa)]) ⟨rfl, _, _, rfl, E_xa⟩ (rIsL l Z a0 hw [] xa xz h0 Oh S_COMPACT_STRINGS hz F_coder_xa) (fun _ _ _ q => q) (W := 0) (by decide) hml (Ls := #[rv xa, iv 0, iv 1, iv 4, iv 1]) rfl (rest := []) rfl rfl hby d18_28
  refine oWk.st (fun _ kt => st _ (zH X hx hby d18_31 rfl rfl ((if0 _ _).trans (feq (by decide)).1) (zA X hx hby d18_34 rfl rfl rfl kt))) ?_
  obtain ⟨T, X, e0, st⟩ := getF X hx hZ hown (host := "") (Or.inl (oW hw 36 rfl)) Via.refl e0 F_value_xa (g := (mkF m 35 #[rv xa, iv 0, iv 1, iv 4, iv 1] [(.ref xa)])) rfl rfl (hb hby d18_35)
  refine oWk.st (fun _ kt => st _ (zI X hx hby d18_38 rfl rfl (zJ X hx hby d18_39 rfl rfl kt))) ?_
  have lt_xa := E_xa.lt
  have lt_xb := V_xb.lt
  obtain ⟨_, T, h, Lc8, X, e0, hQ, st⟩ := (cs20 hw).run X hx hZ hown e0 (A := [(.ref xb), (.int (0 : Int32)), (.int (1 : Int32))]) rfl (rNS_4_0_1 l Z a0 hw [] xb xk xc0 xc1 xc2 xc3 h0 Oh V_xb) (W := 0) (by decide) hml (Ls := #[rv xa, iv 0, iv 1, iv 4, iv 1]) rfl (rest := []) rfl rfl hby d18_41
  obtain ⟨nr7, nb7, nk7, rfl, K7, gn_nr7, gn_nb7, E_nr7, F_coder_nr7, F_value_nr7, V_nb7⟩ := hQ
  have ge_nr7 := Nat.le_trans K.le gn_nr7
  have ne_xa_nr7 : xa ≠ nr7 := Nat.ne_of_lt (Nat.lt_of_lt_of_le lt_xa gn_nr7)
  have ne_xb_nr7 : xb ≠ nr7 := Nat.ne_of_lt (Nat.lt_of_lt_of_le lt_xb gn_nr7)
  have ge_nb7 := Nat.le_trans K.le gn_nb7
  have ne_xa_nb7 : xa ≠ nb7 := Nat.ne_of_lt (Nat.lt_of_lt_of_le lt_xa gn_nb7)
  have ne_xb_nb7 : xb ≠ nb7 := Nat.ne_of_lt (Nat.lt_of_lt_of_le lt_xb gn_nb7)
  have K := K.call K7 all0
  refine oWk.to (mkF m 57 #[rv xa, iv 0, iv 1, iv 4, iv 1] [(.ref nr7)]) (fun _ kt => st _ (zG X hx hby d18_44 rfl (pc' := 57) rfl kt)) ?_
  exact oRetA X hx hlk hret rfl rfl (hb hby d18_57) (by rw [e0]; exact ⟨nr7, nb7, nk7, rfl, K, ge_nr7, ge_nb7, E_nr7, F_coder_nr7, F_value_nr7, V_nb7⟩) (by decide) (by decide)
def Q_rSP_4_1 (Z : State) (xa xb : Addr) (xk : ClassId) (xfm : Value) (xz xc0 xc1 xc2 xc3 : Int32) (h0 : Heap) (v : Option Value) (h : Heap) (L : List Loc) : Prop := ∃ (nr : Addr) (nb : Addr) (nk : ClassId), v = some (.ref nr) ∧ oKp h0 h [] L ∧ (h0.size ≤ nr) ∧ (h0.size ≤ nb) ∧ (Exa Z h nr Y0) ∧ (Fld Z h nr Y0 "coder" "B" (.int (0 : Int32))) ∧ (Fld Z h nr Y0 "value" "[B" (.ref nb)) ∧ (Arv Z h nb nk .byte (1 : Int32) [(ib xc0)] (.int (0 : Int32)))
theorem rSP_4_1 (l : Launch) (Z : State) (a0 : Array Value) (hw : oHW a0 Z) (ws : List Jvm.Cond) (xa xb : Addr) (xk : ClassId) (xfm : Value) (xz xc0 xc1 xc2 xc3 : Int32) (h0 : Heap) (O0 : Ext Z.heap h0) (S_COMPACT_STRINGS : Sta Z Z.heap Y0 Y1 "Z" (.int xz)) (hz : ¬ xz = (0 : Int32)) (S_SIOOBE_FORMATTER : Sta Z Z.heap Y2 Y3 Y4 xfm) (hcat : xfm.category = 1) (E_xa : Exa Z h0 xa Y0) (F_coder_xa : Fld Z h0 xa Y0 "coder" "B" (.int (0 : Int32))) (F_value_xa : Fld Z h0 xa Y0 "value" "[B" (.ref xb)) (V_xb : Arv Z h0 xb xk .byte (4 : Int32) [(ib xc0), (ib xc1), (ib xc2), (ib xc3)] (.int (0 : Int32))) (hu1 : (xc1.toInt8.toInt32) = (58 : Int32)) (hu2 : ¬ (xc2.toInt8.toInt32) = (58 : Int32)) (hu3 : ¬ (xc3.toInt8.toInt32) = (58 : Int32)) :
    oCon l Z yy19 prog_3_method_2_code 1 (some (.object Y0)) ws ({ frames := 5, cells := 2, slots := 5, locals := 80 } : Room) #[(.ref xa)] h0 (Q_rSP_4_1 Z xa xb xk xfm xz xc0 xc1 xc2 xc3 h0) := by
  refine oCon.of (plainFor_of_name pn_5) ?_
  intro p e s m below meth c T X hx hby hml hown hnm hret hlk hZ e0
  have hml : c.maxLocals = 1 := hml
  have K : oKp h0 h0 [] [] := oKp.nil _ _
  refine oWk.cast (g' := (mkF m 0 #[rv xa] [])) (by first | rfl | (simp [entryFrame, mkF, argsToLocals, Value.category]; done)) ?_
  refine oWk.st (fun _ kt => zA X hx hby d9_0 rfl rfl rfl (zK X hx hby d9_1 rfl (zA X hx hby d9_2 rfl rfl rfl (zL X hx hby d9_3 rfl kt)))) ?_
  have Oh := K.old O0 all0
  obtain ⟨T, L2, X, e0, K, st⟩ := (cs14 hw).pure X hx hZ hown e0 K (A := [(.ref xa), (.int (58 : Int32))]) ⟨rfl, _, _, rfl, E_xa⟩ (rLK_4_1 l Z a0 hw [] xa xb xk xz xc0 xc1 xc2 xc3 h0 Oh S_COMPACT_STRINGS hz E_xa F_coder_xa F_value_xa V_xb hu1 hu2 hu3) (fun _ _ _ q => q) (W := 2) (by decide) hml (Ls := #[rv xa]) rfl (rest := [(.int (0 : Int32)), (.ref xa)]) rfl rfl hby d9_5
  refine oWk.st (fun _ kt => st _ kt) ?_
  have lt_xa := E_xa.lt
  have lt_xb := V_xb.lt
  obtain ⟨_, T, h, Lc4, X, e0, hQ, st⟩ := (cs21 hw).run X hx hZ hown e0 (A := [(.ref xa), (.int (0 : Int32)), (.int (1 : Int32))]) ⟨rfl, _, _, rfl, E_xa⟩ (rSub_4_0_1 l Z a0 hw [] xa xb xk xfm xz xc0 xc1 xc2 xc3 h0 Oh S_COMPACT_STRINGS hz S_SIOOBE_FORMATTER hcat E_xa F_coder_xa F_value_xa V_xb) (W := 0) (by decide) hml (Ls := #[rv xa]) rfl (rest := []) rfl rfl hby d9_8
  obtain ⟨nr3, nb3, nk3, rfl, K3, gn_nr3, gn_nb3, E_nr3, F_coder_nr3, F_value_nr3, V_nb3⟩ := hQ
  have ge_nr3 := Nat.le_trans K.le gn_nr3
  have ne_xa_nr3 : xa ≠ nr3 := Nat.ne_of_lt (Nat.lt_of_lt_of_le lt_xa gn_nr3)
  have ne_xb_nr3 : xb ≠ nr3 := Nat.ne_of_lt (Nat.lt_of_lt_of_le lt_xb gn_nr3)
  have ge_nb3 := Nat.le_trans K.le gn_nb3
  have ne_xa_nb3 : xa ≠ nb3 := Nat.ne_of_lt (Nat.lt_of_lt_of_le lt_xa gn_nb3)
  have ne_xb_nb3 : xb ≠ nb3 := Nat.ne_of_lt (Nat.lt_of_lt_of_le lt_xb gn_nb3)
  have K := K.call K3 all0
  refine oWk.to (mkF m 11 #[rv xa] [(.ref nr3)]) (fun _ kt => st _ kt) ?_
  exact oRetA X hx hlk hret rfl rfl (hb hby d9_11) (by rw [e0]; exact ⟨nr3, nb3, nk3, rfl, K, ge_nr3, ge_nb3, E_nr3, F_coder_nr3, F_value_nr3, V_nb3⟩) (by decide) (by decide)
def Q_rLI_4_2 (Z : State) (xb : Addr) (xk : ClassId) (xc0 xc1 xc2 xc3 : Int32) (h0 : Heap) (v : Option Value) (h : Heap) (L : List Loc) : Prop := v = some (.int (2 : Int32)) ∧ h = h0 ∧ oKp h0 h [] L
theorem rLI_4_2 (l : Launch) (Z : State) (a0 : Array Value) (hw : oHW a0 Z) (ws : List Jvm.Cond) (xb : Addr) (xk : ClassId) (xc0 xc1 xc2 xc3 : Int32) (h0 : Heap) (O0 : Ext Z.heap h0) (V_xb : Arv Z h0 xb xk .byte (4 : Int32) [(ib xc0), (ib xc1), (ib xc2), (ib xc3)] (.int (0 : Int32))) (hu2 : (xc2.toInt8.toInt32) = (58 : Int32)) (hu3 : ¬ (xc3.toInt8.toInt32) = (58 : Int32)) :
    oCon l Z yy9 jdk_43_method_27_code 4 (some .int) ws ({ frames := 1, cells := 0, slots := 0, locals := 13 } : Room) #[(.ref xb), (.int (58 : Int32)), (.int (3 : Int32))] h0 (Q_rLI_4_2 Z xb xk xc0 xc1 xc2 xc3 h0) := by
  refine oCon.of (plainFor_of_name pn_0) ?_
  intro p e s m below meth c T X hx hby hml hown hnm hret hlk hZ e0
  have hml : c.maxLocals = 4 := hml
  have K : oKp h0 h0 [] [] := oKp.nil _ _
  refine oWk.cast (g' := (mkF m 0 #[rv xb, iv 58, iv 3, uu] [])) (by first | rfl | (simp [entryFrame, mkF, argsToLocals, Value.category]; done)) ?_
  refine oWk.st (fun _ kt => zI X hx hby d15_0 rfl rfl kt) ?_
  have Oh := K.old O0 all0
  obtain ⟨T, L2, X, e0, K, st⟩ := (cs5 hw).pure X hx hZ hown e0 K (A := [(.int (58 : Int32))]) rfl (rCanI l Z a0 hw []  h0 Oh ) (fun _ _ _ q => q) (W := 0) (by decide) hml (Ls := #[rv xb, iv 58, iv 3, uu]) rfl (rest := []) rfl rfl hby d15_1
  refine oWk.to (mkF m 14 #[rv xb, iv 58, iv 3, uu] [(.int 3), (.int 3)]) (fun _ kt => st _ (zF X hx hby d15_4 rfl rfl ((if0 _ _).trans (feq (by decide)).2) (pc' := 9) rfl (zI X hx hby d15_9 rfl rfl (zA X hx hby d15_10 rfl rfl rfl (oAl X hx hZ e0 V_xb hby d15_11 rfl rfl (zK X hx hby d15_12 rfl (XS.isub X.here hx rfl (hb hby d15_13) rfl kt))))))) ?_
  obtain ⟨T, L5, X, e0, K, st⟩ := (cs6 hw).pure X hx hZ hown e0 K (A := [(.int (3 : Int32)), (.int (3 : Int32))]) rfl (rMin_3_3 l Z a0 hw []  h0 Oh ) (fun _ _ _ q => q) (W := 0) (by decide) hml (Ls := #[rv xb, iv 58, iv 3, uu]) rfl (rest := []) rfl rfl hby d15_14
  refine oWk.to (mkF m 25 #[rv xb, iv 58, iv 3, iv 3] [(ib xc3)]) (fun _ kt => st _ (zSn X hx hby d15_17 rfl rfl (l' := #[rv xb, iv 58, iv 3, iv 3]) rfl (zI X hx hby d15_18 rfl rfl (zH X hx hby d15_19 rfl rfl ((if0 _ _).trans (flt (by decide)).1) (zA X hx hby d15_22 rfl rfl rfl (zI X hx hby d15_23 rfl rfl (oLdB X hx hZ e0 V_xb (3 : Int32) (ib xc3) ⟨by decide, by decide⟩ rfl hby d15_24 rfl rfl kt))))))) ?_
  refine oWk.to (mkF m 27 #[rv xb, iv 58, iv 3, iv 3] [(.int 58), (ib xc3)]) (fun _ kt => zI X hx hby d15_25 rfl rfl (XS.i2b X.here hx rfl (hb hby d15_26) rfl kt)) ?_
  refine oWk.to (mkF m 24 #[rv xb, iv 58, iv 3, iv 2] [(.int 2), (.ref xb)]) (fun _ kt => zY X hx hby d15_27 rfl rfl (feq hu3).2 (pc' := 32) rfl (zC X hx hby d15_32 rfl rfl (l' := #[rv xb, iv 58, iv 3, iv ((3 : Int32) + (-1 : Int32))]) rfl (zG X hx hby d15_35 rfl (pc' := 18) rfl (zI X hx hby d15_18 rfl rfl (zH X hx hby d15_19 rfl rfl ((if0 _ _).trans (flt (by decide)).1) (zA X hx hby d15_22 rfl rfl rfl (zI X hx hby d15_23 rfl rfl kt))))))) ?_
  refine oWk.to (mkF m 27 #[rv xb, iv 58, iv 3, iv 2] [(.int 58), (ib xc2)]) (fun _ kt => oLdB X hx hZ e0 V_xb (2 : Int32) (ib xc2) ⟨by decide, by decide⟩ rfl hby d15_24 rfl rfl (zI X hx hby d15_25 rfl rfl (XS.i2b X.here hx rfl (hb hby d15_26) rfl kt))) ?_
  refine oWk.to (mkF m 31 #[rv xb, iv 58, iv 3, iv 2] [(.int 2)]) (fun _ kt => zN X hx hby d15_27 rfl rfl (teq hu2).2 (zI X hx hby d15_30 rfl rfl kt)) ?_
  exact oRetI X hx hlk hret (hb hby d15_31) (by rw [e0]; exact ⟨rfl, rfl, K⟩) (by decide) (by decide)
def Q_rLJ_4_2 (Z : State) (xa xb : Addr) (xk : ClassId) (xz xc0 xc1 xc2 xc3 : Int32) (h0 : Heap) (v : Option Value) (h : Heap) (L : List Loc) : Prop := v = some (.int (2 : Int32)) ∧ h = h0 ∧ oKp h0 h [] L
theorem rLJ_4_2 (l : Launch) (Z : State) (a0 : Array Value) (hw : oHW a0 Z) (ws : List Jvm.Cond) (xa xb : Addr) (xk : ClassId) (xz xc0 xc1 xc2 xc3 : Int32) (h0 : Heap) (O0 : Ext Z.heap h0) (S_COMPACT_STRINGS : Sta Z Z.heap Y0 Y1 "Z" (.int xz)) (hz : ¬ xz = (0 : Int32)) (E_xa : Exa Z h0 xa Y0) (F_coder_xa : Fld Z h0 xa Y0 "coder" "B" (.int (0 : Int32))) (F_value_xa : Fld Z h0 xa Y0 "value" "[B" (.ref xb)) (V_xb : Arv Z h0 xb xk .byte (4 : Int32) [(ib xc0), (ib xc1), (ib xc2), (ib xc3)] (.int (0 : Int32))) (hu2 : (xc2.toInt8.toInt32) = (58 : Int32)) (hu3 : ¬ (xc3.toInt8.toInt32) = (58 : Int32)) :
    oCon l Z yy13 jdk_42_method_83_code 3 (some .int) ws ({ frames := 2, cells := 0, slots := 0, locals := 28 } : Room) #[(.ref xa), (.int (58 : Int32)), (.int (3 : Int32))] h0 (Q_rLJ_4_2 Z xa xb xk xz xc0 xc1 xc2 xc3 h0) := by
  refine oCon.of (plainFor_of_name pn_3) ?_
  intro p e s m below meth c T X hx hby hml hown hnm hret hlk hZ e0
  have hml : c.maxLocals = 3 := hml
  have K : oKp h0 h0 [] [] := oKp.nil _ _
  refine oWk.cast (g' := (mkF m 0 #[rv xa, iv 58, iv 3] [])) (by first | rfl | (simp [entryFrame, mkF, argsToLocals, Value.category]; done)) ?_
  refine oWk.st (fun _ kt => zA X hx hby d13_0 rfl rfl rfl kt) ?_
  have Oh := K.old O0 all0
  obtain ⟨T, L2, X, e0, K, st⟩ := (cs8 hw).pure X hx hZ hown e0 K (A := [(.ref xa)]) ⟨rfl, _, _, rfl, E_xa⟩ (rIsL l Z a0 hw [] xa xz h0 Oh S_COMPACT_STRINGS hz F_coder_xa) (fun _ _ _ q => q) (W := 0) (by decide) hml (Ls := #[rv xa, iv 58, iv 3]) rfl (rest := []) rfl rfl hby d13_1
  refine oWk.st (fun _ kt => st _ (zH X hx hby d13_4 rfl rfl ((if0 _ _).trans (feq (by decide)).1) (zA X hx hby d13_7 rfl rfl rfl kt))) ?_
  obtain ⟨T, X, e0, st⟩ := getF X hx hZ hown (host := "") (Or.inl (oW hw 36 rfl)) Via.refl e0 F_value_xa (g := (mkF m 8 #[rv xa, iv 58, iv 3] [(.ref xa)])) rfl rfl (hb hby d13_8)
  refine oWk.st (fun _ kt => st _ (zI X hx hby d13_11 rfl rfl (zI X hx hby d13_12 rfl rfl kt))) ?_
  obtain ⟨T, L4, X, e0, K, st⟩ := (cs9 hw).pure X hx hZ hown e0 K (A := [(.ref xb), (.int (58 : Int32)), (.int (3 : Int32))]) rfl (rLI_4_2 l Z a0 hw [] xb xk xc0 xc1 xc2 xc3 h0 Oh V_xb hu2 hu3) (fun _ _ _ q => q) (W := 0) (by decide) hml (Ls := #[rv xa, iv 58, iv 3]) rfl (rest := []) rfl rfl hby d13_13
  refine oWk.to (mkF m 28 #[rv xa, iv 58, iv 3] [(.int 2)]) (fun _ kt => st _ (zG X hx hby d13_16 rfl (pc' := 28) rfl kt)) ?_
  exact oRetI X hx hlk hret (hb hby d13_28) (by rw [e0]; exact ⟨rfl, rfl, K⟩) (by decide) (by decide)
def Q_rLK_4_2 (Z : State) (xa xb : Addr) (xk : ClassId) (xz xc0 xc1 xc2 xc3 : Int32) (h0 : Heap) (v : Option Value) (h : Heap) (L : List Loc) : Prop := v = some (.int (2 : Int32)) ∧ h = h0 ∧ oKp h0 h [] L
theorem rLK_4_2 (l : Launch) (Z : State) (a0 : Array Value) (hw : oHW a0 Z) (ws : List Jvm.Cond) (xa xb : Addr) (xk : ClassId) (xz xc0 xc1 xc2 xc3 : Int32) (h0 : Heap) (O0 : Ext Z.heap h0) (S_COMPACT_STRINGS : Sta Z Z.heap Y0 Y1 "Z" (.int xz)) (hz : ¬ xz = (0 : Int32)) (E_xa : Exa Z h0 xa Y0) (F_coder_xa : Fld Z h0 xa Y0 "coder" "B" (.int (0 : Int32))) (F_value_xa : Fld Z h0 xa Y0 "value" "[B" (.ref xb)) (V_xb : Arv Z h0 xb xk .byte (4 : Int32) [(ib xc0), (ib xc1), (ib xc2), (ib xc3)] (.int (0 : Int32))) (hu2 : (xc2.toInt8.toInt32) = (58 : Int32)) (hu3 : ¬ (xc3.toInt8.toInt32) = (58 : Int32)) :
    oCon l Z yy14 jdk_42_method_82_code 2 (some .int) ws ({ frames := 3, cells := 0, slots := 0, locals := 42 } : Room) #[(.ref xa), (.int (58 : Int32))] h0 (Q_rLK_4_2 Z xa xb xk xz xc0 xc1 xc2 xc3 h0) := by
  refine oCon.of (plainFor_of_name pn_3) ?_
  intro p e s m below meth c T X hx hby hml hown hnm hret hlk hZ e0
  have hml : c.maxLocals = 2 := hml
  have K : oKp h0 h0 [] [] := oKp.nil _ _
  refine oWk.cast (g' := (mkF m 0 #[rv xa, iv 58] [])) (by first | rfl | (simp [entryFrame, mkF, argsToLocals, Value.category]; done)) ?_
  refine oWk.st (fun _ kt => zA X hx hby d10_0 rfl rfl rfl (zI X hx hby d10_1 rfl rfl (zA X hx hby d10_2 rfl rfl rfl kt))) ?_
  have Oh := K.old O0 all0
  obtain ⟨T, L2, X, e0, K, st⟩ := (cs10 hw).pure X hx hZ hown e0 K (A := [(.ref xa)]) ⟨rfl, _, _, rfl, E_xa⟩ (rLn_4 l Z a0 hw [] xa xb xk xz xc0 xc1 xc2 xc3 h0 Oh S_COMPACT_STRINGS hz E_xa F_coder_xa F_value_xa V_xb) (fun _ _ _ q => q) (W := 2) (by decide) hml (Ls := #[rv xa, iv 58]) rfl (rest := [(.int (58 : Int32)), (.ref xa)]) rfl rfl hby d10_3
  refine oWk.st (fun _ kt => st _ (zK X hx hby d10_6 rfl (XS.isub X.here hx rfl (hb hby d10_7) rfl kt))) ?_
  obtain ⟨T, L4, X, e0, K, st⟩ := (cs11 hw).pure X hx hZ hown e0 K (A := [(.ref xa), (.int (58 : Int32)), (.int (3 : Int32))]) ⟨rfl, _, _, rfl, E_xa⟩ (rLJ_4_2 l Z a0 hw [] xa xb xk xz xc0 xc1 xc2 xc3 h0 Oh S_COMPACT_STRINGS hz E_xa F_coder_xa F_value_xa V_xb hu2 hu3) (fun _ _ _ q => q) (W := 0) (by decide) hml (Ls := #[rv xa, iv 58]) rfl (rest := []) rfl rfl hby d10_8
  refine oWk.to (mkF m 11 #[rv xa, iv 58] [(.int 2)]) (fun _ kt => st _ kt) ?_
  exact oRetI X hx hlk hret (hb hby d10_11) (by rw [e0]; exact ⟨rfl, rfl, K⟩) (by decide) (by decide)
def Q_rMin_4_2 (Z : State)  (h0 : Heap) (v : Option Value) (h : Heap) (L : List Loc) : Prop := v = some (.int (2 : Int32)) ∧ h = h0 ∧ oKp h0 h [] L
theorem rMin_4_2 (l : Launch) (Z : State) (a0 : Array Value) (hw : oHW a0 Z) (ws : List Jvm.Cond)  (h0 : Heap) (O0 : Ext Z.heap h0)  :
    oCon l Z yy8 jdk_29_method_69_code 2 (some .int) ws ({ frames := 0, cells := 0, slots := 0, locals := 0 } : Room) #[(.int (4 : Int32)), (.int (2 : Int32))] h0 (Q_rMin_4_2 Z  h0) := by
  refine oCon.of (Jvm.Free.JP.mathPlain rfl (by decide +kernel)) ?_
  intro p e s m below meth c T X hx hby hml hown hnm hret hlk hZ e0
  have hml : c.maxLocals = 2 := hml
  have K : oKp h0 h0 [] [] := oKp.nil _ _
  refine oWk.cast (g' := (mkF m 0 #[iv 4, iv 2] [])) (by first | rfl | (simp [entryFrame, mkF, argsToLocals, Value.category]; done)) ?_
  refine oWk.to (mkF m 10 #[iv 4, iv 2] [(.int 2)]) (fun _ kt => zI X hx hby d17_0 rfl rfl (zI X hx hby d17_1 rfl rfl (zY X hx hby d17_2 rfl rfl (tlt (by decide)).2.2.1 (pc' := 9) rfl (zI X hx hby d17_9 rfl rfl kt)))) ?_
  exact oRetI X hx hlk hret (hb hby d17_10) (by rw [e0]; exact ⟨rfl, rfl, K⟩) (by decide) (by decide)
def Q_rCRB_4_0_2 (Z : State) (xb : Addr) (xk : ClassId) (xc0 xc1 xc2 xc3 : Int32) (h0 : Heap) (v : Option Value) (h : Heap) (L : List Loc) : Prop := ∃ (nb : Addr) (nk : ClassId), v = some (.ref nb) ∧ oKp h0 h [] L ∧ (h0.size ≤ nb) ∧ (Arv Z h nb nk .byte (2 : Int32) [(ib xc0), (ib xc1)] (.int (0 : Int32)))
theorem rCRB_4_0_2 (l : Launch) (Z : State) (a0 : Array Value) (hw : oHW a0 Z) (ws : List Jvm.Cond) (xb : Addr) (xk : ClassId) (xc0 xc1 xc2 xc3 : Int32) (h0 : Heap) (O0 : Ext Z.heap h0) (V_xb : Arv Z h0 xb xk .byte (4 : Int32) [(ib xc0), (ib xc1), (ib xc2), (ib xc3)] (.int (0 : Int32))) :
    oCon l Z yy21 jdk_65_method_133_code 5 (some (.array .byte)) ws ({ frames := 1, cells := 1, slots := 2, locals := 18 } : Room) #[(.ref xb), (.int (0 : Int32)), (.int (2 : Int32))] h0 (Q_rCRB_4_0_2 Z xb xk xc0 xc1 xc2 xc3 h0) := by
  refine oCon.of (plainFor_of_name pn_6) ?_
  intro p e s m below meth c T X hx hby hml hown hnm hret hlk hZ e0
  have hml : c.maxLocals = 5 := hml
  have K : oKp h0 h0 [] [] := oKp.nil _ _
  refine oWk.cast (g' := (mkF m 0 #[rv xb, iv 0, iv 2, uu, uu] [])) (by first | rfl | (simp [entryFrame, mkF, argsToLocals, Value.category]; done)) ?_
  refine oWk.st (fun _ kt => zI X hx hby d23_0 rfl rfl (zI X hx hby d23_1 rfl rfl kt)) ?_
  have Oh := K.old O0 all0
  obtain ⟨T, L2, X, e0, K, st⟩ := (cs15 hw).pure X hx hZ hown e0 K (A := [(.int (0 : Int32)), (.int (2 : Int32))]) rfl (rCkL_0_2 l Z a0 hw []  h0 Oh ) (fun _ _ _ q => q) (W := 0) (by decide) hml (Ls := #[rv xb, iv 0, iv 2, uu, uu]) rfl (rest := []) rfl rfl hby d23_2
  refine oWk.st (fun _ kt => st _ (zI X hx hby d23_5 rfl rfl (zI X hx hby d23_6 rfl rfl (XS.isub X.here hx rfl (hb hby d23_7) rfl (zSn X hx hby d23_8 rfl rfl (l' := #[rv xb, iv 0, iv 2, iv 2, uu]) rfl (zI X hx hby d23_9 rfl rfl kt)))))) ?_
  obtain ⟨o3, g3⟩ : ∃ z, z = h0.size := ⟨_, rfl⟩
  have ne_xb_o3 : xb ≠ o3 := Nat.ne_of_lt (Nat.lt_of_lt_of_le V_xb.lt (Nat.le_of_eq g3.symm))
  have ge_o3 : h0.size ≤ o3 := Nat.le_trans K.le (Nat.le_of_eq g3.symm)
  obtain ⟨T, h, k3, X, e0, E3, A3, st⟩ := newP X hx hZ (oW hw 27 rfl) e0 (g := (mkF m 10 #[rv xb, iv 0, iv 2, iv 2, uu] [(.int 2)])) rfl (hb hby d23_10) rfl (by decide) (cap := 2) (by decide) (by decide) (by decide) (by decide)
  rw [← g3] at A3 st
  have K := K.ext E3
  have V_o3 : Arv Z h o3 k3 .byte (2 : Int32) [(.int (0 : Int32)), (.int (0 : Int32))] (.int (0 : Int32)) := (Arv.new A3 (by decide)).pad (pad_rep [] (.int (0 : Int32)) 2)
  refine oWk.to (mkF m 20 #[rv xb, iv 0, iv 2, iv 2, rv o3] [(.ref xb), (.int 0), (.ref o3), (.int 0), (.ref xb)]) (fun _ kt => st _ (zT X hx hby d23_12 rfl rfl rfl (l' := #[rv xb, iv 0, iv 2, iv 2, rv o3]) rfl (zA X hx hby d23_14 rfl rfl rfl (zI X hx hby d23_15 rfl rfl (zB X hx hby d23_16 rfl rfl rfl (zK X hx hby d23_18 rfl (zA X hx hby d23_19 rfl rfl rfl kt))))))) ?_
  have V_xb := (V_xb.ext E3)
  refine oWk.st (fun _ kt => oAl X hx hZ e0 V_xb hby d23_20 rfl rfl (zI X hx hby d23_21 rfl rfl (XS.isub X.here hx rfl (hb hby d23_22) rfl (zI X hx hby d23_23 rfl rfl kt)))) ?_
  have Oh := K.old O0 all0
  obtain ⟨T, L6, X, e0, K, st⟩ := (cs16 hw).pure X hx hZ hown e0 K (A := [(.int (4 : Int32)), (.int (2 : Int32))]) rfl (rMin_4_2 l Z a0 hw []  h Oh ) (fun _ _ _ q => q) (W := 4) (by decide) hml (Ls := #[rv xb, iv 0, iv 2, iv 2, rv o3]) rfl (rest := [(.int (0 : Int32)), (.ref o3), (.int (0 : Int32)), (.ref xb)]) rfl rfl hby d23_24
  refine oWk.st (fun _ kt => st _ kt) ?_
  obtain ⟨T, h, L7, X, e0, N7, C7, V7, st⟩ := cpA X hx hZ hown (oW hw 110 rfl) (oW hw 113 rfl) (oW hw 111 rfl) (oW hw 112 rfl) e0 (us := [(ib xc0), (ib xc1)]) V_xb V_o3 (Or.inl ⟨rfl, rfl⟩) (by decide) (by decide) (by decide) (by decide) (by decide) rfl (by decide) K.fr ge_o3 (g := (mkF m 27 #[rv xb, iv 0, iv 2, iv 2, rv o3] [(.int 2), (.int 0), (.ref o3), (.int 0), (.ref xb)])) rfl (by rw [hml]; rfl) rfl (hb hby d23_27) (by decide) (W := 0) (Nat.le_of_eq rfl) (by decide)
  have K : oKp h0 h [] L7 := ⟨K.1.trans C7 (allS (Or.inr ge_o3) all0), fun y hy => Or.inr (N7 y hy)⟩
  have V_o3 : Arv Z h o3 k3 .byte (2 : Int32) [(ib xc0), (ib xc1)] (.int (0 : Int32)) := V7
  refine oWk.to (mkF m 32 #[rv xb, iv 0, iv 2, iv 2, rv o3] [(.ref o3)]) (fun _ kt => st _ (zB X hx hby d23_30 rfl rfl rfl kt)) ?_
  exact oRetA X hx hlk hret rfl rfl (hb hby d23_32) (by rw [e0]; exact ⟨o3, k3, rfl, K, ge_o3, V_o3⟩) (by decide) (by decide)
def Q_rCR_4_0_2 (Z : State) (xb : Addr) (xk : ClassId) (xc0 xc1 xc2 xc3 : Int32) (h0 : Heap) (v : Option Value) (h : Heap) (L : List Loc) : Prop := ∃ (nb : Addr) (nk : ClassId), v = some (.ref nb) ∧ oKp h0 h [] L ∧ (h0.size ≤ nb) ∧ (Arv Z h nb nk .byte (2 : Int32) [(ib xc0), (ib xc1)] (.int (0 : Int32)))
theorem rCR_4_0_2 (l : Launch) (Z : State) (a0 : Array Value) (hw : oHW a0 Z) (ws : List Jvm.Cond) (xb : Addr) (xk : ClassId) (xc0 xc1 xc2 xc3 : Int32) (h0 : Heap) (O0 : Ext Z.heap h0) (V_xb : Arv Z h0 xb xk .byte (4 : Int32) [(ib xc0), (ib xc1), (ib xc2), (ib xc3)] (.int (0 : Int32))) :
    oCon l Z yy22 jdk_65_method_132_code 3 (some (.array .byte)) ws ({ frames := 2, cells := 1, slots := 2, locals := 34 } : Room) #[(.ref xb), (.int (0 : Int32)), (.int (2 : Int32))] h0 (Q_rCR_4_0_2 Z xb xk xc0 xc1 xc2 xc3 h0) := by
  refine oCon.of (plainFor_of_name pn_6) ?_
  intro p e s m below meth c T X hx hby hml hown hnm hret hlk hZ e0
  have hml : c.maxLocals = 3 := hml
  have K : oKp h0 h0 [] [] := oKp.nil _ _
  refine oWk.cast (g' := (mkF m 0 #[rv xb, iv 0, iv 2] [])) (by first | rfl | (simp [entryFrame, mkF, argsToLocals, Value.category]; done)) ?_
  refine oWk.to (mkF m 11 #[rv xb, iv 0, iv 2] [(.ref xb)]) (fun _ kt => zI X hx hby d22_0 rfl rfl (zH X hx hby d22_1 rfl rfl ((if0 _ _).trans (teq (by decide)).2) (zI X hx hby d22_4 rfl rfl (zA X hx hby d22_5 rfl rfl rfl (oAl X hx hZ e0 V_xb hby d22_6 rfl rfl (zN X hx hby d22_7 rfl rfl (feq (by decide)).1 (zA X hx hby d22_10 rfl rfl rfl kt))))))) ?_
  refine oWk.st (fun _ kt => zI X hx hby d22_11 rfl rfl (zI X hx hby d22_12 rfl rfl kt)) ?_
  have lt_xb := V_xb.lt
  have Oh := K.old O0 all0
  obtain ⟨_, T, h, Lc3, X, e0, hQ, st⟩ := (cs17 hw).run X hx hZ hown e0 (A := [(.ref xb), (.int (0 : Int32)), (.int (2 : Int32))]) rfl (rCRB_4_0_2 l Z a0 hw [] xb xk xc0 xc1 xc2 xc3 h0 Oh V_xb) (W := 0) (by decide) hml (Ls := #[rv xb, iv 0, iv 2]) rfl (rest := []) rfl rfl hby d22_13
  obtain ⟨nb2, nk2, rfl, K2, gn_nb2, V_nb2⟩ := hQ
  have ge_nb2 := Nat.le_trans K.le gn_nb2
  have ne_xb_nb2 : xb ≠ nb2 := Nat.ne_of_lt (Nat.lt_of_lt_of_le lt_xb gn_nb2)
  have K := K.call K2 all0
  refine oWk.to (mkF m 16 #[rv xb, iv 0, iv 2] [(.ref nb2)]) (fun _ kt => st _ kt) ?_
  exact oRetA X hx hlk hret rfl rfl (hb hby d22_16) (by rw [e0]; exact ⟨nb2, nk2, rfl, K, ge_nb2, V_nb2⟩) (by decide) (by decide)
def Q_rNS_4_0_2 (Z : State) (xb : Addr) (xk : ClassId) (xc0 xc1 xc2 xc3 : Int32) (h0 : Heap) (v : Option Value) (h : Heap) (L : List Loc) : Prop := ∃ (nr : Addr) (nb : Addr) (nk : ClassId), v = some (.ref nr) ∧ oKp h0 h [] L ∧ (h0.size ≤ nr) ∧ (h0.size ≤ nb) ∧ (Exa Z h nr Y0) ∧ (Fld Z h nr Y0 "coder" "B" (.int (0 : Int32))) ∧ (Fld Z h nr Y0 "value" "[B" (.ref nb)) ∧ (Arv Z h nb nk .byte (2 : Int32) [(ib xc0), (ib xc1)] (.int (0 : Int32)))
theorem rNS_4_0_2 (l : Launch) (Z : State) (a0 : Array Value) (hw : oHW a0 Z) (ws : List Jvm.Cond) (xb : Addr) (xk : ClassId) (xc0 xc1 xc2 xc3 : Int32) (h0 : Heap) (O0 : Ext Z.heap h0) (V_xb : Arv Z h0 xb xk .byte (4 : Int32) [(ib xc0), (ib xc1), (ib xc2), (ib xc3)] (.int (0 : Int32))) :
    oCon l Z yy17 jdk_43_method_47_code 3 (some (.object Y0)) ws ({ frames := 3, cells := 2, slots := 6, locals := 50 } : Room) #[(.ref xb), (.int (0 : Int32)), (.int (2 : Int32))] h0 (Q_rNS_4_0_2 Z xb xk xc0 xc1 xc2 xc3 h0) := by
  refine oCon.of (plainFor_of_name pn_0) ?_
  intro p e s m below meth c T X hx hby hml hown hnm hret hlk hZ e0
  have hml : c.maxLocals = 3 := hml
  have K : oKp h0 h0 [] [] := oKp.nil _ _
  refine oWk.cast (g' := (mkF m 0 #[rv xb, iv 0, iv 2] [])) (by first | rfl | (simp [entryFrame, mkF, argsToLocals, Value.category]; done)) ?_
  refine oWk.st (fun _ kt => zI X hx hby d21_0 rfl rfl (zF X hx hby d21_1 rfl rfl ((if0 _ _).trans (feq (by decide)).2) (pc' := 7) rfl kt)) ?_
  obtain ⟨o1, g1⟩ : ∃ z, z = h0.size := ⟨_, rfl⟩
  have ne_xb_o1 : xb ≠ o1 := Nat.ne_of_lt (Nat.lt_of_lt_of_le V_xb.lt (Nat.le_of_eq g1.symm))
  have ge_o1 : h0.size ≤ o1 := Nat.le_trans K.le (Nat.le_of_eq g1.symm)
  obtain ⟨T, h, X, e0, E1, A1, D1, -, st⟩ := newO X hx hZ hown (oW hw 98 rfl) (oW hw 10 rfl) (oW hw 11 rfl) e0 (g := (mkF m 7 #[rv xb, iv 0, iv 2] [])) rfl (hb hby d21_7) (by decide) (by decide)
  rw [← g1] at A1 D1 st
  have K := K.ext E1
  have E_o1 := A1
  have F_coder_o1 : Fld Z h o1 Y0 "coder" "B" (.int (0 : Int32)) := D1 (Or.inr (oW hw 35 rfl)) (ty := .byte) (by decide)
  have F_value_o1 : Fld Z h o1 Y0 "value" "[B" .null := D1 (Or.inr (oW hw 37 rfl)) (ty := (.array .byte)) (by decide)
  refine oWk.to (mkF m 16 #[rv xb, iv 0, iv 2] [(.int 2), (.int 0), (.ref xb), (.ref o1), (.ref o1)]) (fun _ kt => st _ (zD X hx hby d21_10 rfl rfl rfl (zA X hx hby d21_11 rfl rfl rfl (zI X hx hby d21_12 rfl rfl (zI X hx hby d21_13 rfl rfl (zI X hx hby d21_14 rfl rfl (XS.iadd X.here hx rfl (hb hby d21_15) rfl kt))))))) ?_
  have V_xb := (V_xb.ext E1)
  have lt_xb := V_xb.lt
  have lt_o1 := E_o1.lt
  have Oh := K.old O0 all0
  obtain ⟨_, T, h, Lc3, X, e0, hQ, st⟩ := (cs18 hw).run X hx hZ hown e0 (A := [(.ref xb), (.int (0 : Int32)), (.int (2 : Int32))]) rfl (rCR_4_0_2 l Z a0 hw [] xb xk xc0 xc1 xc2 xc3 h Oh V_xb) (W := 2) (by decide) hml (Ls := #[rv xb, iv 0, iv 2]) rfl (rest := [(.ref o1), (.ref o1)]) rfl rfl hby d21_16
  obtain ⟨nb2, nk2, rfl, K2, gn_nb2, V_nb2⟩ := hQ
  have ge_nb2 := Nat.le_trans K.le gn_nb2
  have ne_xb_nb2 : xb ≠ nb2 := Nat.ne_of_lt (Nat.lt_of_lt_of_le lt_xb gn_nb2)
  have ne_o1_nb2 : o1 ≠ nb2 := Nat.ne_of_lt (Nat.lt_of_lt_of_le lt_o1 gn_nb2)
  have K := K.call K2 all0
  refine oWk.st (fun _ kt => st _ (zK X hx hby d21_19 rfl kt)) ?_
  have E_o1 := (E_o1.keep K2.1)
  have F_value_o1 := (F_value_o1.keep K2.1 nin0)
  have F_coder_o1 := (F_coder_o1.keep K2.1 nin0)
  have Oh := K.old O0 all0
  obtain ⟨_, T, h, Lc5, X, e0, hQ, st⟩ := (cs19 hw).run X hx hZ hown e0 (A := [(.ref o1), (.ref nb2), (.int (0 : Int32))]) ⟨rfl, _, _, rfl⟩ (rSIn l Z a0 hw [] o1 nb2 .null (.int (0 : Int32)) h Oh (Nat.le_trans O0.1 ge_o1) E_o1 F_value_o1 F_coder_o1) (W := 1) (by decide) hml (Ls := #[rv xb, iv 0, iv 2]) rfl (rest := [(.ref o1)]) rfl rfl hby d21_20
  obtain ⟨rfl, K4, E_o1, F_value_o1, F_coder_o1⟩ := hQ
  have K := K.call K4 (allS (Or.inr ge_o1) all0)
  refine oWk.to (mkF m 23 #[rv xb, iv 0, iv 2] [(.ref o1)]) (fun _ kt => st _ kt) ?_
  have V_nb2 := (V_nb2.keep K4.1 (ninS (Ne.symm ne_o1_nb2) nin0))
  exact oRetA X hx hlk hret rfl rfl (hb hby d21_23) (by rw [e0]; exact ⟨o1, nb2, nk2, rfl, K, ge_o1, ge_nb2, E_o1, F_coder_o1, F_value_o1, V_nb2⟩) (by decide) (by decide)
def Q_rSub_4_0_2 (Z : State) (xa xb : Addr) (xk : ClassId) (xfm : Value) (xz xc0 xc1 xc2 xc3 : Int32) (h0 : Heap) (v : Option Value) (h : Heap) (L : List Loc) : Prop := ∃ (nr : Addr) (nb : Addr) (nk : ClassId), v = some (.ref nr) ∧ oKp h0 h [] L ∧ (h0.size ≤ nr) ∧ (h0.size ≤ nb) ∧ (Exa Z h nr Y0) ∧ (Fld Z h nr Y0 "coder" "B" (.int (0 : Int32))) ∧ (Fld Z h nr Y0 "value" "[B" (.ref nb)) ∧ (Arv Z h nb nk .byte (2 : Int32) [(ib xc0), (ib xc1)] (.int (0 : Int32)))
theorem rSub_4_0_2 (l : Launch) (Z : State) (a0 : Array Value) (hw : oHW a0 Z) (ws : List Jvm.Cond) (xa xb : Addr) (xk : ClassId) (xfm : Value) (xz xc0 xc1 xc2 xc3 : Int32) (h0 : Heap) (O0 : Ext Z.heap h0) (S_COMPACT_STRINGS : Sta Z Z.heap Y0 Y1 "Z" (.int xz)) (hz : ¬ xz = (0 : Int32)) (S_SIOOBE_FORMATTER : Sta Z Z.heap Y2 Y3 Y4 xfm) (hcat : xfm.category = 1) (E_xa : Exa Z h0 xa Y0) (F_coder_xa : Fld Z h0 xa Y0 "coder" "B" (.int (0 : Int32))) (F_value_xa : Fld Z h0 xa Y0 "value" "[B" (.ref xb)) (V_xb : Arv Z h0 xb xk .byte (4 : Int32) [(ib xc0), (ib xc1), (ib xc2), (ib xc3)] (.int (0 : Int32))) :
    oCon l Z yy18 jdk_42_method_92_code 5 (some (.object Y0)) ws ({ frames := 4, cells := 2, slots := 6, locals := 64 } : Room) #[(.ref xa), (.int (0 : Int32)), (.int (2 : Int32))] h0 (Q_rSub_4_0_2 Z xa xb xk xfm xz xc0 xc1 xc2 xc3 h0) := by
  refine oCon.of (plainFor_of_name pn_3) ?_
  intro p e s m below meth c T X hx hby hml hown hnm hret hlk hZ e0
  have hml : c.maxLocals = 5 := hml
  have K : oKp h0 h0 [] [] := oKp.nil _ _
  refine oWk.cast (g' := (mkF m 0 #[rv xa, iv 0, iv 2, uu, uu] [])) (by first | rfl | (simp [entryFrame, mkF, argsToLocals, Value.category]; done)) ?_
  refine oWk.st (fun _ kt => zA X hx hby d18_0 rfl rfl rfl kt) ?_
  have Oh := K.old O0 all0
  obtain ⟨T, L2, X, e0, K, st⟩ := (cs10 hw).pure X hx hZ hown e0 K (A := [(.ref xa)]) ⟨rfl, _, _, rfl, E_xa⟩ (rLn_4 l Z a0 hw [] xa xb xk xz xc0 xc1 xc2 xc3 h0 Oh S_COMPACT_STRINGS hz E_xa F_coder_xa F_value_xa V_xb) (fun _ _ _ q => q) (W := 0) (by decide) hml (Ls := #[rv xa, iv 0, iv 2, uu, uu]) rfl (rest := []) rfl rfl hby d18_1
  refine oWk.st (fun _ kt => st _ (zSn X hx hby d18_4 rfl rfl (l' := #[rv xa, iv 0, iv 2, iv 4, uu]) rfl (zI X hx hby d18_5 rfl rfl (zI X hx hby d18_6 rfl rfl (zI X hx hby d18_7 rfl rfl kt))))) ?_
  obtain ⟨T, L4, X, e0, K, st⟩ := (cs13 hw).pure X hx hZ hown e0 K (A := [(.int (0 : Int32)), (.int (2 : Int32)), (.int (4 : Int32))]) rfl (rCkB l Z a0 hw [] (0 : Int32) (2 : Int32) (4 : Int32) xfm h0 Oh S_SIOOBE_FORMATTER hcat (by decide) (by decide) (by decide)) (fun _ _ _ q => q) (W := 0) (by decide) hml (Ls := #[rv xa, iv 0, iv 2, iv 4, uu]) rfl (rest := []) rfl rfl hby d18_8
  refine oWk.to (mkF m 23 #[rv xa, iv 0, iv 2, iv 4, uu] [(.int 2)]) (fun _ kt => st _ (zI X hx hby d18_11 rfl rfl (zH X hx hby d18_12 rfl rfl ((if0 _ _).trans (teq (by decide)).2) (zI X hx hby d18_15 rfl rfl (zI X hx hby d18_16 rfl rfl (zY X hx hby d18_17 rfl rfl (feq (by decide)).2 (pc' := 22) rfl (zI X hx hby d18_22 rfl rfl kt))))))) ?_
  refine oWk.st (fun _ kt => zI X hx hby d18_23 rfl rfl (XS.isub X.here hx rfl (hb hby d18_24) rfl (zS X hx hby d18_25 rfl rfl (l' := #[rv xa, iv 0, iv 2, iv 4, iv 2]) rfl (zA X hx hby d18_27 rfl rfl rfl kt)))) ?_
  obtain ⟨T, L6, X, e0, K, st⟩ := (cs8 hw).pure X hx hZ hown e0 K (A := [(.ref xa)]) ⟨rfl, _, _, rfl, E_xa⟩ (rIsL l Z a0 hw [] xa xz h0 Oh S_COMPACT_STRINGS hz F_coder_xa) (fun _ _ _ q => q) (W := 0) (by decide) hml (Ls := #[rv xa, iv 0, iv 2, iv 4, iv 2]) rfl (rest := []) rfl rfl hby d18_28
  refine oWk.st (fun _ kt => st _ (zH X hx hby d18_31 rfl rfl ((if0 _ _).trans (feq (by decide)).1) (zA X hx hby d18_34 rfl rfl rfl kt))) ?_
  obtain ⟨T, X, e0, st⟩ := getF X hx hZ hown (host := "") (Or.inl (oW hw 36 rfl)) Via.refl e0 F_value_xa (g := (mkF m 35 #[rv xa, iv 0, iv 2, iv 4, iv 2] [(.ref xa)])) rfl rfl (hb hby d18_35)
  refine oWk.st (fun _ kt => st _ (zI X hx hby d18_38 rfl rfl (zJ X hx hby d18_39 rfl rfl kt))) ?_
  have lt_xa := E_xa.lt
  have lt_xb := V_xb.lt
  obtain ⟨_, T, h, Lc8, X, e0, hQ, st⟩ := (cs20 hw).run X hx hZ hown e0 (A := [(.ref xb), (.int (0 : Int32)), (.int (2 : Int32))]) rfl (rNS_4_0_2 l Z a0 hw [] xb xk xc0 xc1 xc2 xc3 h0 Oh V_xb) (W := 0) (by decide) hml (Ls := #[rv xa, iv 0, iv 2, iv 4, iv 2]) rfl (rest := []) rfl rfl hby d18_41
  obtain ⟨nr7, nb7, nk7, rfl, K7, gn_nr7, gn_nb7, E_nr7, F_coder_nr7, F_value_nr7, V_nb7⟩ := hQ
  have ge_nr7 := Nat.le_trans K.le gn_nr7
  have ne_xa_nr7 : xa ≠ nr7 := Nat.ne_of_lt (Nat.lt_of_lt_of_le lt_xa gn_nr7)
  have ne_xb_nr7 : xb ≠ nr7 := Nat.ne_of_lt (Nat.lt_of_lt_of_le lt_xb gn_nr7)
  have ge_nb7 := Nat.le_trans K.le gn_nb7
  have ne_xa_nb7 : xa ≠ nb7 := Nat.ne_of_lt (Nat.lt_of_lt_of_le lt_xa gn_nb7)
  have ne_xb_nb7 : xb ≠ nb7 := Nat.ne_of_lt (Nat.lt_of_lt_of_le lt_xb gn_nb7)
  have K := K.call K7 all0
  refine oWk.to (mkF m 57 #[rv xa, iv 0, iv 2, iv 4, iv 2] [(.ref nr7)]) (fun _ kt => st _ (zG X hx hby d18_44 rfl (pc' := 57) rfl kt)) ?_
  exact oRetA X hx hlk hret rfl rfl (hb hby d18_57) (by rw [e0]; exact ⟨nr7, nb7, nk7, rfl, K, ge_nr7, ge_nb7, E_nr7, F_coder_nr7, F_value_nr7, V_nb7⟩) (by decide) (by decide)
def Q_rSP_4_2 (Z : State) (xa xb : Addr) (xk : ClassId) (xfm : Value) (xz xc0 xc1 xc2 xc3 : Int32) (h0 : Heap) (v : Option Value) (h : Heap) (L : List Loc) : Prop := ∃ (nr : Addr) (nb : Addr) (nk : ClassId), v = some (.ref nr) ∧ oKp h0 h [] L ∧ (h0.size ≤ nr) ∧ (h0.size ≤ nb) ∧ (Exa Z h nr Y0) ∧ (Fld Z h nr Y0 "coder" "B" (.int (0 : Int32))) ∧ (Fld Z h nr Y0 "value" "[B" (.ref nb)) ∧ (Arv Z h nb nk .byte (2 : Int32) [(ib xc0), (ib xc1)] (.int (0 : Int32)))
theorem rSP_4_2 (l : Launch) (Z : State) (a0 : Array Value) (hw : oHW a0 Z) (ws : List Jvm.Cond) (xa xb : Addr) (xk : ClassId) (xfm : Value) (xz xc0 xc1 xc2 xc3 : Int32) (h0 : Heap) (O0 : Ext Z.heap h0) (S_COMPACT_STRINGS : Sta Z Z.heap Y0 Y1 "Z" (.int xz)) (hz : ¬ xz = (0 : Int32)) (S_SIOOBE_FORMATTER : Sta Z Z.heap Y2 Y3 Y4 xfm) (hcat : xfm.category = 1) (E_xa : Exa Z h0 xa Y0) (F_coder_xa : Fld Z h0 xa Y0 "coder" "B" (.int (0 : Int32))) (F_value_xa : Fld Z h0 xa Y0 "value" "[B" (.ref xb)) (V_xb : Arv Z h0 xb xk .byte (4 : Int32) [(ib xc0), (ib xc1), (ib xc2), (ib xc3)] (.int (0 : Int32))) (hu2 : (xc2.toInt8.toInt32) = (58 : Int32)) (hu3 : ¬ (xc3.toInt8.toInt32) = (58 : Int32)) :
    oCon l Z yy19 prog_3_method_2_code 1 (some (.object Y0)) ws ({ frames := 5, cells := 2, slots := 6, locals := 80 } : Room) #[(.ref xa)] h0 (Q_rSP_4_2 Z xa xb xk xfm xz xc0 xc1 xc2 xc3 h0) := by
  refine oCon.of (plainFor_of_name pn_5) ?_
  intro p e s m below meth c T X hx hby hml hown hnm hret hlk hZ e0
  have hml : c.maxLocals = 1 := hml
  have K : oKp h0 h0 [] [] := oKp.nil _ _
  refine oWk.cast (g' := (mkF m 0 #[rv xa] [])) (by first | rfl | (simp [entryFrame, mkF, argsToLocals, Value.category]; done)) ?_
  refine oWk.st (fun _ kt => zA X hx hby d9_0 rfl rfl rfl (zK X hx hby d9_1 rfl (zA X hx hby d9_2 rfl rfl rfl (zL X hx hby d9_3 rfl kt)))) ?_
  have Oh := K.old O0 all0
  obtain ⟨T, L2, X, e0, K, st⟩ := (cs14 hw).pure X hx hZ hown e0 K (A := [(.ref xa), (.int (58 : Int32))]) ⟨rfl, _, _, rfl, E_xa⟩ (rLK_4_2 l Z a0 hw [] xa xb xk xz xc0 xc1 xc2 xc3 h0 Oh S_COMPACT_STRINGS hz E_xa F_coder_xa F_value_xa V_xb hu2 hu3) (fun _ _ _ q => q) (W := 2) (by decide) hml (Ls := #[rv xa]) rfl (rest := [(.int (0 : Int32)), (.ref xa)]) rfl rfl hby d9_5
  refine oWk.st (fun _ kt => st _ kt) ?_
  have lt_xa := E_xa.lt
  have lt_xb := V_xb.lt
  obtain ⟨_, T, h, Lc4, X, e0, hQ, st⟩ := (cs21 hw).run X hx hZ hown e0 (A := [(.ref xa), (.int (0 : Int32)), (.int (2 : Int32))]) ⟨rfl, _, _, rfl, E_xa⟩ (rSub_4_0_2 l Z a0 hw [] xa xb xk xfm xz xc0 xc1 xc2 xc3 h0 Oh S_COMPACT_STRINGS hz S_SIOOBE_FORMATTER hcat E_xa F_coder_xa F_value_xa V_xb) (W := 0) (by decide) hml (Ls := #[rv xa]) rfl (rest := []) rfl rfl hby d9_8
  obtain ⟨nr3, nb3, nk3, rfl, K3, gn_nr3, gn_nb3, E_nr3, F_coder_nr3, F_value_nr3, V_nb3⟩ := hQ
  have ge_nr3 := Nat.le_trans K.le gn_nr3
  have ne_xa_nr3 : xa ≠ nr3 := Nat.ne_of_lt (Nat.lt_of_lt_of_le lt_xa gn_nr3)
  have ne_xb_nr3 : xb ≠ nr3 := Nat.ne_of_lt (Nat.lt_of_lt_of_le lt_xb gn_nr3)
  have ge_nb3 := Nat.le_trans K.le gn_nb3
  have ne_xa_nb3 : xa ≠ nb3 := Nat.ne_of_lt (Nat.lt_of_lt_of_le lt_xa gn_nb3)
  have ne_xb_nb3 : xb ≠ nb3 := Nat.ne_of_lt (Nat.lt_of_lt_of_le lt_xb gn_nb3)
  have K := K.call K3 all0
  refine oWk.to (mkF m 11 #[rv xa] [(.ref nr3)]) (fun _ kt => st _ kt) ?_
  exact oRetA X hx hlk hret rfl rfl (hb hby d9_11) (by rw [e0]; exact ⟨nr3, nb3, nk3, rfl, K, ge_nr3, ge_nb3, E_nr3, F_coder_nr3, F_value_nr3, V_nb3⟩) (by decide) (by decide)
def Q_rLI_4_3 (Z : State) (xb : Addr) (xk : ClassId) (xc0 xc1 xc2 xc3 : Int32) (h0 : Heap) (v : Option Value) (h : Heap) (L : List Loc) : Prop := v = some (.int (3 : Int32)) ∧ h = h0 ∧ oKp h0 h [] L
theorem rLI_4_3 (l : Launch) (Z : State) (a0 : Array Value) (hw : oHW a0 Z) (ws : List Jvm.Cond) (xb : Addr) (xk : ClassId) (xc0 xc1 xc2 xc3 : Int32) (h0 : Heap) (O0 : Ext Z.heap h0) (V_xb : Arv Z h0 xb xk .byte (4 : Int32) [(ib xc0), (ib xc1), (ib xc2), (ib xc3)] (.int (0 : Int32))) (hu3 : (xc3.toInt8.toInt32) = (58 : Int32)) :
    oCon l Z yy9 jdk_43_method_27_code 4 (some .int) ws ({ frames := 1, cells := 0, slots := 0, locals := 13 } : Room) #[(.ref xb), (.int (58 : Int32)), (.int (3 : Int32))] h0 (Q_rLI_4_3 Z xb xk xc0 xc1 xc2 xc3 h0) := by
  refine oCon.of (plainFor_of_name pn_0) ?_
  intro p e s m below meth c T X hx hby hml hown hnm hret hlk hZ e0
  have hml : c.maxLocals = 4 := hml
  have K : oKp h0 h0 [] [] := oKp.nil _ _
  refine oWk.cast (g' := (mkF m 0 #[rv xb, iv 58, iv 3, uu] [])) (by first | rfl | (simp [entryFrame, mkF, argsToLocals, Value.category]; done)) ?_
  refine oWk.st (fun _ kt => zI X hx hby d15_0 rfl rfl kt) ?_
  have Oh := K.old O0 all0
  obtain ⟨T, L2, X, e0, K, st⟩ := (cs5 hw).pure X hx hZ hown e0 K (A := [(.int (58 : Int32))]) rfl (rCanI l Z a0 hw []  h0 Oh ) (fun _ _ _ q => q) (W := 0) (by decide) hml (Ls := #[rv xb, iv 58, iv 3, uu]) rfl (rest := []) rfl rfl hby d15_1
  refine oWk.to (mkF m 14 #[rv xb, iv 58, iv 3, uu] [(.int 3), (.int 3)]) (fun _ kt => st _ (zF X hx hby d15_4 rfl rfl ((if0 _ _).trans (feq (by decide)).2) (pc' := 9) rfl (zI X hx hby d15_9 rfl rfl (zA X hx hby d15_10 rfl rfl rfl (oAl X hx hZ e0 V_xb hby d15_11 rfl rfl (zK X hx hby d15_12 rfl (XS.isub X.here hx rfl (hb hby d15_13) rfl kt))))))) ?_
  obtain ⟨T, L5, X, e0, K, st⟩ := (cs6 hw).pure X hx hZ hown e0 K (A := [(.int (3 : Int32)), (.int (3 : Int32))]) rfl (rMin_3_3 l Z a0 hw []  h0 Oh ) (fun _ _ _ q => q) (W := 0) (by decide) hml (Ls := #[rv xb, iv 58, iv 3, uu]) rfl (rest := []) rfl rfl hby d15_14
  refine oWk.to (mkF m 25 #[rv xb, iv 58, iv 3, iv 3] [(ib xc3)]) (fun _ kt => st _ (zSn X hx hby d15_17 rfl rfl (l' := #[rv xb, iv 58, iv 3, iv 3]) rfl (zI X hx hby d15_18 rfl rfl (zH X hx hby d15_19 rfl rfl ((if0 _ _).trans (flt (by decide)).1) (zA X hx hby d15_22 rfl rfl rfl (zI X hx hby d15_23 rfl rfl (oLdB X hx hZ e0 V_xb (3 : Int32) (ib xc3) ⟨by decide, by decide⟩ rfl hby d15_24 rfl rfl kt))))))) ?_
  refine oWk.to (mkF m 27 #[rv xb, iv 58, iv 3, iv 3] [(.int 58), (ib xc3)]) (fun _ kt => zI X hx hby d15_25 rfl rfl (XS.i2b X.here hx rfl (hb hby d15_26) rfl kt)) ?_
  refine oWk.to (mkF m 31 #[rv xb, iv 58, iv 3, iv 3] [(.int 3)]) (fun _ kt => zN X hx hby d15_27 rfl rfl (teq hu3).2 (zI X hx hby d15_30 rfl rfl kt)) ?_
  exact oRetI X hx hlk hret (hb hby d15_31) (by rw [e0]; exact ⟨rfl, rfl, K⟩) (by decide) (by decide)
def Q_rLJ_4_3 (Z : State) (xa xb : Addr) (xk : ClassId) (xz xc0 xc1 xc2 xc3 : Int32) (h0 : Heap) (v : Option Value) (h : Heap) (L : List Loc) : Prop := v = some (.int (3 : Int32)) ∧ h = h0 ∧ oKp h0 h [] L
theorem rLJ_4_3 (l : Launch) (Z : State) (a0 : Array Value) (hw : oHW a0 Z) (ws : List Jvm.Cond) (xa xb : Addr) (xk : ClassId) (xz xc0 xc1 xc2 xc3 : Int32) (h0 : Heap) (O0 : Ext Z.heap h0) (S_COMPACT_STRINGS : Sta Z Z.heap Y0 Y1 "Z" (.int xz)) (hz : ¬ xz = (0 : Int32)) (E_xa : Exa Z h0 xa Y0) (F_coder_xa : Fld Z h0 xa Y0 "coder" "B" (.int (0 : Int32))) (F_value_xa : Fld Z h0 xa Y0 "value" "[B" (.ref xb)) (V_xb : Arv Z h0 xb xk .byte (4 : Int32) [(ib xc0), (ib xc1), (ib xc2), (ib xc3)] (.int (0 : Int32))) (hu3 : (xc3.toInt8.toInt32) = (58 : Int32)) :
    oCon l Z yy13 jdk_42_method_83_code 3 (some .int) ws ({ frames := 2, cells := 0, slots := 0, locals := 28 } : Room) #[(.ref xa), (.int (58 : Int32)), (.int (3 : Int32))] h0 (Q_rLJ_4_3 Z xa xb xk xz xc0 xc1 xc2 xc3 h0) := by
  refine oCon.of (plainFor_of_name pn_3) ?_
  intro p e s m below meth c T X hx hby hml hown hnm hret hlk hZ e0
  have hml : c.maxLocals = 3 := hml
  have K : oKp h0 h0 [] [] := oKp.nil _ _
  refine oWk.cast (g' := (mkF m 0 #[rv xa, iv 58, iv 3] [])) (by first | rfl | (simp [entryFrame, mkF, argsToLocals, Value.category]; done)) ?_
  refine oWk.st (fun _ kt => zA X hx hby d13_0 rfl rfl rfl kt) ?_
  have Oh := K.old O0 all0
  obtain ⟨T, L2, X, e0, K, st⟩ := (cs8 hw).pure X hx hZ hown e0 K (A := [(.ref xa)]) ⟨rfl, _, _, rfl, E_xa⟩ (rIsL l Z a0 hw [] xa xz h0 Oh S_COMPACT_STRINGS hz F_coder_xa) (fun _ _ _ q => q) (W := 0) (by decide) hml (Ls := #[rv xa, iv 58, iv 3]) rfl (rest := []) rfl rfl hby d13_1
  refine oWk.st (fun _ kt => st _ (zH X hx hby d13_4 rfl rfl ((if0 _ _).trans (feq (by decide)).1) (zA X hx hby d13_7 rfl rfl rfl kt))) ?_
  obtain ⟨T, X, e0, st⟩ := getF X hx hZ hown (host := "") (Or.inl (oW hw 36 rfl)) Via.refl e0 F_value_xa (g := (mkF m 8 #[rv xa, iv 58, iv 3] [(.ref xa)])) rfl rfl (hb hby d13_8)
  refine oWk.st (fun _ kt => st _ (zI X hx hby d13_11 rfl rfl (zI X hx hby d13_12 rfl rfl kt))) ?_
  obtain ⟨T, L4, X, e0, K, st⟩ := (cs9 hw).pure X hx hZ hown e0 K (A := [(.ref xb), (.int (58 : Int32)), (.int (3 : Int32))]) rfl (rLI_4_3 l Z a0 hw [] xb xk xc0 xc1 xc2 xc3 h0 Oh V_xb hu3) (fun _ _ _ q => q) (W := 0) (by decide) hml (Ls := #[rv xa, iv 58, iv 3]) rfl (rest := []) rfl rfl hby d13_13
  refine oWk.to (mkF m 28 #[rv xa, iv 58, iv 3] [(.int 3)]) (fun _ kt => st _ (zG X hx hby d13_16 rfl (pc' := 28) rfl kt)) ?_
  exact oRetI X hx hlk hret (hb hby d13_28) (by rw [e0]; exact ⟨rfl, rfl, K⟩) (by decide) (by decide)
def Q_rLK_4_3 (Z : State) (xa xb : Addr) (xk : ClassId) (xz xc0 xc1 xc2 xc3 : Int32) (h0 : Heap) (v : Option Value) (h : Heap) (L : List Loc) : Prop := v = some (.int (3 : Int32)) ∧ h = h0 ∧ oKp h0 h [] L
theorem rLK_4_3 (l : Launch) (Z : State) (a0 : Array Value) (hw : oHW a0 Z) (ws : List Jvm.Cond) (xa xb : Addr) (xk : ClassId) (xz xc0 xc1 xc2 xc3 : Int32) (h0 : Heap) (O0 : Ext Z.heap h0) (S_COMPACT_STRINGS : Sta Z Z.heap Y0 Y1 "Z" (.int xz)) (hz : ¬ xz = (0 : Int32)) (E_xa : Exa Z h0 xa Y0) (F_coder_xa : Fld Z h0 xa Y0 "coder" "B" (.int (0 : Int32))) (F_value_xa : Fld Z h0 xa Y0 "value" "[B" (.ref xb)) (V_xb : Arv Z h0 xb xk .byte (4 : Int32) [(ib xc0), (ib xc1), (ib xc2), (ib xc3)] (.int (0 : Int32))) (hu3 : (xc3.toInt8.toInt32) = (58 : Int32)) :
    oCon l Z yy14 jdk_42_method_82_code 2 (some .int) ws ({ frames := 3, cells := 0, slots := 0, locals := 42 } : Room) #[(.ref xa), (.int (58 : Int32))] h0 (Q_rLK_4_3 Z xa xb xk xz xc0 xc1 xc2 xc3 h0) := by
  refine oCon.of (plainFor_of_name pn_3) ?_
  intro p e s m below meth c T X hx hby hml hown hnm hret hlk hZ e0
  have hml : c.maxLocals = 2 := hml
  have K : oKp h0 h0 [] [] := oKp.nil _ _
  refine oWk.cast (g' := (mkF m 0 #[rv xa, iv 58] [])) (by first | rfl | (simp [entryFrame, mkF, argsToLocals, Value.category]; done)) ?_
  refine oWk.st (fun _ kt => zA X hx hby d10_0 rfl rfl rfl (zI X hx hby d10_1 rfl rfl (zA X hx hby d10_2 rfl rfl rfl kt))) ?_
  have Oh := K.old O0 all0
  obtain ⟨T, L2, X, e0, K, st⟩ := (cs10 hw).pure X hx hZ hown e0 K (A := [(.ref xa)]) ⟨rfl, _, _, rfl, E_xa⟩ (rLn_4 l Z a0 hw [] xa xb xk xz xc0 xc1 xc2 xc3 h0 Oh S_COMPACT_STRINGS hz E_xa F_coder_xa F_value_xa V_xb) (fun _ _ _ q => q) (W := 2) (by decide) hml (Ls := #[rv xa, iv 58]) rfl (rest := [(.int (58 : Int32)), (.ref xa)]) rfl rfl hby d10_3
  refine oWk.st (fun _ kt => st _ (zK X hx hby d10_6 rfl (XS.isub X.here hx rfl (hb hby d10_7) rfl kt))) ?_
  obtain ⟨T, L4, X, e0, K, st⟩ := (cs11 hw).pure X hx hZ hown e0 K (A := [(.ref xa), (.int (58 : Int32)), (.int (3 : Int32))]) ⟨rfl, _, _, rfl, E_xa⟩ (rLJ_4_3 l Z a0 hw [] xa xb xk xz xc0 xc1 xc2 xc3 h0 Oh S_COMPACT_STRINGS hz E_xa F_coder_xa F_value_xa V_xb hu3) (fun _ _ _ q => q) (W := 0) (by decide) hml (Ls := #[rv xa, iv 58]) rfl (rest := []) rfl rfl hby d10_8
  refine oWk.to (mkF m 11 #[rv xa, iv 58] [(.int 3)]) (fun _ kt => st _ kt) ?_
  exact oRetI X hx hlk hret (hb hby d10_11) (by rw [e0]; exact ⟨rfl, rfl, K⟩) (by decide) (by decide)
def Q_rMin_4_3 (Z : State)  (h0 : Heap) (v : Option Value) (h : Heap) (L : List Loc) : Prop := v = some (.int (3 : Int32)) ∧ h = h0 ∧ oKp h0 h [] L
theorem rMin_4_3 (l : Launch) (Z : State) (a0 : Array Value) (hw : oHW a0 Z) (ws : List Jvm.Cond)  (h0 : Heap) (O0 : Ext Z.heap h0)  :
    oCon l Z yy8 jdk_29_method_69_code 2 (some .int) ws ({ frames := 0, cells := 0, slots := 0, locals := 0 } : Room) #[(.int (4 : Int32)), (.int (3 : Int32))] h0 (Q_rMin_4_3 Z  h0) := by
  refine oCon.of (Jvm.Free.JP.mathPlain rfl (by decide +kernel)) ?_
  intro p e s m below meth c T X hx hby hml hown hnm hret hlk hZ e0
  have hml : c.maxLocals = 2 := hml
  have K : oKp h0 h0 [] [] := oKp.nil _ _
  refine oWk.cast (g' := (mkF m 0 #[iv 4, iv 3] [])) (by first | rfl | (simp [entryFrame, mkF, argsToLocals, Value.category]; done)) ?_
  refine oWk.to (mkF m 10 #[iv 4, iv 3] [(.int 3)]) (fun _ kt => zI X hx hby d17_0 rfl rfl (zI X hx hby d17_1 rfl rfl (zY X hx hby d17_2 rfl rfl (tlt (by decide)).2.2.1 (pc' := 9) rfl (zI X hx hby d17_9 rfl rfl kt)))) ?_
  exact oRetI X hx hlk hret (hb hby d17_10) (by rw [e0]; exact ⟨rfl, rfl, K⟩) (by decide) (by decide)
def Q_rCkL_0_3 (Z : State)  (h0 : Heap) (v : Option Value) (h : Heap) (L : List Loc) : Prop := v = none ∧ h = h0 ∧ oKp h0 h [] L
theorem rCkL_0_3 (l : Launch) (Z : State) (a0 : Array Value) (hw : oHW a0 Z) (ws : List Jvm.Cond)  (h0 : Heap) (O0 : Ext Z.heap h0)  :
    oCon l Z yy20 jdk_65_method_131_code 2 none ws ({ frames := 0, cells := 0, slots := 0, locals := 0 } : Room) #[(.int (0 : Int32)), (.int (3 : Int32))] h0 (Q_rCkL_0_3 Z  h0) := by
  refine oCon.of (plainFor_of_name pn_6) ?_
  intro p e s m below meth c T X hx hby hml hown hnm hret hlk hZ e0
  have hml : c.maxLocals = 2 := hml
  have K : oKp h0 h0 [] [] := oKp.nil _ _
  refine oWk.cast (g' := (mkF m 0 #[iv 0, iv 3] [])) (by first | rfl | (simp [entryFrame, mkF, argsToLocals, Value.category]; done)) ?_
  refine oWk.to (mkF m 37 #[iv 0, iv 3] []) (fun _ kt => zI X hx hby d24_0 rfl rfl (zI X hx hby d24_1 rfl rfl (zY X hx hby d24_2 rfl rfl (flt (by decide)).2.1 (pc' := 37) rfl kt))) ?_
  exact oRetV X hx hlk hret (hb hby d24_37) (by rw [e0]; exact ⟨rfl, rfl, K⟩) (by decide) (by decide)
def Q_rCRB_4_0_3 (Z : State) (xb : Addr) (xk : ClassId) (xc0 xc1 xc2 xc3 : Int32) (h0 : Heap) (v : Option Value) (h : Heap) (L : List Loc) : Prop := ∃ (nb : Addr) (nk : ClassId), v = some (.ref nb) ∧ oKp h0 h [] L ∧ (h0.size ≤ nb) ∧ (Arv Z h nb nk .byte (3 : Int32) [(ib xc0), (ib xc1), (ib xc2)] (.int (0 : Int32)))
theorem rCRB_4_0_3 (l : Launch) (Z : State) (a0 : Array Value) (hw : oHW a0 Z) (ws : List Jvm.Cond) (xb : Addr) (xk : ClassId) (xc0 xc1 xc2 xc3 : Int32) (h0 : Heap) (O0 : Ext Z.heap h0) (V_xb : Arv Z h0 xb xk .byte (4 : Int32) [(ib xc0), (ib xc1), (ib xc2), (ib xc3)] (.int (0 : Int32))) :
    oCon l Z yy21 jdk_65_method_133_code 5 (some (.array .byte)) ws ({ frames := 1, cells := 1, slots := 3, locals := 18 } : Room) #[(.ref xb), (.int (0 : Int32)), (.int (3 : Int32))] h0 (Q_rCRB_4_0_3 Z xb xk xc0 xc1 xc2 xc3 h0) := by
  refine oCon.of (plainFor_of_name pn_6) ?_
  intro p e s m below meth c T X hx hby hml hown hnm hret hlk hZ e0
  have hml : c.maxLocals = 5 := hml
  have K : oKp h0 h0 [] [] := oKp.nil _ _
  refine oWk.cast (g' := (mkF m 0 #[rv xb, iv 0, iv 3, uu, uu] [])) (by first | rfl | (simp [entryFrame, mkF, argsToLocals, Value.category]; done)) ?_
  refine oWk.st (fun _ kt => zI X hx hby d23_0 rfl rfl (zI X hx hby d23_1 rfl rfl kt)) ?_
  have Oh := K.old O0 all0
  obtain ⟨T, L2, X, e0, K, st⟩ := (cs15 hw).pure X hx hZ hown e0 K (A := [(.int (0 : Int32)), (.int (3 : Int32))]) rfl (rCkL_0_3 l Z a0 hw []  h0 Oh ) (fun _ _ _ q => q) (W := 0) (by decide) hml (Ls := #[rv xb, iv 0, iv 3, uu, uu]) rfl (rest := []) rfl rfl hby d23_2
  refine oWk.st (fun _ kt => st _ (zI X hx hby d23_5 rfl rfl (zI X hx hby d23_6 rfl rfl (XS.isub X.here hx rfl (hb hby d23_7) rfl (zSn X hx hby d23_8 rfl rfl (l' := #[rv xb, iv 0, iv 3, iv 3, uu]) rfl (zI X hx hby d23_9 rfl rfl kt)))))) ?_
  obtain ⟨o3, g3⟩ : ∃ z, z = h0.size := ⟨_, rfl⟩
  have ne_xb_o3 : xb ≠ o3 := Nat.ne_of_lt (Nat.lt_of_lt_of_le V_xb.lt (Nat.le_of_eq g3.symm))
  have ge_o3 : h0.size ≤ o3 := Nat.le_trans K.le (Nat.le_of_eq g3.symm)
  obtain ⟨T, h, k3, X, e0, E3, A3, st⟩ := newP X hx hZ (oW hw 27 rfl) e0 (g := (mkF m 10 #[rv xb, iv 0, iv 3, iv 3, uu] [(.int 3)])) rfl (hb hby d23_10) rfl (by decide) (cap := 3) (by decide) (by decide) (by decide) (by decide)
  rw [← g3] at A3 st
  have K := K.ext E3
  have V_o3 : Arv Z h o3 k3 .byte (3 : Int32) [(.int (0 : Int32)), (.int (0 : Int32)), (.int (0 : Int32))] (.int (0 : Int32)) := (Arv.new A3 (by decide)).pad (pad_rep [] (.int (0 : Int32)) 3)
  refine oWk.to (mkF m 20 #[rv xb, iv 0, iv 3, iv 3, rv o3] [(.ref xb), (.int 0), (.ref o3), (.int 0), (.ref xb)]) (fun _ kt => st _ (zT X hx hby d23_12 rfl rfl rfl (l' := #[rv xb, iv 0, iv 3, iv 3, rv o3]) rfl (zA X hx hby d23_14 rfl rfl rfl (zI X hx hby d23_15 rfl rfl (zB X hx hby d23_16 rfl rfl rfl (zK X hx hby d23_18 rfl (zA X hx hby d23_19 rfl rfl rfl kt))))))) ?_
  have V_xb := (V_xb.ext E3)
  refine oWk.st (fun _ kt => oAl X hx hZ e0 V_xb hby d23_20 rfl rfl (zI X hx hby d23_21 rfl rfl (XS.isub X.here hx rfl (hb hby d23_22) rfl (zI X hx hby d23_23 rfl rfl kt)))) ?_
  have Oh := K.old O0 all0
  obtain ⟨T, L6, X, e0, K, st⟩ := (cs16 hw).pure X hx hZ hown e0 K (A := [(.int (4 : Int32)), (.int (3 : Int32))]) rfl (rMin_4_3 l Z a0 hw []  h Oh ) (fun _ _ _ q => q) (W := 4) (by decide) hml (Ls := #[rv xb, iv 0, iv 3, iv 3, rv o3]) rfl (rest := [(.int (0 : Int32)), (.ref o3), (.int (0 : Int32)), (.ref xb)]) rfl rfl hby d23_24
  refine oWk.st (fun _ kt => st _ kt) ?_
  obtain ⟨T, h, L7, X, e0, N7, C7, V7, st⟩ := cpA X hx hZ hown (oW hw 110 rfl) (oW hw 113 rfl) (oW hw 111 rfl) (oW hw 112 rfl) e0 (us := [(ib xc0), (ib xc1), (ib xc2)]) V_xb V_o3 (Or.inl ⟨rfl, rfl⟩) (by decide) (by decide) (by decide) (by decide) (by decide) rfl (by decide) K.fr ge_o3 (g := (mkF m 27 #[rv xb, iv 0, iv 3, iv 3, rv o3] [(.int 3), (.int 0), (.ref o3), (.int 0), (.ref xb)])) rfl (by rw [hml]; rfl) rfl (hb hby d23_27) (by decide) (W := 0) (Nat.le_of_eq rfl) (by decide)
  have K : oKp h0 h [] L7 := ⟨K.1.trans C7 (allS (Or.inr ge_o3) all0), fun y hy => Or.inr (N7 y hy)⟩
  have V_o3 : Arv Z h o3 k3 .byte (3 : Int32) [(ib xc0), (ib xc1), (ib xc2)] (.int (0 : Int32)) := V7
  refine oWk.to (mkF m 32 #[rv xb, iv 0, iv 3, iv 3, rv o3] [(.ref o3)]) (fun _ kt => st _ (zB X hx hby d23_30 rfl rfl rfl kt)) ?_
  exact oRetA X hx hlk hret rfl rfl (hb hby d23_32) (by rw [e0]; exact ⟨o3, k3, rfl, K, ge_o3, V_o3⟩) (by decide) (by decide)
def Q_rCR_4_0_3 (Z : State) (xb : Addr) (xk : ClassId) (xc0 xc1 xc2 xc3 : Int32) (h0 : Heap) (v : Option Value) (h : Heap) (L : List Loc) : Prop := ∃ (nb : Addr) (nk : ClassId), v = some (.ref nb) ∧ oKp h0 h [] L ∧ (h0.size ≤ nb) ∧ (Arv Z h nb nk .byte (3 : Int32) [(ib xc0), (ib xc1), (ib xc2)] (.int (0 : Int32)))
theorem rCR_4_0_3 (l : Launch) (Z : State) (a0 : Array Value) (hw : oHW a0 Z) (ws : List Jvm.Cond) (xb : Addr) (xk : ClassId) (xc0 xc1 xc2 xc3 : Int32) (h0 : Heap) (O0 : Ext Z.heap h0) (V_xb : Arv Z h0 xb xk .byte (4 : Int32) [(ib xc0), (ib xc1), (ib xc2), (ib xc3)] (.int (0 : Int32))) :
    oCon l Z yy22 jdk_65_method_132_code 3 (some (.array .byte)) ws ({ frames := 2, cells := 1, slots := 3, locals := 34 } : Room) #[(.ref xb), (.int (0 : Int32)), (.int (3 : Int32))] h0 (Q_rCR_4_0_3 Z xb xk xc0 xc1 xc2 xc3 h0) := by
  refine oCon.of (plainFor_of_name pn_6) ?_
  intro p e s m below meth c T X hx hby hml hown hnm hret hlk hZ e0
  have hml : c.maxLocals = 3 := hml
  have K : oKp h0 h0 [] [] := oKp.nil _ _
  refine oWk.cast (g' := (mkF m 0 #[rv xb, iv 0, iv 3] [])) (by first | rfl | (simp [entryFrame, mkF, argsToLocals, Value.category]; done)) ?_
  refine oWk.to (mkF m 11 #[rv xb, iv 0, iv 3] [(.ref xb)]) (fun _ kt => zI X hx hby d22_0 rfl rfl (zH X hx hby d22_1 rfl rfl ((if0 _ _).trans (teq (by decide)).2) (zI X hx hby d22_4 rfl rfl (zA X hx hby d22_5 rfl rfl rfl (oAl X hx hZ e0 V_xb hby d22_6 rfl rfl (zN X hx hby d22_7 rfl rfl (feq (by decide)).1 (zA X hx hby d22_10 rfl rfl rfl kt))))))) ?_
  refine oWk.st (fun _ kt => zI X hx hby d22_11 rfl rfl (zI X hx hby d22_12 rfl rfl kt)) ?_
  have lt_xb := V_xb.lt
  have Oh := K.old O0 all0
  obtain ⟨_, T, h, Lc3, X, e0, hQ, st⟩ := (cs17 hw).run X hx hZ hown e0 (A := [(.ref xb), (.int (0 : Int32)), (.int (3 : Int32))]) rfl (rCRB_4_0_3 l Z a0 hw [] xb xk xc0 xc1 xc2 xc3 h0 Oh V_xb) (W := 0) (by decide) hml (Ls := #[rv xb, iv 0, iv 3]) rfl (rest := []) rfl rfl hby d22_13
  obtain ⟨nb2, nk2, rfl, K2, gn_nb2, V_nb2⟩ := hQ
  have ge_nb2 := Nat.le_trans K.le gn_nb2
  have ne_xb_nb2 : xb ≠ nb2 := Nat.ne_of_lt (Nat.lt_of_lt_of_le lt_xb gn_nb2)
  have K := K.call K2 all0
  refine oWk.to (mkF m 16 #[rv xb, iv 0, iv 3] [(.ref nb2)]) (fun _ kt => st _ kt) ?_
  exact oRetA X hx hlk hret rfl rfl (hb hby d22_16) (by rw [e0]; exact ⟨nb2, nk2, rfl, K, ge_nb2, V_nb2⟩) (by decide) (by decide)
def Q_rNS_4_0_3 (Z : State) (xb : Addr) (xk : ClassId) (xc0 xc1 xc2 xc3 : Int32) (h0 : Heap) (v : Option Value) (h : Heap) (L : List Loc) : Prop := ∃ (nr : Addr) (nb : Addr) (nk : ClassId), v = some (.ref nr) ∧ oKp h0 h [] L ∧ (h0.size ≤ nr) ∧ (h0.size ≤ nb) ∧ (Exa Z h nr Y0) ∧ (Fld Z h nr Y0 "coder" "B" (.int (0 : Int32))) ∧ (Fld Z h nr Y0 "value" "[B" (.ref nb)) ∧ (Arv Z h nb nk .byte (3 : Int32) [(ib xc0), (ib xc1), (ib xc2)] (.int (0 : Int32)))
theorem rNS_4_0_3 (l : Launch) (Z : State) (a0 : Array Value) (hw : oHW a0 Z) (ws : List Jvm.Cond) (xb : Addr) (xk : ClassId) (xc0 xc1 xc2 xc3 : Int32) (h0 : Heap) (O0 : Ext Z.heap h0) (V_xb : Arv Z h0 xb xk .byte (4 : Int32) [(ib xc0), (ib xc1), (ib xc2), (ib xc3)] (.int (0 : Int32))) :
    oCon l Z yy17 jdk_43_method_47_code 3 (some (.object Y0)) ws ({ frames := 3, cells := 2, slots := 7, locals := 50 } : Room) #[(.ref xb), (.int (0 : Int32)), (.int (3 : Int32))] h0 (Q_rNS_4_0_3 Z xb xk xc0 xc1 xc2 xc3 h0) := by
  refine oCon.of (plainFor_of_name pn_0) ?_
  intro p e s m below meth c T X hx hby hml hown hnm hret hlk hZ e0
  have hml : c.maxLocals = 3 := hml
  have K : oKp h0 h0 [] [] := oKp.nil _ _
  refine oWk.cast (g' := (mkF m 0 #[rv xb, iv 0, iv 3] [])) (by first | rfl | (simp [entryFrame, mkF, argsToLocals, Value.category]; done)) ?_
  refine oWk.st (fun _ kt => zI X hx hby d21_0 rfl rfl (zF X hx hby d21_1 rfl rfl ((if0 _ _).trans (feq (by decide)).2) (pc' := 7) rfl kt)) ?_
  obtain ⟨o1, g1⟩ : ∃ z, z = h0.size := ⟨_, rfl⟩
  have ne_xb_o1 : xb ≠ o1 := Nat.ne_of_lt (Nat.lt_of_lt_of_le V_xb.lt (Nat.le_of_eq g1.symm))
  have ge_o1 : h0.size ≤ o1 := Nat.le_trans K.le (Nat.le_of_eq g1.symm)
  obtain ⟨T, h, X, e0, E1, A1, D1, -, st⟩ := newO X hx hZ hown (oW hw 98 rfl) (oW hw 10 rfl) (oW hw 11 rfl) e0 (g := (mkF m 7 #[rv xb, iv 0, iv 3] [])) rfl (hb hby d21_7) (by decide) (by decide)
  rw [← g1] at A1 D1 st
  have K := K.ext E1
  have E_o1 := A1
  have F_coder_o1 : Fld Z h o1 Y0 "coder" "B" (.int (0 : Int32)) := D1 (Or.inr (oW hw 35 rfl)) (ty := .byte) (by decide)
  have F_value_o1 : Fld Z h o1 Y0 "value" "[B" .null := D1 (Or.inr (oW hw 37 rfl)) (ty := (.array .byte)) (by decide)
  refine oWk.to (mkF m 16 #[rv xb, iv 0, iv 3] [(.int 3), (.int 0), (.ref xb), (.ref o1), (.ref o1)]) (fun _ kt => st _ (zD X hx hby d21_10 rfl rfl rfl (zA X hx hby d21_11 rfl rfl rfl (zI X hx hby d21_12 rfl rfl (zI X hx hby d21_13 rfl rfl (zI X hx hby d21_14 rfl rfl (XS.iadd X.here hx rfl (hb hby d21_15) rfl kt))))))) ?_
  have V_xb := (V_xb.ext E1)
  have lt_xb := V_xb.lt
  have lt_o1 := E_o1.lt
  have Oh := K.old O0 all0
  obtain ⟨_, T, h, Lc3, X, e0, hQ, st⟩ := (cs18 hw).run X hx hZ hown e0 (A := [(.ref xb), (.int (0 : Int32)), (.int (3 : Int32))]) rfl (rCR_4_0_3 l Z a0 hw [] xb xk xc0 xc1 xc2 xc3 h Oh V_xb) (W := 2) (by decide) hml (Ls := #[rv xb, iv 0, iv 3]) rfl (rest := [(.ref o1), (.ref o1)]) rfl rfl hby d21_16
  obtain ⟨nb2, nk2, rfl, K2, gn_nb2, V_nb2⟩ := hQ
  have ge_nb2 := Nat.le_trans K.le gn_nb2
  have ne_xb_nb2 : xb ≠ nb2 := Nat.ne_of_lt (Nat.lt_of_lt_of_le lt_xb gn_nb2)
  have ne_o1_nb2 : o1 ≠ nb2 := Nat.ne_of_lt (Nat.lt_of_lt_of_le lt_o1 gn_nb2)
  have K := K.call K2 all0
  refine oWk.st (fun _ kt => st _ (zK X hx hby d21_19 rfl kt)) ?_
  have E_o1 := (E_o1.keep K2.1)
  have F_value_o1 := (F_value_o1.keep K2.1 nin0)
  have F_coder_o1 := (F_coder_o1.keep K2.1 nin0)
  have Oh := K.old O0 all0
  obtain ⟨_, T, h, Lc5, X, e0, hQ, st⟩ := (cs19 hw).run X hx hZ hown e0 (A := [(.ref o1), (.ref nb2), (.int (0 : Int32))]) ⟨rfl, _, _, rfl⟩ (rSIn l Z a0 hw [] o1 nb2 .null (.int (0 : Int32)) h Oh (Nat.le_trans O0.1 ge_o1) E_o1 F_value_o1 F_coder_o1) (W := 1) (by decide) hml (Ls := #[rv xb, iv 0, iv 3]) rfl (rest := [(.ref o1)]) rfl rfl hby d21_20
  obtain ⟨rfl, K4, E_o1, F_value_o1, F_coder_o1⟩ := hQ
  have K := K.call K4 (allS (Or.inr ge_o1) all0)
  refine oWk.to (mkF m 23 #[rv xb, iv 0, iv 3] [(.ref o1)]) (fun _ kt => st _ kt) ?_
  have V_nb2 := (V_nb2.keep K4.1 (ninS (Ne.symm ne_o1_nb2) nin0))
  exact oRetA X hx hlk hret rfl rfl (hb hby d21_23) (by rw [e0]; exact ⟨o1, nb2, nk2, rfl, K, ge_o1, ge_nb2, E_o1, F_coder_o1, F_value_o1, V_nb2⟩) (by decide) (by decide)
def Q_rSub_4_0_3 (Z : State) (xa xb : Addr) (xk : ClassId) (xfm : Value) (xz xc0 xc1 xc2 xc3 : Int32) (h0 : Heap) (v : Option Value) (h : Heap) (L : List Loc) : Prop := ∃ (nr : Addr) (nb : Addr) (nk : ClassId), v = some (.ref nr) ∧ oKp h0 h [] L ∧ (h0.size ≤ nr) ∧ (h0.size ≤ nb) ∧ (Exa Z h nr Y0) ∧ (Fld Z h nr Y0 "coder" "B" (.int (0 : Int32))) ∧ (Fld Z h nr Y0 "value" "[B" (.ref nb)) ∧ (Arv Z h nb nk .byte (3 : Int32) [(ib xc0), (ib xc1), (ib xc2)] (.int (0 : Int32)))
theorem rSub_4_0_3 (l : Launch) (Z : State) (a0 : Array Value) (hw : oHW a0 Z) (ws : List Jvm.Cond) (xa xb : Addr) (xk : ClassId) (xfm : Value) (xz xc0 xc1 xc2 xc3 : Int32) (h0 : Heap) (O0 : Ext Z.heap h0) (S_COMPACT_STRINGS : Sta Z Z.heap Y0 Y1 "Z" (.int xz)) (hz : ¬ xz = (0 : Int32)) (S_SIOOBE_FORMATTER : Sta Z Z.heap Y2 Y3 Y4 xfm) (hcat : xfm.category = 1) (E_xa : Exa Z h0 xa Y0) (F_coder_xa : Fld Z h0 xa Y0 "coder" "B" (.int (0 : Int32))) (F_value_xa : Fld Z h0 xa Y0 "value" "[B" (.ref xb)) (V_xb : Arv Z h0 xb xk .byte (4 : Int32) [(ib xc0), (ib xc1), (ib xc2), (ib xc3)] (.int (0 : Int32))) :
    oCon l Z yy18 jdk_42_method_92_code 5 (some (.object Y0)) ws ({ frames := 4, cells := 2, slots := 7, locals := 64 } : Room) #[(.ref xa), (.int (0 : Int32)), (.int (3 : Int32))] h0 (Q_rSub_4_0_3 Z xa xb xk xfm xz xc0 xc1 xc2 xc3 h0) := by
  refine oCon.of (plainFor_of_name pn_3) ?_
  intro p e s m below meth c T X hx hby hml hown hnm hret hlk hZ e0
  have hml : c.maxLocals = 5 := hml
  have K : oKp h0 h0 [] [] := oKp.nil _ _
  refine oWk.cast (g' := (mkF m 0 #[rv xa, iv 0, iv 3, uu, uu] [])) (by first | rfl | (simp [entryFrame, mkF, argsToLocals, Value.category]; done)) ?_
  refine oWk.st (fun _ kt => zA X hx hby d18_0 rfl rfl rfl kt) ?_
  have Oh := K.old O0 all0
  obtain ⟨T, L2, X, e0, K, st⟩ := (cs10 hw).pure X hx hZ hown e0 K (A := [(.ref xa)]) ⟨rfl, _, _, rfl, E_xa⟩ (rLn_4 l Z a0 hw [] xa xb xk xz xc0 xc1 xc2 xc3 h0 Oh S_COMPACT_STRINGS hz E_xa F_coder_xa F_value_xa V_xb) (fun _ _ _ q => q) (W := 0) (by decide) hml (Ls := #[rv xa, iv 0, iv 3, uu, uu]) rfl (rest := []) rfl rfl hby d18_1
  refine oWk.st (fun _ kt => st _ (zSn X hx hby d18_4 rfl rfl (l' := #[rv xa, iv 0, iv 3, iv 4, uu]) rfl (zI X hx hby d18_5 rfl rfl (zI X hx hby d18_6 rfl rfl (zI X hx hby d18_7 rfl rfl kt))))) ?_
  obtain ⟨T, L4, X, e0, K, st⟩ := (cs13 hw).pure X hx hZ hown e0 K (A := [(.int (0 : Int32)), (.int (3 : Int32)), (.int (4 : Int32))]) rfl (rCkB l Z a0 hw [] (0 : Int32) (3 : Int32) (4 : Int32) xfm h0 Oh S_SIOOBE_FORMATTER hcat (by decide) (by decide) (by decide)) (fun _ _ _ q => q) (W := 0) (by decide) hml (Ls := #[rv xa, iv 0, iv 3, iv 4, uu]) rfl (rest := []) rfl rfl hby d18_8
  refine oWk.to (mkF m 23 #[rv xa, iv 0, iv 3, iv 4, uu] [(.int 3)]) (fun _ kt => st _ (zI X hx hby d18_11 rfl rfl (zH X hx hby d18_12 rfl rfl ((if0 _ _).trans (teq (by decide)).2) (zI X hx hby d18_15 rfl rfl (zI X hx hby d18_16 rfl rfl (zY X hx hby d18_17 rfl rfl (feq (by decide)).2 (pc' := 22) rfl (zI X hx hby d18_22 rfl rfl kt))))))) ?_
  refine oWk.st (fun _ kt => zI X hx hby d18_23 rfl rfl (XS.isub X.here hx rfl (hb hby d18_24) rfl (zS X hx hby d18_25 rfl rfl (l' := #[rv xa, iv 0, iv 3, iv 4, iv 3]) rfl (zA X hx hby d18_27 rfl rfl rfl kt)))) ?_
  obtain ⟨T, L6, X, e0, K, st⟩ := (cs8 hw).pure X hx hZ hown e0 K (A := [(.ref xa)]) ⟨rfl, _, _, rfl, E_xa⟩ (rIsL l Z a0 hw [] xa xz h0 Oh S_COMPACT_STRINGS hz F_coder_xa) (fun _ _ _ q => q) (W := 0) (by decide) hml (Ls := #[rv xa, iv 0, iv 3, iv 4, iv 3]) rfl (rest := []) rfl rfl hby d18_28
  refine oWk.st (fun _ kt => st _ (zH X hx hby d18_31 rfl rfl ((if0 _ _).trans (feq (by decide)).1) (zA X hx hby d18_34 rfl rfl rfl kt))) ?_
  obtain ⟨T, X, e0, st⟩ := getF X hx hZ hown (host := "") (Or.inl (oW hw 36 rfl)) Via.refl e0 F_value_xa (g := (mkF m 35 #[rv xa, iv 0, iv 3, iv 4, iv 3] [(.ref xa)])) rfl rfl (hb hby d18_35)
  refine oWk.st (fun _ kt => st _ (zI X hx hby d18_38 rfl rfl (zJ X hx hby d18_39 rfl rfl kt))) ?_
  have lt_xa := E_xa.lt
  have lt_xb := V_xb.lt
  obtain ⟨_, T, h, Lc8, X, e0, hQ, st⟩ := (cs20 hw).run X hx hZ hown e0 (A := [(.ref xb), (.int (0 : Int32)), (.int (3 : Int32))]) rfl (rNS_4_0_3 l Z a0 hw [] xb xk xc0 xc1 xc2 xc3 h0 Oh V_xb) (W := 0) (by decide) hml (Ls := #[rv xa, iv 0, iv 3, iv 4, iv 3]) rfl (rest := []) rfl rfl hby d18_41
  obtain ⟨nr7, nb7, nk7, rfl, K7, gn_nr7, gn_nb7, E_nr7, F_coder_nr7, F_value_nr7, V_nb7⟩ := hQ
  have ge_nr7 := Nat.le_trans K.le gn_nr7
  have ne_xa_nr7 : xa ≠ nr7 := Nat.ne_of_lt (Nat.lt_of_lt_of_le lt_xa gn_nr7)
  have ne_xb_nr7 : xb ≠ nr7 := Nat.ne_of_lt (Nat.lt_of_lt_of_le lt_xb gn_nr7)
  have ge_nb7 := Nat.le_trans K.le gn_nb7
  have ne_xa_nb7 : xa ≠ nb7 := Nat.ne_of_lt (Nat.lt_of_lt_of_le lt_xa gn_nb7)
  have ne_xb_nb7 : xb ≠ nb7 := Nat.ne_of_lt (Nat.lt_of_lt_of_le lt_xb gn_nb7)
  have K := K.call K7 all0
  refine oWk.to (mkF m 57 #[rv xa, iv 0, iv 3, iv 4, iv 3] [(.ref nr7)]) (fun _ kt => st _ (zG X hx hby d18_44 rfl (pc' := 57) rfl kt)) ?_
  exact oRetA X hx hlk hret rfl rfl (hb hby d18_57) (by rw [e0]; exact ⟨nr7, nb7, nk7, rfl, K, ge_nr7, ge_nb7, E_nr7, F_coder_nr7, F_value_nr7, V_nb7⟩) (by decide) (by decide)
def Q_rSP_4_3 (Z : State) (xa xb : Addr) (xk : ClassId) (xfm : Value) (xz xc0 xc1 xc2 xc3 : Int32) (h0 : Heap) (v : Option Value) (h : Heap) (L : List Loc) : Prop := ∃ (nr : Addr) (nb : Addr) (nk : ClassId), v = some (.ref nr) ∧ oKp h0 h [] L ∧ (h0.size ≤ nr) ∧ (h0.size ≤ nb) ∧ (Exa Z h nr Y0) ∧ (Fld Z h nr Y0 "coder" "B" (.int (0 : Int32))) ∧ (Fld Z h nr Y0 "value" "[B" (.ref nb)) ∧ (Arv Z h nb nk .byte (3 : Int32) [(ib xc0), (ib xc1), (ib xc2)] (.int (0 : Int32)))
theorem rSP_4_3 (l : Launch) (Z : State) (a0 : Array Value) (hw : oHW a0 Z) (ws : List Jvm.Cond) (xa xb : Addr) (xk : ClassId) (xfm : Value) (xz xc0 xc1 xc2 xc3 : Int32) (h0 : Heap) (O0 : Ext Z.heap h0) (S_COMPACT_STRINGS : Sta Z Z.heap Y0 Y1 "Z" (.int xz)) (hz : ¬ xz = (0 : Int32)) (S_SIOOBE_FORMATTER : Sta Z Z.heap Y2 Y3 Y4 xfm) (hcat : xfm.category = 1) (E_xa : Exa Z h0 xa Y0) (F_coder_xa : Fld Z h0 xa Y0 "coder" "B" (.int (0 : Int32))) (F_value_xa : Fld Z h0 xa Y0 "value" "[B" (.ref xb)) (V_xb : Arv Z h0 xb xk .byte (4 : Int32) [(ib xc0), (ib xc1), (ib xc2), (ib xc3)] (.int (0 : Int32))) (hu3 : (xc3.toInt8.toInt32) = (58 : Int32)) :
    oCon l Z yy19 prog_3_method_2_code 1 (some (.object Y0)) ws ({ frames := 5, cells := 2, slots := 7, locals := 80 } : Room) #[(.ref xa)] h0 (Q_rSP_4_3 Z xa xb xk xfm xz xc0 xc1 xc2 xc3 h0) := by
  refine oCon.of (plainFor_of_name pn_5) ?_
  intro p e s m below meth c T X hx hby hml hown hnm hret hlk hZ e0
  have hml : c.maxLocals = 1 := hml
  have K : oKp h0 h0 [] [] := oKp.nil _ _
  refine oWk.cast (g' := (mkF m 0 #[rv xa] [])) (by first | rfl | (simp [entryFrame, mkF, argsToLocals, Value.category]; done)) ?_
  refine oWk.st (fun _ kt => zA X hx hby d9_0 rfl rfl rfl (zK X hx hby d9_1 rfl (zA X hx hby d9_2 rfl rfl rfl (zL X hx hby d9_3 rfl kt)))) ?_
  have Oh := K.old O0 all0
  obtain ⟨T, L2, X, e0, K, st⟩ := (cs14 hw).pure X hx hZ hown e0 K (A := [(.ref xa), (.int (58 : Int32))]) ⟨rfl, _, _, rfl, E_xa⟩ (rLK_4_3 l Z a0 hw [] xa xb xk xz xc0 xc1 xc2 xc3 h0 Oh S_COMPACT_STRINGS hz E_xa F_coder_xa F_value_xa V_xb hu3) (fun _ _ _ q => q) (W := 2) (by decide) hml (Ls := #[rv xa]) rfl (rest := [(.int (0 : Int32)), (.ref xa)]) rfl rfl hby d9_5
  refine oWk.st (fun _ kt => st _ kt) ?_
  have lt_xa := E_xa.lt
  have lt_xb := V_xb.lt
  obtain ⟨_, T, h, Lc4, X, e0, hQ, st⟩ := (cs21 hw).run X hx hZ hown e0 (A := [(.ref xa), (.int (0 : Int32)), (.int (3 : Int32))]) ⟨rfl, _, _, rfl, E_xa⟩ (rSub_4_0_3 l Z a0 hw [] xa xb xk xfm xz xc0 xc1 xc2 xc3 h0 Oh S_COMPACT_STRINGS hz S_SIOOBE_FORMATTER hcat E_xa F_coder_xa F_value_xa V_xb) (W := 0) (by decide) hml (Ls := #[rv xa]) rfl (rest := []) rfl rfl hby d9_8
  obtain ⟨nr3, nb3, nk3, rfl, K3, gn_nr3, gn_nb3, E_nr3, F_coder_nr3, F_value_nr3, V_nb3⟩ := hQ
  have ge_nr3 := Nat.le_trans K.le gn_nr3
  have ne_xa_nr3 : xa ≠ nr3 := Nat.ne_of_lt (Nat.lt_of_lt_of_le lt_xa gn_nr3)
  have ne_xb_nr3 : xb ≠ nr3 := Nat.ne_of_lt (Nat.lt_of_lt_of_le lt_xb gn_nr3)
  have ge_nb3 := Nat.le_trans K.le gn_nb3
  have ne_xa_nb3 : xa ≠ nb3 := Nat.ne_of_lt (Nat.lt_of_lt_of_le lt_xa gn_nb3)
  have ne_xb_nb3 : xb ≠ nb3 := Nat.ne_of_lt (Nat.lt_of_lt_of_le lt_xb gn_nb3)
  have K := K.call K3 all0
  refine oWk.to (mkF m 11 #[rv xa] [(.ref nr3)]) (fun _ kt => st _ kt) ?_
  exact oRetA X hx hlk hret rfl rfl (hb hby d9_11) (by rw [e0]; exact ⟨nr3, nb3, nk3, rfl, K, ge_nr3, ge_nb3, E_nr3, F_coder_nr3, F_value_nr3, V_nb3⟩) (by decide) (by decide)
def Q_rMin_4_4 (Z : State)  (h0 : Heap) (v : Option Value) (h : Heap) (L : List Loc) : Prop := v = some (.int (4 : Int32)) ∧ h = h0 ∧ oKp h0 h [] L
theorem rMin_4_4 (l : Launch) (Z : State) (a0 : Array Value) (hw : oHW a0 Z) (ws : List Jvm.Cond)  (h0 : Heap) (O0 : Ext Z.heap h0)  :
    oCon l Z yy8 jdk_29_method_69_code 2 (some .int) ws ({ frames := 0, cells := 0, slots := 0, locals := 0 } : Room) #[(.int (4 : Int32)), (.int (4 : Int32))] h0 (Q_rMin_4_4 Z  h0) := by
  refine oCon.of (Jvm.Free.JP.mathPlain rfl (by decide +kernel)) ?_
  intro p e s m below meth c T X hx hby hml hown hnm hret hlk hZ e0
  have hml : c.maxLocals = 2 := hml
  have K : oKp h0 h0 [] [] := oKp.nil _ _
  refine oWk.cast (g' := (mkF m 0 #[iv 4, iv 4] [])) (by first | rfl | (simp [entryFrame, mkF, argsToLocals, Value.category]; done)) ?_
  refine oWk.to (mkF m 10 #[iv 4, iv 4] [(.int 4)]) (fun _ kt => zI X hx hby d17_0 rfl rfl (zI X hx hby d17_1 rfl rfl (zN X hx hby d17_2 rfl rfl (flt (by decide)).2.2.1 (zI X hx hby d17_5 rfl rfl (zG X hx hby d17_6 rfl (pc' := 10) rfl kt))))) ?_
  exact oRetI X hx hlk hret (hb hby d17_10) (by rw [e0]; exact ⟨rfl, rfl, K⟩) (by decide) (by decide)
def Q_rLI_5_0 (Z : State) (xb : Addr) (xk : ClassId) (xc0 xc1 xc2 xc3 xc4 : Int32) (h0 : Heap) (v : Option Value) (h : Heap) (L : List Loc) : Prop := v = some (.int (0 : Int32)) ∧ h = h0 ∧ oKp h0 h [] L
theorem rLI_5_0 (l : Launch) (Z : State) (a0 : Array Value) (hw : oHW a0 Z) (ws : List Jvm.Cond) (xb : Addr) (xk : ClassId) (xc0 xc1 xc2 xc3 xc4 : Int32) (h0 : Heap) (O0 : Ext Z.heap h0) (V_xb : Arv Z h0 xb xk .byte (5 : Int32) [(ib xc0), (ib xc1), (ib xc2), (ib xc3), (ib xc4)] (.int (0 : Int32))) (hu0 : (xc0.toInt8.toInt32) = (58 : Int32)) (hu1 : ¬ (xc1.toInt8.toInt32) = (58 : Int32)) (hu2 : ¬ (xc2.toInt8.toInt32) = (58 : Int32)) (hu3 : ¬ (xc3.toInt8.toInt32) = (58 : Int32)) (hu4 : ¬ (xc4.toInt8.toInt32) = (58 : Int32)) :
    oCon l Z yy9 jdk_43_method_27_code 4 (some .int) ws ({ frames := 1, cells := 0, slots := 0, locals := 13 } : Room) #[(.ref xb), (.int (58 : Int32)), (.int (4 : Int32))] h0 (Q_rLI_5_0 Z xb xk xc0 xc1 xc2 xc3 xc4 h0) := by
  refine oCon.of (plainFor_of_name pn_0) ?_
  intro p e s m below meth c T X hx hby hml hown hnm hret hlk hZ e0
  have hml : c.maxLocals = 4 := hml
  have K : oKp h0 h0 [] [] := oKp.nil _ _
  refine oWk.cast (g' := (mkF m 0 #[rv xb, iv 58, iv 4, uu] [])) (by first | rfl | (simp [entryFrame, mkF, argsToLocals, Value.category]; done)) ?_
  refine oWk.st (fun _ kt => zI X hx hby d15_0 rfl rfl kt) ?_
  have Oh := K.old O0 all0
  obtain ⟨T, L2, X, e0, K, st⟩ := (cs5 hw).pure X hx hZ hown e0 K (A := [(.int (58 : Int32))]) rfl (rCanI l Z a0 hw []  h0 Oh ) (fun _ _ _ q => q) (W := 0) (by decide) hml (Ls := #[rv xb, iv 58, iv 4, uu]) rfl (rest := []) rfl rfl hby d15_1
  refine oWk.to (mkF m 14 #[rv xb, iv 58, iv 4, uu] [(.int 4), (.int 4)]) (fun _ kt => st _ (zF X hx hby d15_4 rfl rfl ((if0 _ _).trans (feq (by decide)).2) (pc' := 9) rfl (zI X hx hby d15_9 rfl rfl (zA X hx hby d15_10 rfl rfl rfl (oAl X hx hZ e0 V_xb hby d15_11 rfl rfl (zK X hx hby d15_12 rfl (XS.isub X.here hx rfl (hb hby d15_13) rfl kt))))))) ?_
  obtain ⟨T, L5, X, e0, K, st⟩ := (cs6 hw).pure X hx hZ hown e0 K (A := [(.int (4 : Int32)), (.int (4 : Int32))]) rfl (rMin_4_4 l Z a0 hw []  h0 Oh ) (fun _ _ _ q => q) (W := 0) (by decide) hml (Ls := #[rv xb, iv 58, iv 4, uu]) rfl (rest := []) rfl rfl hby d15_14
  refine oWk.to (mkF m 25 #[rv xb, iv 58, iv 4, iv 4] [(ib xc4)]) (fun _ kt => st _ (zSn X hx hby d15_17 rfl rfl (l' := #[rv xb, iv 58, iv 4, iv 4]) rfl (zI X hx hby d15_18 rfl rfl (zH X hx hby d15_19 rfl rfl ((if0 _ _).trans (flt (by decide)).1) (zA X hx hby d15_22 rfl rfl rfl (zI X hx hby d15_23 rfl rfl (oLdB X hx hZ e0 V_xb (4 : Int32) (ib xc4) ⟨by decide, by decide⟩ rfl hby d15_24 rfl rfl kt))))))) ?_
  refine oWk.to (mkF m 27 #[rv xb, iv 58, iv 4, iv 4] [(.int 58), (ib xc4)]) (fun _ kt => zI X hx hby d15_25 rfl rfl (XS.i2b X.here hx rfl (hb hby d15_26) rfl kt)) ?_
  refine oWk.to (mkF m 24 #[rv xb, iv 58, iv 4, iv 3] [(.int 3), (.ref xb)]) (fun _ kt => zY X hx hby d15_27 rfl rfl (feq hu4).2 (pc' := 32) rfl (zC X hx hby d15_32 rfl rfl (l' := #[rv xb, iv 58, iv 4, iv ((4 : Int32) + (-1 : Int32))]) rfl (zG X hx hby d15_35 rfl (pc' := 18) rfl (zI X hx hby d15_18 rfl rfl (zH X hx hby d15_19 rfl rfl ((if0 _ _).trans (flt (by decide)).1) (zA X hx hby d15_22 rfl rfl rfl (zI X hx hby d15_23 rfl rfl kt))))))) ?_
  refine oWk.to (mkF m 27 #[rv xb, iv 58, iv 4, iv 3] [(.int 58), (ib xc3)]) (fun _ kt => oLdB X hx hZ e0 V_xb (3 : Int32) (ib xc3) ⟨by decide, by decide⟩ rfl hby d15_24 rfl rfl (zI X hx hby d15_25 rfl rfl (XS.i2b X.here hx rfl (hb hby d15_26) rfl kt))) ?_
  refine oWk.to (mkF m 24 #[rv xb, iv 58, iv 4, iv 2] [(.int 2), (.ref xb)]) (fun _ kt => zY X hx hby d15_27 rfl rfl (feq hu3).2 (pc' := 32) rfl (zC X hx hby d15_32 rfl rfl (l' := #[rv xb, iv 58, iv 4, iv ((3 : Int32) + (-1 : Int32))]) rfl (zG X hx hby d15_35 rfl (pc' := 18) rfl (zI X hx hby d15_18 rfl rfl (zH X hx hby d15_19 rfl rfl ((if0 _ _).trans (flt (by decide)).1) (zA X hx hby d15_22 rfl rfl rfl (zI X hx hby d15_23 rfl rfl kt))))))) ?_
  refine oWk.to (mkF m 27 #[rv xb, iv 58, iv 4, iv 2] [(.int 58), (ib xc2)]) (fun _ kt => oLdB X hx hZ e0 V_xb (2 : Int32) (ib xc2) ⟨by decide, by decide⟩ rfl hby d15_24 rfl rfl (zI X hx hby d15_25 rfl rfl (XS.i2b X.here hx rfl (hb hby d15_26) rfl kt))) ?_
  refine oWk.to (mkF m 24 #[rv xb, iv 58, iv 4, iv 1] [(.int 1), (.ref xb)]) (fun _ kt => zY X hx hby d15_27 rfl rfl (feq hu2).2 (pc' := 32) rfl (zC X hx hby d15_32 rfl rfl (l' := #[rv xb, iv 58, iv 4, iv ((2 : Int32) + (-1 : Int32))]) rfl (zG X hx hby d15_35 rfl (pc' := 18) rfl (zI X hx hby d15_18 rfl rfl (zH X hx hby d15_19 rfl rfl ((if0 _ _).trans (flt (by decide)).1) (zA X hx hby d15_22 rfl rfl rfl (zI X hx hby d15_23 rfl rfl kt))))))) ?_
  refine oWk.to (mkF m 27 #[rv xb, iv 58, iv 4, iv 1] [(.int 58), (ib xc1)]) (fun _ kt => oLdB X hx hZ e0 V_xb (1 : Int32) (ib xc1) ⟨by decide, by decide⟩ rfl hby d15_24 rfl rfl (zI X hx hby d15_25 rfl rfl (XS.i2b X.here hx rfl (hb hby d15_26) rfl kt))) ?_
  refine oWk.to (mkF m 24 #[rv xb, iv 58, iv 4, iv 0] [(.int 0), (.ref xb)]) (fun _ kt => zY X hx hby d15_27 rfl rfl (feq hu1).2 (pc' := 32) rfl (zC X hx hby d15_32 rfl rfl (l' := #[rv xb, iv 58, iv 4, iv ((1 : Int32) + (-1 : Int32))]) rfl (zG X hx hby d15_35 rfl (pc' := 18) rfl (zI X hx hby d15_18 rfl rfl (zH X hx hby d15_19 rfl rfl ((if0 _ _).trans (flt (by decide)).1) (zA X hx hby d15_22 rfl rfl rfl (zI X hx hby d15_23 rfl rfl kt))))))) ?_
  refine oWk.to (mkF m 27 #[rv xb, iv 58, iv 4, iv 0] [(.int 58), (ib xc0)]) (fun _ kt => oLdB X hx hZ e0 V_xb (0 : Int32) (ib xc0) ⟨by decide, by decide⟩ rfl hby d15_24 rfl rfl (zI X hx hby d15_25 rfl rfl (XS.i2b X.here hx rfl (hb hby d15_26) rfl kt))) ?_
  refine oWk.to (mkF m 31 #[rv xb, iv 58, iv 4, iv 0] [(.int 0)]) (fun _ kt => zN X hx hby d15_27 rfl rfl (teq hu0).2 (zI X hx hby d15_30 rfl rfl kt)) ?_
  exact oRetI X hx hlk hret (hb hby d15_31) (by rw [e0]; exact ⟨rfl, rfl, K⟩) (by decide) (by decide)
def Q_rLn_5 (Z : State) (xa xb : Addr) (xk : ClassId) (xz xc0 xc1 xc2 xc3 xc4 : Int32) (h0 : Heap) (v : Option Value) (h : Heap) (L : List Loc) : Prop := v = some (.int (5 : Int32)) ∧ h = h0 ∧ oKp h0 h [] L
theorem rLn_5 (l : Launch) (Z : State) (a0 : Array Value) (hw : oHW a0 Z) (ws : List Jvm.Cond) (xa xb : Addr) (xk : ClassId) (xz xc0 xc1 xc2 xc3 xc4 : Int32) (h0 : Heap) (O0 : Ext Z.heap h0) (S_COMPACT_STRINGS : Sta Z Z.heap Y0 Y1 "Z" (.int xz)) (hz : ¬ xz = (0 : Int32)) (E_xa : Exa Z h0 xa Y0) (F_coder_xa : Fld Z h0 xa Y0 "coder" "B" (.int (0 : Int32))) (F_value_xa : Fld Z h0 xa Y0 "value" "[B" (.ref xb)) (V_xb : Arv Z h0 xb xk .byte (5 : Int32) [(ib xc0), (ib xc1), (ib xc2), (ib xc3), (ib xc4)] (.int (0 : Int32))) :
    oCon l Z yy12 jdk_42_method_54_code 1 (some .int) ws ({ frames := 1, cells := 0, slots := 0, locals := 13 } : Room) #[(.ref xa)] h0 (Q_rLn_5 Z xa xb xk xz xc0 xc1 xc2 xc3 xc4 h0) := by
  refine oCon.of (plainFor_of_name pn_3) ?_
  intro p e s m below meth c T X hx hby hml hown hnm hret hlk hZ e0
  have hml : c.maxLocals = 1 := hml
  have K : oKp h0 h0 [] [] := oKp.nil _ _
  refine oWk.cast (g' := (mkF m 0 #[rv xa] [])) (by first | rfl | (simp [entryFrame, mkF, argsToLocals, Value.category]; done)) ?_
  refine oWk.st (fun _ kt => zA X hx hby d11_0 rfl rfl rfl kt) ?_
  obtain ⟨T, X, e0, st⟩ := getF X hx hZ hown (host := "") (Or.inl (oW hw 36 rfl)) Via.refl e0 F_value_xa (g := (mkF m 1 #[rv xa] [(.ref xa)])) rfl rfl (hb hby d11_1)
  refine oWk.st (fun _ kt => st _ (oAl X hx hZ e0 V_xb hby d11_4 rfl rfl (zA X hx hby d11_5 rfl rfl rfl kt))) ?_
  have Oh := K.old O0 all0
  obtain ⟨T, L3, X, e0, K, st⟩ := (cs7 hw).pure X hx hZ hown e0 K (A := [(.ref xa)]) ⟨rfl, _, _, rfl, E_xa⟩ (rCdr l Z a0 hw [] xa xz h0 Oh S_COMPACT_STRINGS hz F_coder_xa) (fun _ _ _ q => q) (W := 1) (by decide) hml (Ls := #[rv xa]) rfl (rest := [(.int (5 : Int32))]) rfl rfl hby d11_6
  refine oWk.to (mkF m 10 #[rv xa] [(.int 5)]) (fun _ kt => st _ (XS.ishr X.here hx rfl (hb hby d11_9) rfl kt)) ?_
  exact oRetI X hx hlk hret (hb hby d11_10) (by rw [e0]; exact ⟨rfl, rfl, K⟩) (by decide) (by decide)
def Q_rLJ_5_0 (Z : State) (xa xb : Addr) (xk : ClassId) (xz xc0 xc1 xc2 xc3 xc4 : Int32) (h0 : Heap) (v : Option Value) (h : Heap) (L : List Loc) : Prop := v = some (.int (0 : Int32)) ∧ h = h0 ∧ oKp h0 h [] L
theorem rLJ_5_0 (l : Launch) (Z : State) (a0 : Array Value) (hw : oHW a0 Z) (ws : List Jvm.Cond) (xa xb : Addr) (xk : ClassId) (xz xc0 xc1 xc2 xc3 xc4 : Int32) (h0 : Heap) (O0 : Ext Z.heap h0) (S_COMPACT_STRINGS : Sta Z Z.heap Y0 Y1 "Z" (.int xz)) (hz : ¬ xz = (0 : Int32)) (E_xa : Exa Z h0 xa Y0) (F_coder_xa : Fld Z h0 xa Y0 "coder" "B" (.int (0 : Int32))) (F_value_xa : Fld Z h0 xa Y0 "value" "[B" (.ref xb)) (V_xb : Arv Z h0 xb xk .byte (5 : Int32) [(ib xc0), (ib xc1), (ib xc2), (ib xc3), (ib xc4)] (.int (0 : Int32))) (hu0 : (xc0.toInt8.toInt32) = (58 : Int32)) (hu1 : ¬ (xc1.toInt8.toInt32) = (58 : Int32)) (hu2 : ¬ (xc2.toInt8.toInt32) = (58 : Int32)) (hu3 : ¬ (xc3.toInt8.toInt32) = (58 : Int32)) (hu4 : ¬ (xc4.toInt8.toInt32) = (58 : Int32)) :
    oCon l Z yy13 jdk_42_method_83_code 3 (some .int) ws ({ frames := 2, cells := 0, slots := 0, locals := 28 } : Room) #[(.ref xa), (.int (58 : Int32)), (.int (4 : Int32))] h0 (Q_rLJ_5_0 Z xa xb xk xz xc0 xc1 xc2 xc3 xc4 h0) := by
  refine oCon.of (plainFor_of_name pn_3) ?_
  intro p e s m below meth c T X hx hby hml hown hnm hret hlk hZ e0
  have hml : c.maxLocals = 3 := hml
  have K : oKp h0 h0 [] [] := oKp.nil _ _
  refine oWk.cast (g' := (mkF m 0 #[rv xa, iv 58, iv 4] [])) (by first | rfl | (simp [entryFrame, mkF, argsToLocals, Value.category]; done)) ?_
  refine oWk.st (fun _ kt => zA X hx hby d13_0 rfl rfl rfl kt) ?_
  have Oh := K.old O0 all0
  obtain ⟨T, L2, X, e0, K, st⟩ := (cs8 hw).pure X hx hZ hown e0 K (A := [(.ref xa)]) ⟨rfl, _, _, rfl, E_xa⟩ (rIsL l Z a0 hw [] xa xz h0 Oh S_COMPACT_STRINGS hz F_coder_xa) (fun _ _ _ q => q) (W := 0) (by decide) hml (Ls := #[rv xa, iv 58, iv 4]) rfl (rest := []) rfl rfl hby d13_1
  refine oWk.st (fun _ kt => st _ (zH X hx hby d13_4 rfl rfl ((if0 _ _).trans (feq (by decide)).1) (zA X hx hby d13_7 rfl rfl rfl kt))) ?_
  obtain ⟨T, X, e0, st⟩ := getF X hx hZ hown (host := "") (Or.inl (oW hw 36 rfl)) Via.refl e0 F_value_xa (g := (mkF m 8 #[rv xa, iv 58, iv 4] [(.ref xa)])) rfl rfl (hb hby d13_8)
  refine oWk.st (fun _ kt => st _ (zI X hx hby d13_11 rfl rfl (zI X hx hby d13_12 rfl rfl kt))) ?_
  obtain ⟨T, L4, X, e0, K, st⟩ := (cs9 hw).pure X hx hZ hown e0 K (A := [(.ref xb), (.int (58 : Int32)), (.int (4 : Int32))]) rfl (rLI_5_0 l Z a0 hw [] xb xk xc0 xc1 xc2 xc3 xc4 h0 Oh V_xb hu0 hu1 hu2 hu3 hu4) (fun _ _ _ q => q) (W := 0) (by decide) hml (Ls := #[rv xa, iv 58, iv 4]) rfl (rest := []) rfl rfl hby d13_13
  refine oWk.to (mkF m 28 #[rv xa, iv 58, iv 4] [(.int 0)]) (fun _ kt => st _ (zG X hx hby d13_16 rfl (pc' := 28) rfl kt)) ?_
  exact oRetI X hx hlk hret (hb hby d13_28) (by rw [e0]; exact ⟨rfl, rfl, K⟩) (by decide) (by decide)
def Q_rLK_5_0 (Z : State) (xa xb : Addr) (xk : ClassId) (xz xc0 xc1 xc2 xc3 xc4 : Int32) (h0 : Heap) (v : Option Value) (h : Heap) (L : List Loc) : Prop := v = some (.int (0 : Int32)) ∧ h = h0 ∧ oKp h0 h [] L
theorem rLK_5_0 (l : Launch) (Z : State) (a0 : Array Value) (hw : oHW a0 Z) (ws : List Jvm.Cond) (xa xb : Addr) (xk : ClassId) (xz xc0 xc1 xc2 xc3 xc4 : Int32) (h0 : Heap) (O0 : Ext Z.heap h0) (S_COMPACT_STRINGS : Sta Z Z.heap Y0 Y1 "Z" (.int xz)) (hz : ¬ xz = (0 : Int32)) (E_xa : Exa Z h0 xa Y0) (F_coder_xa : Fld Z h0 xa Y0 "coder" "B" (.int (0 : Int32))) (F_value_xa : Fld Z h0 xa Y0 "value" "[B" (.ref xb)) (V_xb : Arv Z h0 xb xk .byte (5 : Int32) [(ib xc0), (ib xc1), (ib xc2), (ib xc3), (ib xc4)] (.int (0 : Int32))) (hu0 : (xc0.toInt8.toInt32) = (58 : Int32)) (hu1 : ¬ (xc1.toInt8.toInt32) = (58 : Int32)) (hu2 : ¬ (xc2.toInt8.toInt32) = (58 : Int32)) (hu3 : ¬ (xc3.toInt8.toInt32) = (58 : Int32)) (hu4 : ¬ (xc4.toInt8.toInt32) = (58 : Int32)) :
    oCon l Z yy14 jdk_42_method_82_code 2 (some .int) ws ({ frames := 3, cells := 0, slots := 0, locals := 42 } : Room) #[(.ref xa), (.int (58 : Int32))] h0 (Q_rLK_5_0 Z xa xb xk xz xc0 xc1 xc2 xc3 xc4 h0) := by
  refine oCon.of (plainFor_of_name pn_3) ?_
  intro p e s m below meth c T X hx hby hml hown hnm hret hlk hZ e0
  have hml : c.maxLocals = 2 := hml
  have K : oKp h0 h0 [] [] := oKp.nil _ _
  refine oWk.cast (g' := (mkF m 0 #[rv xa, iv 58] [])) (by first | rfl | (simp [entryFrame, mkF, argsToLocals, Value.category]; done)) ?_
  refine oWk.st (fun _ kt => zA X hx hby d10_0 rfl rfl rfl (zI X hx hby d10_1 rfl rfl (zA X hx hby d10_2 rfl rfl rfl kt))) ?_
  have Oh := K.old O0 all0
  obtain ⟨T, L2, X, e0, K, st⟩ := (cs10 hw).pure X hx hZ hown e0 K (A := [(.ref xa)]) ⟨rfl, _, _, rfl, E_xa⟩ (rLn_5 l Z a0 hw [] xa xb xk xz xc0 xc1 xc2 xc3 xc4 h0 Oh S_COMPACT_STRINGS hz E_xa F_coder_xa F_value_xa V_xb) (fun _ _ _ q => q) (W := 2) (by decide) hml (Ls := #[rv xa, iv 58]) rfl (rest := [(.int (58 : Int32)), (.ref xa)]) rfl rfl hby d10_3
  refine oWk.st (fun _ kt => st _ (zK X hx hby d10_6 rfl (XS.isub X.here hx rfl (hb hby d10_7) rfl kt))) ?_
  obtain ⟨T, L4, X, e0, K, st⟩ := (cs11 hw).pure X hx hZ hown e0 K (A := [(.ref xa), (.int (58 : Int32)), (.int (4 : Int32))]) ⟨rfl, _, _, rfl, E_xa⟩ (rLJ_5_0 l Z a0 hw [] xa xb xk xz xc0 xc1 xc2 xc3 xc4 h0 Oh S_COMPACT_STRINGS hz E_xa F_coder_xa F_value_xa V_xb hu0 hu1 hu2 hu3 hu4) (fun _ _ _ q => q) (W := 0) (by decide) hml (Ls := #[rv xa, iv 58]) rfl (rest := []) rfl rfl hby d10_8
  refine oWk.to (mkF m 11 #[rv xa, iv 58] [(.int 0)]) (fun _ kt => st _ kt) ?_
  exact oRetI X hx hlk hret (hb hby d10_11) (by rw [e0]; exact ⟨rfl, rfl, K⟩) (by decide) (by decide)
def Q_rNS_5_0_0 (Z : State) (xb : Addr) (xk : ClassId) (xc0 xc1 xc2 xc3 xc4 : Int32) (h0 : Heap) (v : Option Value) (h : Heap) (L : List Loc) : Prop := ∃ (nr : Addr) (nb : Addr) (nk : ClassId), v = some (.ref nr) ∧ oKp h0 h [] L ∧ (Exa Z h nr Y0) ∧ (Fld Z h nr Y0 "coder" "B" (.int (0 : Int32))) ∧ (Fld Z h nr Y0 "value" "[B" (.ref nb)) ∧ (Arv Z h nb nk .byte (0 : Int32) [] (.int (0 : Int32)))
theorem rNS_5_0_0 (l : Launch) (Z : State) (a0 : Array Value) (hw : oHW a0 Z) (ws : List Jvm.Cond) (xb : Addr) (xk : ClassId) (xc0 xc1 xc2 xc3 xc4 : Int32) (h0 : Heap) (O0 : Ext Z.heap h0) (V_xb : Arv Z h0 xb xk .byte (5 : Int32) [(ib xc0), (ib xc1), (ib xc2), (ib xc3), (ib xc4)] (.int (0 : Int32))) :
    oConH l Z oEL yy17 jdk_43_method_47_code 3 (some (.object Y0)) ws ({ frames := 0, cells := 2, slots := 4, locals := 0 } : Room) #[(.ref xb), (.int (0 : Int32)), (.int (0 : Int32))] h0 [] (Q_rNS_5_0_0 Z xb xk xc0 xc1 xc2 xc3 xc4 h0) := by
  refine oConH.of (plainFor_of_name pn_0) ?_
  intro p e s m below meth c T vm X hx hby hml hown hnm hret hlk hZ e0 B hsf
  have hml : c.maxLocals = 3 := hml
  have K : oKp h0 h0 [] [] := oKp.nil _ _
  refine oWk.cast (g' := (mkF m 0 #[rv xb, iv 0, iv 0] [])) (by first | rfl | (simp [entryFrame, mkF, argsToLocals, Value.category]; done)) ?_
  refine oWk.st (fun _ kt => zI X hx hby d21_0 rfl rfl (zH X hx hby d21_1 rfl rfl ((if0 _ _).trans (teq (by decide)).2) kt)) ?_
  obtain ⟨lt1, T, h, lt1b, lt1k, X, e2, E1, hZ, hown, B, C, E_lt1, F_coder_lt1, F_value_lt1, V_lt1b, hne, st⟩ := oLdcR X hx hZ hown (oW hw 94 rfl) (oSA hw) e0 (oELw hw) (List.mem_of_getElem? (i := 0) rfl) B (vs := []) (z := 0) oTx0 (by decide) rfl (g := (mkF m 4 #[rv xb, iv 0, iv 0] [])) rfl (hb hby d21_4) (n := 0) (by decide) (by decide) (by decide) (by decide)
  have e0 := e2
  have K := K.ext E1
  refine oWk.to (mkF m 6 #[rv xb, iv 0, iv 0] [(.ref lt1)]) (fun _ kt => st _ kt) ?_
  exact oRetH X hx hlk hZ (oELw hw) e0 B hret (oNarR rfl rfl) (Or.inr (Or.inr (Or.inr (Or.inr ⟨rfl, rfl, rfl⟩)))) (hb hby d21_6) (by rw [e0]; exact ⟨lt1, lt1b, lt1k, rfl, K, E_lt1, F_coder_lt1, F_value_lt1, V_lt1b⟩) (by decide) (by decide)
def Q_rSub_5_0_0 (Z : State) (xa xb : Addr) (xk : ClassId) (xfm : Value) (xz xc0 xc1 xc2 xc3 xc4 : Int32) (h0 : Heap) (v : Option Value) (h : Heap) (L : List Loc) : Prop := ∃ (nr : Addr) (nb : Addr) (nk : ClassId), v = some (.ref nr) ∧ oKp h0 h [] L ∧ (Exa Z h nr Y0) ∧ (Fld Z h nr Y0 "coder" "B" (.int (0 : Int32))) ∧ (Fld Z h nr Y0 "value" "[B" (.ref nb)) ∧ (Arv Z h nb nk .byte (0 : Int32) [] (.int (0 : Int32)))
theorem rSub_5_0_0 (l : Launch) (Z : State) (a0 : Array Value) (hw : oHW a0 Z) (ws : List Jvm.Cond) (xa xb : Addr) (xk : ClassId) (xfm : Value) (xz xc0 xc1 xc2 xc3 xc4 : Int32) (h0 : Heap) (O0 : Ext Z.heap h0) (S_COMPACT_STRINGS : Sta Z Z.heap Y0 Y1 "Z" (.int xz)) (hz : ¬ xz = (0 : Int32)) (S_SIOOBE_FORMATTER : Sta Z Z.heap Y2 Y3 Y4 xfm) (hcat : xfm.category = 1) (E_xa : Exa Z h0 xa Y0) (F_coder_xa : Fld Z h0 xa Y0 "coder" "B" (.int (0 : Int32))) (F_value_xa : Fld Z h0 xa Y0 "value" "[B" (.ref xb)) (V_xb : Arv Z h0 xb xk .byte (5 : Int32) [(ib xc0), (ib xc1), (ib xc2), (ib xc3), (ib xc4)] (.int (0 : Int32))) :
    oConH l Z oEL yy18 jdk_42_method_92_code 5 (some (.object Y0)) ws ({ frames := 2, cells := 2, slots := 4, locals := 29 } : Room) #[(.ref xa), (.int (0 : Int32)), (.int (0 : Int32))] h0 [] (Q_rSub_5_0_0 Z xa xb xk xfm xz xc0 xc1 xc2 xc3 xc4 h0) := by
  refine oConH.of (plainFor_of_name pn_3) ?_
  intro p e s m below meth c T vm X hx hby hml hown hnm hret hlk hZ e0 B hsf
  have hml : c.maxLocals = 5 := hml
  have K : oKp h0 h0 [] [] := oKp.nil _ _
  refine oWk.cast (g' := (mkF m 0 #[rv xa, iv 0, iv 0, uu, uu] [])) (by first | rfl | (simp [entryFrame, mkF, argsToLocals, Value.category]; done)) ?_
  refine oWk.st (fun _ kt => zA X hx hby d18_0 rfl rfl rfl kt) ?_
  have Oh := K.old O0 all0
  obtain ⟨T, L2, X, e0, K, st⟩ := (cs10 hw).pure X hx hZ hown e0 K (A := [(.ref xa)]) ⟨rfl, _, _, rfl, E_xa⟩ (rLn_5 l Z a0 hw [] xa xb xk xz xc0 xc1 xc2 xc3 xc4 h0 Oh S_COMPACT_STRINGS hz E_xa F_coder_xa F_value_xa V_xb) (fun _ _ _ q => q) (W := 0) (by decide) hml (Ls := #[rv xa, iv 0, iv 0, uu, uu]) rfl (rest := []) rfl rfl hby d18_1
  refine oWk.st (fun _ kt => st _ (zSn X hx hby d18_4 rfl rfl (l' := #[rv xa, iv 0, iv 0, iv 5, uu]) rfl (zI X hx hby d18_5 rfl rfl (zI X hx hby d18_6 rfl rfl (zI X hx hby d18_7 rfl rfl kt))))) ?_
  obtain ⟨T, L4, X, e0, K, st⟩ := (cs13 hw).pure X hx hZ hown e0 K (A := [(.int (0 : Int32)), (.int (0 : Int32)), (.int (5 : Int32))]) rfl (rCkB l Z a0 hw [] (0 : Int32) (0 : Int32) (5 : Int32) xfm h0 Oh S_SIOOBE_FORMATTER hcat (by decide) (by decide) (by decide)) (fun _ _ _ q => q) (W := 0) (by decide) hml (Ls := #[rv xa, iv 0, iv 0, iv 5, uu]) rfl (rest := []) rfl rfl hby d18_8
  refine oWk.to (mkF m 23 #[rv xa, iv 0, iv 0, iv 5, uu] [(.int 0)]) (fun _ kt => st _ (zI X hx hby d18_11 rfl rfl (zH X hx hby d18_12 rfl rfl ((if0 _ _).trans (teq (by decide)).2) (zI X hx hby d18_15 rfl rfl (zI X hx hby d18_16 rfl rfl (zY X hx hby d18_17 rfl rfl (feq (by decide)).2 (pc' := 22) rfl (zI X hx hby d18_22 rfl rfl kt))))))) ?_
  refine oWk.st (fun _ kt => zI X hx hby d18_23 rfl rfl (XS.isub X.here hx rfl (hb hby d18_24) rfl (zS X hx hby d18_25 rfl rfl (l' := #[rv xa, iv 0, iv 0, iv 5, iv 0]) rfl (zA X hx hby d18_27 rfl rfl rfl kt)))) ?_
  obtain ⟨T, L6, X, e0, K, st⟩ := (cs8 hw).pure X hx hZ hown e0 K (A := [(.ref xa)]) ⟨rfl, _, _, rfl, E_xa⟩ (rIsL l Z a0 hw [] xa xz h0 Oh S_COMPACT_STRINGS hz F_coder_xa) (fun _ _ _ q => q) (W := 0) (by decide) hml (Ls := #[rv xa, iv 0, iv 0, iv 5, iv 0]) rfl (rest := []) rfl rfl hby d18_28
  refine oWk.st (fun _ kt => st _ (zH X hx hby d18_31 rfl rfl ((if0 _ _).trans (feq (by decide)).1) (zA X hx hby d18_34 rfl rfl rfl kt))) ?_
  obtain ⟨T, X, e0, st⟩ := getF X hx hZ hown (host := "") (Or.inl (oW hw 36 rfl)) Via.refl e0 F_value_xa (g := (mkF m 35 #[rv xa, iv 0, iv 0, iv 5, iv 0] [(.ref xa)])) rfl rfl (hb hby d18_35)
  refine oWk.st (fun _ kt => st _ (zI X hx hby d18_38 rfl rfl (zJ X hx hby d18_39 rfl rfl kt))) ?_
  obtain ⟨_, _, ⟨T, L8, k8, n8⟩, -, X, hS, hgr, ⟨Lc8, hQ, l8, y8, z8, C⟩, st⟩ := callSS X hx (y := yy17) hown (mvT hZ (oW hw 91 rfl)) (mvT hZ (oW hw 92 rfl)) (mvT hZ (oW hw 69 rfl)) (mvT hZ (oW hw 93 rfl)) (by decide) (oBackH (W := 0) (rNS_5_0_0 l Z a0 hw [] xb xk xc0 xc1 xc2 xc3 xc4 h0 Oh V_xb) hZ (oW hw 93 rfl) (oW hw 69 rfl) (by decide) (by decide) (oELw hw) B.2.1 all0) (g := (mkF m 41 #[rv xa, iv 0, iv 0, iv 5, iv 0] [(.int 0), (.int 0), (.ref xb)])) rfl (by rw [hml]; rfl) (argsL := [(.ref xb), (.int (0 : Int32)), (.int (0 : Int32))]) (rest := []) (lenOf pd_13 rfl) rfl (Nat.le_of_eq rfl) (hb hby d18_41) (fun _ _ => ⟨rfl, e0, (by decide : 0 + 2 ≤ _), (by decide : 0 + 4 ≤ _)⟩)
  dsimp only [Pt.U, Pt.locs, Pt.cells, Pt.slots] at X l8 y8 z8 st hQ C hS hgr
  subst l8 y8 z8
  have X : Stand p l e _ (s.setVm T.vm) m _ below meth c T _ _ _ := X
  obtain ⟨h, e2⟩ : ∃ z, T.heap = z := ⟨_, rfl⟩
  have B := B.call e0 hS hgr C e2
  obtain ⟨hZ, hown⟩ := oWide hZ hown hS
  rw [e2] at hQ C
  have e0 := e2
  obtain ⟨nr7, nb7, nk7, rfl, K7, E_nr7, F_coder_nr7, F_value_nr7, V_nb7⟩ := hQ
  have K := K.call K7 all0
  refine oWk.to (mkF m 57 #[rv xa, iv 0, iv 0, iv 5, iv 0] [(.ref nr7)]) (fun _ kt => st.trans (zG X hx hby d18_44 rfl (pc' := 57) rfl kt)) ?_
  exact oRetH X hx hlk hZ (oELw hw) e0 B hret (oNarR rfl rfl) (Or.inr (Or.inr (Or.inr (Or.inr ⟨rfl, rfl, rfl⟩)))) (hb hby d18_57) (by rw [e0]; exact ⟨nr7, nb7, nk7, rfl, K, E_nr7, F_coder_nr7, F_value_nr7, V_nb7⟩) (by decide) (by decide)
def Q_rSP_5_0 (Z : State) (xa xb : Addr) (xk : ClassId) (xfm : Value) (xz xc0 xc1 xc2 xc3 xc4 : Int32) (h0 : Heap) (v : Option Value) (h : Heap) (L : List Loc) : Prop := ∃ (nr : Addr) (nb : Addr) (nk : ClassId), v = some (.ref nr) ∧ oKp h0 h [] L ∧ (Exa Z h nr Y0) ∧ (Fld Z h nr Y0 "coder" "B" (.int (0 : Int32))) ∧ (Fld Z h nr Y0 "value" "[B" (.ref nb)) ∧ (Arv Z h nb nk .byte (0 : Int32) [] (.int (0 : Int32)))
theorem rSP_5_0 (l : Launch) (Z : State) (a0 : Array Value) (hw : oHW a0 Z) (ws : List Jvm.Cond) (xa xb : Addr) (xk : ClassId) (xfm : Value) (xz xc0 xc1 xc2 xc3 xc4 : Int32) (h0 : Heap) (O0 : Ext Z.heap h0) (S_COMPACT_STRINGS : Sta Z Z.heap Y0 Y1 "Z" (.int xz)) (hz : ¬ xz = (0 : Int32)) (S_SIOOBE_FORMATTER : Sta Z Z.heap Y2 Y3 Y4 xfm) (hcat : xfm.category = 1) (E_xa : Exa Z h0 xa Y0) (F_coder_xa : Fld Z h0 xa Y0 "coder" "B" (.int (0 : Int32))) (F_value_xa : Fld Z h0 xa Y0 "value" "[B" (.ref xb)) (V_xb : Arv Z h0 xb xk .byte (5 : Int32) [(ib xc0), (ib xc1), (ib xc2), (ib xc3), (ib xc4)] (.int (0 : Int32))) (hu0 : (xc0.toInt8.toInt32) = (58 : Int32)) (hu1 : ¬ (xc1.toInt8.toInt32) = (58 : Int32)) (hu2 : ¬ (xc2.toInt8.toInt32) = (58 : Int32)) (hu3 : ¬ (xc3.toInt8.toInt32) = (58 : Int32)) (hu4 : ¬ (xc4.toInt8.toInt32) = (58 : Int32)) :
    oConH l Z oEL yy19 prog_3_method_2_code 1 (some (.object Y0)) ws ({ frames := 4, cells := 2, slots := 4, locals := 57 } : Room) #[(.ref xa)] h0 [] (Q_rSP_5_0 Z xa xb xk xfm xz xc0 xc1 xc2 xc3 xc4 h0) := by
  refine oConH.of (plainFor_of_name pn_5) ?_
  intro p e s m below meth c T vm X hx hby hml hown hnm hret hlk hZ e0 B hsf
  have hml : c.maxLocals = 1 := hml
  have K : oKp h0 h0 [] [] := oKp.nil _ _
  refine oWk.cast (g' := (mkF m 0 #[rv xa] [])) (by first | rfl | (simp [entryFrame, mkF, argsToLocals, Value.category]; done)) ?_
  refine oWk.st (fun _ kt => zA X hx hby d9_0 rfl rfl rfl (zK X hx hby d9_1 rfl (zA X hx hby d9_2 rfl rfl rfl (zL X hx hby d9_3 rfl kt)))) ?_
  have Oh := K.old O0 all0
  obtain ⟨T, L2, X, e0, K, st⟩ := (cs14 hw).pure X hx hZ hown e0 K (A := [(.ref xa), (.int (58 : Int32))]) ⟨rfl, _, _, rfl, E_xa⟩ (rLK_5_0 l Z a0 hw [] xa xb xk xz xc0 xc1 xc2 xc3 xc4 h0 Oh S_COMPACT_STRINGS hz E_xa F_coder_xa F_value_xa V_xb hu0 hu1 hu2 hu3 hu4) (fun _ _ _ q => q) (W := 2) (by decide) hml (Ls := #[rv xa]) rfl (rest := [(.int (0 : Int32)), (.ref xa)]) rfl rfl hby d9_5
  refine oWk.st (fun _ kt => st _ kt) ?_
  obtain ⟨cq4, kq4, q4a, q4b, q4c⟩ := isOf hZ e0 E_xa
  obtain ⟨_, _, ⟨T, L4, k4, n4⟩, -, X, hS, hgr, ⟨Lc4, hQ, l4, y4, z4, C⟩, st⟩ := X.virtualBackS hx (y := yy18) (z := yy18) hown (mvT hZ (oW hw 78 rfl)) (mvT hZ (oW hw 79 rfl)) (notFace_of_selects (args := #[]) (mvT hZ (oW hw 81 rfl))) (mvT hZ (oW hw 81 rfl)) (mvT hZ (oW hw 80 rfl)) (by decide) (oBackH (W := 0) (rSub_5_0_0 l Z a0 hw [] xa xb xk xfm xz xc0 xc1 xc2 xc3 xc4 h0 Oh S_COMPACT_STRINGS hz S_SIOOBE_FORMATTER hcat E_xa F_coder_xa F_value_xa V_xb) hZ (oW hw 82 rfl) (oW hw 11 rfl) (by decide) (by decide) (oELw hw) B.2.1 all0) q4a q4c (g := (mkF m 8 #[rv xa] [(.int 0), (.int 0), (.ref xa)])) rfl (by rw [hml]; rfl) (Steps.refl _) (argsL := [(.int (0 : Int32)), (.int (0 : Int32))]) (rest := []) (lenOf pd_15 rfl) rfl (Nat.le_of_eq rfl) (hb hby d9_8) (fun _ _ => ⟨rfl, e0, (by decide : 0 + 2 ≤ _), (by decide : 0 + 4 ≤ _)⟩)
  dsimp only [Pt.U, Pt.locs, Pt.cells, Pt.slots] at X l4 y4 z4 st hQ C hS hgr
  subst l4 y4 z4
  have X : Stand p l e _ (s.setVm T.vm) m _ below meth c T _ _ _ := X
  obtain ⟨h, e2⟩ : ∃ z, T.heap = z := ⟨_, rfl⟩
  have B := B.call e0 hS hgr C e2
  obtain ⟨hZ, hown⟩ := oWide hZ hown hS
  rw [e2] at hQ C
  have e0 := e2
  obtain ⟨nr3, nb3, nk3, rfl, K3, E_nr3, F_coder_nr3, F_value_nr3, V_nb3⟩ := hQ
  have K := K.call K3 all0
  refine oWk.to (mkF m 11 #[rv xa] [(.ref nr3)]) (fun _ kt => st.trans kt) ?_
  exact oRetH X hx hlk hZ (oELw hw) e0 B hret (oNarR rfl rfl) (Or.inr (Or.inr (Or.inr (Or.inr ⟨rfl, rfl, rfl⟩)))) (hb hby d9_11) (by rw [e0]; exact ⟨nr3, nb3, nk3, rfl, K, E_nr3, F_coder_nr3, F_value_nr3, V_nb3⟩) (by decide) (by decide)
def Q_rLI_5_1 (Z : State) (xb : Addr) (xk : ClassId) (xc0 xc1 xc2 xc3 xc4 : Int32) (h0 : Heap) (v : Option Value) (h : Heap) (L : List Loc) : Prop := v = some (.int (1 : Int32)) ∧ h = h0 ∧ oKp h0 h [] L
theorem rLI_5_1 (l : Launch) (Z : State) (a0 : Array Value) (hw : oHW a0 Z) (ws : List Jvm.Cond) (xb : Addr) (xk : ClassId) (xc0 xc1 xc2 xc3 xc4 : Int32) (h0 : Heap) (O0 : Ext Z.heap h0) (V_xb : Arv Z h0 xb xk .byte (5 : Int32) [(ib xc0), (ib xc1), (ib xc2), (ib xc3), (ib xc4)] (.int (0 : Int32))) (hu1 : (xc1.toInt8.toInt32) = (58 : Int32)) (hu2 : ¬ (xc2.toInt8.toInt32) = (58 : Int32)) (hu3 : ¬ (xc3.toInt8.toInt32) = (58 : Int32)) (hu4 : ¬ (xc4.toInt8.toInt32) = (58 : Int32)) :
    oCon l Z yy9 jdk_43_method_27_code 4 (some .int) ws ({ frames := 1, cells := 0, slots := 0, locals := 13 } : Room) #[(.ref xb), (.int (58 : Int32)), (.int (4 : Int32))] h0 (Q_rLI_5_1 Z xb xk xc0 xc1 xc2 xc3 xc4 h0) := by
  refine oCon.of (plainFor_of_name pn_0) ?_
  intro p e s m below meth c T X hx hby hml hown hnm hret hlk hZ e0
  have hml : c.maxLocals = 4 := hml
  have K : oKp h0 h0 [] [] := oKp.nil _ _
  refine oWk.cast (g' := (mkF m 0 #[rv xb, iv 58, iv 4, uu] [])) (by first | rfl | (simp [entryFrame, mkF, argsToLocals, Value.category]; done)) ?_
  refine oWk.st (fun _ kt => zI X hx hby d15_0 rfl rfl kt) ?_
  have Oh := K.old O0 all0
  obtain ⟨T, L2, X, e0, K, st⟩ := (cs5 hw).pure X hx hZ hown e0 K (A := [(.int (58 : Int32))]) rfl (rCanI l Z a0 hw []  h0 Oh ) (fun _ _ _ q => q) (W := 0) (by decide) hml (Ls := #[rv xb, iv 58, iv 4, uu]) rfl (rest := []) rfl rfl hby d15_1
  refine oWk.to (mkF m 14 #[rv xb, iv 58, iv 4, uu] [(.int 4), (.int 4)]) (fun _ kt => st _ (zF X hx hby d15_4 rfl rfl ((if0 _ _).trans (feq (by decide)).2) (pc' := 9) rfl (zI X hx hby d15_9 rfl rfl (zA X hx hby d15_10 rfl rfl rfl (oAl X hx hZ e0 V_xb hby d15_11 rfl rfl (zK X hx hby d15_12 rfl (XS.isub X.here hx rfl (hb hby d15_13) rfl kt))))))) ?_
  obtain ⟨T, L5, X, e0, K, st⟩ := (cs6 hw).pure X hx hZ hown e0 K (A := [(.int (4 : Int32)), (.int (4 : Int32))]) rfl (rMin_4_4 l Z a0 hw []  h0 Oh ) (fun _ _ _ q => q) (W := 0) (by decide) hml (Ls := #[rv xb, iv 58, iv 4, uu]) rfl (rest := []) rfl rfl hby d15_14
  refine oWk.to (mkF m 25 #[rv xb, iv 58, iv 4, iv 4] [(ib xc4)]) (fun _ kt => st _ (zSn X hx hby d15_17 rfl rfl (l' := #[rv xb, iv 58, iv 4, iv 4]) rfl (zI X hx hby d15_18 rfl rfl (zH X hx hby d15_19 rfl rfl ((if0 _ _).trans (flt (by decide)).1) (zA X hx hby d15_22 rfl rfl rfl (zI X hx hby d15_23 rfl rfl (oLdB X hx hZ e0 V_xb (4 : Int32) (ib xc4) ⟨by decide, by decide⟩ rfl hby d15_24 rfl rfl kt))))))) ?_
  refine oWk.to (mkF m 27 #[rv xb, iv 58, iv 4, iv 4] [(.int 58), (ib xc4)]) (fun _ kt => zI X hx hby d15_25 rfl rfl (XS.i2b X.here hx rfl (hb hby d15_26) rfl kt)) ?_
  refine oWk.to (mkF m 24 #[rv xb, iv 58, iv 4, iv 3] [(.int 3), (.ref xb)]) (fun _ kt => zY X hx hby d15_27 rfl rfl (feq hu4).2 (pc' := 32) rfl (zC X hx hby d15_32 rfl rfl (l' := #[rv xb, iv 58, iv 4, iv ((4 : Int32) + (-1 : Int32))]) rfl (zG X hx hby d15_35 rfl (pc' := 18) rfl (zI X hx hby d15_18 rfl rfl (zH X hx hby d15_19 rfl rfl ((if0 _ _).trans (flt (by decide)).1) (zA X hx hby d15_22 rfl rfl rfl (zI X hx hby d15_23 rfl rfl kt))))))) ?_
  refine oWk.to (mkF m 27 #[rv xb, iv 58, iv 4, iv 3] [(.int 58), (ib xc3)]) (fun _ kt => oLdB X hx hZ e0 V_xb (3 : Int32) (ib xc3) ⟨by decide, by decide⟩ rfl hby d15_24 rfl rfl (zI X hx hby d15_25 rfl rfl (XS.i2b X.here hx rfl (hb hby d15_26) rfl kt))) ?_
  refine oWk.to (mkF m 24 #[rv xb, iv 58, iv 4, iv 2] [(.int 2), (.ref xb)]) (fun _ kt => zY X hx hby d15_27 rfl rfl (feq hu3).2 (pc' := 32) rfl (zC X hx hby d15_32 rfl rfl (l' := #[rv xb, iv 58, iv 4, iv ((3 : Int32) + (-1 : Int32))]) rfl (zG X hx hby d15_35 rfl (pc' := 18) rfl (zI X hx hby d15_18 rfl rfl (zH X hx hby d15_19 rfl rfl ((if0 _ _).trans (flt (by decide)).1) (zA X hx hby d15_22 rfl rfl rfl (zI X hx hby d15_23 rfl rfl kt))))))) ?_
  refine oWk.to (mkF m 27 #[rv xb, iv 58, iv 4, iv 2] [(.int 58), (ib xc2)]) (fun _ kt => oLdB X hx hZ e0 V_xb (2 : Int32) (ib xc2) ⟨by decide, by decide⟩ rfl hby d15_24 rfl rfl (zI X hx hby d15_25 rfl rfl (XS.i2b X.here hx rfl (hb hby d15_26) rfl kt))) ?_
  refine oWk.to (mkF m 24 #[rv xb, iv 58, iv 4, iv 1] [(.int 1), (.ref xb)]) (fun _ kt => zY X hx hby d15_27 rfl rfl (feq hu2).2 (pc' := 32) rfl (zC X hx hby d15_32 rfl rfl (l' := #[rv xb, iv 58, iv 4, iv ((2 : Int32) + (-1 : Int32))]) rfl (zG X hx hby d15_35 rfl (pc' := 18) rfl (zI X hx hby d15_18 rfl rfl (zH X hx hby d15_19 rfl rfl ((if0 _ _).trans (flt (by decide)).1) (zA X hx hby d15_22 rfl rfl rfl (zI X hx hby d15_23 rfl rfl kt))))))) ?_
  refine oWk.to (mkF m 27 #[rv xb, iv 58, iv 4, iv 1] [(.int 58), (ib xc1)]) (fun _ kt => oLdB X hx hZ e0 V_xb (1 : Int32) (ib xc1) ⟨by decide, by decide⟩ rfl hby d15_24 rfl rfl (zI X hx hby d15_25 rfl rfl (XS.i2b X.here hx rfl (hb hby d15_26) rfl kt))) ?_
  refine oWk.to (mkF m 31 #[rv xb, iv 58, iv 4, iv 1] [(.int 1)]) (fun _ kt => zN X hx hby d15_27 rfl rfl (teq hu1).2 (zI X hx hby d15_30 rfl rfl kt)) ?_
  exact oRetI X hx hlk hret (hb hby d15_31) (by rw [e0]; exact ⟨rfl, rfl, K⟩) (by decide) (by decide)
def Q_rLJ_5_1 (Z : State) (xa xb : Addr) (xk : ClassId) (xz xc0 xc1 xc2 xc3 xc4 : Int32) (h0 : Heap) (v : Option Value) (h : Heap) (L : List Loc) : Prop := v = some (.int (1 : Int32)) ∧ h = h0 ∧ oKp h0 h [] L
theorem rLJ_5_1 (l : Launch) (Z : State) (a0 : Array Value) (hw : oHW a0 Z) (ws : List Jvm.Cond) (xa xb : Addr) (xk : ClassId) (xz xc0 xc1 xc2 xc3 xc4 : Int32) (h0 : Heap) (O0 : Ext Z.heap h0) (S_COMPACT_STRINGS : Sta Z Z.heap Y0 Y1 "Z" (.int xz)) (hz : ¬ xz = (0 : Int32)) (E_xa : Exa Z h0 xa Y0) (F_coder_xa : Fld Z h0 xa Y0 "coder" "B" (.int (0 : Int32))) (F_value_xa : Fld Z h0 xa Y0 "value" "[B" (.ref xb)) (V_xb : Arv Z h0 xb xk .byte (5 : Int32) [(ib xc0), (ib xc1), (ib xc2), (ib xc3), (ib xc4)] (.int (0 : Int32))) (hu1 : (xc1.toInt8.toInt32) = (58 : Int32)) (hu2 : ¬ (xc2.toInt8.toInt32) = (58 : Int32)) (hu3 : ¬ (xc3.toInt8.toInt32) = (58 : Int32)) (hu4 : ¬ (xc4.toInt8.toInt32) = (58 : Int32)) :
    oCon l Z yy13 jdk_42_method_83_code 3 (some .int) ws ({ frames := 2, cells := 0, slots := 0, locals := 28 } : Room) #[(.ref xa), (.int (58 : Int32)), (.int (4 : Int32))] h0 (Q_rLJ_5_1 Z xa xb xk xz xc0 xc1 xc2 xc3 xc4 h0) := by
  refine oCon.of (plainFor_of_name pn_3) ?_
  intro p e s m below meth c T X hx hby hml hown hnm hret hlk hZ e0
  have hml : c.maxLocals = 3 := hml
  have K : oKp h0 h0 [] [] := oKp.nil _ _
  refine oWk.cast (g' := (mkF m 0 #[rv xa, iv 58, iv 4] [])) (by first | rfl | (simp [entryFrame, mkF, argsToLocals, Value.category]; done)) ?_
  refine oWk.st (fun _ kt => zA X hx hby d13_0 rfl rfl rfl kt) ?_
  have Oh := K.old O0 all0
  obtain ⟨T, L2, X, e0, K, st⟩ := (cs8 hw).pure X hx hZ hown e0 K (A := [(.ref xa)]) ⟨rfl, _, _, rfl, E_xa⟩ (rIsL l Z a0 hw [] xa xz h0 Oh S_COMPACT_STRINGS hz F_coder_xa) (fun _ _ _ q => q) (W := 0) (by decide) hml (Ls := #[rv xa, iv 58, iv 4]) rfl (rest := []) rfl rfl hby d13_1
  refine oWk.st (fun _ kt => st _ (zH X hx hby d13_4 rfl rfl ((if0 _ _).trans (feq (by decide)).1) (zA X hx hby d13_7 rfl rfl rfl kt))) ?_
  obtain ⟨T, X, e0, st⟩ := getF X hx hZ hown (host := "") (Or.inl (oW hw 36 rfl)) Via.refl e0 F_value_xa (g := (mkF m 8 #[rv xa, iv 58, iv 4] [(.ref xa)])) rfl rfl (hb hby d13_8)
  refine oWk.st (fun _ kt => st _ (zI X hx hby d13_11 rfl rfl (zI X hx hby d13_12 rfl rfl kt))) ?_
  obtain ⟨T, L4, X, e0, K, st⟩ := (cs9 hw).pure X hx hZ hown e0 K (A := [(.ref xb), (.int (58 : Int32)), (.int (4 : Int32))]) rfl (rLI_5_1 l Z a0 hw [] xb xk xc0 xc1 xc2 xc3 xc4 h0 Oh V_xb hu1 hu2 hu3 hu4) (fun _ _ _ q => q) (W := 0) (by decide) hml (Ls := #[rv xa, iv 58, iv 4]) rfl (rest := []) rfl rfl hby d13_13
  refine oWk.to (mkF m 28 #[rv xa, iv 58, iv 4] [(.int 1)]) (fun _ kt => st _ (zG X hx hby d13_16 rfl (pc' := 28) rfl kt)) ?_
  exact oRetI X hx hlk hret (hb hby d13_28) (by rw [e0]; exact ⟨rfl, rfl, K⟩) (by decide) (by decide)
def Q_rLK_5_1 (Z : State) (xa xb : Addr) (xk : ClassId) (xz xc0 xc1 xc2 xc3 xc4 : Int32) (h0 : Heap) (v : Option Value) (h : Heap) (L : List Loc) : Prop := v = some (.int (1 : Int32)) ∧ h = h0 ∧ oKp h0 h [] L
theorem rLK_5_1 (l : Launch) (Z : State) (a0 : Array Value) (hw : oHW a0 Z) (ws : List Jvm.Cond) (xa xb : Addr) (xk : ClassId) (xz xc0 xc1 xc2 xc3 xc4 : Int32) (h0 : Heap) (O0 : Ext Z.heap h0) (S_COMPACT_STRINGS : Sta Z Z.heap Y0 Y1 "Z" (.int xz)) (hz : ¬ xz = (0 : Int32)) (E_xa : Exa Z h0 xa Y0) (F_coder_xa : Fld Z h0 xa Y0 "coder" "B" (.int (0 : Int32))) (F_value_xa : Fld Z h0 xa Y0 "value" "[B" (.ref xb)) (V_xb : Arv Z h0 xb xk .byte (5 : Int32) [(ib xc0), (ib xc1), (ib xc2), (ib xc3), (ib xc4)] (.int (0 : Int32))) (hu1 : (xc1.toInt8.toInt32) = (58 : Int32)) (hu2 : ¬ (xc2.toInt8.toInt32) = (58 : Int32)) (hu3 : ¬ (xc3.toInt8.toInt32) = (58 : Int32)) (hu4 : ¬ (xc4.toInt8.toInt32) = (58 : Int32)) :
    oCon l Z yy14 jdk_42_method_82_code 2 (some .int) ws ({ frames := 3, cells := 0, slots := 0, locals := 42 } : Room) #[(.ref xa), (.int (58 : Int32))] h0 (Q_rLK_5_1 Z xa xb xk xz xc0 xc1 xc2 xc3 xc4 h0) := by
  refine oCon.of (plainFor_of_name pn_3) ?_
  intro p e s m below meth c T X hx hby hml hown hnm hret hlk hZ e0
  have hml : c.maxLocals = 2 := hml
  have K : oKp h0 h0 [] [] := oKp.nil _ _
  refine oWk.cast (g' := (mkF m 0 #[rv xa, iv 58] [])) (by first | rfl | (simp [entryFrame, mkF, argsToLocals, Value.category]; done)) ?_
  refine oWk.st (fun _ kt => zA X hx hby d10_0 rfl rfl rfl (zI X hx hby d10_1 rfl rfl (zA X hx hby d10_2 rfl rfl rfl kt))) ?_
  have Oh := K.old O0 all0
  obtain ⟨T, L2, X, e0, K, st⟩ := (cs10 hw).pure X hx hZ hown e0 K (A := [(.ref xa)]) ⟨rfl, _, _, rfl, E_xa⟩ (rLn_5 l Z a0 hw [] xa xb xk xz xc0 xc1 xc2 xc3 xc4 h0 Oh S_COMPACT_STRINGS hz E_xa F_coder_xa F_value_xa V_xb) (fun _ _ _ q => q) (W := 2) (by decide) hml (Ls := #[rv xa, iv 58]) rfl (rest := [(.int (58 : Int32)), (.ref xa)]) rfl rfl hby d10_3
  refine oWk.st (fun _ kt => st _ (zK X hx hby d10_6 rfl (XS.isub X.here hx rfl (hb hby d10_7) rfl kt))) ?_
  obtain ⟨T, L4, X, e0, K, st⟩ := (cs11 hw).pure X hx hZ hown e0 K (A := [(.ref xa), (.int (58 : Int32)), (.int (4 : Int32))]) ⟨rfl, _, _, rfl, E_xa⟩ (rLJ_5_1 l Z a0 hw [] xa xb xk xz xc0 xc1 xc2 xc3 xc4 h0 Oh S_COMPACT_STRINGS hz E_xa F_coder_xa F_value_xa V_xb hu1 hu2 hu3 hu4) (fun _ _ _ q => q) (W := 0) (by decide) hml (Ls := #[rv xa, iv 58]) rfl (rest := []) rfl rfl hby d10_8
  refine oWk.to (mkF m 11 #[rv xa, iv 58] [(.int 1)]) (fun _ kt => st _ kt) ?_
  exact oRetI X hx hlk hret (hb hby d10_11) (by rw [e0]; exact ⟨rfl, rfl, K⟩) (by decide) (by decide)
def Q_rMin_5_1 (Z : State)  (h0 : Heap) (v : Option Value) (h : Heap) (L : List Loc) : Prop := v = some (.int (1 : Int32)) ∧ h = h0 ∧ oKp h0 h [] L
theorem rMin_5_1 (l : Launch) (Z : State) (a0 : Array Value) (hw : oHW a0 Z) (ws : List Jvm.Cond)  (h0 : Heap) (O0 : Ext Z.heap h0)  :
    oCon l Z yy8 jdk_29_method_69_code 2 (some .int) ws ({ frames := 0, cells := 0, slots := 0, locals := 0 } : Room) #[(.int (5 : Int32)), (.int (1 : Int32))] h0 (Q_rMin_5_1 Z  h0) := by
  refine oCon.of (Jvm.Free.JP.mathPlain rfl (by decide +kernel)) ?_
  intro p e s m below meth c T X hx hby hml hown hnm hret hlk hZ e0
  have hml : c.maxLocals = 2 := hml
  have K : oKp h0 h0 [] [] := oKp.nil _ _
  refine oWk.cast (g' := (mkF m 0 #[iv 5, iv 1] [])) (by first | rfl | (simp [entryFrame, mkF, argsToLocals, Value.category]; done)) ?_
  refine oWk.to (mkF m 10 #[iv 5, iv 1] [(.int 1)]) (fun _ kt => zI X hx hby d17_0 rfl rfl (zI X hx hby d17_1 rfl rfl (zY X hx hby d17_2 rfl rfl (tlt (by decide)).2.2.1 (pc' := 9) rfl (zI X hx hby d17_9 rfl rfl kt)))) ?_
  exact oRetI X hx hlk hret (hb hby d17_10) (by rw [e0]; exact ⟨rfl, rfl, K⟩) (by decide) (by decide)
def Q_rCRB_5_0_1 (Z : State) (xb : Addr) (xk : ClassId) (xc0 xc1 xc2 xc3 xc4 : Int32) (h0 : Heap) (v : Option Value) (h : Heap) (L : List Loc) : Prop := ∃ (nb : Addr) (nk : ClassId), v = some (.ref nb) ∧ oKp h0 h [] L ∧ (h0.size ≤ nb) ∧ (Arv Z h nb nk .byte (1 : Int32) [(ib xc0)] (.int (0 : Int32)))
theorem rCRB_5_0_1 (l : Launch) (Z : State) (a0 : Array Value) (hw : oHW a0 Z) (ws : List Jvm.Cond) (xb : Addr) (xk : ClassId) (xc0 xc1 xc2 xc3 xc4 : Int32) (h0 : Heap) (O0 : Ext Z.heap h0) (V_xb : Arv Z h0 xb xk .byte (5 : Int32) [(ib xc0), (ib xc1), (ib xc2), (ib xc3), (ib xc4)] (.int (0 : Int32))) :
    oCon l Z yy21 jdk_65_method_133_code 5 (some (.array .byte)) ws ({ frames := 1, cells := 1, slots := 1, locals := 18 } : Room) #[(.ref xb), (.int (0 : Int32)), (.int (1 : Int32))] h0 (Q_rCRB_5_0_1 Z xb xk xc0 xc1 xc2 xc3 xc4 h0) := by
  refine oCon.of (plainFor_of_name pn_6) ?_
  intro p e s m below meth c T X hx hby hml hown hnm hret hlk hZ e0
  have hml : c.maxLocals = 5 := hml
  have K : oKp h0 h0 [] [] := oKp.nil _ _
  refine oWk.cast (g' := (mkF m 0 #[rv xb, iv 0, iv 1, uu, uu] [])) (by first | rfl | (simp [entryFrame, mkF, argsToLocals, Value.category]; done)) ?_
  refine oWk.st (fun _ kt => zI X hx hby d23_0 rfl rfl (zI X hx hby d23_1 rfl rfl kt)) ?_
  have Oh := K.old O0 all0
  obtain ⟨T, L2, X, e0, K, st⟩ := (cs15 hw).pure X hx hZ hown e0 K (A := [(.int (0 : Int32)), (.int (1 : Int32))]) rfl (rCkL_0_1 l Z a0 hw []  h0 Oh ) (fun _ _ _ q => q) (W := 0) (by decide) hml (Ls := #[rv xb, iv 0, iv 1, uu, uu]) rfl (rest := []) rfl rfl hby d23_2
  refine oWk.st (fun _ kt => st _ (zI X hx hby d23_5 rfl rfl (zI X hx hby d23_6 rfl rfl (XS.isub X.here hx rfl (hb hby d23_7) rfl (zSn X hx hby d23_8 rfl rfl (l' := #[rv xb, iv 0, iv 1, iv 1, uu]) rfl (zI X hx hby d23_9 rfl rfl kt)))))) ?_
  obtain ⟨o3, g3⟩ : ∃ z, z = h0.size := ⟨_, rfl⟩
  have ne_xb_o3 : xb ≠ o3 := Nat.ne_of_lt (Nat.lt_of_lt_of_le V_xb.lt (Nat.le_of_eq g3.symm))
  have ge_o3 : h0.size ≤ o3 := Nat.le_trans K.le (Nat.le_of_eq g3.symm)
  obtain ⟨T, h, k3, X, e0, E3, A3, st⟩ := newP X hx hZ (oW hw 27 rfl) e0 (g := (mkF m 10 #[rv xb, iv 0, iv 1, iv 1, uu] [(.int 1)])) rfl (hb hby d23_10) rfl (by decide) (cap := 1) (by decide) (by decide) (by decide) (by decide)
  rw [← g3] at A3 st
  have K := K.ext E3
  have V_o3 : Arv Z h o3 k3 .byte (1 : Int32) [(.int (0 : Int32))] (.int (0 : Int32)) := (Arv.new A3 (by decide)).pad (pad_rep [] (.int (0 : Int32)) 1)
  refine oWk.to (mkF m 20 #[rv xb, iv 0, iv 1, iv 1, rv o3] [(.ref xb), (.int 0), (.ref o3), (.int 0), (.ref xb)]) (fun _ kt => st _ (zT X hx hby d23_12 rfl rfl rfl (l' := #[rv xb, iv 0, iv 1, iv 1, rv o3]) rfl (zA X hx hby d23_14 rfl rfl rfl (zI X hx hby d23_15 rfl rfl (zB X hx hby d23_16 rfl rfl rfl (zK X hx hby d23_18 rfl (zA X hx hby d23_19 rfl rfl rfl kt))))))) ?_
  have V_xb := (V_xb.ext E3)
  refine oWk.st (fun _ kt => oAl X hx hZ e0 V_xb hby d23_20 rfl rfl (zI X hx hby d23_21 rfl rfl (XS.isub X.here hx rfl (hb hby d23_22) rfl (zI X hx hby d23_23 rfl rfl kt)))) ?_
  have Oh := K.old O0 all0
  obtain ⟨T, L6, X, e0, K, st⟩ := (cs16 hw).pure X hx hZ hown e0 K (A := [(.int (5 : Int32)), (.int (1 : Int32))]) rfl (rMin_5_1 l Z a0 hw []  h Oh ) (fun _ _ _ q => q) (W := 4) (by decide) hml (Ls := #[rv xb, iv 0, iv 1, iv 1, rv o3]) rfl (rest := [(.int (0 : Int32)), (.ref o3), (.int (0 : Int32)), (.ref xb)]) rfl rfl hby d23_24
  refine oWk.st (fun _ kt => st _ kt) ?_
  obtain ⟨T, h, L7, X, e0, N7, C7, V7, st⟩ := cpA X hx hZ hown (oW hw 110 rfl) (oW hw 113 rfl) (oW hw 111 rfl) (oW hw 112 rfl) e0 (us := [(ib xc0)]) V_xb V_o3 (Or.inl ⟨rfl, rfl⟩) (by decide) (by decide) (by decide) (by decide) (by decide) rfl (by decide) K.fr ge_o3 (g := (mkF m 27 #[rv xb, iv 0, iv 1, iv 1, rv o3] [(.int 1), (.int 0), (.ref o3), (.int 0), (.ref xb)])) rfl (by rw [hml]; rfl) rfl (hb hby d23_27) (by decide) (W := 0) (Nat.le_of_eq rfl) (by decide)
  have K : oKp h0 h [] L7 := ⟨K.1.trans C7 (allS (Or.inr ge_o3) all0), fun y hy => Or.inr (N7 y hy)⟩
  have V_o3 : Arv Z h o3 k3 .byte (1 : Int32) [(ib xc0)] (.int (0 : Int32)) := V7
  refine oWk.to (mkF m 32 #[rv xb, iv 0, iv 1, iv 1, rv o3] [(.ref o3)]) (fun _ kt => st _ (zB X hx hby d23_30 rfl rfl rfl kt)) ?_
  exact oRetA X hx hlk hret rfl rfl (hb hby d23_32) (by rw [e0]; exact ⟨o3, k3, rfl, K, ge_o3, V_o3⟩) (by decide) (by decide)
def Q_rCR_5_0_1 (Z : State) (xb : Addr) (xk : ClassId) (xc0 xc1 xc2 xc3 xc4 : Int32) (h0 : Heap) (v : Option Value) (h : Heap) (L : List Loc) : Prop := ∃ (nb : Addr) (nk : ClassId), v = some (.ref nb) ∧ oKp h0 h [] L ∧ (h0.size ≤ nb) ∧ (Arv Z h nb nk .byte (1 : Int32) [(ib xc0)] (.int (0 : Int32)))
theorem rCR_5_0_1 (l : Launch) (Z : State) (a0 : Array Value) (hw : oHW a0 Z) (ws : List Jvm.Cond) (xb : Addr) (xk : ClassId) (xc0 xc1 xc2 xc3 xc4 : Int32) (h0 : Heap) (O0 : Ext Z.heap h0) (V_xb : Arv Z h0 xb xk .byte (5 : Int32) [(ib xc0), (ib xc1), (ib xc2), (ib xc3), (ib xc4)] (.int (0 : Int32))) :
    oCon l Z yy22 jdk_65_method_132_code 3 (some (.array .byte)) ws ({ frames := 2, cells := 1, slots := 1, locals := 34 } : Room) #[(.ref xb), (.int (0 : Int32)), (.int (1 : Int32))] h0 (Q_rCR_5_0_1 Z xb xk xc0 xc1 xc2 xc3 xc4 h0) := by
  refine oCon.of (plainFor_of_name pn_6) ?_
  intro p e s m below meth c T X hx hby hml hown hnm hret hlk hZ e0
  have hml : c.maxLocals = 3 := hml
  have K : oKp h0 h0 [] [] := oKp.nil _ _
  refine oWk.cast (g' := (mkF m 0 #[rv xb, iv 0, iv 1] [])) (by first | rfl | (simp [entryFrame, mkF, argsToLocals, Value.category]; done)) ?_
  refine oWk.to (mkF m 11 #[rv xb, iv 0, iv 1] [(.ref xb)]) (fun _ kt => zI X hx hby d22_0 rfl rfl (zH X hx hby d22_1 rfl rfl ((if0 _ _).trans (teq (by decide)).2) (zI X hx hby d22_4 rfl rfl (zA X hx hby d22_5 rfl rfl rfl (oAl X hx hZ e0 V_xb hby d22_6 rfl rfl (zN X hx hby d22_7 rfl rfl (feq (by decide)).1 (zA X hx hby d22_10 rfl rfl rfl kt))))))) ?_
  refine oWk.st (fun _ kt => zI X hx hby d22_11 rfl rfl (zI X hx hby d22_12 rfl rfl kt)) ?_
  have lt_xb := V_xb.lt
  have Oh := K.old O0 all0
  obtain ⟨_, T, h, Lc3, X, e0, hQ, st⟩ := (cs17 hw).run X hx hZ hown e0 (A := [(.ref xb), (.int (0 : Int32)), (.int (1 : Int32))]) rfl (rCRB_5_0_1 l Z a0 hw [] xb xk xc0 xc1 xc2 xc3 xc4 h0 Oh V_xb) (W := 0) (by decide) hml (Ls := #[rv xb, iv 0, iv 1]) rfl (rest := []) rfl rfl hby d22_13
  obtain ⟨nb2, nk2, rfl, K2, gn_nb2, V_nb2⟩ := hQ
  have ge_nb2 := Nat.le_trans K.le gn_nb2
  have ne_xb_nb2 : xb ≠ nb2 := Nat.ne_of_lt (Nat.lt_of_lt_of_le lt_xb gn_nb2)
  have K := K.call K2 all0
  refine oWk.to (mkF m 16 #[rv xb, iv 0, iv 1] [(.ref nb2)]) (fun _ kt => st _ kt) ?_
  exact oRetA X hx hlk hret rfl rfl (hb hby d22_16) (by rw [e0]; exact ⟨nb2, nk2, rfl, K, ge_nb2, V_nb2⟩) (by decide) (by decide)
def Q_rNS_5_0_1 (Z : State) (xb : Addr) (xk : ClassId) (xc0 xc1 xc2 xc3 xc4 : Int32) (h0 : Heap) (v : Option Value) (h : Heap) (L : List Loc) : Prop := ∃ (nr : Addr) (nb : Addr) (nk : ClassId), v = some (.ref nr) ∧ oKp h0 h [] L ∧ (h0.size ≤ nr) ∧ (h0.size ≤ nb) ∧ (Exa Z h nr Y0) ∧ (Fld Z h nr Y0 "coder" "B" (.int (0 : Int32))) ∧ (Fld Z h nr Y0 "value" "[B" (.ref nb)) ∧ (Arv Z h nb nk .byte (1 : Int32) [(ib xc0)] (.int (0 : Int32)))
theorem rNS_5_0_1 (l : Launch) (Z : State) (a0 : Array Value) (hw : oHW a0 Z) (ws : List Jvm.Cond) (xb : Addr) (xk : ClassId) (xc0 xc1 xc2 xc3 xc4 : Int32) (h0 : Heap) (O0 : Ext Z.heap h0) (V_xb : Arv Z h0 xb xk .byte (5 : Int32) [(ib xc0), (ib xc1), (ib xc2), (ib xc3), (ib xc4)] (.int (0 : Int32))) :
    oCon l Z yy17 jdk_43_method_47_code 3 (some (.object Y0)) ws ({ frames := 3, cells := 2, slots := 5, locals := 50 } : Room) #[(.ref xb), (.int (0 : Int32)), (.int (1 : Int32))] h0 (Q_rNS_5_0_1 Z xb xk xc0 xc1 xc2 xc3 xc4 h0) := by
  refine oCon.of (plainFor_of_name pn_0) ?_
  intro p e s m below meth c T X hx hby hml hown hnm hret hlk hZ e0
  have hml : c.maxLocals = 3 := hml
  have K : oKp h0 h0 [] [] := oKp.nil _ _
  refine oWk.cast (g' := (mkF m 0 #[rv xb, iv 0, iv 1] [])) (by first | rfl | (simp [entryFrame, mkF, argsToLocals, Value.category]; done)) ?_
  refine oWk.st (fun _ kt => zI X hx hby d21_0 rfl rfl (zF X hx hby d21_1 rfl rfl ((if0 _ _).trans (feq (by decide)).2) (pc' := 7) rfl kt)) ?_
  obtain ⟨o1, g1⟩ : ∃ z, z = h0.size := ⟨_, rfl⟩
  have ne_xb_o1 : xb ≠ o1 := Nat.ne_of_lt (Nat.lt_of_lt_of_le V_xb.lt (Nat.le_of_eq g1.symm))
  have ge_o1 : h0.size ≤ o1 := Nat.le_trans K.le (Nat.le_of_eq g1.symm)
  obtain ⟨T, h, X, e0, E1, A1, D1, -, st⟩ := newO X hx hZ hown (oW hw 98 rfl) (oW hw 10 rfl) (oW hw 11 rfl) e0 (g := (mkF m 7 #[rv xb, iv 0, iv 1] [])) rfl (hb hby d21_7) (by decide) (by decide)
  rw [← g1] at A1 D1 st
  have K := K.ext E1
  have E_o1 := A1
  have F_coder_o1 : Fld Z h o1 Y0 "coder" "B" (.int (0 : Int32)) := D1 (Or.inr (oW hw 35 rfl)) (ty := .byte) (by decide)
  have F_value_o1 : Fld Z h o1 Y0 "value" "[B" .null := D1 (Or.inr (oW hw 37 rfl)) (ty := (.array .byte)) (by decide)
  refine oWk.to (mkF m 16 #[rv xb, iv 0, iv 1] [(.int 1), (.int 0), (.ref xb), (.ref o1), (.ref o1)]) (fun _ kt => st _ (zD X hx hby d21_10 rfl rfl rfl (zA X hx hby d21_11 rfl rfl rfl (zI X hx hby d21_12 rfl rfl (zI X hx hby d21_13 rfl rfl (zI X hx hby d21_14 rfl rfl (XS.iadd X.here hx rfl (hb hby d21_15) rfl kt))))))) ?_
  have V_xb := (V_xb.ext E1)
  have lt_xb := V_xb.lt
  have lt_o1 := E_o1.lt
  have Oh := K.old O0 all0
  obtain ⟨_, T, h, Lc3, X, e0, hQ, st⟩ := (cs18 hw).run X hx hZ hown e0 (A := [(.ref xb), (.int (0 : Int32)), (.int (1 : Int32))]) rfl (rCR_5_0_1 l Z a0 hw [] xb xk xc0 xc1 xc2 xc3 xc4 h Oh V_xb) (W := 2) (by decide) hml (Ls := #[rv xb, iv 0, iv 1]) rfl (rest := [(.ref o1), (.ref o1)]) rfl rfl hby d21_16
  obtain ⟨nb2, nk2, rfl, K2, gn_nb2, V_nb2⟩ := hQ
  have ge_nb2 := Nat.le_trans K.le gn_nb2
  have ne_xb_nb2 : xb ≠ nb2 := Nat.ne_of_lt (Nat.lt_of_lt_of_le lt_xb gn_nb2)
  have ne_o1_nb2 : o1 ≠ nb2 := Nat.ne_of_lt (Nat.lt_of_lt_of_le lt_o1 gn_nb2)
  have K := K.call K2 all0
  refine oWk.st (fun _ kt => st _ (zK X hx hby d21_19 rfl kt)) ?_
  have E_o1 := (E_o1.keep K2.1)
  have F_value_o1 := (F_value_o1.keep K2.1 nin0)
  have F_coder_o1 := (F_coder_o1.keep K2.1 nin0)
  have Oh := K.old O0 all0
  obtain ⟨_, T, h, Lc5, X, e0, hQ, st⟩ := (cs19 hw).run X hx hZ hown e0 (A := [(.ref o1), (.ref nb2), (.int (0 : Int32))]) ⟨rfl, _, _, rfl⟩ (rSIn l Z a0 hw [] o1 nb2 .null (.int (0 : Int32)) h Oh (Nat.le_trans O0.1 ge_o1) E_o1 F_value_o1 F_coder_o1) (W := 1) (by decide) hml (Ls := #[rv xb, iv 0, iv 1]) rfl (rest := [(.ref o1)]) rfl rfl hby d21_20
  obtain ⟨rfl, K4, E_o1, F_value_o1, F_coder_o1⟩ := hQ
  have K := K.call K4 (allS (Or.inr ge_o1) all0)
  refine oWk.to (mkF m 23 #[rv xb, iv 0, iv 1] [(.ref o1)]) (fun _ kt => st _ kt) ?_
  have V_nb2 := (V_nb2.keep K4.1 (ninS (Ne.symm ne_o1_nb2) nin0))
  exact oRetA X hx hlk hret rfl rfl (hb hby d21_23) (by rw [e0]; exact ⟨o1, nb2, nk2, rfl, K, ge_o1, ge_nb2, E_o1, F_coder_o1, F_value_o1, V_nb2⟩) (by decide) (by decide)
def Q_rSub_5_0_1 (Z : State) (xa xb : Addr) (xk : ClassId) (xfm : Value) (xz xc0 xc1 xc2 xc3 xc4 : Int32) (h0 : Heap) (v : Option Value) (h : Heap) (L : List Loc) : Prop := ∃ (nr : Addr) (nb : Addr) (nk : ClassId), v = some (.ref nr) ∧ oKp h0 h [] L ∧ (h0.size ≤ nr) ∧ (h0.size ≤ nb) ∧ (Exa Z h nr Y0) ∧ (Fld Z h nr Y0 "coder" "B" (.int (0 : Int32))) ∧ (Fld Z h nr Y0 "value" "[B" (.ref nb)) ∧ (Arv Z h nb nk .byte (1 : Int32) [(ib xc0)] (.int (0 : Int32)))
theorem rSub_5_0_1 (l : Launch) (Z : State) (a0 : Array Value) (hw : oHW a0 Z) (ws : List Jvm.Cond) (xa xb : Addr) (xk : ClassId) (xfm : Value) (xz xc0 xc1 xc2 xc3 xc4 : Int32) (h0 : Heap) (O0 : Ext Z.heap h0) (S_COMPACT_STRINGS : Sta Z Z.heap Y0 Y1 "Z" (.int xz)) (hz : ¬ xz = (0 : Int32)) (S_SIOOBE_FORMATTER : Sta Z Z.heap Y2 Y3 Y4 xfm) (hcat : xfm.category = 1) (E_xa : Exa Z h0 xa Y0) (F_coder_xa : Fld Z h0 xa Y0 "coder" "B" (.int (0 : Int32))) (F_value_xa : Fld Z h0 xa Y0 "value" "[B" (.ref xb)) (V_xb : Arv Z h0 xb xk .byte (5 : Int32) [(ib xc0), (ib xc1), (ib xc2), (ib xc3), (ib xc4)] (.int (0 : Int32))) :
    oCon l Z yy18 jdk_42_method_92_code 5 (some (.object Y0)) ws ({ frames := 4, cells := 2, slots := 5, locals := 64 } : Room) #[(.ref xa), (.int (0 : Int32)), (.int (1 : Int32))] h0 (Q_rSub_5_0_1 Z xa xb xk xfm xz xc0 xc1 xc2 xc3 xc4 h0) := by
  refine oCon.of (plainFor_of_name pn_3) ?_
  intro p e s m below meth c T X hx hby hml hown hnm hret hlk hZ e0
  have hml : c.maxLocals = 5 := hml
  have K : oKp h0 h0 [] [] := oKp.nil _ _
  refine oWk.cast (g' := (mkF m 0 #[rv xa, iv 0, iv 1, uu, uu] [])) (by first | rfl | (simp [entryFrame, mkF, argsToLocals, Value.category]; done)) ?_
  refine oWk.st (fun _ kt => zA X hx hby d18_0 rfl rfl rfl kt) ?_
  have Oh := K.old O0 all0
  obtain ⟨T, L2, X, e0, K, st⟩ := (cs10 hw).pure X hx hZ hown e0 K (A := [(.ref xa)]) ⟨rfl, _, _, rfl, E_xa⟩ (rLn_5 l Z a0 hw [] xa xb xk xz xc0 xc1 xc2 xc3 xc4 h0 Oh S_COMPACT_STRINGS hz E_xa F_coder_xa F_value_xa V_xb) (fun _ _ _ q => q) (W := 0) (by decide) hml (Ls := #[rv xa, iv 0, iv 1, uu, uu]) rfl (rest := []) rfl rfl hby d18_1
  refine oWk.st (fun _ kt => st _ (zSn X hx hby d18_4 rfl rfl (l' := #[rv xa, iv 0, iv 1, iv 5, uu]) rfl (zI X hx hby d18_5 rfl rfl (zI X hx hby d18_6 rfl rfl (zI X hx hby d18_7 rfl rfl kt))))) ?_
  obtain ⟨T, L4, X, e0, K, st⟩ := (cs13 hw).pure X hx hZ hown e0 K (A := [(.int (0 : Int32)), (.int (1 : Int32)), (.int (5 : Int32))]) rfl (rCkB l Z a0 hw [] (0 : Int32) (1 : Int32) (5 : Int32) xfm h0 Oh S_SIOOBE_FORMATTER hcat (by decide) (by decide) (by decide)) (fun _ _ _ q => q) (W := 0) (by decide) hml (Ls := #[rv xa, iv 0, iv 1, iv 5, uu]) rfl (rest := []) rfl rfl hby d18_8
  refine oWk.to (mkF m 23 #[rv xa, iv 0, iv 1, iv 5, uu] [(.int 1)]) (fun _ kt => st _ (zI X hx hby d18_11 rfl rfl (zH X hx hby d18_12 rfl rfl ((if0 _ _).trans (teq (by decide)).2) (zI X hx hby d18_15 rfl rfl (zI X hx hby d18_16 rfl rfl (zY X hx hby d18_17 rfl rfl (feq (by decide)).2 (pc' := 22) rfl (zI X hx hby d18_22 rfl rfl kt))))))) ?_
  refine oWk.st (fun _ kt => zI X hx hby d18_23 rfl rfl (XS.isub X.here hx rfl (hb hby d18_24) rfl (zS X hx hby d18_25 rfl rfl (l' := #[rv xa, iv 0, iv 1, iv 5, iv 1]) rfl (zA X hx hby d18_27 rfl rfl rfl kt)))) ?_
  obtain ⟨T, L6, X, e0, K, st⟩ := (cs8 hw).pure X hx hZ hown e0 K (A := [(.ref xa)]) ⟨rfl, _, _, rfl, E_xa⟩ (rIsL l Z a0 hw [] xa xz h0 Oh S_COMPACT_STRINGS hz F_coder_xa) (fun _ _ _ q => q) (W := 0) (by decide) hml (Ls := #[rv xa, iv 0, iv 1, iv 5, iv 1]) rfl (rest := []) rfl rfl hby d18_28
  refine oWk.st (fun _ kt => st _ (zH X hx hby d18_31 rfl rfl ((if0 _ _).trans (feq (by decide)).1) (zA X hx hby d18_34 rfl rfl rfl kt))) ?_
  obtain ⟨T, X, e0, st⟩ := getF X hx hZ hown (host := "") (Or.inl (oW hw 36 rfl)) Via.refl e0 F_value_xa (g := (mkF m 35 #[rv xa, iv 0, iv 1, iv 5, iv 1] [(.ref xa)])) rfl rfl (hb hby d18_35)
  refine oWk.st (fun _ kt => st _ (zI X hx hby d18_38 rfl rfl (zJ X hx hby d18_39 rfl rfl kt))) ?_
  have lt_xa := E_xa.lt
  have lt_xb := V_xb.lt
  obtain ⟨_, T, h, Lc8, X, e0, hQ, st⟩ := (cs20 hw).run X hx hZ hown e0 (A := [(.ref xb), (.int (0 : Int32)), (.int (1 : Int32))]) rfl (rNS_5_0_1 l Z a0 hw [] xb xk xc0 xc1 xc2 xc3 xc4 h0 Oh V_xb) (W := 0) (by decide) hml (Ls := #[rv xa, iv 0, iv 1, iv 5, iv 1]) rfl (rest := []) rfl rfl hby d18_41
  obtain ⟨nr7, nb7, nk7, rfl, K7, gn_nr7, gn_nb7, E_nr7, F_coder_nr7, F_value_nr7, V_nb7⟩ := hQ
  have ge_nr7 := Nat.le_trans K.le gn_nr7
  have ne_xa_nr7 : xa ≠ nr7 := Nat.ne_of_lt (Nat.lt_of_lt_of_le lt_xa gn_nr7)
  have ne_xb_nr7 : xb ≠ nr7 := Nat.ne_of_lt (Nat.lt_of_lt_of_le lt_xb gn_nr7)
  have ge_nb7 := Nat.le_trans K.le gn_nb7
  have ne_xa_nb7 : xa ≠ nb7 := Nat.ne_of_lt (Nat.lt_of_lt_of_le lt_xa gn_nb7)
  have ne_xb_nb7 : xb ≠ nb7 := Nat.ne_of_lt (Nat.lt_of_lt_of_le lt_xb gn_nb7)
  have K := K.call K7 all0
  refine oWk.to (mkF m 57 #[rv xa, iv 0, iv 1, iv 5, iv 1] [(.ref nr7)]) (fun _ kt => st _ (zG X hx hby d18_44 rfl (pc' := 57) rfl kt)) ?_
  exact oRetA X hx hlk hret rfl rfl (hb hby d18_57) (by rw [e0]; exact ⟨nr7, nb7, nk7, rfl, K, ge_nr7, ge_nb7, E_nr7, F_coder_nr7, F_value_nr7, V_nb7⟩) (by decide) (by decide)
def Q_rSP_5_1 (Z : State) (xa xb : Addr) (xk : ClassId) (xfm : Value) (xz xc0 xc1 xc2 xc3 xc4 : Int32) (h0 : Heap) (v : Option Value) (h : Heap) (L : List Loc) : Prop := ∃ (nr : Addr) (nb : Addr) (nk : ClassId), v = some (.ref nr) ∧ oKp h0 h [] L ∧ (h0.size ≤ nr) ∧ (h0.size ≤ nb) ∧ (Exa Z h nr Y0) ∧ (Fld Z h nr Y0 "coder" "B" (.int (0 : Int32))) ∧ (Fld Z h nr Y0 "value" "[B" (.ref nb)) ∧ (Arv Z h nb nk .byte (1 : Int32) [(ib xc0)] (.int (0 : Int32)))
theorem rSP_5_1 (l : Launch) (Z : State) (a0 : Array Value) (hw : oHW a0 Z) (ws : List Jvm.Cond) (xa xb : Addr) (xk : ClassId) (xfm : Value) (xz xc0 xc1 xc2 xc3 xc4 : Int32) (h0 : Heap) (O0 : Ext Z.heap h0) (S_COMPACT_STRINGS : Sta Z Z.heap Y0 Y1 "Z" (.int xz)) (hz : ¬ xz = (0 : Int32)) (S_SIOOBE_FORMATTER : Sta Z Z.heap Y2 Y3 Y4 xfm) (hcat : xfm.category = 1) (E_xa : Exa Z h0 xa Y0) (F_coder_xa : Fld Z h0 xa Y0 "coder" "B" (.int (0 : Int32))) (F_value_xa : Fld Z h0 xa Y0 "value" "[B" (.ref xb)) (V_xb : Arv Z h0 xb xk .byte (5 : Int32) [(ib xc0), (ib xc1), (ib xc2), (ib xc3), (ib xc4)] (.int (0 : Int32))) (hu1 : (xc1.toInt8.toInt32) = (58 : Int32)) (hu2 : ¬ (xc2.toInt8.toInt32) = (58 : Int32)) (hu3 : ¬ (xc3.toInt8.toInt32) = (58 : Int32)) (hu4 : ¬ (xc4.toInt8.toInt32) = (58 : Int32)) :
    oCon l Z yy19 prog_3_method_2_code 1 (some (.object Y0)) ws ({ frames := 5, cells := 2, slots := 5, locals := 80 } : Room) #[(.ref xa)] h0 (Q_rSP_5_1 Z xa xb xk xfm xz xc0 xc1 xc2 xc3 xc4 h0) := by
  refine oCon.of (plainFor_of_name pn_5) ?_
  intro p e s m below meth c T X hx hby hml hown hnm hret hlk hZ e0
  have hml : c.maxLocals = 1 := hml
  have K : oKp h0 h0 [] [] := oKp.nil _ _
  refine oWk.cast (g' := (mkF m 0 #[rv xa] [])) (by first | rfl | (simp [entryFrame, mkF, argsToLocals, Value.category]; done)) ?_
  refine oWk.st (fun _ kt => zA X hx hby d9_0 rfl rfl rfl (zK X hx hby d9_1 rfl (zA X hx hby d9_2 rfl rfl rfl (zL X hx hby d9_3 rfl kt)))) ?_
  have Oh := K.old O0 all0
  obtain ⟨T, L2, X, e0, K, st⟩ := (cs14 hw).pure X hx hZ hown e0 K (A := [(.ref xa), (.int (58 : Int32))]) ⟨rfl, _, _, rfl, E_xa⟩ (rLK_5_1 l Z a0 hw [] xa xb xk xz xc0 xc1 xc2 xc3 xc4 h0 Oh S_COMPACT_STRINGS hz E_xa F_coder_xa F_value_xa V_xb hu1 hu2 hu3 hu4) (fun _ _ _ q => q) (W := 2) (by decide) hml (Ls := #[rv xa]) rfl (rest := [(.int (0 : Int32)), (.ref xa)]) rfl rfl hby d9_5
  refine oWk.st (fun _ kt => st _ kt) ?_
  have lt_xa := E_xa.lt
  have lt_xb := V_xb.lt
  obtain ⟨_, T, h, Lc4, X, e0, hQ, st⟩ := (cs21 hw).run X hx hZ hown e0 (A := [(.ref xa), (.int (0 : Int32)), (.int (1 : Int32))]) ⟨rfl, _, _, rfl, E_xa⟩ (rSub_5_0_1 l Z a0 hw [] xa xb xk xfm xz xc0 xc1 xc2 xc3 xc4 h0 Oh S_COMPACT_STRINGS hz S_SIOOBE_FORMATTER hcat E_xa F_coder_xa F_value_xa V_xb) (W := 0) (by decide) hml (Ls := #[rv xa]) rfl (rest := []) rfl rfl hby d9_8
  obtain ⟨nr3, nb3, nk3, rfl, K3, gn_nr3, gn_nb3, E_nr3, F_coder_nr3, F_value_nr3, V_nb3⟩ := hQ
  have ge_nr3 := Nat.le_trans K.le gn_nr3
  have ne_xa_nr3 : xa ≠ nr3 := Nat.ne_of_lt (Nat.lt_of_lt_of_le lt_xa gn_nr3)
  have ne_xb_nr3 : xb ≠ nr3 := Nat.ne_of_lt (Nat.lt_of_lt_of_le lt_xb gn_nr3)
  have ge_nb3 := Nat.le_trans K.le gn_nb3
  have ne_xa_nb3 : xa ≠ nb3 := Nat.ne_of_lt (Nat.lt_of_lt_of_le lt_xa gn_nb3)
  have ne_xb_nb3 : xb ≠ nb3 := Nat.ne_of_lt (Nat.lt_of_lt_of_le lt_xb gn_nb3)
  have K := K.call K3 all0
  refine oWk.to (mkF m 11 #[rv xa] [(.ref nr3)]) (fun _ kt => st _ kt) ?_
  exact oRetA X hx hlk hret rfl rfl (hb hby d9_11) (by rw [e0]; exact ⟨nr3, nb3, nk3, rfl, K, ge_nr3, ge_nb3, E_nr3, F_coder_nr3, F_value_nr3, V_nb3⟩) (by decide) (by decide)
def Q_rLI_5_2 (Z : State) (xb : Addr) (xk : ClassId) (xc0 xc1 xc2 xc3 xc4 : Int32) (h0 : Heap) (v : Option Value) (h : Heap) (L : List Loc) : Prop := v = some (.int (2 : Int32)) ∧ h = h0 ∧ oKp h0 h [] L
theorem rLI_5_2 (l : Launch) (Z : State) (a0 : Array Value) (hw : oHW a0 Z) (ws : List Jvm.Cond) (xb : Addr) (xk : ClassId) (xc0 xc1 xc2 xc3 xc4 : Int32) (h0 : Heap) (O0 : Ext Z.heap h0) (V_xb : Arv Z h0 xb xk .byte (5 : Int32) [(ib xc0), (ib xc1), (ib xc2), (ib xc3), (ib xc4)] (.int (0 : Int32))) (hu2 : (xc2.toInt8.toInt32) = (58 : Int32)) (hu3 : ¬ (xc3.toInt8.toInt32) = (58 : Int32)) (hu4 : ¬ (xc4.toInt8.toInt32) = (58 : Int32)) :
    oCon l Z yy9 jdk_43_method_27_code 4 (some .int) ws ({ frames := 1, cells := 0, slots := 0, locals := 13 } : Room) #[(.ref xb), (.int (58 : Int32)), (.int (4 : Int32))] h0 (Q_rLI_5_2 Z xb xk xc0 xc1 xc2 xc3 xc4 h0) := by
  refine oCon.of (plainFor_of_name pn_0) ?_
  intro p e s m below meth c T X hx hby hml hown hnm hret hlk hZ e0
  have hml : c.maxLocals = 4 := hml
  have K : oKp h0 h0 [] [] := oKp.nil _ _
  refine oWk.cast (g' := (mkF m 0 #[rv xb, iv 58, iv 4, uu] [])) (by first | rfl | (simp [entryFrame, mkF, argsToLocals, Value.category]; done)) ?_
  refine oWk.st (fun _ kt => zI X hx hby d15_0 rfl rfl kt) ?_
  have Oh := K.old O0 all0
  obtain ⟨T, L2, X, e0, K, st⟩ := (cs5 hw).pure X hx hZ hown e0 K (A := [(.int (58 : Int32))]) rfl (rCanI l Z a0 hw []  h0 Oh ) (fun _ _ _ q => q) (W := 0) (by decide) hml (Ls := #[rv xb, iv 58, iv 4, uu]) rfl (rest := []) rfl rfl hby d15_1
  refine oWk.to (mkF m 14 #[rv xb, iv 58, iv 4, uu] [(.int 4), (.int 4)]) (fun _ kt => st _ (zF X hx hby d15_4 rfl rfl ((if0 _ _).trans (feq (by decide)).2) (pc' := 9) rfl (zI X hx hby d15_9 rfl rfl (zA X hx hby d15_10 rfl rfl rfl (oAl X hx hZ e0 V_xb hby d15_11 rfl rfl (zK X hx hby d15_12 rfl (XS.isub X.here hx rfl (hb hby d15_13) rfl kt))))))) ?_
  obtain ⟨T, L5, X, e0, K, st⟩ := (cs6 hw).pure X hx hZ hown e0 K (A := [(.int (4 : Int32)), (.int (4 : Int32))]) rfl (rMin_4_4 l Z a0 hw []  h0 Oh ) (fun _ _ _ q => q) (W := 0) (by decide) hml (Ls := #[rv xb, iv 58, iv 4, uu]) rfl (rest := []) rfl rfl hby d15_14
  refine oWk.to (mkF m 25 #[rv xb, iv 58, iv 4, iv 4] [(ib xc4)]) (fun _ kt => st _ (zSn X hx hby d15_17 rfl rfl (l' := #[rv xb, iv 58, iv 4, iv 4]) rfl (zI X hx hby d15_18 rfl rfl (zH X hx hby d15_19 rfl rfl ((if0 _ _).trans (flt (by decide)).1) (zA X hx hby d15_22 rfl rfl rfl (zI X hx hby d15_23 rfl rfl (oLdB X hx hZ e0 V_xb (4 : Int32) (ib xc4) ⟨by decide, by decide⟩ rfl hby d15_24 rfl rfl kt))))))) ?_
  refine oWk.to (mkF m 27 #[rv xb, iv 58, iv 4, iv 4] [(.int 58), (ib xc4)]) (fun _ kt => zI X hx hby d15_25 rfl rfl (XS.i2b X.here hx rfl (hb hby d15_26) rfl kt)) ?_
  refine oWk.to (mkF m 24 #[rv xb, iv 58, iv 4, iv 3] [(.int 3), (.ref xb)]) (fun _ kt => zY X hx hby d15_27 rfl rfl (feq hu4).2 (pc' := 32) rfl (zC X hx hby d15_32 rfl rfl (l' := #[rv xb, iv 58, iv 4, iv ((4 : Int32) + (-1 : Int32))]) rfl (zG X hx hby d15_35 rfl (pc' := 18) rfl (zI X hx hby d15_18 rfl rfl (zH X hx hby d15_19 rfl rfl ((if0 _ _).trans (flt (by decide)).1) (zA X hx hby d15_22 rfl rfl rfl (zI X hx hby d15_23 rfl rfl kt))))))) ?_
  refine oWk.to (mkF m 27 #[rv xb, iv 58, iv 4, iv 3] [(.int 58), (ib xc3)]) (fun _ kt => oLdB X hx hZ e0 V_xb (3 : Int32) (ib xc3) ⟨by decide, by decide⟩ rfl hby d15_24 rfl rfl (zI X hx hby d15_25 rfl rfl (XS.i2b X.here hx rfl (hb hby d15_26) rfl kt))) ?_
  refine oWk.to (mkF m 24 #[rv xb, iv 58, iv 4, iv 2] [(.int 2), (.ref xb)]) (fun _ kt => zY X hx hby d15_27 rfl rfl (feq hu3).2 (pc' := 32) rfl (zC X hx hby d15_32 rfl rfl (l' := #[rv xb, iv 58, iv 4, iv ((3 : Int32) + (-1 : Int32))]) rfl (zG X hx hby d15_35 rfl (pc' := 18) rfl (zI X hx hby d15_18 rfl rfl (zH X hx hby d15_19 rfl rfl ((if0 _ _).trans (flt (by decide)).1) (zA X hx hby d15_22 rfl rfl rfl (zI X hx hby d15_23 rfl rfl kt))))))) ?_
  refine oWk.to (mkF m 27 #[rv xb, iv 58, iv 4, iv 2] [(.int 58), (ib xc2)]) (fun _ kt => oLdB X hx hZ e0 V_xb (2 : Int32) (ib xc2) ⟨by decide, by decide⟩ rfl hby d15_24 rfl rfl (zI X hx hby d15_25 rfl rfl (XS.i2b X.here hx rfl (hb hby d15_26) rfl kt))) ?_
  refine oWk.to (mkF m 31 #[rv xb, iv 58, iv 4, iv 2] [(.int 2)]) (fun _ kt => zN X hx hby d15_27 rfl rfl (teq hu2).2 (zI X hx hby d15_30 rfl rfl kt)) ?_
  exact oRetI X hx hlk hret (hb hby d15_31) (by rw [e0]; exact ⟨rfl, rfl, K⟩) (by decide) (by decide)
def Q_rLJ_5_2 (Z : State) (xa xb : Addr) (xk : ClassId) (xz xc0 xc1 xc2 xc3 xc4 : Int32) (h0 : Heap) (v : Option Value) (h : Heap) (L : List Loc) : Prop := v = some (.int (2 : Int32)) ∧ h = h0 ∧ oKp h0 h [] L
theorem rLJ_5_2 (l : Launch) (Z : State) (a0 : Array Value) (hw : oHW a0 Z) (ws : List Jvm.Cond) (xa xb : Addr) (xk : ClassId) (xz xc0 xc1 xc2 xc3 xc4 : Int32) (h0 : Heap) (O0 : Ext Z.heap h0) (S_COMPACT_STRINGS : Sta Z Z.heap Y0 Y1 "Z" (.int xz)) (hz : ¬ xz = (0 : Int32)) (E_xa : Exa Z h0 xa Y0) (F_coder_xa : Fld Z h0 xa Y0 "coder" "B" (.int (0 : Int32))) (F_value_xa : Fld Z h0 xa Y0 "value" "[B" (.ref xb)) (V_xb : Arv Z h0 xb xk .byte (5 : Int32) [(ib xc0), (ib xc1), (ib xc2), (ib xc3), (ib xc4)] (.int (0 : Int32))) (hu2 : (xc2.toInt8.toInt32) = (58 : Int32)) (hu3 : ¬ (xc3.toInt8.toInt32) = (58 : Int32)) (hu4 : ¬ (xc4.toInt8.toInt32) = (58 : Int32)) :
    oCon l Z yy13 jdk_42_method_83_code 3 (some .int) ws ({ frames := 2, cells := 0, slots := 0, locals := 28 } : Room) #[(.ref xa), (.int (58 : Int32)), (.int (4 : Int32))] h0 (Q_rLJ_5_2 Z xa xb xk xz xc0 xc1 xc2 xc3 xc4 h0) := by
  refine oCon.of (plainFor_of_name pn_3) ?_
  intro p e s m below meth c T X hx hby hml hown hnm hret hlk hZ e0
  have hml : c.maxLocals = 3 := hml
  have K : oKp h0 h0 [] [] := oKp.nil _ _
  refine oWk.cast (g' := (mkF m 0 #[rv xa, iv 58, iv 4] [])) (by first | rfl | (simp [entryFrame, mkF, argsToLocals, Value.category]; done)) ?_
  refine oWk.st (fun _ kt => zA X hx hby d13_0 rfl rfl rfl kt) ?_
  have Oh := K.old O0 all0
  obtain ⟨T, L2, X, e0, K, st⟩ := (cs8 hw).pure X hx hZ hown e0 K (A := [(.ref xa)]) ⟨rfl, _, _, rfl, E_xa⟩ (rIsL l Z a0 hw [] xa xz h0 Oh S_COMPACT_STRINGS hz F_coder_xa) (fun _ _ _ q => q) (W := 0) (by decide) hml (Ls := #[rv xa, iv 58, iv 4]) rfl (rest := []) rfl rfl hby d13_1
  refine oWk.st (fun _ kt => st _ (zH X hx hby d13_4 rfl rfl ((if0 _ _).trans (feq (by decide)).1) (zA X hx hby d13_7 rfl rfl rfl kt))) ?_
  obtain ⟨T, X, e0, st⟩ := getF X hx hZ hown (host := "") (Or.inl (oW hw 36 rfl)) Via.refl e0 F_value_xa (g := (mkF m 8 #[rv xa, iv 58, iv 4] [(.ref xa)])) rfl rfl (hb hby d13_8)
  refine oWk.st (fun _ kt => st _ (zI X hx hby d13_11 rfl rfl (zI X hx hby d13_12 rfl rfl kt))) ?_
  obtain ⟨T, L4, X, e0, K, st⟩ := (cs9 hw).pure X hx hZ hown e0 K (A := [(.ref xb), (.int (58 : Int32)), (.int (4 : Int32))]) rfl (rLI_5_2 l Z a0 hw [] xb xk xc0 xc1 xc2 xc3 xc4 h0 Oh V_xb hu2 hu3 hu4) (fun _ _ _ q => q) (W := 0) (by decide) hml (Ls := #[rv xa, iv 58, iv 4]) rfl (rest := []) rfl rfl hby d13_13
  refine oWk.to (mkF m 28 #[rv xa, iv 58, iv 4] [(.int 2)]) (fun _ kt => st _ (zG X hx hby d13_16 rfl (pc' := 28) rfl kt)) ?_
  exact oRetI X hx hlk hret (hb hby d13_28) (by rw [e0]; exact ⟨rfl, rfl, K⟩) (by decide) (by decide)
def Q_rLK_5_2 (Z : State) (xa xb : Addr) (xk : ClassId) (xz xc0 xc1 xc2 xc3 xc4 : Int32) (h0 : Heap) (v : Option Value) (h : Heap) (L : List Loc) : Prop := v = some (.int (2 : Int32)) ∧ h = h0 ∧ oKp h0 h [] L
theorem rLK_5_2 (l : Launch) (Z : State) (a0 : Array Value) (hw : oHW a0 Z) (ws : List Jvm.Cond) (xa xb : Addr) (xk : ClassId) (xz xc0 xc1 xc2 xc3 xc4 : Int32) (h0 : Heap) (O0 : Ext Z.heap h0) (S_COMPACT_STRINGS : Sta Z Z.heap Y0 Y1 "Z" (.int xz)) (hz : ¬ xz = (0 : Int32)) (E_xa : Exa Z h0 xa Y0) (F_coder_xa : Fld Z h0 xa Y0 "coder" "B" (.int (0 : Int32))) (F_value_xa : Fld Z h0 xa Y0 "value" "[B" (.ref xb)) (V_xb : Arv Z h0 xb xk .byte (5 : Int32) [(ib xc0), (ib xc1), (ib xc2), (ib xc3), (ib xc4)] (.int (0 : Int32))) (hu2 : (xc2.toInt8.toInt32) = (58 : Int32)) (hu3 : ¬ (xc3.toInt8.toInt32) = (58 : Int32)) (hu4 : ¬ (xc4.toInt8.toInt32) = (58 : Int32)) :
    oCon l Z yy14 jdk_42_method_82_code 2 (some .int) ws ({ frames := 3, cells := 0, slots := 0, locals := 42 } : Room) #[(.ref xa), (.int (58 : Int32))] h0 (Q_rLK_5_2 Z xa xb xk xz xc0 xc1 xc2 xc3 xc4 h0) := by
  refine oCon.of (plainFor_of_name pn_3) ?_
  intro p e s m below meth c T X hx hby hml hown hnm hret hlk hZ e0
  have hml : c.maxLocals = 2 := hml
  have K : oKp h0 h0 [] [] := oKp.nil _ _
  refine oWk.cast (g' := (mkF m 0 #[rv xa, iv 58] [])) (by first | rfl | (simp [entryFrame, mkF, argsToLocals, Value.category]; done)) ?_
  refine oWk.st (fun _ kt => zA X hx hby d10_0 rfl rfl rfl (zI X hx hby d10_1 rfl rfl (zA X hx hby d10_2 rfl rfl rfl kt))) ?_
  have Oh := K.old O0 all0
  obtain ⟨T, L2, X, e0, K, st⟩ := (cs10 hw).pure X hx hZ hown e0 K (A := [(.ref xa)]) ⟨rfl, _, _, rfl, E_xa⟩ (rLn_5 l Z a0 hw [] xa xb xk xz xc0 xc1 xc2 xc3 xc4 h0 Oh S_COMPACT_STRINGS hz E_xa F_coder_xa F_value_xa V_xb) (fun _ _ _ q => q) (W := 2) (by decide) hml (Ls := #[rv xa, iv 58]) rfl (rest := [(.int (58 : Int32)), (.ref xa)]) rfl rfl hby d10_3
  refine oWk.st (fun _ kt => st _ (zK X hx hby d10_6 rfl (XS.isub X.here hx rfl (hb hby d10_7) rfl kt))) ?_
  obtain ⟨T, L4, X, e0, K, st⟩ := (cs11 hw).pure X hx hZ hown e0 K (A := [(.ref xa), (.int (58 : Int32)), (.int (4 : Int32))]) ⟨rfl, _, _, rfl, E_xa⟩ (rLJ_5_2 l Z a0 hw [] xa xb xk xz xc0 xc1 xc2 xc3 xc4 h0 Oh S_COMPACT_STRINGS hz E_xa F_coder_xa F_value_xa V_xb hu2 hu3 hu4) (fun _ _ _ q => q) (W := 0) (by decide) hml (Ls := #[rv xa, iv 58]) rfl (rest := []) rfl rfl hby d10_8
  refine oWk.to (mkF m 11 #[rv xa, iv 58] [(.int 2)]) (fun _ kt => st _ kt) ?_
  exact oRetI X hx hlk hret (hb hby d10_11) (by rw [e0]; exact ⟨rfl, rfl, K⟩) (by decide) (by decide)
def Q_rMin_5_2 (Z : State)  (h0 : Heap) (v : Option Value) (h : Heap) (L : List Loc) : Prop := v = some (.int (2 : Int32)) ∧ h = h0 ∧ oKp h0 h [] L
theorem rMin_5_2 (l : Launch) (Z : State) (a0 : Array Value) (hw : oHW a0 Z) (ws : List Jvm.Cond)  (h0 : Heap) (O0 : Ext Z.heap h0)  :
    oCon l Z yy8 jdk_29_method_69_code 2 (some .int) ws ({ frames := 0, cells := 0, slots := 0, locals := 0 } : Room) #[(.int (5 : Int32)), (.int (2 : Int32))] h0 (Q_rMin_5_2 Z  h0) := by
  refine oCon.of (Jvm.Free.JP.mathPlain rfl (by decide +kernel)) ?_
  intro p e s m below meth c T X hx hby hml hown hnm hret hlk hZ e0
  have hml : c.maxLocals = 2 := hml
  have K : oKp h0 h0 [] [] := oKp.nil _ _
  refine oWk.cast (g' := (mkF m 0 #[iv 5, iv 2] [])) (by first | rfl | (simp [entryFrame, mkF, argsToLocals, Value.category]; done)) ?_
  refine oWk.to (mkF m 10 #[iv 5, iv 2] [(.int 2)]) (fun _ kt => zI X hx hby d17_0 rfl rfl (zI X hx hby d17_1 rfl rfl (zY X hx hby d17_2 rfl rfl (tlt (by decide)).2.2.1 (pc' := 9) rfl (zI X hx hby d17_9 rfl rfl kt)))) ?_
  exact oRetI X hx hlk hret (hb hby d17_10) (by rw [e0]; exact ⟨rfl, rfl, K⟩) (by decide) (by decide)
def Q_rCRB_5_0_2 (Z : State) (xb : Addr) (xk : ClassId) (xc0 xc1 xc2 xc3 xc4 : Int32) (h0 : Heap) (v : Option Value) (h : Heap) (L : List Loc) : Prop := ∃ (nb : Addr) (nk : ClassId), v = some (.ref nb) ∧ oKp h0 h [] L ∧ (h0.size ≤ nb) ∧ (Arv Z h nb nk .byte (2 : Int32) [(ib xc0), (ib xc1)] (.int (0 : Int32)))
theorem rCRB_5_0_2 (l : Launch) (Z : State) (a0 : Array Value) (hw : oHW a0 Z) (ws : List Jvm.Cond) (xb : Addr) (xk : ClassId) (xc0 xc1 xc2 xc3 xc4 : Int32) (h0 : Heap) (O0 : Ext Z.heap h0) (V_xb : Arv Z h0 xb xk .byte (5 : Int32) [(ib xc0), (ib xc1), (ib xc2), (ib xc3), (ib xc4)] (.int (0 : Int32))) :
    oCon l Z yy21 jdk_65_method_133_code 5 (some (.array .byte)) ws ({ frames := 1, cells := 1, slots := 2, locals := 18 } : Room) #[(.ref xb), (.int (0 : Int32)), (.int (2 : Int32))] h0 (Q_rCRB_5_0_2 Z xb xk xc0 xc1 xc2 xc3 xc4 h0) := by
  refine oCon.of (plainFor_of_name pn_6) ?_
  intro p e s m below meth c T X hx hby hml hown hnm hret hlk hZ e0
  have hml : c.maxLocals = 5 := hml
  have K : oKp h0 h0 [] [] := oKp.nil _ _
  refine oWk.cast (g' := (mkF m 0 #[rv xb, iv 0, iv 2, uu, uu] [])) (by first | rfl | (simp [entryFrame, mkF, argsToLocals, Value.category]; done)) ?_
  refine oWk.st (fun _ kt => zI X hx hby d23_0 rfl rfl (zI X hx hby d23_1 rfl rfl kt)) ?_
  have Oh := K.old O0 all0
  obtain ⟨T, L2, X, e0, K, st⟩ := (cs15 hw).pure X hx hZ hown e0 K (A := [(.int (0 : Int32)), (.int (2 : Int32))]) rfl (rCkL_0_2 l Z a0 hw []  h0 Oh ) (fun _ _ _ q => q) (W := 0) (by decide) hml (Ls := #[rv xb, iv 0, iv 2, uu, uu]) rfl (rest := []) rfl rfl hby d23_2
  refine oWk.st (fun _ kt => st _ (zI X hx hby d23_5 rfl rfl (zI X hx hby d23_6 rfl rfl (XS.isub X.here hx rfl (hb hby d23_7) rfl (zSn X hx hby d23_8 rfl rfl (l' := #[rv xb, iv 0, iv 2, iv 2, uu]) rfl (zI X hx hby d23_9 rfl rfl kt)))))) ?_
  obtain ⟨o3, g3⟩ : ∃ z, z = h0.size := ⟨_, rfl⟩
  have ne_xb_o3 : xb ≠ o3 := Nat.ne_of_lt (Nat.lt_of_lt_of_le V_xb.lt (Nat.le_of_eq g3.symm))
  have ge_o3 : h0.size ≤ o3 := Nat.le_trans K.le (Nat.le_of_eq g3.symm)
  obtain ⟨T, h, k3, X, e0, E3, A3, st⟩ := newP X hx hZ (oW hw 27 rfl) e0 (g := (mkF m 10 #[rv xb, iv 0, iv 2, iv 2, uu] [(.int 2)])) rfl (hb hby d23_10) rfl (by decide) (cap := 2) (by decide) (by decide) (by decide) (by decide)
  rw [← g3] at A3 st
  have K := K.ext E3
  have V_o3 : Arv Z h o3 k3 .byte (2 : Int32) [(.int (0 : Int32)), (.int (0 : Int32))] (.int (0 : Int32)) := (Arv.new A3 (by decide)).pad (pad_rep [] (.int (0 : Int32)) 2)
  refine oWk.to (mkF m 20 #[rv xb, iv 0, iv 2, iv 2, rv o3] [(.ref xb), (.int 0), (.ref o3), (.int 0), (.ref xb)]) (fun _ kt => st _ (zT X hx hby d23_12 rfl rfl rfl (l' := #[rv xb, iv 0, iv 2, iv 2, rv o3]) rfl (zA X hx hby d23_14 rfl rfl rfl (zI X hx hby d23_15 rfl rfl (zB X hx hby d23_16 rfl rfl rfl (zK X hx hby d23_18 rfl (zA X hx hby d23_19 rfl rfl rfl kt))))))) ?_
  have V_xb := (V_xb.ext E3)
  refine oWk.st (fun _ kt => oAl X hx hZ e0 V_xb hby d23_20 rfl rfl (zI X hx hby d23_21 rfl rfl (XS.isub X.here hx rfl (hb hby d23_22) rfl (zI X hx hby d23_23 rfl rfl kt)))) ?_
  have Oh := K.old O0 all0
  obtain ⟨T, L6, X, e0, K, st⟩ := (cs16 hw).pure X hx hZ hown e0 K (A := [(.int (5 : Int32)), (.int (2 : Int32))]) rfl (rMin_5_2 l Z a0 hw []  h Oh ) (fun _ _ _ q => q) (W := 4) (by decide) hml (Ls := #[rv xb, iv 0, iv 2, iv 2, rv o3]) rfl (rest := [(.int (0 : Int32)), (.ref o3), (.int (0 : Int32)), (.ref xb)]) rfl rfl hby d23_24
  refine oWk.st (fun _ kt => st _ kt) ?_
  obtain ⟨T, h, L7, X, e0, N7, C7, V7, st⟩ := cpA X hx hZ hown (oW hw 110 rfl) (oW hw 113 rfl) (oW hw 111 rfl) (oW hw 112 rfl) e0 (us := [(ib xc0), (ib xc1)]) V_xb V_o3 (Or.inl ⟨rfl, rfl⟩) (by decide) (by decide) (by decide) (by decide) (by decide) rfl (by decide) K.fr ge_o3 (g := (mkF m 27 #[rv xb, iv 0, iv 2, iv 2, rv o3] [(.int 2), (.int 0), (.ref o3), (.int 0), (.ref xb)])) rfl (by rw [hml]; rfl) rfl (hb hby d23_27) (by decide) (W := 0) (Nat.le_of_eq rfl) (by decide)
  have K : oKp h0 h [] L7 := ⟨K.1.trans C7 (allS (Or.inr ge_o3) all0), fun y hy => Or.inr (N7 y hy)⟩
  have V_o3 : Arv Z h o3 k3 .byte (2 : Int32) [(ib xc0), (ib xc1)] (.int (0 : Int32)) := V7
  refine oWk.to (mkF m 32 #[rv xb, iv 0, iv 2, iv 2, rv o3] [(.ref o3)]) (fun _ kt => st _ (zB X hx hby d23_30 rfl rfl rfl kt)) ?_
  exact oRetA X hx hlk hret rfl rfl (hb hby d23_32) (by rw [e0]; exact ⟨o3, k3, rfl, K, ge_o3, V_o3⟩) (by decide) (by decide)
def Q_rCR_5_0_2 (Z : State) (xb : Addr) (xk : ClassId) (xc0 xc1 xc2 xc3 xc4 : Int32) (h0 : Heap) (v : Option Value) (h : Heap) (L : List Loc) : Prop := ∃ (nb : Addr) (nk : ClassId), v = some (.ref nb) ∧ oKp h0 h [] L ∧ (h0.size ≤ nb) ∧ (Arv Z h nb nk .byte (2 : Int32) [(ib xc0), (ib xc1)] (.int (0 : Int32)))
theorem rCR_5_0_2 (l : Launch) (Z : State) (a0 : Array Value) (hw : oHW a0 Z) (ws : List Jvm.Cond) (xb : Addr) (xk : ClassId) (xc0 xc1 xc2 xc3 xc4 : Int32) (h0 : Heap) (O0 : Ext Z.heap h0) (V_xb : Arv Z h0 xb xk .byte (5 : Int32) [(ib xc0), (ib xc1), (ib xc2), (ib xc3), (ib xc4)] (.int (0 : Int32))) :
    oCon l Z yy22 jdk_65_method_132_code 3 (some (.array .byte)) ws ({ frames := 2, cells := 1, slots := 2, locals := 34 } : Room) #[(.ref xb), (.int (0 : Int32)), (.int (2 : Int32))] h0 (Q_rCR_5_0_2 Z xb xk xc0 xc1 xc2 xc3 xc4 h0) := by
  refine oCon.of (plainFor_of_name pn_6) ?_
  intro p e s m below meth c T X hx hby hml hown hnm hret hlk hZ e0
  have hml : c.maxLocals = 3 := hml
  have K : oKp h0 h0 [] [] := oKp.nil _ _
  refine oWk.cast (g' := (mkF m 0 #[rv xb, iv 0, iv 2] [])) (by first | rfl | (simp [entryFrame, mkF, argsToLocals, Value.category]; done)) ?_
  refine oWk.to (mkF m 11 #[rv xb, iv 0, iv 2] [(.ref xb)]) (fun _ kt => zI X hx hby d22_0 rfl rfl (zH X hx hby d22_1 rfl rfl ((if0 _ _).trans (teq (by decide)).2) (zI X hx hby d22_4 rfl rfl (zA X hx hby d22_5 rfl rfl rfl (oAl X hx hZ e0 V_xb hby d22_6 rfl rfl (zN X hx hby d22_7 rfl rfl (feq (by decide)).1 (zA X hx hby d22_10 rfl rfl rfl kt))))))) ?_
  refine oWk.st (fun _ kt => zI X hx hby d22_11 rfl rfl (zI X hx hby d22_12 rfl rfl kt)) ?_
  have lt_xb := V_xb.lt
  have Oh := K.old O0 all0
  obtain ⟨_, T, h, Lc3, X, e0, hQ, st⟩ := (cs17 hw).run X hx hZ hown e0 (A := [(.ref xb), (.int (0 : Int32)), (.int (2 : Int32))]) rfl (rCRB_5_0_2 l Z a0 hw [] xb xk xc0 xc1 xc2 xc3 xc4 h0 Oh V_xb) (W := 0) (by decide) hml (Ls := #[rv xb, iv 0, iv 2]) rfl (rest := []) rfl rfl hby d22_13
  obtain ⟨nb2, nk2, rfl, K2, gn_nb2, V_nb2⟩ := hQ
  have ge_nb2 := Nat.le_trans K.le gn_nb2
  have ne_xb_nb2 : xb ≠ nb2 := Nat.ne_of_lt (Nat.lt_of_lt_of_le lt_xb gn_nb2)
  have K := K.call K2 all0
  refine oWk.to (mkF m 16 #[rv xb, iv 0, iv 2] [(.ref nb2)]) (fun _ kt => st _ kt) ?_
  exact oRetA X hx hlk hret rfl rfl (hb hby d22_16) (by rw [e0]; exact ⟨nb2, nk2, rfl, K, ge_nb2, V_nb2⟩) (by decide) (by decide)
def Q_rNS_5_0_2 (Z : State) (xb : Addr) (xk : ClassId) (xc0 xc1 xc2 xc3 xc4 : Int32) (h0 : Heap) (v : Option Value) (h : Heap) (L : List Loc) : Prop := ∃ (nr : Addr) (nb : Addr) (nk : ClassId), v = some (.ref nr) ∧ oKp h0 h [] L ∧ (h0.size ≤ nr) ∧ (h0.size ≤ nb) ∧ (Exa Z h nr Y0) ∧ (Fld Z h nr Y0 "coder" "B" (.int (0 : Int32))) ∧ (Fld Z h nr Y0 "value" "[B" (.ref nb)) ∧ (Arv Z h nb nk .byte (2 : Int32) [(ib xc0), (ib xc1)] (.int (0 : Int32)))
theorem rNS_5_0_2 (l : Launch) (Z : State) (a0 : Array Value) (hw : oHW a0 Z) (ws : List Jvm.Cond) (xb : Addr) (xk : ClassId) (xc0 xc1 xc2 xc3 xc4 : Int32) (h0 : Heap) (O0 : Ext Z.heap h0) (V_xb : Arv Z h0 xb xk .byte (5 : Int32) [(ib xc0), (ib xc1), (ib xc2), (ib xc3), (ib xc4)] (.int (0 : Int32))) :
    oCon l Z yy17 jdk_43_method_47_code 3 (some (.object Y0)) ws ({ frames := 3, cells := 2, slots := 6, locals := 50 } : Room) #[(.ref xb), (.int (0 : Int32)), (.int (2 : Int32))] h0 (Q_rNS_5_0_2 Z xb xk xc0 xc1 xc2 xc3 xc4 h0) := by
  refine oCon.of (plainFor_of_name pn_0) ?_
  intro p e s m below meth c T X hx hby hml hown hnm hret hlk hZ e0
  have hml : c.maxLocals = 3 := hml
  have K : oKp h0 h0 [] [] := oKp.nil _ _
  refine oWk.cast (g' := (mkF m 0 #[rv xb, iv 0, iv 2] [])) (by first | rfl | (simp [entryFrame, mkF, argsToLocals, Value.category]; done)) ?_
  refine oWk.st (fun _ kt => zI X hx hby d21_0 rfl rfl (zF X hx hby d21_1 rfl rfl ((if0 _ _).trans (feq (by decide)).2) (pc' := 7) rfl kt)) ?_
  obtain ⟨o1, g1⟩ : ∃ z, z = h0.size := ⟨_, rfl⟩
  have ne_xb_o1 : xb ≠ o1 := Nat.ne_of_lt (Nat.lt_of_lt_of_le V_xb.lt (Nat.le_of_eq g1.symm))
  have ge_o1 : h0.size ≤ o1 := Nat.le_trans K.le (Nat.le_of_eq g1.symm)
  obtain ⟨T, h, X, e0, E1, A1, D1, -, st⟩ := newO X hx hZ hown (oW hw 98 rfl) (oW hw 10 rfl) (oW hw 11 rfl) e0 (g := (mkF m 7 #[rv xb, iv 0, iv 2] [])) rfl (hb hby d21_7) (by decide) (by decide)
  rw [← g1] at A1 D1 st
  have K := K.ext E1
  have E_o1 := A1
  have F_coder_o1 : Fld Z h o1 Y0 "coder" "B" (.int (0 : Int32)) := D1 (Or.inr (oW hw 35 rfl)) (ty := .byte) (by decide)
  have F_value_o1 : Fld Z h o1 Y0 "value" "[B" .null := D1 (Or.inr (oW hw 37 rfl)) (ty := (.array .byte)) (by decide)
  refine oWk.to (mkF m 16 #[rv xb, iv 0, iv 2] [(.int 2), (.int 0), (.ref xb), (.ref o1), (.ref o1)]) (fun _ kt => st _ (zD X hx hby d21_10 rfl rfl rfl (zA X hx hby d21_11 rfl rfl rfl (zI X hx hby d21_12 rfl rfl (zI X hx hby d21_13 rfl rfl (zI X hx hby d21_14 rfl rfl (XS.iadd X.here hx rfl (hb hby d21_15) rfl kt))))))) ?_
  have V_xb := (V_xb.ext E1)
  have lt_xb := V_xb.lt
  have lt_o1 := E_o1.lt
  have Oh := K.old O0 all0
  obtain ⟨_, T, h, Lc3, X, e0, hQ, st⟩ := (cs18 hw).run X hx hZ hown e0 (A := [(.ref xb), (.int (0 : Int32)), (.int (2 : Int32))]) rfl (rCR_5_0_2 l Z a0 hw [] xb xk xc0 xc1 xc2 xc3 xc4 h Oh V_xb) (W := 2) (by decide) hml (Ls := #[rv xb, iv 0, iv 2]) rfl (rest := [(.ref o1), (.ref o1)]) rfl rfl hby d21_16
  obtain ⟨nb2, nk2, rfl, K2, gn_nb2, V_nb2⟩ := hQ
  have ge_nb2 := Nat.le_trans K.le gn_nb2
  have ne_xb_nb2 : xb ≠ nb2 := Nat.ne_of_lt (Nat.lt_of_lt_of_le lt_xb gn_nb2)
  have ne_o1_nb2 : o1 ≠ nb2 := Nat.ne_of_lt (Nat.lt_of_lt_of_le lt_o1 gn_nb2)
  have K := K.call K2 all0
  refine oWk.st (fun _ kt => st _ (zK X hx hby d21_19 rfl kt)) ?_
  have E_o1 := (E_o1.keep K2.1)
  have F_value_o1 := (F_value_o1.keep K2.1 nin0)
  have F_coder_o1 := (F_coder_o1.keep K2.1 nin0)
  have Oh := K.old O0 all0
  obtain ⟨_, T, h, Lc5, X, e0, hQ, st⟩ := (cs19 hw).run X hx hZ hown e0 (A := [(.ref o1), (.ref nb2), (.int (0 : Int32))]) ⟨rfl, _, _, rfl⟩ (rSIn l Z a0 hw [] o1 nb2 .null (.int (0 : Int32)) h Oh (Nat.le_trans O0.1 ge_o1) E_o1 F_value_o1 F_coder_o1) (W := 1) (by decide) hml (Ls := #[rv xb, iv 0, iv 2]) rfl (rest := [(.ref o1)]) rfl rfl hby d21_20
  obtain ⟨rfl, K4, E_o1, F_value_o1, F_coder_o1⟩ := hQ
  have K := K.call K4 (allS (Or.inr ge_o1) all0)
  refine oWk.to (mkF m 23 #[rv xb, iv 0, iv 2] [(.ref o1)]) (fun _ kt => st _ kt) ?_
  have V_nb2 := (V_nb2.keep K4.1 (ninS (Ne.symm ne_o1_nb2) nin0))
  exact oRetA X hx hlk hret rfl rfl (hb hby d21_23) (by rw [e0]; exact ⟨o1, nb2, nk2, rfl, K, ge_o1, ge_nb2, E_o1, F_coder_o1, F_value_o1, V_nb2⟩) (by decide) (by decide)
def Q_rSub_5_0_2 (Z : State) (xa xb : Addr) (xk : ClassId) (xfm : Value) (xz xc0 xc1 xc2 xc3 xc4 : Int32) (h0 : Heap) (v : Option Value) (h : Heap) (L : List Loc) : Prop := ∃ (nr : Addr) (nb : Addr) (nk : ClassId), v = some (.ref nr) ∧ oKp h0 h [] L ∧ (h0.size ≤ nr) ∧ (h0.size ≤ nb) ∧ (Exa Z h nr Y0) ∧ (Fld Z h nr Y0 "coder" "B" (.int (0 : Int32))) ∧ (Fld Z h nr Y0 "value" "[B" (.ref nb)) ∧ (Arv Z h nb nk .byte (2 : Int32) [(ib xc0), (ib xc1)] (.int (0 : Int32)))
theorem rSub_5_0_2 (l : Launch) (Z : State) (a0 : Array Value) (hw : oHW a0 Z) (ws : List Jvm.Cond) (xa xb : Addr) (xk : ClassId) (xfm : Value) (xz xc0 xc1 xc2 xc3 xc4 : Int32) (h0 : Heap) (O0 : Ext Z.heap h0) (S_COMPACT_STRINGS : Sta Z Z.heap Y0 Y1 "Z" (.int xz)) (hz : ¬ xz = (0 : Int32)) (S_SIOOBE_FORMATTER : Sta Z Z.heap Y2 Y3 Y4 xfm) (hcat : xfm.category = 1) (E_xa : Exa Z h0 xa Y0) (F_coder_xa : Fld Z h0 xa Y0 "coder" "B" (.int (0 : Int32))) (F_value_xa : Fld Z h0 xa Y0 "value" "[B" (.ref xb)) (V_xb : Arv Z h0 xb xk .byte (5 : Int32) [(ib xc0), (ib xc1), (ib xc2), (ib xc3), (ib xc4)] (.int (0 : Int32))) :
    oCon l Z yy18 jdk_42_method_92_code 5 (some (.object Y0)) ws ({ frames := 4, cells := 2, slots := 6, locals := 64 } : Room) #[(.ref xa), (.int (0 : Int32)), (.int (2 : Int32))] h0 (Q_rSub_5_0_2 Z xa xb xk xfm xz xc0 xc1 xc2 xc3 xc4 h0) := by
  refine oCon.of (plainFor_of_name pn_3) ?_
  intro p e s m below meth c T X hx hby hml hown hnm hret hlk hZ e0
  have hml : c.maxLocals = 5 := hml
  have K : oKp h0 h0 [] [] := oKp.nil _ _
  refine oWk.cast (g' := (mkF m 0 #[rv xa, iv 0, iv 2, uu, uu] [])) (by first | rfl | (simp [entryFrame, mkF, argsToLocals, Value.category]; done)) ?_
  refine oWk.st (fun _ kt => zA X hx hby d18_0 rfl rfl rfl kt) ?_
  have Oh := K.old O0 all0
  obtain ⟨T, L2, X, e0, K, st⟩ := (cs10 hw).pure X hx hZ hown e0 K (A := [(.ref xa)]) ⟨rfl, _, _, rfl, E_xa⟩ (rLn_5 l Z a0 hw [] xa xb xk xz xc0 xc1 xc2 xc3 xc4 h0 Oh S_COMPACT_STRINGS hz E_xa F_coder_xa F_value_xa V_xb) (fun _ _ _ q => q) (W := 0) (by decide) hml (Ls := #[rv xa, iv 0, iv 2, uu, uu]) rfl (rest := []) rfl rfl hby d18_1
  refine oWk.st (fun _ kt => st _ (zSn X hx hby d18_4 rfl rfl (l' := #[rv xa, iv 0, iv 2, iv 5, uu]) rfl (zI X hx hby d18_5 rfl rfl (zI X hx hby d18_6 rfl rfl (zI X hx hby d18_7 rfl rfl kt))))) ?_
  obtain ⟨T, L4, X, e0, K, st⟩ := (cs13 hw).pure X hx hZ hown e0 K (A := [(.int (0 : Int32)), (.int (2 : Int32)), (.int (5 : Int32))]) rfl (rCkB l Z a0 hw [] (0 : Int32) (2 : Int32) (5 : Int32) xfm h0 Oh S_SIOOBE_FORMATTER hcat (by decide) (by decide) (by decide)) (fun _ _ _ q => q) (W := 0) (by decide) hml (Ls := #[rv xa, iv 0, iv 2, iv 5, uu]) rfl (rest := []) rfl rfl hby d18_8
  refine oWk.to (mkF m 23 #[rv xa, iv 0, iv 2, iv 5, uu] [(.int 2)]) (fun _ kt => st _ (zI X hx hby d18_11 rfl rfl (zH X hx hby d18_12 rfl rfl ((if0 _ _).trans (teq (by decide)).2) (zI X hx hby d18_15 rfl rfl (zI X hx hby d18_16 rfl rfl (zY X hx hby d18_17 rfl rfl (feq (by decide)).2 (pc' := 22) rfl (zI X hx hby d18_22 rfl rfl kt))))))) ?_
  refine oWk.st (fun _ kt => zI X hx hby d18_23 rfl rfl (XS.isub X.here hx rfl (hb hby d18_24) rfl (zS X hx hby d18_25 rfl rfl (l' := #[rv xa, iv 0, iv 2, iv 5, iv 2]) rfl (zA X hx hby d18_27 rfl rfl rfl kt)))) ?_
  obtain ⟨T, L6, X, e0, K, st⟩ := (cs8 hw).pure X hx hZ hown e0 K (A := [(.ref xa)]) ⟨rfl, _, _, rfl, E_xa⟩ (rIsL l Z a0 hw [] xa xz h0 Oh S_COMPACT_STRINGS hz F_coder_xa) (fun _ _ _ q => q) (W := 0) (by decide) hml (Ls := #[rv xa, iv 0, iv 2, iv 5, iv 2]) rfl (rest := []) rfl rfl hby d18_28
  refine oWk.st (fun _ kt => st _ (zH X hx hby d18_31 rfl rfl ((if0 _ _).trans (feq (by decide)).1) (zA X hx hby d18_34 rfl rfl rfl kt))) ?_
  obtain ⟨T, X, e0, st⟩ := getF X hx hZ hown (host := "") (Or.inl (oW hw 36 rfl)) Via.refl e0 F_value_xa (g := (mkF m 35 #[rv xa, iv 0, iv 2, iv 5, iv 2] [(.ref xa)])) rfl rfl (hb hby d18_35)
  refine oWk.st (fun _ kt => st _ (zI X hx hby d18_38 rfl rfl (zJ X hx hby d18_39 rfl rfl kt))) ?_
  have lt_xa := E_xa.lt
  have lt_xb := V_xb.lt
  obtain ⟨_, T, h, Lc8, X, e0, hQ, st⟩ := (cs20 hw).run X hx hZ hown e0 (A := [(.ref xb), (.int (0 : Int32)), (.int (2 : Int32))]) rfl (rNS_5_0_2 l Z a0 hw [] xb xk xc0 xc1 xc2 xc3 xc4 h0 Oh V_xb) (W := 0) (by decide) hml (Ls := #[rv xa, iv 0, iv 2, iv 5, iv 2]) rfl (rest := []) rfl rfl hby d18_41
  obtain ⟨nr7, nb7, nk7, rfl, K7, gn_nr7, gn_nb7, E_nr7, F_coder_nr7, F_value_nr7, V_nb7⟩ := hQ
  have ge_nr7 := Nat.le_trans K.le gn_nr7
  have ne_xa_nr7 : xa ≠ nr7 := Nat.ne_of_lt (Nat.lt_of_lt_of_le lt_xa gn_nr7)
  have ne_xb_nr7 : xb ≠ nr7 := Nat.ne_of_lt (Nat.lt_of_lt_of_le lt_xb gn_nr7)
  have ge_nb7 := Nat.le_trans K.le gn_nb7
  have ne_xa_nb7 : xa ≠ nb7 := Nat.ne_of_lt (Nat.lt_of_lt_of_le lt_xa gn_nb7)
  have ne_xb_nb7 : xb ≠ nb7 := Nat.ne_of_lt (Nat.lt_of_lt_of_le lt_xb gn_nb7)
  have K := K.call K7 all0
  refine oWk.to (mkF m 57 #[rv xa, iv 0, iv 2, iv 5, iv 2] [(.ref nr7)]) (fun _ kt => st _ (zG X hx hby d18_44 rfl (pc' := 57) rfl kt)) ?_
  exact oRetA X hx hlk hret rfl rfl (hb hby d18_57) (by rw [e0]; exact ⟨nr7, nb7, nk7, rfl, K, ge_nr7, ge_nb7, E_nr7, F_coder_nr7, F_value_nr7, V_nb7⟩) (by decide) (by decide)
def Q_rSP_5_2 (Z : State) (xa xb : Addr) (xk : ClassId) (xfm : Value) (xz xc0 xc1 xc2 xc3 xc4 : Int32) (h0 : Heap) (v : Option Value) (h : Heap) (L : List Loc) : Prop := ∃ (nr : Addr) (nb : Addr) (nk : ClassId), v = some (.ref nr) ∧ oKp h0 h [] L ∧ (h0.size ≤ nr) ∧ (h0.size ≤ nb) ∧ (Exa Z h nr Y0) ∧ (Fld Z h nr Y0 "coder" "B" (.int (0 : Int32))) ∧ (Fld Z h nr Y0 "value" "[B" (.ref nb)) ∧ (Arv Z h nb nk .byte (2 : Int32) [(ib xc0), (ib xc1)] (.int (0 : Int32)))
theorem rSP_5_2 (l : Launch) (Z : State) (a0 : Array Value) (hw : oHW a0 Z) (ws : List Jvm.Cond) (xa xb : Addr) (xk : ClassId) (xfm : Value) (xz xc0 xc1 xc2 xc3 xc4 : Int32) (h0 : Heap) (O0 : Ext Z.heap h0) (S_COMPACT_STRINGS : Sta Z Z.heap Y0 Y1 "Z" (.int xz)) (hz : ¬ xz = (0 : Int32)) (S_SIOOBE_FORMATTER : Sta Z Z.heap Y2 Y3 Y4 xfm) (hcat : xfm.category = 1) (E_xa : Exa Z h0 xa Y0) (F_coder_xa : Fld Z h0 xa Y0 "coder" "B" (.int (0 : Int32))) (F_value_xa : Fld Z h0 xa Y0 "value" "[B" (.ref xb)) (V_xb : Arv Z h0 xb xk .byte (5 : Int32) [(ib xc0), (ib xc1), (ib xc2), (ib xc3), (ib xc4)] (.int (0 : Int32))) (hu2 : (xc2.toInt8.toInt32) = (58 : Int32)) (hu3 : ¬ (xc3.toInt8.toInt32) = (58 : Int32)) (hu4 : ¬ (xc4.toInt8.toInt32) = (58 : Int32)) :
    oCon l Z yy19 prog_3_method_2_code 1 (some (.object Y0)) ws ({ frames := 5, cells := 2, slots := 6, locals := 80 } : Room) #[(.ref xa)] h0 (Q_rSP_5_2 Z xa xb xk xfm xz xc0 xc1 xc2 xc3 xc4 h0) := by
  refine oCon.of (plainFor_of_name pn_5) ?_
  intro p e s m below meth c T X hx hby hml hown hnm hret hlk hZ e0
  have hml : c.maxLocals = 1 := hml
  have K : oKp h0 h0 [] [] := oKp.nil _ _
  refine oWk.cast (g' := (mkF m 0 #[rv xa] [])) (by first | rfl | (simp [entryFrame, mkF, argsToLocals, Value.category]; done)) ?_
  refine oWk.st (fun _ kt => zA X hx hby d9_0 rfl rfl rfl (zK X hx hby d9_1 rfl (zA X hx hby d9_2 rfl rfl rfl (zL X hx hby d9_3 rfl kt)))) ?_
  have Oh := K.old O0 all0
  obtain ⟨T, L2, X, e0, K, st⟩ := (cs14 hw).pure X hx hZ hown e0 K (A := [(.ref xa), (.int (58 : Int32))]) ⟨rfl, _, _, rfl, E_xa⟩ (rLK_5_2 l Z a0 hw [] xa xb xk xz xc0 xc1 xc2 xc3 xc4 h0 Oh S_COMPACT_STRINGS hz E_xa F_coder_xa F_value_xa V_xb hu2 hu3 hu4) (fun _ _ _ q => q) (W := 2) (by decide) hml (Ls := #[rv xa]) rfl (rest := [(.int (0 : Int32)), (.ref xa)]) rfl rfl hby d9_5
  refine oWk.st (fun _ kt => st _ kt) ?_
  have lt_xa := E_xa.lt
  have lt_xb := V_xb.lt
  obtain ⟨_, T, h, Lc4, X, e0, hQ, st⟩ := (cs21 hw).run X hx hZ hown e0 (A := [(.ref xa), (.int (0 : Int32)), (.int (2 : Int32))]) ⟨rfl, _, _, rfl, E_xa⟩ (rSub_5_0_2 l Z a0 hw [] xa xb xk xfm xz xc0 xc1 xc2 xc3 xc4 h0 Oh S_COMPACT_STRINGS hz S_SIOOBE_FORMATTER hcat E_xa F_coder_xa F_value_xa V_xb) (W := 0) (by decide) hml (Ls := #[rv xa]) rfl (rest := []) rfl rfl hby d9_8
  obtain ⟨nr3, nb3, nk3, rfl, K3, gn_nr3, gn_nb3, E_nr3, F_coder_nr3, F_value_nr3, V_nb3⟩ := hQ
  have ge_nr3 := Nat.le_trans K.le gn_nr3
  have ne_xa_nr3 : xa ≠ nr3 := Nat.ne_of_lt (Nat.lt_of_lt_of_le lt_xa gn_nr3)
  have ne_xb_nr3 : xb ≠ nr3 := Nat.ne_of_lt (Nat.lt_of_lt_of_le lt_xb gn_nr3)
  have ge_nb3 := Nat.le_trans K.le gn_nb3
  have ne_xa_nb3 : xa ≠ nb3 := Nat.ne_of_lt (Nat.lt_of_lt_of_le lt_xa gn_nb3)
  have ne_xb_nb3 : xb ≠ nb3 := Nat.ne_of_lt (Nat.lt_of_lt_of_le lt_xb gn_nb3)
  have K := K.call K3 all0
  refine oWk.to (mkF m 11 #[rv xa] [(.ref nr3)]) (fun _ kt => st _ kt) ?_
  exact oRetA X hx hlk hret rfl rfl (hb hby d9_11) (by rw [e0]; exact ⟨nr3, nb3, nk3, rfl, K, ge_nr3, ge_nb3, E_nr3, F_coder_nr3, F_value_nr3, V_nb3⟩) (by decide) (by decide)
def Q_rLI_5_3 (Z : State) (xb : Addr) (xk : ClassId) (xc0 xc1 xc2 xc3 xc4 : Int32) (h0 : Heap) (v : Option Value) (h : Heap) (L : List Loc) : Prop := v = some (.int (3 : Int32)) ∧ h = h0 ∧ oKp h0 h [] L
theorem rLI_5_3 (l : Launch) (Z : State) (a0 : Array Value) (hw : oHW a0 Z) (ws : List Jvm.Cond) (xb : Addr) (xk : ClassId) (xc0 xc1 xc2 xc3 xc4 : Int32) (h0 : Heap) (O0 : Ext Z.heap h0) (V_xb : Arv Z h0 xb xk .byte (5 : Int32) [(ib xc0), (ib xc1), (ib xc2), (ib xc3), (ib xc4)] (.int (0 : Int32))) (hu3 : (xc3.toInt8.toInt32) = (58 : Int32)) (hu4 : ¬ (xc4.toInt8.toInt32) = (58 : Int32)) :
    oCon l Z yy9 jdk_43_method_27_code 4 (some .int) ws ({ frames := 1, cells := 0, slots := 0, locals := 13 } : Room) #[(.ref xb), (.int (58 : Int32)), (.int (4 : Int32))] h0 (Q_rLI_5_3 Z xb xk xc0 xc1 xc2 xc3 xc4 h0) := by
  refine oCon.of (plainFor_of_name pn_0) ?_
  intro p e s m below meth c T X hx hby hml hown hnm hret hlk hZ e0
  have hml : c.maxLocals = 4 := hml
  have K : oKp h0 h0 [] [] := oKp.nil _ _
  refine oWk.cast (g' := (mkF m 0 #[rv xb, iv 58, iv 4, uu] [])) (by first | rfl | (simp [entryFrame, mkF, argsToLocals, Value.category]; done)) ?_
  refine oWk.st (fun _ kt => zI X hx hby d15_0 rfl rfl kt) ?_
  have Oh := K.old O0 all0
  obtain ⟨T, L2, X, e0, K, st⟩ := (cs5 hw).pure X hx hZ hown e0 K (A := [(.int (58 : Int32))]) rfl (rCanI l Z a0 hw []  h0 Oh ) (fun _ _ _ q => q) (W := 0) (by decide) hml (Ls := #[rv xb, iv 58, iv 4, uu]) rfl (rest := []) rfl rfl hby d15_1
  refine oWk.to (mkF m 14 #[rv xb, iv 58, iv 4, uu] [(.int 4), (.int 4)]) (fun _ kt => st _ (zF X hx hby d15_4 rfl rfl ((if0 _ _).trans (feq (by decide)).2) (pc' := 9) rfl (zI X hx hby d15_9 rfl rfl (zA X hx hby d15_10 rfl rfl rfl (oAl X hx hZ e0 V_xb hby d15_11 rfl rfl (zK X hx hby d15_12 rfl (XS.isub X.here hx rfl (hb hby d15_13) rfl kt))))))) ?_
  obtain ⟨T, L5, X, e0, K, st⟩ := (cs6 hw).pure X hx hZ hown e0 K (A := [(.int (4 : Int32)), (.int (4 : Int32))]) rfl (rMin_4_4 l Z a0 hw []  h0 Oh ) (fun _ _ _ q => q) (W := 0) (by decide) hml (Ls := #[rv xb, iv 58, iv 4, uu]) rfl (rest := []) rfl rfl hby d15_14
  refine oWk.to (mkF m 25 #[rv xb, iv 58, iv 4, iv 4] [(ib xc4)]) (fun _ kt => st _ (zSn X hx hby d15_17 rfl rfl (l' := #[rv xb, iv 58, iv 4, iv 4]) rfl (zI X hx hby d15_18 rfl rfl (zH X hx hby d15_19 rfl rfl ((if0 _ _).trans (flt (by decide)).1) (zA X hx hby d15_22 rfl rfl rfl (zI X hx hby d15_23 rfl rfl (oLdB X hx hZ e0 V_xb (4 : Int32) (ib xc4) ⟨by decide, by decide⟩ rfl hby d15_24 rfl rfl kt))))))) ?_
  refine oWk.to (mkF m 27 #[rv xb, iv 58, iv 4, iv 4] [(.int 58), (ib xc4)]) (fun _ kt => zI X hx hby d15_25 rfl rfl (XS.i2b X.here hx rfl (hb hby d15_26) rfl kt)) ?_
  refine oWk.to (mkF m 24 #[rv xb, iv 58, iv 4, iv 3] [(.int 3), (.ref xb)]) (fun _ kt => zY X hx hby d15_27 rfl rfl (feq hu4).2 (pc' := 32) rfl (zC X hx hby d15_32 rfl rfl (l' := #[rv xb, iv 58, iv 4, iv ((4 : Int32) + (-1 : Int32))]) rfl (zG X hx hby d15_35 rfl (pc' := 18) rfl (zI X hx hby d15_18 rfl rfl (zH X hx hby d15_19 rfl rfl ((if0 _ _).trans (flt (by decide)).1) (zA X hx hby d15_22 rfl rfl rfl (zI X hx hby d15_23 rfl rfl kt))))))) ?_
  refine oWk.to (mkF m 27 #[rv xb, iv 58, iv 4, iv 3] [(.int 58), (ib xc3)]) (fun _ kt => oLdB X hx hZ e0 V_xb (3 : Int32) (ib xc3) ⟨by decide, by decide⟩ rfl hby d15_24 rfl rfl (zI X hx hby d15_25 rfl rfl (XS.i2b X.here hx rfl (hb hby d15_26) rfl kt))) ?_
  refine oWk.to (mkF m 31 #[rv xb, iv 58, iv 4, iv 3] [(.int 3)]) (fun _ kt => zN X hx hby d15_27 rfl rfl (teq hu3).2 (zI X hx hby d15_30 rfl rfl kt)) ?_
  exact oRetI X hx hlk hret (hb hby d15_31) (by rw [e0]; exact ⟨rfl, rfl, K⟩) (by decide) (by decide)
def Q_rLJ_5_3 (Z : State) (xa xb : Addr) (xk : ClassId) (xz xc0 xc1 xc2 xc3 xc4 : Int32) (h0 : Heap) (v : Option Value) (h : Heap) (L : List Loc) : Prop := v = some (.int (3 : Int32)) ∧ h = h0 ∧ oKp h0 h [] L
theorem rLJ_5_3 (l : Launch) (Z : State) (a0 : Array Value) (hw : oHW a0 Z) (ws : List Jvm.Cond) (xa xb : Addr) (xk : ClassId) (xz xc0 xc1 xc2 xc3 xc4 : Int32) (h0 : Heap) (O0 : Ext Z.heap h0) (S_COMPACT_STRINGS : Sta Z Z.heap Y0 Y1 "Z" (.int xz)) (hz : ¬ xz = (0 : Int32)) (E_xa : Exa Z h0 xa Y0) (F_coder_xa : Fld Z h0 xa Y0 "coder" "B" (.int (0 : Int32))) (F_value_xa : Fld Z h0 xa Y0 "value" "[B" (.ref xb)) (V_xb : Arv Z h0 xb xk .byte (5 : Int32) [(ib xc0), (ib xc1), (ib xc2), (ib xc3), (ib xc4)] (.int (0 : Int32))) (hu3 : (xc3.toInt8.toInt32) = (58 : Int32)) (hu4 : ¬ (xc4.toInt8.toInt32) = (58 : Int32)) :
    oCon l Z yy13 jdk_42_method_83_code 3 (some .int) ws ({ frames := 2, cells := 0, slots := 0, locals := 28 } : Room) #[(.ref xa), (.int (58 : Int32)), (.int (4 : Int32))] h0 (Q_rLJ_5_3 Z xa xb xk xz xc0 xc1 xc2 xc3 xc4 h0) := by
  refine oCon.of (plainFor_of_name pn_3) ?_
  intro p e s m below meth c T X hx hby hml hown hnm hret hlk hZ e0
  have hml : c.maxLocals = 3 := hml
  have K : oKp h0 h0 [] [] := oKp.nil _ _
  refine oWk.cast (g' := (mkF m 0 #[rv xa, iv 58, iv 4] [])) (by first | rfl | (simp [entryFrame, mkF, argsToLocals, Value.category]; done)) ?_
  refine oWk.st (fun _ kt => zA X hx hby d13_0 rfl rfl rfl kt) ?_
  have Oh := K.old O0 all0
  obtain ⟨T, L2, X, e0, K, st⟩ := (cs8 hw).pure X hx hZ hown e0 K (A := [(.ref xa)]) ⟨rfl, _, _, rfl, E_xa⟩ (rIsL l Z a0 hw [] xa xz h0 Oh S_COMPACT_STRINGS hz F_coder_xa) (fun _ _ _ q => q) (W := 0) (by decide) hml (Ls := #[rv xa, iv 58, iv 4]) rfl (rest := []) rfl rfl hby d13_1
  refine oWk.st (fun _ kt => st _ (zH X hx hby d13_4 rfl rfl ((if0 _ _).trans (feq (by decide)).1) (zA X hx hby d13_7 rfl rfl rfl kt))) ?_
  obtain ⟨T, X, e0, st⟩ := getF X hx hZ hown (host := "") (Or.inl (oW hw 36 rfl)) Via.refl e0 F_value_xa (g := (mkF m 8 #[rv xa, iv 58, iv 4] [(.ref xa)])) rfl rfl (hb hby d13_8)
  refine oWk.st (fun _ kt => st _ (zI X hx hby d13_11 rfl rfl (zI X hx hby d13_12 rfl rfl kt))) ?_
  obtain ⟨T, L4, X, e0, K, st⟩ := (cs9 hw).pure X hx hZ hown e0 K (A := [(.ref xb), (.int (58 : Int32)), (.int (4 : Int32))]) rfl (rLI_5_3 l Z a0 hw [] xb xk xc0 xc1 xc2 xc3 xc4 h0 Oh V_xb hu3 hu4) (fun _ _ _ q => q) (W := 0) (by decide) hml (Ls := #[rv xa, iv 58, iv 4]) rfl (rest := []) rfl rfl hby d13_13
  refine oWk.to (mkF m 28 #[rv xa, iv 58, iv 4] [(.int 3)]) (fun _ kt => st _ (zG X hx hby d13_16 rfl (pc' := 28) rfl kt)) ?_
  exact oRetI X hx hlk hret (hb hby d13_28) (by rw [e0]; exact ⟨rfl, rfl, K⟩) (by decide) (by decide)
def Q_rLK_5_3 (Z : State) (xa xb : Addr) (xk : ClassId) (xz xc0 xc1 xc2 xc3 xc4 : Int32) (h0 : Heap) (v : Option Value) (h : Heap) (L : List Loc) : Prop := v = some (.int (3 : Int32)) ∧ h = h0 ∧ oKp h0 h [] L
theorem rLK_5_3 (l : Launch) (Z : State) (a0 : Array Value) (hw : oHW a0 Z) (ws : List Jvm.Cond) (xa xb : Addr) (xk : ClassId) (xz xc0 xc1 xc2 xc3 xc4 : Int32) (h0 : Heap) (O0 : Ext Z.heap h0) (S_COMPACT_STRINGS : Sta Z Z.heap Y0 Y1 "Z" (.int xz)) (hz : ¬ xz = (0 : Int32)) (E_xa : Exa Z h0 xa Y0) (F_coder_xa : Fld Z h0 xa Y0 "coder" "B" (.int (0 : Int32))) (F_value_xa : Fld Z h0 xa Y0 "value" "[B" (.ref xb)) (V_xb : Arv Z h0 xb xk .byte (5 : Int32) [(ib xc0), (ib xc1), (ib xc2), (ib xc3), (ib xc4)] (.int (0 : Int32))) (hu3 : (xc3.toInt8.toInt32) = (58 : Int32)) (hu4 : ¬ (xc4.toInt8.toInt32) = (58 : Int32)) :
    oCon l Z yy14 jdk_42_method_82_code 2 (some .int) ws ({ frames := 3, cells := 0, slots := 0, locals := 42 } : Room) #[(.ref xa), (.int (58 : Int32))] h0 (Q_rLK_5_3 Z xa xb xk xz xc0 xc1 xc2 xc3 xc4 h0) := by
  refine oCon.of (plainFor_of_name pn_3) ?_
  intro p e s m below meth c T X hx hby hml hown hnm hret hlk hZ e0
  have hml : c.maxLocals = 2 := hml
  have K : oKp h0 h0 [] [] := oKp.nil _ _
  refine oWk.cast (g' := (mkF m 0 #[rv xa, iv 58] [])) (by first | rfl | (simp [entryFrame, mkF, argsToLocals, Value.category]; done)) ?_
  refine oWk.st (fun _ kt => zA X hx hby d10_0 rfl rfl rfl (zI X hx hby d10_1 rfl rfl (zA X hx hby d10_2 rfl rfl rfl kt))) ?_
  have Oh := K.old O0 all0
  obtain ⟨T, L2, X, e0, K, st⟩ := (cs10 hw).pure X hx hZ hown e0 K (A := [(.ref xa)]) ⟨rfl, _, _, rfl, E_xa⟩ (rLn_5 l Z a0 hw [] xa xb xk xz xc0 xc1 xc2 xc3 xc4 h0 Oh S_COMPACT_STRINGS hz E_xa F_coder_xa F_value_xa V_xb) (fun _ _ _ q => q) (W := 2) (by decide) hml (Ls := #[rv xa, iv 58]) rfl (rest := [(.int (58 : Int32)), (.ref xa)]) rfl rfl hby d10_3
  refine oWk.st (fun _ kt => st _ (zK X hx hby d10_6 rfl (XS.isub X.here hx rfl (hb hby d10_7) rfl kt))) ?_
  obtain ⟨T, L4, X, e0, K, st⟩ := (cs11 hw).pure X hx hZ hown e0 K (A := [(.ref xa), (.int (58 : Int32)), (.int (4 : Int32))]) ⟨rfl, _, _, rfl, E_xa⟩ (rLJ_5_3 l Z a0 hw [] xa xb xk xz xc0 xc1 xc2 xc3 xc4 h0 Oh S_COMPACT_STRINGS hz E_xa F_coder_xa F_value_xa V_xb hu3 hu4) (fun _ _ _ q => q) (W := 0) (by decide) hml (Ls := #[rv xa, iv 58]) rfl (rest := []) rfl rfl hby d10_8
  refine oWk.to (mkF m 11 #[rv xa, iv 58] [(.int 3)]) (fun _ kt => st _ kt) ?_
  exact oRetI X hx hlk hret (hb hby d10_11) (by rw [e0]; exact ⟨rfl, rfl, K⟩) (by decide) (by decide)
def Q_rMin_5_3 (Z : State)  (h0 : Heap) (v : Option Value) (h : Heap) (L : List Loc) : Prop := v = some (.int (3 : Int32)) ∧ h = h0 ∧ oKp h0 h [] L
theorem rMin_5_3 (l : Launch) (Z : State) (a0 : Array Value) (hw : oHW a0 Z) (ws : List Jvm.Cond)  (h0 : Heap) (O0 : Ext Z.heap h0)  :
    oCon l Z yy8 jdk_29_method_69_code 2 (some .int) ws ({ frames := 0, cells := 0, slots := 0, locals := 0 } : Room) #[(.int (5 : Int32)), (.int (3 : Int32))] h0 (Q_rMin_5_3 Z  h0) := by
  refine oCon.of (Jvm.Free.JP.mathPlain rfl (by decide +kernel)) ?_
  intro p e s m below meth c T X hx hby hml hown hnm hret hlk hZ e0
  have hml : c.maxLocals = 2 := hml
  have K : oKp h0 h0 [] [] := oKp.nil _ _
  refine oWk.cast (g' := (mkF m 0 #[iv 5, iv 3] [])) (by first | rfl | (simp [entryFrame, mkF, argsToLocals, Value.category]; done)) ?_
  refine oWk.to (mkF m 10 #[iv 5, iv 3] [(.int 3)]) (fun _ kt => zI X hx hby d17_0 rfl rfl (zI X hx hby d17_1 rfl rfl (zY X hx hby d17_2 rfl rfl (tlt (by decide)).2.2.1 (pc' := 9) rfl (zI X hx hby d17_9 rfl rfl kt)))) ?_
  exact oRetI X hx hlk hret (hb hby d17_10) (by rw [e0]; exact ⟨rfl, rfl, K⟩) (by decide) (by decide)
def Q_rCRB_5_0_3 (Z : State) (xb : Addr) (xk : ClassId) (xc0 xc1 xc2 xc3 xc4 : Int32) (h0 : Heap) (v : Option Value) (h : Heap) (L : List Loc) : Prop := ∃ (nb : Addr) (nk : ClassId), v = some (.ref nb) ∧ oKp h0 h [] L ∧ (h0.size ≤ nb) ∧ (Arv Z h nb nk .byte (3 : Int32) [(ib xc0), (ib xc1), (ib xc2)] (.int (0 : Int32)))
theorem rCRB_5_0_3 (l : Launch) (Z : State) (a0 : Array Value) (hw : oHW a0 Z) (ws : List Jvm.Cond) (xb : Addr) (xk : ClassId) (xc0 xc1 xc2 xc3 xc4 : Int32) (h0 : Heap) (O0 : Ext Z.heap h0) (V_xb : Arv Z h0 xb xk .byte (5 : Int32) [(ib xc0), (ib xc1), (ib xc2), (ib xc3), (ib xc4)] (.int (0 : Int32))) :
    oCon l Z yy21 jdk_65_method_133_code 5 (some (.array .byte)) ws ({ frames := 1, cells := 1, slots := 3, locals := 18 } : Room) #[(.ref xb), (.int (0 : Int32)), (.int (3 : Int32))] h0 (Q_rCRB_5_0_3 Z xb xk xc0 xc1 xc2 xc3 xc4 h0) := by
  refine oCon.of (plainFor_of_name pn_6) ?_
  intro p e s m below meth c T X hx hby hml hown hnm hret hlk hZ e0
  have hml : c.maxLocals = 5 := hml
  have K : oKp h0 h0 [] [] := oKp.nil _ _
  refine oWk.cast (g' := (mkF m 0 #[rv xb, iv 0, iv 3, uu, uu] [])) (by first | rfl | (simp [entryFrame, mkF, argsToLocals, Value.category]; done)) ?_
  refine oWk.st (fun _ kt => zI X hx hby d23_0 rfl rfl (zI X hx hby d23_1 rfl rfl kt)) ?_
  have Oh := K.old O0 all0
  obtain ⟨T, L2, X, e0, K, st⟩ := (cs15 hw).pure X hx hZ hown e0 K (A := [(.int (0 : Int32)), (.int (3 : Int32))]) rfl (rCkL_0_3 l Z a0 hw []  h0 Oh ) (fun _ _ _ q => q) (W := 0) (by decide) hml (Ls := #[rv xb, iv 0, iv 3, uu, uu]) rfl (rest := []) rfl rfl hby d23_2
  refine oWk.st (fun _ kt => st _ (zI X hx hby d23_5 rfl rfl (zI X hx hby d23_6 rfl rfl (XS.isub X.here hx rfl (hb hby d23_7) rfl (zSn X hx hby d23_8 rfl rfl (l' := #[rv xb, iv 0, iv 3, iv 3, uu]) rfl (zI X hx hby d23_9 rfl rfl kt)))))) ?_
  obtain ⟨o3, g3⟩ : ∃ z, z = h0.size := ⟨_, rfl⟩
  have ne_xb_o3 : xb ≠ o3 := Nat.ne_of_lt (Nat.lt_of_lt_of_le V_xb.lt (Nat.le_of_eq g3.symm))
  have ge_o3 : h0.size ≤ o3 := Nat.le_trans K.le (Nat.le_of_eq g3.symm)
  obtain ⟨T, h, k3, X, e0, E3, A3, st⟩ := newP X hx hZ (oW hw 27 rfl) e0 (g := (mkF m 10 #[rv xb, iv 0, iv 3, iv 3, uu] [(.int 3)])) rfl (hb hby d23_10) rfl (by decide) (cap := 3) (by decide) (by decide) (by decide) (by decide)
  rw [← g3] at A3 st
  have K := K.ext E3
  have V_o3 : Arv Z h o3 k3 .byte (3 : Int32) [(.int (0 : Int32)), (.int (0 : Int32)), (.int (0 : Int32))] (.int (0 : Int32)) := (Arv.new A3 (by decide)).pad (pad_rep [] (.int (0 : Int32)) 3)
  refine oWk.to (mkF m 20 #[rv xb, iv 0, iv 3, iv 3, rv o3] [(.ref xb), (.int 0), (.ref o3), (.int 0), (.ref xb)]) (fun _ kt => st _ (zT X hx hby d23_12 rfl rfl rfl (l' := #[rv xb, iv 0, iv 3, iv 3, rv o3]) rfl (zA X hx hby d23_14 rfl rfl rfl (zI X hx hby d23_15 rfl rfl (zB X hx hby d23_16 rfl rfl rfl (zK X hx hby d23_18 rfl (zA X hx hby d23_19 rfl rfl rfl kt))))))) ?_
  have V_xb := (V_xb.ext E3)
  refine oWk.st (fun _ kt => oAl X hx hZ e0 V_xb hby d23_20 rfl rfl (zI X hx hby d23_21 rfl rfl (XS.isub X.here hx rfl (hb hby d23_22) rfl (zI X hx hby d23_23 rfl rfl kt)))) ?_
  have Oh := K.old O0 all0
  obtain ⟨T, L6, X, e0, K, st⟩ := (cs16 hw).pure X hx hZ hown e0 K (A := [(.int (5 : Int32)), (.int (3 : Int32))]) rfl (rMin_5_3 l Z a0 hw []  h Oh ) (fun _ _ _ q => q) (W := 4) (by decide) hml (Ls := #[rv xb, iv 0, iv 3, iv 3, rv o3]) rfl (rest := [(.int (0 : Int32)), (.ref o3), (.int (0 : Int32)), (.ref xb)]) rfl rfl hby d23_24
  refine oWk.st (fun _ kt => st _ kt) ?_
  obtain ⟨T, h, L7, X, e0, N7, C7, V7, st⟩ := cpA X hx hZ hown (oW hw 110 rfl) (oW hw 113 rfl) (oW hw 111 rfl) (oW hw 112 rfl) e0 (us := [(ib xc0), (ib xc1), (ib xc2)]) V_xb V_o3 (Or.inl ⟨rfl, rfl⟩) (by decide) (by decide) (by decide) (by decide) (by decide) rfl (by decide) K.fr ge_o3 (g := (mkF m 27 #[rv xb, iv 0, iv 3, iv 3, rv o3] [(.int 3), (.int 0), (.ref o3), (.int 0), (.ref xb)])) rfl (by rw [hml]; rfl) rfl (hb hby d23_27) (by decide) (W := 0) (Nat.le_of_eq rfl) (by decide)
  have K : oKp h0 h [] L7 := ⟨K.1.trans C7 (allS (Or.inr ge_o3) all0), fun y hy => Or.inr (N7 y hy)⟩
  have V_o3 : Arv Z h o3 k3 .byte (3 : Int32) [(ib xc0), (ib xc1), (ib xc2)] (.int (0 : Int32)) := V7
  refine oWk.to (mkF m 32 #[rv xb, iv 0, iv 3, iv 3, rv o3] [(.ref o3)]) (fun _ kt => st _ (zB X hx hby d23_30 rfl rfl rfl kt)) ?_
  exact oRetA X hx hlk hret rfl rfl (hb hby d23_32) (by rw [e0]; exact ⟨o3, k3, rfl, K, ge_o3, V_o3⟩) (by decide) (by decide)
def Q_rCR_5_0_3 (Z : State) (xb : Addr) (xk : ClassId) (xc0 xc1 xc2 xc3 xc4 : Int32) (h0 : Heap) (v : Option Value) (h : Heap) (L : List Loc) : Prop := ∃ (nb : Addr) (nk : ClassId), v = some (.ref nb) ∧ oKp h0 h [] L ∧ (h0.size ≤ nb) ∧ (Arv Z h nb nk .byte (3 : Int32) [(ib xc0), (ib xc1), (ib xc2)] (.int (0 : Int32)))
theorem rCR_5_0_3 (l : Launch) (Z : State) (a0 : Array Value) (hw : oHW a0 Z) (ws : List Jvm.Cond) (xb : Addr) (xk : ClassId) (xc0 xc1 xc2 xc3 xc4 : Int32) (h0 : Heap) (O0 : Ext Z.heap h0) (V_xb : Arv Z h0 xb xk .byte (5 : Int32) [(ib xc0), (ib xc1), (ib xc2), (ib xc3), (ib xc4)] (.int (0 : Int32))) :
    oCon l Z yy22 jdk_65_method_132_code 3 (some (.array .byte)) ws ({ frames := 2, cells := 1, slots := 3, locals := 34 } : Room) #[(.ref xb), (.int (0 : Int32)), (.int (3 : Int32))] h0 (Q_rCR_5_0_3 Z xb xk xc0 xc1 xc2 xc3 xc4 h0) := by
  refine oCon.of (plainFor_of_name pn_6) ?_
  intro p e s m below meth c T X hx hby hml hown hnm hret hlk hZ e0
  have hml : c.maxLocals = 3 := hml
  have K : oKp h0 h0 [] [] := oKp.nil _ _
  refine oWk.cast (g' := (mkF m 0 #[rv xb, iv 0, iv 3] [])) (by first | rfl | (simp [entryFrame, mkF, argsToLocals, Value.category]; done)) ?_
  refine oWk.to (mkF m 11 #[rv xb, iv 0, iv 3] [(.ref xb)]) (fun _ kt => zI X hx hby d22_0 rfl rfl (zH X hx hby d22_1 rfl rfl ((if0 _ _).trans (teq (by decide)).2) (zI X hx hby d22_4 rfl rfl (zA X hx hby d22_5 rfl rfl rfl (oAl X hx hZ e0 V_xb hby d22_6 rfl rfl (zN X hx hby d22_7 rfl rfl (feq (by decide)).1 (zA X hx hby d22_10 rfl rfl rfl kt))))))) ?_
  refine oWk.st (fun _ kt => zI X hx hby d22_11 rfl rfl (zI X hx hby d22_12 rfl rfl kt)) ?_
  have lt_xb := V_xb.lt
  have Oh := K.old O0 all0
  obtain ⟨_, T, h, Lc3, X, e0, hQ, st⟩ := (cs17 hw).run X hx hZ hown e0 (A := [(.ref xb), (.int (0 : Int32)), (.int (3 : Int32))]) rfl (rCRB_5_0_3 l Z a0 hw [] xb xk xc0 xc1 xc2 xc3 xc4 h0 Oh V_xb) (W := 0) (by decide) hml (Ls := #[rv xb, iv 0, iv 3]) rfl (rest := []) rfl rfl hby d22_13
  obtain ⟨nb2, nk2, rfl, K2, gn_nb2, V_nb2⟩ := hQ
  have ge_nb2 := Nat.le_trans K.le gn_nb2
  have ne_xb_nb2 : xb ≠ nb2 := Nat.ne_of_lt (Nat.lt_of_lt_of_le lt_xb gn_nb2)
  have K := K.call K2 all0
  refine oWk.to (mkF m 16 #[rv xb, iv 0, iv 3] [(.ref nb2)]) (fun _ kt => st _ kt) ?_
  exact oRetA X hx hlk hret rfl rfl (hb hby d22_16) (by rw [e0]; exact ⟨nb2, nk2, rfl, K, ge_nb2, V_nb2⟩) (by decide) (by decide)
def Q_rNS_5_0_3 (Z : State) (xb : Addr) (xk : ClassId) (xc0 xc1 xc2 xc3 xc4 : Int32) (h0 : Heap) (v : Option Value) (h : Heap) (L : List Loc) : Prop := ∃ (nr : Addr) (nb : Addr) (nk : ClassId), v = some (.ref nr) ∧ oKp h0 h [] L ∧ (h0.size ≤ nr) ∧ (h0.size ≤ nb) ∧ (Exa Z h nr Y0) ∧ (Fld Z h nr Y0 "coder" "B" (.int (0 : Int32))) ∧ (Fld Z h nr Y0 "value" "[B" (.ref nb)) ∧ (Arv Z h nb nk .byte (3 : Int32) [(ib xc0), (ib xc1), (ib xc2)] (.int (0 : Int32)))
theorem rNS_5_0_3 (l : Launch) (Z : State) (a0 : Array Value) (hw : oHW a0 Z) (ws : List Jvm.Cond) (xb : Addr) (xk : ClassId) (xc0 xc1 xc2 xc3 xc4 : Int32) (h0 : Heap) (O0 : Ext Z.heap h0) (V_xb : Arv Z h0 xb xk .byte (5 : Int32) [(ib xc0), (ib xc1), (ib xc2), (ib xc3), (ib xc4)] (.int (0 : Int32))) :
    oCon l Z yy17 jdk_43_method_47_code 3 (some (.object Y0)) ws ({ frames := 3, cells := 2, slots := 7, locals := 50 } : Room) #[(.ref xb), (.int (0 : Int32)), (.int (3 : Int32))] h0 (Q_rNS_5_0_3 Z xb xk xc0 xc1 xc2 xc3 xc4 h0) := by
  refine oCon.of (plainFor_of_name pn_0) ?_
  intro p e s m below meth c T X hx hby hml hown hnm hret hlk hZ e0
  have hml : c.maxLocals = 3 := hml
  have K : oKp h0 h0 [] [] := oKp.nil _ _
  refine oWk.cast (g' := (mkF m 0 #[rv xb, iv 0, iv 3] [])) (by first | rfl | (simp [entryFrame, mkF, argsToLocals, Value.category]; done)) ?_
  refine oWk.st (fun _ kt => zI X hx hby d21_0 rfl rfl (zF X hx hby d21_1 rfl rfl ((if0 _ _).trans (feq (by decide)).2) (pc' := 7) rfl kt)) ?_
  obtain ⟨o1, g1⟩ : ∃ z, z = h0.size := ⟨_, rfl⟩
  have ne_xb_o1 : xb ≠ o1 := Nat.ne_of_lt (Nat.lt_of_lt_of_le V_xb.lt (Nat.le_of_eq g1.symm))
  have ge_o1 : h0.size ≤ o1 := Nat.le_trans K.le (Nat.le_of_eq g1.symm)
  obtain ⟨T, h, X, e0, E1, A1, D1, -, st⟩ := newO X hx hZ hown (oW hw 98 rfl) (oW hw 10 rfl) (oW hw 11 rfl) e0 (g := (mkF m 7 #[rv xb, iv 0, iv 3] [])) rfl (hb hby d21_7) (by decide) (by decide)
  rw [← g1] at A1 D1 st
  have K := K.ext E1
  have E_o1 := A1
  have F_coder_o1 : Fld Z h o1 Y0 "coder" "B" (.int (0 : Int32)) := D1 (Or.inr (oW hw 35 rfl)) (ty := .byte) (by decide)
  have F_value_o1 : Fld Z h o1 Y0 "value" "[B" .null := D1 (Or.inr (oW hw 37 rfl)) (ty := (.array .byte)) (by decide)
  refine oWk.to (mkF m 16 #[rv xb, iv 0, iv 3] [(.int 3), (.int 0), (.ref xb), (.ref o1), (.ref o1)]) (fun _ kt => st _ (zD X hx hby d21_10 rfl rfl rfl (zA X hx hby d21_11 rfl rfl rfl (zI X hx hby d21_12 rfl rfl (zI X hx hby d21_13 rfl rfl (zI X hx hby d21_14 rfl rfl (XS.iadd X.here hx rfl (hb hby d21_15) rfl kt))))))) ?_
  have V_xb := (V_xb.ext E1)
  have lt_xb := V_xb.lt
  have lt_o1 := E_o1.lt
  have Oh := K.old O0 all0
  obtain ⟨_, T, h, Lc3, X, e0, hQ, st⟩ := (cs18 hw).run X hx hZ hown e0 (A := [(.ref xb), (.int (0 : Int32)), (.int (3 : Int32))]) rfl (rCR_5_0_3 l Z a0 hw [] xb xk xc0 xc1 xc2 xc3 xc4 h Oh V_xb) (W := 2) (by decide) hml (Ls := #[rv xb, iv 0, iv 3]) rfl (rest := [(.ref o1), (.ref o1)]) rfl rfl hby d21_16
  obtain ⟨nb2, nk2, rfl, K2, gn_nb2, V_nb2⟩ := hQ
  have ge_nb2 := Nat.le_trans K.le gn_nb2
  have ne_xb_nb2 : xb ≠ nb2 := Nat.ne_of_lt (Nat.lt_of_lt_of_le lt_xb gn_nb2)
  have ne_o1_nb2 : o1 ≠ nb2 := Nat.ne_of_lt (Nat.lt_of_lt_of_le lt_o1 gn_nb2)
  have K := K.call K2 all0
  refine oWk.st (fun _ kt => st _ (zK X hx hby d21_19 rfl kt)) ?_
  have E_o1 := (E_o1.keep K2.1)
  have F_value_o1 := (F_value_o1.keep K2.1 nin0)
  have F_coder_o1 := (F_coder_o1.keep K2.1 nin0)
  have Oh := K.old O0 all0
  obtain ⟨_, T, h, Lc5, X, e0, hQ, st⟩ := (cs19 hw).run X hx hZ hown e0 (A := [(.ref o1), (.ref nb2), (.int (0 : Int32))]) ⟨rfl, _, _, rfl⟩ (rSIn l Z a0 hw [] o1 nb2 .null (.int (0 : Int32)) h Oh (Nat.le_trans O0.1 ge_o1) E_o1 F_value_o1 F_coder_o1) (W := 1) (by decide) hml (Ls := #[rv xb, iv 0, iv 3]) rfl (rest := [(.ref o1)]) rfl rfl hby d21_20
  obtain ⟨rfl, K4, E_o1, F_value_o1, F_coder_o1⟩ := hQ
  have K := K.call K4 (allS (Or.inr ge_o1) all0)
  refine oWk.to (mkF m 23 #[rv xb, iv 0, iv 3] [(.ref o1)]) (fun _ kt => st _ kt) ?_
  have V_nb2 := (V_nb2.keep K4.1 (ninS (Ne.symm ne_o1_nb2) nin0))
  exact oRetA X hx hlk hret rfl rfl (hb hby d21_23) (by rw [e0]; exact ⟨o1, nb2, nk2, rfl, K, ge_o1, ge_nb2, E_o1, F_coder_o1, F_value_o1, V_nb2⟩) (by decide) (by decide)
def Q_rSub_5_0_3 (Z : State) (xa xb : Addr) (xk : ClassId) (xfm : Value) (xz xc0 xc1 xc2 xc3 xc4 : Int32) (h0 : Heap) (v : Option Value) (h : Heap) (L : List Loc) : Prop := ∃ (nr : Addr) (nb : Addr) (nk : ClassId), v = some (.ref nr) ∧ oKp h0 h [] L ∧ (h0.size ≤ nr) ∧ (h0.size ≤ nb) ∧ (Exa Z h nr Y0) ∧ (Fld Z h nr Y0 "coder" "B" (.int (0 : Int32))) ∧ (Fld Z h nr Y0 "value" "[B" (.ref nb)) ∧ (Arv Z h nb nk .byte (3 : Int32) [(ib xc0), (ib xc1), (ib xc2)] (.int (0 : Int32)))
theorem rSub_5_0_3 (l : Launch) (Z : State) (a0 : Array Value) (hw : oHW a0 Z) (ws : List Jvm.Cond) (xa xb : Addr) (xk : ClassId) (xfm : Value) (xz xc0 xc1 xc2 xc3 xc4 : Int32) (h0 : Heap) (O0 : Ext Z.heap h0) (S_COMPACT_STRINGS : Sta Z Z.heap Y0 Y1 "Z" (.int xz)) (hz : ¬ xz = (0 : Int32)) (S_SIOOBE_FORMATTER : Sta Z Z.heap Y2 Y3 Y4 xfm) (hcat : xfm.category = 1) (E_xa : Exa Z h0 xa Y0) (F_coder_xa : Fld Z h0 xa Y0 "coder" "B" (.int (0 : Int32))) (F_value_xa : Fld Z h0 xa Y0 "value" "[B" (.ref xb)) (V_xb : Arv Z h0 xb xk .byte (5 : Int32) [(ib xc0), (ib xc1), (ib xc2), (ib xc3), (ib xc4)] (.int (0 : Int32))) :
    oCon l Z yy18 jdk_42_method_92_code 5 (some (.object Y0)) ws ({ frames := 4, cells := 2, slots := 7, locals := 64 } : Room) #[(.ref xa), (.int (0 : Int32)), (.int (3 : Int32))] h0 (Q_rSub_5_0_3 Z xa xb xk xfm xz xc0 xc1 xc2 xc3 xc4 h0) := by
  refine oCon.of (plainFor_of_name pn_3) ?_
  intro p e s m below meth c T X hx hby hml hown hnm hret hlk hZ e0
  have hml : c.maxLocals = 5 := hml
  have K : oKp h0 h0 [] [] := oKp.nil _ _
  refine oWk.cast (g' := (mkF m 0 #[rv xa, iv 0, iv 3, uu, uu] [])) (by first | rfl | (simp [entryFrame, mkF, argsToLocals, Value.category]; done)) ?_
  refine oWk.st (fun _ kt => zA X hx hby d18_0 rfl rfl rfl kt) ?_
  have Oh := K.old O0 all0
  obtain ⟨T, L2, X, e0, K, st⟩ := (cs10 hw).pure X hx hZ hown e0 K (A := [(.ref xa)]) ⟨rfl, _, _, rfl, E_xa⟩ (rLn_5 l Z a0 hw [] xa xb xk xz xc0 xc1 xc2 xc3 xc4 h0 Oh S_COMPACT_STRINGS hz E_xa F_coder_xa F_value_xa V_xb) (fun _ _ _ q => q) (W := 0) (by decide) hml (Ls := #[rv xa, iv 0, iv 3, uu, uu]) rfl (rest := []) rfl rfl hby d18_1
  refine oWk.st (fun _ kt => st _ (zSn X hx hby d18_4 rfl rfl (l' := #[rv xa, iv 0, iv 3, iv 5, uu]) rfl (zI X hx hby d18_5 rfl rfl (zI X hx hby d18_6 rfl rfl (zI X hx hby d18_7 rfl rfl kt))))) ?_
  obtain ⟨T, L4, X, e0, K, st⟩ := (cs13 hw).pure X hx hZ hown e0 K (A := [(.int (0 : Int32)), (.int (3 : Int32)), (.int (5 : Int32))]) rfl (rCkB l Z a0 hw [] (0 : Int32) (3 : Int32) (5 : Int32) xfm h0 Oh S_SIOOBE_FORMATTER hcat (by decide) (by decide) (by decide)) (fun _ _ _ q => q) (W := 0) (by decide) hml (Ls := #[rv xa, iv 0, iv 3, iv 5, uu]) rfl (rest := []) rfl rfl hby d18_8
  refine oWk.to (mkF m 23 #[rv xa, iv 0, iv 3, iv 5, uu] [(.int 3)]) (fun _ kt => st _ (zI X hx hby d18_11 rfl rfl (zH X hx hby d18_12 rfl rfl ((if0 _ _).trans (teq (by decide)).2) (zI X hx hby d18_15 rfl rfl (zI X hx hby d18_16 rfl rfl (zY X hx hby d18_17 rfl rfl (feq (by decide)).2 (pc' := 22) rfl (zI X hx hby d18_22 rfl rfl kt))))))) ?_
  refine oWk.st (fun _ kt => zI X hx hby d18_23 rfl rfl (XS.isub X.here hx rfl (hb hby d18_24) rfl (zS X hx hby d18_25 rfl rfl (l' := #[rv xa, iv 0, iv 3, iv 5, iv 3]) rfl (zA X hx hby d18_27 rfl rfl rfl kt)))) ?_
  obtain ⟨T, L6, X, e0, K, st⟩ := (cs8 hw).pure X hx hZ hown e0 K (A := [(.ref xa)]) ⟨rfl, _, _, rfl, E_xa⟩ (rIsL l Z a0 hw [] xa xz h0 Oh S_COMPACT_STRINGS hz F_coder_xa) (fun _ _ _ q => q) (W := 0) (by decide) hml (Ls := #[rv xa, iv 0, iv 3, iv 5, iv 3]) rfl (rest := []) rfl rfl hby d18_28
  refine oWk.st (fun _ kt => st _ (zH X hx hby d18_31 rfl rfl ((if0 _ _).trans (feq (by decide)).1) (zA X hx hby d18_34 rfl rfl rfl kt))) ?_
  obtain ⟨T, X, e0, st⟩ := getF X hx hZ hown (host := "") (Or.inl (oW hw 36 rfl)) Via.refl e0 F_value_xa (g := (mkF m 35 #[rv xa, iv 0, iv 3, iv 5, iv 3] [(.ref xa)])) rfl rfl (hb hby d18_35)
  refine oWk.st (fun _ kt => st _ (zI X hx hby d18_38 rfl rfl (zJ X hx hby d18_39 rfl rfl kt))) ?_
  have lt_xa := E_xa.lt
  have lt_xb := V_xb.lt
  obtain ⟨_, T, h, Lc8, X, e0, hQ, st⟩ := (cs20 hw).run X hx hZ hown e0 (A := [(.ref xb), (.int (0 : Int32)), (.int (3 : Int32))]) rfl (rNS_5_0_3 l Z a0 hw [] xb xk xc0 xc1 xc2 xc3 xc4 h0 Oh V_xb) (W := 0) (by decide) hml (Ls := #[rv xa, iv 0, iv 3, iv 5, iv 3]) rfl (rest := []) rfl rfl hby d18_41
  obtain ⟨nr7, nb7, nk7, rfl, K7, gn_nr7, gn_nb7, E_nr7, F_coder_nr7, F_value_nr7, V_nb7⟩ := hQ
  have ge_nr7 := Nat.le_trans K.le gn_nr7
  have ne_xa_nr7 : xa ≠ nr7 := Nat.ne_of_lt (Nat.lt_of_lt_of_le lt_xa gn_nr7)
  have ne_xb_nr7 : xb ≠ nr7 := Nat.ne_of_lt (Nat.lt_of_lt_of_le lt_xb gn_nr7)
  have ge_nb7 := Nat.le_trans K.le gn_nb7
  have ne_xa_nb7 : xa ≠ nb7 := Nat.ne_of_lt (Nat.lt_of_lt_of_le lt_xa gn_nb7)
  have ne_xb_nb7 : xb ≠ nb7 := Nat.ne_of_lt (Nat.lt_of_lt_of_le lt_xb gn_nb7)
  have K := K.call K7 all0
  refine oWk.to (mkF m 57 #[rv xa, iv 0, iv 3, iv 5, iv 3] [(.ref nr7)]) (fun _ kt => st _ (zG X hx hby d18_44 rfl (pc' := 57) rfl kt)) ?_
  exact oRetA X hx hlk hret rfl rfl (hb hby d18_57) (by rw [e0]; exact ⟨nr7, nb7, nk7, rfl, K, ge_nr7, ge_nb7, E_nr7, F_coder_nr7, F_value_nr7, V_nb7⟩) (by decide) (by decide)
def Q_rSP_5_3 (Z : State) (xa xb : Addr) (xk : ClassId) (xfm : Value) (xz xc0 xc1 xc2 xc3 xc4 : Int32) (h0 : Heap) (v : Option Value) (h : Heap) (L : List Loc) : Prop := ∃ (nr : Addr) (nb : Addr) (nk : ClassId), v = some (.ref nr) ∧ oKp h0 h [] L ∧ (h0.size ≤ nr) ∧ (h0.size ≤ nb) ∧ (Exa Z h nr Y0) ∧ (Fld Z h nr Y0 "coder" "B" (.int (0 : Int32))) ∧ (Fld Z h nr Y0 "value" "[B" (.ref nb)) ∧ (Arv Z h nb nk .byte (3 : Int32) [(ib xc0), (ib xc1), (ib xc2)] (.int (0 : Int32)))
theorem rSP_5_3 (l : Launch) (Z : State) (a0 : Array Value) (hw : oHW a0 Z) (ws : List Jvm.Cond) (xa xb : Addr) (xk : ClassId) (xfm : Value) (xz xc0 xc1 xc2 xc3 xc4 : Int32) (h0 : Heap) (O0 : Ext Z.heap h0) (S_COMPACT_STRINGS : Sta Z Z.heap Y0 Y1 "Z" (.int xz)) (hz : ¬ xz = (0 : Int32)) (S_SIOOBE_FORMATTER : Sta Z Z.heap Y2 Y3 Y4 xfm) (hcat : xfm.category = 1) (E_xa : Exa Z h0 xa Y0) (F_coder_xa : Fld Z h0 xa Y0 "coder" "B" (.int (0 : Int32))) (F_value_xa : Fld Z h0 xa Y0 "value" "[B" (.ref xb)) (V_xb : Arv Z h0 xb xk .byte (5 : Int32) [(ib xc0), (ib xc1), (ib xc2), (ib xc3), (ib xc4)] (.int (0 : Int32))) (hu3 : (xc3.toInt8.toInt32) = (58 : Int32)) (hu4 : ¬ (xc4.toInt8.toInt32) = (58 : Int32)) :
    oCon l Z yy19 prog_3_method_2_code 1 (some (.object Y0)) ws ({ frames := 5, cells := 2, slots := 7, locals := 80 } : Room) #[(.ref xa)] h0 (Q_rSP_5_3 Z xa xb xk xfm xz xc0 xc1 xc2 xc3 xc4 h0) := by
  refine oCon.of (plainFor_of_name pn_5) ?_
  intro p e s m below meth c T X hx hby hml hown hnm hret hlk hZ e0
  have hml : c.maxLocals = 1 := hml
  have K : oKp h0 h0 [] [] := oKp.nil _ _
  refine oWk.cast (g' := (mkF m 0 #[rv xa] [])) (by first | rfl | (simp [entryFrame, mkF, argsToLocals, Value.category]; done)) ?_
  refine oWk.st (fun _ kt => zA X hx hby d9_0 rfl rfl rfl (zK X hx hby d9_1 rfl (zA X hx hby d9_2 rfl rfl rfl (zL X hx hby d9_3 rfl kt)))) ?_
  have Oh := K.old O0 all0
  obtain ⟨T, L2, X, e0, K, st⟩ := (cs14 hw).pure X hx hZ hown e0 K (A := [(.ref xa), (.int (58 : Int32))]) ⟨rfl, _, _, rfl, E_xa⟩ (rLK_5_3 l Z a0 hw [] xa xb xk xz xc0 xc1 xc2 xc3 xc4 h0 Oh S_COMPACT_STRINGS hz E_xa F_coder_xa F_value_xa V_xb hu3 hu4) (fun _ _ _ q => q) (W := 2) (by decide) hml (Ls := #[rv xa]) rfl (rest := [(.int (0 : Int32)), (.ref xa)]) rfl rfl hby d9_5
  refine oWk.st (fun _ kt => st _ kt) ?_
  have lt_xa := E_xa.lt
  have lt_xb := V_xb.lt
  obtain ⟨_, T, h, Lc4, X, e0, hQ, st⟩ := (cs21 hw).run X hx hZ hown e0 (A := [(.ref xa), (.int (0 : Int32)), (.int (3 : Int32))]) ⟨rfl, _, _, rfl, E_xa⟩ (rSub_5_0_3 l Z a0 hw [] xa xb xk xfm xz xc0 xc1 xc2 xc3 xc4 h0 Oh S_COMPACT_STRINGS hz S_SIOOBE_FORMATTER hcat E_xa F_coder_xa F_value_xa V_xb) (W := 0) (by decide) hml (Ls := #[rv xa]) rfl (rest := []) rfl rfl hby d9_8
  obtain ⟨nr3, nb3, nk3, rfl, K3, gn_nr3, gn_nb3, E_nr3, F_coder_nr3, F_value_nr3, V_nb3⟩ := hQ
  have ge_nr3 := Nat.le_trans K.le gn_nr3
  have ne_xa_nr3 : xa ≠ nr3 := Nat.ne_of_lt (Nat.lt_of_lt_of_le lt_xa gn_nr3)
  have ne_xb_nr3 : xb ≠ nr3 := Nat.ne_of_lt (Nat.lt_of_lt_of_le lt_xb gn_nr3)
  have ge_nb3 := Nat.le_trans K.le gn_nb3
  have ne_xa_nb3 : xa ≠ nb3 := Nat.ne_of_lt (Nat.lt_of_lt_of_le lt_xa gn_nb3)
  have ne_xb_nb3 : xb ≠ nb3 := Nat.ne_of_lt (Nat.lt_of_lt_of_le lt_xb gn_nb3)
  have K := K.call K3 all0
  refine oWk.to (mkF m 11 #[rv xa] [(.ref nr3)]) (fun _ kt => st _ kt) ?_
  exact oRetA X hx hlk hret rfl rfl (hb hby d9_11) (by rw [e0]; exact ⟨nr3, nb3, nk3, rfl, K, ge_nr3, ge_nb3, E_nr3, F_coder_nr3, F_value_nr3, V_nb3⟩) (by decide) (by decide)
def Q_rLI_5_4 (Z : State) (xb : Addr) (xk : ClassId) (xc0 xc1 xc2 xc3 xc4 : Int32) (h0 : Heap) (v : Option Value) (h : Heap) (L : List Loc) : Prop := v = some (.int (4 : Int32)) ∧ h = h0 ∧ oKp h0 h [] L
theorem rLI_5_4 (l : Launch) (Z : State) (a0 : Array Value) (hw : oHW a0 Z) (ws : List Jvm.Cond) (xb : Addr) (xk : ClassId) (xc0 xc1 xc2 xc3 xc4 : Int32) (h0 : Heap) (O0 : Ext Z.heap h0) (V_xb : Arv Z h0 xb xk .byte (5 : Int32) [(ib xc0), (ib xc1), (ib xc2), (ib xc3), (ib xc4)] (.int (0 : Int32))) (hu4 : (xc4.toInt8.toInt32) = (58 : Int32)) :
    oCon l Z yy9 jdk_43_method_27_code 4 (some .int) ws ({ frames := 1, cells := 0, slots := 0, locals := 13 } : Room) #[(.ref xb), (.int (58 : Int32)), (.int (4 : Int32))] h0 (Q_rLI_5_4 Z xb xk xc0 xc1 xc2 xc3 xc4 h0) := by
  refine oCon.of (plainFor_of_name pn_0) ?_
  intro p e s m below meth c T X hx hby hml hown hnm hret hlk hZ e0
  have hml : c.maxLocals = 4 := hml
  have K : oKp h0 h0 [] [] := oKp.nil _ _
  refine oWk.cast (g' := (mkF m 0 #[rv xb, iv 58, iv 4, uu] [])) (by first | rfl | (simp [entryFrame, mkF, argsToLocals, Value.category]; done)) ?_
  refine oWk.st (fun _ kt => zI X hx hby d15_0 rfl rfl kt) ?_
  have Oh := K.old O0 all0
  obtain ⟨T, L2, X, e0, K, st⟩ := (cs5 hw).pure X hx hZ hown e0 K (A := [(.int (58 : Int32))]) rfl (rCanI l Z a0 hw []  h0 Oh ) (fun _ _ _ q => q) (W := 0) (by decide) hml (Ls := #[rv xb, iv 58, iv 4, uu]) rfl (rest := []) rfl rfl hby d15_1
  refine oWk.to (mkF m 14 #[rv xb, iv 58, iv 4, uu] [(.int 4), (.int 4)]) (fun _ kt => st _ (zF X hx hby d15_4 rfl rfl ((if0 _ _).trans (feq (by decide)).2) (pc' := 9) rfl (zI X hx hby d15_9 rfl rfl (zA X hx hby d15_10 rfl rfl rfl (oAl X hx hZ e0 V_xb hby d15_11 rfl rfl (zK X hx hby d15_12 rfl (XS.isub X.here hx rfl (hb hby d15_13) rfl kt))))))) ?_
  obtain ⟨T, L5, X, e0, K, st⟩ := (cs6 hw).pure X hx hZ hown e0 K (A := [(.int (4 : Int32)), (.int (4 : Int32))]) rfl (rMin_4_4 l Z a0 hw []  h0 Oh ) (fun _ _ _ q => q) (W := 0) (by decide) hml (Ls := #[rv xb, iv 58, iv 4, uu]) rfl (rest := []) rfl rfl hby d15_14
  refine oWk.to (mkF m 25 #[rv xb, iv 58, iv 4, iv 4] [(ib xc4)]) (fun _ kt => st _ (zSn X hx hby d15_17 rfl rfl (l' := #[rv xb, iv 58, iv 4, iv 4]) rfl (zI X hx hby d15_18 rfl rfl (zH X hx hby d15_19 rfl rfl ((if0 _ _).trans (flt (by decide)).1) (zA X hx hby d15_22 rfl rfl rfl (zI X hx hby d15_23 rfl rfl (oLdB X hx hZ e0 V_xb (4 : Int32) (ib xc4) ⟨by decide, by decide⟩ rfl hby d15_24 rfl rfl kt))))))) ?_
  refine oWk.to (mkF m 27 #[rv xb, iv 58, iv 4, iv 4] [(.int 58), (ib xc4)]) (fun _ kt => zI X hx hby d15_25 rfl rfl (XS.i2b X.here hx rfl (hb hby d15_26) rfl kt)) ?_
  refine oWk.to (mkF m 31 #[rv xb, iv 58, iv 4, iv 4] [(.int 4)]) (fun _ kt => zN X hx hby d15_27 rfl rfl (teq hu4).2 (zI X hx hby d15_30 rfl rfl kt)) ?_
  exact oRetI X hx hlk hret (hb hby d15_31) (by rw [e0]; exact ⟨rfl, rfl, K⟩) (by decide) (by decide)
def Q_rLJ_5_4 (Z : State) (xa xb : Addr) (xk : ClassId) (xz xc0 xc1 xc2 xc3 xc4 : Int32) (h0 : Heap) (v : Option Value) (h : Heap) (L : List Loc) : Prop := v = some (.int (4 : Int32)) ∧ h = h0 ∧ oKp h0 h [] L
theorem rLJ_5_4 (l : Launch) (Z : State) (a0 : Array Value) (hw : oHW a0 Z) (ws : List Jvm.Cond) (xa xb : Addr) (xk : ClassId) (xz xc0 xc1 xc2 xc3 xc4 : Int32) (h0 : Heap) (O0 : Ext Z.heap h0) (S_COMPACT_STRINGS : Sta Z Z.heap Y0 Y1 "Z" (.int xz)) (hz : ¬ xz = (0 : Int32)) (E_xa : Exa Z h0 xa Y0) (F_coder_xa : Fld Z h0 xa Y0 "coder" "B" (.int (0 : Int32))) (F_value_xa : Fld Z h0 xa Y0 "value" "[B" (.ref xb)) (V_xb : Arv Z h0 xb xk .byte (5 : Int32) [(ib xc0), (ib xc1), (ib xc2), (ib xc3), (ib xc4)] (.int (0 : Int32))) (hu4 : (xc4.toInt8.toInt32) = (58 : Int32)) :
    oCon l Z yy13 jdk_42_method_83_code 3 (some .int) ws ({ frames := 2, cells := 0, slots := 0, locals := 28 } : Room) #[(.ref xa), (.int (58 : Int32)), (.int (4 : Int32))] h0 (Q_rLJ_5_4 Z xa xb xk xz xc0 xc1 xc2 xc3 xc4 h0) := by
  refine oCon.of (plainFor_of_name pn_3) ?_
  intro p e s m below meth c T X hx hby hml hown hnm hret hlk hZ e0
  have hml : c.maxLocals = 3 := hml
  have K : oKp h0 h0 [] [] := oKp.nil _ _
  refine oWk.cast (g' := (mkF m 0 #[rv xa, iv 58, iv 4] [])) (by first | rfl | (simp [entryFrame, mkF, argsToLocals, Value.category]; done)) ?_
  refine oWk.st (fun _ kt => zA X hx hby d13_0 rfl rfl rfl kt) ?_
  have Oh := K.old O0 all0
  obtain ⟨T, L2, X, e0, K, st⟩ := (cs8 hw).pure X hx hZ hown e0 K (A := [(.ref xa)]) ⟨rfl, _, _, rfl, E_xa⟩ (rIsL l Z a0 hw [] xa xz h0 Oh S_COMPACT_STRINGS hz F_coder_xa) (fun _ _ _ q => q) (W := 0) (by decide) hml (Ls := #[rv xa, iv 58, iv 4]) rfl (rest := []) rfl rfl hby d13_1
  refine oWk.st (fun _ kt => st _ (zH X hx hby d13_4 rfl rfl ((if0 _ _).trans (feq (by decide)).1) (zA X hx hby d13_7 rfl rfl rfl kt))) ?_
  obtain ⟨T, X, e0, st⟩ := getF X hx hZ hown (host := "") (Or.inl (oW hw 36 rfl)) Via.refl e0 F_value_xa (g := (mkF m 8 #[rv xa, iv 58, iv 4] [(.ref xa)])) rfl rfl (hb hby d13_8)
  refine oWk.st (fun _ kt => st _ (zI X hx hby d13_11 rfl rfl (zI X hx hby d13_12 rfl rfl kt))) ?_
  obtain ⟨T, L4, X, e0, K, st⟩ := (cs9 hw).pure X hx hZ hown e0 K (A := [(.ref xb), (.int (58 : Int32)), (.int (4 : Int32))]) rfl (rLI_5_4 l Z a0 hw [] xb xk xc0 xc1 xc2 xc3 xc4 h0 Oh V_xb hu4) (fun _ _ _ q => q) (W := 0) (by decide) hml (Ls := #[rv xa, iv 58, iv 4]) rfl (rest := []) rfl rfl hby d13_13
  refine oWk.to (mkF m 28 #[rv xa, iv 58, iv 4] [(.int 4)]) (fun _ kt => st _ (zG X hx hby d13_16 rfl (pc' := 28) rfl kt)) ?_
  exact oRetI X hx hlk hret (hb hby d13_28) (by rw [e0]; exact ⟨rfl, rfl, K⟩) (by decide) (by decide)
def Q_rLK_5_4 (Z : State) (xa xb : Addr) (xk : ClassId) (xz xc0 xc1 xc2 xc3 xc4 : Int32) (h0 : Heap) (v : Option Value) (h : Heap) (L : List Loc) : Prop := v = some (.int (4 : Int32)) ∧ h = h0 ∧ oKp h0 h [] L
theorem rLK_5_4 (l : Launch) (Z : State) (a0 : Array Value) (hw : oHW a0 Z) (ws : List Jvm.Cond) (xa xb : Addr) (xk : ClassId) (xz xc0 xc1 xc2 xc3 xc4 : Int32) (h0 : Heap) (O0 : Ext Z.heap h0) (S_COMPACT_STRINGS : Sta Z Z.heap Y0 Y1 "Z" (.int xz)) (hz : ¬ xz = (0 : Int32)) (E_xa : Exa Z h0 xa Y0) (F_coder_xa : Fld Z h0 xa Y0 "coder" "B" (.int (0 : Int32))) (F_value_xa : Fld Z h0 xa Y0 "value" "[B" (.ref xb)) (V_xb : Arv Z h0 xb xk .byte (5 : Int32) [(ib xc0), (ib xc1), (ib xc2), (ib xc3), (ib xc4)] (.int (0 : Int32))) (hu4 : (xc4.toInt8.toInt32) = (58 : Int32)) :
    oCon l Z yy14 jdk_42_method_82_code 2 (some .int) ws ({ frames := 3, cells := 0, slots := 0, locals := 42 } : Room) #[(.ref xa), (.int (58 : Int32))] h0 (Q_rLK_5_4 Z xa xb xk xz xc0 xc1 xc2 xc3 xc4 h0) := by
  refine oCon.of (plainFor_of_name pn_3) ?_
  intro p e s m below meth c T X hx hby hml hown hnm hret hlk hZ e0
  have hml : c.maxLocals = 2 := hml
  have K : oKp h0 h0 [] [] := oKp.nil _ _
  refine oWk.cast (g' := (mkF m 0 #[rv xa, iv 58] [])) (by first | rfl | (simp [entryFrame, mkF, argsToLocals, Value.category]; done)) ?_
  refine oWk.st (fun _ kt => zA X hx hby d10_0 rfl rfl rfl (zI X hx hby d10_1 rfl rfl (zA X hx hby d10_2 rfl rfl rfl kt))) ?_
  have Oh := K.old O0 all0
  obtain ⟨T, L2, X, e0, K, st⟩ := (cs10 hw).pure X hx hZ hown e0 K (A := [(.ref xa)]) ⟨rfl, _, _, rfl, E_xa⟩ (rLn_5 l Z a0 hw [] xa xb xk xz xc0 xc1 xc2 xc3 xc4 h0 Oh S_COMPACT_STRINGS hz E_xa F_coder_xa F_value_xa V_xb) (fun _ _ _ q => q) (W := 2) (by decide) hml (Ls := #[rv xa, iv 58]) rfl (rest := [(.int (58 : Int32)), (.ref xa)]) rfl rfl hby d10_3
  refine oWk.st (fun _ kt => st _ (zK X hx hby d10_6 rfl (XS.isub X.here hx rfl (hb hby d10_7) rfl kt))) ?_
  obtain ⟨T, L4, X, e0, K, st⟩ := (cs11 hw).pure X hx hZ hown e0 K (A := [(.ref xa), (.int (58 : Int32)), (.int (4 : Int32))]) ⟨rfl, _, _, rfl, E_xa⟩ (rLJ_5_4 l Z a0 hw [] xa xb xk xz xc0 xc1 xc2 xc3 xc4 h0 Oh S_COMPACT_STRINGS hz E_xa F_coder_xa F_value_xa V_xb hu4) (fun _ _ _ q => q) (W := 0) (by decide) hml (Ls := #[rv xa, iv 58]) rfl (rest := []) rfl rfl hby d10_8
  refine oWk.to (mkF m 11 #[rv xa, iv 58] [(.int 4)]) (fun _ kt => st _ kt) ?_
  exact oRetI X hx hlk hret (hb hby d10_11) (by rw [e0]; exact ⟨rfl, rfl, K⟩) (by decide) (by decide)
def Q_rMin_5_4 (Z : State)  (h0 : Heap) (v : Option Value) (h : Heap) (L : List Loc) : Prop := v = some (.int (4 : Int32)) ∧ h = h0 ∧ oKp h0 h [] L
theorem rMin_5_4 (l : Launch) (Z : State) (a0 : Array Value) (hw : oHW a0 Z) (ws : List Jvm.Cond)  (h0 : Heap) (O0 : Ext Z.heap h0)  :
    oCon l Z yy8 jdk_29_method_69_code 2 (some .int) ws ({ frames := 0, cells := 0, slots := 0, locals := 0 } : Room) #[(.int (5 : Int32)), (.int (4 : Int32))] h0 (Q_rMin_5_4 Z  h0) := by
  refine oCon.of (Jvm.Free.JP.mathPlain rfl (by decide +kernel)) ?_
  intro p e s m below meth c T X hx hby hml hown hnm hret hlk hZ e0
  have hml : c.maxLocals = 2 := hml
  have K : oKp h0 h0 [] [] := oKp.nil _ _
  refine oWk.cast (g' := (mkF m 0 #[iv 5, iv 4] [])) (by first | rfl | (simp [entryFrame, mkF, argsToLocals, Value.category]; done)) ?_
  refine oWk.to (mkF m 10 #[iv 5, iv 4] [(.int 4)]) (fun _ kt => zI X hx hby d17_0 rfl rfl (zI X hx hby d17_1 rfl rfl (zY X hx hby d17_2 rfl rfl (tlt (by decide)).2.2.1 (pc' := 9) rfl (zI X hx hby d17_9 rfl rfl kt)))) ?_
  exact oRetI X hx hlk hret (hb hby d17_10) (by rw [e0]; exact ⟨rfl, rfl, K⟩) (by decide) (by decide)
def Q_rCkL_0_4 (Z : State)  (h0 : Heap) (v : Option Value) (h : Heap) (L : List Loc) : Prop := v = none ∧ h = h0 ∧ oKp h0 h [] L
theorem rCkL_0_4 (l : Launch) (Z : State) (a0 : Array Value) (hw : oHW a0 Z) (ws : List Jvm.Cond)  (h0 : Heap) (O0 : Ext Z.heap h0)  :
    oCon l Z yy20 jdk_65_method_131_code 2 none ws ({ frames := 0, cells := 0, slots := 0, locals := 0 } : Room) #[(.int (0 : Int32)), (.int (4 : Int32))] h0 (Q_rCkL_0_4 Z  h0) := by
  refine oCon.of (plainFor_of_name pn_6) ?_
  intro p e s m below meth c T X hx hby hml hown hnm hret hlk hZ e0
  have hml : c.maxLocals = 2 := hml
  have K : oKp h0 h0 [] [] := oKp.nil _ _
  refine oWk.cast (g' := (mkF m 0 #[iv 0, iv 4] [])) (by first | rfl | (simp [entryFrame, mkF, argsToLocals, Value.category]; done)) ?_
  refine oWk.to (mkF m 37 #[iv 0, iv 4] []) (fun _ kt => zI X hx hby d24_0 rfl rfl (zI X hx hby d24_1 rfl rfl (zY X hx hby d24_2 rfl rfl (flt (by decide)).2.1 (pc' := 37) rfl kt))) ?_
  exact oRetV X hx hlk hret (hb hby d24_37) (by rw [e0]; exact ⟨rfl, rfl, K⟩) (by decide) (by decide)
def Q_rCRB_5_0_4 (Z : State) (xb : Addr) (xk : ClassId) (xc0 xc1 xc2 xc3 xc4 : Int32) (h0 : Heap) (v : Option Value) (h : Heap) (L : List Loc) : Prop := ∃ (nb : Addr) (nk : ClassId), v = some (.ref nb) ∧ oKp h0 h [] L ∧ (h0.size ≤ nb) ∧ (Arv Z h nb nk .byte (4 : Int32) [(ib xc0), (ib xc1), (ib xc2), (ib xc3)] (.int (0 : Int32)))
theorem rCRB_5_0_4 (l : Launch) (Z : State) (a0 : Array Value) (hw : oHW a0 Z) (ws : List Jvm.Cond) (xb : Addr) (xk : ClassId) (xc0 xc1 xc2 xc3 xc4 : Int32) (h0 : Heap) (O0 : Ext Z.heap h0) (V_xb : Arv Z h0 xb xk .byte (5 : Int32) [(ib xc0), (ib xc1), (ib xc2), (ib xc3), (ib xc4)] (.int (0 : Int32))) :
    oCon l Z yy21 jdk_65_method_133_code 5 (some (.array .byte)) ws ({ frames := 1, cells := 1, slots := 4, locals := 18 } : Room) #[(.ref xb), (.int (0 : Int32)), (.int (4 : Int32))] h0 (Q_rCRB_5_0_4 Z xb xk xc0 xc1 xc2 xc3 xc4 h0) := by
  refine oCon.of (plainFor_of_name pn_6) ?_
  intro p e s m below meth c T X hx hby hml hown hnm hret hlk hZ e0
  have hml : c.maxLocals = 5 := hml
  have K : oKp h0 h0 [] [] := oKp.nil _ _
  refine oWk.cast (g' := (mkF m 0 #[rv xb, iv 0, iv 4, uu, uu] [])) (by first | rfl | (simp [entryFrame, mkF, argsToLocals, Value.category]; done)) ?_
  refine oWk.st (fun _ kt => zI X hx hby d23_0 rfl rfl (zI X hx hby d23_1 rfl rfl kt)) ?_
  have Oh := K.old O0 all0
  obtain ⟨T, L2, X, e0, K, st⟩ := (cs15 hw).pure X hx hZ hown e0 K (A := [(.int (0 : Int32)), (.int (4 : Int32))]) rfl (rCkL_0_4 l Z a0 hw []  h0 Oh ) (fun _ _ _ q => q) (W := 0) (by decide) hml (Ls := #[rv xb, iv 0, iv 4, uu, uu]) rfl (rest := []) rfl rfl hby d23_2
  refine oWk.st (fun _ kt => st _ (zI X hx hby d23_5 rfl rfl (zI X hx hby d23_6 rfl rfl (XS.isub X.here hx rfl (hb hby d23_7) rfl (zSn X hx hby d23_8 rfl rfl (l' := #[rv xb, iv 0, iv 4, iv 4, uu]) rfl (zI X hx hby d23_9 rfl rfl kt)))))) ?_
  obtain ⟨o3, g3⟩ : ∃ z, z = h0.size := ⟨_, rfl⟩
  have ne_xb_o3 : xb ≠ o3 := Nat.ne_of_lt (Nat.lt_of_lt_of_le V_xb.lt (Nat.le_of_eq g3.symm))
  have ge_o3 : h0.size ≤ o3 := Nat.le_trans K.le (Nat.le_of_eq g3.symm)
  obtain ⟨T, h, k3, X, e0, E3, A3, st⟩ := newP X hx hZ (oW hw 27 rfl) e0 (g := (mkF m 10 #[rv xb, iv 0, iv 4, iv 4, uu] [(.int 4)])) rfl (hb hby d23_10) rfl (by decide) (cap := 4) (by decide) (by decide) (by decide) (by decide)
  rw [← g3] at A3 st
  have K := K.ext E3
  have V_o3 : Arv Z h o3 k3 .byte (4 : Int32) [(.int (0 : Int32)), (.int (0 : Int32)), (.int (0 : Int32)), (.int (0 : Int32))] (.int (0 : Int32)) := (Arv.new A3 (by decide)).pad (pad_rep [] (.int (0 : Int32)) 4)
  refine oWk.to (mkF m 20 #[rv xb, iv 0, iv 4, iv 4, rv o3] [(.ref xb), (.int 0), (.ref o3), (.int 0), (.ref xb)]) (fun _ kt => st _ (zT X hx hby d23_12 rfl rfl rfl (l' := #[rv xb, iv 0, iv 4, iv 4, rv o3]) rfl (zA X hx hby d23_14 rfl rfl rfl (zI X hx hby d23_15 rfl rfl (zB X hx hby d23_16 rfl rfl rfl (zK X hx hby d23_18 rfl (zA X hx hby d23_19 rfl rfl rfl kt))))))) ?_
  have V_xb := (V_xb.ext E3)
  refine oWk.st (fun _ kt => oAl X hx hZ e0 V_xb hby d23_20 rfl rfl (zI X hx hby d23_21 rfl rfl (XS.isub X.here hx rfl (hb hby d23_22) rfl (zI X hx hby d23_23 rfl rfl kt)))) ?_
  have Oh := K.old O0 all0
  obtain ⟨T, L6, X, e0, K, st⟩ := (cs16 hw).pure X hx hZ hown e0 K (A := [(.int (5 : Int32)), (.int (4 : Int32))]) rfl (rMin_5_4 l Z a0 hw []  h Oh ) (fun _ _ _ q => q) (W := 4) (by decide) hml (Ls := #[rv xb, iv 0, iv 4, iv 4, rv o3]) rfl (rest := [(.int (0 : Int32)), (.ref o3), (.int (0 : Int32)), (.ref xb)]) rfl rfl hby d23_24
  refine oWk.st (fun _ kt => st _ kt) ?_
  obtain ⟨T, h, L7, X, e0, N7, C7, V7, st⟩ := cpA X hx hZ hown (oW hw 110 rfl) (oW hw 113 rfl) (oW hw 111 rfl) (oW hw 112 rfl) e0 (us := [(ib xc0), (ib xc1), (ib xc2), (ib xc3)]) V_xb V_o3 (Or.inl ⟨rfl, rfl⟩) (by decide) (by decide) (by decide) (by decide) (by decide) rfl (by decide) K.fr ge_o3 (g := (mkF m 27 #[rv xb, iv 0, iv 4, iv 4, rv o3] [(.int 4), (.int 0), (.ref o3), (.int 0), (.ref xb)])) rfl (by rw [hml]; rfl) rfl (hb hby d23_27) (by decide) (W := 0) (Nat.le_of_eq rfl) (by decide)
  have K : oKp h0 h [] L7 := ⟨K.1.trans C7 (allS (Or.inr ge_o3) all0), fun y hy => Or.inr (N7 y hy)⟩
  have V_o3 : Arv Z h o3 k3 .byte (4 : Int32) [(ib xc0), (ib xc1), (ib xc2), (ib xc3)] (.int (0 : Int32)) := V7
  refine oWk.to (mkF m 32 #[rv xb, iv 0, iv 4, iv 4, rv o3] [(.ref o3)]) (fun _ kt => st _ (zB X hx hby d23_30 rfl rfl rfl kt)) ?_
  exact oRetA X hx hlk hret rfl rfl (hb hby d23_32) (by rw [e0]; exact ⟨o3, k3, rfl, K, ge_o3, V_o3⟩) (by decide) (by decide)
def Q_rCR_5_0_4 (Z : State) (xb : Addr) (xk : ClassId) (xc0 xc1 xc2 xc3 xc4 : Int32) (h0 : Heap) (v : Option Value) (h : Heap) (L : List Loc) : Prop := ∃ (nb : Addr) (nk : ClassId), v = some (.ref nb) ∧ oKp h0 h [] L ∧ (h0.size ≤ nb) ∧ (Arv Z h nb nk .byte (4 : Int32) [(ib xc0), (ib xc1), (ib xc2), (ib xc3)] (.int (0 : Int32)))
theorem rCR_5_0_4 (l : Launch) (Z : State) (a0 : Array Value) (hw : oHW a0 Z) (ws : List Jvm.Cond) (xb : Addr) (xk : ClassId) (xc0 xc1 xc2 xc3 xc4 : Int32) (h0 : Heap) (O0 : Ext Z.heap h0) (V_xb : Arv Z h0 xb xk .byte (5 : Int32) [(ib xc0), (ib xc1), (ib xc2), (ib xc3), (ib xc4)] (.int (0 : Int32))) :
    oCon l Z yy22 jdk_65_method_132_code 3 (some (.array .byte)) ws ({ frames := 2, cells := 1, slots := 4, locals := 34 } : Room) #[(.ref xb), (.int (0 : Int32)), (.int (4 : Int32))] h0 (Q_rCR_5_0_4 Z xb xk xc0 xc1 xc2 xc3 xc4 h0) := by
  refine oCon.of (plainFor_of_name pn_6) ?_
  intro p e s m below meth c T X hx hby hml hown hnm hret hlk hZ e0
  have hml : c.maxLocals = 3 := hml
  have K : oKp h0 h0 [] [] := oKp.nil _ _
  refine oWk.cast (g' := (mkF m 0 #[rv xb, iv 0, iv 4] [])) (by first | rfl | (simp [entryFrame, mkF, argsToLocals, Value.category]; done)) ?_
  refine oWk.to (mkF m 11 #[rv xb, iv 0, iv 4] [(.ref xb)]) (fun _ kt => zI X hx hby d22_0 rfl rfl (zH X hx hby d22_1 rfl rfl ((if0 _ _).trans (teq (by decide)).2) (zI X hx hby d22_4 rfl rfl (zA X hx hby d22_5 rfl rfl rfl (oAl X hx hZ e0 V_xb hby d22_6 rfl rfl (zN X hx hby d22_7 rfl rfl (feq (by decide)).1 (zA X hx hby d22_10 rfl rfl rfl kt))))))) ?_
  refine oWk.st (fun _ kt => zI X hx hby d22_11 rfl rfl (zI X hx hby d22_12 rfl rfl kt)) ?_
  have lt_xb := V_xb.lt
  have Oh := K.old O0 all0
  obtain ⟨_, T, h, Lc3, X, e0, hQ, st⟩ := (cs17 hw).run X hx hZ hown e0 (A := [(.ref xb), (.int (0 : Int32)), (.int (4 : Int32))]) rfl (rCRB_5_0_4 l Z a0 hw [] xb xk xc0 xc1 xc2 xc3 xc4 h0 Oh V_xb) (W := 0) (by decide) hml (Ls := #[rv xb, iv 0, iv 4]) rfl (rest := []) rfl rfl hby d22_13
  obtain ⟨nb2, nk2, rfl, K2, gn_nb2, V_nb2⟩ := hQ
  have ge_nb2 := Nat.le_trans K.le gn_nb2
  have ne_xb_nb2 : xb ≠ nb2 := Nat.ne_of_lt (Nat.lt_of_lt_of_le lt_xb gn_nb2)
  have K := K.call K2 all0
  refine oWk.to (mkF m 16 #[rv xb, iv 0, iv 4] [(.ref nb2)]) (fun _ kt => st _ kt) ?_
  exact oRetA X hx hlk hret rfl rfl (hb hby d22_16) (by rw [e0]; exact ⟨nb2, nk2, rfl, K, ge_nb2, V_nb2⟩) (by decide) (by decide)
def Q_rNS_5_0_4 (Z : State) (xb : Addr) (xk : ClassId) (xc0 xc1 xc2 xc3 xc4 : Int32) (h0 : Heap) (v : Option Value) (h : Heap) (L : List Loc) : Prop := ∃ (nr : Addr) (nb : Addr) (nk : ClassId), v = some (.ref nr) ∧ oKp h0 h [] L ∧ (h0.size ≤ nr) ∧ (h0.size ≤ nb) ∧ (Exa Z h nr Y0) ∧ (Fld Z h nr Y0 "coder" "B" (.int (0 : Int32))) ∧ (Fld Z h nr Y0 "value" "[B" (.ref nb)) ∧ (Arv Z h nb nk .byte (4 : Int32) [(ib xc0), (ib xc1), (ib xc2), (ib xc3)] (.int (0 : Int32)))
theorem rNS_5_0_4 (l : Launch) (Z : State) (a0 : Array Value) (hw : oHW a0 Z) (ws : List Jvm.Cond) (xb : Addr) (xk : ClassId) (xc0 xc1 xc2 xc3 xc4 : Int32) (h0 : Heap) (O0 : Ext Z.heap h0) (V_xb : Arv Z h0 xb xk .byte (5 : Int32) [(ib xc0), (ib xc1), (ib xc2), (ib xc3), (ib xc4)] (.int (0 : Int32))) :
    oCon l Z yy17 jdk_43_method_47_code 3 (some (.object Y0)) ws ({ frames := 3, cells := 2, slots := 8, locals := 50 } : Room) #[(.ref xb), (.int (0 : Int32)), (.int (4 : Int32))] h0 (Q_rNS_5_0_4 Z xb xk xc0 xc1 xc2 xc3 xc4 h0) := by
  refine oCon.of (plainFor_of_name pn_0) ?_
  intro p e s m below meth c T X hx hby hml hown hnm hret hlk hZ e0
  have hml : c.maxLocals = 3 := hml
  have K : oKp h0 h0 [] [] := oKp.nil _ _
  refine oWk.cast (g' := (mkF m 0 #[rv xb, iv 0, iv 4] [])) (by first | rfl | (simp [entryFrame, mkF, argsToLocals, Value.category]; done)) ?_
  refine oWk.st (fun _ kt => zI X hx hby d21_0 rfl rfl (zF X hx hby d21_1 rfl rfl ((if0 _ _).trans (feq (by decide)).2) (pc' := 7) rfl kt)) ?_
  obtain ⟨o1, g1⟩ : ∃ z, z = h0.size := ⟨_, rfl⟩
  have ne_xb_o1 : xb ≠ o1 := Nat.ne_of_lt (Nat.lt_of_lt_of_le V_xb.lt (Nat.le_of_eq g1.symm))
  have ge_o1 : h0.size ≤ o1 := Nat.le_trans K.le (Nat.le_of_eq g1.symm)
  obtain ⟨T, h, X, e0, E1, A1, D1, -, st⟩ := newO X hx hZ hown (oW hw 98 rfl) (oW hw 10 rfl) (oW hw 11 rfl) e0 (g := (mkF m 7 #[rv xb, iv 0, iv 4] [])) rfl (hb hby d21_7) (by decide) (by decide)
  rw [← g1] at A1 D1 st
  have K := K.ext E1
  have E_o1 := A1
  have F_coder_o1 : Fld Z h o1 Y0 "coder" "B" (.int (0 : Int32)) := D1 (Or.inr (oW hw 35 rfl)) (ty := .byte) (by decide)
  have F_value_o1 : Fld Z h o1 Y0 "value" "[B" .null := D1 (Or.inr (oW hw 37 rfl)) (ty := (.array .byte)) (by decide)
  refine oWk.to (mkF m 16 #[rv xb, iv 0, iv 4] [(.int 4), (.int 0), (.ref xb), (.ref o1), (.ref o1)]) (fun _ kt => st _ (zD X hx hby d21_10 rfl rfl rfl (zA X hx hby d21_11 rfl rfl rfl (zI X hx hby d21_12 rfl rfl (zI X hx hby d21_13 rfl rfl (zI X hx hby d21_14 rfl rfl (XS.iadd X.here hx rfl (hb hby d21_15) rfl kt))))))) ?_
  have V_xb := (V_xb.ext E1)
  have lt_xb := V_xb.lt
  have lt_o1 := E_o1.lt
  have Oh := K.old O0 all0
  obtain ⟨_, T, h, Lc3, X, e0, hQ, st⟩ := (cs18 hw).run X hx hZ hown e0 (A := [(.ref xb), (.int (0 : Int32)), (.int (4 : Int32))]) rfl (rCR_5_0_4 l Z a0 hw [] xb xk xc0 xc1 xc2 xc3 xc4 h Oh V_xb) (W := 2) (by decide) hml (Ls := #[rv xb, iv 0, iv 4]) rfl (rest := [(.ref o1), (.ref o1)]) rfl rfl hby d21_16
  obtain ⟨nb2, nk2, rfl, K2, gn_nb2, V_nb2⟩ := hQ
  have ge_nb2 := Nat.le_trans K.le gn_nb2
  have ne_xb_nb2 : xb ≠ nb2 := Nat.ne_of_lt (Nat.lt_of_lt_of_le lt_xb gn_nb2)
  have ne_o1_nb2 : o1 ≠ nb2 := Nat.ne_of_lt (Nat.lt_of_lt_of_le lt_o1 gn_nb2)
  have K := K.call K2 all0
  refine oWk.st (fun _ kt => st _ (zK X hx hby d21_19 rfl kt)) ?_
  have E_o1 := (E_o1.keep K2.1)
  have F_value_o1 := (F_value_o1.keep K2.1 nin0)
  have F_coder_o1 := (F_coder_o1.keep K2.1 nin0)
  have Oh := K.old O0 all0
  obtain ⟨_, T, h, Lc5, X, e0, hQ, st⟩ := (cs19 hw).run X hx hZ hown e0 (A := [(.ref o1), (.ref nb2), (.int (0 : Int32))]) ⟨rfl, _, _, rfl⟩ (rSIn l Z a0 hw [] o1 nb2 .null (.int (0 : Int32)) h Oh (Nat.le_trans O0.1 ge_o1) E_o1 F_value_o1 F_coder_o1) (W := 1) (by decide) hml (Ls := #[rv xb, iv 0, iv 4]) rfl (rest := [(.ref o1)]) rfl rfl hby d21_20
  obtain ⟨rfl, K4, E_o1, F_value_o1, F_coder_o1⟩ := hQ
  have K := K.call K4 (allS (Or.inr ge_o1) all0)
  refine oWk.to (mkF m 23 #[rv xb, iv 0, iv 4] [(.ref o1)]) (fun _ kt => st _ kt) ?_
  have V_nb2 := (V_nb2.keep K4.1 (ninS (Ne.symm ne_o1_nb2) nin0))
  exact oRetA X hx hlk hret rfl rfl (hb hby d21_23) (by rw [e0]; exact ⟨o1, nb2, nk2, rfl, K, ge_o1, ge_nb2, E_o1, F_coder_o1, F_value_o1, V_nb2⟩) (by decide) (by decide)
def Q_rSub_5_0_4 (Z : State) (xa xb : Addr) (xk : ClassId) (xfm : Value) (xz xc0 xc1 xc2 xc3 xc4 : Int32) (h0 : Heap) (v : Option Value) (h : Heap) (L : List Loc) : Prop := ∃ (nr : Addr) (nb : Addr) (nk : ClassId), v = some (.ref nr) ∧ oKp h0 h [] L ∧ (h0.size ≤ nr) ∧ (h0.size ≤ nb) ∧ (Exa Z h nr Y0) ∧ (Fld Z h nr Y0 "coder" "B" (.int (0 : Int32))) ∧ (Fld Z h nr Y0 "value" "[B" (.ref nb)) ∧ (Arv Z h nb nk .byte (4 : Int32) [(ib xc0), (ib xc1), (ib xc2), (ib xc3)] (.int (0 : Int32)))
theorem rSub_5_0_4 (l : Launch) (Z : State) (a0 : Array Value) (hw : oHW a0 Z) (ws : List Jvm.Cond) (xa xb : Addr) (xk : ClassId) (xfm : Value) (xz xc0 xc1 xc2 xc3 xc4 : Int32) (h0 : Heap) (O0 : Ext Z.heap h0) (S_COMPACT_STRINGS : Sta Z Z.heap Y0 Y1 "Z" (.int xz)) (hz : ¬ xz = (0 : Int32)) (S_SIOOBE_FORMATTER : Sta Z Z.heap Y2 Y3 Y4 xfm) (hcat : xfm.category = 1) (E_xa : Exa Z h0 xa Y0) (F_coder_xa : Fld Z h0 xa Y0 "coder" "B" (.int (0 : Int32))) (F_value_xa : Fld Z h0 xa Y0 "value" "[B" (.ref xb)) (V_xb : Arv Z h0 xb xk .byte (5 : Int32) [(ib xc0), (ib xc1), (ib xc2), (ib xc3), (ib xc4)] (.int (0 : Int32))) :
    oCon l Z yy18 jdk_42_method_92_code 5 (some (.object Y0)) ws ({ frames := 4, cells := 2, slots := 8, locals := 64 } : Room) #[(.ref xa), (.int (0 : Int32)), (.int (4 : Int32))] h0 (Q_rSub_5_0_4 Z xa xb xk xfm xz xc0 xc1 xc2 xc3 xc4 h0) := by
  refine oCon.of (plainFor_of_name pn_3) ?_
  intro p e s m below meth c T X hx hby hml hown hnm hret hlk hZ e0
  have hml : c.maxLocals = 5 := hml
  have K : oKp h0 h0 [] [] := oKp.nil _ _
  refine oWk.cast (g' := (mkF m 0 #[rv xa, iv 0, iv 4, uu, uu] [])) (by first | rfl | (simp [entryFrame, mkF, argsToLocals, Value.category]; done)) ?_
  refine oWk.st (fun _ kt => zA X hx hby d18_0 rfl rfl rfl kt) ?_
  have Oh := K.old O0 all0
  obtain ⟨T, L2, X, e0, K, st⟩ := (cs10 hw).pure X hx hZ hown e0 K (A := [(.ref xa)]) ⟨rfl, _, _, rfl, E_xa⟩ (rLn_5 l Z a0 hw [] xa xb xk xz xc0 xc1 xc2 xc3 xc4 h0 Oh S_COMPACT_STRINGS hz E_xa F_coder_xa F_value_xa V_xb) (fun _ _ _ q => q) (W := 0) (by decide) hml (Ls := #[rv xa, iv 0, iv 4, uu, uu]) rfl (rest := []) rfl rfl hby d18_1
  refine oWk.st (fun _ kt => st _ (zSn X hx hby d18_4 rfl rfl (l' := #[rv xa, iv 0, iv 4, iv 5, uu]) rfl (zI X hx hby d18_5 rfl rfl (zI X hx hby d18_6 rfl rfl (zI X hx hby d18_7 rfl rfl kt))))) ?_
  obtain ⟨T, L4, X, e0, K, st⟩ := (cs13 hw).pure X hx hZ hown e0 K (A := [(.int (0 : Int32)), (.int (4 : Int32)), (.int (5 : Int32))]) rfl (rCkB l Z a0 hw [] (0 : Int32) (4 : Int32) (5 : Int32) xfm h0 Oh S_SIOOBE_FORMATTER hcat (by decide) (by decide) (by decide)) (fun _ _ _ q => q) (W := 0) (by decide) hml (Ls := #[rv xa, iv 0, iv 4, iv 5, uu]) rfl (rest := []) rfl rfl hby d18_8
  refine oWk.to (mkF m 23 #[rv xa, iv 0, iv 4, iv 5, uu] [(.int 4)]) (fun _ kt => st _ (zI X hx hby d18_11 rfl rfl (zH X hx hby d18_12 rfl rfl ((if0 _ _).trans (teq (by decide)).2) (zI X hx hby d18_15 rfl rfl (zI X hx hby d18_16 rfl rfl (zY X hx hby d18_17 rfl rfl (feq (by decide)).2 (pc' := 22) rfl (zI X hx hby d18_22 rfl rfl kt))))))) ?_
  refine oWk.st (fun _ kt => zI X hx hby d18_23 rfl rfl (XS.isub X.here hx rfl (hb hby d18_24) rfl (zS X hx hby d18_25 rfl rfl (l' := #[rv xa, iv 0, iv 4, iv 5, iv 4]) rfl (zA X hx hby d18_27 rfl rfl rfl kt)))) ?_
  obtain ⟨T, L6, X, e0, K, st⟩ := (cs8 hw).pure X hx hZ hown e0 K (A := [(.ref xa)]) ⟨rfl, _, _, rfl, E_xa⟩ (rIsL l Z a0 hw [] xa xz h0 Oh S_COMPACT_STRINGS hz F_coder_xa) (fun _ _ _ q => q) (W := 0) (by decide) hml (Ls := #[rv xa, iv 0, iv 4, iv 5, iv 4]) rfl (rest := []) rfl rfl hby d18_28
  refine oWk.st (fun _ kt => st _ (zH X hx hby d18_31 rfl rfl ((if0 _ _).trans (feq (by decide)).1) (zA X hx hby d18_34 rfl rfl rfl kt))) ?_
  obtain ⟨T, X, e0, st⟩ := getF X hx hZ hown (host := "") (Or.inl (oW hw 36 rfl)) Via.refl e0 F_value_xa (g := (mkF m 35 #[rv xa, iv 0, iv 4, iv 5, iv 4] [(.ref xa)])) rfl rfl (hb hby d18_35)
  refine oWk.st (fun _ kt => st _ (zI X hx hby d18_38 rfl rfl (zJ X hx hby d18_39 rfl rfl kt))) ?_
  have lt_xa := E_xa.lt
  have lt_xb := V_xb.lt
  obtain ⟨_, T, h, Lc8, X, e0, hQ, st⟩ := (cs20 hw).run X hx hZ hown e0 (A := [(.ref xb), (.int (0 : Int32)), (.int (4 : Int32))]) rfl (rNS_5_0_4 l Z a0 hw [] xb xk xc0 xc1 xc2 xc3 xc4 h0 Oh V_xb) (W := 0) (by decide) hml (Ls := #[rv xa, iv 0, iv 4, iv 5, iv 4]) rfl (rest := []) rfl rfl hby d18_41
  obtain ⟨nr7, nb7, nk7, rfl, K7, gn_nr7, gn_nb7, E_nr7, F_coder_nr7, F_value_nr7, V_nb7⟩ := hQ
  have ge_nr7 := Nat.le_trans K.le gn_nr7
  have ne_xa_nr7 : xa ≠ nr7 := Nat.ne_of_lt (Nat.lt_of_lt_of_le lt_xa gn_nr7)
  have ne_xb_nr7 : xb ≠ nr7 := Nat.ne_of_lt (Nat.lt_of_lt_of_le lt_xb gn_nr7)
  have ge_nb7 := Nat.le_trans K.le gn_nb7
  have ne_xa_nb7 : xa ≠ nb7 := Nat.ne_of_lt (Nat.lt_of_lt_of_le lt_xa gn_nb7)
  have ne_xb_nb7 : xb ≠ nb7 := Nat.ne_of_lt (Nat.lt_of_lt_of_le lt_xb gn_nb7)
  have K := K.call K7 all0
  refine oWk.to (mkF m 57 #[rv xa, iv 0, iv 4, iv 5, iv 4] [(.ref nr7)]) (fun _ kt => st _ (zG X hx hby d18_44 rfl (pc' := 57) rfl kt)) ?_
  exact oRetA X hx hlk hret rfl rfl (hb hby d18_57) (by rw [e0]; exact ⟨nr7, nb7, nk7, rfl, K, ge_nr7, ge_nb7, E_nr7, F_coder_nr7, F_value_nr7, V_nb7⟩) (by decide) (by decide)
def Q_rSP_5_4 (Z : State) (xa xb : Addr) (xk : ClassId) (xfm : Value) (xz xc0 xc1 xc2 xc3 xc4 : Int32) (h0 : Heap) (v : Option Value) (h : Heap) (L : List Loc) : Prop := ∃ (nr : Addr) (nb : Addr) (nk : ClassId), v = some (.ref nr) ∧ oKp h0 h [] L ∧ (h0.size ≤ nr) ∧ (h0.size ≤ nb) ∧ (Exa Z h nr Y0) ∧ (Fld Z h nr Y0 "coder" "B" (.int (0 : Int32))) ∧ (Fld Z h nr Y0 "value" "[B" (.ref nb)) ∧ (Arv Z h nb nk .byte (4 : Int32) [(ib xc0), (ib xc1), (ib xc2), (ib xc3)] (.int (0 : Int32)))
theorem rSP_5_4 (l : Launch) (Z : State) (a0 : Array Value) (hw : oHW a0 Z) (ws : List Jvm.Cond) (xa xb : Addr) (xk : ClassId) (xfm : Value) (xz xc0 xc1 xc2 xc3 xc4 : Int32) (h0 : Heap) (O0 : Ext Z.heap h0) (S_COMPACT_STRINGS : Sta Z Z.heap Y0 Y1 "Z" (.int xz)) (hz : ¬ xz = (0 : Int32)) (S_SIOOBE_FORMATTER : Sta Z Z.heap Y2 Y3 Y4 xfm) (hcat : xfm.category = 1) (E_xa : Exa Z h0 xa Y0) (F_coder_xa : Fld Z h0 xa Y0 "coder" "B" (.int (0 : Int32))) (F_value_xa : Fld Z h0 xa Y0 "value" "[B" (.ref xb)) (V_xb : Arv Z h0 xb xk .byte (5 : Int32) [(ib xc0), (ib xc1), (ib xc2), (ib xc3), (ib xc4)] (.int (0 : Int32))) (hu4 : (xc4.toInt8.toInt32) = (58 : Int32)) :
    oCon l Z yy19 prog_3_method_2_code 1 (some (.object Y0)) ws ({ frames := 5, cells := 2, slots := 8, locals := 80 } : Room) #[(.ref xa)] h0 (Q_rSP_5_4 Z xa xb xk xfm xz xc0 xc1 xc2 xc3 xc4 h0) := by
  refine oCon.of (plainFor_of_name pn_5) ?_
  intro p e s m below meth c T X hx hby hml hown hnm hret hlk hZ e0
  have hml : c.maxLocals = 1 := hml
  have K : oKp h0 h0 [] [] := oKp.nil _ _
  refine oWk.cast (g' := (mkF m 0 #[rv xa] [])) (by first | rfl | (simp [entryFrame, mkF, argsToLocals, Value.category]; done)) ?_
  refine oWk.st (fun _ kt => zA X hx hby d9_0 rfl rfl rfl (zK X hx hby d9_1 rfl (zA X hx hby d9_2 rfl rfl rfl (zL X hx hby d9_3 rfl kt)))) ?_
  have Oh := K.old O0 all0
  obtain ⟨T, L2, X, e0, K, st⟩ := (cs14 hw).pure X hx hZ hown e0 K (A := [(.ref xa), (.int (58 : Int32))]) ⟨rfl, _, _, rfl, E_xa⟩ (rLK_5_4 l Z a0 hw [] xa xb xk xz xc0 xc1 xc2 xc3 xc4 h0 Oh S_COMPACT_STRINGS hz E_xa F_coder_xa F_value_xa V_xb hu4) (fun _ _ _ q => q) (W := 2) (by decide) hml (Ls := #[rv xa]) rfl (rest := [(.int (0 : Int32)), (.ref xa)]) rfl rfl hby d9_5
  refine oWk.st (fun _ kt => st _ kt) ?_
  have lt_xa := E_xa.lt
  have lt_xb := V_xb.lt
  obtain ⟨_, T, h, Lc4, X, e0, hQ, st⟩ := (cs21 hw).run X hx hZ hown e0 (A := [(.ref xa), (.int (0 : Int32)), (.int (4 : Int32))]) ⟨rfl, _, _, rfl, E_xa⟩ (rSub_5_0_4 l Z a0 hw [] xa xb xk xfm xz xc0 xc1 xc2 xc3 xc4 h0 Oh S_COMPACT_STRINGS hz S_SIOOBE_FORMATTER hcat E_xa F_coder_xa F_value_xa V_xb) (W := 0) (by decide) hml (Ls := #[rv xa]) rfl (rest := []) rfl rfl hby d9_8
  obtain ⟨nr3, nb3, nk3, rfl, K3, gn_nr3, gn_nb3, E_nr3, F_coder_nr3, F_value_nr3, V_nb3⟩ := hQ
  have ge_nr3 := Nat.le_trans K.le gn_nr3
  have ne_xa_nr3 : xa ≠ nr3 := Nat.ne_of_lt (Nat.lt_of_lt_of_le lt_xa gn_nr3)
  have ne_xb_nr3 : xb ≠ nr3 := Nat.ne_of_lt (Nat.lt_of_lt_of_le lt_xb gn_nr3)
  have ge_nb3 := Nat.le_trans K.le gn_nb3
  have ne_xa_nb3 : xa ≠ nb3 := Nat.ne_of_lt (Nat.lt_of_lt_of_le lt_xa gn_nb3)
  have ne_xb_nb3 : xb ≠ nb3 := Nat.ne_of_lt (Nat.lt_of_lt_of_le lt_xb gn_nb3)
  have K := K.call K3 all0
  refine oWk.to (mkF m 11 #[rv xa] [(.ref nr3)]) (fun _ kt => st _ kt) ?_
  exact oRetA X hx hlk hret rfl rfl (hb hby d9_11) (by rw [e0]; exact ⟨nr3, nb3, nk3, rfl, K, ge_nr3, ge_nb3, E_nr3, F_coder_nr3, F_value_nr3, V_nb3⟩) (by decide) (by decide)
def Q_rLn_0 (Z : State) (xa xb : Addr) (xk : ClassId) (xz : Int32) (h0 : Heap) (v : Option Value) (h : Heap) (L : List Loc) : Prop := v = some (.int (0 : Int32)) ∧ h = h0 ∧ oKp h0 h [] L
theorem rLn_0 (l : Launch) (Z : State) (a0 : Array Value) (hw : oHW a0 Z) (ws : List Jvm.Cond) (xa xb : Addr) (xk : ClassId) (xz : Int32) (h0 : Heap) (O0 : Ext Z.heap h0) (S_COMPACT_STRINGS : Sta Z Z.heap Y0 Y1 "Z" (.int xz)) (hz : ¬ xz = (0 : Int32)) (E_xa : Exa Z h0 xa Y0) (F_coder_xa : Fld Z h0 xa Y0 "coder" "B" (.int (0 : Int32))) (F_value_xa : Fld Z h0 xa Y0 "value" "[B" (.ref xb)) (V_xb : Arv Z h0 xb xk .byte (0 : Int32) [] (.int (0 : Int32))) :
    oCon l Z yy12 jdk_42_method_54_code 1 (some .int) ws ({ frames := 1, cells := 0, slots := 0, locals := 13 } : Room) #[(.ref xa)] h0 (Q_rLn_0 Z xa xb xk xz h0) := by
  refine oCon.of (plainFor_of_name pn_3) ?_
  intro p e s m below meth c T X hx hby hml hown hnm hret hlk hZ e0
  have hml : c.maxLocals = 1 := hml
  have K : oKp h0 h0 [] [] := oKp.nil _ _
  refine oWk.cast (g' := (mkF m 0 #[rv xa] [])) (by first | rfl | (simp [entryFrame, mkF, argsToLocals, Value.category]; done)) ?_
  refine oWk.st (fun _ kt => zA X hx hby d11_0 rfl rfl rfl kt) ?_
  obtain ⟨T, X, e0, st⟩ := getF X hx hZ hown (host := "") (Or.inl (oW hw 36 rfl)) Via.refl e0 F_value_xa (g := (mkF m 1 #[rv xa] [(.ref xa)])) rfl rfl (hb hby d11_1)
  refine oWk.st (fun _ kt => st _ (oAl X hx hZ e0 V_xb hby d11_4 rfl rfl (zA X hx hby d11_5 rfl rfl rfl kt))) ?_
  have Oh := K.old O0 all0
  obtain ⟨T, L3, X, e0, K, st⟩ := (cs7 hw).pure X hx hZ hown e0 K (A := [(.ref xa)]) ⟨rfl, _, _, rfl, E_xa⟩ (rCdr l Z a0 hw [] xa xz h0 Oh S_COMPACT_STRINGS hz F_coder_xa) (fun _ _ _ q => q) (W := 1) (by decide) hml (Ls := #[rv xa]) rfl (rest := [(.int (0 : Int32))]) rfl rfl hby d11_6
  refine oWk.to (mkF m 10 #[rv xa] [(.int 0)]) (fun _ kt => st _ (XS.ishr X.here hx rfl (hb hby d11_9) rfl kt)) ?_
  exact oRetI X hx hlk hret (hb hby d11_10) (by rw [e0]; exact ⟨rfl, rfl, K⟩) (by decide) (by decide)
def Q_rPCk (Z : State) (xi xn : Int32) (xfm : Value) (h0 : Heap) (v : Option Value) (h : Heap) (L : List Loc) : Prop := v = some (.int xi) ∧ h = h0 ∧ oKp h0 h [] L
abbrev yy24 : MethodName := ⟨"jdk/internal/util/Preconditions", "checkIndex", "(IILjava/util/function/BiFunction;)I"⟩
theorem d29_0 : decode jdk_41_method_11_code 0 = .ok (.iload_n 0, 1) := by decide +kernel
theorem d29_1 : decode jdk_41_method_11_code 1 = .ok (.ifCond .lt 8, 3) := by decide +kernel
theorem d29_4 : decode jdk_41_method_11_code 4 = .ok (.iload_n 0, 1) := by decide +kernel
theorem d29_5 : decode jdk_41_method_11_code 5 = .ok (.iload_n 1, 1) := by decide +kernel
theorem d29_6 : decode jdk_41_method_11_code 6 = .ok (.if_icmp .lt 10, 3) := by decide +kernel
theorem d29_16 : decode jdk_41_method_11_code 16 = .ok (.iload_n 0, 1) := by decide +kernel
theorem d29_17 : decode jdk_41_method_11_code 17 = .ok (.ireturn, 1) := by decide +kernel
theorem rPCk (l : Launch) (Z : State) (a0 : Array Value) (hw : oHW a0 Z) (ws : List Jvm.Cond) (xi xn : Int32) (xfm : Value) (h0 : Heap) (O0 : Ext Z.heap h0) (hcat : xfm.category = 1) (h1 : ¬ xi < (0 : Int32)) (h2 : xi < xn) :
    oCon l Z yy24 jdk_41_method_11_code 3 (some .int) ws ({ frames := 0, cells := 0, slots := 0, locals := 0 } : Room) #[(.int xi), (.int xn), xfm] h0 (Q_rPCk Z xi xn xfm h0) := by
  refine oCon.of (plainFor_of_name pn_4) ?_
  intro p e s m below meth c T X hx hby hml hown hnm hret hlk hZ e0
  have hml : c.maxLocals = 3 := hml
  have K : oKp h0 h0 [] [] := oKp.nil _ _
  refine oWk.cast (g' := (mkF m 0 #[iv xi, iv xn, .val xfm] [])) (by cases xfm <;> first | rfl | exact absurd hcat (by simp [Value.category])) ?_
  refine oWk.to (mkF m 17 #[iv xi, iv xn, .val xfm] [(.int xi)]) (fun _ kt => zI X hx hby d29_0 rfl rfl (zH X hx hby d29_1 rfl rfl ((if0 _ _).trans (flt h1).1) (zI X hx hby d29_4 rfl rfl (zI X hx hby d29_5 rfl rfl (zY X hx hby d29_6 rfl rfl (tlt h2).1 (pc' := 16) rfl (zI X hx hby d29_16 rfl rfl kt)))))) ?_
  exact oRetI X hx hlk hret (hb hby d29_17) (by rw [e0]; exact ⟨rfl, rfl, K⟩) (by decide) (by decide)
def Q_rCkI (Z : State) (xi xn : Int32) (xfm : Value) (h0 : Heap) (v : Option Value) (h : Heap) (L : List Loc) : Prop := v = none ∧ h = h0 ∧ oKp h0 h [] L
abbrev yy25 : MethodName := ⟨"java/lang/String", "checkIndex", "(II)V"⟩
theorem d28_0 : decode jdk_42_method_155_code 0 = .ok (.iload_n 0, 1) := by decide +kernel
theorem d28_1 : decode jdk_42_method_155_code 1 = .ok (.iload_n 1, 1) := by decide +kernel
theorem d28_2 : decode jdk_42_method_155_code 2 = .ok (.getstatic 1053, 3) := by decide +kernel
theorem d28_5 : decode jdk_42_method_155_code 5 = .ok (.invokestatic 1059, 3) := by decide +kernel
theorem pd_19 : parseMethodDescriptor "(IILjava/util/function/BiFunction;)I" = some ⟨[.int, .int, (.object "java/util/function/BiFunction")], some .int⟩ := by decide +kernel
theorem cs22 {a0 : Array Value} {Z : State} (hw : oHW a0 Z) : oCall Z Y0 (.invokestatic 1059) yy24 jdk_41_method_11_code 3 (some .int) (oRs 3) := oCall.stat (oW hw 128 rfl) (oW hw 129 rfl) (oW hw 87 rfl) (oW hw 130 rfl) (by decide) pd_19
theorem d28_8 : decode jdk_42_method_155_code 8 = .ok (.pop, 1) := by decide +kernel
theorem d28_9 : decode jdk_42_method_155_code 9 = .ok (.return_, 1) := by decide +kernel
theorem rCkI (l : Launch) (Z : State) (a0 : Array Value) (hw : oHW a0 Z) (ws : List Jvm.Cond) (xi xn : Int32) (xfm : Value) (h0 : Heap) (O0 : Ext Z.heap h0) (S_SIOOBE_FORMATTER : Sta Z Z.heap Y2 Y3 Y4 xfm) (hcat : xfm.category = 1) (h1 : ¬ xi < (0 : Int32)) (h2 : xi < xn) :
    oCon l Z yy25 jdk_42_method_155_code 2 none ws ({ frames := 1, cells := 0, slots := 0, locals := 14 } : Room) #[(.int xi), (.int xn)] h0 (Q_rCkI Z xi xn xfm h0) := by
  refine oCon.of (plainFor_of_name pn_3) ?_
  intro p e s m below meth c T X hx hby hml hown hnm hret hlk hZ e0
  have hml : c.maxLocals = 2 := hml
  have K : oKp h0 h0 [] [] := oKp.nil _ _
  refine oWk.cast (g' := (mkF m 0 #[iv xi, iv xn] [])) (by first | rfl | (simp [entryFrame, mkF, argsToLocals, Value.category]; done)) ?_
  refine oWk.st (fun _ kt => zI X hx hby d28_0 rfl rfl (zI X hx hby d28_1 rfl rfl kt)) ?_
  have Oh := K.old O0 all0
  obtain ⟨T, X, e0, st⟩ := getS2 X hx hZ hown (host := "") (Or.inl (oW hw 86 rfl)) Via.refl e0 (S_SIOOBE_FORMATTER.ext Oh) (g := (mkF m 2 #[iv xi, iv xn] [(.int xn), (.int xi)])) rfl (hb hby d28_2)
  refine oWk.st (fun _ kt => st _ kt) ?_
  obtain ⟨T, L2, X, e0, K, st⟩ := (cs22 hw).pure X hx hZ hown e0 K (A := [(.int xi), (.int xn), xfm]) rfl (rPCk l Z a0 hw [] xi xn xfm h0 Oh hcat h1 h2) (fun _ _ _ q => q) (W := 0) (by decide) hml (Ls := #[iv xi, iv xn]) rfl (rest := []) rfl rfl hby d28_5
  refine oWk.to (mkF m 9 #[iv xi, iv xn] []) (fun _ kt => st _ (XS.pop X.here hx rfl (hb hby d28_8) rfl rfl kt)) ?_
  exact oRetV X hx hlk hret (hb hby d28_9) (by rw [e0]; exact ⟨rfl, rfl, K⟩) (by decide) (by decide)
def Q_rLC_1_0 (Z : State) (xb : Addr) (xk : ClassId) (xfm : Value) (xc0 : Int32) (h0 : Heap) (v : Option Value) (h : Heap) (L : List Loc) : Prop := v = some (.int xc0) ∧ h = h0 ∧ oKp h0 h [] L
abbrev yy26 : MethodName := ⟨"java/lang/StringLatin1", "charAt", "([BI)C"⟩
theorem d27_0 : decode jdk_43_method_2_code 0 = .ok (.iload_n 1, 1) := by decide +kernel
theorem d27_1 : decode jdk_43_method_2_code 1 = .ok (.aload_n 0, 1) := by decide +kernel
theorem d27_2 : decode jdk_43_method_2_code 2 = .ok (.arraylength, 1) := by decide +kernel
theorem d27_3 : decode jdk_43_method_2_code 3 = .ok (.invokestatic 9, 3) := by decide +kernel
theorem cs23 {a0 : Array Value} {Z : State} (hw : oHW a0 Z) : oCall Z Y5 (.invokestatic 9) yy25 jdk_42_method_155_code 2 none (oRs 2) := oCall.stat (oW hw 125 rfl) (oW hw 126 rfl) (oW hw 11 rfl) (oW hw 127 rfl) (by decide) pd_16
theorem d27_6 : decode jdk_43_method_2_code 6 = .ok (.aload_n 0, 1) := by decide +kernel
theorem d27_7 : decode jdk_43_method_2_code 7 = .ok (.iload_n 1, 1) := by decide +kernel
theorem d27_8 : decode jdk_43_method_2_code 8 = .ok (.baload, 1) := by decide +kernel
theorem d27_9 : decode jdk_43_method_2_code 9 = .ok (.sipush 255, 3) := by decide +kernel
theorem d27_12 : decode jdk_43_method_2_code 12 = .ok (.iand, 1) := by decide +kernel
theorem d27_13 : decode jdk_43_method_2_code 13 = .ok (.i2c, 1) := by decide +kernel
theorem d27_14 : decode jdk_43_method_2_code 14 = .ok (.ireturn, 1) := by decide +kernel
theorem rLC_1_0 (l : Launch) (Z : State) (a0 : Array Value) (hw : oHW a0 Z) (ws : List Jvm.Cond) (xb : Addr) (xk : ClassId) (xfm : Value) (xc0 : Int32) (h0 : Heap) (O0 : Ext Z.heap h0) (S_SIOOBE_FORMATTER : Sta Z Z.heap Y2 Y3 Y4 xfm) (hcat : xfm.category = 1) (hr : 0 ≤ xc0.toInt ∧ xc0.toInt < 256) (V_xb : Arv Z h0 xb xk .byte (1 : Int32) [(ib xc0)] (.int (0 : Int32))) :
    oCon l Z yy26 jdk_43_method_2_code 2 (some .char) ws ({ frames := 2, cells := 0, slots := 0, locals := 27 } : Room) #[(.ref xb), (.int (0 : Int32))] h0 (Q_rLC_1_0 Z xb xk xfm xc0 h0) := by
  refine oCon.of (plainFor_of_name pn_0) ?_
  intro p e s m below meth c T X hx hby hml hown hnm hret hlk hZ e0
  have hml : c.maxLocals = 2 := hml
  have K : oKp h0 h0 [] [] := oKp.nil _ _
  refine oWk.cast (g' := (mkF m 0 #[rv xb, iv 0] [])) (by first | rfl | (simp [entryFrame, mkF, argsToLocals, Value.category]; done)) ?_
  refine oWk.st (fun _ kt => zI X hx hby d27_0 rfl rfl (zA X hx hby d27_1 rfl rfl rfl (oAl X hx hZ e0 V_xb hby d27_2 rfl rfl kt))) ?_
  have Oh := K.old O0 all0
  obtain ⟨T, L3, X, e0, K, st⟩ := (cs23 hw).pure X hx hZ hown e0 K (A := [(.int (0 : Int32)), (.int (1 : Int32))]) rfl (rCkI l Z a0 hw [] (0 : Int32) (1 : Int32) xfm h0 Oh S_SIOOBE_FORMATTER hcat (by decide) (by decide)) (fun _ _ _ q => q) (W := 0) (by decide) hml (Ls := #[rv xb, iv 0]) rfl (rest := []) rfl rfl hby d27_3
  refine oWk.to (mkF m 14 #[rv xb, iv 0] [(.int (((xc0.toInt8.toInt32) &&& (255 : Int32)).toUInt32.toUInt16.toUInt32.toInt32))]) (fun _ kt => st _ (zA X hx hby d27_6 rfl rfl rfl (zI X hx hby d27_7 rfl rfl (oLdB X hx hZ e0 V_xb (0 : Int32) (ib xc0) ⟨by decide, by decide⟩ rfl hby d27_8 rfl rfl (zM X hx hby d27_9 rfl (XS.iand X.here hx rfl (hb hby d27_12) rfl (XS.i2c X.here hx rfl (hb hby d27_13) rfl kt))))))) ?_
  rw [oBk hr]
  show oWk _ _ _ _ T (mkF m 14 #[rv xb, iv 0] [(.int xc0)])
  exact oRetN X hx hlk hret (Or.inr (Or.inl rfl)) (show narrow .char (.int xc0) = .int xc0 from congrArg Value.int (oChr hr)) (hb hby d27_14) (by rw [e0]; exact ⟨rfl, rfl, K⟩) (by decide) (by decide)
def Q_rCA_1_0 (Z : State) (xa xb : Addr) (xk : ClassId) (xfm : Value) (xz xc0 : Int32) (h0 : Heap) (v : Option Value) (h : Heap) (L : List Loc) : Prop := v = some (.int xc0) ∧ h = h0 ∧ oKp h0 h [] L
abbrev yy27 : MethodName := ⟨"java/lang/String", "charAt", "(I)C"⟩
theorem d26_0 : decode jdk_42_method_56_code 0 = .ok (.aload_n 0, 1) := by decide +kernel
theorem d26_1 : decode jdk_42_method_56_code 1 = .ok (.invokevirtual 492, 3) := by decide +kernel
theorem d26_4 : decode jdk_42_method_56_code 4 = .ok (.ifCond .eq 12, 3) := by decide +kernel
theorem d26_7 : decode jdk_42_method_56_code 7 = .ok (.aload_n 0, 1) := by decide +kernel
theorem d26_8 : decode jdk_42_method_56_code 8 = .ok (.getfield 9, 3) := by decide +kernel
theorem d26_11 : decode jdk_42_method_56_code 11 = .ok (.iload_n 1, 1) := by decide +kernel
theorem d26_12 : decode jdk_42_method_56_code 12 = .ok (.invokestatic 495, 3) := by decide +kernel
theorem pd_20 : parseMethodDescriptor "([BI)C" = some ⟨[(.array .byte), .int], some .char⟩ := by decide +kernel
theorem cs24 {a0 : Array Value} {Z : State} (hw : oHW a0 Z) : oCall Z Y0 (.invokestatic 495) yy26 jdk_43_method_2_code 2 (some .char) (oRs 2) := oCall.stat (oW hw 122 rfl) (oW hw 123 rfl) (oW hw 69 rfl) (oW hw 124 rfl) (by decide) pd_20
theorem d26_15 : decode jdk_42_method_56_code 15 = .ok (.ireturn, 1) := by decide +kernel
theorem rCA_1_0 (l : Launch) (Z : State) (a0 : Array Value) (hw : oHW a0 Z) (ws : List Jvm.Cond) (xa xb : Addr) (xk : ClassId) (xfm : Value) (xz xc0 : Int32) (h0 : Heap) (O0 : Ext Z.heap h0) (S_COMPACT_STRINGS : Sta Z Z.heap Y0 Y1 "Z" (.int xz)) (hz : ¬ xz = (0 : Int32)) (S_SIOOBE_FORMATTER : Sta Z Z.heap Y2 Y3 Y4 xfm) (hcat : xfm.category = 1) (hr : 0 ≤ xc0.toInt ∧ xc0.toInt < 256) (E_xa : Exa Z h0 xa Y0) (F_coder_xa : Fld Z h0 xa Y0 "coder" "B" (.int (0 : Int32))) (F_value_xa : Fld Z h0 xa Y0 "value" "[B" (.ref xb)) (V_xb : Arv Z h0 xb xk .byte (1 : Int32) [(ib xc0)] (.int (0 : Int32))) :
    oCon l Z yy27 jdk_42_method_56_code 2 (some .char) ws ({ frames := 3, cells := 0, slots := 0, locals := 40 } : Room) #[(.ref xa), (.int (0 : Int32))] h0 (Q_rCA_1_0 Z xa xb xk xfm xz xc0 h0) := by
  refine oCon.of (plainFor_of_name pn_3) ?_
  intro p e s m below meth c T X hx hby hml hown hnm hret hlk hZ e0
  have hml : c.maxLocals = 2 := hml
  have K : oKp h0 h0 [] [] := oKp.nil _ _
  refine oWk.cast (g' := (mkF m 0 #[rv xa, iv 0] [])) (by first | rfl | (simp [entryFrame, mkF, argsToLocals, Value.category]; done)) ?_
  refine oWk.st (fun _ kt => zA X hx hby d26_0 rfl rfl rfl kt) ?_
  have Oh := K.old O0 all0
  obtain ⟨T, L2, X, e0, K, st⟩ := (cs8 hw).pure X hx hZ hown e0 K (A := [(.ref xa)]) ⟨rfl, _, _, rfl, E_xa⟩ (rIsL l Z a0 hw [] xa xz h0 Oh S_COMPACT_STRINGS hz F_coder_xa) (fun _ _ _ q => q) (W := 0) (by decide) hml (Ls := #[rv xa, iv 0]) rfl (rest := []) rfl rfl hby d26_1
  refine oWk.st (fun _ kt => st _ (zH X hx hby d26_4 rfl rfl ((if0 _ _).trans (feq (by decide)).1) (zA X hx hby d26_7 rfl rfl rfl kt))) ?_
  obtain ⟨T, X, e0, st⟩ := getF X hx hZ hown (host := "") (Or.inl (oW hw 36 rfl)) Via.refl e0 F_value_xa (g := (mkF m 8 #[rv xa, iv 0] [(.ref xa)])) rfl rfl (hb hby d26_8)
  refine oWk.st (fun _ kt => st _ (zI X hx hby d26_11 rfl rfl kt)) ?_
  obtain ⟨T, L4, X, e0, K, st⟩ := (cs24 hw).pure X hx hZ hown e0 K (A := [(.ref xb), (.int (0 : Int32))]) rfl (rLC_1_0 l Z a0 hw [] xb xk xfm xc0 h0 Oh S_SIOOBE_FORMATTER hcat hr V_xb) (fun _ _ _ q => q) (W := 0) (by decide) hml (Ls := #[rv xa, iv 0]) rfl (rest := []) rfl rfl hby d26_12
  refine oWk.to (mkF m 15 #[rv xa, iv 0] [(.int xc0)]) (fun _ kt => st _ kt) ?_
  exact oRetN X hx hlk hret (Or.inr (Or.inl rfl)) (show narrow .char (.int xc0) = .int xc0 from congrArg Value.int (oChr hr)) (hb hby d26_15) (by rw [e0]; exact ⟨rfl, rfl, K⟩) (by decide) (by decide)
def Q_rLC_2_0 (Z : State) (xb : Addr) (xk : ClassId) (xfm : Value) (xc0 xc1 : Int32) (h0 : Heap) (v : Option Value) (h : Heap) (L : List Loc) : Prop := v = some (.int xc0) ∧ h = h0 ∧ oKp h0 h [] L
theorem rLC_2_0 (l : Launch) (Z : State) (a0 : Array Value) (hw : oHW a0 Z) (ws : List Jvm.Cond) (xb : Addr) (xk : ClassId) (xfm : Value) (xc0 xc1 : Int32) (h0 : Heap) (O0 : Ext Z.heap h0) (S_SIOOBE_FORMATTER : Sta Z Z.heap Y2 Y3 Y4 xfm) (hcat : xfm.category = 1) (hr : 0 ≤ xc0.toInt ∧ xc0.toInt < 256) (V_xb : Arv Z h0 xb xk .byte (2 : Int32) [(ib xc0), (ib xc1)] (.int (0 : Int32))) :
    oCon l Z yy26 jdk_43_method_2_code 2 (some .char) ws ({ frames := 2, cells := 0, slots := 0, locals := 27 } : Room) #[(.ref xb), (.int (0 : Int32))] h0 (Q_rLC_2_0 Z xb xk xfm xc0 xc1 h0) := by
  refine oCon.of (plainFor_of_name pn_0) ?_
  intro p e s m below meth c T X hx hby hml hown hnm hret hlk hZ e0
  have hml : c.maxLocals = 2 := hml
  have K : oKp h0 h0 [] [] := oKp.nil _ _
  refine oWk.cast (g' := (mkF m 0 #[rv xb, iv 0] [])) (by first | rfl | (simp [entryFrame, mkF, argsToLocals, Value.category]; done)) ?_
  refine oWk.st (fun _ kt => zI X hx hby d27_0 rfl rfl (zA X hx hby d27_1 rfl rfl rfl (oAl X hx hZ e0 V_xb hby d27_2 rfl rfl kt))) ?_
  have Oh := K.old O0 all0
  obtain ⟨T, L3, X, e0, K, st⟩ := (cs23 hw).pure X hx hZ hown e0 K (A := [(.int (0 : Int32)), (.int (2 : Int32))]) rfl (rCkI l Z a0 hw [] (0 : Int32) (2 : Int32) xfm h0 Oh S_SIOOBE_FORMATTER hcat (by decide) (by decide)) (fun _ _ _ q => q) (W := 0) (by decide) hml (Ls := #[rv xb, iv 0]) rfl (rest := []) rfl rfl hby d27_3
  refine oWk.to (mkF m 14 #[rv xb, iv 0] [(.int (((xc0.toInt8.toInt32) &&& (255 : Int32)).toUInt32.toUInt16.toUInt32.toInt32))]) (fun _ kt => st _ (zA X hx hby d27_6 rfl rfl rfl (zI X hx hby d27_7 rfl rfl (oLdB X hx hZ e0 V_xb (0 : Int32) (ib xc0) ⟨by decide, by decide⟩ rfl hby d27_8 rfl rfl (zM X hx hby d27_9 rfl (XS.iand X.here hx rfl (hb hby d27_12) rfl (XS.i2c X.here hx rfl (hb hby d27_13) rfl kt))))))) ?_
  rw [oBk hr]
  show oWk _ _ _ _ T (mkF m 14 #[rv xb, iv 0] [(.int xc0)])
  exact oRetN X hx hlk hret (Or.inr (Or.inl rfl)) (show narrow .char (.int xc0) = .int xc0 from congrArg Value.int (oChr hr)) (hb hby d27_14) (by rw [e0]; exact ⟨rfl, rfl, K⟩) (by decide) (by decide)
def Q_rCA_2_0 (Z : State) (xa xb : Addr) (xk : ClassId) (xfm : Value) (xz xc0 xc1 : Int32) (h0 : Heap) (v : Option Value) (h : Heap) (L : List Loc) : Prop := v = some (.int xc0) ∧ h = h0 ∧ oKp h0 h [] L
theorem rCA_2_0 (l : Launch) (Z : State) (a0 : Array Value) (hw : oHW a0 Z) (ws : List Jvm.Cond) (xa xb : Addr) (xk : ClassId) (xfm : Value) (xz xc0 xc1 : Int32) (h0 : Heap) (O0 : Ext Z.heap h0) (S_COMPACT_STRINGS : Sta Z Z.heap Y0 Y1 "Z" (.int xz)) (hz : ¬ xz = (0 : Int32)) (S_SIOOBE_FORMATTER : Sta Z Z.heap Y2 Y3 Y4 xfm) (hcat : xfm.category = 1) (hr : 0 ≤ xc0.toInt ∧ xc0.toInt < 256) (E_xa : Exa Z h0 xa Y0) (F_coder_xa : Fld Z h0 xa Y0 "coder" "B" (.int (0 : Int32))) (F_value_xa : Fld Z h0 xa Y0 "value" "[B" (.ref xb)) (V_xb : Arv Z h0 xb xk .byte (2 : Int32) [(ib xc0), (ib xc1)] (.int (0 : Int32))) :
    oCon l Z yy27 jdk_42_method_56_code 2 (some .char) ws ({ frames := 3, cells := 0, slots := 0, locals := 40 } : Room) #[(.ref xa), (.int (0 : Int32))] h0 (Q_rCA_2_0 Z xa xb xk xfm xz xc0 xc1 h0) := by
  refine oCon.of (plainFor_of_name pn_3) ?_
  intro p e s m below meth c T X hx hby hml hown hnm hret hlk hZ e0
  have hml : c.maxLocals = 2 := hml
  have K : oKp h0 h0 [] [] := oKp.nil _ _
  refine oWk.cast (g' := (mkF m 0 #[rv xa, iv 0] [])) (by first | rfl | (simp [entryFrame, mkF, argsToLocals, Value.category]; done)) ?_
  refine oWk.st (fun _ kt => zA X hx hby d26_0 rfl rfl rfl kt) ?_
  have Oh := K.old O0 all0
  obtain ⟨T, L2, X, e0, K, st⟩ := (cs8 hw).pure X hx hZ hown e0 K (A := [(.ref xa)]) ⟨rfl, _, _, rfl, E_xa⟩ (rIsL l Z a0 hw [] xa xz h0 Oh S_COMPACT_STRINGS hz F_coder_xa) (fun _ _ _ q => q) (W := 0) (by decide) hml (Ls := #[rv xa, iv 0]) rfl (rest := []) rfl rfl hby d26_1
  refine oWk.st (fun _ kt => st _ (zH X hx hby d26_4 rfl rfl ((if0 _ _).trans (feq (by decide)).1) (zA X hx hby d26_7 rfl rfl rfl kt))) ?_
  obtain ⟨T, X, e0, st⟩ := getF X hx hZ hown (host := "") (Or.inl (oW hw 36 rfl)) Via.refl e0 F_value_xa (g := (mkF m 8 #[rv xa, iv 0] [(.ref xa)])) rfl rfl (hb hby d26_8)
  refine oWk.st (fun _ kt => st _ (zI X hx hby d26_11 rfl rfl kt)) ?_
  obtain ⟨T, L4, X, e0, K, st⟩ := (cs24 hw).pure X hx hZ hown e0 K (A := [(.ref xb), (.int (0 : Int32))]) rfl (rLC_2_0 l Z a0 hw [] xb xk xfm xc0 xc1 h0 Oh S_SIOOBE_FORMATTER hcat hr V_xb) (fun _ _ _ q => q) (W := 0) (by decide) hml (Ls := #[rv xa, iv 0]) rfl (rest := []) rfl rfl hby d26_12
  refine oWk.to (mkF m 15 #[rv xa, iv 0] [(.int xc0)]) (fun _ kt => st _ kt) ?_
  exact oRetN X hx hlk hret (Or.inr (Or.inl rfl)) (show narrow .char (.int xc0) = .int xc0 from congrArg Value.int (oChr hr)) (hb hby d26_15) (by rw [e0]; exact ⟨rfl, rfl, K⟩) (by decide) (by decide)
def Q_rLC_2_1 (Z : State) (xb : Addr) (xk : ClassId) (xfm : Value) (xc0 xc1 : Int32) (h0 : Heap) (v : Option Value) (h : Heap) (L : List Loc) : Prop := v = some (.int xc1) ∧ h = h0 ∧ oKp h0 h [] L
theorem rLC_2_1 (l : Launch) (Z : State) (a0 : Array Value) (hw : oHW a0 Z) (ws : List Jvm.Cond) (xb : Addr) (xk : ClassId) (xfm : Value) (xc0 xc1 : Int32) (h0 : Heap) (O0 : Ext Z.heap h0) (S_SIOOBE_FORMATTER : Sta Z Z.heap Y2 Y3 Y4 xfm) (hcat : xfm.category = 1) (hr : 0 ≤ xc1.toInt ∧ xc1.toInt < 256) (V_xb : Arv Z h0 xb xk .byte (2 : Int32) [(ib xc0), (ib xc1)] (.int (0 : Int32))) :
    oCon l Z yy26 jdk_43_method_2_code 2 (some .char) ws ({ frames := 2, cells := 0, slots := 0, locals := 27 } : Room) #[(.ref xb), (.int (1 : Int32))] h0 (Q_rLC_2_1 Z xb xk xfm xc0 xc1 h0) := by
  refine oCon.of (plainFor_of_name pn_0) ?_
  intro p e s m below meth c T X hx hby hml hown hnm hret hlk hZ e0
  have hml : c.maxLocals = 2 := hml
  have K : oKp h0 h0 [] [] := oKp.nil _ _
  refine oWk.cast (g' := (mkF m 0 #[rv xb, iv 1] [])) (by first | rfl | (simp [entryFrame, mkF, argsToLocals, Value.category]; done)) ?_
  refine oWk.st (fun _ kt => zI X hx hby d27_0 rfl rfl (zA X hx hby d27_1 rfl rfl rfl (oAl X hx hZ e0 V_xb hby d27_2 rfl rfl kt))) ?_
  have Oh := K.old O0 all0
  obtain ⟨T, L3, X, e0, K, st⟩ := (cs23 hw).pure X hx hZ hown e0 K (A := [(.int (1 : Int32)), (.int (2 : Int32))]) rfl (rCkI l Z a0 hw [] (1 : Int32) (2 : Int32) xfm h0 Oh S_SIOOBE_FORMATTER hcat (by decide) (by decide)) (fun _ _ _ q => q) (W := 0) (by decide) hml (Ls := #[rv xb, iv 1]) rfl (rest := []) rfl rfl hby d27_3
  refine oWk.to (mkF m 14 #[rv xb, iv 1] [(.int (((xc1.toInt8.toInt32) &&& (255 : Int32)).toUInt32.toUInt16.toUInt32.toInt32))]) (fun _ kt => st _ (zA X hx hby d27_6 rfl rfl rfl (zI X hx hby d27_7 rfl rfl (oLdB X hx hZ e0 V_xb (1 : Int32) (ib xc1) ⟨by decide, by decide⟩ rfl hby d27_8 rfl rfl (zM X hx hby d27_9 rfl (XS.iand X.here hx rfl (hb hby d27_12) rfl (XS.i2c X.here hx rfl (hb hby d27_13) rfl kt))))))) ?_
  rw [oBk hr]
  show oWk _ _ _ _ T (mkF m 14 #[rv xb, iv 1] [(.int xc1)])
  exact oRetN X hx hlk hret (Or.inr (Or.inl rfl)) (show narrow .char (.int xc1) = .int xc1 from congrArg Value.int (oChr hr)) (hb hby d27_14) (by rw [e0]; exact ⟨rfl, rfl, K⟩) (by decide) (by decide)
def Q_rCA_2_1 (Z : State) (xa xb : Addr) (xk : ClassId) (xfm : Value) (xz xc0 xc1 : Int32) (h0 : Heap) (v : Option Value) (h : Heap) (L : List Loc) : Prop := v = some (.int xc1) ∧ h = h0 ∧ oKp h0 h [] L
theorem rCA_2_1 (l : Launch) (Z : State) (a0 : Array Value) (hw : oHW a0 Z) (ws : List Jvm.Cond) (xa xb : Addr) (xk : ClassId) (xfm : Value) (xz xc0 xc1 : Int32) (h0 : Heap) (O0 : Ext Z.heap h0) (S_COMPACT_STRINGS : Sta Z Z.heap Y0 Y1 "Z" (.int xz)) (hz : ¬ xz = (0 : Int32)) (S_SIOOBE_FORMATTER : Sta Z Z.heap Y2 Y3 Y4 xfm) (hcat : xfm.category = 1) (hr : 0 ≤ xc1.toInt ∧ xc1.toInt < 256) (E_xa : Exa Z h0 xa Y0) (F_coder_xa : Fld Z h0 xa Y0 "coder" "B" (.int (0 : Int32))) (F_value_xa : Fld Z h0 xa Y0 "value" "[B" (.ref xb)) (V_xb : Arv Z h0 xb xk .byte (2 : Int32) [(ib xc0), (ib xc1)] (.int (0 : Int32))) :
    oCon l Z yy27 jdk_42_method_56_code 2 (some .char) ws ({ frames := 3, cells := 0, slots := 0, locals := 40 } : Room) #[(.ref xa), (.int (1 : Int32))] h0 (Q_rCA_2_1 Z xa xb xk xfm xz xc0 xc1 h0) := by
  refine oCon.of (plainFor_of_name pn_3) ?_
  intro p e s m below meth c T X hx hby hml hown hnm hret hlk hZ e0
  have hml : c.maxLocals = 2 := hml
  have K : oKp h0 h0 [] [] := oKp.nil _ _
  refine oWk.cast (g' := (mkF m 0 #[rv xa, iv 1] [])) (by first | rfl | (simp [entryFrame, mkF, argsToLocals, Value.category]; done)) ?_
  refine oWk.st (fun _ kt => zA X hx hby d26_0 rfl rfl rfl kt) ?_
  have Oh := K.old O0 all0
  obtain ⟨T, L2, X, e0, K, st⟩ := (cs8 hw).pure X hx hZ hown e0 K (A := [(.ref xa)]) ⟨rfl, _, _, rfl, E_xa⟩ (rIsL l Z a0 hw [] xa xz h0 Oh S_COMPACT_STRINGS hz F_coder_xa) (fun _ _ _ q => q) (W := 0) (by decide) hml (Ls := #[rv xa, iv 1]) rfl (rest := []) rfl rfl hby d26_1
  refine oWk.st (fun _ kt => st _ (zH X hx hby d26_4 rfl rfl ((if0 _ _).trans (feq (by decide)).1) (zA X hx hby d26_7 rfl rfl rfl kt))) ?_
  obtain ⟨T, X, e0, st⟩ := getF X hx hZ hown (host := "") (Or.inl (oW hw 36 rfl)) Via.refl e0 F_value_xa (g := (mkF m 8 #[rv xa, iv 1] [(.ref xa)])) rfl rfl (hb hby d26_8)
  refine oWk.st (fun _ kt => st _ (zI X hx hby d26_11 rfl rfl kt)) ?_
  obtain ⟨T, L4, X, e0, K, st⟩ := (cs24 hw).pure X hx hZ hown e0 K (A := [(.ref xb), (.int (1 : Int32))]) rfl (rLC_2_1 l Z a0 hw [] xb xk xfm xc0 xc1 h0 Oh S_SIOOBE_FORMATTER hcat hr V_xb) (fun _ _ _ q => q) (W := 0) (by decide) hml (Ls := #[rv xa, iv 1]) rfl (rest := []) rfl rfl hby d26_12
  refine oWk.to (mkF m 15 #[rv xa, iv 1] [(.int xc1)]) (fun _ kt => st _ kt) ?_
  exact oRetN X hx hlk hret (Or.inr (Or.inl rfl)) (show narrow .char (.int xc1) = .int xc1 from congrArg Value.int (oChr hr)) (hb hby d26_15) (by rw [e0]; exact ⟨rfl, rfl, K⟩) (by decide) (by decide)
def Q_rLC_3_0 (Z : State) (xb : Addr) (xk : ClassId) (xfm : Value) (xc0 xc1 xc2 : Int32) (h0 : Heap) (v : Option Value) (h : Heap) (L : List Loc) : Prop := v = some (.int xc0) ∧ h = h0 ∧ oKp h0 h [] L
theorem rLC_3_0 (l : Launch) (Z : State) (a0 : Array Value) (hw : oHW a0 Z) (ws : List Jvm.Cond) (xb : Addr) (xk : ClassId) (xfm : Value) (xc0 xc1 xc2 : Int32) (h0 : Heap) (O0 : Ext Z.heap h0) (S_SIOOBE_FORMATTER : Sta Z Z.heap Y2 Y3 Y4 xfm) (hcat : xfm.category = 1) (hr : 0 ≤ xc0.toInt ∧ xc0.toInt < 256) (V_xb : Arv Z h0 xb xk .byte (3 : Int32) [(ib xc0), (ib xc1), (ib xc2)] (.int (0 : Int32))) :
    oCon l Z yy26 jdk_43_method_2_code 2 (some .char) ws ({ frames := 2, cells := 0, slots := 0, locals := 27 } : Room) #[(.ref xb), (.int (0 : Int32))] h0 (Q_rLC_3_0 Z xb xk xfm xc0 xc1 xc2 h0) := by
  refine oCon.of (plainFor_of_name pn_0) ?_
  intro p e s m below meth c T X hx hby hml hown hnm hret hlk hZ e0
  have hml : c.maxLocals = 2 := hml
  have K : oKp h0 h0 [] [] := oKp.nil _ _
  refine oWk.cast (g' := (mkF m 0 #[rv xb, iv 0] [])) (by first | rfl | (simp [entryFrame, mkF, argsToLocals, Value.category]; done)) ?_
  refine oWk.st (fun _ kt => zI X hx hby d27_0 rfl rfl (zA X hx hby d27_1 rfl rfl rfl (oAl X hx hZ e0 V_xb hby d27_2 rfl rfl kt))) ?_
  have Oh := K.old O0 all0
  obtain ⟨T, L3, X, e0, K, st⟩ := (cs23 hw).pure X hx hZ hown e0 K (A := [(.int (0 : Int32)), (.int (3 : Int32))]) rfl (rCkI l Z a0 hw [] (0 : Int32) (3 : Int32) xfm h0 Oh S_SIOOBE_FORMATTER hcat (by decide) (by decide)) (fun _ _ _ q => q) (W := 0) (by decide) hml (Ls := #[rv xb, iv 0]) rfl (rest := []) rfl rfl hby d27_3
  refine oWk.to (mkF m 14 #[rv xb, iv 0] [(.int (((xc0.toInt8.toInt32) &&& (255 : Int32)).toUInt32.toUInt16.toUInt32.toInt32))]) (fun _ kt => st _ (zA X hx hby d27_6 rfl rfl rfl (zI X hx hby d27_7 rfl rfl (oLdB X hx hZ e0 V_xb (0 : Int32) (ib xc0) ⟨by decide, by decide⟩ rfl hby d27_8 rfl rfl (zM X hx hby d27_9 rfl (XS.iand X.here hx rfl (hb hby d27_12) rfl (XS.i2c X.here hx rfl (hb hby d27_13) rfl kt))))))) ?_
  rw [oBk hr]
  show oWk _ _ _ _ T (mkF m 14 #[rv xb, iv 0] [(.int xc0)])
  exact oRetN X hx hlk hret (Or.inr (Or.inl rfl)) (show narrow .char (.int xc0) = .int xc0 from congrArg Value.int (oChr hr)) (hb hby d27_14) (by rw [e0]; exact ⟨rfl, rfl, K⟩) (by decide) (by decide)
def Q_rCA_3_0 (Z : State) (xa xb : Addr) (xk : ClassId) (xfm : Value) (xz xc0 xc1 xc2 : Int32) (h0 : Heap) (v : Option Value) (h : Heap) (L : List Loc) : Prop := v = some (.int xc0) ∧ h = h0 ∧ oKp h0 h [] L
theorem rCA_3_0 (l : Launch) (Z : State) (a0 : Array Value) (hw : oHW a0 Z) (ws : List Jvm.Cond) (xa xb : Addr) (xk : ClassId) (xfm : Value) (xz xc0 xc1 xc2 : Int32) (h0 : Heap) (O0 : Ext Z.heap h0) (S_COMPACT_STRINGS : Sta Z Z.heap Y0 Y1 "Z" (.int xz)) (hz : ¬ xz = (0 : Int32)) (S_SIOOBE_FORMATTER : Sta Z Z.heap Y2 Y3 Y4 xfm) (hcat : xfm.category = 1) (hr : 0 ≤ xc0.toInt ∧ xc0.toInt < 256) (E_xa : Exa Z h0 xa Y0) (F_coder_xa : Fld Z h0 xa Y0 "coder" "B" (.int (0 : Int32))) (F_value_xa : Fld Z h0 xa Y0 "value" "[B" (.ref xb)) (V_xb : Arv Z h0 xb xk .byte (3 : Int32) [(ib xc0), (ib xc1), (ib xc2)] (.int (0 : Int32))) :
    oCon l Z yy27 jdk_42_method_56_code 2 (some .char) ws ({ frames := 3, cells := 0, slots := 0, locals := 40 } : Room) #[(.ref xa), (.int (0 : Int32))] h0 (Q_rCA_3_0 Z xa xb xk xfm xz xc0 xc1 xc2 h0) := by
  refine oCon.of (plainFor_of_name pn_3) ?_
  intro p e s m below meth c T X hx hby hml hown hnm hret hlk hZ e0
  have hml : c.maxLocals = 2 := hml
  have K : oKp h0 h0 [] [] := oKp.nil _ _
  refine oWk.cast (g' := (mkF m 0 #[rv xa, iv 0] [])) (by first | rfl | (simp [entryFrame, mkF, argsToLocals, Value.category]; done)) ?_
  refine oWk.st (fun _ kt => zA X hx hby d26_0 rfl rfl rfl kt) ?_
  have Oh := K.old O0 all0
  obtain ⟨T, L2, X, e0, K, st⟩ := (cs8 hw).pure X hx hZ hown e0 K (A := [(.ref xa)]) ⟨rfl, _, _, rfl, E_xa⟩ (rIsL l Z a0 hw [] xa xz h0 Oh S_COMPACT_STRINGS hz F_coder_xa) (fun _ _ _ q => q) (W := 0) (by decide) hml (Ls := #[rv xa, iv 0]) rfl (rest := []) rfl rfl hby d26_1
  refine oWk.st (fun _ kt => st _ (zH X hx hby d26_4 rfl rfl ((if0 _ _).trans (feq (by decide)).1) (zA X hx hby d26_7 rfl rfl rfl kt))) ?_
  obtain ⟨T, X, e0, st⟩ := getF X hx hZ hown (host := "") (Or.inl (oW hw 36 rfl)) Via.refl e0 F_value_xa (g := (mkF m 8 #[rv xa, iv 0] [(.ref xa)])) rfl rfl (hb hby d26_8)
  refine oWk.st (fun _ kt => st _ (zI X hx hby d26_11 rfl rfl kt)) ?_
  obtain ⟨T, L4, X, e0, K, st⟩ := (cs24 hw).pure X hx hZ hown e0 K (A := [(.ref xb), (.int (0 : Int32))]) rfl (rLC_3_0 l Z a0 hw [] xb xk xfm xc0 xc1 xc2 h0 Oh S_SIOOBE_FORMATTER hcat hr V_xb) (fun _ _ _ q => q) (W := 0) (by decide) hml (Ls := #[rv xa, iv 0]) rfl (rest := []) rfl rfl hby d26_12
  refine oWk.to (mkF m 15 #[rv xa, iv 0] [(.int xc0)]) (fun _ kt => st _ kt) ?_
  exact oRetN X hx hlk hret (Or.inr (Or.inl rfl)) (show narrow .char (.int xc0) = .int xc0 from congrArg Value.int (oChr hr)) (hb hby d26_15) (by rw [e0]; exact ⟨rfl, rfl, K⟩) (by decide) (by decide)
def Q_rLC_3_1 (Z : State) (xb : Addr) (xk : ClassId) (xfm : Value) (xc0 xc1 xc2 : Int32) (h0 : Heap) (v : Option Value) (h : Heap) (L : List Loc) : Prop := v = some (.int xc1) ∧ h = h0 ∧ oKp h0 h [] L
theorem rLC_3_1 (l : Launch) (Z : State) (a0 : Array Value) (hw : oHW a0 Z) (ws : List Jvm.Cond) (xb : Addr) (xk : ClassId) (xfm : Value) (xc0 xc1 xc2 : Int32) (h0 : Heap) (O0 : Ext Z.heap h0) (S_SIOOBE_FORMATTER : Sta Z Z.heap Y2 Y3 Y4 xfm) (hcat : xfm.category = 1) (hr : 0 ≤ xc1.toInt ∧ xc1.toInt < 256) (V_xb : Arv Z h0 xb xk .byte (3 : Int32) [(ib xc0), (ib xc1), (ib xc2)] (.int (0 : Int32))) :
    oCon l Z yy26 jdk_43_method_2_code 2 (some .char) ws ({ frames := 2, cells := 0, slots := 0, locals := 27 } : Room) #[(.ref xb), (.int (1 : Int32))] h0 (Q_rLC_3_1 Z xb xk xfm xc0 xc1 xc2 h0) := by
  refine oCon.of (plainFor_of_name pn_0) ?_
  intro p e s m below meth c T X hx hby hml hown hnm hret hlk hZ e0
  have hml : c.maxLocals = 2 := hml
  have K : oKp h0 h0 [] [] := oKp.nil _ _
  refine oWk.cast (g' := (mkF m 0 #[rv xb, iv 1] [])) (by first | rfl | (simp [entryFrame, mkF, argsToLocals, Value.category]; done)) ?_
  refine oWk.st (fun _ kt => zI X hx hby d27_0 rfl rfl (zA X hx hby d27_1 rfl rfl rfl (oAl X hx hZ e0 V_xb hby d27_2 rfl rfl kt))) ?_
  have Oh := K.old O0 all0
  obtain ⟨T, L3, X, e0, K, st⟩ := (cs23 hw).pure X hx hZ hown e0 K (A := [(.int (1 : Int32)), (.int (3 : Int32))]) rfl (rCkI l Z a0 hw [] (1 : Int32) (3 : Int32) xfm h0 Oh S_SIOOBE_FORMATTER hcat (by decide) (by decide)) (fun _ _ _ q => q) (W := 0) (by decide) hml (Ls := #[rv xb, iv 1]) rfl (rest := []) rfl rfl hby d27_3
  refine oWk.to (mkF m 14 #[rv xb, iv 1] [(.int (((xc1.toInt8.toInt32) &&& (255 : Int32)).toUInt32.toUInt16.toUInt32.toInt32))]) (fun _ kt => st _ (zA X hx hby d27_6 rfl rfl rfl (zI X hx hby d27_7 rfl rfl (oLdB X hx hZ e0 V_xb (1 : Int32) (ib xc1) ⟨by decide, by decide⟩ rfl hby d27_8 rfl rfl (zM X hx hby d27_9 rfl (XS.iand X.here hx rfl (hb hby d27_12) rfl (XS.i2c X.here hx rfl (hb hby d27_13) rfl kt))))))) ?_
  rw [oBk hr]
  show oWk _ _ _ _ T (mkF m 14 #[rv xb, iv 1] [(.int xc1)])
  exact oRetN X hx hlk hret (Or.inr (Or.inl rfl)) (show narrow .char (.int xc1) = .int xc1 from congrArg Value.int (oChr hr)) (hb hby d27_14) (by rw [e0]; exact ⟨rfl, rfl, K⟩) (by decide) (by decide)
def Q_rCA_3_1 (Z : State) (xa xb : Addr) (xk : ClassId) (xfm : Value) (xz xc0 xc1 xc2 : Int32) (h0 : Heap) (v : Option Value) (h : Heap) (L : List Loc) : Prop := v = some (.int xc1) ∧ h = h0 ∧ oKp h0 h [] L
theorem rCA_3_1 (l : Launch) (Z : State) (a0 : Array Value) (hw : oHW a0 Z) (ws : List Jvm.Cond) (xa xb : Addr) (xk : ClassId) (xfm : Value) (xz xc0 xc1 xc2 : Int32) (h0 : Heap) (O0 : Ext Z.heap h0) (S_COMPACT_STRINGS : Sta Z Z.heap Y0 Y1 "Z" (.int xz)) (hz : ¬ xz = (0 : Int32)) (S_SIOOBE_FORMATTER : Sta Z Z.heap Y2 Y3 Y4 xfm) (hcat : xfm.category = 1) (hr : 0 ≤ xc1.toInt ∧ xc1.toInt < 256) (E_xa : Exa Z h0 xa Y0) (F_coder_xa : Fld Z h0 xa Y0 "coder" "B" (.int (0 : Int32))) (F_value_xa : Fld Z h0 xa Y0 "value" "[B" (.ref xb)) (V_xb : Arv Z h0 xb xk .byte (3 : Int32) [(ib xc0), (ib xc1), (ib xc2)] (.int (0 : Int32))) :
    oCon l Z yy27 jdk_42_method_56_code 2 (some .char) ws ({ frames := 3, cells := 0, slots := 0, locals := 40 } : Room) #[(.ref xa), (.int (1 : Int32))] h0 (Q_rCA_3_1 Z xa xb xk xfm xz xc0 xc1 xc2 h0) := by
  refine oCon.of (plainFor_of_name pn_3) ?_
  intro p e s m below meth c T X hx hby hml hown hnm hret hlk hZ e0
  have hml : c.maxLocals = 2 := hml
  have K : oKp h0 h0 [] [] := oKp.nil _ _
  refine oWk.cast (g' := (mkF m 0 #[rv xa, iv 1] [])) (by first | rfl | (simp [entryFrame, mkF, argsToLocals, Value.category]; done)) ?_
  refine oWk.st (fun _ kt => zA X hx hby d26_0 rfl rfl rfl kt) ?_
  have Oh := K.old O0 all0
  obtain ⟨T, L2, X, e0, K, st⟩ := (cs8 hw).pure X hx hZ hown e0 K (A := [(.ref xa)]) ⟨rfl, _, _, rfl, E_xa⟩ (rIsL l Z a0 hw [] xa xz h0 Oh S_COMPACT_STRINGS hz F_coder_xa) (fun _ _ _ q => q) (W := 0) (by decide) hml (Ls := #[rv xa, iv 1]) rfl (rest := []) rfl rfl hby d26_1
  refine oWk.st (fun _ kt => st _ (zH X hx hby d26_4 rfl rfl ((if0 _ _).trans (feq (by decide)).1) (zA X hx hby d26_7 rfl rfl rfl kt))) ?_
  obtain ⟨T, X, e0, st⟩ := getF X hx hZ hown (host := "") (Or.inl (oW hw 36 rfl)) Via.refl e0 F_value_xa (g := (mkF m 8 #[rv xa, iv 1] [(.ref xa)])) rfl rfl (hb hby d26_8)
  refine oWk.st (fun _ kt => st _ (zI X hx hby d26_11 rfl rfl kt)) ?_
  obtain ⟨T, L4, X, e0, K, st⟩ := (cs24 hw).pure X hx hZ hown e0 K (A := [(.ref xb), (.int (1 : Int32))]) rfl (rLC_3_1 l Z a0 hw [] xb xk xfm xc0 xc1 xc2 h0 Oh S_SIOOBE_FORMATTER hcat hr V_xb) (fun _ _ _ q => q) (W := 0) (by decide) hml (Ls := #[rv xa, iv 1]) rfl (rest := []) rfl rfl hby d26_12
  refine oWk.to (mkF m 15 #[rv xa, iv 1] [(.int xc1)]) (fun _ kt => st _ kt) ?_
  exact oRetN X hx hlk hret (Or.inr (Or.inl rfl)) (show narrow .char (.int xc1) = .int xc1 from congrArg Value.int (oChr hr)) (hb hby d26_15) (by rw [e0]; exact ⟨rfl, rfl, K⟩) (by decide) (by decide)
def Q_rLC_3_2 (Z : State) (xb : Addr) (xk : ClassId) (xfm : Value) (xc0 xc1 xc2 : Int32) (h0 : Heap) (v : Option Value) (h : Heap) (L : List Loc) : Prop := v = some (.int xc2) ∧ h = h0 ∧ oKp h0 h [] L
theorem rLC_3_2 (l : Launch) (Z : State) (a0 : Array Value) (hw : oHW a0 Z) (ws : List Jvm.Cond) (xb : Addr) (xk : ClassId) (xfm : Value) (xc0 xc1 xc2 : Int32) (h0 : Heap) (O0 : Ext Z.heap h0) (S_SIOOBE_FORMATTER : Sta Z Z.heap Y2 Y3 Y4 xfm) (hcat : xfm.category = 1) (hr : 0 ≤ xc2.toInt ∧ xc2.toInt < 256) (V_xb : Arv Z h0 xb xk .byte (3 : Int32) [(ib xc0), (ib xc1), (ib xc2)] (.int (0 : Int32))) :
    oCon l Z yy26 jdk_43_method_2_code 2 (some .char) ws ({ frames := 2, cells := 0, slots := 0, locals := 27 } : Room) #[(.ref xb), (.int (2 : Int32))] h0 (Q_rLC_3_2 Z xb xk xfm xc0 xc1 xc2 h0) := by
  refine oCon.of (plainFor_of_name pn_0) ?_
  intro p e s m below meth c T X hx hby hml hown hnm hret hlk hZ e0
  have hml : c.maxLocals = 2 := hml
  have K : oKp h0 h0 [] [] := oKp.nil _ _
  refine oWk.cast (g' := (mkF m 0 #[rv xb, iv 2] [])) (by first | rfl | (simp [entryFrame, mkF, argsToLocals, Value.category]; done)) ?_
  refine oWk.st (fun _ kt => zI X hx hby d27_0 rfl rfl (zA X hx hby d27_1 rfl rfl rfl (oAl X hx hZ e0 V_xb hby d27_2 rfl rfl kt))) ?_
  have Oh := K.old O0 all0
  obtain ⟨T, L3, X, e0, K, st⟩ := (cs23 hw).pure X hx hZ hown e0 K (A := [(.int (2 : Int32)), (.int (3 : Int32))]) rfl (rCkI l Z a0 hw [] (2 : Int32) (3 : Int32) xfm h0 Oh S_SIOOBE_FORMATTER hcat (by decide) (by decide)) (fun _ _ _ q => q) (W := 0) (by decide) hml (Ls := #[rv xb, iv 2]) rfl (rest := []) rfl rfl hby d27_3
  refine oWk.to (mkF m 14 #[rv xb, iv 2] [(.int (((xc2.toInt8.toInt32) &&& (255 : Int32)).toUInt32.toUInt16.toUInt32.toInt32))]) (fun _ kt => st _ (zA X hx hby d27_6 rfl rfl rfl (zI X hx hby d27_7 rfl rfl (oLdB X hx hZ e0 V_xb (2 : Int32) (ib xc2) ⟨by decide, by decide⟩ rfl hby d27_8 rfl rfl (zM X hx hby d27_9 rfl (XS.iand X.here hx rfl (hb hby d27_12) rfl (XS.i2c X.here hx rfl (hb hby d27_13) rfl kt))))))) ?_
  rw [oBk hr]
  show oWk _ _ _ _ T (mkF m 14 #[rv xb, iv 2] [(.int xc2)])
  exact oRetN X hx hlk hret (Or.inr (Or.inl rfl)) (show narrow .char (.int xc2) = .int xc2 from congrArg Value.int (oChr hr)) (hb hby d27_14) (by rw [e0]; exact ⟨rfl, rfl, K⟩) (by decide) (by decide)
def Q_rCA_3_2 (Z : State) (xa xb : Addr) (xk : ClassId) (xfm : Value) (xz xc0 xc1 xc2 : Int32) (h0 : Heap) (v : Option Value) (h : Heap) (L : List Loc) : Prop := v = some (.int xc2) ∧ h = h0 ∧ oKp h0 h [] L
theorem rCA_3_2 (l : Launch) (Z : State) (a0 : Array Value) (hw : oHW a0 Z) (ws : List Jvm.Cond) (xa xb : Addr) (xk : ClassId) (xfm : Value) (xz xc0 xc1 xc2 : Int32) (h0 : Heap) (O0 : Ext Z.heap h0) (S_COMPACT_STRINGS : Sta Z Z.heap Y0 Y1 "Z" (.int xz)) (hz : ¬ xz = (0 : Int32)) (S_SIOOBE_FORMATTER : Sta Z Z.heap Y2 Y3 Y4 xfm) (hcat : xfm.category = 1) (hr : 0 ≤ xc2.toInt ∧ xc2.toInt < 256) (E_xa : Exa Z h0 xa Y0) (F_coder_xa : Fld Z h0 xa Y0 "coder" "B" (.int (0 : Int32))) (F_value_xa : Fld Z h0 xa Y0 "value" "[B" (.ref xb)) (V_xb : Arv Z h0 xb xk .byte (3 : Int32) [(ib xc0), (ib xc1), (ib xc2)] (.int (0 : Int32))) :
    oCon l Z yy27 jdk_42_method_56_code 2 (some .char) ws ({ frames := 3, cells := 0, slots := 0, locals := 40 } : Room) #[(.ref xa), (.int (2 : Int32))] h0 (Q_rCA_3_2 Z xa xb xk xfm xz xc0 xc1 xc2 h0) := by
  refine oCon.of (plainFor_of_name pn_3) ?_
  intro p e s m below meth c T X hx hby hml hown hnm hret hlk hZ e0
  have hml : c.maxLocals = 2 := hml
  have K : oKp h0 h0 [] [] := oKp.nil _ _
  refine oWk.cast (g' := (mkF m 0 #[rv xa, iv 2] [])) (by first | rfl | (simp [entryFrame, mkF, argsToLocals, Value.category]; done)) ?_
  refine oWk.st (fun _ kt => zA X hx hby d26_0 rfl rfl rfl kt) ?_
  have Oh := K.old O0 all0
  obtain ⟨T, L2, X, e0, K, st⟩ := (cs8 hw).pure X hx hZ hown e0 K (A := [(.ref xa)]) ⟨rfl, _, _, rfl, E_xa⟩ (rIsL l Z a0 hw [] xa xz h0 Oh S_COMPACT_STRINGS hz F_coder_xa) (fun _ _ _ q => q) (W := 0) (by decide) hml (Ls := #[rv xa, iv 2]) rfl (rest := []) rfl rfl hby d26_1
  refine oWk.st (fun _ kt => st _ (zH X hx hby d26_4 rfl rfl ((if0 _ _).trans (feq (by decide)).1) (zA X hx hby d26_7 rfl rfl rfl kt))) ?_
  obtain ⟨T, X, e0, st⟩ := getF X hx hZ hown (host := "") (Or.inl (oW hw 36 rfl)) Via.refl e0 F_value_xa (g := (mkF m 8 #[rv xa, iv 2] [(.ref xa)])) rfl rfl (hb hby d26_8)
  refine oWk.st (fun _ kt => st _ (zI X hx hby d26_11 rfl rfl kt)) ?_
  obtain ⟨T, L4, X, e0, K, st⟩ := (cs24 hw).pure X hx hZ hown e0 K (A := [(.ref xb), (.int (2 : Int32))]) rfl (rLC_3_2 l Z a0 hw [] xb xk xfm xc0 xc1 xc2 h0 Oh S_SIOOBE_FORMATTER hcat hr V_xb) (fun _ _ _ q => q) (W := 0) (by decide) hml (Ls := #[rv xa, iv 2]) rfl (rest := []) rfl rfl hby d26_12
  refine oWk.to (mkF m 15 #[rv xa, iv 2] [(.int xc2)]) (fun _ kt => st _ kt) ?_
  exact oRetN X hx hlk hret (Or.inr (Or.inl rfl)) (show narrow .char (.int xc2) = .int xc2 from congrArg Value.int (oChr hr)) (hb hby d26_15) (by rw [e0]; exact ⟨rfl, rfl, K⟩) (by decide) (by decide)
def Q_rLC_4_0 (Z : State) (xb : Addr) (xk : ClassId) (xfm : Value) (xc0 xc1 xc2 xc3 : Int32) (h0 : Heap) (v : Option Value) (h : Heap) (L : List Loc) : Prop := v = some (.int xc0) ∧ h = h0 ∧ oKp h0 h [] L
theorem rLC_4_0 (l : Launch) (Z : State) (a0 : Array Value) (hw : oHW a0 Z) (ws : List Jvm.Cond) (xb : Addr) (xk : ClassId) (xfm : Value) (xc0 xc1 xc2 xc3 : Int32) (h0 : Heap) (O0 : Ext Z.heap h0) (S_SIOOBE_FORMATTER : Sta Z Z.heap Y2 Y3 Y4 xfm) (hcat : xfm.category = 1) (hr : 0 ≤ xc0.toInt ∧ xc0.toInt < 256) (V_xb : Arv Z h0 xb xk .byte (4 : Int32) [(ib xc0), (ib xc1), (ib xc2), (ib xc3)] (.int (0 : Int32))) :
    oCon l Z yy26 jdk_43_method_2_code 2 (some .char) ws ({ frames := 2, cells := 0, slots := 0, locals := 27 } : Room) #[(.ref xb), (.int (0 : Int32))] h0 (Q_rLC_4_0 Z xb xk xfm xc0 xc1 xc2 xc3 h0) := by
  refine oCon.of (plainFor_of_name pn_0) ?_
  intro p e s m below meth c T X hx hby hml hown hnm hret hlk hZ e0
  have hml : c.maxLocals = 2 := hml
  have K : oKp h0 h0 [] [] := oKp.nil _ _
  refine oWk.cast (g' := (mkF m 0 #[rv xb, iv 0] [])) (by first | rfl | (simp [entryFrame, mkF, argsToLocals, Value.category]; done)) ?_
  refine oWk.st (fun _ kt => zI X hx hby d27_0 rfl rfl (zA X hx hby d27_1 rfl rfl rfl (oAl X hx hZ e0 V_xb hby d27_2 rfl rfl kt))) ?_
  have Oh := K.old O0 all0
  obtain ⟨T, L3, X, e0, K, st⟩ := (cs23 hw).pure X hx hZ hown e0 K (A := [(.int (0 : Int32)), (.int (4 : Int32))]) rfl (rCkI l Z a0 hw [] (0 : Int32) (4 : Int32) xfm h0 Oh S_SIOOBE_FORMATTER hcat (by decide) (by decide)) (fun _ _ _ q => q) (W := 0) (by decide) hml (Ls := #[rv xb, iv 0]) rfl (rest := []) rfl rfl hby d27_3
  refine oWk.to (mkF m 14 #[rv xb, iv 0] [(.int (((xc0.toInt8.toInt32) &&& (255 : Int32)).toUInt32.toUInt16.toUInt32.toInt32))]) (fun _ kt => st _ (zA X hx hby d27_6 rfl rfl rfl (zI X hx hby d27_7 rfl rfl (oLdB X hx hZ e0 V_xb (0 : Int32) (ib xc0) ⟨by decide, by decide⟩ rfl hby d27_8 rfl rfl (zM X hx hby d27_9 rfl (XS.iand X.here hx rfl (hb hby d27_12) rfl (XS.i2c X.here hx rfl (hb hby d27_13) rfl kt))))))) ?_
  rw [oBk hr]
  show oWk _ _ _ _ T (mkF m 14 #[rv xb, iv 0] [(.int xc0)])
  exact oRetN X hx hlk hret (Or.inr (Or.inl rfl)) (show narrow .char (.int xc0) = .int xc0 from congrArg Value.int (oChr hr)) (hb hby d27_14) (by rw [e0]; exact ⟨rfl, rfl, K⟩) (by decide) (by decide)
def Q_rCA_4_0 (Z : State) (xa xb : Addr) (xk : ClassId) (xfm : Value) (xz xc0 xc1 xc2 xc3 : Int32) (h0 : Heap) (v : Option Value) (h : Heap) (L : List Loc) : Prop := v = some (.int xc0) ∧ h = h0 ∧ oKp h0 h [] L
theorem rCA_4_0 (l : Launch) (Z : State) (a0 : Array Value) (hw : oHW a0 Z) (ws : List Jvm.Cond) (xa xb : Addr) (xk : ClassId) (xfm : Value) (xz xc0 xc1 xc2 xc3 : Int32) (h0 : Heap) (O0 : Ext Z.heap h0) (S_COMPACT_STRINGS : Sta Z Z.heap Y0 Y1 "Z" (.int xz)) (hz : ¬ xz = (0 : Int32)) (S_SIOOBE_FORMATTER : Sta Z Z.heap Y2 Y3 Y4 xfm) (hcat : xfm.category = 1) (hr : 0 ≤ xc0.toInt ∧ xc0.toInt < 256) (E_xa : Exa Z h0 xa Y0) (F_coder_xa : Fld Z h0 xa Y0 "coder" "B" (.int (0 : Int32))) (F_value_xa : Fld Z h0 xa Y0 "value" "[B" (.ref xb)) (V_xb : Arv Z h0 xb xk .byte (4 : Int32) [(ib xc0), (ib xc1), (ib xc2), (ib xc3)] (.int (0 : Int32))) :
    oCon l Z yy27 jdk_42_method_56_code 2 (some .char) ws ({ frames := 3, cells := 0, slots := 0, locals := 40 } : Room) #[(.ref xa), (.int (0 : Int32))] h0 (Q_rCA_4_0 Z xa xb xk xfm xz xc0 xc1 xc2 xc3 h0) := by
  refine oCon.of (plainFor_of_name pn_3) ?_
  intro p e s m below meth c T X hx hby hml hown hnm hret hlk hZ e0
  have hml : c.maxLocals = 2 := hml
  have K : oKp h0 h0 [] [] := oKp.nil _ _
  refine oWk.cast (g' := (mkF m 0 #[rv xa, iv 0] [])) (by first | rfl | (simp [entryFrame, mkF, argsToLocals, Value.category]; done)) ?_
  refine oWk.st (fun _ kt => zA X hx hby d26_0 rfl rfl rfl kt) ?_
  have Oh := K.old O0 all0
  obtain ⟨T, L2, X, e0, K, st⟩ := (cs8 hw).pure X hx hZ hown e0 K (A := [(.ref xa)]) ⟨rfl, _, _, rfl, E_xa⟩ (rIsL l Z a0 hw [] xa xz h0 Oh S_COMPACT_STRINGS hz F_coder_xa) (fun _ _ _ q => q) (W := 0) (by decide) hml (Ls := #[rv xa, iv 0]) rfl (rest := []) rfl rfl hby d26_1
  refine oWk.st (fun _ kt => st _ (zH X hx hby d26_4 rfl rfl ((if0 _ _).trans (feq (by decide)).1) (zA X hx hby d26_7 rfl rfl rfl kt))) ?_
  obtain ⟨T, X, e0, st⟩ := getF X hx hZ hown (host := "") (Or.inl (oW hw 36 rfl)) Via.refl e0 F_value_xa (g := (mkF m 8 #[rv xa, iv 0] [(.ref xa)])) rfl rfl (hb hby d26_8)
  refine oWk.st (fun _ kt => st _ (zI X hx hby d26_11 rfl rfl kt)) ?_
  obtain ⟨T, L4, X, e0, K, st⟩ := (cs24 hw).pure X hx hZ hown e0 K (A := [(.ref xb), (.int (0 : Int32))]) rfl (rLC_4_0 l Z a0 hw [] xb xk xfm xc0 xc1 xc2 xc3 h0 Oh S_SIOOBE_FORMATTER hcat hr V_xb) (fun _ _ _ q => q) (W := 0) (by decide) hml (Ls := #[rv xa, iv 0]) rfl (rest := []) rfl rfl hby d26_12
  refine oWk.to (mkF m 15 #[rv xa, iv 0] [(.int xc0)]) (fun _ kt => st _ kt) ?_
  exact oRetN X hx hlk hret (Or.inr (Or.inl rfl)) (show narrow .char (.int xc0) = .int xc0 from congrArg Value.int (oChr hr)) (hb hby d26_15) (by rw [e0]; exact ⟨rfl, rfl, K⟩) (by decide) (by decide)
def Q_rLC_4_1 (Z : State) (xb : Addr) (xk : ClassId) (xfm : Value) (xc0 xc1 xc2 xc3 : Int32) (h0 : Heap) (v : Option Value) (h : Heap) (L : List Loc) : Prop := v = some (.int xc1) ∧ h = h0 ∧ oKp h0 h [] L
theorem rLC_4_1 (l : Launch) (Z : State) (a0 : Array Value) (hw : oHW a0 Z) (ws : List Jvm.Cond) (xb : Addr) (xk : ClassId) (xfm : Value) (xc0 xc1 xc2 xc3 : Int32) (h0 : Heap) (O0 : Ext Z.heap h0) (S_SIOOBE_FORMATTER : Sta Z Z.heap Y2 Y3 Y4 xfm) (hcat : xfm.category = 1) (hr : 0 ≤ xc1.toInt ∧ xc1.toInt < 256) (V_xb : Arv Z h0 xb xk .byte (4 : Int32) [(ib xc0), (ib xc1), (ib xc2), (ib xc3)] (.int (0 : Int32))) :
    oCon l Z yy26 jdk_43_method_2_code 2 (some .char) ws ({ frames := 2, cells := 0, slots := 0, locals := 27 } : Room) #[(.ref xb), (.int (1 : Int32))] h0 (Q_rLC_4_1 Z xb xk xfm xc0 xc1 xc2 xc3 h0) := by
  refine oCon.of (plainFor_of_name pn_0) ?_
  intro p e s m below meth c T X hx hby hml hown hnm hret hlk hZ e0
  have hml : c.maxLocals = 2 := hml
  have K : oKp h0 h0 [] [] := oKp.nil _ _
  refine oWk.cast (g' := (mkF m 0 #[rv xb, iv 1] [])) (by first | rfl | (simp [entryFrame, mkF, argsToLocals, Value.category]; done)) ?_
  refine oWk.st (fun _ kt => zI X hx hby d27_0 rfl rfl (zA X hx hby d27_1 rfl rfl rfl (oAl X hx hZ e0 V_xb hby d27_2 rfl rfl kt))) ?_
  have Oh := K.old O0 all0
  obtain ⟨T, L3, X, e0, K, st⟩ := (cs23 hw).pure X hx hZ hown e0 K (A := [(.int (1 : Int32)), (.int (4 : Int32))]) rfl (rCkI l Z a0 hw [] (1 : Int32) (4 : Int32) xfm h0 Oh S_SIOOBE_FORMATTER hcat (by decide) (by decide)) (fun _ _ _ q => q) (W := 0) (by decide) hml (Ls := #[rv xb, iv 1]) rfl (rest := []) rfl rfl hby d27_3
  refine oWk.to (mkF m 14 #[rv xb, iv 1] [(.int (((xc1.toInt8.toInt32) &&& (255 : Int32)).toUInt32.toUInt16.toUInt32.toInt32))]) (fun _ kt => st _ (zA X hx hby d27_6 rfl rfl rfl (zI X hx hby d27_7 rfl rfl (oLdB X hx hZ e0 V_xb (1 : Int32) (ib xc1) ⟨by decide, by decide⟩ rfl hby d27_8 rfl rfl (zM X hx hby d27_9 rfl (XS.iand X.here hx rfl (hb hby d27_12) rfl (XS.i2c X.here hx rfl (hb hby d27_13) rfl kt))))))) ?_
  rw [oBk hr]
  show oWk _ _ _ _ T (mkF m 14 #[rv xb, iv 1] [(.int xc1)])
  exact oRetN X hx hlk hret (Or.inr (Or.inl rfl)) (show narrow .char (.int xc1) = .int xc1 from congrArg Value.int (oChr hr)) (hb hby d27_14) (by rw [e0]; exact ⟨rfl, rfl, K⟩) (by decide) (by decide)
def Q_rCA_4_1 (Z : State) (xa xb : Addr) (xk : ClassId) (xfm : Value) (xz xc0 xc1 xc2 xc3 : Int32) (h0 : Heap) (v : Option Value) (h : Heap) (L : List Loc) : Prop := v = some (.int xc1) ∧ h = h0 ∧ oKp h0 h [] L
theorem rCA_4_1 (l : Launch) (Z : State) (a0 : Array Value) (hw : oHW a0 Z) (ws : List Jvm.Cond) (xa xb : Addr) (xk : ClassId) (xfm : Value) (xz xc0 xc1 xc2 xc3 : Int32) (h0 : Heap) (O0 : Ext Z.heap h0) (S_COMPACT_STRINGS : Sta Z Z.heap Y0 Y1 "Z" (.int xz)) (hz : ¬ xz = (0 : Int32)) (S_SIOOBE_FORMATTER : Sta Z Z.heap Y2 Y3 Y4 xfm) (hcat : xfm.category = 1) (hr : 0 ≤ xc1.toInt ∧ xc1.toInt < 256) (E_xa : Exa Z h0 xa Y0) (F_coder_xa : Fld Z h0 xa Y0 "coder" "B" (.int (0 : Int32))) (F_value_xa : Fld Z h0 xa Y0 "value" "[B" (.ref xb)) (V_xb : Arv Z h0 xb xk .byte (4 : Int32) [(ib xc0), (ib xc1), (ib xc2), (ib xc3)] (.int (0 : Int32))) :
    oCon l Z yy27 jdk_42_method_56_code 2 (some .char) ws ({ frames := 3, cells := 0, slots := 0, locals := 40 } : Room) #[(.ref xa), (.int (1 : Int32))] h0 (Q_rCA_4_1 Z xa xb xk xfm xz xc0 xc1 xc2 xc3 h0) := by
  refine oCon.of (plainFor_of_name pn_3) ?_
  intro p e s m below meth c T X hx hby hml hown hnm hret hlk hZ e0
  have hml : c.maxLocals = 2 := hml
  have K : oKp h0 h0 [] [] := oKp.nil _ _
  refine oWk.cast (g' := (mkF m 0 #[rv xa, iv 1] [])) (by first | rfl | (simp [entryFrame, mkF, argsToLocals, Value.category]; done)) ?_
  refine oWk.st (fun _ kt => zA X hx hby d26_0 rfl rfl rfl kt) ?_
  have Oh := K.old O0 all0
  obtain ⟨T, L2, X, e0, K, st⟩ := (cs8 hw).pure X hx hZ hown e0 K (A := [(.ref xa)]) ⟨rfl, _, _, rfl, E_xa⟩ (rIsL l Z a0 hw [] xa xz h0 Oh S_COMPACT_STRINGS hz F_coder_xa) (fun _ _ _ q => q) (W := 0) (by decide) hml (Ls := #[rv xa, iv 1]) rfl (rest := []) rfl rfl hby d26_1
  refine oWk.st (fun _ kt => st _ (zH X hx hby d26_4 rfl rfl ((if0 _ _).trans (feq (by decide)).1) (zA X hx hby d26_7 rfl rfl rfl kt))) ?_
  obtain ⟨T, X, e0, st⟩ := getF X hx hZ hown (host := "") (Or.inl (oW hw 36 rfl)) Via.refl e0 F_value_xa (g := (mkF m 8 #[rv xa, iv 1] [(.ref xa)])) rfl rfl (hb hby d26_8)
  refine oWk.st (fun _ kt => st _ (zI X hx hby d26_11 rfl rfl kt)) ?_
  obtain ⟨T, L4, X, e0, K, st⟩ := (cs24 hw).pure X hx hZ hown e0 K (A := [(.ref xb), (.int (1 : Int32))]) rfl (rLC_4_1 l Z a0 hw [] xb xk xfm xc0 xc1 xc2 xc3 h0 Oh S_SIOOBE_FORMATTER hcat hr V_xb) (fun _ _ _ q => q) (W := 0) (by decide) hml (Ls := #[rv xa, iv 1]) rfl (rest := []) rfl rfl hby d26_12
  refine oWk.to (mkF m 15 #[rv xa, iv 1] [(.int xc1)]) (fun _ kt => st _ kt) ?_
  exact oRetN X hx hlk hret (Or.inr (Or.inl rfl)) (show narrow .char (.int xc1) = .int xc1 from congrArg Value.int (oChr hr)) (hb hby d26_15) (by rw [e0]; exact ⟨rfl, rfl, K⟩) (by decide) (by decide)
def Q_rLC_4_2 (Z : State) (xb : Addr) (xk : ClassId) (xfm : Value) (xc0 xc1 xc2 xc3 : Int32) (h0 : Heap) (v : Option Value) (h : Heap) (L : List Loc) : Prop := v = some (.int xc2) ∧ h = h0 ∧ oKp h0 h [] L
theorem rLC_4_2 (l : Launch) (Z : State) (a0 : Array Value) (hw : oHW a0 Z) (ws : List Jvm.Cond) (xb : Addr) (xk : ClassId) (xfm : Value) (xc0 xc1 xc2 xc3 : Int32) (h0 : Heap) (O0 : Ext Z.heap h0) (S_SIOOBE_FORMATTER : Sta Z Z.heap Y2 Y3 Y4 xfm) (hcat : xfm.category = 1) (hr : 0 ≤ xc2.toInt ∧ xc2.toInt < 256) (V_xb : Arv Z h0 xb xk .byte (4 : Int32) [(ib xc0), (ib xc1), (ib xc2), (ib xc3)] (.int (0 : Int32))) :
    oCon l Z yy26 jdk_43_method_2_code 2 (some .char) ws ({ frames := 2, cells := 0, slots := 0, locals := 27 } : Room) #[(.ref xb), (.int (2 : Int32))] h0 (Q_rLC_4_2 Z xb xk xfm xc0 xc1 xc2 xc3 h0) := by
  refine oCon.of (plainFor_of_name pn_0) ?_
  intro p e s m below meth c T X hx hby hml hown hnm hret hlk hZ e0
  have hml : c.maxLocals = 2 := hml
  have K : oKp h0 h0 [] [] := oKp.nil _ _
  refine oWk.cast (g' := (mkF m 0 #[rv xb, iv 2] [])) (by first | rfl | (simp [entryFrame, mkF, argsToLocals, Value.category]; done)) ?_
  refine oWk.st (fun _ kt => zI X hx hby d27_0 rfl rfl (zA X hx hby d27_1 rfl rfl rfl (oAl X hx hZ e0 V_xb hby d27_2 rfl rfl kt))) ?_
  have Oh := K.old O0 all0
  obtain ⟨T, L3, X, e0, K, st⟩ := (cs23 hw).pure X hx hZ hown e0 K (A := [(.int (2 : Int32)), (.int (4 : Int32))]) rfl (rCkI l Z a0 hw [] (2 : Int32) (4 : Int32) xfm h0 Oh S_SIOOBE_FORMATTER hcat (by decide) (by decide)) (fun _ _ _ q => q) (W := 0) (by decide) hml (Ls := #[rv xb, iv 2]) rfl (rest := []) rfl rfl hby d27_3
  refine oWk.to (mkF m 14 #[rv xb, iv 2] [(.int (((xc2.toInt8.toInt32) &&& (255 : Int32)).toUInt32.toUInt16.toUInt32.toInt32))]) (fun _ kt => st _ (zA X hx hby d27_6 rfl rfl rfl (zI X hx hby d27_7 rfl rfl (oLdB X hx hZ e0 V_xb (2 : Int32) (ib xc2) ⟨by decide, by decide⟩ rfl hby d27_8 rfl rfl (zM X hx hby d27_9 rfl (XS.iand X.here hx rfl (hb hby d27_12) rfl (XS.i2c X.here hx rfl (hb hby d27_13) rfl kt))))))) ?_
  rw [oBk hr]
  show oWk _ _ _ _ T (mkF m 14 #[rv xb, iv 2] [(.int xc2)])
  exact oRetN X hx hlk hret (Or.inr (Or.inl rfl)) (show narrow .char (.int xc2) = .int xc2 from congrArg Value.int (oChr hr)) (hb hby d27_14) (by rw [e0]; exact ⟨rfl, rfl, K⟩) (by decide) (by decide)
def Q_rCA_4_2 (Z : State) (xa xb : Addr) (xk : ClassId) (xfm : Value) (xz xc0 xc1 xc2 xc3 : Int32) (h0 : Heap) (v : Option Value) (h : Heap) (L : List Loc) : Prop := v = some (.int xc2) ∧ h = h0 ∧ oKp h0 h [] L
theorem rCA_4_2 (l : Launch) (Z : State) (a0 : Array Value) (hw : oHW a0 Z) (ws : List Jvm.Cond) (xa xb : Addr) (xk : ClassId) (xfm : Value) (xz xc0 xc1 xc2 xc3 : Int32) (h0 : Heap) (O0 : Ext Z.heap h0) (S_COMPACT_STRINGS : Sta Z Z.heap Y0 Y1 "Z" (.int xz)) (hz : ¬ xz = (0 : Int32)) (S_SIOOBE_FORMATTER : Sta Z Z.heap Y2 Y3 Y4 xfm) (hcat : xfm.category = 1) (hr : 0 ≤ xc2.toInt ∧ xc2.toInt < 256) (E_xa : Exa Z h0 xa Y0) (F_coder_xa : Fld Z h0 xa Y0 "coder" "B" (.int (0 : Int32))) (F_value_xa : Fld Z h0 xa Y0 "value" "[B" (.ref xb)) (V_xb : Arv Z h0 xb xk .byte (4 : Int32) [(ib xc0), (ib xc1), (ib xc2), (ib xc3)] (.int (0 : Int32))) :
    oCon l Z yy27 jdk_42_method_56_code 2 (some .char) ws ({ frames := 3, cells := 0, slots := 0, locals := 40 } : Room) #[(.ref xa), (.int (2 : Int32))] h0 (Q_rCA_4_2 Z xa xb xk xfm xz xc0 xc1 xc2 xc3 h0) := by
  refine oCon.of (plainFor_of_name pn_3) ?_
  intro p e s m below meth c T X hx hby hml hown hnm hret hlk hZ e0
  have hml : c.maxLocals = 2 := hml
  have K : oKp h0 h0 [] [] := oKp.nil _ _
  refine oWk.cast (g' := (mkF m 0 #[rv xa, iv 2] [])) (by first | rfl | (simp [entryFrame, mkF, argsToLocals, Value.category]; done)) ?_
  refine oWk.st (fun _ kt => zA X hx hby d26_0 rfl rfl rfl kt) ?_
  have Oh := K.old O0 all0
  obtain ⟨T, L2, X, e0, K, st⟩ := (cs8 hw).pure X hx hZ hown e0 K (A := [(.ref xa)]) ⟨rfl, _, _, rfl, E_xa⟩ (rIsL l Z a0 hw [] xa xz h0 Oh S_COMPACT_STRINGS hz F_coder_xa) (fun _ _ _ q => q) (W := 0) (by decide) hml (Ls := #[rv xa, iv 2]) rfl (rest := []) rfl rfl hby d26_1
  refine oWk.st (fun _ kt => st _ (zH X hx hby d26_4 rfl rfl ((if0 _ _).trans (feq (by decide)).1) (zA X hx hby d26_7 rfl rfl rfl kt))) ?_
  obtain ⟨T, X, e0, st⟩ := getF X hx hZ hown (host := "") (Or.inl (oW hw 36 rfl)) Via.refl e0 F_value_xa (g := (mkF m 8 #[rv xa, iv 2] [(.ref xa)])) rfl rfl (hb hby d26_8)
  refine oWk.st (fun _ kt => st _ (zI X hx hby d26_11 rfl rfl kt)) ?_
  obtain ⟨T, L4, X, e0, K, st⟩ := (cs24 hw).pure X hx hZ hown e0 K (A := [(.ref xb), (.int (2 : Int32))]) rfl (rLC_4_2 l Z a0 hw [] xb xk xfm xc0 xc1 xc2 xc3 h0 Oh S_SIOOBE_FORMATTER hcat hr V_xb) (fun _ _ _ q => q) (W := 0) (by decide) hml (Ls := #[rv xa, iv 2]) rfl (rest := []) rfl rfl hby d26_12
  refine oWk.to (mkF m 15 #[rv xa, iv 2] [(.int xc2)]) (fun _ kt => st _ kt) ?_
  exact oRetN X hx hlk hret (Or.inr (Or.inl rfl)) (show narrow .char (.int xc2) = .int xc2 from congrArg Value.int (oChr hr)) (hb hby d26_15) (by rw [e0]; exact ⟨rfl, rfl, K⟩) (by decide) (by decide)
def Q_rLC_4_3 (Z : State) (xb : Addr) (xk : ClassId) (xfm : Value) (xc0 xc1 xc2 xc3 : Int32) (h0 : Heap) (v : Option Value) (h : Heap) (L : List Loc) : Prop := v = some (.int xc3) ∧ h = h0 ∧ oKp h0 h [] L
theorem rLC_4_3 (l : Launch) (Z : State) (a0 : Array Value) (hw : oHW a0 Z) (ws : List Jvm.Cond) (xb : Addr) (xk : ClassId) (xfm : Value) (xc0 xc1 xc2 xc3 : Int32) (h0 : Heap) (O0 : Ext Z.heap h0) (S_SIOOBE_FORMATTER : Sta Z Z.heap Y2 Y3 Y4 xfm) (hcat : xfm.category = 1) (hr : 0 ≤ xc3.toInt ∧ xc3.toInt < 256) (V_xb : Arv Z h0 xb xk .byte (4 : Int32) [(ib xc0), (ib xc1), (ib xc2), (ib xc3)] (.int (0 : Int32))) :
    oCon l Z yy26 jdk_43_method_2_code 2 (some .char) ws ({ frames := 2, cells := 0, slots := 0, locals := 27 } : Room) #[(.ref xb), (.int (3 : Int32))] h0 (Q_rLC_4_3 Z xb xk xfm xc0 xc1 xc2 xc3 h0) := by
  refine oCon.of (plainFor_of_name pn_0) ?_
  intro p e s m below meth c T X hx hby hml hown hnm hret hlk hZ e0
  have hml : c.maxLocals = 2 := hml
  have K : oKp h0 h0 [] [] := oKp.nil _ _
  refine oWk.cast (g' := (mkF m 0 #[rv xb, iv 3] [])) (by first | rfl | (simp [entryFrame, mkF, argsToLocals, Value.category]; done)) ?_
  refine oWk.st (fun _ kt => zI X hx hby d27_0 rfl rfl (zA X hx hby d27_1 rfl rfl rfl (oAl X hx hZ e0 V_xb hby d27_2 rfl rfl kt))) ?_
  have Oh := K.old O0 all0
  obtain ⟨T, L3, X, e0, K, st⟩ := (cs23 hw).pure X hx hZ hown e0 K (A := [(.int (3 : Int32)), (.int (4 : Int32))]) rfl (rCkI l Z a0 hw [] (3 : Int32) (4 : Int32) xfm h0 Oh S_SIOOBE_FORMATTER hcat (by decide) (by decide)) (fun _ _ _ q => q) (W := 0) (by decide) hml (Ls := #[rv xb, iv 3]) rfl (rest := []) rfl rfl hby d27_3
  refine oWk.to (mkF m 14 #[rv xb, iv 3] [(.int (((xc3.toInt8.toInt32) &&& (255 : Int32)).toUInt32.toUInt16.toUInt32.toInt32))]) (fun _ kt => st _ (zA X hx hby d27_6 rfl rfl rfl (zI X hx hby d27_7 rfl rfl (oLdB X hx hZ e0 V_xb (3 : Int32) (ib xc3) ⟨by decide, by decide⟩ rfl hby d27_8 rfl rfl (zM X hx hby d27_9 rfl (XS.iand X.here hx rfl (hb hby d27_12) rfl (XS.i2c X.here hx rfl (hb hby d27_13) rfl kt))))))) ?_
  rw [oBk hr]
  show oWk _ _ _ _ T (mkF m 14 #[rv xb, iv 3] [(.int xc3)])
  exact oRetN X hx hlk hret (Or.inr (Or.inl rfl)) (show narrow .char (.int xc3) = .int xc3 from congrArg Value.int (oChr hr)) (hb hby d27_14) (by rw [e0]; exact ⟨rfl, rfl, K⟩) (by decide) (by decide)
def Q_rCA_4_3 (Z : State) (xa xb : Addr) (xk : ClassId) (xfm : Value) (xz xc0 xc1 xc2 xc3 : Int32) (h0 : Heap) (v : Option Value) (h : Heap) (L : List Loc) : Prop := v = some (.int xc3) ∧ h = h0 ∧ oKp h0 h [] L
theorem rCA_4_3 (l : Launch) (Z : State) (a0 : Array Value) (hw : oHW a0 Z) (ws : List Jvm.Cond) (xa xb : Addr) (xk : ClassId) (xfm : Value) (xz xc0 xc1 xc2 xc3 : Int32) (h0 : Heap) (O0 : Ext Z.heap h0) (S_COMPACT_STRINGS : Sta Z Z.heap Y0 Y1 "Z" (.int xz)) (hz : ¬ xz = (0 : Int32)) (S_SIOOBE_FORMATTER : Sta Z Z.heap Y2 Y3 Y4 xfm) (hcat : xfm.category = 1) (hr : 0 ≤ xc3.toInt ∧ xc3.toInt < 256) (E_xa : Exa Z h0 xa Y0) (F_coder_xa : Fld Z h0 xa Y0 "coder" "B" (.int (0 : Int32))) (F_value_xa : Fld Z h0 xa Y0 "value" "[B" (.ref xb)) (V_xb : Arv Z h0 xb xk .byte (4 : Int32) [(ib xc0), (ib xc1), (ib xc2), (ib xc3)] (.int (0 : Int32))) :
    oCon l Z yy27 jdk_42_method_56_code 2 (some .char) ws ({ frames := 3, cells := 0, slots := 0, locals := 40 } : Room) #[(.ref xa), (.int (3 : Int32))] h0 (Q_rCA_4_3 Z xa xb xk xfm xz xc0 xc1 xc2 xc3 h0) := by
  refine oCon.of (plainFor_of_name pn_3) ?_
  intro p e s m below meth c T X hx hby hml hown hnm hret hlk hZ e0
  have hml : c.maxLocals = 2 := hml
  have K : oKp h0 h0 [] [] := oKp.nil _ _
  refine oWk.cast (g' := (mkF m 0 #[rv xa, iv 3] [])) (by first | rfl | (simp [entryFrame, mkF, argsToLocals, Value.category]; done)) ?_
  refine oWk.st (fun _ kt => zA X hx hby d26_0 rfl rfl rfl kt) ?_
  have Oh := K.old O0 all0
  obtain ⟨T, L2, X, e0, K, st⟩ := (cs8 hw).pure X hx hZ hown e0 K (A := [(.ref xa)]) ⟨rfl, _, _, rfl, E_xa⟩ (rIsL l Z a0 hw [] xa xz h0 Oh S_COMPACT_STRINGS hz F_coder_xa) (fun _ _ _ q => q) (W := 0) (by decide) hml (Ls := #[rv xa, iv 3]) rfl (rest := []) rfl rfl hby d26_1
  refine oWk.st (fun _ kt => st _ (zH X hx hby d26_4 rfl rfl ((if0 _ _).trans (feq (by decide)).1) (zA X hx hby d26_7 rfl rfl rfl kt))) ?_
  obtain ⟨T, X, e0, st⟩ := getF X hx hZ hown (host := "") (Or.inl (oW hw 36 rfl)) Via.refl e0 F_value_xa (g := (mkF m 8 #[rv xa, iv 3] [(.ref xa)])) rfl rfl (hb hby d26_8)
  refine oWk.st (fun _ kt => st _ (zI X hx hby d26_11 rfl rfl kt)) ?_
  obtain ⟨T, L4, X, e0, K, st⟩ := (cs24 hw).pure X hx hZ hown e0 K (A := [(.ref xb), (.int (3 : Int32))]) rfl (rLC_4_3 l Z a0 hw [] xb xk xfm xc0 xc1 xc2 xc3 h0 Oh S_SIOOBE_FORMATTER hcat hr V_xb) (fun _ _ _ q => q) (W := 0) (by decide) hml (Ls := #[rv xa, iv 3]) rfl (rest := []) rfl rfl hby d26_12
  refine oWk.to (mkF m 15 #[rv xa, iv 3] [(.int xc3)]) (fun _ kt => st _ kt) ?_
  exact oRetN X hx hlk hret (Or.inr (Or.inl rfl)) (show narrow .char (.int xc3) = .int xc3 from congrArg Value.int (oChr hr)) (hb hby d26_15) (by rw [e0]; exact ⟨rfl, rfl, K⟩) (by decide) (by decide)
theorem oSet1 {d0 d1 d2 d3 d4 p : Int32} (h0 : 0 ≤ d0.toInt ∧ d0.toInt < 256) (h1 : 0 ≤ d1.toInt ∧ d1.toInt < 256) (h2 : 0 ≤ d2.toInt ∧ d2.toInt < 256) (h3 : 0 ≤ d3.toInt ∧ d3.toInt < 256) (h4 : 0 ≤ d4.toInt ∧ d4.toInt < 256) (hp : 0 ≤ p.toInt ∧ p.toInt < 1) : ∃ c0 c1 c2 c3 c4 : Int32, ([Value.int d0, Value.int d1, Value.int d2, Value.int d3, Value.int d4] : List Value).set p.toNatClampNeg (.int (nar .char 58)) = [Value.int c0, Value.int c1, Value.int c2, Value.int c3, Value.int c4] ∧ (0 ≤ c0.toInt ∧ c0.toInt < 256) ∧ (0 ≤ c1.toInt ∧ c1.toInt < 256) ∧ (0 ≤ c2.toInt ∧ c2.toInt < 256) ∧ (0 ≤ c3.toInt ∧ c3.toInt < 256) ∧ (0 ≤ c4.toInt ∧ c4.toInt < 256) ∧ (c0 = 58) := by
  have e : ∀ j : Int32, p.toInt = j.toInt → p = j := fun j q => Int32.toInt_inj.mp q
  have d : p.toInt = 0 := by omega
  have c : p = 0 := e 0 d
  rcases c with rfl
  · exact ⟨58, d1, d2, d3, d4, rfl, by decide, h1, h2, h3, h4, rfl⟩
theorem oPr1 (f : Int32) : 0 ≤ (((f.toUInt32 >>> ((8 : Int32) &&& 31).toUInt32).toInt32) % 1).toInt ∧ (((f.toUInt32 >>> ((8 : Int32) &&& 31).toUInt32).toInt32) % 1).toInt < 1 := by
  have a := c_iushr f 8 8 (by decide) (by decide)
  have b := (c_irem ((f.toUInt32 >>> ((8 : Int32) &&& 31).toUInt32).toInt32) 1 1 rfl).1
  omega
theorem oSet2 {d0 d1 d2 d3 d4 p : Int32} (h0 : 0 ≤ d0.toInt ∧ d0.toInt < 256) (h1 : 0 ≤ d1.toInt ∧ d1.toInt < 256) (h2 : 0 ≤ d2.toInt ∧ d2.toInt < 256) (h3 : 0 ≤ d3.toInt ∧ d3.toInt < 256) (h4 : 0 ≤ d4.toInt ∧ d4.toInt < 256) (hp : 0 ≤ p.toInt ∧ p.toInt < 2) : ∃ c0 c1 c2 c3 c4 : Int32, ([Value.int d0, Value.int d1, Value.int d2, Value.int d3, Value.int d4] : List Value).set p.toNatClampNeg (.int (nar .char 58)) = [Value.int c0, Value.int c1, Value.int c2, Value.int c3, Value.int c4] ∧ (0 ≤ c0.toInt ∧ c0.toInt < 256) ∧ (0 ≤ c1.toInt ∧ c1.toInt < 256) ∧ (0 ≤ c2.toInt ∧ c2.toInt < 256) ∧ (0 ≤ c3.toInt ∧ c3.toInt < 256) ∧ (0 ≤ c4.toInt ∧ c4.toInt < 256) ∧ (c0 = 58 ∨ c1 = 58) := by
  have e : ∀ j : Int32, p.toInt = j.toInt → p = j := fun j q => Int32.toInt_inj.mp q
  have d : p.toInt = 0 ∨ p.toInt = 1 := by omega
  have c : p = 0 ∨ p = 1 := d.imp (e 0) (e 1)
  rcases c with rfl | rfl
  · exact ⟨58, d1, d2, d3, d4, rfl, by decide, h1, h2, h3, h4, Or.inl rfl⟩
  · exact ⟨d0, 58, d2, d3, d4, rfl, h0, by decide, h2, h3, h4, Or.inr (rfl)⟩
theorem oPr2 (f : Int32) : 0 ≤ (((f.toUInt32 >>> ((8 : Int32) &&& 31).toUInt32).toInt32) % 2).toInt ∧ (((f.toUInt32 >>> ((8 : Int32) &&& 31).toUInt32).toInt32) % 2).toInt < 2 := by
  have a := c_iushr f 8 8 (by decide) (by decide)
  have b := (c_irem ((f.toUInt32 >>> ((8 : Int32) &&& 31).toUInt32).toInt32) 2 2 rfl).1
  omega
theorem oSet3 {d0 d1 d2 d3 d4 p : Int32} (h0 : 0 ≤ d0.toInt ∧ d0.toInt < 256) (h1 : 0 ≤ d1.toInt ∧ d1.toInt < 256) (h2 : 0 ≤ d2.toInt ∧ d2.toInt < 256) (h3 : 0 ≤ d3.toInt ∧ d3.toInt < 256) (h4 : 0 ≤ d4.toInt ∧ d4.toInt < 256) (hp : 0 ≤ p.toInt ∧ p.toInt < 3) : ∃ c0 c1 c2 c3 c4 : Int32, ([Value.int d0, Value.int d1, Value.int d2, Value.int d3, Value.int d4] : List Value).set p.toNatClampNeg (.int (nar .char 58)) = [Value.int c0, Value.int c1, Value.int c2, Value.int c3, Value.int c4] ∧ (0 ≤ c0.toInt ∧ c0.toInt < 256) ∧ (0 ≤ c1.toInt ∧ c1.toInt < 256) ∧ (0 ≤ c2.toInt ∧ c2.toInt < 256) ∧ (0 ≤ c3.toInt ∧ c3.toInt < 256) ∧ (0 ≤ c4.toInt ∧ c4.toInt < 256) ∧ (c0 = 58 ∨ c1 = 58 ∨ c2 = 58) := by
  have e : ∀ j : Int32, p.toInt = j.toInt → p = j := fun j q => Int32.toInt_inj.mp q
  have d : p.toInt = 0 ∨ p.toInt = 1 ∨ p.toInt = 2 := by omega
  have c : p = 0 ∨ p = 1 ∨ p = 2 := d.imp (e 0) (Or.imp (e 1) (e 2))
  rcases c with rfl | rfl | rfl
  · exact ⟨58, d1, d2, d3, d4, rfl, by decide, h1, h2, h3, h4, Or.inl rfl⟩
  · exact ⟨d0, 58, d2, d3, d4, rfl, h0, by decide, h2, h3, h4, Or.inr (Or.inl rfl)⟩
  · exact ⟨d0, d1, 58, d3, d4, rfl, h0, h1, by decide, h3, h4, Or.inr (Or.inr (rfl))⟩
theorem oPr3 (f : Int32) : 0 ≤ (((f.toUInt32 >>> ((8 : Int32) &&& 31).toUInt32).toInt32) % 3).toInt ∧ (((f.toUInt32 >>> ((8 : Int32) &&& 31).toUInt32).toInt32) % 3).toInt < 3 := by
  have a := c_iushr f 8 8 (by decide) (by decide)
  have b := (c_irem ((f.toUInt32 >>> ((8 : Int32) &&& 31).toUInt32).toInt32) 3 3 rfl).1
  omega
theorem oSet4 {d0 d1 d2 d3 d4 p : Int32} (h0 : 0 ≤ d0.toInt ∧ d0.toInt < 256) (h1 : 0 ≤ d1.toInt ∧ d1.toInt < 256) (h2 : 0 ≤ d2.toInt ∧ d2.toInt < 256) (h3 : 0 ≤ d3.toInt ∧ d3.toInt < 256) (h4 : 0 ≤ d4.toInt ∧ d4.toInt < 256) (hp : 0 ≤ p.toInt ∧ p.toInt < 4) : ∃ c0 c1 c2 c3 c4 : Int32, ([Value.int d0, Value.int d1, Value.int d2, Value.int d3, Value.int d4] : List Value).set p.toNatClampNeg (.int (nar .char 58)) = [Value.int c0, Value.int c1, Value.int c2, Value.int c3, Value.int c4] ∧ (0 ≤ c0.toInt ∧ c0.toInt < 256) ∧ (0 ≤ c1.toInt ∧ c1.toInt < 256) ∧ (0 ≤ c2.toInt ∧ c2.toInt < 256) ∧ (0 ≤ c3.toInt ∧ c3.toInt < 256) ∧ (0 ≤ c4.toInt ∧ c4.toInt < 256) ∧ (c0 = 58 ∨ c1 = 58 ∨ c2 = 58 ∨ c3 = 58) := by
  have e : ∀ j : Int32, p.toInt = j.toInt → p = j := fun j q => Int32.toInt_inj.mp q
  have d : p.toInt = 0 ∨ p.toInt = 1 ∨ p.toInt = 2 ∨ p.toInt = 3 := by omega
  have c : p = 0 ∨ p = 1 ∨ p = 2 ∨ p = 3 := d.imp (e 0) (Or.imp (e 1) (Or.imp (e 2) (e 3)))
  rcases c with rfl | rfl | rfl | rfl
  · exact ⟨58, d1, d2, d3, d4, rfl, by decide, h1, h2, h3, h4, Or.inl rfl⟩
  · exact ⟨d0, 58, d2, d3, d4, rfl, h0, by decide, h2, h3, h4, Or.inr (Or.inl rfl)⟩
  · exact ⟨d0, d1, 58, d3, d4, rfl, h0, h1, by decide, h3, h4, Or.inr (Or.inr (Or.inl rfl))⟩
  · exact ⟨d0, d1, d2, 58, d4, rfl, h0, h1, h2, by decide, h4, Or.inr (Or.inr (Or.inr (rfl)))⟩
theorem oPr4 (f : Int32) : 0 ≤ (((f.toUInt32 >>> ((8 : Int32) &&& 31).toUInt32).toInt32) % 4).toInt ∧ (((f.toUInt32 >>> ((8 : Int32) &&& 31).toUInt32).toInt32) % 4).toInt < 4 := by
  have a := c_iushr f 8 8 (by decide) (by decide)
  have b := (c_irem ((f.toUInt32 >>> ((8 : Int32) &&& 31).toUInt32).toInt32) 4 4 rfl).1
  omega
theorem oSet5 {d0 d1 d2 d3 d4 p : Int32} (h0 : 0 ≤ d0.toInt ∧ d0.toInt < 256) (h1 : 0 ≤ d1.toInt ∧ d1.toInt < 256) (h2 : 0 ≤ d2.toInt ∧ d2.toInt < 256) (h3 : 0 ≤ d3.toInt ∧ d3.toInt < 256) (h4 : 0 ≤ d4.toInt ∧ d4.toInt < 256) (hp : 0 ≤ p.toInt ∧ p.toInt < 5) : ∃ c0 c1 c2 c3 c4 : Int32, ([Value.int d0, Value.int d1, Value.int d2, Value.int d3, Value.int d4] : List Value).set p.toNatClampNeg (.int (nar .char 58)) = [Value.int c0, Value.int c1, Value.int c2, Value.int c3, Value.int c4] ∧ (0 ≤ c0.toInt ∧ c0.toInt < 256) ∧ (0 ≤ c1.toInt ∧ c1.toInt < 256) ∧ (0 ≤ c2.toInt ∧ c2.toInt < 256) ∧ (0 ≤ c3.toInt ∧ c3.toInt < 256) ∧ (0 ≤ c4.toInt ∧ c4.toInt < 256) ∧ (c0 = 58 ∨ c1 = 58 ∨ c2 = 58 ∨ c3 = 58 ∨ c4 = 58) := by
  have e : ∀ j : Int32, p.toInt = j.toInt → p = j := fun j q => Int32.toInt_inj.mp q
  have d : p.toInt = 0 ∨ p.toInt = 1 ∨ p.toInt = 2 ∨ p.toInt = 3 ∨ p.toInt = 4 := by omega
  have c : p = 0 ∨ p = 1 ∨ p = 2 ∨ p = 3 ∨ p = 4 := d.imp (e 0) (Or.imp (e 1) (Or.imp (e 2) (Or.imp (e 3) (e 4))))
  rcases c with rfl | rfl | rfl | rfl | rfl
  · exact ⟨58, d1, d2, d3, d4, rfl, by decide, h1, h2, h3, h4, Or.inl rfl⟩
  · exact ⟨d0, 58, d2, d3, d4, rfl, h0, by decide, h2, h3, h4, Or.inr (Or.inl rfl)⟩
  · exact ⟨d0, d1, 58, d3, d4, rfl, h0, h1, by decide, h3, h4, Or.inr (Or.inr (Or.inl rfl))⟩
  · exact ⟨d0, d1, d2, 58, d4, rfl, h0, h1, h2, by decide, h4, Or.inr (Or.inr (Or.inr (Or.inl rfl)))⟩
  · exact ⟨d0, d1, d2, d3, 58, rfl, h0, h1, h2, h3, by decide, Or.inr (Or.inr (Or.inr (Or.inr (rfl))))⟩
theorem oPr5 (f : Int32) : 0 ≤ (((f.toUInt32 >>> ((8 : Int32) &&& 31).toUInt32).toInt32) % 5).toInt ∧ (((f.toUInt32 >>> ((8 : Int32) &&& 31).toUInt32).toInt32) % 5).toInt < 5 := by
  have a := c_iushr f 8 8 (by decide) (by decide)
  have b := (c_irem ((f.toUInt32 >>> ((8 : Int32) &&& 31).toUInt32).toInt32) 5 5 rfl).1
  omega
theorem oLen {f a : Int32} (h : (1 : Int32) + ((f &&& 2147483647) % 5) = a) : a = 1 ∨ a = 2 ∨ a = 3 ∨ a = 4 ∨ a = 5 := by
  have q1 := (c_irem (f &&& 2147483647) 5 5 rfl).1
  have q2 := c_mask f 2147483647 31 (by decide) (by decide)
  have q3 := c_iadd 1 ((f &&& 2147483647) % 5)
  rw [h] at q3
  have q4 : (1 : Int32).toInt = 1 := by decide
  have q5 := rng32 a
  have e : ∀ j : Int32, a.toInt = j.toInt → a = j := fun j q => Int32.toInt_inj.mp q
  have d : a.toInt = 1 ∨ a.toInt = 2 ∨ a.toInt = 3 ∨ a.toInt = 4 ∨ a.toInt = 5 := by omega
  exact d.imp (e 1) (Or.imp (e 2) (Or.imp (e 3) (Or.imp (e 4) (e 5))))
theorem oIx {p : Int32} {n : Nat} (h : 0 ≤ p.toInt ∧ p.toInt < n) (hn : n ≤ 5) : ¬ p < (0 : Int32) ∧ p < (5 : Int32) := ⟨fun q => by
    have r : p.toInt < (0 : Int32).toInt := Int32.lt_iff_toInt_lt.mp q
    have s : (0 : Int32).toInt = 0 := by decide
    omega, by
    apply Int32.lt_iff_toInt_lt.mpr
    have s : (5 : Int32).toInt = 5 := by decide
    omega⟩
theorem oIxn {p : Int32} {n : Nat} (h : 0 ≤ p.toInt ∧ p.toInt < n) (hn : n ≤ 5) : p.toNatClampNeg < 5 := by
  show p.toInt.toNat < 5
  omega
def Q_rLaw (Z : State) (p0 p1 p2 p3 p4 p5 : Int32) (xfm : Value) (xz : Int32) (h0 : Heap) (v : Option Value) (h : Heap) (L : List Loc) : Prop := v = some (.int (1 : Int32)) ∧ Fr h0.size L
theorem pd_21 : parseMethodDescriptor "(I)C" = some ⟨[.int], some .char⟩ := by decide +kernel
theorem cs25 {a0 : Array Value} {Z : State} (hw : oHW a0 Z) : oCall Z Y6 (.invokestatic 13) yy1 method_2_code 1 (some .char) (oRs 1) := oCall.stat (oW hw 2 rfl) (oW hw 3 rfl) (oW hw 4 rfl) (oW hw 5 rfl) (by decide) pd_21
theorem pd_22 : parseMethodDescriptor "([CI)Ljava/lang/String;" = some ⟨[(.array .char), .int], some (.object "java/lang/String")⟩ := by decide +kernel
theorem cs26 {a0 : Array Value} {Z : State} (hw : oHW a0 Z) : oCall Z Y6 (.invokestatic 19) yy7 method_3_code 2 (some (.object Y0)) (oRs 2) := oCall.stat (oW hw 6 rfl) (oW hw 7 rfl) (oW hw 4 rfl) (oW hw 8 rfl) (by decide) pd_22
theorem pd_23 : parseMethodDescriptor "(Ljava/lang/String;)Ljava/lang/String;" = some ⟨[(.object "java/lang/String")], some (.object "java/lang/String")⟩ := by decide +kernel
theorem cs27 {a0 : Array Value} {Z : State} (hw : oHW a0 Z) : oCall Z Y6 (.invokevirtual 29) yy12 jdk_42_method_54_code 1 (some .int) (oRv Z 0 Y0) := oCall.virt (oW hw 97 rfl) (oW hw 48 rfl) (fun _ hZ => notFace_of_selects (args := #[]) (mvT hZ (oW hw 50 rfl))) (oW hw 50 rfl) (oW hw 49 rfl) (oW hw 11 rfl) (oW hw 51 rfl) (by decide) pd_10
theorem cs28 {a0 : Array Value} {Z : State} (hw : oHW a0 Z) : oCall Z Y6 (.invokestatic 23) yy19 prog_3_method_2_code 1 (some (.object Y0)) (oRs 1) := oCall.stat (oW hw 38 rfl) (oW hw 39 rfl) (oW hw 40 rfl) (oW hw 41 rfl) (by decide) pd_23
theorem cs29 {a0 : Array Value} {Z : State} (hw : oHW a0 Z) : oCall Z Y6 (.invokevirtual 33) yy27 jdk_42_method_56_code 2 (some .char) (oRv Z 1 Y0) := oCall.virt (oW hw 117 rfl) (oW hw 118 rfl) (fun _ hZ => notFace_of_selects (args := #[]) (mvT hZ (oW hw 120 rfl))) (oW hw 120 rfl) (oW hw 119 rfl) (oW hw 11 rfl) (oW hw 121 rfl) (by decide) pd_21
theorem rLaw (l : Launch) (Z : State) (a0 : Array Value) (hw : oHW a0 Z) (ws : List Jvm.Cond) (p0 p1 p2 p3 p4 p5 : Int32) (xfm : Value) (xz : Int32) (h0 : Heap) (O0 : Ext Z.heap h0) (S_COMPACT_STRINGS : Sta Z Z.heap Y0 Y1 "Z" (.int xz)) (hz : ¬ xz = (0 : Int32)) (S_SIOOBE_FORMATTER : Sta Z Z.heap Y2 Y3 Y4 xfm) (hcat : xfm.category = 1) :
    oConH l Z oEL x code maxLocals ret ws room_1 #[(.int p0), (.int p1), (.int p2), (.int p3), (.int p4), (.int p5)] h0 [] (Q_rLaw Z p0 p1 p2 p3 p4 p5 xfm xz h0) := by
  refine oConH.of (plainFor_of_name pn_1) ?_
  intro p e s m below meth c T vm X hx hby hml hown hnm hret hlk hZ e0 B hsf
  have hml : c.maxLocals = 13 := hml
  have K : oKp h0 h0 [] [] := oKp.nil _ _
  refine oWk.cast (g' := (mkF m 0 #[iv p0, iv p1, iv p2, iv p3, iv p4, iv p5, uu, uu, uu, uu, uu, uu, uu] [])) (by first | rfl | (simp [entryFrame, mkF, argsToLocals, Value.category, maxLocals]; done)) ?_
  refine oWk.st (fun _ kt => zK X hx hby at_0 rfl (zJ X hx hby at_1 rfl rfl kt)) ?_
  refine oWk.to (mkF m 9 #[iv p0, iv p1, iv p2, iv p3, iv p4, iv p5, uu, uu, uu, uu, uu, uu, uu] [(.int ((1 : Int32) + ((p5 &&& (2147483647 : Int32)) % (5 : Int32))))]) (fun _ kt => X.ldcI hx hown (mvT hZ (oW hw 0 rfl)) rfl (hb hby at_3) (XS.iand X.here hx rfl (hb hby at_5) rfl (zK X hx hby at_6 rfl (iremM X hx rfl (hb hby at_7) rfl (by decide) (XS.iadd X.here hx rfl (hb hby at_8) rfl kt))))) ?_
  generalize hlen : ((1 : Int32) + ((p5 &&& (2147483647 : Int32)) % (5 : Int32))) = len
  show oWk _ _ _ _ T (mkF m 9 #[iv p0, iv p1, iv p2, iv p3, iv p4, iv p5, uu, uu, uu, uu, uu, uu, uu] [(.int len)])
  refine oWk.to (mkF m 11 #[iv p0, iv p1, iv p2, iv p3, iv p4, iv p5, iv len, uu, uu, uu, uu, uu, uu] []) (fun _ kt => zS X hx hby at_9 rfl rfl (l' := #[iv p0, iv p1, iv p2, iv p3, iv p4, iv p5, iv len, uu, uu, uu, uu, uu, uu]) rfl kt) ?_
  have cl := oLen hlen
  rcases cl with rfl | rfl | rfl | rfl | rfl
  · show oWk _ _ _ _ T (mkF m 11 #[iv p0, iv p1, iv p2, iv p3, iv p4, iv p5, iv 1, uu, uu, uu, uu, uu, uu] [])
    refine oWk.to (mkF m 19 #[iv p0, iv p1, iv p2, iv p3, iv p4, iv p5, iv 1, uu, uu, uu, uu, uu, uu] [(.int (((p5.toUInt32 >>> ((8 : Int32) &&& 31).toUInt32).toInt32) % (1 : Int32)))]) (fun _ kt => zJ X hx hby at_11 rfl rfl (zL X hx hby at_13 rfl (XS.iushr X.here hx rfl (hb hby at_15) rfl (zJ X hx hby at_16 rfl rfl (iremM X hx rfl (hb hby at_18) rfl (by decide) kt))))) ?_
    generalize hpe : (((p5.toUInt32 >>> ((8 : Int32) &&& 31).toUInt32).toInt32) % (1 : Int32)) = pp
    show oWk _ _ _ _ T (mkF m 19 #[iv p0, iv p1, iv p2, iv p3, iv p4, iv p5, iv 1, uu, uu, uu, uu, uu, uu] [(.int pp)])
    have hpp := oPr1 p5
    rw [hpe] at hpp
    refine oWk.st (fun _ kt => zS X hx hby at_19 rfl rfl (l' := #[iv p0, iv p1, iv p2, iv p3, iv p4, iv p5, iv 1, iv pp, uu, uu, uu, uu, uu]) rfl (zK X hx hby at_21 rfl kt)) ?_
    obtain ⟨cs, g1⟩ : ∃ z, z = h0.size := ⟨_, rfl⟩
    have ge_cs : h0.size ≤ cs := Nat.le_trans K.le (Nat.le_of_eq g1.symm)
    have sf_cs := B.new (Nat.le_of_eq g1.symm)
    obtain ⟨T, h, k1, X, e0, E1, A1, st⟩ := newP X hx hZ (oW hw 1 rfl) e0 (g := (mkF m 22 #[iv p0, iv p1, iv p2, iv p3, iv p4, iv p5, iv 1, iv pp, uu, uu, uu, uu, uu] [(.int 5)])) rfl (hb hby at_22) rfl (by decide) (cap := 5) (by decide) (by decide) (by decide) (by decide)
    rw [← g1] at A1 st
    have K := K.ext E1
    have sf_cs := Safe.ext E1 B.2.1 sf_cs
    have B := B.ext E1
    have V_cs : Arv Z h cs k1 .char (5 : Int32) [(.int (0 : Int32)), (.int (0 : Int32)), (.int (0 : Int32)), (.int (0 : Int32)), (.int (0 : Int32))] (.int (0 : Int32)) := (Arv.new A1 (by decide)).pad (pad_rep [] (.int (0 : Int32)) 5)
    refine oWk.st (fun _ kt => st _ (zD X hx hby at_24 rfl rfl rfl (zK X hx hby at_25 rfl (zI X hx hby at_26 rfl rfl kt)))) ?_
    have Oh := K.old O0 all0
    obtain ⟨_, T, hq, Lc3, X, e0, hQ, st⟩ := (cs25 hw).run X hx hZ hown e0 (A := [(.int p0)]) rfl (rDr l Z a0 hw [] p0 h Oh ) (W := 3) (by decide) hml (Ls := #[iv p0, iv p1, iv p2, iv p3, iv p4, iv p5, iv 1, iv pp, uu, uu, uu, uu, uu]) rfl (rest := [(.int (0 : Int32)), (.ref cs), (.ref cs)]) rfl rfl hby at_27
    obtain ⟨d0, rfl, e1, K2, hd2⟩ := hQ
    rw [e1] at e0 K2
    have K := K.call K2 all0
    have hd0 := hd2
    refine oWk.st (fun _ kt => st _ kt) ?_
    obtain ⟨cl4, Ar4, q4, Sz4, Nn4, Hs4, Ft4⟩ := id V_cs
    have hin4 : ¬ ((0 : Int32) < 0 ∨ cl4.slots.size ≤ ((0 : Int32)).toNatClampNeg) := inb_of Sz4 ⟨by decide, by decide⟩
    obtain ⟨T, h, X, e0, W4, st⟩ := stC X hx hZ e0 Ar4 (j := (0 : Int32)) hin4 (g := (mkF m 30 #[iv p0, iv p1, iv p2, iv p3, iv p4, iv p5, iv 1, iv pp, uu, uu, uu, uu, uu] [(.int d0), (.int 0), (.ref cs), (.ref cs)])) rfl rfl (hb hby at_30)
    have K := K.wr W4 (Or.inr ge_cs)
    have sw : Safe Z oEL _ _ cs := sf_cs
    have sf_cs := Safe.wr W4 sw B.2.1 sf_cs
    have B := B.wr W4 sw
    have V_cs := Arv.set Ar4 q4 Sz4 Nn4 Hs4 Ft4 (fits_nar_char _) W4 0 rfl (Nat.le_of_ble_eq_true rfl)
    rw [show nar .char d0 = d0 from oChr hd0] at V_cs
    replace V_cs : Arv Z h cs k1 .char (5 : Int32) [(.int d0), (.int (0 : Int32)), (.int (0 : Int32)), (.int (0 : Int32)), (.int (0 : Int32))] (.int (0 : Int32)) := V_cs
    refine oWk.st (fun _ kt => st _ (zD X hx hby at_31 rfl rfl rfl (zK X hx hby at_32 rfl (zI X hx hby at_33 rfl rfl kt)))) ?_
    have Oh := K.old O0 all0
    obtain ⟨_, T, hq, Lc6, X, e0, hQ, st⟩ := (cs25 hw).run X hx hZ hown e0 (A := [(.int p1)]) rfl (rDr l Z a0 hw [] p1 h Oh ) (W := 3) (by decide) hml (Ls := #[iv p0, iv p1, iv p2, iv p3, iv p4, iv p5, iv 1, iv pp, uu, uu, uu, uu, uu]) rfl (rest := [(.int (1 : Int32)), (.ref cs), (.ref cs)]) rfl rfl hby at_34
    obtain ⟨d1, rfl, e1, K5, hd5⟩ := hQ
    rw [e1] at e0 K5
    have K := K.call K5 all0
    have hd1 := hd5
    refine oWk.st (fun _ kt => st _ kt) ?_
    obtain ⟨cl7, Ar7, q7, Sz7, Nn7, Hs7, Ft7⟩ := id V_cs
    have hin7 : ¬ ((1 : Int32) < 0 ∨ cl7.slots.size ≤ ((1 : Int32)).toNatClampNeg) := inb_of Sz7 ⟨by decide, by decide⟩
    obtain ⟨T, h, X, e0, W7, st⟩ := stC X hx hZ e0 Ar7 (j := (1 : Int32)) hin7 (g := (mkF m 37 #[iv p0, iv p1, iv p2, iv p3, iv p4, iv p5, iv 1, iv pp, uu, uu, uu, uu, uu] [(.int d1), (.int 1), (.ref cs), (.ref cs)])) rfl rfl (hb hby at_37)
    have K := K.wr W7 (Or.inr ge_cs)
    have sw : Safe Z oEL _ _ cs := sf_cs
    have sf_cs := Safe.wr W7 sw B.2.1 sf_cs
    have B := B.wr W7 sw
    have V_cs := Arv.set Ar7 q7 Sz7 Nn7 Hs7 Ft7 (fits_nar_char _) W7 1 rfl (Nat.le_of_ble_eq_true rfl)
    rw [show nar .char d1 = d1 from oChr hd1] at V_cs
    replace V_cs : Arv Z h cs k1 .char (5 : Int32) [(.int d0), (.int d1), (.int (0 : Int32)), (.int (0 : Int32)), (.int (0 : Int32))] (.int (0 : Int32)) := V_cs
    refine oWk.st (fun _ kt => st _ (zD X hx hby at_38 rfl rfl rfl (zK X hx hby at_39 rfl (zI X hx hby at_40 rfl rfl kt)))) ?_
    have Oh := K.old O0 all0
    obtain ⟨_, T, hq, Lc9, X, e0, hQ, st⟩ := (cs25 hw).run X hx hZ hown e0 (A := [(.int p2)]) rfl (rDr l Z a0 hw [] p2 h Oh ) (W := 3) (by decide) hml (Ls := #[iv p0, iv p1, iv p2, iv p3, iv p4, iv p5, iv 1, iv pp, uu, uu, uu, uu, uu]) rfl (rest := [(.int (2 : Int32)), (.ref cs), (.ref cs)]) rfl rfl hby at_41
    obtain ⟨d2, rfl, e1, K8, hd8⟩ := hQ
    rw [e1] at e0 K8
    have K := K.call K8 all0
    have hd2 := hd8
    refine oWk.st (fun _ kt => st _ kt) ?_
    obtain ⟨cl10, Ar10, q10, Sz10, Nn10, Hs10, Ft10⟩ := id V_cs
    have hin10 : ¬ ((2 : Int32) < 0 ∨ cl10.slots.size ≤ ((2 : Int32)).toNatClampNeg) := inb_of Sz10 ⟨by decide, by decide⟩
    obtain ⟨T, h, X, e0, W10, st⟩ := stC X hx hZ e0 Ar10 (j := (2 : Int32)) hin10 (g := (mkF m 44 #[iv p0, iv p1, iv p2, iv p3, iv p4, iv p5, iv 1, iv pp, uu, uu, uu, uu, uu] [(.int d2), (.int 2), (.ref cs), (.ref cs)])) rfl rfl (hb hby at_44)
    have K := K.wr W10 (Or.inr ge_cs)
    have sw : Safe Z oEL _ _ cs := sf_cs
    have sf_cs := Safe.wr W10 sw B.2.1 sf_cs
    have B := B.wr W10 sw
    have V_cs := Arv.set Ar10 q10 Sz10 Nn10 Hs10 Ft10 (fits_nar_char _) W10 2 rfl (Nat.le_of_ble_eq_true rfl)
    rw [show nar .char d2 = d2 from oChr hd2] at V_cs
    replace V_cs : Arv Z h cs k1 .char (5 : Int32) [(.int d0), (.int d1), (.int d2), (.int (0 : Int32)), (.int (0 : Int32))] (.int (0 : Int32)) := V_cs
    refine oWk.st (fun _ kt => st _ (zD X hx hby at_45 rfl rfl rfl (zK X hx hby at_46 rfl (zI X hx hby at_47 rfl rfl kt)))) ?_
    have Oh := K.old O0 all0
    obtain ⟨_, T, hq, Lc12, X, e0, hQ, st⟩ := (cs25 hw).run X hx hZ hown e0 (A := [(.int p3)]) rfl (rDr l Z a0 hw [] p3 h Oh ) (W := 3) (by decide) hml (Ls := #[iv p0, iv p1, iv p2, iv p3, iv p4, iv p5, iv 1, iv pp, uu, uu, uu, uu, uu]) rfl (rest := [(.int (3 : Int32)), (.ref cs), (.ref cs)]) rfl rfl hby at_48
    obtain ⟨d3, rfl, e1, K11, hd11⟩ := hQ
    rw [e1] at e0 K11
    have K := K.call K11 all0
    have hd3 := hd11
    refine oWk.st (fun _ kt => st _ kt) ?_
    obtain ⟨cl13, Ar13, q13, Sz13, Nn13, Hs13, Ft13⟩ := id V_cs
    have hin13 : ¬ ((3 : Int32) < 0 ∨ cl13.slots.size ≤ ((3 : Int32)).toNatClampNeg) := inb_of Sz13 ⟨by decide, by decide⟩
    obtain ⟨T, h, X, e0, W13, st⟩ := stC X hx hZ e0 Ar13 (j := (3 : Int32)) hin13 (g := (mkF m 51 #[iv p0, iv p1, iv p2, iv p3, iv p4, iv p5, iv 1, iv pp, uu, uu, uu, uu, uu] [(.int d3), (.int 3), (.ref cs), (.ref cs)])) rfl rfl (hb hby at_51)
    have K := K.wr W13 (Or.inr ge_cs)
    have sw : Safe Z oEL _ _ cs := sf_cs
    have sf_cs := Safe.wr W13 sw B.2.1 sf_cs
    have B := B.wr W13 sw
    have V_cs := Arv.set Ar13 q13 Sz13 Nn13 Hs13 Ft13 (fits_nar_char _) W13 3 rfl (Nat.le_of_ble_eq_true rfl)
    rw [show nar .char d3 = d3 from oChr hd3] at V_cs
    replace V_cs : Arv Z h cs k1 .char (5 : Int32) [(.int d0), (.int d1), (.int d2), (.int d3), (.int (0 : Int32))] (.int (0 : Int32)) := V_cs
    refine oWk.st (fun _ kt => st _ (zD X hx hby at_52 rfl rfl rfl (zK X hx hby at_53 rfl (zJ X hx hby at_54 rfl rfl kt)))) ?_
    have Oh := K.old O0 all0
    obtain ⟨_, T, hq, Lc15, X, e0, hQ, st⟩ := (cs25 hw).run X hx hZ hown e0 (A := [(.int p4)]) rfl (rDr l Z a0 hw [] p4 h Oh ) (W := 3) (by decide) hml (Ls := #[iv p0, iv p1, iv p2, iv p3, iv p4, iv p5, iv 1, iv pp, uu, uu, uu, uu, uu]) rfl (rest := [(.int (4 : Int32)), (.ref cs), (.ref cs)]) rfl rfl hby at_56
    obtain ⟨d4, rfl, e1, K14, hd14⟩ := hQ
    rw [e1] at e0 K14
    have K := K.call K14 all0
    have hd4 := hd14
    refine oWk.st (fun _ kt => st _ kt) ?_
    obtain ⟨cl16, Ar16, q16, Sz16, Nn16, Hs16, Ft16⟩ := id V_cs
    have hin16 : ¬ ((4 : Int32) < 0 ∨ cl16.slots.size ≤ ((4 : Int32)).toNatClampNeg) := inb_of Sz16 ⟨by decide, by decide⟩
    obtain ⟨T, h, X, e0, W16, st⟩ := stC X hx hZ e0 Ar16 (j := (4 : Int32)) hin16 (g := (mkF m 59 #[iv p0, iv p1, iv p2, iv p3, iv p4, iv p5, iv 1, iv pp, uu, uu, uu, uu, uu] [(.int d4), (.int 4), (.ref cs), (.ref cs)])) rfl rfl (hb hby at_59)
    have K := K.wr W16 (Or.inr ge_cs)
    have sw : Safe Z oEL _ _ cs := sf_cs
    have sf_cs := Safe.wr W16 sw B.2.1 sf_cs
    have B := B.wr W16 sw
    have V_cs := Arv.set Ar16 q16 Sz16 Nn16 Hs16 Ft16 (fits_nar_char _) W16 4 rfl (Nat.le_of_ble_eq_true rfl)
    rw [show nar .char d4 = d4 from oChr hd4] at V_cs
    replace V_cs : Arv Z h cs k1 .char (5 : Int32) [(.int d0), (.int d1), (.int d2), (.int d3), (.int d4)] (.int (0 : Int32)) := V_cs
    refine oWk.to (mkF m 68 #[iv p0, iv p1, iv p2, iv p3, iv p4, iv p5, iv 1, iv pp, rv cs, uu, uu, uu, uu] [(.int 58), (.int pp), (.ref cs)]) (fun _ kt => st _ (zT X hx hby at_60 rfl rfl rfl (l' := #[iv p0, iv p1, iv p2, iv p3, iv p4, iv p5, iv 1, iv pp, rv cs, uu, uu, uu, uu]) rfl (zB X hx hby at_62 rfl rfl rfl (zJ X hx hby at_64 rfl rfl (zL X hx hby at_66 rfl kt))))) ?_
    obtain ⟨cl17, Ar17, q17, Sz17, Nn17, Hs17, Ft17⟩ := id V_cs
    have hin17 : ¬ (pp < 0 ∨ cl17.slots.size ≤ (pp).toNatClampNeg) := inb_of Sz17 (oIx (n := 1) hpp (by decide))
    obtain ⟨T, h, X, e0, W17, st⟩ := stC X hx hZ e0 Ar17 (j := pp) hin17 (g := (mkF m 68 #[iv p0, iv p1, iv p2, iv p3, iv p4, iv p5, iv 1, iv pp, rv cs, uu, uu, uu, uu] [(.int 58), (.int pp), (.ref cs)])) rfl rfl (hb hby at_68)
    refine oWk.st st ?_
    have K := K.wr W17 (Or.inr ge_cs)
    have sw : Safe Z oEL _ _ cs := sf_cs
    have sf_cs := Safe.wr W17 sw B.2.1 sf_cs
    have B := B.wr W17 sw
    have V_cs := Arv.set Ar17 q17 Sz17 Nn17 Hs17 Ft17 (fits_nar_char _) W17 (pp).toNatClampNeg rfl (oIxn (n := 1) hpp (by decide))
    obtain ⟨c0, c1, c2, c3, c4, hse, hr0, hr1, hr2, hr3, hr4, hex⟩ := oSet1 hd0 hd1 hd2 hd3 hd4 hpp
    rw [hse] at V_cs
    show oWk _ _ _ _ T (mkF m 69 #[iv p0, iv p1, iv p2, iv p3, iv p4, iv p5, iv 1, iv pp, rv cs, uu, uu, uu, uu] [])
    refine oWk.st (fun _ kt => zB X hx hby at_69 rfl rfl rfl (zJ X hx hby at_71 rfl rfl kt)) ?_
    have lt_cs := V_cs.lt
    have Oh := K.old O0 all0
    obtain ⟨_, T, h, Lc19, X, e0, hQ, st⟩ := (cs26 hw).run X hx hZ hown e0 (A := [(.ref cs), (.int (1 : Int32))]) rfl (rBd_1 l Z a0 hw [] cs k1 xz c0 c1 c2 c3 c4 h Oh S_COMPACT_STRINGS hz V_cs hr0) (W := 0) (by decide) hml (Ls := #[iv p0, iv p1, iv p2, iv p3, iv p4, iv p5, iv 1, iv pp, rv cs, uu, uu, uu, uu]) rfl (rest := []) rfl rfl hby at_73
    obtain ⟨so, sob, sobk, rfl, K18, gn_so, gn_sob, E_so, F_coder_so, F_value_so, V_sob⟩ := hQ
    have ge_so := Nat.le_trans K.le gn_so
    have ne_cs_so : cs ≠ so := Nat.ne_of_lt (Nat.lt_of_lt_of_le lt_cs gn_so)
    have ge_sob := Nat.le_trans K.le gn_sob
    have ne_cs_sob : cs ≠ sob := Nat.ne_of_lt (Nat.lt_of_lt_of_le lt_cs gn_sob)
    have K := K.call K18 all0
    have sf_cs := Safe.keep K18.1 sf0 B.2.1 sf_cs
    have B := B.keep K18.1 sf0
    refine oWk.to (mkF m 102 #[iv p0, iv p1, iv p2, iv p3, iv p4, iv p5, iv 1, iv pp, rv cs, rv so, uu, uu, uu] [(.int 3), (.int 1)]) (fun _ kt => st _ (zT X hx hby at_76 rfl rfl rfl (l' := #[iv p0, iv p1, iv p2, iv p3, iv p4, iv p5, iv 1, iv pp, rv cs, rv so, uu, uu, uu]) rfl (zJ X hx hby at_78 rfl rfl (zK X hx hby at_80 rfl (zY X hx hby at_81 rfl rfl (flt (by decide)).2.2.2 (pc' := 99) rfl (zJ X hx hby at_99 rfl rfl (zK X hx hby at_101 rfl kt))))))) ?_
    refine oWk.to (mkF m 162 #[iv p0, iv p1, iv p2, iv p3, iv p4, iv p5, iv 1, iv pp, rv cs, rv so, uu, uu, uu] []) (fun _ kt => zY X hx hby at_102 rfl rfl (flt (by decide)).2.2.2 (pc' := 120) rfl (zJ X hx hby at_120 rfl rfl (zK X hx hby at_122 rfl (zY X hx hby at_123 rfl rfl (flt (by decide)).2.2.2 (pc' := 141) rfl (zJ X hx hby at_141 rfl rfl (zK X hx hby at_143 rfl (zY X hx hby at_144 rfl rfl (flt (by decide)).2.2.2 (pc' := 162) rfl kt))))))) ?_
    refine oWk.st (fun _ kt => zK X hx hby at_162 rfl (zS X hx hby at_163 rfl rfl (l' := #[iv p0, iv p1, iv p2, iv p3, iv p4, iv p5, iv 1, iv pp, rv cs, rv so, iv 0, uu, uu]) rfl (zB X hx hby at_165 rfl rfl rfl kt))) ?_
    have Oh := K.old O0 all0
    have V_cs := (V_cs.keep K18.1 nin0)
    obtain ⟨_, _, ⟨T, L21, k21, n21⟩, -, X, hS, hgr, ⟨Lc21, hQ, l21, y21, z21, C⟩, st⟩ := callSS X hx (y := yy19) hown (mvT hZ (oW hw 38 rfl)) (mvT hZ (oW hw 39 rfl)) (mvT hZ (oW hw 40 rfl)) (mvT hZ (oW hw 41 rfl)) (by decide) (oBackH (W := 0) (rSP_1_0 l Z a0 hw [] so sob sobk xfm xz c0 h Oh S_COMPACT_STRINGS hz S_SIOOBE_FORMATTER hcat E_so F_coder_so F_value_so V_sob (oB58 hex)) hZ (oW hw 41 rfl) (oW hw 40 rfl) (by decide) (by decide) (oELw hw) B.2.1 all0) (g := (mkF m 167 #[iv p0, iv p1, iv p2, iv p3, iv p4, iv p5, iv 1, iv pp, rv cs, rv so, iv 0, uu, uu] [(.ref so)])) rfl (by rw [hml]; rfl) (argsL := [(.ref so)]) (rest := []) (lenOf pd_23 rfl) rfl (Nat.le_of_eq rfl) (hb hby at_167) (fun _ _ => ⟨rfl, e0, (by decide : 4 + 2 ≤ _), (by decide : 11 + 4 ≤ _)⟩)
    dsimp only [Pt.U, Pt.locs, Pt.cells, Pt.slots] at X l21 y21 z21 st hQ C hS hgr
    subst l21 y21 z21
    have X : Stand p l e _ (s.setVm T.vm) m _ below meth c T _ _ _ := X
    obtain ⟨h, e2⟩ : ∃ z, T.heap = z := ⟨_, rfl⟩
    have B := B.call e0 hS hgr C e2
    obtain ⟨hZ, hown⟩ := oWide hZ hown hS
    rw [e2] at hQ C
    have sf_cs := C.safe V_cs.lt sf_cs
    have e0 := e2
    obtain ⟨rs, rb, rk, rfl, K20, E_rs, F_coder_rs, F_value_rs, V_rb⟩ := hQ
    have K := K.call K20 all0
    refine oWk.st (fun _ kt => st.trans (zT X hx hby at_170 rfl rfl rfl (l' := #[iv p0, iv p1, iv p2, iv p3, iv p4, iv p5, iv 1, iv pp, rv cs, rv so, iv 0, rv rs, uu]) rfl (zB X hx hby at_172 rfl rfl rfl kt))) ?_
    have Oh := K.old O0 all0
    obtain ⟨T, L23, X, e0, K, st⟩ := (cs27 hw).pure X hx hZ hown e0 K (A := [(.ref rs)]) ⟨rfl, _, _, rfl, E_rs⟩ (rLn_0 l Z a0 hw [] rs rb rk xz h Oh S_COMPACT_STRINGS hz E_rs F_coder_rs F_value_rs V_rb) (fun _ _ _ q => q) (W := 0) (by decide) hml (Ls := #[iv p0, iv p1, iv p2, iv p3, iv p4, iv p5, iv 1, iv pp, rv cs, rv so, iv 0, rv rs, uu]) rfl (rest := []) rfl rfl hby at_174
    refine oWk.to (mkF m 208 #[iv p0, iv p1, iv p2, iv p3, iv p4, iv p5, iv 1, iv pp, rv cs, rv so, iv 0, rv rs, iv 1] []) (fun _ kt => st _ (zJ X hx hby at_177 rfl rfl (zY X hx hby at_179 rfl rfl (teq (by decide)).1 (pc' := 184) rfl (zK X hx hby at_184 rfl (zS X hx hby at_185 rfl rfl (l' := #[iv p0, iv p1, iv p2, iv p3, iv p4, iv p5, iv 1, iv pp, rv cs, rv so, iv 0, rv rs, iv 1]) rfl (zJ X hx hby at_187 rfl rfl (zF X hx hby at_189 rfl rfl ((if0 _ _).trans (flt (by decide)).2.2.2) (pc' := 208) rfl kt))))))) ?_
    refine oWk.to (mkF m 254 #[iv p0, iv p1, iv p2, iv p3, iv p4, iv p5, iv 1, iv pp, rv cs, rv so, iv 0, rv rs, iv 1] [(.int 0)]) (fun _ kt => zJ X hx hby at_208 rfl rfl (zK X hx hby at_210 rfl (zY X hx hby at_211 rfl rfl (flt (by decide)).2.2.2 (pc' := 230) rfl (zJ X hx hby at_230 rfl rfl (zK X hx hby at_232 rfl (zY X hx hby at_233 rfl rfl (flt (by decide)).2.2.2 (pc' := 252) rfl (zJ X hx hby at_252 rfl rfl kt))))))) ?_
    refine oWk.to (mkF m 276 #[iv p0, iv p1, iv p2, iv p3, iv p4, iv p5, iv 1, iv pp, rv cs, rv so, iv 0, rv rs, iv 1] [(.int 1)]) (fun _ kt => zK X hx hby at_254 rfl (zY X hx hby at_255 rfl rfl (flt (by decide)).2.2.2 (pc' := 274) rfl (zJ X hx hby at_274 rfl rfl kt))) ?_
    exact oRetH X hx hlk hZ (oELw hw) e0 B hret (oNar01 (Or.inr rfl)) (Or.inl ⟨rfl, Or.inr (Or.inl rfl), _, rfl⟩) (hb hby at_276) (by rw [e0]; exact ⟨rfl, K.fr⟩) (by decide) (by decide)
  · show oWk _ _ _ _ T (mkF m 11 #[iv p0, iv p1, iv p2, iv p3, iv p4, iv p5, iv 2, uu, uu, uu, uu, uu, uu] [])
    refine oWk.to (mkF m 19 #[iv p0, iv p1, iv p2, iv p3, iv p4, iv p5, iv 2, uu, uu, uu, uu, uu, uu] [(.int (((p5.toUInt32 >>> ((8 : Int32) &&& 31).toUInt32).toInt32) % (2 : Int32)))]) (fun _ kt => zJ X hx hby at_11 rfl rfl (zL X hx hby at_13 rfl (XS.iushr X.here hx rfl (hb hby at_15) rfl (zJ X hx hby at_16 rfl rfl (iremM X hx rfl (hb hby at_18) rfl (by decide) kt))))) ?_
    generalize hpe : (((p5.toUInt32 >>> ((8 : Int32) &&& 31).toUInt32).toInt32) % (2 : Int32)) = pp
    show oWk _ _ _ _ T (mkF m 19 #[iv p0, iv p1, iv p2, iv p3, iv p4, iv p5, iv 2, uu, uu, uu, uu, uu, uu] [(.int pp)])
    have hpp := oPr2 p5
    rw [hpe] at hpp
    refine oWk.st (fun _ kt => zS X hx hby at_19 rfl rfl (l' := #[iv p0, iv p1, iv p2, iv p3, iv p4, iv p5, iv 2, iv pp, uu, uu, uu, uu, uu]) rfl (zK X hx hby at_21 rfl kt)) ?_
    obtain ⟨cs, g24⟩ : ∃ z, z = h0.size := ⟨_, rfl⟩
    have ge_cs : h0.size ≤ cs := Nat.le_trans K.le (Nat.le_of_eq g24.symm)
    have sf_cs := B.new (Nat.le_of_eq g24.symm)
    obtain ⟨T, h, k24, X, e0, E24, A24, st⟩ := newP X hx hZ (oW hw 1 rfl) e0 (g := (mkF m 22 #[iv p0, iv p1, iv p2, iv p3, iv p4, iv p5, iv 2, iv pp, uu, uu, uu, uu, uu] [(.int 5)])) rfl (hb hby at_22) rfl (by decide) (cap := 5) (by decide) (by decide) (by decide) (by decide)
    rw [← g24] at A24 st
    have K := K.ext E24
    have sf_cs := Safe.ext E24 B.2.1 sf_cs
    have B := B.ext E24
    have V_cs : Arv Z h cs k24 .char (5 : Int32) [(.int (0 : Int32)), (.int (0 : Int32)), (.int (0 : Int32)), (.int (0 : Int32)), (.int (0 : Int32))] (.int (0 : Int32)) := (Arv.new A24 (by decide)).pad (pad_rep [] (.int (0 : Int32)) 5)
    refine oWk.st (fun _ kt => st _ (zD X hx hby at_24 rfl rfl rfl (zK X hx hby at_25 rfl (zI X hx hby at_26 rfl rfl kt)))) ?_
    have Oh := K.old O0 all0
    obtain ⟨_, T, hq, Lc26, X, e0, hQ, st⟩ := (cs25 hw).run X hx hZ hown e0 (A := [(.int p0)]) rfl (rDr l Z a0 hw [] p0 h Oh ) (W := 3) (by decide) hml (Ls := #[iv p0, iv p1, iv p2, iv p3, iv p4, iv p5, iv 2, iv pp, uu, uu, uu, uu, uu]) rfl (rest := [(.int (0 : Int32)), (.ref cs), (.ref cs)]) rfl rfl hby at_27
    obtain ⟨d0, rfl, e1, K25, hd25⟩ := hQ
    rw [e1] at e0 K25
    have K := K.call K25 all0
    have hd0 := hd25
    refine oWk.st (fun _ kt => st _ kt) ?_
    obtain ⟨cl27, Ar27, q27, Sz27, Nn27, Hs27, Ft27⟩ := id V_cs
    have hin27 : ¬ ((0 : Int32) < 0 ∨ cl27.slots.size ≤ ((0 : Int32)).toNatClampNeg) := inb_of Sz27 ⟨by decide, by decide⟩
    obtain ⟨T, h, X, e0, W27, st⟩ := stC X hx hZ e0 Ar27 (j := (0 : Int32)) hin27 (g := (mkF m 30 #[iv p0, iv p1, iv p2, iv p3, iv p4, iv p5, iv 2, iv pp, uu, uu, uu, uu, uu] [(.int d0), (.int 0), (.ref cs), (.ref cs)])) rfl rfl (hb hby at_30)
    have K := K.wr W27 (Or.inr ge_cs)
    have sw : Safe Z oEL _ _ cs := sf_cs
    have sf_cs := Safe.wr W27 sw B.2.1 sf_cs
    have B := B.wr W27 sw
    have V_cs := Arv.set Ar27 q27 Sz27 Nn27 Hs27 Ft27 (fits_nar_char _) W27 0 rfl (Nat.le_of_ble_eq_true rfl)
    rw [show nar .char d0 = d0 from oChr hd0] at V_cs
    replace V_cs : Arv Z h cs k24 .char (5 : Int32) [(.int d0), (.int (0 : Int32)), (.int (0 : Int32)), (.int (0 : Int32)), (.int (0 : Int32))] (.int (0 : Int32)) := V_cs
    refine oWk.st (fun _ kt => st _ (zD X hx hby at_31 rfl rfl rfl (zK X hx hby at_32 rfl (zI X hx hby at_33 rfl rfl kt)))) ?_
    have Oh := K.old O0 all0
    obtain ⟨_, T, hq, Lc29, X, e0, hQ, st⟩ := (cs25 hw).run X hx hZ hown e0 (A := [(.int p1)]) rfl (rDr l Z a0 hw [] p1 h Oh ) (W := 3) (by decide) hml (Ls := #[iv p0, iv p1, iv p2, iv p3, iv p4, iv p5, iv 2, iv pp, uu, uu, uu, uu, uu]) rfl (rest := [(.int (1 : Int32)), (.ref cs), (.ref cs)]) rfl rfl hby at_34
    obtain ⟨d1, rfl, e1, K28, hd28⟩ := hQ
    rw [e1] at e0 K28
    have K := K.call K28 all0
    have hd1 := hd28
    refine oWk.st (fun _ kt => st _ kt) ?_
    obtain ⟨cl30, Ar30, q30, Sz30, Nn30, Hs30, Ft30⟩ := id V_cs
    have hin30 : ¬ ((1 : Int32) < 0 ∨ cl30.slots.size ≤ ((1 : Int32)).toNatClampNeg) := inb_of Sz30 ⟨by decide, by decide⟩
    obtain ⟨T, h, X, e0, W30, st⟩ := stC X hx hZ e0 Ar30 (j := (1 : Int32)) hin30 (g := (mkF m 37 #[iv p0, iv p1, iv p2, iv p3, iv p4, iv p5, iv 2, iv pp, uu, uu, uu, uu, uu] [(.int d1), (.int 1), (.ref cs), (.ref cs)])) rfl rfl (hb hby at_37)
    have K := K.wr W30 (Or.inr ge_cs)
    have sw : Safe Z oEL _ _ cs := sf_cs
    have sf_cs := Safe.wr W30 sw B.2.1 sf_cs
    have B := B.wr W30 sw
    have V_cs := Arv.set Ar30 q30 Sz30 Nn30 Hs30 Ft30 (fits_nar_char _) W30 1 rfl (Nat.le_of_ble_eq_true rfl)
    rw [show nar .char d1 = d1 from oChr hd1] at V_cs
    replace V_cs : Arv Z h cs k24 .char (5 : Int32) [(.int d0), (.int d1), (.int (0 : Int32)), (.int (0 : Int32)), (.int (0 : Int32))] (.int (0 : Int32)) := V_cs
    refine oWk.st (fun _ kt => st _ (zD X hx hby at_38 rfl rfl rfl (zK X hx hby at_39 rfl (zI X hx hby at_40 rfl rfl kt)))) ?_
    have Oh := K.old O0 all0
    obtain ⟨_, T, hq, Lc32, X, e0, hQ, st⟩ := (cs25 hw).run X hx hZ hown e0 (A := [(.int p2)]) rfl (rDr l Z a0 hw [] p2 h Oh ) (W := 3) (by decide) hml (Ls := #[iv p0, iv p1, iv p2, iv p3, iv p4, iv p5, iv 2, iv pp, uu, uu, uu, uu, uu]) rfl (rest := [(.int (2 : Int32)), (.ref cs), (.ref cs)]) rfl rfl hby at_41
    obtain ⟨d2, rfl, e1, K31, hd31⟩ := hQ
    rw [e1] at e0 K31
    have K := K.call K31 all0
    have hd2 := hd31
    refine oWk.st (fun _ kt => st _ kt) ?_
    obtain ⟨cl33, Ar33, q33, Sz33, Nn33, Hs33, Ft33⟩ := id V_cs
    have hin33 : ¬ ((2 : Int32) < 0 ∨ cl33.slots.size ≤ ((2 : Int32)).toNatClampNeg) := inb_of Sz33 ⟨by decide, by decide⟩
    obtain ⟨T, h, X, e0, W33, st⟩ := stC X hx hZ e0 Ar33 (j := (2 : Int32)) hin33 (g := (mkF m 44 #[iv p0, iv p1, iv p2, iv p3, iv p4, iv p5, iv 2, iv pp, uu, uu, uu, uu, uu] [(.int d2), (.int 2), (.ref cs), (.ref cs)])) rfl rfl (hb hby at_44)
    have K := K.wr W33 (Or.inr ge_cs)
    have sw : Safe Z oEL _ _ cs := sf_cs
    have sf_cs := Safe.wr W33 sw B.2.1 sf_cs
    have B := B.wr W33 sw
    have V_cs := Arv.set Ar33 q33 Sz33 Nn33 Hs33 Ft33 (fits_nar_char _) W33 2 rfl (Nat.le_of_ble_eq_true rfl)
    rw [show nar .char d2 = d2 from oChr hd2] at V_cs
    replace V_cs : Arv Z h cs k24 .char (5 : Int32) [(.int d0), (.int d1), (.int d2), (.int (0 : Int32)), (.int (0 : Int32))] (.int (0 : Int32)) := V_cs
    refine oWk.st (fun _ kt => st _ (zD X hx hby at_45 rfl rfl rfl (zK X hx hby at_46 rfl (zI X hx hby at_47 rfl rfl kt)))) ?_
    have Oh := K.old O0 all0
    obtain ⟨_, T, hq, Lc35, X, e0, hQ, st⟩ := (cs25 hw).run X hx hZ hown e0 (A := [(.int p3)]) rfl (rDr l Z a0 hw [] p3 h Oh ) (W := 3) (by decide) hml (Ls := #[iv p0, iv p1, iv p2, iv p3, iv p4, iv p5, iv 2, iv pp, uu, uu, uu, uu, uu]) rfl (rest := [(.int (3 : Int32)), (.ref cs), (.ref cs)]) rfl rfl hby at_48
    obtain ⟨d3, rfl, e1, K34, hd34⟩ := hQ
    rw [e1] at e0 K34
    have K := K.call K34 all0
    have hd3 := hd34
    refine oWk.st (fun _ kt => st _ kt) ?_
    obtain ⟨cl36, Ar36, q36, Sz36, Nn36, Hs36, Ft36⟩ := id V_cs
    have hin36 : ¬ ((3 : Int32) < 0 ∨ cl36.slots.size ≤ ((3 : Int32)).toNatClampNeg) := inb_of Sz36 ⟨by decide, by decide⟩
    obtain ⟨T, h, X, e0, W36, st⟩ := stC X hx hZ e0 Ar36 (j := (3 : Int32)) hin36 (g := (mkF m 51 #[iv p0, iv p1, iv p2, iv p3, iv p4, iv p5, iv 2, iv pp, uu, uu, uu, uu, uu] [(.int d3), (.int 3), (.ref cs), (.ref cs)])) rfl rfl (hb hby at_51)
    have K := K.wr W36 (Or.inr ge_cs)
    have sw : Safe Z oEL _ _ cs := sf_cs
    have sf_cs := Safe.wr W36 sw B.2.1 sf_cs
    have B := B.wr W36 sw
    have V_cs := Arv.set Ar36 q36 Sz36 Nn36 Hs36 Ft36 (fits_nar_char _) W36 3 rfl (Nat.le_of_ble_eq_true rfl)
    rw [show nar .char d3 = d3 from oChr hd3] at V_cs
    replace V_cs : Arv Z h cs k24 .char (5 : Int32) [(.int d0), (.int d1), (.int d2), (.int d3), (.int (0 : Int32))] (.int (0 : Int32)) := V_cs
    refine oWk.st (fun _ kt => st _ (zD X hx hby at_52 rfl rfl rfl (zK X hx hby at_53 rfl (zJ X hx hby at_54 rfl rfl kt)))) ?_
    have Oh := K.old O0 all0
    obtain ⟨_, T, hq, Lc38, X, e0, hQ, st⟩ := (cs25 hw).run X hx hZ hown e0 (A := [(.int p4)]) rfl (rDr l Z a0 hw [] p4 h Oh ) (W := 3) (by decide) hml (Ls := #[iv p0, iv p1, iv p2, iv p3, iv p4, iv p5, iv 2, iv pp, uu, uu, uu, uu, uu]) rfl (rest := [(.int (4 : Int32)), (.ref cs), (.ref cs)]) rfl rfl hby at_56
    obtain ⟨d4, rfl, e1, K37, hd37⟩ := hQ
    rw [e1] at e0 K37
    have K := K.call K37 all0
    have hd4 := hd37
    refine oWk.st (fun _ kt => st _ kt) ?_
    obtain ⟨cl39, Ar39, q39, Sz39, Nn39, Hs39, Ft39⟩ := id V_cs
    have hin39 : ¬ ((4 : Int32) < 0 ∨ cl39.slots.size ≤ ((4 : Int32)).toNatClampNeg) := inb_of Sz39 ⟨by decide, by decide⟩
    obtain ⟨T, h, X, e0, W39, st⟩ := stC X hx hZ e0 Ar39 (j := (4 : Int32)) hin39 (g := (mkF m 59 #[iv p0, iv p1, iv p2, iv p3, iv p4, iv p5, iv 2, iv pp, uu, uu, uu, uu, uu] [(.int d4), (.int 4), (.ref cs), (.ref cs)])) rfl rfl (hb hby at_59)
    have K := K.wr W39 (Or.inr ge_cs)
    have sw : Safe Z oEL _ _ cs := sf_cs
    have sf_cs := Safe.wr W39 sw B.2.1 sf_cs
    have B := B.wr W39 sw
    have V_cs := Arv.set Ar39 q39 Sz39 Nn39 Hs39 Ft39 (fits_nar_char _) W39 4 rfl (Nat.le_of_ble_eq_true rfl)
    rw [show nar .char d4 = d4 from oChr hd4] at V_cs
    replace V_cs : Arv Z h cs k24 .char (5 : Int32) [(.int d0), (.int d1), (.int d2), (.int d3), (.int d4)] (.int (0 : Int32)) := V_cs
    refine oWk.to (mkF m 68 #[iv p0, iv p1, iv p2, iv p3, iv p4, iv p5, iv 2, iv pp, rv cs, uu, uu, uu, uu] [(.int 58), (.int pp), (.ref cs)]) (fun _ kt => st _ (zT X hx hby at_60 rfl rfl rfl (l' := #[iv p0, iv p1, iv p2, iv p3, iv p4, iv p5, iv 2, iv pp, rv cs, uu, uu, uu, uu]) rfl (zB X hx hby at_62 rfl rfl rfl (zJ X hx hby at_64 rfl rfl (zL X hx hby at_66 rfl kt))))) ?_
    obtain ⟨cl40, Ar40, q40, Sz40, Nn40, Hs40, Ft40⟩ := id V_cs
    have hin40 : ¬ (pp < 0 ∨ cl40.slots.size ≤ (pp).toNatClampNeg) := inb_of Sz40 (oIx (n := 2) hpp (by decide))
    obtain ⟨T, h, X, e0, W40, st⟩ := stC X hx hZ e0 Ar40 (j := pp) hin40 (g := (mkF m 68 #[iv p0, iv p1, iv p2, iv p3, iv p4, iv p5, iv 2, iv pp, rv cs, uu, uu, uu, uu] [(.int 58), (.int pp), (.ref cs)])) rfl rfl (hb hby at_68)
    refine oWk.st st ?_
    have K := K.wr W40 (Or.inr ge_cs)
    have sw : Safe Z oEL _ _ cs := sf_cs
    have sf_cs := Safe.wr W40 sw B.2.1 sf_cs
    have B := B.wr W40 sw
    have V_cs := Arv.set Ar40 q40 Sz40 Nn40 Hs40 Ft40 (fits_nar_char _) W40 (pp).toNatClampNeg rfl (oIxn (n := 2) hpp (by decide))
    obtain ⟨c0, c1, c2, c3, c4, hse, hr0, hr1, hr2, hr3, hr4, hex⟩ := oSet2 hd0 hd1 hd2 hd3 hd4 hpp
    rw [hse] at V_cs
    show oWk _ _ _ _ T (mkF m 69 #[iv p0, iv p1, iv p2, iv p3, iv p4, iv p5, iv 2, iv pp, rv cs, uu, uu, uu, uu] [])
    refine oWk.st (fun _ kt => zB X hx hby at_69 rfl rfl rfl (zJ X hx hby at_71 rfl rfl kt)) ?_
    have lt_cs := V_cs.lt
    have Oh := K.old O0 all0
    obtain ⟨_, T, h, Lc42, X, e0, hQ, st⟩ := (cs26 hw).run X hx hZ hown e0 (A := [(.ref cs), (.int (2 : Int32))]) rfl (rBd_2 l Z a0 hw [] cs k24 xz c0 c1 c2 c3 c4 h Oh S_COMPACT_STRINGS hz V_cs hr0 hr1) (W := 0) (by decide) hml (Ls := #[iv p0, iv p1, iv p2, iv p3, iv p4, iv p5, iv 2, iv pp, rv cs, uu, uu, uu, uu]) rfl (rest := []) rfl rfl hby at_73
    obtain ⟨so, sob, sobk, rfl, K41, gn_so, gn_sob, E_so, F_coder_so, F_value_so, V_sob⟩ := hQ
    have ge_so := Nat.le_trans K.le gn_so
    have ne_cs_so : cs ≠ so := Nat.ne_of_lt (Nat.lt_of_lt_of_le lt_cs gn_so)
    have ge_sob := Nat.le_trans K.le gn_sob
    have ne_cs_sob : cs ≠ sob := Nat.ne_of_lt (Nat.lt_of_lt_of_le lt_cs gn_sob)
    have K := K.call K41 all0
    have sf_cs := Safe.keep K41.1 sf0 B.2.1 sf_cs
    have B := B.keep K41.1 sf0
    refine oWk.to (mkF m 102 #[iv p0, iv p1, iv p2, iv p3, iv p4, iv p5, iv 2, iv pp, rv cs, rv so, uu, uu, uu] [(.int 3), (.int 2)]) (fun _ kt => st _ (zT X hx hby at_76 rfl rfl rfl (l' := #[iv p0, iv p1, iv p2, iv p3, iv p4, iv p5, iv 2, iv pp, rv cs, rv so, uu, uu, uu]) rfl (zJ X hx hby at_78 rfl rfl (zK X hx hby at_80 rfl (zY X hx hby at_81 rfl rfl (flt (by decide)).2.2.2 (pc' := 99) rfl (zJ X hx hby at_99 rfl rfl (zK X hx hby at_101 rfl kt))))))) ?_
    refine oWk.to (mkF m 147 #[iv p0, iv p1, iv p2, iv p3, iv p4, iv p5, iv 2, iv pp, rv cs, rv so, uu, uu, uu] []) (fun _ kt => zY X hx hby at_102 rfl rfl (flt (by decide)).2.2.2 (pc' := 120) rfl (zJ X hx hby at_120 rfl rfl (zK X hx hby at_122 rfl (zY X hx hby at_123 rfl rfl (flt (by decide)).2.2.2 (pc' := 141) rfl (zJ X hx hby at_141 rfl rfl (zK X hx hby at_143 rfl (zN X hx hby at_144 rfl rfl (tlt (by decide)).2.2.2 kt))))))) ?_
    refine oWk.st (fun _ kt => zB X hx hby at_147 rfl rfl rfl (zK X hx hby at_149 rfl kt)) ?_
    have V_cs := (V_cs.keep K41.1 nin0)
    refine oWk.to (mkF m 153 #[iv p0, iv p1, iv p2, iv p3, iv p4, iv p5, iv 2, iv pp, rv cs, rv so, uu, uu, uu] [(.int 58), (.int c1)]) (fun _ kt => oLdC X hx hZ e0 V_cs (1 : Int32) (.int c1) ⟨by decide, by decide⟩ rfl hby at_150 rfl rfl (zL X hx hby at_151 rfl kt)) ?_
    by_cases hc153 : c1 = (58 : Int32)
    · refine oWk.to (mkF m 156 #[iv p0, iv p1, iv p2, iv p3, iv p4, iv p5, iv 2, iv pp, rv cs, rv so, uu, uu, uu] []) (fun _ kt => zN X hx hby at_153 rfl rfl (teq hc153).2 kt) ?_
      refine oWk.st (fun _ kt => zK X hx hby at_156 rfl (zS X hx hby at_157 rfl rfl (l' := #[iv p0, iv p1, iv p2, iv p3, iv p4, iv p5, iv 2, iv pp, rv cs, rv so, iv 1, uu, uu]) rfl (zG X hx hby at_159 rfl (pc' := 165) rfl (zB X hx hby at_165 rfl rfl rfl kt)))) ?_
      have lt_cs := V_cs.lt
      have lt_so := E_so.lt
      have lt_sob := V_sob.lt
      have Oh := K.old O0 all0
      obtain ⟨_, T, h, Lc45, X, e0, hQ, st⟩ := (cs28 hw).run X hx hZ hown e0 (A := [(.ref so)]) rfl (rSP_2_1 l Z a0 hw [] so sob sobk xfm xz c0 c1 h Oh S_COMPACT_STRINGS hz S_SIOOBE_FORMATTER hcat E_so F_coder_so F_value_so V_sob (oB58 hc153)) (W := 0) (by decide) hml (Ls := #[iv p0, iv p1, iv p2, iv p3, iv p4, iv p5, iv 2, iv pp, rv cs, rv so, iv 1, uu, uu]) rfl (rest := []) rfl rfl hby at_167
      obtain ⟨rs, rb, rk, rfl, K44, gn_rs, gn_rb, E_rs, F_coder_rs, F_value_rs, V_rb⟩ := hQ
      have ge_rs := Nat.le_trans K.le gn_rs
      have ne_cs_rs : cs ≠ rs := Nat.ne_of_lt (Nat.lt_of_lt_of_le lt_cs gn_rs)
      have ne_so_rs : so ≠ rs := Nat.ne_of_lt (Nat.lt_of_lt_of_le lt_so gn_rs)
      have ne_sob_rs : sob ≠ rs := Nat.ne_of_lt (Nat.lt_of_lt_of_le lt_sob gn_rs)
      have ge_rb := Nat.le_trans K.le gn_rb
      have ne_cs_rb : cs ≠ rb := Nat.ne_of_lt (Nat.lt_of_lt_of_le lt_cs gn_rb)
      have ne_so_rb : so ≠ rb := Nat.ne_of_lt (Nat.lt_of_lt_of_le lt_so gn_rb)
      have ne_sob_rb : sob ≠ rb := Nat.ne_of_lt (Nat.lt_of_lt_of_le lt_sob gn_rb)
      have K := K.call K44 all0
      have sf_cs := Safe.keep K44.1 sf0 B.2.1 sf_cs
      have B := B.keep K44.1 sf0
      refine oWk.st (fun _ kt => st _ (zT X hx hby at_170 rfl rfl rfl (l' := #[iv p0, iv p1, iv p2, iv p3, iv p4, iv p5, iv 2, iv pp, rv cs, rv so, iv 1, rv rs, uu]) rfl (zB X hx hby at_172 rfl rfl rfl kt))) ?_
      have Oh := K.old O0 all0
      obtain ⟨T, L47, X, e0, K, st⟩ := (cs27 hw).pure X hx hZ hown e0 K (A := [(.ref rs)]) ⟨rfl, _, _, rfl, E_rs⟩ (rLn_1 l Z a0 hw [] rs rb rk xz c0 h Oh S_COMPACT_STRINGS hz E_rs F_coder_rs F_value_rs V_rb) (fun _ _ _ q => q) (W := 0) (by decide) hml (Ls := #[iv p0, iv p1, iv p2, iv p3, iv p4, iv p5, iv 2, iv pp, rv cs, rv so, iv 1, rv rs, uu]) rfl (rest := []) rfl rfl hby at_174
      refine oWk.to (mkF m 192 #[iv p0, iv p1, iv p2, iv p3, iv p4, iv p5, iv 2, iv pp, rv cs, rv so, iv 1, rv rs, iv 1] []) (fun _ kt => st _ (zJ X hx hby at_177 rfl rfl (zY X hx hby at_179 rfl rfl (teq (by decide)).1 (pc' := 184) rfl (zK X hx hby at_184 rfl (zS X hx hby at_185 rfl rfl (l' := #[iv p0, iv p1, iv p2, iv p3, iv p4, iv p5, iv 2, iv pp, rv cs, rv so, iv 1, rv rs, iv 1]) rfl (zJ X hx hby at_187 rfl rfl (zH X hx hby at_189 rfl rfl ((if0 _ _).trans (tlt (by decide)).2.2.2) kt))))))) ?_
      refine oWk.st (fun _ kt => zB X hx hby at_192 rfl rfl rfl (zK X hx hby at_194 rfl kt)) ?_
      obtain ⟨T, L49, X, e0, K, st⟩ := (cs29 hw).pure X hx hZ hown e0 K (A := [(.ref rs), (.int (0 : Int32))]) ⟨rfl, _, _, rfl, E_rs⟩ (rCA_1_0 l Z a0 hw [] rs rb rk xfm xz c0 h Oh S_COMPACT_STRINGS hz S_SIOOBE_FORMATTER hcat hr0 E_rs F_coder_rs F_value_rs V_rb) (fun _ _ _ q => q) (W := 0) (by decide) hml (Ls := #[iv p0, iv p1, iv p2, iv p3, iv p4, iv p5, iv 2, iv pp, rv cs, rv so, iv 1, rv rs, iv 1]) rfl (rest := []) rfl rfl hby at_195
      refine oWk.st (fun _ kt => st _ (zB X hx hby at_198 rfl rfl rfl (zK X hx hby at_200 rfl kt))) ?_
      have V_cs := (V_cs.keep K44.1 nin0)
      refine oWk.to (mkF m 233 #[iv p0, iv p1, iv p2, iv p3, iv p4, iv p5, iv 2, iv pp, rv cs, rv so, iv 1, rv rs, iv 1] [(.int 2), (.int 1)]) (fun _ kt => oLdC X hx hZ e0 V_cs (0 : Int32) (.int c0) ⟨by decide, by decide⟩ rfl hby at_201 rfl rfl (zY X hx hby at_202 rfl rfl (teq rfl).1 (pc' := 208) rfl (zJ X hx hby at_208 rfl rfl (zK X hx hby at_210 rfl (zY X hx hby at_211 rfl rfl (flt (by decide)).2.2.2 (pc' := 230) rfl (zJ X hx hby at_230 rfl rfl (zK X hx hby at_232 rfl kt))))))) ?_
      refine oWk.to (mkF m 276 #[iv p0, iv p1, iv p2, iv p3, iv p4, iv p5, iv 2, iv pp, rv cs, rv so, iv 1, rv rs, iv 1] [(.int 1)]) (fun _ kt => zY X hx hby at_233 rfl rfl (flt (by decide)).2.2.2 (pc' := 252) rfl (zJ X hx hby at_252 rfl rfl (zK X hx hby at_254 rfl (zY X hx hby at_255 rfl rfl (flt (by decide)).2.2.2 (pc' := 274) rfl (zJ X hx hby at_274 rfl rfl kt))))) ?_
      exact oRetH X hx hlk hZ (oELw hw) e0 B hret (oNar01 (Or.inr rfl)) (Or.inl ⟨rfl, Or.inr (Or.inl rfl), _, rfl⟩) (hb hby at_276) (by rw [e0]; exact ⟨rfl, K.fr⟩) (by decide) (by decide)
    · refine oWk.to (mkF m 162 #[iv p0, iv p1, iv p2, iv p3, iv p4, iv p5, iv 2, iv pp, rv cs, rv so, uu, uu, uu] []) (fun _ kt => zY X hx hby at_153 rfl rfl (feq hc153).2 (pc' := 162) rfl kt) ?_
      refine oWk.st (fun _ kt => zK X hx hby at_162 rfl (zS X hx hby at_163 rfl rfl (l' := #[iv p0, iv p1, iv p2, iv p3, iv p4, iv p5, iv 2, iv pp, rv cs, rv so, iv 0, uu, uu]) rfl (zB X hx hby at_165 rfl rfl rfl kt))) ?_
      have Oh := K.old O0 all0
      obtain ⟨_, _, ⟨T, L52, k52, n52⟩, -, X, hS, hgr, ⟨Lc52, hQ, l52, y52, z52, C⟩, st⟩ := callSS X hx (y := yy19) hown (mvT hZ (oW hw 38 rfl)) (mvT hZ (oW hw 39 rfl)) (mvT hZ (oW hw 40 rfl)) (mvT hZ (oW hw 41 rfl)) (by decide) (oBackH (W := 0) (rSP_2_0 l Z a0 hw [] so sob sobk xfm xz c0 c1 h Oh S_COMPACT_STRINGS hz S_SIOOBE_FORMATTER hcat E_so F_coder_so F_value_so V_sob (oB58 (hex.resolve_right (fun z => hc153 z))) (oBn58 hr1 hc153)) hZ (oW hw 41 rfl) (oW hw 40 rfl) (by decide) (by decide) (oELw hw) B.2.1 all0) (g := (mkF m 167 #[iv p0, iv p1, iv p2, iv p3, iv p4, iv p5, iv 2, iv pp, rv cs, rv so, iv 0, uu, uu] [(.ref so)])) rfl (by rw [hml]; rfl) (argsL := [(.ref so)]) (rest := []) (lenOf pd_23 rfl) rfl (Nat.le_of_eq rfl) (hb hby at_167) (fun _ _ => ⟨rfl, e0, (by decide : 4 + 2 ≤ _), (by decide : 13 + 4 ≤ _)⟩)
      dsimp only [Pt.U, Pt.locs, Pt.cells, Pt.slots] at X l52 y52 z52 st hQ C hS hgr
      subst l52 y52 z52
      have X : Stand p l e _ (s.setVm T.vm) m _ below meth c T _ _ _ := X
      obtain ⟨h, e2⟩ : ∃ z, T.heap = z := ⟨_, rfl⟩
      have B := B.call e0 hS hgr C e2
      obtain ⟨hZ, hown⟩ := oWide hZ hown hS
      rw [e2] at hQ C
      have sf_cs := C.safe V_cs.lt sf_cs
      have e0 := e2
      obtain ⟨rs, rb, rk, rfl, K51, E_rs, F_coder_rs, F_value_rs, V_rb⟩ := hQ
      have K := K.call K51 all0
      refine oWk.st (fun _ kt => st.trans (zT X hx hby at_170 rfl rfl rfl (l' := #[iv p0, iv p1, iv p2, iv p3, iv p4, iv p5, iv 2, iv pp, rv cs, rv so, iv 0, rv rs, uu]) rfl (zB X hx hby at_172 rfl rfl rfl kt))) ?_
      have Oh := K.old O0 all0
      obtain ⟨T, L54, X, e0, K, st⟩ := (cs27 hw).pure X hx hZ hown e0 K (A := [(.ref rs)]) ⟨rfl, _, _, rfl, E_rs⟩ (rLn_0 l Z a0 hw [] rs rb rk xz h Oh S_COMPACT_STRINGS hz E_rs F_coder_rs F_value_rs V_rb) (fun _ _ _ q => q) (W := 0) (by decide) hml (Ls := #[iv p0, iv p1, iv p2, iv p3, iv p4, iv p5, iv 2, iv pp, rv cs, rv so, iv 0, rv rs, uu]) rfl (rest := []) rfl rfl hby at_174
      refine oWk.to (mkF m 208 #[iv p0, iv p1, iv p2, iv p3, iv p4, iv p5, iv 2, iv pp, rv cs, rv so, iv 0, rv rs, iv 1] []) (fun _ kt => st _ (zJ X hx hby at_177 rfl rfl (zY X hx hby at_179 rfl rfl (teq (by decide)).1 (pc' := 184) rfl (zK X hx hby at_184 rfl (zS X hx hby at_185 rfl rfl (l' := #[iv p0, iv p1, iv p2, iv p3, iv p4, iv p5, iv 2, iv pp, rv cs, rv so, iv 0, rv rs, iv 1]) rfl (zJ X hx hby at_187 rfl rfl (zF X hx hby at_189 rfl rfl ((if0 _ _).trans (flt (by decide)).2.2.2) (pc' := 208) rfl kt))))))) ?_
      refine oWk.to (mkF m 254 #[iv p0, iv p1, iv p2, iv p3, iv p4, iv p5, iv 2, iv pp, rv cs, rv so, iv 0, rv rs, iv 1] [(.int 0)]) (fun _ kt => zJ X hx hby at_208 rfl rfl (zK X hx hby at_210 rfl (zY X hx hby at_211 rfl rfl (flt (by decide)).2.2.2 (pc' := 230) rfl (zJ X hx hby at_230 rfl rfl (zK X hx hby at_232 rfl (zY X hx hby at_233 rfl rfl (flt (by decide)).2.2.2 (pc' := 252) rfl (zJ X hx hby at_252 rfl rfl kt))))))) ?_
      refine oWk.to (mkF m 276 #[iv p0, iv p1, iv p2, iv p3, iv p4, iv p5, iv 2, iv pp, rv cs, rv so, iv 0, rv rs, iv 1] [(.int 1)]) (fun _ kt => zK X hx hby at_254 rfl (zY X hx hby at_255 rfl rfl (flt (by decide)).2.2.2 (pc' := 274) rfl (zJ X hx hby at_274 rfl rfl kt))) ?_
      exact oRetH X hx hlk hZ (oELw hw) e0 B hret (oNar01 (Or.inr rfl)) (Or.inl ⟨rfl, Or.inr (Or.inl rfl), _, rfl⟩) (hb hby at_276) (by rw [e0]; exact ⟨rfl, K.fr⟩) (by decide) (by decide)
  · show oWk _ _ _ _ T (mkF m 11 #[iv p0, iv p1, iv p2, iv p3, iv p4, iv p5, iv 3, uu, uu, uu, uu, uu, uu] [])
    refine oWk.to (mkF m 19 #[iv p0, iv p1, iv p2, iv p3, iv p4, iv p5, iv 3, uu, uu, uu, uu, uu, uu] [(.int (((p5.toUInt32 >>> ((8 : Int32) &&& 31).toUInt32).toInt32) % (3 : Int32)))]) (fun _ kt => zJ X hx hby at_11 rfl rfl (zL X hx hby at_13 rfl (XS.iushr X.here hx rfl (hb hby at_15) rfl (zJ X hx hby at_16 rfl rfl (iremM X hx rfl (hb hby at_18) rfl (by decide) kt))))) ?_
    generalize hpe : (((p5.toUInt32 >>> ((8 : Int32) &&& 31).toUInt32).toInt32) % (3 : Int32)) = pp
    show oWk _ _ _ _ T (mkF m 19 #[iv p0, iv p1, iv p2, iv p3, iv p4, iv p5, iv 3, uu, uu, uu, uu, uu, uu] [(.int pp)])
    have hpp := oPr3 p5
    rw [hpe] at hpp
    refine oWk.st (fun _ kt => zS X hx hby at_19 rfl rfl (l' := #[iv p0, iv p1, iv p2, iv p3, iv p4, iv p5, iv 3, iv pp, uu, uu, uu, uu, uu]) rfl (zK X hx hby at_21 rfl kt)) ?_
    obtain ⟨cs, g55⟩ : ∃ z, z = h0.size := ⟨_, rfl⟩
    have ge_cs : h0.size ≤ cs := Nat.le_trans K.le (Nat.le_of_eq g55.symm)
    have sf_cs := B.new (Nat.le_of_eq g55.symm)
    obtain ⟨T, h, k55, X, e0, E55, A55, st⟩ := newP X hx hZ (oW hw 1 rfl) e0 (g := (mkF m 22 #[iv p0, iv p1, iv p2, iv p3, iv p4, iv p5, iv 3, iv pp, uu, uu, uu, uu, uu] [(.int 5)])) rfl (hb hby at_22) rfl (by decide) (cap := 5) (by decide) (by decide) (by decide) (by decide)
    rw [← g55] at A55 st
    have K := K.ext E55
    have sf_cs := Safe.ext E55 B.2.1 sf_cs
    have B := B.ext E55
    have V_cs : Arv Z h cs k55 .char (5 : Int32) [(.int (0 : Int32)), (.int (0 : Int32)), (.int (0 : Int32)), (.int (0 : Int32)), (.int (0 : Int32))] (.int (0 : Int32)) := (Arv.new A55 (by decide)).pad (pad_rep [] (.int (0 : Int32)) 5)
    refine oWk.st (fun _ kt => st _ (zD X hx hby at_24 rfl rfl rfl (zK X hx hby at_25 rfl (zI X hx hby at_26 rfl rfl kt)))) ?_
    have Oh := K.old O0 all0
    obtain ⟨_, T, hq, Lc57, X, e0, hQ, st⟩ := (cs25 hw).run X hx hZ hown e0 (A := [(.int p0)]) rfl (rDr l Z a0 hw [] p0 h Oh ) (W := 3) (by decide) hml (Ls := #[iv p0, iv p1, iv p2, iv p3, iv p4, iv p5, iv 3, iv pp, uu, uu, uu, uu, uu]) rfl (rest := [(.int (0 : Int32)), (.ref cs), (.ref cs)]) rfl rfl hby at_27
    obtain ⟨d0, rfl, e1, K56, hd56⟩ := hQ
    rw [e1] at e0 K56
    have K := K.call K56 all0
    have hd0 := hd56
    refine oWk.st (fun _ kt => st _ kt) ?_
    obtain ⟨cl58, Ar58, q58, Sz58, Nn58, Hs58, Ft58⟩ := id V_cs
    have hin58 : ¬ ((0 : Int32) < 0 ∨ cl58.slots.size ≤ ((0 : Int32)).toNatClampNeg) := inb_of Sz58 ⟨by decide, by decide⟩
    obtain ⟨T, h, X, e0, W58, st⟩ := stC X hx hZ e0 Ar58 (j := (0 : Int32)) hin58 (g := (mkF m 30 #[iv p0, iv p1, iv p2, iv p3, iv p4, iv p5, iv 3, iv pp, uu, uu, uu, uu, uu] [(.int d0), (.int 0), (.ref cs), (.ref cs)])) rfl rfl (hb hby at_30)
    have K := K.wr W58 (Or.inr ge_cs)
    have sw : Safe Z oEL _ _ cs := sf_cs
    have sf_cs := Safe.wr W58 sw B.2.1 sf_cs
    have B := B.wr W58 sw
    have V_cs := Arv.set Ar58 q58 Sz58 Nn58 Hs58 Ft58 (fits_nar_char _) W58 0 rfl (Nat.le_of_ble_eq_true rfl)
    rw [show nar .char d0 = d0 from oChr hd0] at V_cs
    replace V_cs : Arv Z h cs k55 .char (5 : Int32) [(.int d0), (.int (0 : Int32)), (.int (0 : Int32)), (.int (0 : Int32)), (.int (0 : Int32))] (.int (0 : Int32)) := V_cs
    refine oWk.st (fun _ kt => st _ (zD X hx hby at_31 rfl rfl rfl (zK X hx hby at_32 rfl (zI X hx hby at_33 rfl rfl kt)))) ?_
    have Oh := K.old O0 all0
    obtain ⟨_, T, hq, Lc60, X, e0, hQ, st⟩ := (cs25 hw).run X hx hZ hown e0 (A := [(.int p1)]) rfl (rDr l Z a0 hw [] p1 h Oh ) (W := 3) (by decide) hml (Ls := #[iv p0, iv p1, iv p2, iv p3, iv p4, iv p5, iv 3, iv pp, uu, uu, uu, uu, uu]) rfl (rest := [(.int (1 : Int32)), (.ref cs), (.ref cs)]) rfl rfl hby at_34
    obtain ⟨d1, rfl, e1, K59, hd59⟩ := hQ
    rw [e1] at e0 K59
    have K := K.call K59 all0
    have hd1 := hd59
    refine oWk.st (fun _ kt => st _ kt) ?_
    obtain ⟨cl61, Ar61, q61, Sz61, Nn61, Hs61, Ft61⟩ := id V_cs
    have hin61 : ¬ ((1 : Int32) < 0 ∨ cl61.slots.size ≤ ((1 : Int32)).toNatClampNeg) := inb_of Sz61 ⟨by decide, by decide⟩
    obtain ⟨T, h, X, e0, W61, st⟩ := stC X hx hZ e0 Ar61 (j := (1 : Int32)) hin61 (g := (mkF m 37 #[iv p0, iv p1, iv p2, iv p3, iv p4, iv p5, iv 3, iv pp, uu, uu, uu, uu, uu] [(.int d1), (.int 1), (.ref cs), (.ref cs)])) rfl rfl (hb hby at_37)
    have K := K.wr W61 (Or.inr ge_cs)
    have sw : Safe Z oEL _ _ cs := sf_cs
    have sf_cs := Safe.wr W61 sw B.2.1 sf_cs
    have B := B.wr W61 sw
    have V_cs := Arv.set Ar61 q61 Sz61 Nn61 Hs61 Ft61 (fits_nar_char _) W61 1 rfl (Nat.le_of_ble_eq_true rfl)
    rw [show nar .char d1 = d1 from oChr hd1] at V_cs
    replace V_cs : Arv Z h cs k55 .char (5 : Int32) [(.int d0), (.int d1), (.int (0 : Int32)), (.int (0 : Int32)), (.int (0 : Int32))] (.int (0 : Int32)) := V_cs
    refine oWk.st (fun _ kt => st _ (zD X hx hby at_38 rfl rfl rfl (zK X hx hby at_39 rfl (zI X hx hby at_40 rfl rfl kt)))) ?_
    have Oh := K.old O0 all0
    obtain ⟨_, T, hq, Lc63, X, e0, hQ, st⟩ := (cs25 hw).run X hx hZ hown e0 (A := [(.int p2)]) rfl (rDr l Z a0 hw [] p2 h Oh ) (W := 3) (by decide) hml (Ls := #[iv p0, iv p1, iv p2, iv p3, iv p4, iv p5, iv 3, iv pp, uu, uu, uu, uu, uu]) rfl (rest := [(.int (2 : Int32)), (.ref cs), (.ref cs)]) rfl rfl hby at_41
    obtain ⟨d2, rfl, e1, K62, hd62⟩ := hQ
    rw [e1] at e0 K62
    have K := K.call K62 all0
    have hd2 := hd62
    refine oWk.st (fun _ kt => st _ kt) ?_
    obtain ⟨cl64, Ar64, q64, Sz64, Nn64, Hs64, Ft64⟩ := id V_cs
    have hin64 : ¬ ((2 : Int32) < 0 ∨ cl64.slots.size ≤ ((2 : Int32)).toNatClampNeg) := inb_of Sz64 ⟨by decide, by decide⟩
    obtain ⟨T, h, X, e0, W64, st⟩ := stC X hx hZ e0 Ar64 (j := (2 : Int32)) hin64 (g := (mkF m 44 #[iv p0, iv p1, iv p2, iv p3, iv p4, iv p5, iv 3, iv pp, uu, uu, uu, uu, uu] [(.int d2), (.int 2), (.ref cs), (.ref cs)])) rfl rfl (hb hby at_44)
    have K := K.wr W64 (Or.inr ge_cs)
    have sw : Safe Z oEL _ _ cs := sf_cs
    have sf_cs := Safe.wr W64 sw B.2.1 sf_cs
    have B := B.wr W64 sw
    have V_cs := Arv.set Ar64 q64 Sz64 Nn64 Hs64 Ft64 (fits_nar_char _) W64 2 rfl (Nat.le_of_ble_eq_true rfl)
    rw [show nar .char d2 = d2 from oChr hd2] at V_cs
    replace V_cs : Arv Z h cs k55 .char (5 : Int32) [(.int d0), (.int d1), (.int d2), (.int (0 : Int32)), (.int (0 : Int32))] (.int (0 : Int32)) := V_cs
    refine oWk.st (fun _ kt => st _ (zD X hx hby at_45 rfl rfl rfl (zK X hx hby at_46 rfl (zI X hx hby at_47 rfl rfl kt)))) ?_
    have Oh := K.old O0 all0
    obtain ⟨_, T, hq, Lc66, X, e0, hQ, st⟩ := (cs25 hw).run X hx hZ hown e0 (A := [(.int p3)]) rfl (rDr l Z a0 hw [] p3 h Oh ) (W := 3) (by decide) hml (Ls := #[iv p0, iv p1, iv p2, iv p3, iv p4, iv p5, iv 3, iv pp, uu, uu, uu, uu, uu]) rfl (rest := [(.int (3 : Int32)), (.ref cs), (.ref cs)]) rfl rfl hby at_48
    obtain ⟨d3, rfl, e1, K65, hd65⟩ := hQ
    rw [e1] at e0 K65
    have K := K.call K65 all0
    have hd3 := hd65
    refine oWk.st (fun _ kt => st _ kt) ?_
    obtain ⟨cl67, Ar67, q67, Sz67, Nn67, Hs67, Ft67⟩ := id V_cs
    have hin67 : ¬ ((3 : Int32) < 0 ∨ cl67.slots.size ≤ ((3 : Int32)).toNatClampNeg) := inb_of Sz67 ⟨by decide, by decide⟩
    obtain ⟨T, h, X, e0, W67, st⟩ := stC X hx hZ e0 Ar67 (j := (3 : Int32)) hin67 (g := (mkF m 51 #[iv p0, iv p1, iv p2, iv p3, iv p4, iv p5, iv 3, iv pp, uu, uu, uu, uu, uu] [(.int d3), (.int 3), (.ref cs), (.ref cs)])) rfl rfl (hb hby at_51)
    have K := K.wr W67 (Or.inr ge_cs)
    have sw : Safe Z oEL _ _ cs := sf_cs
    have sf_cs := Safe.wr W67 sw B.2.1 sf_cs
    have B := B.wr W67 sw
    have V_cs := Arv.set Ar67 q67 Sz67 Nn67 Hs67 Ft67 (fits_nar_char _) W67 3 rfl (Nat.le_of_ble_eq_true rfl)
    rw [show nar .char d3 = d3 from oChr hd3] at V_cs
    replace V_cs : Arv Z h cs k55 .char (5 : Int32) [(.int d0), (.int d1), (.int d2), (.int d3), (.int (0 : Int32))] (.int (0 : Int32)) := V_cs
    refine oWk.st (fun _ kt => st _ (zD X hx hby at_52 rfl rfl rfl (zK X hx hby at_53 rfl (zJ X hx hby at_54 rfl rfl kt)))) ?_
    have Oh := K.old O0 all0
    obtain ⟨_, T, hq, Lc69, X, e0, hQ, st⟩ := (cs25 hw).run X hx hZ hown e0 (A := [(.int p4)]) rfl (rDr l Z a0 hw [] p4 h Oh ) (W := 3) (by decide) hml (Ls := #[iv p0, iv p1, iv p2, iv p3, iv p4, iv p5, iv 3, iv pp, uu, uu, uu, uu, uu]) rfl (rest := [(.int (4 : Int32)), (.ref cs), (.ref cs)]) rfl rfl hby at_56
    obtain ⟨d4, rfl, e1, K68, hd68⟩ := hQ
    rw [e1] at e0 K68
    have K := K.call K68 all0
    have hd4 := hd68
    refine oWk.st (fun _ kt => st _ kt) ?_
    obtain ⟨cl70, Ar70, q70, Sz70, Nn70, Hs70, Ft70⟩ := id V_cs
    have hin70 : ¬ ((4 : Int32) < 0 ∨ cl70.slots.size ≤ ((4 : Int32)).toNatClampNeg) := inb_of Sz70 ⟨by decide, by decide⟩
    obtain ⟨T, h, X, e0, W70, st⟩ := stC X hx hZ e0 Ar70 (j := (4 : Int32)) hin70 (g := (mkF m 59 #[iv p0, iv p1, iv p2, iv p3, iv p4, iv p5, iv 3, iv pp, uu, uu, uu, uu, uu] [(.int d4), (.int 4), (.ref cs), (.ref cs)])) rfl rfl (hb hby at_59)
    have K := K.wr W70 (Or.inr ge_cs)
    have sw : Safe Z oEL _ _ cs := sf_cs
    have sf_cs := Safe.wr W70 sw B.2.1 sf_cs
    have B := B.wr W70 sw
    have V_cs := Arv.set Ar70 q70 Sz70 Nn70 Hs70 Ft70 (fits_nar_char _) W70 4 rfl (Nat.le_of_ble_eq_true rfl)
    rw [show nar .char d4 = d4 from oChr hd4] at V_cs
    replace V_cs : Arv Z h cs k55 .char (5 : Int32) [(.int d0), (.int d1), (.int d2), (.int d3), (.int d4)] (.int (0 : Int32)) := V_cs
    refine oWk.to (mkF m 68 #[iv p0, iv p1, iv p2, iv p3, iv p4, iv p5, iv 3, iv pp, rv cs, uu, uu, uu, uu] [(.int 58), (.int pp), (.ref cs)]) (fun _ kt => st _ (zT X hx hby at_60 rfl rfl rfl (l' := #[iv p0, iv p1, iv p2, iv p3, iv p4, iv p5, iv 3, iv pp, rv cs, uu, uu, uu, uu]) rfl (zB X hx hby at_62 rfl rfl rfl (zJ X hx hby at_64 rfl rfl (zL X hx hby at_66 rfl kt))))) ?_
    obtain ⟨cl71, Ar71, q71, Sz71, Nn71, Hs71, Ft71⟩ := id V_cs
    have hin71 : ¬ (pp < 0 ∨ cl71.slots.size ≤ (pp).toNatClampNeg) := inb_of Sz71 (oIx (n := 3) hpp (by decide))
    obtain ⟨T, h, X, e0, W71, st⟩ := stC X hx hZ e0 Ar71 (j := pp) hin71 (g := (mkF m 68 #[iv p0, iv p1, iv p2, iv p3, iv p4, iv p5, iv 3, iv pp, rv cs, uu, uu, uu, uu] [(.int 58), (.int pp), (.ref cs)])) rfl rfl (hb hby at_68)
    refine oWk.st st ?_
    have K := K.wr W71 (Or.inr ge_cs)
    have sw : Safe Z oEL _ _ cs := sf_cs
    have sf_cs := Safe.wr W71 sw B.2.1 sf_cs
    have B := B.wr W71 sw
    have V_cs := Arv.set Ar71 q71 Sz71 Nn71 Hs71 Ft71 (fits_nar_char _) W71 (pp).toNatClampNeg rfl (oIxn (n := 3) hpp (by decide))
    obtain ⟨c0, c1, c2, c3, c4, hse, hr0, hr1, hr2, hr3, hr4, hex⟩ := oSet3 hd0 hd1 hd2 hd3 hd4 hpp
    rw [hse] at V_cs
    show oWk _ _ _ _ T (mkF m 69 #[iv p0, iv p1, iv p2, iv p3, iv p4, iv p5, iv 3, iv pp, rv cs, uu, uu, uu, uu] [])
    refine oWk.st (fun _ kt => zB X hx hby at_69 rfl rfl rfl (zJ X hx hby at_71 rfl rfl kt)) ?_
    have lt_cs := V_cs.lt
    have Oh := K.old O0 all0
    obtain ⟨_, T, h, Lc73, X, e0, hQ, st⟩ := (cs26 hw).run X hx hZ hown e0 (A := [(.ref cs), (.int (3 : Int32))]) rfl (rBd_3 l Z a0 hw [] cs k55 xz c0 c1 c2 c3 c4 h Oh S_COMPACT_STRINGS hz V_cs hr0 hr1 hr2) (W := 0) (by decide) hml (Ls := #[iv p0, iv p1, iv p2, iv p3, iv p4, iv p5, iv 3, iv pp, rv cs, uu, uu, uu, uu]) rfl (rest := []) rfl rfl hby at_73
    obtain ⟨so, sob, sobk, rfl, K72, gn_so, gn_sob, E_so, F_coder_so, F_value_so, V_sob⟩ := hQ
    have ge_so := Nat.le_trans K.le gn_so
    have ne_cs_so : cs ≠ so := Nat.ne_of_lt (Nat.lt_of_lt_of_le lt_cs gn_so)
    have ge_sob := Nat.le_trans K.le gn_sob
    have ne_cs_sob : cs ≠ sob := Nat.ne_of_lt (Nat.lt_of_lt_of_le lt_cs gn_sob)
    have K := K.call K72 all0
    have sf_cs := Safe.keep K72.1 sf0 B.2.1 sf_cs
    have B := B.keep K72.1 sf0
    refine oWk.to (mkF m 102 #[iv p0, iv p1, iv p2, iv p3, iv p4, iv p5, iv 3, iv pp, rv cs, rv so, uu, uu, uu] [(.int 3), (.int 3)]) (fun _ kt => st _ (zT X hx hby at_76 rfl rfl rfl (l' := #[iv p0, iv p1, iv p2, iv p3, iv p4, iv p5, iv 3, iv pp, rv cs, rv so, uu, uu, uu]) rfl (zJ X hx hby at_78 rfl rfl (zK X hx hby at_80 rfl (zY X hx hby at_81 rfl rfl (flt (by decide)).2.2.2 (pc' := 99) rfl (zJ X hx hby at_99 rfl rfl (zK X hx hby at_101 rfl kt))))))) ?_
    refine oWk.st (fun _ kt => zY X hx hby at_102 rfl rfl (flt (by decide)).2.2.2 (pc' := 120) rfl (zJ X hx hby at_120 rfl rfl (zK X hx hby at_122 rfl (zN X hx hby at_123 rfl rfl (tlt (by decide)).2.2.2 (zB X hx hby at_126 rfl rfl rfl (zK X hx hby at_128 rfl kt)))))) ?_
    have V_cs := (V_cs.keep K72.1 nin0)
    refine oWk.to (mkF m 132 #[iv p0, iv p1, iv p2, iv p3, iv p4, iv p5, iv 3, iv pp, rv cs, rv so, uu, uu, uu] [(.int 58), (.int c2)]) (fun _ kt => oLdC X hx hZ e0 V_cs (2 : Int32) (.int c2) ⟨by decide, by decide⟩ rfl hby at_129 rfl rfl (zL X hx hby at_130 rfl kt)) ?_
    by_cases hc132 : c2 = (58 : Int32)
    · refine oWk.to (mkF m 135 #[iv p0, iv p1, iv p2, iv p3, iv p4, iv p5, iv 3, iv pp, rv cs, rv so, uu, uu, uu] []) (fun _ kt => zN X hx hby at_132 rfl rfl (teq hc132).2 kt) ?_
      refine oWk.st (fun _ kt => zK X hx hby at_135 rfl (zS X hx hby at_136 rfl rfl (l' := #[iv p0, iv p1, iv p2, iv p3, iv p4, iv p5, iv 3, iv pp, rv cs, rv so, iv 2, uu, uu]) rfl (zG X hx hby at_138 rfl (pc' := 165) rfl (zB X hx hby at_165 rfl rfl rfl kt)))) ?_
      have lt_cs := V_cs.lt
      have lt_so := E_so.lt
      have lt_sob := V_sob.lt
      have Oh := K.old O0 all0
      obtain ⟨_, T, h, Lc76, X, e0, hQ, st⟩ := (cs28 hw).run X hx hZ hown e0 (A := [(.ref so)]) rfl (rSP_3_2 l Z a0 hw [] so sob sobk xfm xz c0 c1 c2 h Oh S_COMPACT_STRINGS hz S_SIOOBE_FORMATTER hcat E_so F_coder_so F_value_so V_sob (oB58 hc132)) (W := 0) (by decide) hml (Ls := #[iv p0, iv p1, iv p2, iv p3, iv p4, iv p5, iv 3, iv pp, rv cs, rv so, iv 2, uu, uu]) rfl (rest := []) rfl rfl hby at_167
      obtain ⟨rs, rb, rk, rfl, K75, gn_rs, gn_rb, E_rs, F_coder_rs, F_value_rs, V_rb⟩ := hQ
      have ge_rs := Nat.le_trans K.le gn_rs
      have ne_cs_rs : cs ≠ rs := Nat.ne_of_lt (Nat.lt_of_lt_of_le lt_cs gn_rs)
      have ne_so_rs : so ≠ rs := Nat.ne_of_lt (Nat.lt_of_lt_of_le lt_so gn_rs)
      have ne_sob_rs : sob ≠ rs := Nat.ne_of_lt (Nat.lt_of_lt_of_le lt_sob gn_rs)
      have ge_rb := Nat.le_trans K.le gn_rb
      have ne_cs_rb : cs ≠ rb := Nat.ne_of_lt (Nat.lt_of_lt_of_le lt_cs gn_rb)
      have ne_so_rb : so ≠ rb := Nat.ne_of_lt (Nat.lt_of_lt_of_le lt_so gn_rb)
      have ne_sob_rb : sob ≠ rb := Nat.ne_of_lt (Nat.lt_of_lt_of_le lt_sob gn_rb)
      have K := K.call K75 all0
      have sf_cs := Safe.keep K75.1 sf0 B.2.1 sf_cs
      have B := B.keep K75.1 sf0
      refine oWk.st (fun _ kt => st _ (zT X hx hby at_170 rfl rfl rfl (l' := #[iv p0, iv p1, iv p2, iv p3, iv p4, iv p5, iv 3, iv pp, rv cs, rv so, iv 2, rv rs, uu]) rfl (zB X hx hby at_172 rfl rfl rfl kt))) ?_
      have Oh := K.old O0 all0
      obtain ⟨T, L78, X, e0, K, st⟩ := (cs27 hw).pure X hx hZ hown e0 K (A := [(.ref rs)]) ⟨rfl, _, _, rfl, E_rs⟩ (rLn_2 l Z a0 hw [] rs rb rk xz c0 c1 h Oh S_COMPACT_STRINGS hz E_rs F_coder_rs F_value_rs V_rb) (fun _ _ _ q => q) (W := 0) (by decide) hml (Ls := #[iv p0, iv p1, iv p2, iv p3, iv p4, iv p5, iv 3, iv pp, rv cs, rv so, iv 2, rv rs, uu]) rfl (rest := []) rfl rfl hby at_174
      refine oWk.to (mkF m 192 #[iv p0, iv p1, iv p2, iv p3, iv p4, iv p5, iv 3, iv pp, rv cs, rv so, iv 2, rv rs, iv 1] []) (fun _ kt => st _ (zJ X hx hby at_177 rfl rfl (zY X hx hby at_179 rfl rfl (teq (by decide)).1 (pc' := 184) rfl (zK X hx hby at_184 rfl (zS X hx hby at_185 rfl rfl (l' := #[iv p0, iv p1, iv p2, iv p3, iv p4, iv p5, iv 3, iv pp, rv cs, rv so, iv 2, rv rs, iv 1]) rfl (zJ X hx hby at_187 rfl rfl (zH X hx hby at_189 rfl rfl ((if0 _ _).trans (tlt (by decide)).2.2.2) kt))))))) ?_
      refine oWk.st (fun _ kt => zB X hx hby at_192 rfl rfl rfl (zK X hx hby at_194 rfl kt)) ?_
      obtain ⟨T, L80, X, e0, K, st⟩ := (cs29 hw).pure X hx hZ hown e0 K (A := [(.ref rs), (.int (0 : Int32))]) ⟨rfl, _, _, rfl, E_rs⟩ (rCA_2_0 l Z a0 hw [] rs rb rk xfm xz c0 c1 h Oh S_COMPACT_STRINGS hz S_SIOOBE_FORMATTER hcat hr0 E_rs F_coder_rs F_value_rs V_rb) (fun _ _ _ q => q) (W := 0) (by decide) hml (Ls := #[iv p0, iv p1, iv p2, iv p3, iv p4, iv p5, iv 3, iv pp, rv cs, rv so, iv 2, rv rs, iv 1]) rfl (rest := []) rfl rfl hby at_195
      refine oWk.st (fun _ kt => st _ (zB X hx hby at_198 rfl rfl rfl (zK X hx hby at_200 rfl kt))) ?_
      have V_cs := (V_cs.keep K75.1 nin0)
      refine oWk.to (mkF m 217 #[iv p0, iv p1, iv p2, iv p3, iv p4, iv p5, iv 3, iv pp, rv cs, rv so, iv 2, rv rs, iv 1] [(.int 1), (.ref rs)]) (fun _ kt => oLdC X hx hZ e0 V_cs (0 : Int32) (.int c0) ⟨by decide, by decide⟩ rfl hby at_201 rfl rfl (zY X hx hby at_202 rfl rfl (teq rfl).1 (pc' := 208) rfl (zJ X hx hby at_208 rfl rfl (zK X hx hby at_210 rfl (zN X hx hby at_211 rfl rfl (tlt (by decide)).2.2.2 (zB X hx hby at_214 rfl rfl rfl (zK X hx hby at_216 rfl kt))))))) ?_
      obtain ⟨T, L83, X, e0, K, st⟩ := (cs29 hw).pure X hx hZ hown e0 K (A := [(.ref rs), (.int (1 : Int32))]) ⟨rfl, _, _, rfl, E_rs⟩ (rCA_2_1 l Z a0 hw [] rs rb rk xfm xz c0 c1 h Oh S_COMPACT_STRINGS hz S_SIOOBE_FORMATTER hcat hr1 E_rs F_coder_rs F_value_rs V_rb) (fun _ _ _ q => q) (W := 0) (by decide) hml (Ls := #[iv p0, iv p1, iv p2, iv p3, iv p4, iv p5, iv 3, iv pp, rv cs, rv so, iv 2, rv rs, iv 1]) rfl (rest := []) rfl rfl hby at_217
      refine oWk.to (mkF m 233 #[iv p0, iv p1, iv p2, iv p3, iv p4, iv p5, iv 3, iv pp, rv cs, rv so, iv 2, rv rs, iv 1] [(.int 2), (.int 2)]) (fun _ kt => st _ (zB X hx hby at_220 rfl rfl rfl (zK X hx hby at_222 rfl (oLdC X hx hZ e0 V_cs (1 : Int32) (.int c1) ⟨by decide, by decide⟩ rfl hby at_223 rfl rfl (zY X hx hby at_224 rfl rfl (teq rfl).1 (pc' := 230) rfl (zJ X hx hby at_230 rfl rfl (zK X hx hby at_232 rfl kt))))))) ?_
      refine oWk.to (mkF m 276 #[iv p0, iv p1, iv p2, iv p3, iv p4, iv p5, iv 3, iv pp, rv cs, rv so, iv 2, rv rs, iv 1] [(.int 1)]) (fun _ kt => zY X hx hby at_233 rfl rfl (flt (by decide)).2.2.2 (pc' := 252) rfl (zJ X hx hby at_252 rfl rfl (zK X hx hby at_254 rfl (zY X hx hby at_255 rfl rfl (flt (by decide)).2.2.2 (pc' := 274) rfl (zJ X hx hby at_274 rfl rfl kt))))) ?_
      exact oRetH X hx hlk hZ (oELw hw) e0 B hret (oNar01 (Or.inr rfl)) (Or.inl ⟨rfl, Or.inr (Or.inl rfl), _, rfl⟩) (hb hby at_276) (by rw [e0]; exact ⟨rfl, K.fr⟩) (by decide) (by decide)
    · refine oWk.to (mkF m 141 #[iv p0, iv p1, iv p2, iv p3, iv p4, iv p5, iv 3, iv pp, rv cs, rv so, uu, uu, uu] []) (fun _ kt => zY X hx hby at_132 rfl rfl (feq hc132).2 (pc' := 141) rfl kt) ?_
      refine oWk.to (mkF m 153 #[iv p0, iv p1, iv p2, iv p3, iv p4, iv p5, iv 3, iv pp, rv cs, rv so, uu, uu, uu] [(.int 58), (.int c1)]) (fun _ kt => zJ X hx hby at_141 rfl rfl (zK X hx hby at_143 rfl (zN X hx hby at_144 rfl rfl (tlt (by decide)).2.2.2 (zB X hx hby at_147 rfl rfl rfl (zK X hx hby at_149 rfl (oLdC X hx hZ e0 V_cs (1 : Int32) (.int c1) ⟨by decide, by decide⟩ rfl hby at_150 rfl rfl (zL X hx hby at_151 rfl kt))))))) ?_
      by_cases hc153 : c1 = (58 : Int32)
      · refine oWk.to (mkF m 156 #[iv p0, iv p1, iv p2, iv p3, iv p4, iv p5, iv 3, iv pp, rv cs, rv so, uu, uu, uu] []) (fun _ kt => zN X hx hby at_153 rfl rfl (teq hc153).2 kt) ?_
        refine oWk.st (fun _ kt => zK X hx hby at_156 rfl (zS X hx hby at_157 rfl rfl (l' := #[iv p0, iv p1, iv p2, iv p3, iv p4, iv p5, iv 3, iv pp, rv cs, rv so, iv 1, uu, uu]) rfl (zG X hx hby at_159 rfl (pc' := 165) rfl (zB X hx hby at_165 rfl rfl rfl kt)))) ?_
        have lt_cs := V_cs.lt
        have lt_so := E_so.lt
        have lt_sob := V_sob.lt
        have Oh := K.old O0 all0
        obtain ⟨_, T, h, Lc87, X, e0, hQ, st⟩ := (cs28 hw).run X hx hZ hown e0 (A := [(.ref so)]) rfl (rSP_3_1 l Z a0 hw [] so sob sobk xfm xz c0 c1 c2 h Oh S_COMPACT_STRINGS hz S_SIOOBE_FORMATTER hcat E_so F_coder_so F_value_so V_sob (oB58 hc153) (oBn58 hr2 hc132)) (W := 0) (by decide) hml (Ls := #[iv p0, iv p1, iv p2, iv p3, iv p4, iv p5, iv 3, iv pp, rv cs, rv so, iv 1, uu, uu]) rfl (rest := []) rfl rfl hby at_167
        obtain ⟨rs, rb, rk, rfl, K86, gn_rs, gn_rb, E_rs, F_coder_rs, F_value_rs, V_rb⟩ := hQ
        have ge_rs := Nat.le_trans K.le gn_rs
        have ne_cs_rs : cs ≠ rs := Nat.ne_of_lt (Nat.lt_of_lt_of_le lt_cs gn_rs)
        have ne_so_rs : so ≠ rs := Nat.ne_of_lt (Nat.lt_of_lt_of_le lt_so gn_rs)
        have ne_sob_rs : sob ≠ rs := Nat.ne_of_lt (Nat.lt_of_lt_of_le lt_sob gn_rs)
        have ge_rb := Nat.le_trans K.le gn_rb
        have ne_cs_rb : cs ≠ rb := Nat.ne_of_lt (Nat.lt_of_lt_of_le lt_cs gn_rb)
        have ne_so_rb : so ≠ rb := Nat.ne_of_lt (Nat.lt_of_lt_of_le lt_so gn_rb)
        have ne_sob_rb : sob ≠ rb := Nat.ne_of_lt (Nat.lt_of_lt_of_le lt_sob gn_rb)
        have K := K.call K86 all0
        have sf_cs := Safe.keep K86.1 sf0 B.2.1 sf_cs
        have B := B.keep K86.1 sf0
        refine oWk.st (fun _ kt => st _ (zT X hx hby at_170 rfl rfl rfl (l' := #[iv p0, iv p1, iv p2, iv p3, iv p4, iv p5, iv 3, iv pp, rv cs, rv so, iv 1, rv rs, uu]) rfl (zB X hx hby at_172 rfl rfl rfl kt))) ?_
        have Oh := K.old O0 all0
        obtain ⟨T, L89, X, e0, K, st⟩ := (cs27 hw).pure X hx hZ hown e0 K (A := [(.ref rs)]) ⟨rfl, _, _, rfl, E_rs⟩ (rLn_1 l Z a0 hw [] rs rb rk xz c0 h Oh S_COMPACT_STRINGS hz E_rs F_coder_rs F_value_rs V_rb) (fun _ _ _ q => q) (W := 0) (by decide) hml (Ls := #[iv p0, iv p1, iv p2, iv p3, iv p4, iv p5, iv 3, iv pp, rv cs, rv so, iv 1, rv rs, uu]) rfl (rest := []) rfl rfl hby at_174
        refine oWk.to (mkF m 192 #[iv p0, iv p1, iv p2, iv p3, iv p4, iv p5, iv 3, iv pp, rv cs, rv so, iv 1, rv rs, iv 1] []) (fun _ kt => st _ (zJ X hx hby at_177 rfl rfl (zY X hx hby at_179 rfl rfl (teq (by decide)).1 (pc' := 184) rfl (zK X hx hby at_184 rfl (zS X hx hby at_185 rfl rfl (l' := #[iv p0, iv p1, iv p2, iv p3, iv p4, iv p5, iv 3, iv pp, rv cs, rv so, iv 1, rv rs, iv 1]) rfl (zJ X hx hby at_187 rfl rfl (zH X hx hby at_189 rfl rfl ((if0 _ _).trans (tlt (by decide)).2.2.2) kt))))))) ?_
        refine oWk.st (fun _ kt => zB X hx hby at_192 rfl rfl rfl (zK X hx hby at_194 rfl kt)) ?_
        obtain ⟨T, L91, X, e0, K, st⟩ := (cs29 hw).pure X hx hZ hown e0 K (A := [(.ref rs), (.int (0 : Int32))]) ⟨rfl, _, _, rfl, E_rs⟩ (rCA_1_0 l Z a0 hw [] rs rb rk xfm xz c0 h Oh S_COMPACT_STRINGS hz S_SIOOBE_FORMATTER hcat hr0 E_rs F_coder_rs F_value_rs V_rb) (fun _ _ _ q => q) (W := 0) (by decide) hml (Ls := #[iv p0, iv p1, iv p2, iv p3, iv p4, iv p5, iv 3, iv pp, rv cs, rv so, iv 1, rv rs, iv 1]) rfl (rest := []) rfl rfl hby at_195
        refine oWk.st (fun _ kt => st _ (zB X hx hby at_198 rfl rfl rfl (zK X hx hby at_200 rfl kt))) ?_
        have V_cs := (V_cs.keep K86.1 nin0)
        refine oWk.to (mkF m 233 #[iv p0, iv p1, iv p2, iv p3, iv p4, iv p5, iv 3, iv pp, rv cs, rv so, iv 1, rv rs, iv 1] [(.int 2), (.int 1)]) (fun _ kt => oLdC X hx hZ e0 V_cs (0 : Int32) (.int c0) ⟨by decide, by decide⟩ rfl hby at_201 rfl rfl (zY X hx hby at_202 rfl rfl (teq rfl).1 (pc' := 208) rfl (zJ X hx hby at_208 rfl rfl (zK X hx hby at_210 rfl (zY X hx hby at_211 rfl rfl (flt (by decide)).2.2.2 (pc' := 230) rfl (zJ X hx hby at_230 rfl rfl (zK X hx hby at_232 rfl kt))))))) ?_
        refine oWk.to (mkF m 276 #[iv p0, iv p1, iv p2, iv p3, iv p4, iv p5, iv 3, iv pp, rv cs, rv so, iv 1, rv rs, iv 1] [(.int 1)]) (fun _ kt => zY X hx hby at_233 rfl rfl (flt (by decide)).2.2.2 (pc' := 252) rfl (zJ X hx hby at_252 rfl rfl (zK X hx hby at_254 rfl (zY X hx hby at_255 rfl rfl (flt (by decide)).2.2.2 (pc' := 274) rfl (zJ X hx hby at_274 rfl rfl kt))))) ?_
        exact oRetH X hx hlk hZ (oELw hw) e0 B hret (oNar01 (Or.inr rfl)) (Or.inl ⟨rfl, Or.inr (Or.inl rfl), _, rfl⟩) (hb hby at_276) (by rw [e0]; exact ⟨rfl, K.fr⟩) (by decide) (by decide)
      · refine oWk.to (mkF m 162 #[iv p0, iv p1, iv p2, iv p3, iv p4, iv p5, iv 3, iv pp, rv cs, rv so, uu, uu, uu] []) (fun _ kt => zY X hx hby at_153 rfl rfl (feq hc153).2 (pc' := 162) rfl kt) ?_
        refine oWk.st (fun _ kt => zK X hx hby at_162 rfl (zS X hx hby at_163 rfl rfl (l' := #[iv p0, iv p1, iv p2, iv p3, iv p4, iv p5, iv 3, iv pp, rv cs, rv so, iv 0, uu, uu]) rfl (zB X hx hby at_165 rfl rfl rfl kt))) ?_
        have Oh := K.old O0 all0
        obtain ⟨_, _, ⟨T, L94, k94, n94⟩, -, X, hS, hgr, ⟨Lc94, hQ, l94, y94, z94, C⟩, st⟩ := callSS X hx (y := yy19) hown (mvT hZ (oW hw 38 rfl)) (mvT hZ (oW hw 39 rfl)) (mvT hZ (oW hw 40 rfl)) (mvT hZ (oW hw 41 rfl)) (by decide) (oBackH (W := 0) (rSP_3_0 l Z a0 hw [] so sob sobk xfm xz c0 c1 c2 h Oh S_COMPACT_STRINGS hz S_SIOOBE_FORMATTER hcat E_so F_coder_so F_value_so V_sob (oB58 (hex.resolve_right (fun z => z.elim hc153 (fun z' => hc132 z')))) (oBn58 hr1 hc153) (oBn58 hr2 hc132)) hZ (oW hw 41 rfl) (oW hw 40 rfl) (by decide) (by decide) (oELw hw) B.2.1 all0) (g := (mkF m 167 #[iv p0, iv p1, iv p2, iv p3, iv p4, iv p5, iv 3, iv pp, rv cs, rv so, iv 0, uu, uu] [(.ref so)])) rfl (by rw [hml]; rfl) (argsL := [(.ref so)]) (rest := []) (lenOf pd_23 rfl) rfl (Nat.le_of_eq rfl) (hb hby at_167) (fun _ _ => ⟨rfl, e0, (by decide : 4 + 2 ≤ _), (by decide : 15 + 4 ≤ _)⟩)
        dsimp only [Pt.U, Pt.locs, Pt.cells, Pt.slots] at X l94 y94 z94 st hQ C hS hgr
        subst l94 y94 z94
        have X : Stand p l e _ (s.setVm T.vm) m _ below meth c T _ _ _ := X
        obtain ⟨h, e2⟩ : ∃ z, T.heap = z := ⟨_, rfl⟩
        have B := B.call e0 hS hgr C e2
        obtain ⟨hZ, hown⟩ := oWide hZ hown hS
        rw [e2] at hQ C
        have sf_cs := C.safe V_cs.lt sf_cs
        have e0 := e2
        obtain ⟨rs, rb, rk, rfl, K93, E_rs, F_coder_rs, F_value_rs, V_rb⟩ := hQ
        have K := K.call K93 all0
        refine oWk.st (fun _ kt => st.trans (zT X hx hby at_170 rfl rfl rfl (l' := #[iv p0, iv p1, iv p2, iv p3, iv p4, iv p5, iv 3, iv pp, rv cs, rv so, iv 0, rv rs, uu]) rfl (zB X hx hby at_172 rfl rfl rfl kt))) ?_
        have Oh := K.old O0 all0
        obtain ⟨T, L96, X, e0, K, st⟩ := (cs27 hw).pure X hx hZ hown e0 K (A := [(.ref rs)]) ⟨rfl, _, _, rfl, E_rs⟩ (rLn_0 l Z a0 hw [] rs rb rk xz h Oh S_COMPACT_STRINGS hz E_rs F_coder_rs F_value_rs V_rb) (fun _ _ _ q => q) (W := 0) (by decide) hml (Ls := #[iv p0, iv p1, iv p2, iv p3, iv p4, iv p5, iv 3, iv pp, rv cs, rv so, iv 0, rv rs, uu]) rfl (rest := []) rfl rfl hby at_174
        refine oWk.to (mkF m 208 #[iv p0, iv p1, iv p2, iv p3, iv p4, iv p5, iv 3, iv pp, rv cs, rv so, iv 0, rv rs, iv 1] []) (fun _ kt => st _ (zJ X hx hby at_177 rfl rfl (zY X hx hby at_179 rfl rfl (teq (by decide)).1 (pc' := 184) rfl (zK X hx hby at_184 rfl (zS X hx hby at_185 rfl rfl (l' := #[iv p0, iv p1, iv p2, iv p3, iv p4, iv p5, iv 3, iv pp, rv cs, rv so, iv 0, rv rs, iv 1]) rfl (zJ X hx hby at_187 rfl rfl (zF X hx hby at_189 rfl rfl ((if0 _ _).trans (flt (by decide)).2.2.2) (pc' := 208) rfl kt))))))) ?_
        refine oWk.to (mkF m 254 #[iv p0, iv p1, iv p2, iv p3, iv p4, iv p5, iv 3, iv pp, rv cs, rv so, iv 0, rv rs, iv 1] [(.int 0)]) (fun _ kt => zJ X hx hby at_208 rfl rfl (zK X hx hby at_210 rfl (zY X hx hby at_211 rfl rfl (flt (by decide)).2.2.2 (pc' := 230) rfl (zJ X hx hby at_230 rfl rfl (zK X hx hby at_232 rfl (zY X hx hby at_233 rfl rfl (flt (by decide)).2.2.2 (pc' := 252) rfl (zJ X hx hby at_252 rfl rfl kt))))))) ?_
        refine oWk.to (mkF m 276 #[iv p0, iv p1, iv p2, iv p3, iv p4, iv p5, iv 3, iv pp, rv cs, rv so, iv 0, rv rs, iv 1] [(.int 1)]) (fun _ kt => zK X hx hby at_254 rfl (zY X hx hby at_255 rfl rfl (flt (by decide)).2.2.2 (pc' := 274) rfl (zJ X hx hby at_274 rfl rfl kt))) ?_
        exact oRetH X hx hlk hZ (oELw hw) e0 B hret (oNar01 (Or.inr rfl)) (Or.inl ⟨rfl, Or.inr (Or.inl rfl), _, rfl⟩) (hb hby at_276) (by rw [e0]; exact ⟨rfl, K.fr⟩) (by decide) (by decide)
  · show oWk _ _ _ _ T (mkF m 11 #[iv p0, iv p1, iv p2, iv p3, iv p4, iv p5, iv 4, uu, uu, uu, uu, uu, uu] [])
    refine oWk.to (mkF m 19 #[iv p0, iv p1, iv p2, iv p3, iv p4, iv p5, iv 4, uu, uu, uu, uu, uu, uu] [(.int (((p5.toUInt32 >>> ((8 : Int32) &&& 31).toUInt32).toInt32) % (4 : Int32)))]) (fun _ kt => zJ X hx hby at_11 rfl rfl (zL X hx hby at_13 rfl (XS.iushr X.here hx rfl (hb hby at_15) rfl (zJ X hx hby at_16 rfl rfl (iremM X hx rfl (hb hby at_18) rfl (by decide) kt))))) ?_
    generalize hpe : (((p5.toUInt32 >>> ((8 : Int32) &&& 31).toUInt32).toInt32) % (4 : Int32)) = pp
    show oWk _ _ _ _ T (mkF m 19 #[iv p0, iv p1, iv p2, iv p3, iv p4, iv p5, iv 4, uu, uu, uu, uu, uu, uu] [(.int pp)])
    have hpp := oPr4 p5
    rw [hpe] at hpp
    refine oWk.st (fun _ kt => zS X hx hby at_19 rfl rfl (l' := #[iv p0, iv p1, iv p2, iv p3, iv p4, iv p5, iv 4, iv pp, uu, uu, uu, uu, uu]) rfl (zK X hx hby at_21 rfl kt)) ?_
    obtain ⟨cs, g97⟩ : ∃ z, z = h0.size := ⟨_, rfl⟩
    have ge_cs : h0.size ≤ cs := Nat.le_trans K.le (Nat.le_of_eq g97.symm)
    have sf_cs := B.new (Nat.le_of_eq g97.symm)
    obtain ⟨T, h, k97, X, e0, E97, A97, st⟩ := newP X hx hZ (oW hw 1 rfl) e0 (g := (mkF m 22 #[iv p0, iv p1, iv p2, iv p3, iv p4, iv p5, iv 4, iv pp, uu, uu, uu, uu, uu] [(.int 5)])) rfl (hb hby at_22) rfl (by decide) (cap := 5) (by decide) (by decide) (by decide) (by decide)
    rw [← g97] at A97 st
    have K := K.ext E97
    have sf_cs := Safe.ext E97 B.2.1 sf_cs
    have B := B.ext E97
    have V_cs : Arv Z h cs k97 .char (5 : Int32) [(.int (0 : Int32)), (.int (0 : Int32)), (.int (0 : Int32)), (.int (0 : Int32)), (.int (0 : Int32))] (.int (0 : Int32)) := (Arv.new A97 (by decide)).pad (pad_rep [] (.int (0 : Int32)) 5)
    refine oWk.st (fun _ kt => st _ (zD X hx hby at_24 rfl rfl rfl (zK X hx hby at_25 rfl (zI X hx hby at_26 rfl rfl kt)))) ?_
    have Oh := K.old O0 all0
    obtain ⟨_, T, hq, Lc99, X, e0, hQ, st⟩ := (cs25 hw).run X hx hZ hown e0 (A := [(.int p0)]) rfl (rDr l Z a0 hw [] p0 h Oh ) (W := 3) (by decide) hml (Ls := #[iv p0, iv p1, iv p2, iv p3, iv p4, iv p5, iv 4, iv pp, uu, uu, uu, uu, uu]) rfl (rest := [(.int (0 : Int32)), (.ref cs), (.ref cs)]) rfl rfl hby at_27
    obtain ⟨d0, rfl, e1, K98, hd98⟩ := hQ
    rw [e1] at e0 K98
    have K := K.call K98 all0
    have hd0 := hd98
    refine oWk.st (fun _ kt => st _ kt) ?_
    obtain ⟨cl100, Ar100, q100, Sz100, Nn100, Hs100, Ft100⟩ := id V_cs
    have hin100 : ¬ ((0 : Int32) < 0 ∨ cl100.slots.size ≤ ((0 : Int32)).toNatClampNeg) := inb_of Sz100 ⟨by decide, by decide⟩
    obtain ⟨T, h, X, e0, W100, st⟩ := stC X hx hZ e0 Ar100 (j := (0 : Int32)) hin100 (g := (mkF m 30 #[iv p0, iv p1, iv p2, iv p3, iv p4, iv p5, iv 4, iv pp, uu, uu, uu, uu, uu] [(.int d0), (.int 0), (.ref cs), (.ref cs)])) rfl rfl (hb hby at_30)
    have K := K.wr W100 (Or.inr ge_cs)
    have sw : Safe Z oEL _ _ cs := sf_cs
    have sf_cs := Safe.wr W100 sw B.2.1 sf_cs
    have B := B.wr W100 sw
    have V_cs := Arv.set Ar100 q100 Sz100 Nn100 Hs100 Ft100 (fits_nar_char _) W100 0 rfl (Nat.le_of_ble_eq_true rfl)
    rw [show nar .char d0 = d0 from oChr hd0] at V_cs
    replace V_cs : Arv Z h cs k97 .char (5 : Int32) [(.int d0), (.int (0 : Int32)), (.int (0 : Int32)), (.int (0 : Int32)), (.int (0 : Int32))] (.int (0 : Int32)) := V_cs
    refine oWk.st (fun _ kt => st _ (zD X hx hby at_31 rfl rfl rfl (zK X hx hby at_32 rfl (zI X hx hby at_33 rfl rfl kt)))) ?_
    have Oh := K.old O0 all0
    obtain ⟨_, T, hq, Lc102, X, e0, hQ, st⟩ := (cs25 hw).run X hx hZ hown e0 (A := [(.int p1)]) rfl (rDr l Z a0 hw [] p1 h Oh ) (W := 3) (by decide) hml (Ls := #[iv p0, iv p1, iv p2, iv p3, iv p4, iv p5, iv 4, iv pp, uu, uu, uu, uu, uu]) rfl (rest := [(.int (1 : Int32)), (.ref cs), (.ref cs)]) rfl rfl hby at_34
    obtain ⟨d1, rfl, e1, K101, hd101⟩ := hQ
    rw [e1] at e0 K101
    have K := K.call K101 all0
    have hd1 := hd101
    refine oWk.st (fun _ kt => st _ kt) ?_
    obtain ⟨cl103, Ar103, q103, Sz103, Nn103, Hs103, Ft103⟩ := id V_cs
    have hin103 : ¬ ((1 : Int32) < 0 ∨ cl103.slots.size ≤ ((1 : Int32)).toNatClampNeg) := inb_of Sz103 ⟨by decide, by decide⟩
    obtain ⟨T, h, X, e0, W103, st⟩ := stC X hx hZ e0 Ar103 (j := (1 : Int32)) hin103 (g := (mkF m 37 #[iv p0, iv p1, iv p2, iv p3, iv p4, iv p5, iv 4, iv pp, uu, uu, uu, uu, uu] [(.int d1), (.int 1), (.ref cs), (.ref cs)])) rfl rfl (hb hby at_37)
    have K := K.wr W103 (Or.inr ge_cs)
    have sw : Safe Z oEL _ _ cs := sf_cs
    have sf_cs := Safe.wr W103 sw B.2.1 sf_cs
    have B := B.wr W103 sw
    have V_cs := Arv.set Ar103 q103 Sz103 Nn103 Hs103 Ft103 (fits_nar_char _) W103 1 rfl (Nat.le_of_ble_eq_true rfl)
    rw [show nar .char d1 = d1 from oChr hd1] at V_cs
    replace V_cs : Arv Z h cs k97 .char (5 : Int32) [(.int d0), (.int d1), (.int (0 : Int32)), (.int (0 : Int32)), (.int (0 : Int32))] (.int (0 : Int32)) := V_cs
    refine oWk.st (fun _ kt => st _ (zD X hx hby at_38 rfl rfl rfl (zK X hx hby at_39 rfl (zI X hx hby at_40 rfl rfl kt)))) ?_
    have Oh := K.old O0 all0
    obtain ⟨_, T, hq, Lc105, X, e0, hQ, st⟩ := (cs25 hw).run X hx hZ hown e0 (A := [(.int p2)]) rfl (rDr l Z a0 hw [] p2 h Oh ) (W := 3) (by decide) hml (Ls := #[iv p0, iv p1, iv p2, iv p3, iv p4, iv p5, iv 4, iv pp, uu, uu, uu, uu, uu]) rfl (rest := [(.int (2 : Int32)), (.ref cs), (.ref cs)]) rfl rfl hby at_41
    obtain ⟨d2, rfl, e1, K104, hd104⟩ := hQ
    rw [e1] at e0 K104
    have K := K.call K104 all0
    have hd2 := hd104
    refine oWk.st (fun _ kt => st _ kt) ?_
    obtain ⟨cl106, Ar106, q106, Sz106, Nn106, Hs106, Ft106⟩ := id V_cs
    have hin106 : ¬ ((2 : Int32) < 0 ∨ cl106.slots.size ≤ ((2 : Int32)).toNatClampNeg) := inb_of Sz106 ⟨by decide, by decide⟩
    obtain ⟨T, h, X, e0, W106, st⟩ := stC X hx hZ e0 Ar106 (j := (2 : Int32)) hin106 (g := (mkF m 44 #[iv p0, iv p1, iv p2, iv p3, iv p4, iv p5, iv 4, iv pp, uu, uu, uu, uu, uu] [(.int d2), (.int 2), (.ref cs), (.ref cs)])) rfl rfl (hb hby at_44)
    have K := K.wr W106 (Or.inr ge_cs)
    have sw : Safe Z oEL _ _ cs := sf_cs
    have sf_cs := Safe.wr W106 sw B.2.1 sf_cs
    have B := B.wr W106 sw
    have V_cs := Arv.set Ar106 q106 Sz106 Nn106 Hs106 Ft106 (fits_nar_char _) W106 2 rfl (Nat.le_of_ble_eq_true rfl)
    rw [show nar .char d2 = d2 from oChr hd2] at V_cs
    replace V_cs : Arv Z h cs k97 .char (5 : Int32) [(.int d0), (.int d1), (.int d2), (.int (0 : Int32)), (.int (0 : Int32))] (.int (0 : Int32)) := V_cs
    refine oWk.st (fun _ kt => st _ (zD X hx hby at_45 rfl rfl rfl (zK X hx hby at_46 rfl (zI X hx hby at_47 rfl rfl kt)))) ?_
    have Oh := K.old O0 all0
    obtain ⟨_, T, hq, Lc108, X, e0, hQ, st⟩ := (cs25 hw).run X hx hZ hown e0 (A := [(.int p3)]) rfl (rDr l Z a0 hw [] p3 h Oh ) (W := 3) (by decide) hml (Ls := #[iv p0, iv p1, iv p2, iv p3, iv p4, iv p5, iv 4, iv pp, uu, uu, uu, uu, uu]) rfl (rest := [(.int (3 : Int32)), (.ref cs), (.ref cs)]) rfl rfl hby at_48
    obtain ⟨d3, rfl, e1, K107, hd107⟩ := hQ
    rw [e1] at e0 K107
    have K := K.call K107 all0
    have hd3 := hd107
    refine oWk.st (fun _ kt => st _ kt) ?_
    obtain ⟨cl109, Ar109, q109, Sz109, Nn109, Hs109, Ft109⟩ := id V_cs
    have hin109 : ¬ ((3 : Int32) < 0 ∨ cl109.slots.size ≤ ((3 : Int32)).toNatClampNeg) := inb_of Sz109 ⟨by decide, by decide⟩
    obtain ⟨T, h, X, e0, W109, st⟩ := stC X hx hZ e0 Ar109 (j := (3 : Int32)) hin109 (g := (mkF m 51 #[iv p0, iv p1, iv p2, iv p3, iv p4, iv p5, iv 4, iv pp, uu, uu, uu, uu, uu] [(.int d3), (.int 3), (.ref cs), (.ref cs)])) rfl rfl (hb hby at_51)
    have K := K.wr W109 (Or.inr ge_cs)
    have sw : Safe Z oEL _ _ cs := sf_cs
    have sf_cs := Safe.wr W109 sw B.2.1 sf_cs
    have B := B.wr W109 sw
    have V_cs := Arv.set Ar109 q109 Sz109 Nn109 Hs109 Ft109 (fits_nar_char _) W109 3 rfl (Nat.le_of_ble_eq_true rfl)
    rw [show nar .char d3 = d3 from oChr hd3] at V_cs
    replace V_cs : Arv Z h cs k97 .char (5 : Int32) [(.int d0), (.int d1), (.int d2), (.int d3), (.int (0 : Int32))] (.int (0 : Int32)) := V_cs
    refine oWk.st (fun _ kt => st _ (zD X hx hby at_52 rfl rfl rfl (zK X hx hby at_53 rfl (zJ X hx hby at_54 rfl rfl kt)))) ?_
    have Oh := K.old O0 all0
    obtain ⟨_, T, hq, Lc111, X, e0, hQ, st⟩ := (cs25 hw).run X hx hZ hown e0 (A := [(.int p4)]) rfl (rDr l Z a0 hw [] p4 h Oh ) (W := 3) (by decide) hml (Ls := #[iv p0, iv p1, iv p2, iv p3, iv p4, iv p5, iv 4, iv pp, uu, uu, uu, uu, uu]) rfl (rest := [(.int (4 : Int32)), (.ref cs), (.ref cs)]) rfl rfl hby at_56
    obtain ⟨d4, rfl, e1, K110, hd110⟩ := hQ
    rw [e1] at e0 K110
    have K := K.call K110 all0
    have hd4 := hd110
    refine oWk.st (fun _ kt => st _ kt) ?_
    obtain ⟨cl112, Ar112, q112, Sz112, Nn112, Hs112, Ft112⟩ := id V_cs
    have hin112 : ¬ ((4 : Int32) < 0 ∨ cl112.slots.size ≤ ((4 : Int32)).toNatClampNeg) := inb_of Sz112 ⟨by decide, by decide⟩
    obtain ⟨T, h, X, e0, W112, st⟩ := stC X hx hZ e0 Ar112 (j := (4 : Int32)) hin112 (g := (mkF m 59 #[iv p0, iv p1, iv p2, iv p3, iv p4, iv p5, iv 4, iv pp, uu, uu, uu, uu, uu] [(.int d4), (.int 4), (.ref cs), (.ref cs)])) rfl rfl (hb hby at_59)
    have K := K.wr W112 (Or.inr ge_cs)
    have sw : Safe Z oEL _ _ cs := sf_cs
    have sf_cs := Safe.wr W112 sw B.2.1 sf_cs
    have B := B.wr W112 sw
    have V_cs := Arv.set Ar112 q112 Sz112 Nn112 Hs112 Ft112 (fits_nar_char _) W112 4 rfl (Nat.le_of_ble_eq_true rfl)
    rw [show nar .char d4 = d4 from oChr hd4] at V_cs
    replace V_cs : Arv Z h cs k97 .char (5 : Int32) [(.int d0), (.int d1), (.int d2), (.int d3), (.int d4)] (.int (0 : Int32)) := V_cs
    refine oWk.to (mkF m 68 #[iv p0, iv p1, iv p2, iv p3, iv p4, iv p5, iv 4, iv pp, rv cs, uu, uu, uu, uu] [(.int 58), (.int pp), (.ref cs)]) (fun _ kt => st _ (zT X hx hby at_60 rfl rfl rfl (l' := #[iv p0, iv p1, iv p2, iv p3, iv p4, iv p5, iv 4, iv pp, rv cs, uu, uu, uu, uu]) rfl (zB X hx hby at_62 rfl rfl rfl (zJ X hx hby at_64 rfl rfl (zL X hx hby at_66 rfl kt))))) ?_
    obtain ⟨cl113, Ar113, q113, Sz113, Nn113, Hs113, Ft113⟩ := id V_cs
    have hin113 : ¬ (pp < 0 ∨ cl113.slots.size ≤ (pp).toNatClampNeg) := inb_of Sz113 (oIx (n := 4) hpp (by decide))
    obtain ⟨T, h, X, e0, W113, st⟩ := stC X hx hZ e0 Ar113 (j := pp) hin113 (g := (mkF m 68 #[iv p0, iv p1, iv p2, iv p3, iv p4, iv p5, iv 4, iv pp, rv cs, uu, uu, uu, uu] [(.int 58), (.int pp), (.ref cs)])) rfl rfl (hb hby at_68)
    refine oWk.st st ?_
    have K := K.wr W113 (Or.inr ge_cs)
    have sw : Safe Z oEL _ _ cs := sf_cs
    have sf_cs := Safe.wr W113 sw B.2.1 sf_cs
    have B := B.wr W113 sw
    have V_cs := Arv.set Ar113 q113 Sz113 Nn113 Hs113 Ft113 (fits_nar_char _) W113 (pp).toNatClampNeg rfl (oIxn (n := 4) hpp (by decide))
    obtain ⟨c0, c1, c2, c3, c4, hse, hr0, hr1, hr2, hr3, hr4, hex⟩ := oSet4 hd0 hd1 hd2 hd3 hd4 hpp
    rw [hse] at V_cs
    show oWk _ _ _ _ T (mkF m 69 #[iv p0, iv p1, iv p2, iv p3, iv p4, iv p5, iv 4, iv pp, rv cs, uu, uu, uu, uu] [])
    refine oWk.st (fun _ kt => zB X hx hby at_69 rfl rfl rfl (zJ X hx hby at_71 rfl rfl kt)) ?_
    have lt_cs := V_cs.lt
    have Oh := K.old O0 all0
    obtain ⟨_, T, h, Lc115, X, e0, hQ, st⟩ := (cs26 hw).run X hx hZ hown e0 (A := [(.ref cs), (.int (4 : Int32))]) rfl (rBd_4 l Z a0 hw [] cs k97 xz c0 c1 c2 c3 c4 h Oh S_COMPACT_STRINGS hz V_cs hr0 hr1 hr2 hr3) (W := 0) (by decide) hml (Ls := #[iv p0, iv p1, iv p2, iv p3, iv p4, iv p5, iv 4, iv pp, rv cs, uu, uu, uu, uu]) rfl (rest := []) rfl rfl hby at_73
    obtain ⟨so, sob, sobk, rfl, K114, gn_so, gn_sob, E_so, F_coder_so, F_value_so, V_sob⟩ := hQ
    have ge_so := Nat.le_trans K.le gn_so
    have ne_cs_so : cs ≠ so := Nat.ne_of_lt (Nat.lt_of_lt_of_le lt_cs gn_so)
    have ge_sob := Nat.le_trans K.le gn_sob
    have ne_cs_sob : cs ≠ sob := Nat.ne_of_lt (Nat.lt_of_lt_of_le lt_cs gn_sob)
    have K := K.call K114 all0
    have sf_cs := Safe.keep K114.1 sf0 B.2.1 sf_cs
    have B := B.keep K114.1 sf0
    refine oWk.to (mkF m 102 #[iv p0, iv p1, iv p2, iv p3, iv p4, iv p5, iv 4, iv pp, rv cs, rv so, uu, uu, uu] [(.int 3), (.int 4)]) (fun _ kt => st _ (zT X hx hby at_76 rfl rfl rfl (l' := #[iv p0, iv p1, iv p2, iv p3, iv p4, iv p5, iv 4, iv pp, rv cs, rv so, uu, uu, uu]) rfl (zJ X hx hby at_78 rfl rfl (zK X hx hby at_80 rfl (zY X hx hby at_81 rfl rfl (flt (by decide)).2.2.2 (pc' := 99) rfl (zJ X hx hby at_99 rfl rfl (zK X hx hby at_101 rfl kt))))))) ?_
    refine oWk.st (fun _ kt => zN X hx hby at_102 rfl rfl (tlt (by decide)).2.2.2 (zB X hx hby at_105 rfl rfl rfl (zK X hx hby at_107 rfl kt))) ?_
    have V_cs := (V_cs.keep K114.1 nin0)
    refine oWk.to (mkF m 111 #[iv p0, iv p1, iv p2, iv p3, iv p4, iv p5, iv 4, iv pp, rv cs, rv so, uu, uu, uu] [(.int 58), (.int c3)]) (fun _ kt => oLdC X hx hZ e0 V_cs (3 : Int32) (.int c3) ⟨by decide, by decide⟩ rfl hby at_108 rfl rfl (zL X hx hby at_109 rfl kt)) ?_
    by_cases hc111 : c3 = (58 : Int32)
    · refine oWk.to (mkF m 114 #[iv p0, iv p1, iv p2, iv p3, iv p4, iv p5, iv 4, iv pp, rv cs, rv so, uu, uu, uu] []) (fun _ kt => zN X hx hby at_111 rfl rfl (teq hc111).2 kt) ?_
      refine oWk.st (fun _ kt => zK X hx hby at_114 rfl (zS X hx hby at_115 rfl rfl (l' := #[iv p0, iv p1, iv p2, iv p3, iv p4, iv p5, iv 4, iv pp, rv cs, rv so, iv 3, uu, uu]) rfl (zG X hx hby at_117 rfl (pc' := 165) rfl (zB X hx hby at_165 rfl rfl rfl kt)))) ?_
      have lt_cs := V_cs.lt
      have lt_so := E_so.lt
      have lt_sob := V_sob.lt
      have Oh := K.old O0 all0
      obtain ⟨_, T, h, Lc118, X, e0, hQ, st⟩ := (cs28 hw).run X hx hZ hown e0 (A := [(.ref so)]) rfl (rSP_4_3 l Z a0 hw [] so sob sobk xfm xz c0 c1 c2 c3 h Oh S_COMPACT_STRINGS hz S_SIOOBE_FORMATTER hcat E_so F_coder_so F_value_so V_sob (oB58 hc111)) (W := 0) (by decide) hml (Ls := #[iv p0, iv p1, iv p2, iv p3, iv p4, iv p5, iv 4, iv pp, rv cs, rv so, iv 3, uu, uu]) rfl (rest := []) rfl rfl hby at_167
      obtain ⟨rs, rb, rk, rfl, K117, gn_rs, gn_rb, E_rs, F_coder_rs, F_value_rs, V_rb⟩ := hQ
      have ge_rs := Nat.le_trans K.le gn_rs
      have ne_cs_rs : cs ≠ rs := Nat.ne_of_lt (Nat.lt_of_lt_of_le lt_cs gn_rs)
      have ne_so_rs : so ≠ rs := Nat.ne_of_lt (Nat.lt_of_lt_of_le lt_so gn_rs)
      have ne_sob_rs : sob ≠ rs := Nat.ne_of_lt (Nat.lt_of_lt_of_le lt_sob gn_rs)
      have ge_rb := Nat.le_trans K.le gn_rb
      have ne_cs_rb : cs ≠ rb := Nat.ne_of_lt (Nat.lt_of_lt_of_le lt_cs gn_rb)
      have ne_so_rb : so ≠ rb := Nat.ne_of_lt (Nat.lt_of_lt_of_le lt_so gn_rb)
      have ne_sob_rb : sob ≠ rb := Nat.ne_of_lt (Nat.lt_of_lt_of_le lt_sob gn_rb)
      have K := K.call K117 all0
      have sf_cs := Safe.keep K117.1 sf0 B.2.1 sf_cs
      have B := B.keep K117.1 sf0
      refine oWk.st (fun _ kt => st _ (zT X hx hby at_170 rfl rfl rfl (l' := #[iv p0, iv p1, iv p2, iv p3, iv p4, iv p5, iv 4, iv pp, rv cs, rv so, iv 3, rv rs, uu]) rfl (zB X hx hby at_172 rfl rfl rfl kt))) ?_
      have Oh := K.old O0 all0
      obtain ⟨T, L120, X, e0, K, st⟩ := (cs27 hw).pure X hx hZ hown e0 K (A := [(.ref rs)]) ⟨rfl, _, _, rfl, E_rs⟩ (rLn_3 l Z a0 hw [] rs rb rk xz c0 c1 c2 h Oh S_COMPACT_STRINGS hz E_rs F_coder_rs F_value_rs V_rb) (fun _ _ _ q => q) (W := 0) (by decide) hml (Ls := #[iv p0, iv p1, iv p2, iv p3, iv p4, iv p5, iv 4, iv pp, rv cs, rv so, iv 3, rv rs, uu]) rfl (rest := []) rfl rfl hby at_174
      refine oWk.to (mkF m 192 #[iv p0, iv p1, iv p2, iv p3, iv p4, iv p5, iv 4, iv pp, rv cs, rv so, iv 3, rv rs, iv 1] []) (fun _ kt => st _ (zJ X hx hby at_177 rfl rfl (zY X hx hby at_179 rfl rfl (teq (by decide)).1 (pc' := 184) rfl (zK X hx hby at_184 rfl (zS X hx hby at_185 rfl rfl (l' := #[iv p0, iv p1, iv p2, iv p3, iv p4, iv p5, iv 4, iv pp, rv cs, rv so, iv 3, rv rs, iv 1]) rfl (zJ X hx hby at_187 rfl rfl (zH X hx hby at_189 rfl rfl ((if0 _ _).trans (tlt (by decide)).2.2.2) kt))))))) ?_
      refine oWk.st (fun _ kt => zB X hx hby at_192 rfl rfl rfl (zK X hx hby at_194 rfl kt)) ?_
      obtain ⟨T, L122, X, e0, K, st⟩ := (cs29 hw).pure X hx hZ hown e0 K (A := [(.ref rs), (.int (0 : Int32))]) ⟨rfl, _, _, rfl, E_rs⟩ (rCA_3_0 l Z a0 hw [] rs rb rk xfm xz c0 c1 c2 h Oh S_COMPACT_STRINGS hz S_SIOOBE_FORMATTER hcat hr0 E_rs F_coder_rs F_value_rs V_rb) (fun _ _ _ q => q) (W := 0) (by decide) hml (Ls := #[iv p0, iv p1, iv p2, iv p3, iv p4, iv p5, iv 4, iv pp, rv cs, rv so, iv 3, rv rs, iv 1]) rfl (rest := []) rfl rfl hby at_195
      refine oWk.st (fun _ kt => st _ (zB X hx hby at_198 rfl rfl rfl (zK X hx hby at_200 rfl kt))) ?_
      have V_cs := (V_cs.keep K117.1 nin0)
      refine oWk.to (mkF m 217 #[iv p0, iv p1, iv p2, iv p3, iv p4, iv p5, iv 4, iv pp, rv cs, rv so, iv 3, rv rs, iv 1] [(.int 1), (.ref rs)]) (fun _ kt => oLdC X hx hZ e0 V_cs (0 : Int32) (.int c0) ⟨by decide, by decide⟩ rfl hby at_201 rfl rfl (zY X hx hby at_202 rfl rfl (teq rfl).1 (pc' := 208) rfl (zJ X hx hby at_208 rfl rfl (zK X hx hby at_210 rfl (zN X hx hby at_211 rfl rfl (tlt (by decide)).2.2.2 (zB X hx hby at_214 rfl rfl rfl (zK X hx hby at_216 rfl kt))))))) ?_
      obtain ⟨T, L125, X, e0, K, st⟩ := (cs29 hw).pure X hx hZ hown e0 K (A := [(.ref rs), (.int (1 : Int32))]) ⟨rfl, _, _, rfl, E_rs⟩ (rCA_3_1 l Z a0 hw [] rs rb rk xfm xz c0 c1 c2 h Oh S_COMPACT_STRINGS hz S_SIOOBE_FORMATTER hcat hr1 E_rs F_coder_rs F_value_rs V_rb) (fun _ _ _ q => q) (W := 0) (by decide) hml (Ls := #[iv p0, iv p1, iv p2, iv p3, iv p4, iv p5, iv 4, iv pp, rv cs, rv so, iv 3, rv rs, iv 1]) rfl (rest := []) rfl rfl hby at_217
      refine oWk.to (mkF m 233 #[iv p0, iv p1, iv p2, iv p3, iv p4, iv p5, iv 4, iv pp, rv cs, rv so, iv 3, rv rs, iv 1] [(.int 2), (.int 3)]) (fun _ kt => st _ (zB X hx hby at_220 rfl rfl rfl (zK X hx hby at_222 rfl (oLdC X hx hZ e0 V_cs (1 : Int32) (.int c1) ⟨by decide, by decide⟩ rfl hby at_223 rfl rfl (zY X hx hby at_224 rfl rfl (teq rfl).1 (pc' := 230) rfl (zJ X hx hby at_230 rfl rfl (zK X hx hby at_232 rfl kt))))))) ?_
      refine oWk.st (fun _ kt => zN X hx hby at_233 rfl rfl (tlt (by decide)).2.2.2 (zB X hx hby at_236 rfl rfl rfl (zK X hx hby at_238 rfl kt))) ?_
      obtain ⟨T, L128, X, e0, K, st⟩ := (cs29 hw).pure X hx hZ hown e0 K (A := [(.ref rs), (.int (2 : Int32))]) ⟨rfl, _, _, rfl, E_rs⟩ (rCA_3_2 l Z a0 hw [] rs rb rk xfm xz c0 c1 c2 h Oh S_COMPACT_STRINGS hz S_SIOOBE_FORMATTER hcat hr2 E_rs F_coder_rs F_value_rs V_rb) (fun _ _ _ q => q) (W := 0) (by decide) hml (Ls := #[iv p0, iv p1, iv p2, iv p3, iv p4, iv p5, iv 4, iv pp, rv cs, rv so, iv 3, rv rs, iv 1]) rfl (rest := []) rfl rfl hby at_239
      refine oWk.to (mkF m 255 #[iv p0, iv p1, iv p2, iv p3, iv p4, iv p5, iv 4, iv pp, rv cs, rv so, iv 3, rv rs, iv 1] [(.int 3), (.int 3)]) (fun _ kt => st _ (zB X hx hby at_242 rfl rfl rfl (zK X hx hby at_244 rfl (oLdC X hx hZ e0 V_cs (2 : Int32) (.int c2) ⟨by decide, by decide⟩ rfl hby at_245 rfl rfl (zY X hx hby at_246 rfl rfl (teq rfl).1 (pc' := 252) rfl (zJ X hx hby at_252 rfl rfl (zK X hx hby at_254 rfl kt))))))) ?_
      refine oWk.to (mkF m 276 #[iv p0, iv p1, iv p2, iv p3, iv p4, iv p5, iv 4, iv pp, rv cs, rv so, iv 3, rv rs, iv 1] [(.int 1)]) (fun _ kt => zY X hx hby at_255 rfl rfl (flt (by decide)).2.2.2 (pc' := 274) rfl (zJ X hx hby at_274 rfl rfl kt)) ?_
      exact oRetH X hx hlk hZ (oELw hw) e0 B hret (oNar01 (Or.inr rfl)) (Or.inl ⟨rfl, Or.inr (Or.inl rfl), _, rfl⟩) (hb hby at_276) (by rw [e0]; exact ⟨rfl, K.fr⟩) (by decide) (by decide)
    · refine oWk.to (mkF m 120 #[iv p0, iv p1, iv p2, iv p3, iv p4, iv p5, iv 4, iv pp, rv cs, rv so, uu, uu, uu] []) (fun _ kt => zY X hx hby at_111 rfl rfl (feq hc111).2 (pc' := 120) rfl kt) ?_
      refine oWk.to (mkF m 132 #[iv p0, iv p1, iv p2, iv p3, iv p4, iv p5, iv 4, iv pp, rv cs, rv so, uu, uu, uu] [(.int 58), (.int c2)]) (fun _ kt => zJ X hx hby at_120 rfl rfl (zK X hx hby at_122 rfl (zN X hx hby at_123 rfl rfl (tlt (by decide)).2.2.2 (zB X hx hby at_126 rfl rfl rfl (zK X hx hby at_128 rfl (oLdC X hx hZ e0 V_cs (2 : Int32) (.int c2) ⟨by decide, by decide⟩ rfl hby at_129 rfl rfl (zL X hx hby at_130 rfl kt))))))) ?_
      by_cases hc132 : c2 = (58 : Int32)
      · refine oWk.to (mkF m 135 #[iv p0, iv p1, iv p2, iv p3, iv p4, iv p5, iv 4, iv pp, rv cs, rv so, uu, uu, uu] []) (fun _ kt => zN X hx hby at_132 rfl rfl (teq hc132).2 kt) ?_
        refine oWk.st (fun _ kt => zK X hx hby at_135 rfl (zS X hx hby at_136 rfl rfl (l' := #[iv p0, iv p1, iv p2, iv p3, iv p4, iv p5, iv 4, iv pp, rv cs, rv so, iv 2, uu, uu]) rfl (zG X hx hby at_138 rfl (pc' := 165) rfl (zB X hx hby at_165 rfl rfl rfl kt)))) ?_
        have lt_cs := V_cs.lt
        have lt_so := E_so.lt
        have lt_sob := V_sob.lt
        have Oh := K.old O0 all0
        obtain ⟨_, T, h, Lc132, X, e0, hQ, st⟩ := (cs28 hw).run X hx hZ hown e0 (A := [(.ref so)]) rfl (rSP_4_2 l Z a0 hw [] so sob sobk xfm xz c0 c1 c2 c3 h Oh S_COMPACT_STRINGS hz S_SIOOBE_FORMATTER hcat E_so F_coder_so F_value_so V_sob (oB58 hc132) (oBn58 hr3 hc111)) (W := 0) (by decide) hml (Ls := #[iv p0, iv p1, iv p2, iv p3, iv p4, iv p5, iv 4, iv pp, rv cs, rv so, iv 2, uu, uu]) rfl (rest := []) rfl rfl hby at_167
        obtain ⟨rs, rb, rk, rfl, K131, gn_rs, gn_rb, E_rs, F_coder_rs, F_value_rs, V_rb⟩ := hQ
        have ge_rs := Nat.le_trans K.le gn_rs
        have ne_cs_rs : cs ≠ rs := Nat.ne_of_lt (Nat.lt_of_lt_of_le lt_cs gn_rs)
        have ne_so_rs : so ≠ rs := Nat.ne_of_lt (Nat.lt_of_lt_of_le lt_so gn_rs)
        have ne_sob_rs : sob ≠ rs := Nat.ne_of_lt (Nat.lt_of_lt_of_le lt_sob gn_rs)
        have ge_rb := Nat.le_trans K.le gn_rb
        have ne_cs_rb : cs ≠ rb := Nat.ne_of_lt (Nat.lt_of_lt_of_le lt_cs gn_rb)
        have ne_so_rb : so ≠ rb := Nat.ne_of_lt (Nat.lt_of_lt_of_le lt_so gn_rb)
        have ne_sob_rb : sob ≠ rb := Nat.ne_of_lt (Nat.lt_of_lt_of_le lt_sob gn_rb)
        have K := K.call K131 all0
        have sf_cs := Safe.keep K131.1 sf0 B.2.1 sf_cs
        have B := B.keep K131.1 sf0
        refine oWk.st (fun _ kt => st _ (zT X hx hby at_170 rfl rfl rfl (l' := #[iv p0, iv p1, iv p2, iv p3, iv p4, iv p5, iv 4, iv pp, rv cs, rv so, iv 2, rv rs, uu]) rfl (zB X hx hby at_172 rfl rfl rfl kt))) ?_
        have Oh := K.old O0 all0
        obtain ⟨T, L134, X, e0, K, st⟩ := (cs27 hw).pure X hx hZ hown e0 K (A := [(.ref rs)]) ⟨rfl, _, _, rfl, E_rs⟩ (rLn_2 l Z a0 hw [] rs rb rk xz c0 c1 h Oh S_COMPACT_STRINGS hz E_rs F_coder_rs F_value_rs V_rb) (fun _ _ _ q => q) (W := 0) (by decide) hml (Ls := #[iv p0, iv p1, iv p2, iv p3, iv p4, iv p5, iv 4, iv pp, rv cs, rv so, iv 2, rv rs, uu]) rfl (rest := []) rfl rfl hby at_174
        refine oWk.to (mkF m 192 #[iv p0, iv p1, iv p2, iv p3, iv p4, iv p5, iv 4, iv pp, rv cs, rv so, iv 2, rv rs, iv 1] []) (fun _ kt => st _ (zJ X hx hby at_177 rfl rfl (zY X hx hby at_179 rfl rfl (teq (by decide)).1 (pc' := 184) rfl (zK X hx hby at_184 rfl (zS X hx hby at_185 rfl rfl (l' := #[iv p0, iv p1, iv p2, iv p3, iv p4, iv p5, iv 4, iv pp, rv cs, rv so, iv 2, rv rs, iv 1]) rfl (zJ X hx hby at_187 rfl rfl (zH X hx hby at_189 rfl rfl ((if0 _ _).trans (tlt (by decide)).2.2.2) kt))))))) ?_
        refine oWk.st (fun _ kt => zB X hx hby at_192 rfl rfl rfl (zK X hx hby at_194 rfl kt)) ?_
        obtain ⟨T, L136, X, e0, K, st⟩ := (cs29 hw).pure X hx hZ hown e0 K (A := [(.ref rs), (.int (0 : Int32))]) ⟨rfl, _, _, rfl, E_rs⟩ (rCA_2_0 l Z a0 hw [] rs rb rk xfm xz c0 c1 h Oh S_COMPACT_STRINGS hz S_SIOOBE_FORMATTER hcat hr0 E_rs F_coder_rs F_value_rs V_rb) (fun _ _ _ q => q) (W := 0) (by decide) hml (Ls := #[iv p0, iv p1, iv p2, iv p3, iv p4, iv p5, iv 4, iv pp, rv cs, rv so, iv 2, rv rs, iv 1]) rfl (rest := []) rfl rfl hby at_195
        refine oWk.st (fun _ kt => st _ (zB X hx hby at_198 rfl rfl rfl (zK X hx hby at_200 rfl kt))) ?_
        have V_cs := (V_cs.keep K131.1 nin0)
        refine oWk.to (mkF m 217 #[iv p0, iv p1, iv p2, iv p3, iv p4, iv p5, iv 4, iv pp, rv cs, rv so, iv 2, rv rs, iv 1] [(.int 1), (.ref rs)]) (fun _ kt => oLdC X hx hZ e0 V_cs (0 : Int32) (.int c0) ⟨by decide, by decide⟩ rfl hby at_201 rfl rfl (zY X hx hby at_202 rfl rfl (teq rfl).1 (pc' := 208) rfl (zJ X hx hby at_208 rfl rfl (zK X hx hby at_210 rfl (zN X hx hby at_211 rfl rfl (tlt (by decide)).2.2.2 (zB X hx hby at_214 rfl rfl rfl (zK X hx hby at_216 rfl kt))))))) ?_
        obtain ⟨T, L139, X, e0, K, st⟩ := (cs29 hw).pure X hx hZ hown e0 K (A := [(.ref rs), (.int (1 : Int32))]) ⟨rfl, _, _, rfl, E_rs⟩ (rCA_2_1 l Z a0 hw [] rs rb rk xfm xz c0 c1 h Oh S_COMPACT_STRINGS hz S_SIOOBE_FORMATTER hcat hr1 E_rs F_coder_rs F_value_rs V_rb) (fun _ _ _ q => q) (W := 0) (by decide) hml (Ls := #[iv p0, iv p1, iv p2, iv p3, iv p4, iv p5, iv 4, iv pp, rv cs, rv so, iv 2, rv rs, iv 1]) rfl (rest := []) rfl rfl hby at_217
        refine oWk.to (mkF m 233 #[iv p0, iv p1, iv p2, iv p3, iv p4, iv p5, iv 4, iv pp, rv cs, rv so, iv 2, rv rs, iv 1] [(.int 2), (.int 2)]) (fun _ kt => st _ (zB X hx hby at_220 rfl rfl rfl (zK X hx hby at_222 rfl (oLdC X hx hZ e0 V_cs (1 : Int32) (.int c1) ⟨by decide, by decide⟩ rfl hby at_223 rfl rfl (zY X hx hby at_224 rfl rfl (teq rfl).1 (pc' := 230) rfl (zJ X hx hby at_230 rfl rfl (zK X hx hby at_232 rfl kt))))))) ?_
        refine oWk.to (mkF m 276 #[iv p0, iv p1, iv p2, iv p3, iv p4, iv p5, iv 4, iv pp, rv cs, rv so, iv 2, rv rs, iv 1] [(.int 1)]) (fun _ kt => zY X hx hby at_233 rfl rfl (flt (by decide)).2.2.2 (pc' := 252) rfl (zJ X hx hby at_252 rfl rfl (zK X hx hby at_254 rfl (zY X hx hby at_255 rfl rfl (flt (by decide)).2.2.2 (pc' := 274) rfl (zJ X hx hby at_274 rfl rfl kt))))) ?_
        exact oRetH X hx hlk hZ (oELw hw) e0 B hret (oNar01 (Or.inr rfl)) (Or.inl ⟨rfl, Or.inr (Or.inl rfl), _, rfl⟩) (hb hby at_276) (by rw [e0]; exact ⟨rfl, K.fr⟩) (by decide) (by decide)
      · refine oWk.to (mkF m 141 #[iv p0, iv p1, iv p2, iv p3, iv p4, iv p5, iv 4, iv pp, rv cs, rv so, uu, uu, uu] []) (fun _ kt => zY X hx hby at_132 rfl rfl (feq hc132).2 (pc' := 141) rfl kt) ?_
        refine oWk.to (mkF m 153 #[iv p0, iv p1, iv p2, iv p3, iv p4, iv p5, iv 4, iv pp, rv cs, rv so, uu, uu, uu] [(.int 58), (.int c1)]) (fun _ kt => zJ X hx hby at_141 rfl rfl (zK X hx hby at_143 rfl (zN X hx hby at_144 rfl rfl (tlt (by decide)).2.2.2 (zB X hx hby at_147 rfl rfl rfl (zK X hx hby at_149 rfl (oLdC X hx hZ e0 V_cs (1 : Int32) (.int c1) ⟨by decide, by decide⟩ rfl hby at_150 rfl rfl (zL X hx hby at_151 rfl kt))))))) ?_
        by_cases hc153 : c1 = (58 : Int32)
        · refine oWk.to (mkF m 156 #[iv p0, iv p1, iv p2, iv p3, iv p4, iv p5, iv 4, iv pp, rv cs, rv so, uu, uu, uu] []) (fun _ kt => zN X hx hby at_153 rfl rfl (teq hc153).2 kt) ?_
          refine oWk.st (fun _ kt => zK X hx hby at_156 rfl (zS X hx hby at_157 rfl rfl (l' := #[iv p0, iv p1, iv p2, iv p3, iv p4, iv p5, iv 4, iv pp, rv cs, rv so, iv 1, uu, uu]) rfl (zG X hx hby at_159 rfl (pc' := 165) rfl (zB X hx hby at_165 rfl rfl rfl kt)))) ?_
          have lt_cs := V_cs.lt
          have lt_so := E_so.lt
          have lt_sob := V_sob.lt
          have Oh := K.old O0 all0
          obtain ⟨_, T, h, Lc143, X, e0, hQ, st⟩ := (cs28 hw).run X hx hZ hown e0 (A := [(.ref so)]) rfl (rSP_4_1 l Z a0 hw [] so sob sobk xfm xz c0 c1 c2 c3 h Oh S_COMPACT_STRINGS hz S_SIOOBE_FORMATTER hcat E_so F_coder_so F_value_so V_sob (oB58 hc153) (oBn58 hr2 hc132) (oBn58 hr3 hc111)) (W := 0) (by decide) hml (Ls := #[iv p0, iv p1, iv p2, iv p3, iv p4, iv p5, iv 4, iv pp, rv cs, rv so, iv 1, uu, uu]) rfl (rest := []) rfl rfl hby at_167
          obtain ⟨rs, rb, rk, rfl, K142, gn_rs, gn_rb, E_rs, F_coder_rs, F_value_rs, V_rb⟩ := hQ
          have ge_rs := Nat.le_trans K.le gn_rs
          have ne_cs_rs : cs ≠ rs := Nat.ne_of_lt (Nat.lt_of_lt_of_le lt_cs gn_rs)
          have ne_so_rs : so ≠ rs := Nat.ne_of_lt (Nat.lt_of_lt_of_le lt_so gn_rs)
          have ne_sob_rs : sob ≠ rs := Nat.ne_of_lt (Nat.lt_of_lt_of_le lt_sob gn_rs)
          have ge_rb := Nat.le_trans K.le gn_rb
          have ne_cs_rb : cs ≠ rb := Nat.ne_of_lt (Nat.lt_of_lt_of_le lt_cs gn_rb)
          have ne_so_rb : so ≠ rb := Nat.ne_of_lt (Nat.lt_of_lt_of_le lt_so gn_rb)
          have ne_sob_rb : sob ≠ rb := Nat.ne_of_lt (Nat.lt_of_lt_of_le lt_sob gn_rb)
          have K := K.call K142 all0
          have sf_cs := Safe.keep K142.1 sf0 B.2.1 sf_cs
          have B := B.keep K142.1 sf0
          refine oWk.st (fun _ kt => st _ (zT X hx hby at_170 rfl rfl rfl (l' := #[iv p0, iv p1, iv p2, iv p3, iv p4, iv p5, iv 4, iv pp, rv cs, rv so, iv 1, rv rs, uu]) rfl (zB X hx hby at_172 rfl rfl rfl kt))) ?_
          have Oh := K.old O0 all0
          obtain ⟨T, L145, X, e0, K, st⟩ := (cs27 hw).pure X hx hZ hown e0 K (A := [(.ref rs)]) ⟨rfl, _, _, rfl, E_rs⟩ (rLn_1 l Z a0 hw [] rs rb rk xz c0 h Oh S_COMPACT_STRINGS hz E_rs F_coder_rs F_value_rs V_rb) (fun _ _ _ q => q) (W := 0) (by decide) hml (Ls := #[iv p0, iv p1, iv p2, iv p3, iv p4, iv p5, iv 4, iv pp, rv cs, rv so, iv 1, rv rs, uu]) rfl (rest := []) rfl rfl hby at_174
          refine oWk.to (mkF m 192 #[iv p0, iv p1, iv p2, iv p3, iv p4, iv p5, iv 4, iv pp, rv cs, rv so, iv 1, rv rs, iv 1] []) (fun _ kt => st _ (zJ X hx hby at_177 rfl rfl (zY X hx hby at_179 rfl rfl (teq (by decide)).1 (pc' := 184) rfl (zK X hx hby at_184 rfl (zS X hx hby at_185 rfl rfl (l' := #[iv p0, iv p1, iv p2, iv p3, iv p4, iv p5, iv 4, iv pp, rv cs, rv so, iv 1, rv rs, iv 1]) rfl (zJ X hx hby at_187 rfl rfl (zH X hx hby at_189 rfl rfl ((if0 _ _).trans (tlt (by decide)).2.2.2) kt))))))) ?_
          refine oWk.st (fun _ kt => zB X hx hby at_192 rfl rfl rfl (zK X hx hby at_194 rfl kt)) ?_
          obtain ⟨T, L147, X, e0, K, st⟩ := (cs29 hw).pure X hx hZ hown e0 K (A := [(.ref rs), (.int (0 : Int32))]) ⟨rfl, _, _, rfl, E_rs⟩ (rCA_1_0 l Z a0 hw [] rs rb rk xfm xz c0 h Oh S_COMPACT_STRINGS hz S_SIOOBE_FORMATTER hcat hr0 E_rs F_coder_rs F_value_rs V_rb) (fun _ _ _ q => q) (W := 0) (by decide) hml (Ls := #[iv p0, iv p1, iv p2, iv p3, iv p4, iv p5, iv 4, iv pp, rv cs, rv so, iv 1, rv rs, iv 1]) rfl (rest := []) rfl rfl hby at_195
          refine oWk.st (fun _ kt => st _ (zB X hx hby at_198 rfl rfl rfl (zK X hx hby at_200 rfl kt))) ?_
          have V_cs := (V_cs.keep K142.1 nin0)
          refine oWk.to (mkF m 233 #[iv p0, iv p1, iv p2, iv p3, iv p4, iv p5, iv 4, iv pp, rv cs, rv so, iv 1, rv rs, iv 1] [(.int 2), (.int 1)]) (fun _ kt => oLdC X hx hZ e0 V_cs (0 : Int32) (.int c0) ⟨by decide, by decide⟩ rfl hby at_201 rfl rfl (zY X hx hby at_202 rfl rfl (teq rfl).1 (pc' := 208) rfl (zJ X hx hby at_208 rfl rfl (zK X hx hby at_210 rfl (zY X hx hby at_211 rfl rfl (flt (by decide)).2.2.2 (pc' := 230) rfl (zJ X hx hby at_230 rfl rfl (zK X hx hby at_232 rfl kt))))))) ?_
          refine oWk.to (mkF m 276 #[iv p0, iv p1, iv p2, iv p3, iv p4, iv p5, iv 4, iv pp, rv cs, rv so, iv 1, rv rs, iv 1] [(.int 1)]) (fun _ kt => zY X hx hby at_233 rfl rfl (flt (by decide)).2.2.2 (pc' := 252) rfl (zJ X hx hby at_252 rfl rfl (zK X hx hby at_254 rfl (zY X hx hby at_255 rfl rfl (flt (by decide)).2.2.2 (pc' := 274) rfl (zJ X hx hby at_274 rfl rfl kt))))) ?_
          exact oRetH X hx hlk hZ (oELw hw) e0 B hret (oNar01 (Or.inr rfl)) (Or.inl ⟨rfl, Or.inr (Or.inl rfl), _, rfl⟩) (hb hby at_276) (by rw [e0]; exact ⟨rfl, K.fr⟩) (by decide) (by decide)
        · refine oWk.to (mkF m 162 #[iv p0, iv p1, iv p2, iv p3, iv p4, iv p5, iv 4, iv pp, rv cs, rv so, uu, uu, uu] []) (fun _ kt => zY X hx hby at_153 rfl rfl (feq hc153).2 (pc' := 162) rfl kt) ?_
          refine oWk.st (fun _ kt => zK X hx hby at_162 rfl (zS X hx hby at_163 rfl rfl (l' := #[iv p0, iv p1, iv p2, iv p3, iv p4, iv p5, iv 4, iv pp, rv cs, rv so, iv 0, uu, uu]) rfl (zB X hx hby at_165 rfl rfl rfl kt))) ?_
          have Oh := K.old O0 all0
          obtain ⟨_, _, ⟨T, L150, k150, n150⟩, -, X, hS, hgr, ⟨Lc150, hQ, l150, y150, z150, C⟩, st⟩ := callSS X hx (y := yy19) hown (mvT hZ (oW hw 38 rfl)) (mvT hZ (oW hw 39 rfl)) (mvT hZ (oW hw 40 rfl)) (mvT hZ (oW hw 41 rfl)) (by decide) (oBackH (W := 0) (rSP_4_0 l Z a0 hw [] so sob sobk xfm xz c0 c1 c2 c3 h Oh S_COMPACT_STRINGS hz S_SIOOBE_FORMATTER hcat E_so F_coder_so F_value_so V_sob (oB58 (hex.resolve_right (fun z => z.elim hc153 (fun z' => z'.elim hc132 (fun z'' => hc111 z''))))) (oBn58 hr1 hc153) (oBn58 hr2 hc132) (oBn58 hr3 hc111)) hZ (oW hw 41 rfl) (oW hw 40 rfl) (by decide) (by decide) (oELw hw) B.2.1 all0) (g := (mkF m 167 #[iv p0, iv p1, iv p2, iv p3, iv p4, iv p5, iv 4, iv pp, rv cs, rv so, iv 0, uu, uu] [(.ref so)])) rfl (by rw [hml]; rfl) (argsL := [(.ref so)]) (rest := []) (lenOf pd_23 rfl) rfl (Nat.le_of_eq rfl) (hb hby at_167) (fun _ _ => ⟨rfl, e0, (by decide : 4 + 2 ≤ _), (by decide : 17 + 4 ≤ _)⟩)
          dsimp only [Pt.U, Pt.locs, Pt.cells, Pt.slots] at X l150 y150 z150 st hQ C hS hgr
          subst l150 y150 z150
          have X : Stand p l e _ (s.setVm T.vm) m _ below meth c T _ _ _ := X
          obtain ⟨h, e2⟩ : ∃ z, T.heap = z := ⟨_, rfl⟩
          have B := B.call e0 hS hgr C e2
          obtain ⟨hZ, hown⟩ := oWide hZ hown hS
          rw [e2] at hQ C
          have sf_cs := C.safe V_cs.lt sf_cs
          have e0 := e2
          obtain ⟨rs, rb, rk, rfl, K149, E_rs, F_coder_rs, F_value_rs, V_rb⟩ := hQ
          have K := K.call K149 all0
          refine oWk.st (fun _ kt => st.trans (zT X hx hby at_170 rfl rfl rfl (l' := #[iv p0, iv p1, iv p2, iv p3, iv p4, iv p5, iv 4, iv pp, rv cs, rv so, iv 0, rv rs, uu]) rfl (zB X hx hby at_172 rfl rfl rfl kt))) ?_
          have Oh := K.old O0 all0
          obtain ⟨T, L152, X, e0, K, st⟩ := (cs27 hw).pure X hx hZ hown e0 K (A := [(.ref rs)]) ⟨rfl, _, _, rfl, E_rs⟩ (rLn_0 l Z a0 hw [] rs rb rk xz h Oh S_COMPACT_STRINGS hz E_rs F_coder_rs F_value_rs V_rb) (fun _ _ _ q => q) (W := 0) (by decide) hml (Ls := #[iv p0, iv p1, iv p2, iv p3, iv p4, iv p5, iv 4, iv pp, rv cs, rv so, iv 0, rv rs, uu]) rfl (rest := []) rfl rfl hby at_174
          refine oWk.to (mkF m 208 #[iv p0, iv p1, iv p2, iv p3, iv p4, iv p5, iv 4, iv pp, rv cs, rv so, iv 0, rv rs, iv 1] []) (fun _ kt => st _ (zJ X hx hby at_177 rfl rfl (zY X hx hby at_179 rfl rfl (teq (by decide)).1 (pc' := 184) rfl (zK X hx hby at_184 rfl (zS X hx hby at_185 rfl rfl (l' := #[iv p0, iv p1, iv p2, iv p3, iv p4, iv p5, iv 4, iv pp, rv cs, rv so, iv 0, rv rs, iv 1]) rfl (zJ X hx hby at_187 rfl rfl (zF X hx hby at_189 rfl rfl ((if0 _ _).trans (flt (by decide)).2.2.2) (pc' := 208) rfl kt))))))) ?_
          refine oWk.to (mkF m 254 #[iv p0, iv p1, iv p2, iv p3, iv p4, iv p5, iv 4, iv pp, rv cs, rv so, iv 0, rv rs, iv 1] [(.int 0)]) (fun _ kt => zJ X hx hby at_208 rfl rfl (zK X hx hby at_210 rfl (zY X hx hby at_211 rfl rfl (flt (by decide)).2.2.2 (pc' := 230) rfl (zJ X hx hby at_230 rfl rfl (zK X hx hby at_232 rfl (zY X hx hby at_233 rfl rfl (flt (by decide)).2.2.2 (pc' := 252) rfl (zJ X hx hby at_252 rfl rfl kt))))))) ?_
          refine oWk.to (mkF m 276 #[iv p0, iv p1, iv p2, iv p3, iv p4, iv p5, iv 4, iv pp, rv cs, rv so, iv 0, rv rs, iv 1] [(.int 1)]) (fun _ kt => zK X hx hby at_254 rfl (zY X hx hby at_255 rfl rfl (flt (by decide)).2.2.2 (pc' := 274) rfl (zJ X hx hby at_274 rfl rfl kt))) ?_
          exact oRetH X hx hlk hZ (oELw hw) e0 B hret (oNar01 (Or.inr rfl)) (Or.inl ⟨rfl, Or.inr (Or.inl rfl), _, rfl⟩) (hb hby at_276) (by rw [e0]; exact ⟨rfl, K.fr⟩) (by decide) (by decide)
  · show oWk _ _ _ _ T (mkF m 11 #[iv p0, iv p1, iv p2, iv p3, iv p4, iv p5, iv 5, uu, uu, uu, uu, uu, uu] [])
    refine oWk.to (mkF m 19 #[iv p0, iv p1, iv p2, iv p3, iv p4, iv p5, iv 5, uu, uu, uu, uu, uu, uu] [(.int (((p5.toUInt32 >>> ((8 : Int32) &&& 31).toUInt32).toInt32) % (5 : Int32)))]) (fun _ kt => zJ X hx hby at_11 rfl rfl (zL X hx hby at_13 rfl (XS.iushr X.here hx rfl (hb hby at_15) rfl (zJ X hx hby at_16 rfl rfl (iremM X hx rfl (hb hby at_18) rfl (by decide) kt))))) ?_
    generalize hpe : (((p5.toUInt32 >>> ((8 : Int32) &&& 31).toUInt32).toInt32) % (5 : Int32)) = pp
    show oWk _ _ _ _ T (mkF m 19 #[iv p0, iv p1, iv p2, iv p3, iv p4, iv p5, iv 5, uu, uu, uu, uu, uu, uu] [(.int pp)])
    have hpp := oPr5 p5
    rw [hpe] at hpp
    refine oWk.st (fun _ kt => zS X hx hby at_19 rfl rfl (l' := #[iv p0, iv p1, iv p2, iv p3, iv p4, iv p5, iv 5, iv pp, uu, uu, uu, uu, uu]) rfl (zK X hx hby at_21 rfl kt)) ?_
    obtain ⟨cs, g153⟩ : ∃ z, z = h0.size := ⟨_, rfl⟩
    have ge_cs : h0.size ≤ cs := Nat.le_trans K.le (Nat.le_of_eq g153.symm)
    have sf_cs := B.new (Nat.le_of_eq g153.symm)
    obtain ⟨T, h, k153, X, e0, E153, A153, st⟩ := newP X hx hZ (oW hw 1 rfl) e0 (g := (mkF m 22 #[iv p0, iv p1, iv p2, iv p3, iv p4, iv p5, iv 5, iv pp, uu, uu, uu, uu, uu] [(.int 5)])) rfl (hb hby at_22) rfl (by decide) (cap := 5) (by decide) (by decide) (by decide) (by decide)
    rw [← g153] at A153 st
    have K := K.ext E153
    have sf_cs := Safe.ext E153 B.2.1 sf_cs
    have B := B.ext E153
    have V_cs : Arv Z h cs k153 .char (5 : Int32) [(.int (0 : Int32)), (.int (0 : Int32)), (.int (0 : Int32)), (.int (0 : Int32)), (.int (0 : Int32))] (.int (0 : Int32)) := (Arv.new A153 (by decide)).pad (pad_rep [] (.int (0 : Int32)) 5)
    refine oWk.st (fun _ kt => st _ (zD X hx hby at_24 rfl rfl rfl (zK X hx hby at_25 rfl (zI X hx hby at_26 rfl rfl kt)))) ?_
    have Oh := K.old O0 all0
    obtain ⟨_, T, hq, Lc155, X, e0, hQ, st⟩ := (cs25 hw).run X hx hZ hown e0 (A := [(.int p0)]) rfl (rDr l Z a0 hw [] p0 h Oh ) (W := 3) (by decide) hml (Ls := #[iv p0, iv p1, iv p2, iv p3, iv p4, iv p5, iv 5, iv pp, uu, uu, uu, uu, uu]) rfl (rest := [(.int (0 : Int32)), (.ref cs), (.ref cs)]) rfl rfl hby at_27
    obtain ⟨d0, rfl, e1, K154, hd154⟩ := hQ
    rw [e1] at e0 K154
    have K := K.call K154 all0
    have hd0 := hd154
    refine oWk.st (fun _ kt => st _ kt) ?_
    obtain ⟨cl156, Ar156, q156, Sz156, Nn156, Hs156, Ft156⟩ := id V_cs
    have hin156 : ¬ ((0 : Int32) < 0 ∨ cl156.slots.size ≤ ((0 : Int32)).toNatClampNeg) := inb_of Sz156 ⟨by decide, by decide⟩
    obtain ⟨T, h, X, e0, W156, st⟩ := stC X hx hZ e0 Ar156 (j := (0 : Int32)) hin156 (g := (mkF m 30 #[iv p0, iv p1, iv p2, iv p3, iv p4, iv p5, iv 5, iv pp, uu, uu, uu, uu, uu] [(.int d0), (.int 0), (.ref cs), (.ref cs)])) rfl rfl (hb hby at_30)
    have K := K.wr W156 (Or.inr ge_cs)
    have sw : Safe Z oEL _ _ cs := sf_cs
    have sf_cs := Safe.wr W156 sw B.2.1 sf_cs
    have B := B.wr W156 sw
    have V_cs := Arv.set Ar156 q156 Sz156 Nn156 Hs156 Ft156 (fits_nar_char _) W156 0 rfl (Nat.le_of_ble_eq_true rfl)
    rw [show nar .char d0 = d0 from oChr hd0] at V_cs
    replace V_cs : Arv Z h cs k153 .char (5 : Int32) [(.int d0), (.int (0 : Int32)), (.int (0 : Int32)), (.int (0 : Int32)), (.int (0 : Int32))] (.int (0 : Int32)) := V_cs
    refine oWk.st (fun _ kt => st _ (zD X hx hby at_31 rfl rfl rfl (zK X hx hby at_32 rfl (zI X hx hby at_33 rfl rfl kt)))) ?_
    have Oh := K.old O0 all0
    obtain ⟨_, T, hq, Lc158, X, e0, hQ, st⟩ := (cs25 hw).run X hx hZ hown e0 (A := [(.int p1)]) rfl (rDr l Z a0 hw [] p1 h Oh ) (W := 3) (by decide) hml (Ls := #[iv p0, iv p1, iv p2, iv p3, iv p4, iv p5, iv 5, iv pp, uu, uu, uu, uu, uu]) rfl (rest := [(.int (1 : Int32)), (.ref cs), (.ref cs)]) rfl rfl hby at_34
    obtain ⟨d1, rfl, e1, K157, hd157⟩ := hQ
    rw [e1] at e0 K157
    have K := K.call K157 all0
    have hd1 := hd157
    refine oWk.st (fun _ kt => st _ kt) ?_
    obtain ⟨cl159, Ar159, q159, Sz159, Nn159, Hs159, Ft159⟩ := id V_cs
    have hin159 : ¬ ((1 : Int32) < 0 ∨ cl159.slots.size ≤ ((1 : Int32)).toNatClampNeg) := inb_of Sz159 ⟨by decide, by decide⟩
    obtain ⟨T, h, X, e0, W159, st⟩ := stC X hx hZ e0 Ar159 (j := (1 : Int32)) hin159 (g := (mkF m 37 #[iv p0, iv p1, iv p2, iv p3, iv p4, iv p5, iv 5, iv pp, uu, uu, uu, uu, uu] [(.int d1), (.int 1), (.ref cs), (.ref cs)])) rfl rfl (hb hby at_37)
    have K := K.wr W159 (Or.inr ge_cs)
    have sw : Safe Z oEL _ _ cs := sf_cs
    have sf_cs := Safe.wr W159 sw B.2.1 sf_cs
    have B := B.wr W159 sw
    have V_cs := Arv.set Ar159 q159 Sz159 Nn159 Hs159 Ft159 (fits_nar_char _) W159 1 rfl (Nat.le_of_ble_eq_true rfl)
    rw [show nar .char d1 = d1 from oChr hd1] at V_cs
    replace V_cs : Arv Z h cs k153 .char (5 : Int32) [(.int d0), (.int d1), (.int (0 : Int32)), (.int (0 : Int32)), (.int (0 : Int32))] (.int (0 : Int32)) := V_cs
    refine oWk.st (fun _ kt => st _ (zD X hx hby at_38 rfl rfl rfl (zK X hx hby at_39 rfl (zI X hx hby at_40 rfl rfl kt)))) ?_
    have Oh := K.old O0 all0
    obtain ⟨_, T, hq, Lc161, X, e0, hQ, st⟩ := (cs25 hw).run X hx hZ hown e0 (A := [(.int p2)]) rfl (rDr l Z a0 hw [] p2 h Oh ) (W := 3) (by decide) hml (Ls := #[iv p0, iv p1, iv p2, iv p3, iv p4, iv p5, iv 5, iv pp, uu, uu, uu, uu, uu]) rfl (rest := [(.int (2 : Int32)), (.ref cs), (.ref cs)]) rfl rfl hby at_41
    obtain ⟨d2, rfl, e1, K160, hd160⟩ := hQ
    rw [e1] at e0 K160
    have K := K.call K160 all0
    have hd2 := hd160
    refine oWk.st (fun _ kt => st _ kt) ?_
    obtain ⟨cl162, Ar162, q162, Sz162, Nn162, Hs162, Ft162⟩ := id V_cs
    have hin162 : ¬ ((2 : Int32) < 0 ∨ cl162.slots.size ≤ ((2 : Int32)).toNatClampNeg) := inb_of Sz162 ⟨by decide, by decide⟩
    obtain ⟨T, h, X, e0, W162, st⟩ := stC X hx hZ e0 Ar162 (j := (2 : Int32)) hin162 (g := (mkF m 44 #[iv p0, iv p1, iv p2, iv p3, iv p4, iv p5, iv 5, iv pp, uu, uu, uu, uu, uu] [(.int d2), (.int 2), (.ref cs), (.ref cs)])) rfl rfl (hb hby at_44)
    have K := K.wr W162 (Or.inr ge_cs)
    have sw : Safe Z oEL _ _ cs := sf_cs
    have sf_cs := Safe.wr W162 sw B.2.1 sf_cs
    have B := B.wr W162 sw
    have V_cs := Arv.set Ar162 q162 Sz162 Nn162 Hs162 Ft162 (fits_nar_char _) W162 2 rfl (Nat.le_of_ble_eq_true rfl)
    rw [show nar .char d2 = d2 from oChr hd2] at V_cs
    replace V_cs : Arv Z h cs k153 .char (5 : Int32) [(.int d0), (.int d1), (.int d2), (.int (0 : Int32)), (.int (0 : Int32))] (.int (0 : Int32)) := V_cs
    refine oWk.st (fun _ kt => st _ (zD X hx hby at_45 rfl rfl rfl (zK X hx hby at_46 rfl (zI X hx hby at_47 rfl rfl kt)))) ?_
    have Oh := K.old O0 all0
    obtain ⟨_, T, hq, Lc164, X, e0, hQ, st⟩ := (cs25 hw).run X hx hZ hown e0 (A := [(.int p3)]) rfl (rDr l Z a0 hw [] p3 h Oh ) (W := 3) (by decide) hml (Ls := #[iv p0, iv p1, iv p2, iv p3, iv p4, iv p5, iv 5, iv pp, uu, uu, uu, uu, uu]) rfl (rest := [(.int (3 : Int32)), (.ref cs), (.ref cs)]) rfl rfl hby at_48
    obtain ⟨d3, rfl, e1, K163, hd163⟩ := hQ
    rw [e1] at e0 K163
    have K := K.call K163 all0
    have hd3 := hd163
    refine oWk.st (fun _ kt => st _ kt) ?_
    obtain ⟨cl165, Ar165, q165, Sz165, Nn165, Hs165, Ft165⟩ := id V_cs
    have hin165 : ¬ ((3 : Int32) < 0 ∨ cl165.slots.size ≤ ((3 : Int32)).toNatClampNeg) := inb_of Sz165 ⟨by decide, by decide⟩
    obtain ⟨T, h, X, e0, W165, st⟩ := stC X hx hZ e0 Ar165 (j := (3 : Int32)) hin165 (g := (mkF m 51 #[iv p0, iv p1, iv p2, iv p3, iv p4, iv p5, iv 5, iv pp, uu, uu, uu, uu, uu] [(.int d3), (.int 3), (.ref cs), (.ref cs)])) rfl rfl (hb hby at_51)
    have K := K.wr W165 (Or.inr ge_cs)
    have sw : Safe Z oEL _ _ cs := sf_cs
    have sf_cs := Safe.wr W165 sw B.2.1 sf_cs
    have B := B.wr W165 sw
    have V_cs := Arv.set Ar165 q165 Sz165 Nn165 Hs165 Ft165 (fits_nar_char _) W165 3 rfl (Nat.le_of_ble_eq_true rfl)
    rw [show nar .char d3 = d3 from oChr hd3] at V_cs
    replace V_cs : Arv Z h cs k153 .char (5 : Int32) [(.int d0), (.int d1), (.int d2), (.int d3), (.int (0 : Int32))] (.int (0 : Int32)) := V_cs
    refine oWk.st (fun _ kt => st _ (zD X hx hby at_52 rfl rfl rfl (zK X hx hby at_53 rfl (zJ X hx hby at_54 rfl rfl kt)))) ?_
    have Oh := K.old O0 all0
    obtain ⟨_, T, hq, Lc167, X, e0, hQ, st⟩ := (cs25 hw).run X hx hZ hown e0 (A := [(.int p4)]) rfl (rDr l Z a0 hw [] p4 h Oh ) (W := 3) (by decide) hml (Ls := #[iv p0, iv p1, iv p2, iv p3, iv p4, iv p5, iv 5, iv pp, uu, uu, uu, uu, uu]) rfl (rest := [(.int (4 : Int32)), (.ref cs), (.ref cs)]) rfl rfl hby at_56
    obtain ⟨d4, rfl, e1, K166, hd166⟩ := hQ
    rw [e1] at e0 K166
    have K := K.call K166 all0
    have hd4 := hd166
    refine oWk.st (fun _ kt => st _ kt) ?_
    obtain ⟨cl168, Ar168, q168, Sz168, Nn168, Hs168, Ft168⟩ := id V_cs
    have hin168 : ¬ ((4 : Int32) < 0 ∨ cl168.slots.size ≤ ((4 : Int32)).toNatClampNeg) := inb_of Sz168 ⟨by decide, by decide⟩
    obtain ⟨T, h, X, e0, W168, st⟩ := stC X hx hZ e0 Ar168 (j := (4 : Int32)) hin168 (g := (mkF m 59 #[iv p0, iv p1, iv p2, iv p3, iv p4, iv p5, iv 5, iv pp, uu, uu, uu, uu, uu] [(.int d4), (.int 4), (.ref cs), (.ref cs)])) rfl rfl (hb hby at_59)
    have K := K.wr W168 (Or.inr ge_cs)
    have sw : Safe Z oEL _ _ cs := sf_cs
    have sf_cs := Safe.wr W168 sw B.2.1 sf_cs
    have B := B.wr W168 sw
    have V_cs := Arv.set Ar168 q168 Sz168 Nn168 Hs168 Ft168 (fits_nar_char _) W168 4 rfl (Nat.le_of_ble_eq_true rfl)
    rw [show nar .char d4 = d4 from oChr hd4] at V_cs
    replace V_cs : Arv Z h cs k153 .char (5 : Int32) [(.int d0), (.int d1), (.int d2), (.int d3), (.int d4)] (.int (0 : Int32)) := V_cs
    refine oWk.to (mkF m 68 #[iv p0, iv p1, iv p2, iv p3, iv p4, iv p5, iv 5, iv pp, rv cs, uu, uu, uu, uu] [(.int 58), (.int pp), (.ref cs)]) (fun _ kt => st _ (zT X hx hby at_60 rfl rfl rfl (l' := #[iv p0, iv p1, iv p2, iv p3, iv p4, iv p5, iv 5, iv pp, rv cs, uu, uu, uu, uu]) rfl (zB X hx hby at_62 rfl rfl rfl (zJ X hx hby at_64 rfl rfl (zL X hx hby at_66 rfl kt))))) ?_
    obtain ⟨cl169, Ar169, q169, Sz169, Nn169, Hs169, Ft169⟩ := id V_cs
    have hin169 : ¬ (pp < 0 ∨ cl169.slots.size ≤ (pp).toNatClampNeg) := inb_of Sz169 (oIx (n := 5) hpp (by decide))
    obtain ⟨T, h, X, e0, W169, st⟩ := stC X hx hZ e0 Ar169 (j := pp) hin169 (g := (mkF m 68 #[iv p0, iv p1, iv p2, iv p3, iv p4, iv p5, iv 5, iv pp, rv cs, uu, uu, uu, uu] [(.int 58), (.int pp), (.ref cs)])) rfl rfl (hb hby at_68)
    refine oWk.st st ?_
    have K := K.wr W169 (Or.inr ge_cs)
    have sw : Safe Z oEL _ _ cs := sf_cs
    have sf_cs := Safe.wr W169 sw B.2.1 sf_cs
    have B := B.wr W169 sw
    have V_cs := Arv.set Ar169 q169 Sz169 Nn169 Hs169 Ft169 (fits_nar_char _) W169 (pp).toNatClampNeg rfl (oIxn (n := 5) hpp (by decide))
    obtain ⟨c0, c1, c2, c3, c4, hse, hr0, hr1, hr2, hr3, hr4, hex⟩ := oSet5 hd0 hd1 hd2 hd3 hd4 hpp
    rw [hse] at V_cs
    show oWk _ _ _ _ T (mkF m 69 #[iv p0, iv p1, iv p2, iv p3, iv p4, iv p5, iv 5, iv pp, rv cs, uu, uu, uu, uu] [])
    refine oWk.st (fun _ kt => zB X hx hby at_69 rfl rfl rfl (zJ X hx hby at_71 rfl rfl kt)) ?_
    have lt_cs := V_cs.lt
    have Oh := K.old O0 all0
    obtain ⟨_, T, h, Lc171, X, e0, hQ, st⟩ := (cs26 hw).run X hx hZ hown e0 (A := [(.ref cs), (.int (5 : Int32))]) rfl (rBd_5 l Z a0 hw [] cs k153 xz c0 c1 c2 c3 c4 h Oh S_COMPACT_STRINGS hz V_cs hr0 hr1 hr2 hr3 hr4) (W := 0) (by decide) hml (Ls := #[iv p0, iv p1, iv p2, iv p3, iv p4, iv p5, iv 5, iv pp, rv cs, uu, uu, uu, uu]) rfl (rest := []) rfl rfl hby at_73
    obtain ⟨so, sob, sobk, rfl, K170, gn_so, gn_sob, E_so, F_coder_so, F_value_so, V_sob⟩ := hQ
    have ge_so := Nat.le_trans K.le gn_so
    have ne_cs_so : cs ≠ so := Nat.ne_of_lt (Nat.lt_of_lt_of_le lt_cs gn_so)
    have ge_sob := Nat.le_trans K.le gn_sob
    have ne_cs_sob : cs ≠ sob := Nat.ne_of_lt (Nat.lt_of_lt_of_le lt_cs gn_sob)
    have K := K.call K170 all0
    have sf_cs := Safe.keep K170.1 sf0 B.2.1 sf_cs
    have B := B.keep K170.1 sf0
    refine oWk.to (mkF m 87 #[iv p0, iv p1, iv p2, iv p3, iv p4, iv p5, iv 5, iv pp, rv cs, rv so, uu, uu, uu] [(.int 4), (.ref cs)]) (fun _ kt => st _ (zT X hx hby at_76 rfl rfl rfl (l' := #[iv p0, iv p1, iv p2, iv p3, iv p4, iv p5, iv 5, iv pp, rv cs, rv so, uu, uu, uu]) rfl (zJ X hx hby at_78 rfl rfl (zK X hx hby at_80 rfl (zN X hx hby at_81 rfl rfl (tlt (by decide)).2.2.2 (zB X hx hby at_84 rfl rfl rfl (zK X hx hby at_86 rfl kt))))))) ?_
    have V_cs := (V_cs.keep K170.1 nin0)
    refine oWk.to (mkF m 90 #[iv p0, iv p1, iv p2, iv p3, iv p4, iv p5, iv 5, iv pp, rv cs, rv so, uu, uu, uu] [(.int 58), (.int c4)]) (fun _ kt => oLdC X hx hZ e0 V_cs (4 : Int32) (.int c4) ⟨by decide, by decide⟩ rfl hby at_87 rfl rfl (zL X hx hby at_88 rfl kt)) ?_
    by_cases hc90 : c4 = (58 : Int32)
    · refine oWk.to (mkF m 93 #[iv p0, iv p1, iv p2, iv p3, iv p4, iv p5, iv 5, iv pp, rv cs, rv so, uu, uu, uu] []) (fun _ kt => zN X hx hby at_90 rfl rfl (teq hc90).2 kt) ?_
      refine oWk.st (fun _ kt => zK X hx hby at_93 rfl (zS X hx hby at_94 rfl rfl (l' := #[iv p0, iv p1, iv p2, iv p3, iv p4, iv p5, iv 5, iv pp, rv cs, rv so, iv 4, uu, uu]) rfl (zG X hx hby at_96 rfl (pc' := 165) rfl (zB X hx hby at_165 rfl rfl rfl kt)))) ?_
      have lt_cs := V_cs.lt
      have lt_so := E_so.lt
      have lt_sob := V_sob.lt
      have Oh := K.old O0 all0
      obtain ⟨_, T, h, Lc174, X, e0, hQ, st⟩ := (cs28 hw).run X hx hZ hown e0 (A := [(.ref so)]) rfl (rSP_5_4 l Z a0 hw [] so sob sobk xfm xz c0 c1 c2 c3 c4 h Oh S_COMPACT_STRINGS hz S_SIOOBE_FORMATTER hcat E_so F_coder_so F_value_so V_sob (oB58 hc90)) (W := 0) (by decide) hml (Ls := #[iv p0, iv p1, iv p2, iv p3, iv p4, iv p5, iv 5, iv pp, rv cs, rv so, iv 4, uu, uu]) rfl (rest := []) rfl rfl hby at_167
      obtain ⟨rs, rb, rk, rfl, K173, gn_rs, gn_rb, E_rs, F_coder_rs, F_value_rs, V_rb⟩ := hQ
      have ge_rs := Nat.le_trans K.le gn_rs
      have ne_cs_rs : cs ≠ rs := Nat.ne_of_lt (Nat.lt_of_lt_of_le lt_cs gn_rs)
      have ne_so_rs : so ≠ rs := Nat.ne_of_lt (Nat.lt_of_lt_of_le lt_so gn_rs)
      have ne_sob_rs : sob ≠ rs := Nat.ne_of_lt (Nat.lt_of_lt_of_le lt_sob gn_rs)
      have ge_rb := Nat.le_trans K.le gn_rb
      have ne_cs_rb : cs ≠ rb := Nat.ne_of_lt (Nat.lt_of_lt_of_le lt_cs gn_rb)
      have ne_so_rb : so ≠ rb := Nat.ne_of_lt (Nat.lt_of_lt_of_le lt_so gn_rb)
      have ne_sob_rb : sob ≠ rb := Nat.ne_of_lt (Nat.lt_of_lt_of_le lt_sob gn_rb)
      have K := K.call K173 all0
      have sf_cs := Safe.keep K173.1 sf0 B.2.1 sf_cs
      have B := B.keep K173.1 sf0
      refine oWk.st (fun _ kt => st _ (zT X hx hby at_170 rfl rfl rfl (l' := #[iv p0, iv p1, iv p2, iv p3, iv p4, iv p5, iv 5, iv pp, rv cs, rv so, iv 4, rv rs, uu]) rfl (zB X hx hby at_172 rfl rfl rfl kt))) ?_
      have Oh := K.old O0 all0
      obtain ⟨T, L176, X, e0, K, st⟩ := (cs27 hw).pure X hx hZ hown e0 K (A := [(.ref rs)]) ⟨rfl, _, _, rfl, E_rs⟩ (rLn_4 l Z a0 hw [] rs rb rk xz c0 c1 c2 c3 h Oh S_COMPACT_STRINGS hz E_rs F_coder_rs F_value_rs V_rb) (fun _ _ _ q => q) (W := 0) (by decide) hml (Ls := #[iv p0, iv p1, iv p2, iv p3, iv p4, iv p5, iv 5, iv pp, rv cs, rv so, iv 4, rv rs, uu]) rfl (rest := []) rfl rfl hby at_174
      refine oWk.to (mkF m 192 #[iv p0, iv p1, iv p2, iv p3, iv p4, iv p5, iv 5, iv pp, rv cs, rv so, iv 4, rv rs, iv 1] []) (fun _ kt => st _ (zJ X hx hby at_177 rfl rfl (zY X hx hby at_179 rfl rfl (teq (by decide)).1 (pc' := 184) rfl (zK X hx hby at_184 rfl (zS X hx hby at_185 rfl rfl (l' := #[iv p0, iv p1, iv p2, iv p3, iv p4, iv p5, iv 5, iv pp, rv cs, rv so, iv 4, rv rs, iv 1]) rfl (zJ X hx hby at_187 rfl rfl (zH X hx hby at_189 rfl rfl ((if0 _ _).trans (tlt (by decide)).2.2.2) kt))))))) ?_
      refine oWk.st (fun _ kt => zB X hx hby at_192 rfl rfl rfl (zK X hx hby at_194 rfl kt)) ?_
      obtain ⟨T, L178, X, e0, K, st⟩ := (cs29 hw).pure X hx hZ hown e0 K (A := [(.ref rs), (.int (0 : Int32))]) ⟨rfl, _, _, rfl, E_rs⟩ (rCA_4_0 l Z a0 hw [] rs rb rk xfm xz c0 c1 c2 c3 h Oh S_COMPACT_STRINGS hz S_SIOOBE_FORMATTER hcat hr0 E_rs F_coder_rs F_value_rs V_rb) (fun _ _ _ q => q) (W := 0) (by decide) hml (Ls := #[iv p0, iv p1, iv p2, iv p3, iv p4, iv p5, iv 5, iv pp, rv cs, rv so, iv 4, rv rs, iv 1]) rfl (rest := []) rfl rfl hby at_195
      refine oWk.st (fun _ kt => st _ (zB X hx hby at_198 rfl rfl rfl (zK X hx hby at_200 rfl kt))) ?_
      have V_cs := (V_cs.keep K173.1 nin0)
      refine oWk.to (mkF m 217 #[iv p0, iv p1, iv p2, iv p3, iv p4, iv p5, iv 5, iv pp, rv cs, rv so, iv 4, rv rs, iv 1] [(.int 1), (.ref rs)]) (fun _ kt => oLdC X hx hZ e0 V_cs (0 : Int32) (.int c0) ⟨by decide, by decide⟩ rfl hby at_201 rfl rfl (zY X hx hby at_202 rfl rfl (teq rfl).1 (pc' := 208) rfl (zJ X hx hby at_208 rfl rfl (zK X hx hby at_210 rfl (zN X hx hby at_211 rfl rfl (tlt (by decide)).2.2.2 (zB X hx hby at_214 rfl rfl rfl (zK X hx hby at_216 rfl kt))))))) ?_
      obtain ⟨T, L181, X, e0, K, st⟩ := (cs29 hw).pure X hx hZ hown e0 K (A := [(.ref rs), (.int (1 : Int32))]) ⟨rfl, _, _, rfl, E_rs⟩ (rCA_4_1 l Z a0 hw [] rs rb rk xfm xz c0 c1 c2 c3 h Oh S_COMPACT_STRINGS hz S_SIOOBE_FORMATTER hcat hr1 E_rs F_coder_rs F_value_rs V_rb) (fun _ _ _ q => q) (W := 0) (by decide) hml (Ls := #[iv p0, iv p1, iv p2, iv p3, iv p4, iv p5, iv 5, iv pp, rv cs, rv so, iv 4, rv rs, iv 1]) rfl (rest := []) rfl rfl hby at_217
      refine oWk.to (mkF m 233 #[iv p0, iv p1, iv p2, iv p3, iv p4, iv p5, iv 5, iv pp, rv cs, rv so, iv 4, rv rs, iv 1] [(.int 2), (.int 4)]) (fun _ kt => st _ (zB X hx hby at_220 rfl rfl rfl (zK X hx hby at_222 rfl (oLdC X hx hZ e0 V_cs (1 : Int32) (.int c1) ⟨by decide, by decide⟩ rfl hby at_223 rfl rfl (zY X hx hby at_224 rfl rfl (teq rfl).1 (pc' := 230) rfl (zJ X hx hby at_230 rfl rfl (zK X hx hby at_232 rfl kt))))))) ?_
      refine oWk.st (fun _ kt => zN X hx hby at_233 rfl rfl (tlt (by decide)).2.2.2 (zB X hx hby at_236 rfl rfl rfl (zK X hx hby at_238 rfl kt))) ?_
      obtain ⟨T, L184, X, e0, K, st⟩ := (cs29 hw).pure X hx hZ hown e0 K (A := [(.ref rs), (.int (2 : Int32))]) ⟨rfl, _, _, rfl, E_rs⟩ (rCA_4_2 l Z a0 hw [] rs rb rk xfm xz c0 c1 c2 c3 h Oh S_COMPACT_STRINGS hz S_SIOOBE_FORMATTER hcat hr2 E_rs F_coder_rs F_value_rs V_rb) (fun _ _ _ q => q) (W := 0) (by decide) hml (Ls := #[iv p0, iv p1, iv p2, iv p3, iv p4, iv p5, iv 5, iv pp, rv cs, rv so, iv 4, rv rs, iv 1]) rfl (rest := []) rfl rfl hby at_239
      refine oWk.to (mkF m 255 #[iv p0, iv p1, iv p2, iv p3, iv p4, iv p5, iv 5, iv pp, rv cs, rv so, iv 4, rv rs, iv 1] [(.int 3), (.int 4)]) (fun _ kt => st _ (zB X hx hby at_242 rfl rfl rfl (zK X hx hby at_244 rfl (oLdC X hx hZ e0 V_cs (2 : Int32) (.int c2) ⟨by decide, by decide⟩ rfl hby at_245 rfl rfl (zY X hx hby at_246 rfl rfl (teq rfl).1 (pc' := 252) rfl (zJ X hx hby at_252 rfl rfl (zK X hx hby at_254 rfl kt))))))) ?_
      refine oWk.st (fun _ kt => zN X hx hby at_255 rfl rfl (tlt (by decide)).2.2.2 (zB X hx hby at_258 rfl rfl rfl (zK X hx hby at_260 rfl kt))) ?_
      obtain ⟨T, L187, X, e0, K, st⟩ := (cs29 hw).pure X hx hZ hown e0 K (A := [(.ref rs), (.int (3 : Int32))]) ⟨rfl, _, _, rfl, E_rs⟩ (rCA_4_3 l Z a0 hw [] rs rb rk xfm xz c0 c1 c2 c3 h Oh S_COMPACT_STRINGS hz S_SIOOBE_FORMATTER hcat hr3 E_rs F_coder_rs F_value_rs V_rb) (fun _ _ _ q => q) (W := 0) (by decide) hml (Ls := #[iv p0, iv p1, iv p2, iv p3, iv p4, iv p5, iv 5, iv pp, rv cs, rv so, iv 4, rv rs, iv 1]) rfl (rest := []) rfl rfl hby at_261
      refine oWk.to (mkF m 276 #[iv p0, iv p1, iv p2, iv p3, iv p4, iv p5, iv 5, iv pp, rv cs, rv so, iv 4, rv rs, iv 1] [(.int 1)]) (fun _ kt => st _ (zB X hx hby at_264 rfl rfl rfl (zK X hx hby at_266 rfl (oLdC X hx hZ e0 V_cs (3 : Int32) (.int c3) ⟨by decide, by decide⟩ rfl hby at_267 rfl rfl (zY X hx hby at_268 rfl rfl (teq rfl).1 (pc' := 274) rfl (zJ X hx hby at_274 rfl rfl kt)))))) ?_
      exact oRetH X hx hlk hZ (oELw hw) e0 B hret (oNar01 (Or.inr rfl)) (Or.inl ⟨rfl, Or.inr (Or.inl rfl), _, rfl⟩) (hb hby at_276) (by rw [e0]; exact ⟨rfl, K.fr⟩) (by decide) (by decide)
    · refine oWk.to (mkF m 99 #[iv p0, iv p1, iv p2, iv p3, iv p4, iv p5, iv 5, iv pp, rv cs, rv so, uu, uu, uu] []) (fun _ kt => zY X hx hby at_90 rfl rfl (feq hc90).2 (pc' := 99) rfl kt) ?_
      refine oWk.to (mkF m 111 #[iv p0, iv p1, iv p2, iv p3, iv p4, iv p5, iv 5, iv pp, rv cs, rv so, uu, uu, uu] [(.int 58), (.int c3)]) (fun _ kt => zJ X hx hby at_99 rfl rfl (zK X hx hby at_101 rfl (zN X hx hby at_102 rfl rfl (tlt (by decide)).2.2.2 (zB X hx hby at_105 rfl rfl rfl (zK X hx hby at_107 rfl (oLdC X hx hZ e0 V_cs (3 : Int32) (.int c3) ⟨by decide, by decide⟩ rfl hby at_108 rfl rfl (zL X hx hby at_109 rfl kt))))))) ?_
      by_cases hc111 : c3 = (58 : Int32)
      · refine oWk.to (mkF m 114 #[iv p0, iv p1, iv p2, iv p3, iv p4, iv p5, iv 5, iv pp, rv cs, rv so, uu, uu, uu] []) (fun _ kt => zN X hx hby at_111 rfl rfl (teq hc111).2 kt) ?_
        refine oWk.st (fun _ kt => zK X hx hby at_114 rfl (zS X hx hby at_115 rfl rfl (l' := #[iv p0, iv p1, iv p2, iv p3, iv p4, iv p5, iv 5, iv pp, rv cs, rv so, iv 3, uu, uu]) rfl (zG X hx hby at_117 rfl (pc' := 165) rfl (zB X hx hby at_165 rfl rfl rfl kt)))) ?_
        have lt_cs := V_cs.lt
        have lt_so := E_so.lt
        have lt_sob := V_sob.lt
        have Oh := K.old O0 all0
        obtain ⟨_, T, h, Lc191, X, e0, hQ, st⟩ := (cs28 hw).run X hx hZ hown e0 (A := [(.ref so)]) rfl (rSP_5_3 l Z a0 hw [] so sob sobk xfm xz c0 c1 c2 c3 c4 h Oh S_COMPACT_STRINGS hz S_SIOOBE_FORMATTER hcat E_so F_coder_so F_value_so V_sob (oB58 hc111) (oBn58 hr4 hc90)) (W := 0) (by decide) hml (Ls := #[iv p0, iv p1, iv p2, iv p3, iv p4, iv p5, iv 5, iv pp, rv cs, rv so, iv 3, uu, uu]) rfl (rest := []) rfl rfl hby at_167
        obtain ⟨rs, rb, rk, rfl, K190, gn_rs, gn_rb, E_rs, F_coder_rs, F_value_rs, V_rb⟩ := hQ
        have ge_rs := Nat.le_trans K.le gn_rs
        have ne_cs_rs : cs ≠ rs := Nat.ne_of_lt (Nat.lt_of_lt_of_le lt_cs gn_rs)
        have ne_so_rs : so ≠ rs := Nat.ne_of_lt (Nat.lt_of_lt_of_le lt_so gn_rs)
        have ne_sob_rs : sob ≠ rs := Nat.ne_of_lt (Nat.lt_of_lt_of_le lt_sob gn_rs)
        have ge_rb := Nat.le_trans K.le gn_rb
        have ne_cs_rb : cs ≠ rb := Nat.ne_of_lt (Nat.lt_of_lt_of_le lt_cs gn_rb)
        have ne_so_rb : so ≠ rb := Nat.ne_of_lt (Nat.lt_of_lt_of_le lt_so gn_rb)
        have ne_sob_rb : sob ≠ rb := Nat.ne_of_lt (Nat.lt_of_lt_of_le lt_sob gn_rb)
        have K := K.call K190 all0
        have sf_cs := Safe.keep K190.1 sf0 B.2.1 sf_cs
        have B := B.keep K190.1 sf0
        refine oWk.st (fun _ kt => st _ (zT X hx hby at_170 rfl rfl rfl (l' := #[iv p0, iv p1, iv p2, iv p3, iv p4, iv p5, iv 5, iv pp, rv cs, rv so, iv 3, rv rs, uu]) rfl (zB X hx hby at_172 rfl rfl rfl kt))) ?_
        have Oh := K.old O0 all0
        obtain ⟨T, L193, X, e0, K, st⟩ := (cs27 hw).pure X hx hZ hown e0 K (A := [(.ref rs)]) ⟨rfl, _, _, rfl, E_rs⟩ (rLn_3 l Z a0 hw [] rs rb rk xz c0 c1 c2 h Oh S_COMPACT_STRINGS hz E_rs F_coder_rs F_value_rs V_rb) (fun _ _ _ q => q) (W := 0) (by decide) hml (Ls := #[iv p0, iv p1, iv p2, iv p3, iv p4, iv p5, iv 5, iv pp, rv cs, rv so, iv 3, rv rs, uu]) rfl (rest := []) rfl rfl hby at_174
        refine oWk.to (mkF m 192 #[iv p0, iv p1, iv p2, iv p3, iv p4, iv p5, iv 5, iv pp, rv cs, rv so, iv 3, rv rs, iv 1] []) (fun _ kt => st _ (zJ X hx hby at_177 rfl rfl (zY X hx hby at_179 rfl rfl (teq (by decide)).1 (pc' := 184) rfl (zK X hx hby at_184 rfl (zS X hx hby at_185 rfl rfl (l' := #[iv p0, iv p1, iv p2, iv p3, iv p4, iv p5, iv 5, iv pp, rv cs, rv so, iv 3, rv rs, iv 1]) rfl (zJ X hx hby at_187 rfl rfl (zH X hx hby at_189 rfl rfl ((if0 _ _).trans (tlt (by decide)).2.2.2) kt))))))) ?_
        refine oWk.st (fun _ kt => zB X hx hby at_192 rfl rfl rfl (zK X hx hby at_194 rfl kt)) ?_
        obtain ⟨T, L195, X, e0, K, st⟩ := (cs29 hw).pure X hx hZ hown e0 K (A := [(.ref rs), (.int (0 : Int32))]) ⟨rfl, _, _, rfl, E_rs⟩ (rCA_3_0 l Z a0 hw [] rs rb rk xfm xz c0 c1 c2 h Oh S_COMPACT_STRINGS hz S_SIOOBE_FORMATTER hcat hr0 E_rs F_coder_rs F_value_rs V_rb) (fun _ _ _ q => q) (W := 0) (by decide) hml (Ls := #[iv p0, iv p1, iv p2, iv p3, iv p4, iv p5, iv 5, iv pp, rv cs, rv so, iv 3, rv rs, iv 1]) rfl (rest := []) rfl rfl hby at_195
        refine oWk.st (fun _ kt => st _ (zB X hx hby at_198 rfl rfl rfl (zK X hx hby at_200 rfl kt))) ?_
        have V_cs := (V_cs.keep K190.1 nin0)
        refine oWk.to (mkF m 217 #[iv p0, iv p1, iv p2, iv p3, iv p4, iv p5, iv 5, iv pp, rv cs, rv so, iv 3, rv rs, iv 1] [(.int 1), (.ref rs)]) (fun _ kt => oLdC X hx hZ e0 V_cs (0 : Int32) (.int c0) ⟨by decide, by decide⟩ rfl hby at_201 rfl rfl (zY X hx hby at_202 rfl rfl (teq rfl).1 (pc' := 208) rfl (zJ X hx hby at_208 rfl rfl (zK X hx hby at_210 rfl (zN X hx hby at_211 rfl rfl (tlt (by decide)).2.2.2 (zB X hx hby at_214 rfl rfl rfl (zK X hx hby at_216 rfl kt))))))) ?_
        obtain ⟨T, L198, X, e0, K, st⟩ := (cs29 hw).pure X hx hZ hown e0 K (A := [(.ref rs), (.int (1 : Int32))]) ⟨rfl, _, _, rfl, E_rs⟩ (rCA_3_1 l Z a0 hw [] rs rb rk xfm xz c0 c1 c2 h Oh S_COMPACT_STRINGS hz S_SIOOBE_FORMATTER hcat hr1 E_rs F_coder_rs F_value_rs V_rb) (fun _ _ _ q => q) (W := 0) (by decide) hml (Ls := #[iv p0, iv p1, iv p2, iv p3, iv p4, iv p5, iv 5, iv pp, rv cs, rv so, iv 3, rv rs, iv 1]) rfl (rest := []) rfl rfl hby at_217
        refine oWk.to (mkF m 233 #[iv p0, iv p1, iv p2, iv p3, iv p4, iv p5, iv 5, iv pp, rv cs, rv so, iv 3, rv rs, iv 1] [(.int 2), (.int 3)]) (fun _ kt => st _ (zB X hx hby at_220 rfl rfl rfl (zK X hx hby at_222 rfl (oLdC X hx hZ e0 V_cs (1 : Int32) (.int c1) ⟨by decide, by decide⟩ rfl hby at_223 rfl rfl (zY X hx hby at_224 rfl rfl (teq rfl).1 (pc' := 230) rfl (zJ X hx hby at_230 rfl rfl (zK X hx hby at_232 rfl kt))))))) ?_
        refine oWk.st (fun _ kt => zN X hx hby at_233 rfl rfl (tlt (by decide)).2.2.2 (zB X hx hby at_236 rfl rfl rfl (zK X hx hby at_238 rfl kt))) ?_
        obtain ⟨T, L201, X, e0, K, st⟩ := (cs29 hw).pure X hx hZ hown e0 K (A := [(.ref rs), (.int (2 : Int32))]) ⟨rfl, _, _, rfl, E_rs⟩ (rCA_3_2 l Z a0 hw [] rs rb rk xfm xz c0 c1 c2 h Oh S_COMPACT_STRINGS hz S_SIOOBE_FORMATTER hcat hr2 E_rs F_coder_rs F_value_rs V_rb) (fun _ _ _ q => q) (W := 0) (by decide) hml (Ls := #[iv p0, iv p1, iv p2, iv p3, iv p4, iv p5, iv 5, iv pp, rv cs, rv so, iv 3, rv rs, iv 1]) rfl (rest := []) rfl rfl hby at_239
        refine oWk.to (mkF m 255 #[iv p0, iv p1, iv p2, iv p3, iv p4, iv p5, iv 5, iv pp, rv cs, rv so, iv 3, rv rs, iv 1] [(.int 3), (.int 3)]) (fun _ kt => st _ (zB X hx hby at_242 rfl rfl rfl (zK X hx hby at_244 rfl (oLdC X hx hZ e0 V_cs (2 : Int32) (.int c2) ⟨by decide, by decide⟩ rfl hby at_245 rfl rfl (zY X hx hby at_246 rfl rfl (teq rfl).1 (pc' := 252) rfl (zJ X hx hby at_252 rfl rfl (zK X hx hby at_254 rfl kt))))))) ?_
        refine oWk.to (mkF m 276 #[iv p0, iv p1, iv p2, iv p3, iv p4, iv p5, iv 5, iv pp, rv cs, rv so, iv 3, rv rs, iv 1] [(.int 1)]) (fun _ kt => zY X hx hby at_255 rfl rfl (flt (by decide)).2.2.2 (pc' := 274) rfl (zJ X hx hby at_274 rfl rfl kt)) ?_
        exact oRetH X hx hlk hZ (oELw hw) e0 B hret (oNar01 (Or.inr rfl)) (Or.inl ⟨rfl, Or.inr (Or.inl rfl), _, rfl⟩) (hb hby at_276) (by rw [e0]; exact ⟨rfl, K.fr⟩) (by decide) (by decide)
      · refine oWk.to (mkF m 120 #[iv p0, iv p1, iv p2, iv p3, iv p4, iv p5, iv 5, iv pp, rv cs, rv so, uu, uu, uu] []) (fun _ kt => zY X hx hby at_111 rfl rfl (feq hc111).2 (pc' := 120) rfl kt) ?_
        refine oWk.to (mkF m 132 #[iv p0, iv p1, iv p2, iv p3, iv p4, iv p5, iv 5, iv pp, rv cs, rv so, uu, uu, uu] [(.int 58), (.int c2)]) (fun _ kt => zJ X hx hby at_120 rfl rfl (zK X hx hby at_122 rfl (zN X hx hby at_123 rfl rfl (tlt (by decide)).2.2.2 (zB X hx hby at_126 rfl rfl rfl (zK X hx hby at_128 rfl (oLdC X hx hZ e0 V_cs (2 : Int32) (.int c2) ⟨by decide, by decide⟩ rfl hby at_129 rfl rfl (zL X hx hby at_130 rfl kt))))))) ?_
        by_cases hc132 : c2 = (58 : Int32)
        · refine oWk.to (mkF m 135 #[iv p0, iv p1, iv p2, iv p3, iv p4, iv p5, iv 5, iv pp, rv cs, rv so, uu, uu, uu] []) (fun _ kt => zN X hx hby at_132 rfl rfl (teq hc132).2 kt) ?_
          refine oWk.st (fun _ kt => zK X hx hby at_135 rfl (zS X hx hby at_136 rfl rfl (l' := #[iv p0, iv p1, iv p2, iv p3, iv p4, iv p5, iv 5, iv pp, rv cs, rv so, iv 2, uu, uu]) rfl (zG X hx hby at_138 rfl (pc' := 165) rfl (zB X hx hby at_165 rfl rfl rfl kt)))) ?_
          have lt_cs := V_cs.lt
          have lt_so := E_so.lt
          have lt_sob := V_sob.lt
          have Oh := K.old O0 all0
          obtain ⟨_, T, h, Lc205, X, e0, hQ, st⟩ := (cs28 hw).run X hx hZ hown e0 (A := [(.ref so)]) rfl (rSP_5_2 l Z a0 hw [] so sob sobk xfm xz c0 c1 c2 c3 c4 h Oh S_COMPACT_STRINGS hz S_SIOOBE_FORMATTER hcat E_so F_coder_so F_value_so V_sob (oB58 hc132) (oBn58 hr3 hc111) (oBn58 hr4 hc90)) (W := 0) (by decide) hml (Ls := #[iv p0, iv p1, iv p2, iv p3, iv p4, iv p5, iv 5, iv pp, rv cs, rv so, iv 2, uu, uu]) rfl (rest := []) rfl rfl hby at_167
          obtain ⟨rs, rb, rk, rfl, K204, gn_rs, gn_rb, E_rs, F_coder_rs, F_value_rs, V_rb⟩ := hQ
          have ge_rs := Nat.le_trans K.le gn_rs
          have ne_cs_rs : cs ≠ rs := Nat.ne_of_lt (Nat.lt_of_lt_of_le lt_cs gn_rs)
          have ne_so_rs : so ≠ rs := Nat.ne_of_lt (Nat.lt_of_lt_of_le lt_so gn_rs)
          have ne_sob_rs : sob ≠ rs := Nat.ne_of_lt (Nat.lt_of_lt_of_le lt_sob gn_rs)
          have ge_rb := Nat.le_trans K.le gn_rb
          have ne_cs_rb : cs ≠ rb := Nat.ne_of_lt (Nat.lt_of_lt_of_le lt_cs gn_rb)
          have ne_so_rb : so ≠ rb := Nat.ne_of_lt (Nat.lt_of_lt_of_le lt_so gn_rb)
          have ne_sob_rb : sob ≠ rb := Nat.ne_of_lt (Nat.lt_of_lt_of_le lt_sob gn_rb)
          have K := K.call K204 all0
          have sf_cs := Safe.keep K204.1 sf0 B.2.1 sf_cs
          have B := B.keep K204.1 sf0
          refine oWk.st (fun _ kt => st _ (zT X hx hby at_170 rfl rfl rfl (l' := #[iv p0, iv p1, iv p2, iv p3, iv p4, iv p5, iv 5, iv pp, rv cs, rv so, iv 2, rv rs, uu]) rfl (zB X hx hby at_172 rfl rfl rfl kt))) ?_
          have Oh := K.old O0 all0
          obtain ⟨T, L207, X, e0, K, st⟩ := (cs27 hw).pure X hx hZ hown e0 K (A := [(.ref rs)]) ⟨rfl, _, _, rfl, E_rs⟩ (rLn_2 l Z a0 hw [] rs rb rk xz c0 c1 h Oh S_COMPACT_STRINGS hz E_rs F_coder_rs F_value_rs V_rb) (fun _ _ _ q => q) (W := 0) (by decide) hml (Ls := #[iv p0, iv p1, iv p2, iv p3, iv p4, iv p5, iv 5, iv pp, rv cs, rv so, iv 2, rv rs, uu]) rfl (rest := []) rfl rfl hby at_174
          refine oWk.to (mkF m 192 #[iv p0, iv p1, iv p2, iv p3, iv p4, iv p5, iv 5, iv pp, rv cs, rv so, iv 2, rv rs, iv 1] []) (fun _ kt => st _ (zJ X hx hby at_177 rfl rfl (zY X hx hby at_179 rfl rfl (teq (by decide)).1 (pc' := 184) rfl (zK X hx hby at_184 rfl (zS X hx hby at_185 rfl rfl (l' := #[iv p0, iv p1, iv p2, iv p3, iv p4, iv p5, iv 5, iv pp, rv cs, rv so, iv 2, rv rs, iv 1]) rfl (zJ X hx hby at_187 rfl rfl (zH X hx hby at_189 rfl rfl ((if0 _ _).trans (tlt (by decide)).2.2.2) kt))))))) ?_
          refine oWk.st (fun _ kt => zB X hx hby at_192 rfl rfl rfl (zK X hx hby at_194 rfl kt)) ?_
          obtain ⟨T, L209, X, e0, K, st⟩ := (cs29 hw).pure X hx hZ hown e0 K (A := [(.ref rs), (.int (0 : Int32))]) ⟨rfl, _, _, rfl, E_rs⟩ (rCA_2_0 l Z a0 hw [] rs rb rk xfm xz c0 c1 h Oh S_COMPACT_STRINGS hz S_SIOOBE_FORMATTER hcat hr0 E_rs F_coder_rs F_value_rs V_rb) (fun _ _ _ q => q) (W := 0) (by decide) hml (Ls := #[iv p0, iv p1, iv p2, iv p3, iv p4, iv p5, iv 5, iv pp, rv cs, rv so, iv 2, rv rs, iv 1]) rfl (rest := []) rfl rfl hby at_195
          refine oWk.st (fun _ kt => st _ (zB X hx hby at_198 rfl rfl rfl (zK X hx hby at_200 rfl kt))) ?_
          have V_cs := (V_cs.keep K204.1 nin0)
          refine oWk.to (mkF m 217 #[iv p0, iv p1, iv p2, iv p3, iv p4, iv p5, iv 5, iv pp, rv cs, rv so, iv 2, rv rs, iv 1] [(.int 1), (.ref rs)]) (fun _ kt => oLdC X hx hZ e0 V_cs (0 : Int32) (.int c0) ⟨by decide, by decide⟩ rfl hby at_201 rfl rfl (zY X hx hby at_202 rfl rfl (teq rfl).1 (pc' := 208) rfl (zJ X hx hby at_208 rfl rfl (zK X hx hby at_210 rfl (zN X hx hby at_211 rfl rfl (tlt (by decide)).2.2.2 (zB X hx hby at_214 rfl rfl rfl (zK X hx hby at_216 rfl kt))))))) ?_
          obtain ⟨T, L212, X, e0, K, st⟩ := (cs29 hw).pure X hx hZ hown e0 K (A := [(.ref rs), (.int (1 : Int32))]) ⟨rfl, _, _, rfl, E_rs⟩ (rCA_2_1 l Z a0 hw [] rs rb rk xfm xz c0 c1 h Oh S_COMPACT_STRINGS hz S_SIOOBE_FORMATTER hcat hr1 E_rs F_coder_rs F_value_rs V_rb) (fun _ _ _ q => q) (W := 0) (by decide) hml (Ls := #[iv p0, iv p1, iv p2, iv p3, iv p4, iv p5, iv 5, iv pp, rv cs, rv so, iv 2, rv rs, iv 1]) rfl (rest := []) rfl rfl hby at_217
          refine oWk.to (mkF m 233 #[iv p0, iv p1, iv p2, iv p3, iv p4, iv p5, iv 5, iv pp, rv cs, rv so, iv 2, rv rs, iv 1] [(.int 2), (.int 2)]) (fun _ kt => st _ (zB X hx hby at_220 rfl rfl rfl (zK X hx hby at_222 rfl (oLdC X hx hZ e0 V_cs (1 : Int32) (.int c1) ⟨by decide, by decide⟩ rfl hby at_223 rfl rfl (zY X hx hby at_224 rfl rfl (teq rfl).1 (pc' := 230) rfl (zJ X hx hby at_230 rfl rfl (zK X hx hby at_232 rfl kt))))))) ?_
          refine oWk.to (mkF m 276 #[iv p0, iv p1, iv p2, iv p3, iv p4, iv p5, iv 5, iv pp, rv cs, rv so, iv 2, rv rs, iv 1] [(.int 1)]) (fun _ kt => zY X hx hby at_233 rfl rfl (flt (by decide)).2.2.2 (pc' := 252) rfl (zJ X hx hby at_252 rfl rfl (zK X hx hby at_254 rfl (zY X hx hby at_255 rfl rfl (flt (by decide)).2.2.2 (pc' := 274) rfl (zJ X hx hby at_274 rfl rfl kt))))) ?_
          exact oRetH X hx hlk hZ (oELw hw) e0 B hret (oNar01 (Or.inr rfl)) (Or.inl ⟨rfl, Or.inr (Or.inl rfl), _, rfl⟩) (hb hby at_276) (by rw [e0]; exact ⟨rfl, K.fr⟩) (by decide) (by decide)
        · refine oWk.to (mkF m 141 #[iv p0, iv p1, iv p2, iv p3, iv p4, iv p5, iv 5, iv pp, rv cs, rv so, uu, uu, uu] []) (fun _ kt => zY X hx hby at_132 rfl rfl (feq hc132).2 (pc' := 141) rfl kt) ?_
          refine oWk.to (mkF m 153 #[iv p0, iv p1, iv p2, iv p3, iv p4, iv p5, iv 5, iv pp, rv cs, rv so, uu, uu, uu] [(.int 58), (.int c1)]) (fun _ kt => zJ X hx hby at_141 rfl rfl (zK X hx hby at_143 rfl (zN X hx hby at_144 rfl rfl (tlt (by decide)).2.2.2 (zB X hx hby at_147 rfl rfl rfl (zK X hx hby at_149 rfl (oLdC X hx hZ e0 V_cs (1 : Int32) (.int c1) ⟨by decide, by decide⟩ rfl hby at_150 rfl rfl (zL X hx hby at_151 rfl kt))))))) ?_
          by_cases hc153 : c1 = (58 : Int32)
          · refine oWk.to (mkF m 156 #[iv p0, iv p1, iv p2, iv p3, iv p4, iv p5, iv 5, iv pp, rv cs, rv so, uu, uu, uu] []) (fun _ kt => zN X hx hby at_153 rfl rfl (teq hc153).2 kt) ?_
            refine oWk.st (fun _ kt => zK X hx hby at_156 rfl (zS X hx hby at_157 rfl rfl (l' := #[iv p0, iv p1, iv p2, iv p3, iv p4, iv p5, iv 5, iv pp, rv cs, rv so, iv 1, uu, uu]) rfl (zG X hx hby at_159 rfl (pc' := 165) rfl (zB X hx hby at_165 rfl rfl rfl kt)))) ?_
            have lt_cs := V_cs.lt
            have lt_so := E_so.lt
            have lt_sob := V_sob.lt
            have Oh := K.old O0 all0
            obtain ⟨_, T, h, Lc216, X, e0, hQ, st⟩ := (cs28 hw).run X hx hZ hown e0 (A := [(.ref so)]) rfl (rSP_5_1 l Z a0 hw [] so sob sobk xfm xz c0 c1 c2 c3 c4 h Oh S_COMPACT_STRINGS hz S_SIOOBE_FORMATTER hcat E_so F_coder_so F_value_so V_sob (oB58 hc153) (oBn58 hr2 hc132) (oBn58 hr3 hc111) (oBn58 hr4 hc90)) (W := 0) (by decide) hml (Ls := #[iv p0, iv p1, iv p2, iv p3, iv p4, iv p5, iv 5, iv pp, rv cs, rv so, iv 1, uu, uu]) rfl (rest := []) rfl rfl hby at_167
            obtain ⟨rs, rb, rk, rfl, K215, gn_rs, gn_rb, E_rs, F_coder_rs, F_value_rs, V_rb⟩ := hQ
            have ge_rs := Nat.le_trans K.le gn_rs
            have ne_cs_rs : cs ≠ rs := Nat.ne_of_lt (Nat.lt_of_lt_of_le lt_cs gn_rs)
            have ne_so_rs : so ≠ rs := Nat.ne_of_lt (Nat.lt_of_lt_of_le lt_so gn_rs)
            have ne_sob_rs : sob ≠ rs := Nat.ne_of_lt (Nat.lt_of_lt_of_le lt_sob gn_rs)
            have ge_rb := Nat.le_trans K.le gn_rb
            have ne_cs_rb : cs ≠ rb := Nat.ne_of_lt (Nat.lt_of_lt_of_le lt_cs gn_rb)
            have ne_so_rb : so ≠ rb := Nat.ne_of_lt (Nat.lt_of_lt_of_le lt_so gn_rb)
            have ne_sob_rb : sob ≠ rb := Nat.ne_of_lt (Nat.lt_of_lt_of_le lt_sob gn_rb)
            have K := K.call K215 all0
            have sf_cs := Safe.keep K215.1 sf0 B.2.1 sf_cs
            have B := B.keep K215.1 sf0
            refine oWk.st (fun _ kt => st _ (zT X hx hby at_170 rfl rfl rfl (l' := #[iv p0, iv p1, iv p2, iv p3, iv p4, iv p5, iv 5, iv pp, rv cs, rv so, iv 1, rv rs, uu]) rfl (zB X hx hby at_172 rfl rfl rfl kt))) ?_
            have Oh := K.old O0 all0
            obtain ⟨T, L218, X, e0, K, st⟩ := (cs27 hw).pure X hx hZ hown e0 K (A := [(.ref rs)]) ⟨rfl, _, _, rfl, E_rs⟩ (rLn_1 l Z a0 hw [] rs rb rk xz c0 h Oh S_COMPACT_STRINGS hz E_rs F_coder_rs F_value_rs V_rb) (fun _ _ _ q => q) (W := 0) (by decide) hml (Ls := #[iv p0, iv p1, iv p2, iv p3, iv p4, iv p5, iv 5, iv pp, rv cs, rv so, iv 1, rv rs, uu]) rfl (rest := []) rfl rfl hby at_174
            refine oWk.to (mkF m 192 #[iv p0, iv p1, iv p2, iv p3, iv p4, iv p5, iv 5, iv pp, rv cs, rv so, iv 1, rv rs, iv 1] []) (fun _ kt => st _ (zJ X hx hby at_177 rfl rfl (zY X hx hby at_179 rfl rfl (teq (by decide)).1 (pc' := 184) rfl (zK X hx hby at_184 rfl (zS X hx hby at_185 rfl rfl (l' := #[iv p0, iv p1, iv p2, iv p3, iv p4, iv p5, iv 5, iv pp, rv cs, rv so, iv 1, rv rs, iv 1]) rfl (zJ X hx hby at_187 rfl rfl (zH X hx hby at_189 rfl rfl ((if0 _ _).trans (tlt (by decide)).2.2.2) kt))))))) ?_
            refine oWk.st (fun _ kt => zB X hx hby at_192 rfl rfl rfl (zK X hx hby at_194 rfl kt)) ?_
            obtain ⟨T, L220, X, e0, K, st⟩ := (cs29 hw).pure X hx hZ hown e0 K (A := [(.ref rs), (.int (0 : Int32))]) ⟨rfl, _, _, rfl, E_rs⟩ (rCA_1_0 l Z a0 hw [] rs rb rk xfm xz c0 h Oh S_COMPACT_STRINGS hz S_SIOOBE_FORMATTER hcat hr0 E_rs F_coder_rs F_value_rs V_rb) (fun _ _ _ q => q) (W := 0) (by decide) hml (Ls := #[iv p0, iv p1, iv p2, iv p3, iv p4, iv p5, iv 5, iv pp, rv cs, rv so, iv 1, rv rs, iv 1]) rfl (rest := []) rfl rfl hby at_195
            refine oWk.st (fun _ kt => st _ (zB X hx hby at_198 rfl rfl rfl (zK X hx hby at_200 rfl kt))) ?_
            have V_cs := (V_cs.keep K215.1 nin0)
            refine oWk.to (mkF m 233 #[iv p0, iv p1, iv p2, iv p3, iv p4, iv p5, iv 5, iv pp, rv cs, rv so, iv 1, rv rs, iv 1] [(.int 2), (.int 1)]) (fun _ kt => oLdC X hx hZ e0 V_cs (0 : Int32) (.int c0) ⟨by decide, by decide⟩ rfl hby at_201 rfl rfl (zY X hx hby at_202 rfl rfl (teq rfl).1 (pc' := 208) rfl (zJ X hx hby at_208 rfl rfl (zK X hx hby at_210 rfl (zY X hx hby at_211 rfl rfl (flt (by decide)).2.2.2 (pc' := 230) rfl (zJ X hx hby at_230 rfl rfl (zK X hx hby at_232 rfl kt))))))) ?_
            refine oWk.to (mkF m 276 #[iv p0, iv p1, iv p2, iv p3, iv p4, iv p5, iv 5, iv pp, rv cs, rv so, iv 1, rv rs, iv 1] [(.int 1)]) (fun _ kt => zY X hx hby at_233 rfl rfl (flt (by decide)).2.2.2 (pc' := 252) rfl (zJ X hx hby at_252 rfl rfl (zK X hx hby at_254 rfl (zY X hx hby at_255 rfl rfl (flt (by decide)).2.2.2 (pc' := 274) rfl (zJ X hx hby at_274 rfl rfl kt))))) ?_
            exact oRetH X hx hlk hZ (oELw hw) e0 B hret (oNar01 (Or.inr rfl)) (Or.inl ⟨rfl, Or.inr (Or.inl rfl), _, rfl⟩) (hb hby at_276) (by rw [e0]; exact ⟨rfl, K.fr⟩) (by decide) (by decide)
          · refine oWk.to (mkF m 162 #[iv p0, iv p1, iv p2, iv p3, iv p4, iv p5, iv 5, iv pp, rv cs, rv so, uu, uu, uu] []) (fun _ kt => zY X hx hby at_153 rfl rfl (feq hc153).2 (pc' := 162) rfl kt) ?_
            refine oWk.st (fun _ kt => zK X hx hby at_162 rfl (zS X hx hby at_163 rfl rfl (l' := #[iv p0, iv p1, iv p2, iv p3, iv p4, iv p5, iv 5, iv pp, rv cs, rv so, iv 0, uu, uu]) rfl (zB X hx hby at_165 rfl rfl rfl kt))) ?_
            have Oh := K.old O0 all0
            obtain ⟨_, _, ⟨T, L223, k223, n223⟩, -, X, hS, hgr, ⟨Lc223, hQ, l223, y223, z223, C⟩, st⟩ := callSS X hx (y := yy19) hown (mvT hZ (oW hw 38 rfl)) (mvT hZ (oW hw 39 rfl)) (mvT hZ (oW hw 40 rfl)) (mvT hZ (oW hw 41 rfl)) (by decide) (oBackH (W := 0) (rSP_5_0 l Z a0 hw [] so sob sobk xfm xz c0 c1 c2 c3 c4 h Oh S_COMPACT_STRINGS hz S_SIOOBE_FORMATTER hcat E_so F_coder_so F_value_so V_sob (oB58 (hex.resolve_right (fun z => z.elim hc153 (fun z' => z'.elim hc132 (fun z'' => z''.elim hc111 (fun z''' => hc90 z''')))))) (oBn58 hr1 hc153) (oBn58 hr2 hc132) (oBn58 hr3 hc111) (oBn58 hr4 hc90)) hZ (oW hw 41 rfl) (oW hw 40 rfl) (by decide) (by decide) (oELw hw) B.2.1 all0) (g := (mkF m 167 #[iv p0, iv p1, iv p2, iv p3, iv p4, iv p5, iv 5, iv pp, rv cs, rv so, iv 0, uu, uu] [(.ref so)])) rfl (by rw [hml]; rfl) (argsL := [(.ref so)]) (rest := []) (lenOf pd_23 rfl) rfl (Nat.le_of_eq rfl) (hb hby at_167) (fun _ _ => ⟨rfl, e0, (by decide : 4 + 2 ≤ _), (by decide : 19 + 4 ≤ _)⟩)
            dsimp only [Pt.U, Pt.locs, Pt.cells, Pt.slots] at X l223 y223 z223 st hQ C hS hgr
            subst l223 y223 z223
            have X : Stand p l e _ (s.setVm T.vm) m _ below meth c T _ _ _ := X
            obtain ⟨h, e2⟩ : ∃ z, T.heap = z := ⟨_, rfl⟩
            have B := B.call e0 hS hgr C e2
            obtain ⟨hZ, hown⟩ := oWide hZ hown hS
            rw [e2] at hQ C
            have sf_cs := C.safe V_cs.lt sf_cs
            have e0 := e2
            obtain ⟨rs, rb, rk, rfl, K222, E_rs, F_coder_rs, F_value_rs, V_rb⟩ := hQ
            have K := K.call K222 all0
            refine oWk.st (fun _ kt => st.trans (zT X hx hby at_170 rfl rfl rfl (l' := #[iv p0, iv p1, iv p2, iv p3, iv p4, iv p5, iv 5, iv pp, rv cs, rv so, iv 0, rv rs, uu]) rfl (zB X hx hby at_172 rfl rfl rfl kt))) ?_
            have Oh := K.old O0 all0
            obtain ⟨T, L225, X, e0, K, st⟩ := (cs27 hw).pure X hx hZ hown e0 K (A := [(.ref rs)]) ⟨rfl, _, _, rfl, E_rs⟩ (rLn_0 l Z a0 hw [] rs rb rk xz h Oh S_COMPACT_STRINGS hz E_rs F_coder_rs F_value_rs V_rb) (fun _ _ _ q => q) (W := 0) (by decide) hml (Ls := #[iv p0, iv p1, iv p2, iv p3, iv p4, iv p5, iv 5, iv pp, rv cs, rv so, iv 0, rv rs, uu]) rfl (rest := []) rfl rfl hby at_174
            refine oWk.to (mkF m 208 #[iv p0, iv p1, iv p2, iv p3, iv p4, iv p5, iv 5, iv pp, rv cs, rv so, iv 0, rv rs, iv 1] []) (fun _ kt => st _ (zJ X hx hby at_177 rfl rfl (zY X hx hby at_179 rfl rfl (teq (by decide)).1 (pc' := 184) rfl (zK X hx hby at_184 rfl (zS X hx hby at_185 rfl rfl (l' := #[iv p0, iv p1, iv p2, iv p3, iv p4, iv p5, iv 5, iv pp, rv cs, rv so, iv 0, rv rs, iv 1]) rfl (zJ X hx hby at_187 rfl rfl (zF X hx hby at_189 rfl rfl ((if0 _ _).trans (flt (by decide)).2.2.2) (pc' := 208) rfl kt))))))) ?_
            refine oWk.to (mkF m 254 #[iv p0, iv p1, iv p2, iv p3, iv p4, iv p5, iv 5, iv pp, rv cs, rv so, iv 0, rv rs, iv 1] [(.int 0)]) (fun _ kt => zJ X hx hby at_208 rfl rfl (zK X hx hby at_210 rfl (zY X hx hby at_211 rfl rfl (flt (by decide)).2.2.2 (pc' := 230) rfl (zJ X hx hby at_230 rfl rfl (zK X hx hby at_232 rfl (zY X hx hby at_233 rfl rfl (flt (by decide)).2.2.2 (pc' := 252) rfl (zJ X hx hby at_252 rfl rfl kt))))))) ?_
            refine oWk.to (mkF m 276 #[iv p0, iv p1, iv p2, iv p3, iv p4, iv p5, iv 5, iv pp, rv cs, rv so, iv 0, rv rs, iv 1] [(.int 1)]) (fun _ kt => zK X hx hby at_254 rfl (zY X hx hby at_255 rfl rfl (flt (by decide)).2.2.2 (pc' := 274) rfl (zJ X hx hby at_274 rfl rfl kt))) ?_
            exact oRetH X hx hlk hZ (oELw hw) e0 B hret (oNar01 (Or.inr rfl)) (Or.inl ⟨rfl, Or.inr (Or.inl rfl), _, rfl⟩) (hb hby at_276) (by rw [e0]; exact ⟨rfl, K.fr⟩) (by decide) (by decide)
theorem comes_1 {Post : Tables → Env → Array Value → State → Outcome → State → Prop} (hpost : ∀ tb e args s v u, (limb_1_1.after args s (.returned v) u = true ∧ limb_1_2.after args s (.returned v) u = true ∧ True) → ReturnedEndW s (.returned v) u (Jvm.fieldLocs frame_1_writes args s ++ Jvm.arrayLocs frame_1_arrays args s ++ Jvm.staticLocs frame_1_statics s) 24 1152 → Post tb e args s (.returned v) u) :
    ArmFor flags0 classFile x code maxLocals ret World_1 tables_1 room_1 Calls_1 rest_1 Pre_1 Post := by
  intro l hfl _ _ p e ha hc hk s m args below hf hA hF happ hP
  obtain ⟨hcalls, hrest, hpre⟩ := hP
  obtain ⟨-, -, -, hnamed, -, -, -, hat⟩ := (Spec.applies_iff hf).mp happ
  obtain ⟨hg, hn⟩ := and_e (Cond.before_iff.mp (show (Jvm.Cond.and given_1 narrow_1).before args s = true from hpre))
  obtain ⟨n1, n2⟩ := and_e hg
  obtain ⟨n3, n4⟩ := and_e n2
  obtain ⟨n5, n6⟩ := and_e n4
  obtain ⟨n7, n8⟩ := and_e n6
  obtain ⟨n9, n10⟩ := and_e n8
  obtain ⟨n11, n12⟩ := and_e n10
  obtain ⟨w0, w1, w2, w3, w4, w5, rfl⟩ : ∃ w0 w1 w2 w3 w4 w5 : Value, args = #[w0, w1, w2, w3, w4, w5] := by
    have hs : args.size = 6 := by simpa [Cond.value, given_1] using n1
    obtain ⟨L⟩ := args
    match L, hs with
    | [w0, w1, w2, w3, w4, w5], _ => exact ⟨w0, w1, w2, w3, w4, w5, rfl⟩
  have hw := fun d (hd : d ∈ tables_1) => atoms_spec (ws := Jvm.Cond.code x code maxLocals ret :: tables_1) hat d (List.mem_cons_of_mem _ hd)
  have hfit : Fit s := fun {y c} hc i hi => by
    obtain ⟨ha, rfl⟩ := Array.getElem?_eq_some_iff.mp hc
    have q := List.all_eq_true.mp ((Array.all_eq_true_iff_forall_mem.mp hF) _ (Array.getElem_mem ha)) i (List.mem_range.mpr hi)
    simpa [Array.getElem?_eq_getElem hi] using q
  obtain ⟨hsets, hown0⟩ := atoms_of _ (rest_1_c_eq ▸ (show rest_1_c.before _ s = true from hrest))
  have hr0 := Cond.before_iff.mp hown0
  obtain ⟨i0, ei0⟩ := is_v n3
  obtain rfl : w0 = (.int i0) := Option.some.inj ei0
  obtain ⟨i1, ei1⟩ := is_v n5
  obtain rfl : w1 = (.int i1) := Option.some.inj ei1
  obtain ⟨i2, ei2⟩ := is_v n7
  obtain rfl : w2 = (.int i2) := Option.some.inj ei2
  obtain ⟨i3, ei3⟩ := is_v n9
  obtain rfl : w3 = (.int i3) := Option.some.inj ei3
  obtain ⟨i4, ei4⟩ := is_v n11
  obtain rfl : w4 = (.int i4) := Option.some.inj ei4
  obtain ⟨i5, ei5⟩ := is_v n12
  obtain rfl : w5 = (.int i5) := Option.some.inj ei5
  -- hn: (Jvm.Cond.tt)
  obtain ⟨xz, vz⟩ := is_v (Cond.before_iff.mp (hsets _ (List.mem_of_getElem? (i := 1) rfl)))
  have S_Z := Sta.start vz (Or.inl (hsets _ (List.mem_of_getElem? (i := 0) rfl)))
  have hz : ¬ xz = (0 : Int32) := oNot0 vz (Cond.before_iff.mp (hsets _ (List.mem_of_getElem? (i := 2) rfl)))
  obtain ⟨xfm, vfm, hfm⟩ := isR_v (Cond.before_iff.mp (hsets _ (List.mem_of_getElem? (i := 8) rfl)))
  have S_F := Sta.start vfm (Or.inl (hsets _ (List.mem_of_getElem? (i := 7) rfl)))
  have hcat := oCat hfm
  obtain ⟨n, o, h1, h2, h3, _, L, rfl, ⟨rfl, N⟩, -, hq⟩ := rLaw l s _ hw tables_1 i0 i1 i2 i3 i4 i5 xfm xz s.heap (oExtRefl _) S_Z hz S_F hcat p e ha hc hk s m _ below hf ((Spec.applies_iff_loose hf).mp happ).1 ⟨rfl, State.Warmed39.refl s, rfl, (CHv.start (oELw hw) (fun q hq => by rcases List.mem_singleton.mp hq with rfl; exact hcalls.1 _ (List.mem_of_getElem? (i := 0) rfl)) (hsets _ (List.mem_of_getElem? (i := 2) rfl)) (oW hw 27 rfl) (oW hw 10 rfl)), (fun _ q => nomatch q)⟩ trivial
  refine ⟨n, _, h1, h2, h3, hpost _ _ _ _ _ _ ⟨Cond.after_iff.mpr rfl, Cond.after_iff.mpr (eq_i res_at (Term.int_eval (1)) rfl), trivial⟩ ⟨hq.1, hq.2.1, hq.2.2.1, (hq.2.2.2.sift fun y hy => Or.inr (N y hy)).mono (by decide) (by decide)⟩⟩
theorem main_1_1 : Claimed_1_1 := comes_1 fun _ _ _ _ _ _ h hF => ⟨h.1, hF⟩
theorem main_1_2 : Claimed_1_2 := comes_1 fun _ _ _ _ _ _ h hF => ⟨h.2.1, hF⟩
end Jvm.Pilot.@@N@@
namespace Jvm.Pilot.@@N@@
open Jvm Jvm.ClassFile Sem Op Lib Jvm.Free Jvm.Stand Jvm.Pilot.@@N@@.Jvm.D
/-! MADE BY PROGRAM (witnessworld.py) out of the Statement's table words and the real class files: 23 classes; the members and pool entries that the words name. The judged class is class 1, her method 3. -/
namespace start1
open Jvm.ClassFile
def u (s : String) : CpInfo := .utf8 (stringToUtf16 s)
/-- a pool by its gaps: so many unusable entries, then the entry; so many at the end -/
def gap : Nat → List CpInfo → List CpInfo
  | 0, r => r
  | n + 1, r => .unusable :: gap n r
def poolList (es : List (Nat × CpInfo)) (last : Nat) : List CpInfo := es.foldr (fun e r => gap e.1 (e.2 :: r)) (gap last [])
def pool (es : List (Nat × CpInfo)) (last : Nat) : Array CpInfo := ⟨poolList es last⟩
def fileOf (pool : Array CpInfo) (this : Nat) (attrs : Array Attribute := #[]) (ms : Array MethodInfo := #[]) (fl : Nat := 33) (sup : Nat := 0) (ifs : Array Nat := #[]) (fds : Array FieldInfo := #[]) : ClassFile where
  minorVersion := 0
  majorVersion := 65
  constantPool := pool
  accessFlags := fl
  thisClass := this
  superClass := sup
  interfaces := ifs
  fields := fds
  methods := ms
  attributes := attrs
def plain (name : String) (sup : Option ClassId) : Class where
  name := name
  kind := .ordinary
  loader := none
  accessFlags := 33
  super := sup
  interfaces := #[]
  cf := none
  fields := #[]
  methods := #[]
  instanceTypes := #[]
  staticTypes := #[]
  resolved := #[]
  callSites := []
  init := .initialized
  statics := none
  mirror := none

def pool0 : Array CpInfo := pool [(5, u "<init>"), (0, u "()V"), (1, .class_ 10), (1, u "java/lang/Object")] 113

def k0c0 : Code := { maxStack := 0, maxLocals := 1, code := object_method_1_code, exceptionTable := #[], attributes := #[] }
def k0m0 : Method := { name := "<init>", desc := "()V", sig := { parameters := [], returnType := none }, accessFlags := 1, code := some k0c0 }
/-- java/lang/Object -/
def k0 : Class := { plain "java/lang/Object" none with
  accessFlags := 33
  interfaces := #[]
  cf := some (fileOf pool0 8 #[] #[{ accessFlags := 1, nameIndex := 5, descriptorIndex := 6, attributes := #[] }] 33 0 #[] #[])
  fields := #[]
  methods := #[k0m0]
  instanceTypes := #[]
  staticTypes := #[]
  resolved := Array.replicate 124 none
  statics := none }

def pool1 : Array CpInfo := pool [(2, .class_ 4), (1, u "java/lang/Object"), (0, u "<init>"), (0, u "()V"), (0, .class_ 8), (0, u "java/lang/String"), (0, .methodref 7 10), (0, .nameAndType 5 11), (0, u "([C)V"), (0, .integer 2147483647), (0, .methodref 14 15), (0, .class_ 16), (0, .nameAndType 17 18), (0, u "com/example/tributary/tributary/LocationsSourcePathPinLaw"), (0, u "draw"), (0, u "(I)C"), (0, .methodref 14 20), (0, .nameAndType 21 22), (0, u "build"), (0, u "([CI)Ljava/lang/String;"), (0, .methodref 24 25), (0, .class_ 26), (0, .nameAndType 27 28), (0, u "com/example/tributary/tributary/Locations"), (0, u "sourcePath"), (0, u "(Ljava/lang/String;)Ljava/lang/String;"), (0, .methodref 7 30), (0, .nameAndType 31 32), (0, u "length"), (0, u "()I"), (0, .methodref 7 34), (0, .nameAndType 35 18), (0, u "charAt"), (3, u "law"), (0, u "(IIIIII)Z")] 4

def k1m0 : Method := { name := "<init>", desc := "()V", sig := { parameters := [], returnType := none }, accessFlags := 2, code := none }
def k1c1 : Code := { maxStack := 2, maxLocals := 1, code := method_2_code, exceptionTable := #[], attributes := #[] }
def k1m1 : Method := { name := "draw", desc := "(I)C", sig := { parameters := [.int], returnType := some .char }, accessFlags := 10, code := some k1c1 }
def k1c2 : Code := { maxStack := 7, maxLocals := 2, code := method_3_code, exceptionTable := #[], attributes := #[] }
def k1m2 : Method := { name := "build", desc := "([CI)Ljava/lang/String;", sig := { parameters := [(.array .char), .int], returnType := some (.object "java/lang/String") }, accessFlags := 10, code := some k1c2 }
def k1c3 : Code := { maxStack := 4, maxLocals := 13, code := code, exceptionTable := #[], attributes := #[] }
def k1m3 : Method := { name := "law", desc := "(IIIIII)Z", sig := { parameters := [.int, .int, .int, .int, .int, .int], returnType := some .boolean }, accessFlags := 9, code := some k1c3 }
/-- com/example/tributary/tributary/LocationsSourcePathPinLaw -/
def k1 : Class := { plain "com/example/tributary/tributary/LocationsSourcePathPinLaw" (some 0) with
  accessFlags := 49
  interfaces := #[]
  cf := some (fileOf pool1 14 #[] #[{ accessFlags := 2, nameIndex := 5, descriptorIndex := 6, attributes := #[] }, { accessFlags := 10, nameIndex := 17, descriptorIndex := 18, attributes := #[] }, { accessFlags := 10, nameIndex := 21, descriptorIndex := 22, attributes := #[] }, { accessFlags := 9, nameIndex := 39, descriptorIndex := 40, attributes := #[] }] 49 2 #[] #[])
  fields := #[]
  methods := #[k1m0, k1m1, k1m2, k1m3]
  instanceTypes := #[]
  staticTypes := #[]
  resolved := Array.replicate 45 none
  statics := none }

def pool2 : Array CpInfo := pool [(1, .class_ 2), (0, u "java/io/Serializable"), (0, .class_ 4), (0, u "java/lang/Object")] 2

/-- java/io/Serializable -/
def k2 : Class := { plain "java/io/Serializable" (some 0) with
  accessFlags := 1537
  interfaces := #[]
  cf := some (fileOf pool2 1 #[] #[] 1537 3 #[] #[])
  fields := #[]
  methods := #[]
  instanceTypes := #[]
  staticTypes := #[]
  resolved := Array.replicate 7 none
  statics := none }

def pool3 : Array CpInfo := pool [(1, .class_ 2), (0, u "java/lang/Comparable"), (0, .class_ 4), (0, u "java/lang/Object")] 7

/-- java/lang/Comparable -/
def k3 : Class := { plain "java/lang/Comparable" (some 0) with
  accessFlags := 1537
  interfaces := #[]
  cf := some (fileOf pool3 1 #[] #[] 1537 3 #[] #[])
  fields := #[]
  methods := #[]
  instanceTypes := #[]
  staticTypes := #[]
  resolved := Array.replicate 12 none
  statics := none }

def pool4 : Array CpInfo := pool [(2, .class_ 4), (1, u "java/lang/CharSequence"), (42, .class_ 48), (0, u "java/lang/CharSequence$1CodePointIterator"), (10, .class_ 60), (0, u "java/lang/CharSequence$1CharIterator"), (5, .class_ 67), (0, u "java/lang/Object")] 63

/-- java/lang/CharSequence -/
def k4 : Class := { plain "java/lang/CharSequence" (some 0) with
  accessFlags := 1537
  interfaces := #[]
  cf := some (fileOf pool4 2 #[.nestMembers #[47, 59]] #[] 1537 66 #[] #[])
  fields := #[]
  methods := #[]
  instanceTypes := #[]
  staticTypes := #[]
  resolved := Array.replicate 131 none
  statics := none }

def pool5 : Array CpInfo := pool [(1, .class_ 2), (0, u "java/lang/constant/Constable"), (0, .class_ 4), (0, u "java/lang/Object")] 6

/-- java/lang/constant/Constable -/
def k5 : Class := { plain "java/lang/constant/Constable" (some 0) with
  accessFlags := 1537
  interfaces := #[]
  cf := some (fileOf pool5 1 #[] #[] 1537 3 #[] #[])
  fields := #[]
  methods := #[]
  instanceTypes := #[]
  staticTypes := #[]
  resolved := Array.replicate 11 none
  statics := none }

def pool6 : Array CpInfo := pool [(1, .class_ 2), (0, u "java/lang/constant/ConstantDesc"), (0, .class_ 4), (0, u "java/lang/Object")] 32

/-- java/lang/constant/ConstantDesc -/
def k6 : Class := { plain "java/lang/constant/ConstantDesc" (some 0) with
  accessFlags := 1537
  interfaces := #[]
  cf := some (fileOf pool6 1 #[] #[] 1537 3 #[] #[])
  fields := #[]
  methods := #[]
  instanceTypes := #[]
  staticTypes := #[]
  resolved := Array.replicate 37 none
  statics := none }

def pool7 : Array CpInfo := pool [(1, .methodref 2 3), (0, .class_ 4), (0, .nameAndType 5 6), (0, u "java/lang/Object"), (0, u "<init>"), (0, u "()V"), (2, .fieldref 10 11), (0, .class_ 12), (0, .nameAndType 13 14), (0, u "java/lang/String"), (0, u "value"), (0, u "[B"), (0, .fieldref 10 16), (0, .nameAndType 17 18), (0, u "coder"), (0, u "B"), (2, u "hash"), (0, u "I"), (2, u "hashIsZero"), (0, u "Z"), (0, .methodref 10 28), (0, .nameAndType 5 29), (0, u "([CIILjava/lang/Void;)V"), (8, .fieldref 10 39), (0, .nameAndType 40 26), (0, u "COMPACT_STRINGS"), (1, .class_ 44), (1, u "java/lang/StringUTF16"), (0, u "compress"), (1, .methodref 42 48), (0, .nameAndType 49 50), (0, u "coderFromArrayLen"), (0, u "([BI)B"), (46, u "([BII)I"), (9, .class_ 109), (1, u "java/lang/StringLatin1"), (32, u "()Z"), (34, .methodref 42 178), (0, .nameAndType 45 179), (0, u "([CII)[B"), (31, u "([BB)V"), (122, u "()I"), (0, .methodref 10 336), (0, .nameAndType 17 337), (0, u "()B"), (25, u "([BI)C"), (27, u "(II)V"), (35, u "(I)C"), (64, .methodref 10 493), (0, .nameAndType 494 142), (0, u "isLatin1"), (0, .methodref 107 496), (0, .nameAndType 497 363), (0, u "charAt"), (3, u "checkIndex"), (3, .methodref 10 506), (0, .nameAndType 507 334), (0, u "length"), (5, u "checkFromToIndex"), (7, .methodref 10 522), (0, .nameAndType 523 524), (0, u "checkBoundsBeginEnd"), (0, u "(III)V"), (50, .class_ 576), (0, u "java/lang/CharSequence"), (22, u "CASE_INSENSITIVE_ORDER"), (0, u "Ljava/util/Comparator;"), (35, u "(II)I"), (4, .methodref 10 642), (0, .nameAndType 643 636), (0, u "lastIndexOf"), (0, .methodref 107 645), (0, .nameAndType 643 97), (37, u "substring"), (0, u "(II)Ljava/lang/String;"), (0, .methodref 107 686), (0, .nameAndType 687 688), (0, u "newString"), (0, u "([BII)Ljava/lang/String;"), (76, u "(I)I"), (244, u "([C)V"), (42, .fieldref 1054 1055), (0, .class_ 1056), (0, .nameAndType 1057 1058), (0, u "jdk/internal/util/Preconditions"), (0, u "SIOOBE_FORMATTER"), (0, u "Ljava/util/function/BiFunction;"), (0, .methodref 1054 1060), (0, .nameAndType 501 1061), (0, u "(IILjava/util/function/BiFunction;)I"), (0, .methodref 1054 1063), (0, .nameAndType 513 1064), (0, u "(IIILjava/util/function/BiFunction;)I"), (36, u "serialPersistentFields"), (0, u "[Ljava/io/ObjectStreamField;"), (0, .class_ 1104), (0, u "java/lang/String$CaseInsensitiveComparator"), (1, .class_ 1107), (0, u "java/io/Serializable"), (0, .class_ 1109), (0, u "java/lang/Comparable"), (0, .class_ 1111), (0, u "java/lang/constant/Constable"), (0, .class_ 1113), (0, u "java/lang/constant/ConstantDesc"), (2, u "serialVersionUID"), (0, u "J"), (3, u "REPL"), (0, u "C"), (2, u "LATIN1"), (1, u "UTF16")] 323

def k7m0 : Method := { name := "<init>", desc := "()V", sig := { parameters := [], returnType := none }, accessFlags := 1, code := none }
def k7c1 : Code := { maxStack := 5, maxLocals := 2, code := jdk_42_method_3_code, exceptionTable := #[], attributes := #[] }
def k7m1 : Method := { name := "<init>", desc := "([C)V", sig := { parameters := [(.array .char)], returnType := none }, accessFlags := 1, code := some k7c1 }
def k7c2 : Code := { maxStack := 2, maxLocals := 1, code := jdk_42_method_54_code, exceptionTable := #[], attributes := #[] }
def k7m2 : Method := { name := "length", desc := "()I", sig := { parameters := [], returnType := some .int }, accessFlags := 1, code := some k7c2 }
def k7c3 : Code := { maxStack := 2, maxLocals := 2, code := jdk_42_method_56_code, exceptionTable := #[], attributes := #[] }
def k7m3 : Method := { name := "charAt", desc := "(I)C", sig := { parameters := [.int], returnType := some .char }, accessFlags := 1, code := some k7c3 }
def k7c4 : Code := { maxStack := 4, maxLocals := 2, code := jdk_42_method_82_code, exceptionTable := #[], attributes := #[] }
def k7m4 : Method := { name := "lastIndexOf", desc := "(I)I", sig := { parameters := [.int], returnType := some .int }, accessFlags := 1, code := some k7c4 }
def k7c5 : Code := { maxStack := 3, maxLocals := 3, code := jdk_42_method_83_code, exceptionTable := #[], attributes := #[] }
def k7m5 : Method := { name := "lastIndexOf", desc := "(II)I", sig := { parameters := [.int, .int], returnType := some .int }, accessFlags := 1, code := some k7c5 }
def k7c6 : Code := { maxStack := 3, maxLocals := 5, code := jdk_42_method_92_code, exceptionTable := #[], attributes := #[] }
def k7m6 : Method := { name := "substring", desc := "(II)Ljava/lang/String;", sig := { parameters := [.int, .int], returnType := some (.object "java/lang/String") }, accessFlags := 1, code := some k7c6 }
def k7c7 : Code := { maxStack := 4, maxLocals := 6, code := jdk_42_method_149_code, exceptionTable := #[], attributes := #[] }
def k7m7 : Method := { name := "<init>", desc := "([CIILjava/lang/Void;)V", sig := { parameters := [(.array .char), .int, .int, (.object "java/lang/Void")], returnType := none }, accessFlags := 2, code := some k7c7 }
def k7c8 : Code := { maxStack := 2, maxLocals := 3, code := jdk_42_method_151_code, exceptionTable := #[], attributes := #[] }
def k7m8 : Method := { name := "<init>", desc := "([BB)V", sig := { parameters := [(.array .byte), .byte], returnType := none }, accessFlags := 0, code := some k7c8 }
def k7c9 : Code := { maxStack := 1, maxLocals := 1, code := jdk_42_method_152_code, exceptionTable := #[], attributes := #[] }
def k7m9 : Method := { name := "coder", desc := "()B", sig := { parameters := [], returnType := some .byte }, accessFlags := 0, code := some k7c9 }
def k7c10 : Code := { maxStack := 1, maxLocals := 1, code := jdk_42_method_154_code, exceptionTable := #[], attributes := #[] }
def k7m10 : Method := { name := "isLatin1", desc := "()Z", sig := { parameters := [], returnType := some .boolean }, accessFlags := 0, code := some k7c10 }
def k7c11 : Code := { maxStack := 3, maxLocals := 2, code := jdk_42_method_155_code, exceptionTable := #[], attributes := #[] }
def k7m11 : Method := { name := "checkIndex", desc := "(II)V", sig := { parameters := [.int, .int], returnType := none }, accessFlags := 8, code := some k7c11 }
def k7c12 : Code := { maxStack := 4, maxLocals := 3, code := jdk_42_method_158_code, exceptionTable := #[], attributes := #[] }
def k7m12 : Method := { name := "checkBoundsBeginEnd", desc := "(III)V", sig := { parameters := [.int, .int, .int], returnType := none }, accessFlags := 8, code := some k7c12 }
/-- java/lang/String -/
def k7 : Class := { plain "java/lang/String" (some 0) with
  accessFlags := 49
  interfaces := #[2, 3, 4, 5, 6]
  cf := some (fileOf pool7 10 #[.nestMembers #[1103]] #[{ accessFlags := 1, nameIndex := 5, descriptorIndex := 6, attributes := #[] }, { accessFlags := 1, nameIndex := 5, descriptorIndex := 1010, attributes := #[] }, { accessFlags := 1, nameIndex := 507, descriptorIndex := 334, attributes := #[] }, { accessFlags := 1, nameIndex := 497, descriptorIndex := 427, attributes := #[] }, { accessFlags := 1, nameIndex := 643, descriptorIndex := 765, attributes := #[] }, { accessFlags := 1, nameIndex := 643, descriptorIndex := 636, attributes := #[] }, { accessFlags := 1, nameIndex := 683, descriptorIndex := 684, attributes := #[] }, { accessFlags := 2, nameIndex := 5, descriptorIndex := 29, attributes := #[] }, { accessFlags := 0, nameIndex := 5, descriptorIndex := 211, attributes := #[] }, { accessFlags := 0, nameIndex := 17, descriptorIndex := 337, attributes := #[] }, { accessFlags := 0, nameIndex := 494, descriptorIndex := 142, attributes := #[] }, { accessFlags := 8, nameIndex := 501, descriptorIndex := 391, attributes := #[] }, { accessFlags := 8, nameIndex := 523, descriptorIndex := 524, attributes := #[] }] 49 2 #[1106, 1108, 575, 1110, 1112] #[{ accessFlags := 18, nameIndex := 13, descriptorIndex := 14, attributes := #[] }, { accessFlags := 18, nameIndex := 17, descriptorIndex := 18, attributes := #[] }, { accessFlags := 2, nameIndex := 21, descriptorIndex := 22, attributes := #[] }, { accessFlags := 2, nameIndex := 25, descriptorIndex := 26, attributes := #[] }, { accessFlags := 26, nameIndex := 1116, descriptorIndex := 1117, attributes := #[] }, { accessFlags := 24, nameIndex := 40, descriptorIndex := 26, attributes := #[] }, { accessFlags := 26, nameIndex := 1101, descriptorIndex := 1102, attributes := #[] }, { accessFlags := 26, nameIndex := 1121, descriptorIndex := 1122, attributes := #[] }, { accessFlags := 25, nameIndex := 599, descriptorIndex := 600, attributes := #[] }, { accessFlags := 24, nameIndex := 1125, descriptorIndex := 18, attributes := #[] }, { accessFlags := 24, nameIndex := 1127, descriptorIndex := 18, attributes := #[] }])
  fields := #[{ name := "value", type := (.array .byte), accessFlags := 18, slot := 0, constantValue := 0 }, { name := "coder", type := .byte, accessFlags := 18, slot := 1, constantValue := 0 }, { name := "hash", type := .int, accessFlags := 2, slot := 2, constantValue := 0 }, { name := "hashIsZero", type := .boolean, accessFlags := 2, slot := 3, constantValue := 0 }, { name := "serialVersionUID", type := .long, accessFlags := 26, slot := 0, constantValue := 0 }, { name := "COMPACT_STRINGS", type := .boolean, accessFlags := 24, slot := 1, constantValue := 0 }, { name := "serialPersistentFields", type := (.array (.object "java/io/ObjectStreamField")), accessFlags := 26, slot := 2, constantValue := 0 }, { name := "REPL", type := .char, accessFlags := 26, slot := 3, constantValue := 0 }, { name := "CASE_INSENSITIVE_ORDER", type := (.object "java/util/Comparator"), accessFlags := 25, slot := 4, constantValue := 0 }, { name := "LATIN1", type := .byte, accessFlags := 24, slot := 5, constantValue := 0 }, { name := "UTF16", type := .byte, accessFlags := 24, slot := 6, constantValue := 0 }]
  methods := #[k7m0, k7m1, k7m2, k7m3, k7m4, k7m5, k7m6, k7m7, k7m8, k7m9, k7m10, k7m11, k7m12]
  instanceTypes := #[(.array .byte), .byte, .int, .boolean]
  staticTypes := #[.long, .boolean, (.array (.object "java/io/ObjectStreamField")), .char, (.object "java/util/Comparator"), .byte, .byte]
  resolved := Array.replicate 1451 none
  statics := some 0 }

def pool8 : Array CpInfo := pool [(6, .class_ 8), (1, u "java/lang/Object"), (0, u "<init>"), (0, u "()V"), (1, .class_ 14), (1, u "java/lang/StringUTF16"), (31, u "$assertionsDisabled"), (0, u "Z"), (13, u "HI_BYTE_SHIFT"), (0, u "I"), (2, u "LO_BYTE_SHIFT"), (49, .methodref 12 116), (0, .nameAndType 117 118), (0, u "compress"), (0, u "([CI[BII)I"), (3, u "([CII)[B"), (138, u "coderFromArrayLen"), (0, u "([BI)B"), (106, .class_ 371), (1, u "java/lang/StringUTF16$LinesSpliterator"), (58, u "MAX_LENGTH"), (196, .class_ 628), (0, u "java/lang/StringUTF16$CodePointsSpliterator"), (0, .class_ 630), (0, u "java/lang/StringUTF16$CharsSpliterator")] 4

def k8m0 : Method := { name := "<init>", desc := "()V", sig := { parameters := [], returnType := none }, accessFlags := 0, code := none }
def k8c1 : Code := { maxStack := 2, maxLocals := 2, code := jdk_52_method_15_code, exceptionTable := #[], attributes := #[] }
def k8m1 : Method := { name := "coderFromArrayLen", desc := "([BI)B", sig := { parameters := [(.array .byte), .int], returnType := some .byte }, accessFlags := 8, code := some k8c1 }
def k8c2 : Code := { maxStack := 5, maxLocals := 6, code := jdk_52_method_16_code, exceptionTable := #[], attributes := #[] }
def k8m2 : Method := { name := "compress", desc := "([CII)[B", sig := { parameters := [(.array .char), .int, .int], returnType := some (.array .byte) }, accessFlags := 9, code := some k8c2 }
def k8c3 : Code := { maxStack := 3, maxLocals := 7, code := jdk_52_method_21_code, exceptionTable := #[], attributes := #[] }
def k8m3 : Method := { name := "compress", desc := "([CI[BII)I", sig := { parameters := [(.array .char), .int, (.array .byte), .int, .int], returnType := some .int }, accessFlags := 9, code := some k8c3 }
/-- java/lang/StringUTF16 -/
def k8 : Class := { plain "java/lang/StringUTF16" (some 0) with
  accessFlags := 48
  interfaces := #[]
  cf := some (fileOf pool8 12 #[.nestMembers #[627, 629, 369]] #[{ accessFlags := 0, nameIndex := 9, descriptorIndex := 10, attributes := #[] }, { accessFlags := 8, nameIndex := 261, descriptorIndex := 262, attributes := #[] }, { accessFlags := 9, nameIndex := 117, descriptorIndex := 122, attributes := #[] }, { accessFlags := 9, nameIndex := 117, descriptorIndex := 118, attributes := #[] }] 48 6 #[] #[{ accessFlags := 26, nameIndex := 61, descriptorIndex := 62, attributes := #[] }, { accessFlags := 26, nameIndex := 65, descriptorIndex := 62, attributes := #[] }, { accessFlags := 24, nameIndex := 430, descriptorIndex := 62, attributes := #[] }, { accessFlags := 4120, nameIndex := 46, descriptorIndex := 47, attributes := #[] }])
  fields := #[{ name := "HI_BYTE_SHIFT", type := .int, accessFlags := 26, slot := 0, constantValue := 0 }, { name := "LO_BYTE_SHIFT", type := .int, accessFlags := 26, slot := 1, constantValue := 0 }, { name := "MAX_LENGTH", type := .int, accessFlags := 24, slot := 2, constantValue := 0 }, { name := "$assertionsDisabled", type := .boolean, accessFlags := 4120, slot := 3, constantValue := 0 }]
  methods := #[k8m0, k8m1, k8m2, k8m3]
  instanceTypes := #[]
  staticTypes := #[.int, .int, .int, .boolean]
  resolved := Array.replicate 635 none
  statics := none }

def pool9 : Array CpInfo := pool [(2, .class_ 4), (1, u "java/lang/Object"), (0, u "<init>"), (0, u "()V"), (0, .methodref 8 9), (0, .class_ 10), (0, .nameAndType 11 12), (0, u "java/lang/String"), (0, u "lastIndexOf"), (0, u "(I)I"), (0, .methodref 8 14), (0, .nameAndType 15 16), (0, u "substring"), (0, u "(II)Ljava/lang/String;"), (16, .class_ 35), (1, u "com/example/tributary/tributary/Locations"), (31, u "ORDER"), (0, u "Ljava/util/Comparator;"), (4, u "sourcePath"), (0, u "(Ljava/lang/String;)Ljava/lang/String;")] 32

def k9m0 : Method := { name := "<init>", desc := "()V", sig := { parameters := [], returnType := none }, accessFlags := 2, code := none }
def k9c1 : Code := { maxStack := 4, maxLocals := 1, code := prog_3_method_2_code, exceptionTable := #[], attributes := #[] }
def k9m1 : Method := { name := "sourcePath", desc := "(Ljava/lang/String;)Ljava/lang/String;", sig := { parameters := [(.object "java/lang/String")], returnType := some (.object "java/lang/String") }, accessFlags := 8, code := some k9c1 }
/-- com/example/tributary/tributary/Locations -/
def k9 : Class := { plain "com/example/tributary/tributary/Locations" (some 0) with
  accessFlags := 48
  interfaces := #[]
  cf := some (fileOf pool9 33 #[] #[{ accessFlags := 2, nameIndex := 5, descriptorIndex := 6, attributes := #[] }, { accessFlags := 8, nameIndex := 73, descriptorIndex := 74, attributes := #[] }] 48 2 #[] #[{ accessFlags := 24, nameIndex := 67, descriptorIndex := 68, attributes := #[] }])
  fields := #[{ name := "ORDER", type := (.object "java/util/Comparator"), accessFlags := 24, slot := 0, constantValue := 0 }]
  methods := #[k9m0, k9m1]
  instanceTypes := #[]
  staticTypes := #[(.object "java/util/Comparator")]
  resolved := Array.replicate 107 none
  statics := none }

def pool10 : Array CpInfo := pool [(1, .class_ 2), (0, u "java/lang/String"), (1, .class_ 6), (1, u "java/lang/Object"), (0, u "<init>"), (0, u "()V"), (0, .methodref 1 10), (0, .nameAndType 11 12), (0, u "checkIndex"), (0, u "(II)V"), (1, .class_ 16), (1, u "java/lang/StringLatin1"), (21, .methodref 39 40), (0, .class_ 41), (0, .nameAndType 42 43), (0, u "java/lang/Math"), (0, u "min"), (0, u "(II)I"), (9, u "([BI)C"), (34, .methodref 14 89), (0, .nameAndType 90 91), (0, u "canEncode"), (0, u "(I)Z"), (20, .methodref 1 113), (0, .nameAndType 7 114), (0, u "([BB)V"), (6, u "$assertionsDisabled"), (0, u "Z"), (8, .class_ 133), (1, u "java/util/Arrays"), (17, .string 152), (0, u ""), (43, u "newString"), (0, u "([BII)Ljava/lang/String;"), (23, .class_ 223), (1, u "java/lang/StringLatin1$LinesSpliterator"), (8, .methodref 131 233), (0, .nameAndType 234 235), (0, u "copyOfRange"), (0, u "([BII)[B"), (16, u "charAt"), (8, u "([BII)I"), (47, u "lastIndexOf"), (80, .class_ 391), (0, u "java/lang/StringLatin1$CharsSpliterator")] 3

def k10m0 : Method := { name := "<init>", desc := "()V", sig := { parameters := [], returnType := none }, accessFlags := 0, code := none }
def k10c1 : Code := { maxStack := 2, maxLocals := 2, code := jdk_43_method_2_code, exceptionTable := #[], attributes := #[] }
def k10m1 : Method := { name := "charAt", desc := "([BI)C", sig := { parameters := [(.array .byte), .int], returnType := some .char }, accessFlags := 9, code := some k10c1 }
def k10c2 : Code := { maxStack := 2, maxLocals := 1, code := jdk_43_method_4_code, exceptionTable := #[], attributes := #[] }
def k10m2 : Method := { name := "canEncode", desc := "(I)Z", sig := { parameters := [.int], returnType := some .boolean }, accessFlags := 9, code := some k10c2 }
def k10c3 : Code := { maxStack := 3, maxLocals := 4, code := jdk_43_method_27_code, exceptionTable := #[], attributes := #[] }
def k10m3 : Method := { name := "lastIndexOf", desc := "([BII)I", sig := { parameters := [(.array .byte), .int, .int], returnType := some .int }, accessFlags := 9, code := some k10c3 }
def k10c4 : Code := { maxStack := 6, maxLocals := 3, code := jdk_43_method_47_code, exceptionTable := #[], attributes := #[] }
def k10m4 : Method := { name := "newString", desc := "([BII)Ljava/lang/String;", sig := { parameters := [(.array .byte), .int, .int], returnType := some (.object "java/lang/String") }, accessFlags := 9, code := some k10c4 }
/-- java/lang/StringLatin1 -/
def k10 : Class := { plain "java/lang/StringLatin1" (some 0) with
  accessFlags := 48
  interfaces := #[]
  cf := some (fileOf pool10 14 #[.nestMembers #[390, 221]] #[{ accessFlags := 0, nameIndex := 7, descriptorIndex := 8, attributes := #[] }, { accessFlags := 9, nameIndex := 252, descriptorIndex := 53, attributes := #[] }, { accessFlags := 9, nameIndex := 90, descriptorIndex := 91, attributes := #[] }, { accessFlags := 9, nameIndex := 309, descriptorIndex := 261, attributes := #[] }, { accessFlags := 9, nameIndex := 196, descriptorIndex := 197, attributes := #[] }] 48 4 #[] #[{ accessFlags := 4120, nameIndex := 121, descriptorIndex := 122, attributes := #[] }])
  fields := #[{ name := "$assertionsDisabled", type := .boolean, accessFlags := 4120, slot := 0, constantValue := 0 }]
  methods := #[k10m0, k10m1, k10m2, k10m3, k10m4]
  instanceTypes := #[]
  staticTypes := #[.boolean]
  resolved := Array.replicate 395 none
  statics := none }

def pool11 : Array CpInfo := pool [(1, .class_ 2), (0, u "java/lang/Math"), (1, .class_ 6), (1, u "java/lang/Object"), (0, u "<init>"), (0, u "()V"), (89, .class_ 100), (1, u "java/lang/Math$RandomNumberGeneratorHolder"), (71, u "negativeZeroFloatBits"), (0, u "J"), (2, u "negativeZeroDoubleBits"), (24, u "min"), (43, u "$assertionsDisabled"), (0, u "Z"), (88, u "(II)I"), (2, u "twoToTheDoubleScaleDown"), (0, u "D"), (4, u "twoToTheDoubleScaleUp"), (9, u "E"), (3, u "PI"), (2, u "TAU"), (2, u "DEGREES_TO_RADIANS"), (0, u "RADIANS_TO_DEGREES")] 94

def k11m0 : Method := { name := "<init>", desc := "()V", sig := { parameters := [], returnType := none }, accessFlags := 2, code := none }
def k11c1 : Code := { maxStack := 2, maxLocals := 2, code := jdk_29_method_69_code, exceptionTable := #[], attributes := #[] }
def k11m1 : Method := { name := "min", desc := "(II)I", sig := { parameters := [.int, .int], returnType := some .int }, accessFlags := 9, code := some k11c1 }
/-- java/lang/Math -/
def k11 : Class := { plain "java/lang/Math" (some 0) with
  accessFlags := 49
  interfaces := #[]
  cf := some (fileOf pool11 1 #[.nestMembers #[98]] #[{ accessFlags := 2, nameIndex := 7, descriptorIndex := 8, attributes := #[] }, { accessFlags := 9, nameIndex := 201, descriptorIndex := 335, attributes := #[] }] 49 4 #[] #[{ accessFlags := 25, nameIndex := 354, descriptorIndex := 339, attributes := #[] }, { accessFlags := 25, nameIndex := 358, descriptorIndex := 339, attributes := #[] }, { accessFlags := 25, nameIndex := 361, descriptorIndex := 339, attributes := #[] }, { accessFlags := 26, nameIndex := 364, descriptorIndex := 339, attributes := #[] }, { accessFlags := 26, nameIndex := 365, descriptorIndex := 339, attributes := #[] }, { accessFlags := 26, nameIndex := 172, descriptorIndex := 173, attributes := #[] }, { accessFlags := 26, nameIndex := 176, descriptorIndex := 173, attributes := #[] }, { accessFlags := 8, nameIndex := 344, descriptorIndex := 339, attributes := #[] }, { accessFlags := 8, nameIndex := 338, descriptorIndex := 339, attributes := #[] }, { accessFlags := 4120, nameIndex := 245, descriptorIndex := 246, attributes := #[] }])
  fields := #[{ name := "E", type := .double, accessFlags := 25, slot := 0, constantValue := 0 }, { name := "PI", type := .double, accessFlags := 25, slot := 1, constantValue := 0 }, { name := "TAU", type := .double, accessFlags := 25, slot := 2, constantValue := 0 }, { name := "DEGREES_TO_RADIANS", type := .double, accessFlags := 26, slot := 3, constantValue := 0 }, { name := "RADIANS_TO_DEGREES", type := .double, accessFlags := 26, slot := 4, constantValue := 0 }, { name := "negativeZeroFloatBits", type := .long, accessFlags := 26, slot := 5, constantValue := 0 }, { name := "negativeZeroDoubleBits", type := .long, accessFlags := 26, slot := 6, constantValue := 0 }, { name := "twoToTheDoubleScaleUp", type := .double, accessFlags := 8, slot := 7, constantValue := 0 }, { name := "twoToTheDoubleScaleDown", type := .double, accessFlags := 8, slot := 8, constantValue := 0 }, { name := "$assertionsDisabled", type := .boolean, accessFlags := 4120, slot := 9, constantValue := 0 }]
  methods := #[k11m0, k11m1]
  instanceTypes := #[]
  staticTypes := #[.double, .double, .double, .double, .double, .long, .long, .double, .double, .boolean]
  resolved := Array.replicate 460 none
  statics := none }

def pool12 : Array CpInfo := pool [(2, .class_ 4), (1, u "java/lang/Object"), (0, u "<init>"), (0, u "()V"), (17, .class_ 26), (1, u "jdk/internal/util/Preconditions"), (6, u "checkIndex"), (13, u "checkFromToIndex"), (7, .class_ 56), (0, u "jdk/internal/util/Preconditions$4"), (57, .class_ 115), (0, u "jdk/internal/util/Preconditions$1"), (7, u "SIOOBE_FORMATTER"), (0, u "Ljava/util/function/BiFunction;"), (0, .class_ 126), (0, u "jdk/internal/util/Preconditions$2"), (3, u "AIOOBE_FORMATTER"), (0, .class_ 132), (0, u "jdk/internal/util/Preconditions$3"), (3, u "IOOBE_FORMATTER"), (41, u "(IILjava/util/function/BiFunction;)I"), (4, u "(IIILjava/util/function/BiFunction;)I")] 10

def k12m0 : Method := { name := "<init>", desc := "()V", sig := { parameters := [], returnType := none }, accessFlags := 1, code := none }
def k12c1 : Code := { maxStack := 3, maxLocals := 3, code := jdk_41_method_11_code, exceptionTable := #[], attributes := #[] }
def k12m1 : Method := { name := "checkIndex", desc := "(IILjava/util/function/BiFunction;)I", sig := { parameters := [.int, .int, (.object "java/util/function/BiFunction")], returnType := some .int }, accessFlags := 9, code := some k12c1 }
def k12c2 : Code := { maxStack := 4, maxLocals := 4, code := jdk_41_method_12_code, exceptionTable := #[], attributes := #[] }
def k12m2 : Method := { name := "checkFromToIndex", desc := "(IIILjava/util/function/BiFunction;)I", sig := { parameters := [.int, .int, .int, (.object "java/util/function/BiFunction")], returnType := some .int }, accessFlags := 9, code := some k12c2 }
/-- jdk/internal/util/Preconditions -/
def k12 : Class := { plain "jdk/internal/util/Preconditions" (some 0) with
  accessFlags := 33
  interfaces := #[]
  cf := some (fileOf pool12 24 #[.nestMembers #[55, 131, 125, 114]] #[{ accessFlags := 1, nameIndex := 5, descriptorIndex := 6, attributes := #[] }, { accessFlags := 9, nameIndex := 33, descriptorIndex := 178, attributes := #[] }, { accessFlags := 9, nameIndex := 47, descriptorIndex := 183, attributes := #[] }] 33 2 #[] #[{ accessFlags := 25, nameIndex := 123, descriptorIndex := 124, attributes := #[] }, { accessFlags := 25, nameIndex := 130, descriptorIndex := 124, attributes := #[] }, { accessFlags := 25, nameIndex := 136, descriptorIndex := 124, attributes := #[] }])
  fields := #[{ name := "SIOOBE_FORMATTER", type := (.object "java/util/function/BiFunction"), accessFlags := 25, slot := 0, constantValue := 0 }, { name := "AIOOBE_FORMATTER", type := (.object "java/util/function/BiFunction"), accessFlags := 25, slot := 1, constantValue := 0 }, { name := "IOOBE_FORMATTER", type := (.object "java/util/function/BiFunction"), accessFlags := 25, slot := 2, constantValue := 0 }]
  methods := #[k12m0, k12m1, k12m2]
  instanceTypes := #[]
  staticTypes := #[(.object "java/util/function/BiFunction"), (.object "java/util/function/BiFunction"), (.object "java/util/function/BiFunction")]
  resolved := Array.replicate 194 none
  statics := some 1 }

def pool13 : Array CpInfo := pool [(2, .class_ 4), (1, u "java/lang/Object"), (0, u "<init>"), (0, u "()V"), (7, .class_ 16), (1, u "java/util/Arrays"), (57, .class_ 76), (1, u "java/util/Arrays$NaturalOrder"), (36, .class_ 115), (1, u "java/util/Arrays$LegacyMergeSort"), (1, u "Z"), (21, u "copyOfRange"), (10, .methodref 151 152), (0, .class_ 153), (0, .nameAndType 154 155), (0, u "java/lang/System"), (0, u "arraycopy"), (0, u "(Ljava/lang/Object;ILjava/lang/Object;II)V"), (148, .methodref 305 306), (0, .class_ 307), (0, .nameAndType 308 309), (0, u "java/lang/Math"), (0, u "min"), (0, u "(II)I"), (29, .methodref 14 340), (0, .nameAndType 341 342), (0, u "copyOfRangeByte"), (0, u "([BII)[B"), (0, .methodref 14 344), (0, .nameAndType 345 346), (0, u "checkLength"), (0, u "(II)V"), (28, .class_ 376), (0, u "java/util/Arrays$ArrayList"), (68, u "$assertionsDisabled"), (269, u "MIN_ARRAY_SORT_GRAN"), (0, u "I"), (2, u "INSERTIONSORT_THRESHOLD"), (255, .class_ 976), (0, u "java/util/Arrays$ArrayItr")] 52

def k13m0 : Method := { name := "<init>", desc := "()V", sig := { parameters := [], returnType := none }, accessFlags := 2, code := none }
def k13c1 : Code := { maxStack := 4, maxLocals := 2, code := jdk_65_method_131_code, exceptionTable := #[], attributes := #[] }
def k13m1 : Method := { name := "checkLength", desc := "(II)V", sig := { parameters := [.int, .int], returnType := none }, accessFlags := 10, code := some k13c1 }
def k13c2 : Code := { maxStack := 3, maxLocals := 3, code := jdk_65_method_132_code, exceptionTable := #[], attributes := #[] }
def k13m2 : Method := { name := "copyOfRange", desc := "([BII)[B", sig := { parameters := [(.array .byte), .int, .int], returnType := some (.array .byte) }, accessFlags := 9, code := some k13c2 }
def k13c3 : Code := { maxStack := 6, maxLocals := 5, code := jdk_65_method_133_code, exceptionTable := #[], attributes := #[] }
def k13m3 : Method := { name := "copyOfRangeByte", desc := "([BII)[B", sig := { parameters := [(.array .byte), .int, .int], returnType := some (.array .byte) }, accessFlags := 10, code := some k13c3 }
/-- java/util/Arrays -/
def k13 : Class := { plain "java/util/Arrays" (some 0) with
  accessFlags := 49
  interfaces := #[]
  cf := some (fileOf pool13 14 #[.nestMembers #[975, 375, 113, 74]] #[{ accessFlags := 2, nameIndex := 5, descriptorIndex := 6, attributes := #[] }, { accessFlags := 10, nameIndex := 345, descriptorIndex := 346, attributes := #[] }, { accessFlags := 9, nameIndex := 139, descriptorIndex := 342, attributes := #[] }, { accessFlags := 10, nameIndex := 341, descriptorIndex := 342, attributes := #[] }] 49 2 #[] #[{ accessFlags := 26, nameIndex := 715, descriptorIndex := 716, attributes := #[] }, { accessFlags := 26, nameIndex := 719, descriptorIndex := 716, attributes := #[] }, { accessFlags := 4120, nameIndex := 445, descriptorIndex := 117, attributes := #[] }])
  fields := #[{ name := "MIN_ARRAY_SORT_GRAN", type := .int, accessFlags := 26, slot := 0, constantValue := 0 }, { name := "INSERTIONSORT_THRESHOLD", type := .int, accessFlags := 26, slot := 1, constantValue := 0 }, { name := "$assertionsDisabled", type := .boolean, accessFlags := 4120, slot := 2, constantValue := 0 }]
  methods := #[k13m0, k13m1, k13m2, k13m3]
  instanceTypes := #[]
  staticTypes := #[.int, .int, .boolean]
  resolved := Array.replicate 1029 none
  statics := none }

def pool14 : Array CpInfo := pool [(2, .class_ 4), (1, u "java/lang/Object"), (0, u "<init>"), (0, u "()V"), (1, .class_ 10), (1, u "java/lang/System"), (0, u "allowSecurityManager"), (0, u "I"), (16, u "cons"), (0, u "Ljava/io/Console;"), (77, .class_ 110), (1, u "java/lang/System$CallersHolder"), (43, u "initialErrStream"), (0, u "Ljava/io/PrintStream;"), (19, u "security"), (0, u "Ljava/lang/SecurityManager;"), (31, .class_ 209), (0, u "java/lang/System$1"), (7, u "props"), (0, u "Ljava/util/Properties;"), (2, u "lineSeparator"), (0, u "Ljava/lang/String;"), (96, .class_ 321), (1, u "java/lang/System$LoggerFinder"), (5, .class_ 328), (0, u "java/lang/System$Logger"), (67, u "err"), (2, u "out"), (91, u "notSupportedJnuEncoding"), (15, u "in"), (17, u "initialIn"), (0, u "Ljava/io/InputStream;"), (35, u "bootLayer"), (0, u "Ljava/lang/ModuleLayer;"), (99, .class_ 664), (0, u "java/lang/System$2"), (9, u "NEVER"), (2, u "MAYBE"), (49, u "arraycopy"), (0, u "(Ljava/lang/Object;ILjava/lang/Object;II)V"), (72, .class_ 802), (0, u "java/lang/System$Logger$Level")] 31

def k14m0 : Method := { name := "<init>", desc := "()V", sig := { parameters := [], returnType := none }, accessFlags := 2, code := none }
def k14m1 : Method := { name := "arraycopy", desc := "(Ljava/lang/Object;ILjava/lang/Object;II)V", sig := { parameters := [(.object "java/lang/Object"), .int, (.object "java/lang/Object"), .int, .int], returnType := none }, accessFlags := 265, code := none }
/-- java/lang/System -/
def k14 : Class := { plain "java/lang/System" (some 0) with
  accessFlags := 49
  interfaces := #[]
  cf := some (fileOf pool14 8 #[.nestMembers #[319, 327, 801, 108, 663, 208]] #[{ accessFlags := 2, nameIndex := 5, descriptorIndex := 6, attributes := #[] }, { accessFlags := 265, nameIndex := 727, descriptorIndex := 728, attributes := #[] }] 49 2 #[] #[{ accessFlags := 25, nameIndex := 507, descriptorIndex := 526, attributes := #[] }, { accessFlags := 25, nameIndex := 399, descriptorIndex := 155, attributes := #[] }, { accessFlags := 25, nameIndex := 396, descriptorIndex := 155, attributes := #[] }, { accessFlags := 10, nameIndex := 525, descriptorIndex := 526, attributes := #[] }, { accessFlags := 26, nameIndex := 674, descriptorIndex := 12, attributes := #[] }, { accessFlags := 26, nameIndex := 677, descriptorIndex := 12, attributes := #[] }, { accessFlags := 10, nameIndex := 11, descriptorIndex := 12, attributes := #[] }, { accessFlags := 74, nameIndex := 175, descriptorIndex := 176, attributes := #[] }, { accessFlags := 10, nameIndex := 491, descriptorIndex := 222, attributes := #[] }, { accessFlags := 74, nameIndex := 29, descriptorIndex := 30, attributes := #[] }, { accessFlags := 74, nameIndex := 154, descriptorIndex := 155, attributes := #[] }, { accessFlags := 10, nameIndex := 217, descriptorIndex := 218, attributes := #[] }, { accessFlags := 10, nameIndex := 221, descriptorIndex := 222, attributes := #[] }, { accessFlags := 8, nameIndex := 562, descriptorIndex := 563, attributes := #[] }])
  fields := #[{ name := "in", type := (.object "java/io/InputStream"), accessFlags := 25, slot := 0, constantValue := 0 }, { name := "out", type := (.object "java/io/PrintStream"), accessFlags := 25, slot := 1, constantValue := 0 }, { name := "err", type := (.object "java/io/PrintStream"), accessFlags := 25, slot := 2, constantValue := 0 }, { name := "initialIn", type := (.object "java/io/InputStream"), accessFlags := 10, slot := 3, constantValue := 0 }, { name := "NEVER", type := .int, accessFlags := 26, slot := 4, constantValue := 0 }, { name := "MAYBE", type := .int, accessFlags := 26, slot := 5, constantValue := 0 }, { name := "allowSecurityManager", type := .int, accessFlags := 10, slot := 6, constantValue := 0 }, { name := "security", type := (.object "java/lang/SecurityManager"), accessFlags := 74, slot := 7, constantValue := 0 }, { name := "notSupportedJnuEncoding", type := (.object "java/lang/String"), accessFlags := 10, slot := 8, constantValue := 0 }, { name := "cons", type := (.object "java/io/Console"), accessFlags := 74, slot := 9, constantValue := 0 }, { name := "initialErrStream", type := (.object "java/io/PrintStream"), accessFlags := 74, slot := 10, constantValue := 0 }, { name := "props", type := (.object "java/util/Properties"), accessFlags := 10, slot := 11, constantValue := 0 }, { name := "lineSeparator", type := (.object "java/lang/String"), accessFlags := 10, slot := 12, constantValue := 0 }, { name := "bootLayer", type := (.object "java/lang/ModuleLayer"), accessFlags := 8, slot := 13, constantValue := 0 }]
  methods := #[k14m0, k14m1]
  instanceTypes := #[]
  staticTypes := #[(.object "java/io/InputStream"), (.object "java/io/PrintStream"), (.object "java/io/PrintStream"), (.object "java/io/InputStream"), .int, .int, .int, (.object "java/lang/SecurityManager"), (.object "java/lang/String"), (.object "java/io/Console"), (.object "java/io/PrintStream"), (.object "java/util/Properties"), (.object "java/lang/String"), (.object "java/lang/ModuleLayer")]
  resolved := Array.replicate 834 none
  statics := none }

def pool15 : Array CpInfo := pool [(9, u "<init>"), (6, .class_ 18), (1, u "java/lang/Object"), (0, u "()V"), (1, .class_ 23), (1, u "jdk/internal/util/ArraysSupport"), (0, u "LOG2_ARRAY_LONG_INDEX_SCALE"), (0, u "I"), (2, u "U"), (0, u "Ljdk/internal/misc/Unsafe;"), (8, u "BIG_ENDIAN"), (0, u "Z"), (8, u "LOG2_BYTE_BIT_SIZE"), (4, u "LOG2_ARRAY_INT_INDEX_SCALE"), (54, u "JLA"), (0, u "Ljdk/internal/access/JavaLangAccess;"), (11, u "LOG2_ARRAY_BOOLEAN_INDEX_SCALE"), (9, u "LOG2_ARRAY_BYTE_INDEX_SCALE"), (5, u "LOG2_ARRAY_CHAR_INDEX_SCALE"), (5, u "LOG2_ARRAY_SHORT_INDEX_SCALE"), (18, u "LOG2_ARRAY_FLOAT_INDEX_SCALE"), (24, u "LOG2_ARRAY_DOUBLE_INDEX_SCALE"), (89, u "T_BOOLEAN"), (2, u "T_CHAR"), (1, u "T_FLOAT"), (1, u "T_DOUBLE"), (1, u "T_BYTE"), (1, u "T_SHORT"), (1, u "T_INT"), (1, u "T_LONG"), (1, u "SOFT_MAX_ARRAY_LENGTH")] 83

def k15m0 : Method := { name := "<init>", desc := "()V", sig := { parameters := [], returnType := none }, accessFlags := 2, code := none }
/-- jdk/internal/util/ArraysSupport -/
def k15 : Class := { plain "jdk/internal/util/ArraysSupport" (some 0) with
  accessFlags := 33
  interfaces := #[]
  cf := some (fileOf pool15 21 #[] #[{ accessFlags := 2, nameIndex := 9, descriptorIndex := 19, attributes := #[] }] 33 16 #[] #[{ accessFlags := 24, nameIndex := 28, descriptorIndex := 29, attributes := #[] }, { accessFlags := 26, nameIndex := 38, descriptorIndex := 39, attributes := #[] }, { accessFlags := 25, nameIndex := 121, descriptorIndex := 25, attributes := #[] }, { accessFlags := 25, nameIndex := 131, descriptorIndex := 25, attributes := #[] }, { accessFlags := 25, nameIndex := 137, descriptorIndex := 25, attributes := #[] }, { accessFlags := 25, nameIndex := 143, descriptorIndex := 25, attributes := #[] }, { accessFlags := 25, nameIndex := 53, descriptorIndex := 25, attributes := #[] }, { accessFlags := 25, nameIndex := 24, descriptorIndex := 25, attributes := #[] }, { accessFlags := 25, nameIndex := 162, descriptorIndex := 25, attributes := #[] }, { accessFlags := 25, nameIndex := 187, descriptorIndex := 25, attributes := #[] }, { accessFlags := 26, nameIndex := 48, descriptorIndex := 25, attributes := #[] }, { accessFlags := 25, nameIndex := 277, descriptorIndex := 25, attributes := #[] }, { accessFlags := 25, nameIndex := 280, descriptorIndex := 25, attributes := #[] }, { accessFlags := 25, nameIndex := 282, descriptorIndex := 25, attributes := #[] }, { accessFlags := 25, nameIndex := 284, descriptorIndex := 25, attributes := #[] }, { accessFlags := 25, nameIndex := 286, descriptorIndex := 25, attributes := #[] }, { accessFlags := 25, nameIndex := 288, descriptorIndex := 25, attributes := #[] }, { accessFlags := 25, nameIndex := 290, descriptorIndex := 25, attributes := #[] }, { accessFlags := 25, nameIndex := 292, descriptorIndex := 25, attributes := #[] }, { accessFlags := 26, nameIndex := 108, descriptorIndex := 109, attributes := #[] }, { accessFlags := 25, nameIndex := 294, descriptorIndex := 25, attributes := #[] }])
  fields := #[{ name := "U", type := (.object "jdk/internal/misc/Unsafe"), accessFlags := 24, slot := 0, constantValue := 0 }, { name := "BIG_ENDIAN", type := .boolean, accessFlags := 26, slot := 1, constantValue := 0 }, { name := "LOG2_ARRAY_BOOLEAN_INDEX_SCALE", type := .int, accessFlags := 25, slot := 2, constantValue := 0 }, { name := "LOG2_ARRAY_BYTE_INDEX_SCALE", type := .int, accessFlags := 25, slot := 3, constantValue := 0 }, { name := "LOG2_ARRAY_CHAR_INDEX_SCALE", type := .int, accessFlags := 25, slot := 4, constantValue := 0 }, { name := "LOG2_ARRAY_SHORT_INDEX_SCALE", type := .int, accessFlags := 25, slot := 5, constantValue := 0 }, { name := "LOG2_ARRAY_INT_INDEX_SCALE", type := .int, accessFlags := 25, slot := 6, constantValue := 0 }, { name := "LOG2_ARRAY_LONG_INDEX_SCALE", type := .int, accessFlags := 25, slot := 7, constantValue := 0 }, { name := "LOG2_ARRAY_FLOAT_INDEX_SCALE", type := .int, accessFlags := 25, slot := 8, constantValue := 0 }, { name := "LOG2_ARRAY_DOUBLE_INDEX_SCALE", type := .int, accessFlags := 25, slot := 9, constantValue := 0 }, { name := "LOG2_BYTE_BIT_SIZE", type := .int, accessFlags := 26, slot := 10, constantValue := 0 }, { name := "T_BOOLEAN", type := .int, accessFlags := 25, slot := 11, constantValue := 0 }, { name := "T_CHAR", type := .int, accessFlags := 25, slot := 12, constantValue := 0 }, { name := "T_FLOAT", type := .int, accessFlags := 25, slot := 13, constantValue := 0 }, { name := "T_DOUBLE", type := .int, accessFlags := 25, slot := 14, constantValue := 0 }, { name := "T_BYTE", type := .int, accessFlags := 25, slot := 15, constantValue := 0 }, { name := "T_SHORT", type := .int, accessFlags := 25, slot := 16, constantValue := 0 }, { name := "T_INT", type := .int, accessFlags := 25, slot := 17, constantValue := 0 }, { name := "T_LONG", type := .int, accessFlags := 25, slot := 18, constantValue := 0 }, { name := "JLA", type := (.object "jdk/internal/access/JavaLangAccess"), accessFlags := 26, slot := 19, constantValue := 0 }, { name := "SOFT_MAX_ARRAY_LENGTH", type := .int, accessFlags := 25, slot := 20, constantValue := 0 }]
  methods := #[k15m0]
  instanceTypes := #[]
  staticTypes := #[(.object "jdk/internal/misc/Unsafe"), .boolean, .int, .int, .int, .int, .int, .int, .int, .int, .int, .int, .int, .int, .int, .int, .int, .int, .int, (.object "jdk/internal/access/JavaLangAccess"), .int]
  resolved := Array.replicate 378 none
  statics := none }

def pool16 : Array CpInfo := pool [(1, u "java/lang/Cloneable"), (0, .class_ 1), (0, u "java/lang/Object"), (0, .class_ 3)] 3

/-- java/lang/Cloneable -/
def k16 : Class := { plain "java/lang/Cloneable" (some 0) with
  accessFlags := 1537
  interfaces := #[]
  cf := some (fileOf pool16 2 #[] #[] 1537 4 #[] #[])
  fields := #[]
  methods := #[]
  instanceTypes := #[]
  staticTypes := #[]
  resolved := Array.replicate 8 none
  statics := none }

/-- the primitive byte -/
def k17 : Class := { plain "byte" none with kind := .primitive 'B', accessFlags := 0x411 }
/-- [B -/
def k18 : Class := { plain "[B" (some 0) with kind := .array 17 .byte, interfaces := #[16, 2], accessFlags := 1041 }

/-- the primitive char -/
def k19 : Class := { plain "char" none with kind := .primitive 'C', accessFlags := 0x411 }
/-- [C -/
def k20 : Class := { plain "[C" (some 0) with kind := .array 19 .char, interfaces := #[16, 2], accessFlags := 1041 }

/-- the primitive int -/
def k21 : Class := { plain "int" none with kind := .primitive 'I', accessFlags := 0x411 }
/-- [I -/
def k22 : Class := { plain "[I" (some 0) with kind := .array 21 .int, interfaces := #[16, 2], accessFlags := 1041 }

def heap : Heap := #[{ cls := 7, slots := #[.long 0, .int 1, .null, .int 0, .null, .int 0, .int 0], vm := .statics 7 },
  { cls := 12, slots := #[.null, .null, .null], vm := .statics 12 }]
def classes : Array Class := #[k0, k1, k2, k3, k4, k5, k6, k7, k8, k9, k10, k11, k12, k13, k14, k15, k16, k17, k18, k19, k20, k21, k22]
def interned : List (Array UInt16 × Addr) := []
def slotsUsed : Nat := 10
def theMethod : MethodId := ⟨1, 3⟩
def args0 : Array Value := #[.int 65, .int 5, .int 15, .int 3, .int 9, .int 2]
def aboutOver (below : List Frame) : State where
  vm := { classes := classes, interned := interned.toArray }
  heap := heap
  slotsUsed := slotsUsed
  threads := #[{ frames := .invoking theMethod args0 :: below }]
def below0 : List Frame := [.native { method := ⟨0, 0⟩, args := #[] }]
def about1 : State := aboutOver below0
def p0 : Program := .bare "" "" ""
def e0 : Env := launch0.env 0 0 0
theorem w_frames : about1.frames = Frame.invoking theMethod args0 :: below0 := rfl
set_option maxRecDepth 65536 in
theorem w_args : argsFit about1.vm theMethod args0 = true := by decide +kernel
set_option maxRecDepth 65536 in
theorem w_heap : heapFits about1 = true := by decide +kernel
set_option maxRecDepth 65536 in
theorem w_runnable : about1.curStatus? = some .runnable := by decide +kernel
set_option maxRecDepth 65536 in
theorem w_alone : about1.alone = true := by decide +kernel
set_option maxRecDepth 65536 in
theorem w_named : about1.methodNamed? x = some theMethod := by decide +kernel
set_option maxRecDepth 65536 in
theorem w_hears : about1.hears theMethod below0 = true := by decide +kernel
set_option maxRecDepth 65536 in
theorem w_ripe : about1.ripe theMethod args0 below0 = true := by decide +kernel
theorem w_running : about1.status = .running := rfl
set_option maxRecDepth 65536 in
theorem w_room : about1.hasRoom e0.platform room_1 = true :=
  launch0.hasRoom_least _ room_1 (by decide +kernel) (by decide +kernel) (by decide +kernel) (by decide +kernel) (by decide +kernel) (by decide +kernel)
theorem allAtoms_all (ts : List Jvm.Cond) (a : Array Jvm.Value) (st : Jvm.State) : (allAtoms ts).before a st = ts.all (fun c => c.before a st) := by
  induction ts with
  | nil => rfl
  | cons c t ih =>
    show (Jvm.Cond.and c (allAtoms t)).before a st = _
    rw [Jvm.Cond.before_and, ih, List.all_cons]
def words1 : List Jvm.Cond := Jvm.Cond.code x code maxLocals ret :: tables_1
/-- a 'code' word, met by the world's own term for the bytes: nothing is compared byte by byte -/
theorem code_word {y : MethodName} {bytes : ByteArray} {mx : Nat} {rt : Option FieldType} {a : Array Value} {s : State} {m : MethodId} {meth : Method} {c : Code} (h1 : s.methodNamed? y = some m) (h2 : s.vm.method? m = some meth) (h3 : meth.code = some c) (h4 : c.code = bytes)
    (h5 : (c.maxLocals == mx && c.exceptionTable.isEmpty && decide (c.maxStack ≤ mostOperands) && decide (meth.sig.returnType = rt) && !meth.locks && decide (parseMethodDescriptor y.desc = some meth.sig)) = true) : (Jvm.Cond.code y bytes mx rt).before a s = true := by
  simp only [Bool.and_eq_true, beq_iff_eq, Bool.not_eq_true', decide_eq_true_eq] at h5
  obtain ⟨⟨⟨⟨⟨g1, g2⟩, g3⟩, g4⟩, g5⟩, g6⟩ := h5
  simp [Cond.before, Cond.holds, Cond.value, h1, h2, h3, h4, g1, g2, g3, g4, g5, g6]
def isCode : Jvm.Cond → Bool
  | .code _ _ _ _ => true
  | _ => false
theorem all_split {L : List Jvm.Cond} {P : Jvm.Cond → Bool} (h1 : L.all (fun c => isCode c || P c) = true) (h2 : ∀ c ∈ L.filter isCode, P c = true) : L.all P = true := by
  refine List.all_eq_true.mpr fun c hc => ?_
  have h := List.all_eq_true.mp h1 c hc
  rcases Bool.eq_false_or_eq_true (isCode c) with hi | hi
  · exact h2 c (List.mem_filter.mpr ⟨hc, hi⟩)
  · simpa [hi] using h
set_option maxRecDepth 65536 in
theorem w_c0 : (Jvm.Cond.code x code maxLocals ret).before args0 about1 = true := code_word (m := ⟨1, 3⟩) (meth := k1m3) (c := k1c3) (by decide +kernel) rfl rfl rfl (by decide +kernel)
set_option maxRecDepth 65536 in
theorem w_c1 : (Jvm.Cond.code ({ cls := "com/example/tributary/tributary/LocationsSourcePathPinLaw", name := "draw", desc := "(I)C" } : Jvm.MethodName) method_2_code (1 : Nat) (Option.some Jvm.ClassFile.FieldType.char)).before args0 about1 = true := code_word (m := ⟨1, 1⟩) (meth := k1m1) (c := k1c1) (by decide +kernel) rfl rfl rfl (by decide +kernel)
set_option maxRecDepth 65536 in
theorem w_c2 : (Jvm.Cond.code ({ cls := "com/example/tributary/tributary/LocationsSourcePathPinLaw", name := "build", desc := "([CI)Ljava/lang/String;" } : Jvm.MethodName) method_3_code (2 : Nat) (Option.some (Jvm.ClassFile.FieldType.object "java/lang/String"))).before args0 about1 = true := code_word (m := ⟨1, 2⟩) (meth := k1m2) (c := k1c2) (by decide +kernel) rfl rfl rfl (by decide +kernel)
set_option maxRecDepth 65536 in
theorem w_c3 : (Jvm.Cond.code ({ cls := "java/lang/String", name := "<init>", desc := "([C)V" } : Jvm.MethodName) jdk_42_method_3_code (2 : Nat) (Option.none : Option Jvm.ClassFile.FieldType)).before args0 about1 = true := code_word (m := ⟨7, 1⟩) (meth := k7m1) (c := k7c1) (by decide +kernel) rfl rfl rfl (by decide +kernel)
set_option maxRecDepth 65536 in
theorem w_c4 : (Jvm.Cond.code ({ cls := "java/lang/String", name := "<init>", desc := "([CIILjava/lang/Void;)V" } : Jvm.MethodName) jdk_42_method_149_code (6 : Nat) (Option.none : Option Jvm.ClassFile.FieldType)).before args0 about1 = true := code_word (m := ⟨7, 7⟩) (meth := k7m7) (c := k7c7) (by decide +kernel) rfl rfl rfl (by decide +kernel)
set_option maxRecDepth 65536 in
theorem w_c5 : (Jvm.Cond.code ({ cls := "java/lang/Object", name := "<init>", desc := "()V" } : Jvm.MethodName) object_method_1_code (1 : Nat) (Option.none : Option Jvm.ClassFile.FieldType)).before args0 about1 = true := code_word (m := ⟨0, 0⟩) (meth := k0m0) (c := k0c0) (by decide +kernel) rfl rfl rfl (by decide +kernel)
set_option maxRecDepth 65536 in
theorem w_c6 : (Jvm.Cond.code ({ cls := "java/lang/StringUTF16", name := "compress", desc := "([CII)[B" } : Jvm.MethodName) jdk_52_method_16_code (6 : Nat) (Option.some (Jvm.ClassFile.FieldType.array Jvm.ClassFile.FieldType.byte))).before args0 about1 = true := code_word (m := ⟨8, 2⟩) (meth := k8m2) (c := k8c2) (by decide +kernel) rfl rfl rfl (by decide +kernel)
set_option maxRecDepth 65536 in
theorem w_c7 : (Jvm.Cond.code ({ cls := "java/lang/StringUTF16", name := "compress", desc := "([CI[BII)I" } : Jvm.MethodName) jdk_52_method_21_code (7 : Nat) (Option.some Jvm.ClassFile.FieldType.int)).before args0 about1 = true := code_word (m := ⟨8, 3⟩) (meth := k8m3) (c := k8c3) (by decide +kernel) rfl rfl rfl (by decide +kernel)
set_option maxRecDepth 65536 in
theorem w_c8 : (Jvm.Cond.code ({ cls := "java/lang/StringUTF16", name := "coderFromArrayLen", desc := "([BI)B" } : Jvm.MethodName) jdk_52_method_15_code (2 : Nat) (Option.some Jvm.ClassFile.FieldType.byte)).before args0 about1 = true := code_word (m := ⟨8, 1⟩) (meth := k8m1) (c := k8c1) (by decide +kernel) rfl rfl rfl (by decide +kernel)
set_option maxRecDepth 65536 in
theorem w_c9 : (Jvm.Cond.code ({ cls := "com/example/tributary/tributary/Locations", name := "sourcePath", desc := "(Ljava/lang/String;)Ljava/lang/String;" } : Jvm.MethodName) prog_3_method_2_code (1 : Nat) (Option.some (Jvm.ClassFile.FieldType.object "java/lang/String"))).before args0 about1 = true := code_word (m := ⟨9, 1⟩) (meth := k9m1) (c := k9c1) (by decide +kernel) rfl rfl rfl (by decide +kernel)
set_option maxRecDepth 65536 in
theorem w_c10 : (Jvm.Cond.code ({ cls := "java/lang/String", name := "lastIndexOf", desc := "(I)I" } : Jvm.MethodName) jdk_42_method_82_code (2 : Nat) (Option.some Jvm.ClassFile.FieldType.int)).before args0 about1 = true := code_word (m := ⟨7, 4⟩) (meth := k7m4) (c := k7c4) (by decide +kernel) rfl rfl rfl (by decide +kernel)
set_option maxRecDepth 65536 in
theorem w_c11 : (Jvm.Cond.code ({ cls := "java/lang/String", name := "length", desc := "()I" } : Jvm.MethodName) jdk_42_method_54_code (1 : Nat) (Option.some Jvm.ClassFile.FieldType.int)).before args0 about1 = true := code_word (m := ⟨7, 2⟩) (meth := k7m2) (c := k7c2) (by decide +kernel) rfl rfl rfl (by decide +kernel)
set_option maxRecDepth 65536 in
theorem w_c12 : (Jvm.Cond.code ({ cls := "java/lang/String", name := "coder", desc := "()B" } : Jvm.MethodName) jdk_42_method_152_code (1 : Nat) (Option.some Jvm.ClassFile.FieldType.byte)).before args0 about1 = true := code_word (m := ⟨7, 9⟩) (meth := k7m9) (c := k7c9) (by decide +kernel) rfl rfl rfl (by decide +kernel)
set_option maxRecDepth 65536 in
theorem w_c13 : (Jvm.Cond.code ({ cls := "java/lang/String", name := "lastIndexOf", desc := "(II)I" } : Jvm.MethodName) jdk_42_method_83_code (3 : Nat) (Option.some Jvm.ClassFile.FieldType.int)).before args0 about1 = true := code_word (m := ⟨7, 5⟩) (meth := k7m5) (c := k7c5) (by decide +kernel) rfl rfl rfl (by decide +kernel)
set_option maxRecDepth 65536 in
theorem w_c14 : (Jvm.Cond.code ({ cls := "java/lang/String", name := "isLatin1", desc := "()Z" } : Jvm.MethodName) jdk_42_method_154_code (1 : Nat) (Option.some Jvm.ClassFile.FieldType.boolean)).before args0 about1 = true := code_word (m := ⟨7, 10⟩) (meth := k7m10) (c := k7c10) (by decide +kernel) rfl rfl rfl (by decide +kernel)
set_option maxRecDepth 65536 in
theorem w_c15 : (Jvm.Cond.code ({ cls := "java/lang/StringLatin1", name := "lastIndexOf", desc := "([BII)I" } : Jvm.MethodName) jdk_43_method_27_code (4 : Nat) (Option.some Jvm.ClassFile.FieldType.int)).before args0 about1 = true := code_word (m := ⟨10, 3⟩) (meth := k10m3) (c := k10c3) (by decide +kernel) rfl rfl rfl (by decide +kernel)
set_option maxRecDepth 65536 in
theorem w_c16 : (Jvm.Cond.code ({ cls := "java/lang/StringLatin1", name := "canEncode", desc := "(I)Z" } : Jvm.MethodName) jdk_43_method_4_code (1 : Nat) (Option.some Jvm.ClassFile.FieldType.boolean)).before args0 about1 = true := code_word (m := ⟨10, 2⟩) (meth := k10m2) (c := k10c2) (by decide +kernel) rfl rfl rfl (by decide +kernel)
set_option maxRecDepth 65536 in
theorem w_c17 : (Jvm.Cond.code ({ cls := "java/lang/Math", name := "min", desc := "(II)I" } : Jvm.MethodName) jdk_29_method_69_code (2 : Nat) (Option.some Jvm.ClassFile.FieldType.int)).before args0 about1 = true := code_word (m := ⟨11, 1⟩) (meth := k11m1) (c := k11c1) (by decide +kernel) rfl rfl rfl (by decide +kernel)
set_option maxRecDepth 65536 in
theorem w_c18 : (Jvm.Cond.code ({ cls := "java/lang/String", name := "substring", desc := "(II)Ljava/lang/String;" } : Jvm.MethodName) jdk_42_method_92_code (5 : Nat) (Option.some (Jvm.ClassFile.FieldType.object "java/lang/String"))).before args0 about1 = true := code_word (m := ⟨7, 6⟩) (meth := k7m6) (c := k7c6) (by decide +kernel) rfl rfl rfl (by decide +kernel)
set_option maxRecDepth 65536 in
theorem w_c19 : (Jvm.Cond.code ({ cls := "java/lang/String", name := "checkBoundsBeginEnd", desc := "(III)V" } : Jvm.MethodName) jdk_42_method_158_code (3 : Nat) (Option.none : Option Jvm.ClassFile.FieldType)).before args0 about1 = true := code_word (m := ⟨7, 12⟩) (meth := k7m12) (c := k7c12) (by decide +kernel) rfl rfl rfl (by decide +kernel)
set_option maxRecDepth 65536 in
theorem w_c20 : (Jvm.Cond.code ({ cls := "jdk/internal/util/Preconditions", name := "checkFromToIndex", desc := "(IIILjava/util/function/BiFunction;)I" } : Jvm.MethodName) jdk_41_method_12_code (4 : Nat) (Option.some Jvm.ClassFile.FieldType.int)).before args0 about1 = true := code_word (m := ⟨12, 2⟩) (meth := k12m2) (c := k12c2) (by decide +kernel) rfl rfl rfl (by decide +kernel)
set_option maxRecDepth 65536 in
theorem w_c21 : (Jvm.Cond.code ({ cls := "java/lang/StringLatin1", name := "newString", desc := "([BII)Ljava/lang/String;" } : Jvm.MethodName) jdk_43_method_47_code (3 : Nat) (Option.some (Jvm.ClassFile.FieldType.object "java/lang/String"))).before args0 about1 = true := code_word (m := ⟨10, 4⟩) (meth := k10m4) (c := k10c4) (by decide +kernel) rfl rfl rfl (by decide +kernel)
set_option maxRecDepth 65536 in
theorem w_c22 : (Jvm.Cond.code ({ cls := "java/util/Arrays", name := "copyOfRange", desc := "([BII)[B" } : Jvm.MethodName) jdk_65_method_132_code (3 : Nat) (Option.some (Jvm.ClassFile.FieldType.array Jvm.ClassFile.FieldType.byte))).before args0 about1 = true := code_word (m := ⟨13, 2⟩) (meth := k13m2) (c := k13c2) (by decide +kernel) rfl rfl rfl (by decide +kernel)
set_option maxRecDepth 65536 in
theorem w_c23 : (Jvm.Cond.code ({ cls := "java/util/Arrays", name := "copyOfRangeByte", desc := "([BII)[B" } : Jvm.MethodName) jdk_65_method_133_code (5 : Nat) (Option.some (Jvm.ClassFile.FieldType.array Jvm.ClassFile.FieldType.byte))).before args0 about1 = true := code_word (m := ⟨13, 3⟩) (meth := k13m3) (c := k13c3) (by decide +kernel) rfl rfl rfl (by decide +kernel)
set_option maxRecDepth 65536 in
theorem w_c24 : (Jvm.Cond.code ({ cls := "java/util/Arrays", name := "checkLength", desc := "(II)V" } : Jvm.MethodName) jdk_65_method_131_code (2 : Nat) (Option.none : Option Jvm.ClassFile.FieldType)).before args0 about1 = true := code_word (m := ⟨13, 1⟩) (meth := k13m1) (c := k13c1) (by decide +kernel) rfl rfl rfl (by decide +kernel)
set_option maxRecDepth 65536 in
theorem w_c25 : (Jvm.Cond.code ({ cls := "java/lang/String", name := "<init>", desc := "([BB)V" } : Jvm.MethodName) jdk_42_method_151_code (3 : Nat) (Option.none : Option Jvm.ClassFile.FieldType)).before args0 about1 = true := code_word (m := ⟨7, 8⟩) (meth := k7m8) (c := k7c8) (by decide +kernel) rfl rfl rfl (by decide +kernel)
set_option maxRecDepth 65536 in
theorem w_c26 : (Jvm.Cond.code ({ cls := "java/lang/String", name := "charAt", desc := "(I)C" } : Jvm.MethodName) jdk_42_method_56_code (2 : Nat) (Option.some Jvm.ClassFile.FieldType.char)).before args0 about1 = true := code_word (m := ⟨7, 3⟩) (meth := k7m3) (c := k7c3) (by decide +kernel) rfl rfl rfl (by decide +kernel)
set_option maxRecDepth 65536 in
theorem w_c27 : (Jvm.Cond.code ({ cls := "java/lang/StringLatin1", name := "charAt", desc := "([BI)C" } : Jvm.MethodName) jdk_43_method_2_code (2 : Nat) (Option.some Jvm.ClassFile.FieldType.char)).before args0 about1 = true := code_word (m := ⟨10, 1⟩) (meth := k10m1) (c := k10c1) (by decide +kernel) rfl rfl rfl (by decide +kernel)
set_option maxRecDepth 65536 in
theorem w_c28 : (Jvm.Cond.code ({ cls := "java/lang/String", name := "checkIndex", desc := "(II)V" } : Jvm.MethodName) jdk_42_method_155_code (2 : Nat) (Option.none : Option Jvm.ClassFile.FieldType)).before args0 about1 = true := code_word (m := ⟨7, 11⟩) (meth := k7m11) (c := k7c11) (by decide +kernel) rfl rfl rfl (by decide +kernel)
set_option maxRecDepth 65536 in
theorem w_c29 : (Jvm.Cond.code ({ cls := "jdk/internal/util/Preconditions", name := "checkIndex", desc := "(IILjava/util/function/BiFunction;)I" } : Jvm.MethodName) jdk_41_method_11_code (3 : Nat) (Option.some Jvm.ClassFile.FieldType.int)).before args0 about1 = true := code_word (m := ⟨12, 1⟩) (meth := k12m1) (c := k12c1) (by decide +kernel) rfl rfl rfl (by decide +kernel)
def codes1 : List Jvm.Cond := [Jvm.Cond.code x code maxLocals ret, Jvm.Cond.code ({ cls := "com/example/tributary/tributary/LocationsSourcePathPinLaw", name := "draw", desc := "(I)C" } : Jvm.MethodName) method_2_code (1 : Nat) (Option.some Jvm.ClassFile.FieldType.char), Jvm.Cond.code ({ cls := "com/example/tributary/tributary/LocationsSourcePathPinLaw", name := "build", desc := "([CI)Ljava/lang/String;" } : Jvm.MethodName) method_3_code (2 : Nat) (Option.some (Jvm.ClassFile.FieldType.object "java/lang/String")), Jvm.Cond.code ({ cls := "java/lang/String", name := "<init>", desc := "([C)V" } : Jvm.MethodName) jdk_42_method_3_code (2 : Nat) (Option.none : Option Jvm.ClassFile.FieldType), Jvm.Cond.code ({ cls := "java/lang/String", name := "<init>", desc := "([CIILjava/lang/Void;)V" } : Jvm.MethodName) jdk_42_method_149_code (6 : Nat) (Option.none : Option Jvm.ClassFile.FieldType), Jvm.Cond.code ({ cls := "java/lang/Object", name := "<init>", desc := "()V" } : Jvm.MethodName) object_method_1_code (1 : Nat) (Option.none : Option Jvm.ClassFile.FieldType), Jvm.Cond.code ({ cls := "java/lang/StringUTF16", name := "compress", desc := "([CII)[B" } : Jvm.MethodName) jdk_52_method_16_code (6 : Nat) (Option.some (Jvm.ClassFile.FieldType.array Jvm.ClassFile.FieldType.byte)), Jvm.Cond.code ({ cls := "java/lang/StringUTF16", name := "compress", desc := "([CI[BII)I" } : Jvm.MethodName) jdk_52_method_21_code (7 : Nat) (Option.some Jvm.ClassFile.FieldType.int), Jvm.Cond.code ({ cls := "java/lang/StringUTF16", name := "coderFromArrayLen", desc := "([BI)B" } : Jvm.MethodName) jdk_52_method_15_code (2 : Nat) (Option.some Jvm.ClassFile.FieldType.byte), Jvm.Cond.code ({ cls := "com/example/tributary/tributary/Locations", name := "sourcePath", desc := "(Ljava/lang/String;)Ljava/lang/String;" } : Jvm.MethodName) prog_3_method_2_code (1 : Nat) (Option.some (Jvm.ClassFile.FieldType.object "java/lang/String")), Jvm.Cond.code ({ cls := "java/lang/String", name := "lastIndexOf", desc := "(I)I" } : Jvm.MethodName) jdk_42_method_82_code (2 : Nat) (Option.some Jvm.ClassFile.FieldType.int), Jvm.Cond.code ({ cls := "java/lang/String", name := "length", desc := "()I" } : Jvm.MethodName) jdk_42_method_54_code (1 : Nat) (Option.some Jvm.ClassFile.FieldType.int), Jvm.Cond.code ({ cls := "java/lang/String", name := "coder", desc := "()B" } : Jvm.MethodName) jdk_42_method_152_code (1 : Nat) (Option.some Jvm.ClassFile.FieldType.byte), Jvm.Cond.code ({ cls := "java/lang/String", name := "lastIndexOf", desc := "(II)I" } : Jvm.MethodName) jdk_42_method_83_code (3 : Nat) (Option.some Jvm.ClassFile.FieldType.int), Jvm.Cond.code ({ cls := "java/lang/String", name := "isLatin1", desc := "()Z" } : Jvm.MethodName) jdk_42_method_154_code (1 : Nat) (Option.some Jvm.ClassFile.FieldType.boolean), Jvm.Cond.code ({ cls := "java/lang/StringLatin1", name := "lastIndexOf", desc := "([BII)I" } : Jvm.MethodName) jdk_43_method_27_code (4 : Nat) (Option.some Jvm.ClassFile.FieldType.int), Jvm.Cond.code ({ cls := "java/lang/StringLatin1", name := "canEncode", desc := "(I)Z" } : Jvm.MethodName) jdk_43_method_4_code (1 : Nat) (Option.some Jvm.ClassFile.FieldType.boolean), Jvm.Cond.code ({ cls := "java/lang/Math", name := "min", desc := "(II)I" } : Jvm.MethodName) jdk_29_method_69_code (2 : Nat) (Option.some Jvm.ClassFile.FieldType.int), Jvm.Cond.code ({ cls := "java/lang/String", name := "substring", desc := "(II)Ljava/lang/String;" } : Jvm.MethodName) jdk_42_method_92_code (5 : Nat) (Option.some (Jvm.ClassFile.FieldType.object "java/lang/String")), Jvm.Cond.code ({ cls := "java/lang/String", name := "checkBoundsBeginEnd", desc := "(III)V" } : Jvm.MethodName) jdk_42_method_158_code (3 : Nat) (Option.none : Option Jvm.ClassFile.FieldType), Jvm.Cond.code ({ cls := "jdk/internal/util/Preconditions", name := "checkFromToIndex", desc := "(IIILjava/util/function/BiFunction;)I" } : Jvm.MethodName) jdk_41_method_12_code (4 : Nat) (Option.some Jvm.ClassFile.FieldType.int), Jvm.Cond.code ({ cls := "java/lang/StringLatin1", name := "newString", desc := "([BII)Ljava/lang/String;" } : Jvm.MethodName) jdk_43_method_47_code (3 : Nat) (Option.some (Jvm.ClassFile.FieldType.object "java/lang/String")), Jvm.Cond.code ({ cls := "java/util/Arrays", name := "copyOfRange", desc := "([BII)[B" } : Jvm.MethodName) jdk_65_method_132_code (3 : Nat) (Option.some (Jvm.ClassFile.FieldType.array Jvm.ClassFile.FieldType.byte)), Jvm.Cond.code ({ cls := "java/util/Arrays", name := "copyOfRangeByte", desc := "([BII)[B" } : Jvm.MethodName) jdk_65_method_133_code (5 : Nat) (Option.some (Jvm.ClassFile.FieldType.array Jvm.ClassFile.FieldType.byte)), Jvm.Cond.code ({ cls := "java/util/Arrays", name := "checkLength", desc := "(II)V" } : Jvm.MethodName) jdk_65_method_131_code (2 : Nat) (Option.none : Option Jvm.ClassFile.FieldType), Jvm.Cond.code ({ cls := "java/lang/String", name := "<init>", desc := "([BB)V" } : Jvm.MethodName) jdk_42_method_151_code (3 : Nat) (Option.none : Option Jvm.ClassFile.FieldType), Jvm.Cond.code ({ cls := "java/lang/String", name := "charAt", desc := "(I)C" } : Jvm.MethodName) jdk_42_method_56_code (2 : Nat) (Option.some Jvm.ClassFile.FieldType.char), Jvm.Cond.code ({ cls := "java/lang/StringLatin1", name := "charAt", desc := "([BI)C" } : Jvm.MethodName) jdk_43_method_2_code (2 : Nat) (Option.some Jvm.ClassFile.FieldType.char), Jvm.Cond.code ({ cls := "java/lang/String", name := "checkIndex", desc := "(II)V" } : Jvm.MethodName) jdk_42_method_155_code (2 : Nat) (Option.none : Option Jvm.ClassFile.FieldType), Jvm.Cond.code ({ cls := "jdk/internal/util/Preconditions", name := "checkIndex", desc := "(IILjava/util/function/BiFunction;)I" } : Jvm.MethodName) jdk_41_method_11_code (3 : Nat) (Option.some Jvm.ClassFile.FieldType.int)]
set_option maxRecDepth 65536 in
theorem codes_eq : words1.filter isCode = codes1 := rfl
theorem w_codes : ∀ c ∈ words1.filter isCode, c.before args0 about1 = true := by
  rw [codes_eq]
  intro c hc
  simp only [codes1, List.mem_cons, List.not_mem_nil, or_false] at hc
  rcases hc with rfl | rfl | rfl | rfl | rfl | rfl | rfl | rfl | rfl | rfl | rfl | rfl | rfl | rfl | rfl | rfl | rfl | rfl | rfl | rfl | rfl | rfl | rfl | rfl | rfl | rfl | rfl | rfl | rfl | rfl
  · exact w_c0
  · exact w_c1
  · exact w_c2
  · exact w_c3
  · exact w_c4
  · exact w_c5
  · exact w_c6
  · exact w_c7
  · exact w_c8
  · exact w_c9
  · exact w_c10
  · exact w_c11
  · exact w_c12
  · exact w_c13
  · exact w_c14
  · exact w_c15
  · exact w_c16
  · exact w_c17
  · exact w_c18
  · exact w_c19
  · exact w_c20
  · exact w_c21
  · exact w_c22
  · exact w_c23
  · exact w_c24
  · exact w_c25
  · exact w_c26
  · exact w_c27
  · exact w_c28
  · exact w_c29
set_option maxRecDepth 65536 in
theorem w_t1 : (words1.take 24).all (fun c => isCode c || c.before args0 about1) = true := by decide +kernel
set_option maxRecDepth 65536 in
theorem w_t2 : ((words1.drop 24).take 24).all (fun c => isCode c || c.before args0 about1) = true := by decide +kernel
set_option maxRecDepth 65536 in
theorem w_t3 : (((words1.drop 24).drop 24).take 24).all (fun c => isCode c || c.before args0 about1) = true := by decide +kernel
set_option maxRecDepth 65536 in
theorem w_t4 : ((((words1.drop 24).drop 24).drop 24).take 24).all (fun c => isCode c || c.before args0 about1) = true := by decide +kernel
set_option maxRecDepth 65536 in
theorem w_t5 : (((((words1.drop 24).drop 24).drop 24).drop 24).take 24).all (fun c => isCode c || c.before args0 about1) = true := by decide +kernel
set_option maxRecDepth 65536 in
theorem w_t6 : (((((words1.drop 24).drop 24).drop 24).drop 24).drop 24).all (fun c => isCode c || c.before args0 about1) = true := by decide +kernel
theorem w_tables : (allAtoms (Jvm.Cond.code x code maxLocals ret :: tables_1)).before args0 about1 = true := by
  rw [allAtoms_all]
  show words1.all (fun c => c.before args0 about1) = true
  refine all_split ?_ w_codes
  rw [← List.take_append_drop 24 words1, List.all_append, w_t1, ← List.take_append_drop 24 (words1.drop 24), List.all_append, w_t2, ← List.take_append_drop 24 ((words1.drop 24).drop 24), List.all_append, w_t3, ← List.take_append_drop 24 (((words1.drop 24).drop 24).drop 24), List.all_append, w_t4, ← List.take_append_drop 24 ((((words1.drop 24).drop 24).drop 24).drop 24), List.all_append, w_t5, w_t6]
  rfl
set_option maxRecDepth 65536 in
theorem w_rest : rest_1_c.before args0 about1 = true := by decide +kernel
set_option maxRecDepth 65536 in
theorem w_case : (Jvm.Cond.and given_1 narrow_1).before args0 about1 = true := by decide +kernel
set_option maxRecDepth 65536 in
theorem w_consts : constsHeld consts_1 about1 := Jvm.Lit.constsHeldB_iff.mp (by decide +kernel)
theorem w_applies : (headSpec (Jvm.Cond.code x code maxLocals ret :: tables_1) room_1).applies x e0.platform about1 = true :=
  (Spec.applies_iff w_frames).mpr ⟨w_running, w_runnable, w_alone, w_named, w_hears, w_ripe, w_room, w_tables⟩
theorem atStart : AtStart classFile x code maxLocals ret World_1 tables_1 room_1 Calls_1 rest_1 Pre_1 launch0 p0 e0 about1 theMethod args0 below0 :=
  ⟨lists_1, trivial, launch0.admits_env _ _ _, launch0.least_env, fairChoices_fair.cas, fairChoices_fair.clock, w_frames, w_args, w_heap, w_applies, ⟨w_consts, trivial⟩, w_rest, w_case⟩
end start1
theorem witness_1 : WitnessClaimed_1 := ⟨start1.p0, start1.e0, start1.about1, start1.theMethod, start1.args0, start1.below0, start1.atStart⟩
end Jvm.Pilot.@@N@@
