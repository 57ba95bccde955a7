import JvmDerived
import JvmDerived.Pilot.@@N@@Statement
import JvmDerived.Pilot.@@N@@Code
set_option linter.unusedVariables false
set_option linter.unusedSimpArgs false
set_option maxRecDepth 65536
set_option maxHeartbeats 40000000
namespace Jvm.Pilot.@@N@@
open Jvm Jvm.ClassFile Sem Op Lib Jvm.Free Jvm.Stand Jvm.LawKit Jvm.RoadKit Bundle Jvm.Pilot.@@N@@.Jvm.D
theorem oW {a0 : Array Value} {Z : State} (hw : ∀ d ∈ tables_1, d.before a0 Z = true) {d : Jvm.Cond} (i : Nat) (h : tables_1[i]? = some d) : d.before a0 Z = true := hw _ (List.mem_of_getElem? h)
theorem oMvM {Z s : State} {a0 args : Array Value} {own host : String} {index : Nat} {x : MethodName} (hZ : Z.Warmed39 s.vm) (w : (Jvm.Cond.methodLinkNest own index x host).before a0 Z = true) : (Jvm.Cond.methodLinkNest own index x host).before args s = true := (Cond.methodLinkNest_wide hZ w :)
abbrev uu : Slot := .unset
abbrev ss : Slot := .second
/-- the run from T with g on top comes to a state of which P holds -/
def oWk (tb : Tables) (e : Env) (below : List Frame) (P : State → Prop) (T : State) (g : JFrame) : Prop := ∃ t, Steps tb e below (T.setTop g) t ∧ P t
section OwnA
variable {tb : Tables} {e : Env} {below : List Frame} {P : State → Prop} {T T' : State} {g g' : JFrame}
theorem oWk.st (f : ∀ t, Steps tb e below (T'.setTop g') t → Steps tb e below (T.setTop g) t) (k : oWk tb e below P T' g') : oWk tb e below P T g := k.elim fun t q => ⟨t, f t q.1, q.2⟩
theorem oWk.to (g' : JFrame) (f : ∀ t, Steps tb e below (T'.setTop g') t → Steps tb e below (T.setTop g) t) (k : oWk tb e below P T' g') : oWk tb e below P T g := k.elim fun t q => ⟨t, f t q.1, q.2⟩
theorem oWk.tr (f : Steps tb e below (T.setTop g) (T'.setTop g')) (k : oWk tb e below P T' g') : oWk tb e below P T g := k.elim fun t q => ⟨t, f.trans q.1, q.2⟩
theorem oWk.cast (q : g = g') (k : oWk tb e below P T g') : oWk tb e below P T g := q ▸ k
end OwnA
/-- one stands as before, in another state that left other places written -/
def oStd {p : Program} {l : Launch} {e : Env} {R : Room} {s : State} {m : MethodId} {args : Array Value} {below : List Frame} {meth : Method} {c : Code} {T : State} {locs : List Loc} {cells slots : Nat} (_ : Stand p l e R s m args below meth c T locs cells slots) (T' : State) (L' : List Loc) : Prop := Stand p l e R s m args below meth c T' L' cells slots
/-- the invocation has ended: a value, the heap, the places written -/
def oDn (s : State) (below : List Frame) (Q : Option Value → Heap → List Loc → Prop) (k n : Nat) (t : State) : Prop := t.status = .running ∧ ∃ v L, Ended t below (.returned v) ∧ Q v t.heap L ∧ FrameEnd s (.returned v) t L k n
/-- a contract: called with these arguments on this heap the body returns and Q holds -/
abbrev oCon (l : Launch) (Z : State) (y : MethodName) (bytes : ByteArray) (maxL : Nat) (ret : Option FieldType) (ws : List Jvm.Cond) (rm : Room) (as' : Array Value) (h0 : Heap) (Q : Option Value → Heap → List Loc → Prop) : Prop :=
  MetFree l y (head1 (Jvm.Cond.code y bytes maxL ret :: ws) rm) (fun a U => a = as' ∧ Z.Warmed39 U.vm ∧ U.heap = h0) (fun _ _ _ _ _ => True) (fun _ U o U' => ∃ v L, o = .returned v ∧ Q v U'.heap L ∧ FrameEnd U o U' L rm.cells rm.slots)
theorem oCon.of {l : Launch} {Z : State} {y : MethodName} {bytes : ByteArray} {maxL : Nat} {ret : Option FieldType} {ws : List Jvm.Cond} {rm : Room} {as' : Array Value} {h0 : Heap} {Q : Option Value → Heap → List Loc → Prop} (hp : plainFor y = true)
    (body : ∀ (p : Program) (e : Env) (s : State) (m : MethodId) (below : List Frame) (meth : Method) (c : Code) (T : State), Stand p l e rm s m as' below meth c T [] 0 0 → p.tables.exec = Jvm.exec → c.code = bytes → c.maxLocals = maxL → s.vm.findClass y.cls = some m.cls → meth.name = y.name → meth.sig.returnType = ret → meth.locks = false → Z.Warmed39 s.vm → T.heap = h0 → oWk p.tables e below (oDn s below Q rm.cells rm.slots) T (entryFrame m as' maxL)) :
    oCon l Z y bytes maxL ret ws rm as' h0 Q := by
  refine MetFree.of_bodySF hp hisR ?_
  intro p e s m args below meth c s₁ Bd hml0 hP hK
  obtain ⟨rfl, hZ, hh⟩ := hP
  have e0 : s₁.heap = h0 := by rw [← hh, Bd.state]; rfl
  obtain ⟨t, h1, h2, v, L, h3, h4, h5⟩ := body p e s m below meth c s₁ (Stand.of_body Bd) Bd.exec Bd.bytes hml0 (findClass_of_methodNamed Bd.named) (name_of_methodNamed Bd.named Bd.method).1 Bd.returns Bd.notSynchronized hZ e0
  exact ⟨t, _, h1, h2, h3, v, L, rfl, h4, h5⟩
section OwnB
variable {p : Program} {l : Launch} {e : Env} {R : Room} {s : State} {m : MethodId} {args : Array Value} {below : List Frame} {meth : Method} {c : Code} {T : State} {locs : List Loc} {cells slots : Nat} {Q : Option Value → Heap → List Loc → Prop} {k n pc : Nat} {Ls : Array Slot}
theorem oRet (X : Stand p l e R s m args below meth c T locs cells slots) (hx : p.tables.exec = Jvm.exec) (hlk : meth.locks = false) {w : Value} {t : FieldType} {i : Instr} {rest : List Value} (hret : meth.sig.returnType = some t) (hn : narrow t w = w)
    (hi : (i = .ireturn ∧ (t = .int ∨ t = .boolean ∨ t = .byte ∨ t = .char ∨ t = .short) ∧ ∃ z, w = .int z) ∨ (i = .lreturn ∧ t = .long ∧ ∃ z, w = .long z) ∨ (i = .dreturn ∧ t = .double ∧ ∃ z, w = .double z) ∨ (i = .freturn ∧ t = .float ∧ ∃ z, w = .float z) ∨ (i = .areturn ∧ t.isReference = true ∧ w.isRef = true))
    (hd : decode c.code pc = .ok (i, 1)) (hQ : Q (some w) T.heap locs) (hk : cells ≤ k) (hs : slots ≤ n) : oWk p.tables e below (oDn s below Q k n) T (mkF m pc Ls (w :: rest)) := by
  obtain ⟨fs, hr, hrun, hended, hW, hsame⟩ := X.leave (v := some w) (fun h => by rw [hret] at h; cases h) hlk
  exact ⟨_, retOut X hx hret hn hi hd hr, hrun, _, _, hended, hQ, ⟨_, rfl⟩, hW, hsame.mono hk hs⟩
theorem oRetI (X : Stand p l e R s m args below meth c T locs cells slots) (hx : p.tables.exec = Jvm.exec) (hlk : meth.locks = false) {z : Int32} {rest : List Value} (hret : meth.sig.returnType = some .int) (hd : decode c.code pc = .ok (.ireturn, 1)) (hQ : Q (some (.int z)) T.heap locs) (hk : cells ≤ k) (hs : slots ≤ n) :
    oWk p.tables e below (oDn s below Q k n) T (mkF m pc Ls (.int z :: rest)) := oRet X hx hlk hret rfl (Or.inl ⟨rfl, Or.inl rfl, _, rfl⟩) hd hQ hk hs
theorem oRetZ (X : Stand p l e R s m args below meth c T locs cells slots) (hx : p.tables.exec = Jvm.exec) (hlk : meth.locks = false) {z : Int32} {rest : List Value} (hret : meth.sig.returnType = some .boolean) (hd : decode c.code pc = .ok (.ireturn, 1)) (hz : z = 0 ∨ z = 1) (hQ : Q (some (.int z)) T.heap locs) (hk : cells ≤ k) (hs : slots ≤ n) :
    oWk p.tables e below (oDn s below Q k n) T (mkF m pc Ls (.int z :: rest)) := oRet X hx hlk hret (by rcases hz with rfl | rfl <;> rfl) (Or.inl ⟨rfl, Or.inr (Or.inl rfl), _, rfl⟩) hd hQ hk hs
theorem oRetN (X : Stand p l e R s m args below meth c T locs cells slots) (hx : p.tables.exec = Jvm.exec) (hlk : meth.locks = false) {z : Int32} {t : FieldType} {rest : List Value} (hret : meth.sig.returnType = some t) (ht : t = .byte ∨ t = .char ∨ t = .short) (hn : narrow t (.int z) = .int z) (hd : decode c.code pc = .ok (.ireturn, 1)) (hQ : Q (some (.int z)) T.heap locs) (hk : cells ≤ k) (hs : slots ≤ n) :
    oWk p.tables e below (oDn s below Q k n) T (mkF m pc Ls (.int z :: rest)) := oRet X hx hlk hret hn (Or.inl ⟨rfl, Or.inr (Or.inr ht), _, rfl⟩) hd hQ hk hs
theorem oRetD (X : Stand p l e R s m args below meth c T locs cells slots) (hx : p.tables.exec = Jvm.exec) (hlk : meth.locks = false) {z : UInt64} {rest : List Value} (hret : meth.sig.returnType = some .double) (hd : decode c.code pc = .ok (.dreturn, 1)) (hQ : Q (some (.double z)) T.heap locs) (hk : cells ≤ k) (hs : slots ≤ n) :
    oWk p.tables e below (oDn s below Q k n) T (mkF m pc Ls (.double z :: rest)) := oRet X hx hlk hret rfl (Or.inr (Or.inr (Or.inl ⟨rfl, rfl, _, rfl⟩))) hd hQ hk hs
theorem oNarR {t : FieldType} {w : Value} (ht : t.isReference = true) (hw : w.isRef = true) : narrow t w = w := by cases t <;> cases w <;> simp_all [narrow, FieldType.isReference, Value.isRef]
theorem oRetA (X : Stand p l e R s m args below meth c T locs cells slots) (hx : p.tables.exec = Jvm.exec) (hlk : meth.locks = false) {w : Value} {t : FieldType} {rest : List Value} (hret : meth.sig.returnType = some t) (ht : t.isReference = true) (hw : w.isRef = true) (hd : decode c.code pc = .ok (.areturn, 1)) (hQ : Q (some w) T.heap locs) (hk : cells ≤ k) (hs : slots ≤ n) :
    oWk p.tables e below (oDn s below Q k n) T (mkF m pc Ls (w :: rest)) := oRet X hx hlk hret (oNarR ht hw) (Or.inr (Or.inr (Or.inr (Or.inr ⟨rfl, ht, hw⟩)))) hd hQ hk hs
theorem oRetV (X : Stand p l e R s m args below meth c T locs cells slots) (hx : p.tables.exec = Jvm.exec) (hlk : meth.locks = false) (hret : meth.sig.returnType = none) (hd : decode c.code pc = .ok (.return_, 1)) (hQ : Q none T.heap locs) (hk : cells ≤ k) (hs : slots ≤ n) :
    oWk p.tables e below (oDn s below Q k n) T (mkF m pc Ls []) := by
  obtain ⟨fs, hr, hrun, hended, hW, hsame⟩ := X.leave (v := none) (fun _ => rfl) hlk
  exact ⟨_, X.returnOut hx hret hd hr, hrun, _, _, hended, hQ, ⟨_, rfl⟩, hW, hsame.mono hk hs⟩
end OwnB
/-- the heap is kept but for ws and new cells; the places written lie there -/
def oKp (h0 h : Heap) (ws : List Addr) (L : List Loc) : Prop := Keep h0 h ws ∧ ∀ y ∈ L, y.base ∈ ws ∨ h0.size ≤ y.base
section OwnC
variable {Z : State} {h0 h h' : Heap} {ws ws' : List Addr} {L L' : List Loc} {a : Addr} {sl : Nat} {v : Value}
theorem oKp.nil (h : Heap) (ws : List Addr) : oKp h h ws [] := ⟨Keep.refl _ _, fun _ q => nomatch q⟩
theorem oKp.ext (K : oKp h0 h ws L) (E : Ext h h') : oKp h0 h' ws L := ⟨K.1.ext E, K.2⟩
theorem oKp.wr (K : oKp h0 h ws L) (W : Wr h h' a sl v) (q : a ∈ ws ∨ h0.size ≤ a) : oKp h0 h' ws (L ++ [⟨a, sl⟩]) := ⟨K.1.wr W q, fun y hy => (List.mem_append.mp hy).elim (K.2 y) fun hy => by cases List.mem_singleton.mp hy; exact q⟩
theorem oKp.call (K : oKp h0 h ws L) (K' : oKp h h' ws' L') (q : ∀ x ∈ ws', x ∈ ws ∨ h0.size ≤ x) : oKp h0 h' ws (L ++ L') := ⟨K.1.trans K'.1 q, fun y hy => (List.mem_append.mp hy).elim (K.2 y) fun hy => (K'.2 y hy).elim (q _) fun z => Or.inr (Nat.le_trans K.1.1 z)⟩
theorem oKp.le (K : oKp h0 h ws L) : h0.size ≤ h.size := K.1.1
theorem oKp.old (K : oKp h0 h ws L) (O : Ext Z.heap h0) (q : ∀ x ∈ ws, Z.heap.size ≤ x) : Ext Z.heap h := ⟨Nat.le_trans O.1 K.1.1, fun x c hc => K.1.2.1 x c (O.2 x c hc) fun hx => absurd (Array.getElem?_eq_some_iff.mp hc).1 (Nat.not_lt.mpr (q x hx))⟩
theorem oKp.fr (K : oKp h0 h [] L) : Fr h0.size L := fun y hy => (K.2 y hy).elim (fun q => nomatch q) id
theorem oExtRefl (h : Heap) : Ext h h := ⟨Nat.le_refl _, fun _ _ q => q⟩
theorem Ext.keep0 (E : Ext h h') : Keep h h' [] := ⟨E.1, fun x c q _ => E.2 x c q, fun x c q => ⟨c, E.2 x c q, rfl, rfl, rfl⟩⟩
end OwnC
/-- a truth as an int -/
def oBi (P : Prop) [Decidable P] : Int32 := if P then 1 else 0
theorem oBi_t {P : Prop} [Decidable P] (h : P) : oBi P = 1 := if_pos h
theorem oBi_f {P : Prop} [Decidable P] (h : ¬ P) : oBi P = 0 := if_neg h
theorem oBi_ne {P : Prop} [Decidable P] (h : P) : ¬ oBi P = 0 := by rw [oBi_t h]; decide
theorem oBi_01 (P : Prop) [Decidable P] : oBi P = 0 ∨ oBi P = 1 := by by_cases h : P; exact Or.inr (if_pos h); exact Or.inl (if_neg h)
theorem oBi_0 {P : Prop} [Decidable P] (h : oBi P = 0) : ¬ P := fun q => oBi_ne q h
theorem oBi_1 {P : Prop} [Decidable P] (h : ¬ oBi P = 0) : P := Decidable.byContradiction fun q => h (oBi_f q)
section OwnD
variable {args : Array Value} {Z : State} {t u : Term} {C n d K : String} {a b : Addr} {k : Int32}
theorem oFldR (ht : t.eval args Z none [] Z = some (.ref a)) (hu : u.eval args Z none [] Z = some (.ref b)) (h : (Jvm.Cond.eq (.field t C n d) u).value args Z none Z [] = some true) : Fld Z Z.heap a C n d (.ref b) := by
  obtain ⟨x, y, e1, e2, k1, k2⟩ := cmp_v (Or.inl h)
  cases hu.symm.trans e2
  have hx : x.isRef = true := k2.2
  have q := gotT (eq_R e1 e2 hx rfl) h
  subst q
  exact Fld.start ((fld_at ht).symm.trans e1)
theorem oFldI (ht : t.eval args Z none [] Z = some (.ref a)) (h : (Jvm.Cond.eq (.field t C n d) (.int k)).value args Z none Z [] = some true) : Fld Z Z.heap a C n d (.int k) := by
  obtain ⟨x, y, e1, e2, k1, k2⟩ := cmp_v (Or.inl h)
  cases (Option.some.inj e2 : Value.int k = y)
  obtain ⟨z, rfl⟩ := (k2 : ∃ z, x = .int z)
  have q : z = k := by
    have h' := h
    simp only [Cond.value, e1, e2] at h'
    simpa using h'
  subst q
  exact Fld.start ((fld_at ht).symm.trans e1)
theorem oFldX (ht : t.eval args Z none [] Z = some (.ref a)) (h : (Jvm.Cond.exactly (.field t C n d) K).value args Z none Z [] = some true) : ∃ b, (Term.field t C n d).eval args Z none [] Z = some (.ref b) ∧ Fld Z Z.heap a C n d (.ref b) ∧ Exa Z Z.heap b K := by
  obtain ⟨b, e1⟩ := exa_v h
  exact ⟨b, e1, Fld.start ((fld_at ht).symm.trans e1), Exa.start e1 h⟩
theorem oNe32 {x y : Int32} (h : ¬ x = y) : x.toInt ≠ y.toInt := fun q => h (Int32.toInt_inj.mp q)
end OwnD
section OwnE
variable {Z : State} {a0 : Array Value} {C O K : String} {n : Nat} {h h' : Heap} {a : Addr} {ws : List Addr}
theorem oNSroot (wo : (Jvm.Cond.noSuperclass O).before a0 Z = true) (wk : (Jvm.Cond.instantiable K n).before a0 Z = true) (h2 : O ≠ K) : NS Z O K := by
  obtain ⟨t, kt, g1, -⟩ := Cond.instantiable_spec wk
  obtain ⟨c, k, a1, a2, a3, -, -⟩ := Cond.noSuperclass_spec wo
  have ne := ids_ne a1 g1 h2
  refine ⟨c, t, a1, g1, fun fuel => ?_⟩
  cases fuel with
  | zero => rfl
  | succ f => simp [Vm.isSubclassAux, ne, a2, a3]
theorem oNSno (w : (Jvm.Cond.superclass C O).before a0 Z = true) (wk : (Jvm.Cond.instantiable K n).before a0 Z = true) (N : NS Z C K) (h1 : C ≠ K) : ∃ c t, Z.vm.findClass C = some c ∧ Z.vm.findClass K = some t ∧ Z.vm.assignable c t = false := by
  obtain ⟨t, kt, g1, g2, g3, g4, -⟩ := Cond.instantiable_spec wk
  obtain ⟨c, t', b0, b1, b2⟩ := N
  cases g1.symm.trans b1
  obtain ⟨p, k, kp, e1, e2, e3, e4, e5, -, e7⟩ := Cond.superclass_spec b0 w
  have ne := ids_ne b0 g1 h1
  have gi : kt.isInterface = false := by simp only [Bool.or_eq_false_iff] at g4; exact g4.1
  refine ⟨c, t, b0, g1, ?_⟩
  show Z.vm.assignableAux (255 + 1) c t = false
  simp [Vm.assignableAux, ne, e2, g2, e5, g3, gi, Vm.isSubclass, b2]
theorem oNotInst (w : (Jvm.Cond.superclass C O).before a0 Z = true) (wo : (Jvm.Cond.noSuperclass O).before a0 Z = true) (wk : (Jvm.Cond.instantiable K n).before a0 Z = true) (h1 : C ≠ K) (h2 : O ≠ K) : ∃ c t, Z.vm.findClass C = some c ∧ Z.vm.findClass K = some t ∧ Z.vm.assignable c t = false :=
  oNSno w wk (NS.step w (oNSroot wo wk h2) h1) h1
theorem oInsKeep {b : Bool} (F : Ins Z h a K b) (H : Keep h h' ws) : Ins Z h' a K b := by
  obtain ⟨cell, cT, h1, h2, h3⟩ := F
  obtain ⟨c', e1, e2, e3, -⟩ := H.2.2 _ _ h1
  exact ⟨c', cT, e1, h2, by rw [e2, e3]; exact h3⟩
end OwnE
theorem oNot0 {args : Array Value} {Z : State} {t : Term} {x : Int32} (h : t.eval args Z none [] Z = some (.int x)) (hn : (Jvm.Cond.not (.eq t (.int 0))).value args Z none Z [] = some true) : ¬ x = (0 : Int32) := fun q => by
  subst q
  have e : (Jvm.Cond.eq t (.int 0)).value args Z none Z [] = some true := eq_i h (Term.int_eval 0) rfl
  simp [Cond.value] at hn e
  rw [e] at hn
  simp at hn
theorem oFldD {args : Array Value} {Z : State} {t : Term} {C n d : String} {a : Addr} {k : Int64} (ht : t.eval args Z none [] Z = some (.ref a)) (h : (Jvm.Cond.eq (.field t C n d) (.op1 .bitsD (.long k))).value args Z none Z [] = some true) : Fld Z Z.heap a C n d (.double k.toUInt64) := by
  obtain ⟨x, y, e1, e2, k1, k2⟩ := cmp_v (Or.inl h)
  have e3 : (Term.op1 .bitsD (.long k)).eval args Z none [] Z = some (.double k.toUInt64) := rfl
  cases e3.symm.trans e2
  obtain ⟨z, rfl⟩ := (k2 : ∃ z, x = .double z)
  have q : z = k.toUInt64 := by
    have h' := h
    simp only [Cond.value, e1, e2] at h'
    simpa using h'
  subst q
  exact Fld.start ((fld_at ht).symm.trans e1)
section OwnF
variable {p : Program} {l : Launch} {e : Env} {R : Room} {s : State} {m : MethodId} {args : Array Value} {below : List Frame} {meth : Method} {c : Code} {T : State} {locs : List Loc} {cells slots : Nat} {Z : State} {a0 : Array Value} {h : Heap} {own C : String} {index : Nat} {a mr : Addr}
/-- the Class object of C has been made: mr -/
def oMir (Z : State) (C : String) (mr : Addr) : Prop := ∃ (c : ClassId) (k : Class), Z.vm.findClass C = some c ∧ Z.vm.classes[c]? = some k ∧ k.mirror = some mr
abbrev oGc : MethodName := ⟨"java/lang/Object", "getClass", "()Ljava/lang/Class;"⟩
theorem oGcls (X : Stand p l e R s m args below meth c T locs cells slots) (hx : p.tables.exec = Jvm.exec) (hZ : Z.Warmed39 s.vm) (hown : s.vm.findClass own = some m.cls) (w1 : (Jvm.Cond.methodLink own index oGc).before a0 Z = true) (w2 : (Jvm.Cond.declares oGc).before a0 Z = true) (w4 : (Jvm.Cond.selects C oGc oGc).before a0 Z = true) (w5 : (Jvm.Cond.instanceMethod oGc).before a0 Z = true) (w6 : (Jvm.Cond.native oGc).before a0 Z = true) (eT : T.heap = h) (E : Exa Z h a C) (M : oMir Z C mr)
    {g : JFrame} (hg : g.method = m) (hsize : g.locals.size = c.maxLocals) {rest : List Value} (hs : g.stack = .ref a :: rest) (hd : decode c.code g.pc = .ok (.invokevirtual index, 3)) (hf : 1 ≤ R.frames) {W : Nat} (hW : 2 * g.monitorRoom + (rest.map fun v => v.category).sum ≤ W) (hl : W + (nativeFrameWords "java/lang/Object" "getClass" 1 + 11) ≤ R.locals) :
    ∃ T', Stand p l e R s m args below meth c T' locs cells slots ∧ T'.heap = h ∧ ∀ target, Steps p.tables e below (T'.setTop { g with pc := g.pc + 3, stack := .ref mr :: rest }) target → Steps p.tables e below (T.setTop g) target := by
  obtain ⟨cB, kB, i1, i2, i3⟩ := isOf hZ eT E
  obtain ⟨cc, kc, m1, m2, m3⟩ := M
  have i0 := i1
  rw [hZ.alike.findClass] at i1
  cases i1.symm.trans m1
  obtain ⟨k', q, ek⟩ := hZ.alike.2.2 _ _ m2
  obtain ⟨vm', X', st⟩ := X.getClassOf hx hown (mvT hZ w1) (mvT hZ w2) (notFace_of_selects (args := #[]) (mvT hZ w4)) (mvT hZ w4) (mvT hZ w5) (mvT hZ w6) i0 i3 q (by rw [ek]; exact m3) hg hsize hs hd hf (by omega)
  exact ⟨_, X', eT, st⟩
theorem oLdcM (X : Stand p l e R s m args below meth c T locs cells slots) (hx : p.tables.exec = Jvm.exec) (hZ : Z.Warmed39 s.vm) (hown : s.vm.findClass own = some m.cls) (w : (Jvm.Cond.classLink own index C).before a0 Z = true) (eT : T.heap = h) (M : oMir Z C mr)
    {g : JFrame} (hg : g.method = m) (hd : decode c.code g.pc = .ok (.ldc index, 2)) : ∃ T', Stand p l e R s m args below meth c T' locs cells slots ∧ T'.heap = h ∧ ∀ target, Steps p.tables e below (T'.setTop { g with pc := g.pc + 2, stack := .ref mr :: g.stack }) target → Steps p.tables e below (T.setTop g) target := by
  obtain ⟨cc, kc, m1, m2, m3⟩ := M
  obtain ⟨k', q, ek⟩ := hZ.alike.2.2 _ _ m2
  have f1 : s.vm.findClass C = some cc := by rw [hZ.alike.findClass]; exact m1
  have f2 : k'.mirror = some mr := by rw [ek]; exact m3
  obtain ⟨vm', X', st⟩ := X.ldcMirror hx hown (mvT hZ w) (a := mr) (by simp [Term.eval, f1, q, f2]) hg hd
  exact ⟨_, X', eT, st⟩
end OwnF
theorem oArr0 {args : Array Value} {Z : State} {t : Term} {a : Addr} {ty : FieldType} {dv : Value} (hf : Fit Z) (ev : t.eval args Z none [] Z = some (.ref a)) (h1 : (Jvm.Cond.arrayOf t ty).value args Z none Z [] = some true) (h2 : (Jvm.Cond.eq (.length t) (.int 0)).value args Z none Z [] = some true) : ∃ k, Arv Z Z.heap a k ty 0 [] dv := by
  obtain ⟨cl, A⟩ := Arr.start ev h1
  have ha : Z.arrayAt? a = some cl := Arr.fin (Vm.Alike.refl _) A
  have hlt : cl.slots.size < 2 ^ 31 := by
    apply Decidable.byContradiction
    intro q
    have e : (Term.length t).eval args Z none [] Z = none := by
      cases hv : (Term.length t).eval args Z none [] Z with
      | none => rfl
      | some y =>
        simp only [Term.eval, Option.bind_eq_bind] at hv
        rw [ev] at hv
        simp [ha, q] at hv
    simp [Cond.value, e] at h2
  have e : (Term.length t).eval args Z none [] Z = some (.int cl.slots.size.toInt32) := len_f ev ha hlt
  have z : cl.slots.size.toInt32 = 0 := by
    have h' := h2
    simp only [Cond.value, e, Term.int_eval] at h'
    simpa using h'
  have z' : cl.slots.size = 0 := by
    have := len_toInt hlt
    rw [z] at this
    have r : (0 : Int32).toInt = 0 := by decide
    omega
  exact ⟨_, Arv.start hf A hlt z (by decide) rfl trivial⟩
theorem oNar01 {z : Int32} (hz : z = 0 ∨ z = 1) : narrow .boolean (.int z) = .int z := by rcases hz with rfl | rfl <;> rfl
theorem oFitC {x : Int32} (h : 0 ≤ x.toInt ∧ x.toInt < 256) : fits .char (.int x) = true := by
  have e : x.toUInt32.toUInt16.toUInt32.toInt32 = x := by
    have a := c_i2c x
    apply Int32.toInt_inj.mp
    omega
  have q := fits_nar_char x
  have r : nar .char x = x := e
  rw [r] at q; exact q
section OwnH
variable {p : Program} {l : Launch} {e : Env} {R : Room} {s : State} {m : MethodId} {args : Array Value} {below : List Frame} {meth : Method} {c : Code} {T : State} {locs : List Loc} {cells slots : Nat} {Z : State} {a0 : Array Value} {EL : List (String × Nat)} {h h' h0 : Heap} {vm : Vm} {ws : List Addr} {a : Addr} {sl : Nat} {v : Value}
/-- what is known of the tables since the start: no pair of the intern table is old; the constants held still hold their texts -/
def oB (Z : State) (EL : List (String × Nat)) (s : State) (h0 : Heap) (vm : Vm) (h : Heap) : Prop := (∃ k0, s.Since vm k0 ∧ k0 ≤ h.size) ∧ CHr Z EL s.vm h0 vm h
theorem oB.ext (B : oB Z EL s h0 vm h) (E : Ext h h') : oB Z EL s h0 vm h' := ⟨B.1.imp fun _ q => ⟨q.1, Nat.le_trans q.2 E.1⟩, B.2.trans (CHr.ext E B.2.1)⟩
theorem oB.new {o : Addr} (B : oB Z EL s h0 vm h) (q : h.size ≤ o) : Safe Z EL vm h o := Safe.new q
theorem oB.wr (B : oB Z EL s h0 vm h) (W : Wr h h' a sl v) (S : Safe Z EL vm h a) : oB Z EL s h0 vm h' := ⟨B.1.imp fun _ q => ⟨q.1, by rw [W.size]; exact q.2⟩, B.2.trans (CHr.wr W S B.2.1)⟩
theorem oB.keep (B : oB Z EL s h0 vm h) (K : Keep h h' ws) (S : ∀ x ∈ ws, Safe Z EL vm h x) : oB Z EL s h0 vm h' := ⟨B.1.imp fun _ q => ⟨q.1, Nat.le_trans q.2 K.1⟩, B.2.trans (CHr.keep K S B.2.1)⟩
def oDnH (Z : State) (EL : List (String × Nat)) (s : State) (h0 : Heap) (below : List Frame) (Q : Option Value → Heap → List Loc → Prop) (k n : Nat) (t : State) : Prop := t.status = .running ∧ ∃ v L, Ended t below (.returned v) ∧ Q v t.heap L ∧ CHr Z EL s.vm h0 t.vm t.heap ∧ ReturnedEndW s (.returned v) t L k n
/-- a contract of a body that may load String constants; sf: objects that no constant's text lies in -/
abbrev oConH (l : Launch) (Z : State) (EL : List (String × Nat)) (y : MethodName) (bytes : ByteArray) (maxL : Nat) (ret : Option FieldType) (ws : List Jvm.Cond) (rm : Room) (as' : Array Value) (h0 : Heap) (sf : List Addr) (Q : Option Value → Heap → List Loc → Prop) : Prop :=
  MetFree l y (head1 (Jvm.Cond.code y bytes maxL ret :: ws) rm) (fun a U => a = as' ∧ Z.Warmed39 U.vm ∧ U.heap = h0 ∧ CHv Z EL U.vm h0 ∧ ∀ x ∈ sf, Safe Z EL U.vm h0 x) (fun _ _ _ _ _ => True) (fun _ U o U' => ∃ v L, o = .returned v ∧ Q v U'.heap L ∧ CHr Z EL U.vm U.heap U'.vm U'.heap ∧ ReturnedEndW U o U' L rm.cells rm.slots)
theorem oConH.of {l : Launch} {Z : State} {EL : List (String × Nat)} {y : MethodName} {bytes : ByteArray} {maxL : Nat} {ret : Option FieldType} {ws : List Jvm.Cond} {rm : Room} {as' : Array Value} {h0 : Heap} {sf : List Addr} {Q : Option Value → Heap → List Loc → Prop} (hp : plainFor y = true)
    (body : ∀ (p : Program) (e : Env) (s : State) (m : MethodId) (below : List Frame) (meth : Method) (c : Code) (T : State) (vm : Vm), Stand p l e rm (s.setVm vm) m as' below meth c T [] 0 0 → p.tables.exec = Jvm.exec → c.code = bytes → c.maxLocals = maxL → (s.setVm vm).vm.findClass y.cls = some m.cls → meth.name = y.name → meth.sig.returnType = ret → meth.locks = false → Z.Warmed39 (s.setVm vm).vm → T.heap = h0 → oB Z EL s h0 vm h0 → (∀ x ∈ sf, Safe Z EL vm h0 x) → oWk p.tables e below (oDnH Z EL s h0 below Q rm.cells rm.slots) T (entryFrame m as' maxL)) :
    oConH l Z EL y bytes maxL ret ws rm as' h0 sf Q := by
  refine MetFree.of_bodySF hp hisR ?_
  intro p e s m args below meth c s₁ Bd hml0 hP hK
  obtain ⟨rfl, hZ, hh, hC, hs⟩ := hP
  have e0 : s₁.heap = h0 := by rw [← hh, Bd.state]; rfl
  obtain ⟨t, h1, h2, v, L, h3, h4, h5, h6⟩ := body p e s m below meth c s₁ s.vm (Stand.of_body Bd) Bd.exec Bd.bytes hml0 (findClass_of_methodNamed Bd.named) (name_of_methodNamed Bd.named Bd.method).1 Bd.returns Bd.notSynchronized hZ e0 ⟨⟨h0.size, (State.WarmedH.refl s).since _, Nat.le_refl _⟩, CHr.refl hC⟩ hs
  exact ⟨t, _, h1, h2, h3, v, L, rfl, h4, by rw [hh]; exact h5, h6⟩
section Rets
variable {Q : Option Value → Heap → List Loc → Prop} {k n pc : Nat} {Ls : Array Slot}
theorem oRetH (X : Stand p l e R (s.setVm vm) m args below meth c T locs cells slots) (hx : p.tables.exec = Jvm.exec) (hlk : meth.locks = false) (hZ : Z.Warmed39 (s.setVm vm).vm) (hEL : EW Z a0 EL) (e0 : T.heap = h) (B : oB Z EL s h0 vm h) {w : Value} {t : FieldType} {i : Instr} {rest : List Value} (hret : meth.sig.returnType = some t) (hn : narrow t w = w)
    (hi : (i = .ireturn ∧ (t = .int ∨ t = .boolean ∨ t = .byte ∨ t = .char ∨ t = .short) ∧ ∃ z, w = .int z) ∨ (i = .lreturn ∧ t = .long ∧ ∃ z, w = .long z) ∨ (i = .dreturn ∧ t = .double ∧ ∃ z, w = .double z) ∨ (i = .freturn ∧ t = .float ∧ ∃ z, w = .float z) ∨ (i = .areturn ∧ t.isReference = true ∧ w.isRef = true))
    (hd : decode c.code pc = .ok (i, 1)) (hQ : Q (some w) T.heap locs) (hk : cells ≤ k) (hs : slots ≤ n) : oWk p.tables e below (oDnH Z EL s h0 below Q k n) T (mkF m pc Ls (w :: rest)) := by
  obtain ⟨⟨k0, hS, hk0⟩, C⟩ := B
  obtain ⟨fs, hr, hrun, hended, hW⟩ := X.leaveW hS (by rw [e0]; exact hk0) (v := some w) (fun h => by rw [hret] at h; cases h) hlk
  have C2 := C.trans (CHv.at X hZ hEL C.1)
  refine ⟨_, retOut X hx hret hn hi hd hr, hrun, _, _, hended, hQ, ?_, hW.1, hW.2.1, hW.2.2.1, hW.2.2.2.mono hk hs⟩
  show CHr Z EL s.vm h0 T.vm T.heap
  rw [e0]; exact C2
theorem oRetHV (X : Stand p l e R (s.setVm vm) m args below meth c T locs cells slots) (hx : p.tables.exec = Jvm.exec) (hlk : meth.locks = false) (hZ : Z.Warmed39 (s.setVm vm).vm) (hEL : EW Z a0 EL) (e0 : T.heap = h) (B : oB Z EL s h0 vm h) (hret : meth.sig.returnType = none) (hd : decode c.code pc = .ok (.return_, 1)) (hQ : Q none T.heap locs) (hk : cells ≤ k) (hs : slots ≤ n) :
    oWk p.tables e below (oDnH Z EL s h0 below Q k n) T (mkF m pc Ls []) := by
  obtain ⟨⟨k0, hS, hk0⟩, C⟩ := B
  obtain ⟨fs, hr, hrun, hended, hW⟩ := X.leaveW hS (by rw [e0]; exact hk0) (v := none) (fun _ => rfl) hlk
  have C2 := C.trans (CHv.at X hZ hEL C.1)
  refine ⟨_, X.returnOut hx hret hd hr, hrun, _, _, hended, hQ, ?_, hW.1, hW.2.1, hW.2.2.1, hW.2.2.2.mono hk hs⟩
  show CHr Z EL s.vm h0 T.vm T.heap
  rw [e0]; exact C2
end Rets
/-- a callee that may load String constants, by its contract -/
theorem oBackH {y : MethodName} {bytes : ByteArray} {maxL : Nat} {ret : Option FieldType} {rm : Room} {len W : Nat} {as' : Array Value} {Q : Option Value → Heap → List Loc → Prop} {sf : List Addr}
    (hM : oConH l Z EL y bytes maxL ret [] rm as' h sf Q) (hZ : Z.Warmed39 (s.setVm vm).vm) (wc : (Jvm.Cond.code y bytes maxL ret).before a0 Z = true) (wz : (Jvm.Cond.initialized y.cls).before a0 Z = true) (hf : rm.frames + 1 ≤ R.frames) (hl : W + (maxL + 11) + rm.locals ≤ R.locals) (hEL : EW Z a0 EL) (H : CHv Z EL vm h) (hs : ∀ x ∈ sf, x < h.size ∧ Safe Z EL vm h x) :
    BackS l R p e below (s.setVm vm) args y len W (fun A a => a = as' ∧ A.U.heap = h ∧ A.cells + rm.cells ≤ R.cells ∧ A.slots + rm.slots ≤ R.slots)
      (fun A _ v B => ∃ L, Q v B.U.heap L ∧ B.locs = A.locs ++ L ∧ B.cells = A.cells + rm.cells ∧ B.slots = A.slots + rm.slots ∧ CHr Z EL vm h B.U.vm B.U.heap) := by
  refine BackS.of_freeW (bytes := bytes) (maxL := maxL) (ret := ret) (E := fun _ first o t L k n => k = rm.cells ∧ n = rm.slots ∧ (∃ v, o = .returned v ∧ Q v t.heap L) ∧ CHr Z EL first.vm first.heap t.vm t.heap) hM hf hl ?_ ?_ (fun _ _ _ _ _ _ _ _ _ => trivial) ?_ ?_
  · intro m meth c A a Y hp
    have hU : Z.Warmed39 A.U.vm := wtrans (s := s.setVm vm) hZ Y.warmed
    exact ⟨by show (Cond.and _ .tt).before a A.U = true; rw [Cond.before_and, mv hU wc]; rfl, mv hU wc, mv hU wz, hp.2.2.1, hp.2.2.2⟩
  · intro m meth c A a g mk Y hp
    have D := CHv.at Y hZ hEL H
    exact ⟨hp.1, wtrans (s := s.setVm vm) hZ Y.warmed, hp.2.1, D.1, fun x hx => D.safe (hs x hx).1 (hs x hx).2⟩
  · rintro _ _ _ _ ⟨v, L, h1, h2, h3, h4⟩
    exact ⟨L, _, _, h4, rfl, rfl, ⟨v, h1, h2⟩, h3⟩
  · rintro m meth c A a g mk v t L k n Y hp _ _ ⟨e1, e2, ⟨v', e3, e4⟩, e5⟩
    cases e3; subst e1 e2
    refine ⟨L, e4, rfl, rfl, rfl, (CHv.at Y hZ hEL H).trans ?_⟩
    rw [← hp.2.1]; exact e5
/-- the tables behind such a call -/
theorem oB.call {U : State} (B : oB Z EL s h0 vm h) (hT : T.heap = h) (h2 : (s.setVm vm).Since U.vm U.heap.size) (g : T.heap.size ≤ U.heap.size) (C : CHr Z EL vm h U.vm U.heap) (e1 : U.heap = h') : oB Z EL s h0 U.vm h' := by
  subst e1
  obtain ⟨⟨k0, hS, hk0⟩, D⟩ := B
  exact ⟨⟨_, foldS (T := T) hS (by rw [hT]; exact hk0) h2 g, Nat.le_refl _⟩, D.trans C⟩
theorem oWide {U : State} {own : String} (hZ : Z.Warmed39 (s.setVm vm).vm) (hown : (s.setVm vm).vm.findClass own = some m.cls) (h2 : (s.setVm vm).Since U.vm U.heap.size) : Z.Warmed39 (s.setVm U.vm).vm ∧ (s.setVm U.vm).vm.findClass own = some m.cls :=
  ⟨State.Warmed39.trans (t := s.setVm vm) hZ h2.1, by show U.vm.findClass own = _; rw [h2.1.alike.findClass]; exact hown⟩
/-- ldc of a String constant, opaque -/
theorem oLdcO {own text : String} {index : Nat} (X : Stand p l e R (s.setVm vm) m args below meth c T locs cells slots) (hx : p.tables.exec = Jvm.exec) (hZ : Z.Warmed39 (s.setVm vm).vm) (hown : (s.setVm vm).vm.findClass own = some m.cls) (w : (Jvm.Cond.stringLink own index text).before a0 Z = true) (wS : ∀ a ∈ Bundle.stringAtoms, a.before a0 Z = true) (eT : T.heap = h) (hEL : EW Z a0 EL) (B : oB Z EL s h0 vm h)
    {g : JFrame} (hg : g.method = m) (hd : decode c.code g.pc = .ok (.ldc index, 2)) {n : Nat} (hn : 4 * text.toList.length ≤ n) (hbig : n ≤ 536870912) (hc : cells + 2 ≤ R.cells) (hl' : slots + (n + 4) ≤ R.slots) :
    ∃ (a : Addr) (T' : State) (h' : Heap), Stand p l e R (s.setVm T'.vm) m args below meth c T' locs (cells + 2) (slots + (n + 4)) ∧ T'.heap = h' ∧ Ext h h' ∧ Z.Warmed39 (s.setVm T'.vm).vm ∧ (s.setVm T'.vm).vm.findClass own = some m.cls ∧ oB Z EL s h0 T'.vm h' ∧ CHr Z EL vm h T'.vm h' ∧
      ∀ target, Steps p.tables e below (T'.setTop { g with pc := g.pc + 2, stack := .ref a :: g.stack }) target → Steps p.tables e below (T.setTop g) target := by
  obtain ⟨⟨k0, hS, hk0⟩, C⟩ := B
  obtain ⟨a, T', h', k1, X', e1, E, hS', hk1, hZ', hown', C', -, st⟩ := ldcOH X hx hZ hown w wS eT hS hk0 hEL C.1 hg hd hn hbig hc hl'
  exact ⟨a, T', h', X', e1, E, hZ', hown', ⟨⟨k1, hS', hk1⟩, C.trans C'⟩, C', st⟩
/-- ldc of a String constant of EL, read -/
theorem oLdcR {own text : String} {index : Nat} (X : Stand p l e R (s.setVm vm) m args below meth c T locs cells slots) (hx : p.tables.exec = Jvm.exec) (hZ : Z.Warmed39 (s.setVm vm).vm) (hown : (s.setVm vm).vm.findClass own = some m.cls) (w : (Jvm.Cond.stringLink own index text).before a0 Z = true) (wS : ∀ a ∈ Bundle.stringAtoms, a.before a0 Z = true) (eT : T.heap = h) (hEL : EW Z a0 EL) (hmem : (own, index) ∈ EL) (B : oB Z EL s h0 vm h)
    {vs : List Value} {z : Int32} (ht : (∀ c ∈ text.toList, c.toNat < 256) ∧ text.toList.map (fun c => Value.int (Jvm.Lit.byteI c.toNat.toUInt16)) = vs) (hz : ¬ z < 0) (hl : z.toNatClampNeg = vs.length)
    {g : JFrame} (hg : g.method = m) (hd : decode c.code g.pc = .ok (.ldc index, 2)) {n : Nat} (hn : 4 * text.toList.length ≤ n) (hbig : n ≤ 536870912) (hc : cells + 2 ≤ R.cells) (hl' : slots + (n + 4) ≤ R.slots) :
    ∃ (a : Addr) (T' : State) (h' : Heap) (b : Addr) (k : ClassId), Stand p l e R (s.setVm T'.vm) m args below meth c T' locs (cells + 2) (slots + (n + 4)) ∧ T'.heap = h' ∧ Ext h h' ∧ Z.Warmed39 (s.setVm T'.vm).vm ∧ (s.setVm T'.vm).vm.findClass own = some m.cls ∧ oB Z EL s h0 T'.vm h' ∧ CHr Z EL vm h T'.vm h' ∧
      Exa Z h' a "java/lang/String" ∧ Fld Z h' a "java/lang/String" "coder" "B" (.int 0) ∧ Fld Z h' a "java/lang/String" "value" "[B" (.ref b) ∧ Arv Z h' b k .byte z vs (.int 0) ∧ (∀ x, Safe Z EL T'.vm h' x → x ≠ a ∧ x ≠ b) ∧
      ∀ target, Steps p.tables e below (T'.setTop { g with pc := g.pc + 2, stack := .ref a :: g.stack }) target → Steps p.tables e below (T.setTop g) target := by
  obtain ⟨⟨k0, hS, hk0⟩, C⟩ := B
  obtain ⟨a, T', h', k1, b, k, X', e1, E, hS', hk1, hZ', hown', f1, f2, f3, f4, -, -, C', -, hne, st⟩ := ldcCH X hx hZ hown w wS eT hS hk0 hEL hmem C.1 ht hz hl hg hd hn hbig hc hl'
  exact ⟨a, T', h', b, k, X', e1, E, hZ', hown', ⟨⟨k1, hS', hk1⟩, C.trans C'⟩, C', f1, f2, f3, f4, hne, st⟩
end OwnH
/-- the sheet's words -/
abbrev oHW (a0 : Array Value) (Z : State) : Prop := ∀ d ∈ tables_1, d.before a0 Z = true
/-- a byte out of a char -/
abbrev ib (x : Int32) : Value := .int x.toInt8.toInt32
abbrev iu0 (x : Int32) : Value := .int (x >>> ((0 : Int32) &&& 31)).toInt8.toInt32
abbrev iu8 (x : Int32) : Value := .int (x >>> ((8 : Int32) &&& 31)).toInt8.toInt32
/-- a call's place: whoever stands there and has the callee's contract comes out behind it -/
def oCall (Z : State) (own : String) (i : Instr) (y : MethodName) (bytes : ByteArray) (maxL : Nat) (ret : Option FieldType) (P : Heap → List Value → Prop) : Prop :=
  ∀ (p : Program) (l : Launch) (e : Env) (R : Room) (s : State) (m : MethodId) (args : Array Value) (below : List Frame) (meth : Method) (c : Code) (T : State) (locs : List Loc) (cells slots : Nat) (h : Heap) (rm : Room) (Q : Option Value → Heap → List Loc → Prop) (pc W : Nat) (Ls : Array Slot) (S rest A : List Value),
    Stand p l e R s m args below meth c T locs cells slots → p.tables.exec = Jvm.exec → Z.Warmed39 s.vm → s.vm.findClass own = some m.cls → T.heap = h → P h A → oCon l Z y bytes maxL ret [] rm A.toArray h Q →
    (rm.frames + 1 ≤ R.frames ∧ W + (maxL + 11) + rm.locals ≤ R.locals ∧ cells + rm.cells ≤ R.cells ∧ slots + rm.slots ≤ R.slots) → Ls.size = c.maxLocals → S = A.reverse ++ rest → (rest.map fun v => v.category).sum = W → decode c.code pc = .ok (i, 3) →
    ∃ (v : Option Value) (T' : State) (L : List Loc), Stand p l e R s m args below meth c T' (locs ++ L) (cells + rm.cells) (slots + rm.slots) ∧ Q v T'.heap L ∧ ∀ t, Steps p.tables e below (T'.setTop (mkF m (pc + 3) Ls (v.toList ++ rest))) t → Steps p.tables e below (T.setTop (mkF m pc Ls S)) t
/-- what a call answers that leaves the heap as it is -/
def oPq (w : Option Value) (h0 : Heap) (v : Option Value) (h : Heap) (L : List Loc) : Prop := v = w ∧ h = h0 ∧ oKp h0 h [] L
section OwnK
variable {Z : State} {a0 : Array Value} {own C : String} {index : Nat} {y z : MethodName} {bytes : ByteArray} {maxL : Nat} {ret : Option FieldType} {ps : List FieldType} {r : Option FieldType}
abbrev oRv (Z : State) (n : Nat) (C : String) (h : Heap) (A : List Value) : Prop := A.length = n + 1 ∧ ∃ o B, A = .ref o :: B ∧ Exa Z h o C
abbrev oRi (n : Nat) (_ : Heap) (A : List Value) : Prop := A.length = n + 1 ∧ ∃ (o : Addr) (B : List Value), A = .ref o :: B
abbrev oRs (n : Nat) (_ : Heap) (A : List Value) : Prop := A.length = n
theorem oLenOf {d : String} (hd : parseMethodDescriptor d = some ⟨ps, r⟩) {L : List Value} (hl : L.length = ps.length) : ∀ sig, parseMethodDescriptor d = some sig → L.length = sig.parameters.length := lenOf hd hl
theorem oCall.stat (w1 : (Jvm.Cond.methodLink own index y).before a0 Z = true) (w2 : (Jvm.Cond.static y).before a0 Z = true) (w3 : (Jvm.Cond.initialized y.cls).before a0 Z = true) (w4 : (Jvm.Cond.code y bytes maxL ret).before a0 Z = true) (hy : y.cls ≠ "java/lang/invoke/MethodHandle" ∧ y.cls ≠ "java/lang/invoke/VarHandle") (hd : parseMethodDescriptor y.desc = some ⟨ps, r⟩) :
    oCall Z own (.invokestatic index) y bytes maxL ret (oRs ps.length) := by
  intro p l e R s m args below meth c T locs cells slots h rm Q pc W Ls S rest A X hx hZ hown e0 hP con hN hsz hS hW hdg
  obtain ⟨v, _, ⟨T', L', k', n'⟩, -, X', ⟨L, hQ, l1, y1, z1⟩, st⟩ := Jvm.LawKit.callS X hx (y := y) hown (mvT hZ w1) (mvT hZ w2) (mvT hZ w3) (mvT hZ w4) hy (backOf (W := W) con hZ w4 w3 hN.1 hN.2.1) (g := mkF m pc Ls S) rfl hsz (argsL := A) (rest := rest) (lenOf hd hP) hS (by show 2 * 0 + _ ≤ W; rw [hW, Nat.mul_zero, Nat.zero_add]; exact Nat.le_refl _) hdg (fun _ _ => ⟨rfl, e0, hN.2.2.1, hN.2.2.2⟩)
  dsimp only [Pt.U, Pt.locs, Pt.cells, Pt.slots] at X' l1 y1 z1 st hQ
  subst l1 y1 z1
  exact ⟨v, T', L, X', hQ, st⟩
theorem oCall.init (h1 : y.name = "<init>") (w1 : (Jvm.Cond.methodLink own index y).before a0 Z = true) (w2 : (Jvm.Cond.instanceMethod y).before a0 Z = true) (w3 : (Jvm.Cond.initialized y.cls).before a0 Z = true) (w4 : (Jvm.Cond.code y bytes maxL none).before a0 Z = true) (hy : y.cls ≠ "java/lang/invoke/MethodHandle" ∧ y.cls ≠ "java/lang/invoke/VarHandle") (hd : parseMethodDescriptor y.desc = some ⟨ps, r⟩) :
    oCall Z own (.invokespecial index) y bytes maxL none (oRi ps.length) := by
  intro p l e R s m args below meth c T locs cells slots h rm Q pc W Ls S rest A X hx hZ hown e0 hP con hN hsz hS hW hdg
  obtain ⟨hl, o, B, rfl⟩ := hP
  obtain ⟨v, _, ⟨T', L', k', n'⟩, -, X', ⟨L, hQ, l1, y1, z1⟩, st⟩ := X.specialBack hx (y := y) h1 hown (mvT hZ w1) (mvT hZ w2) (mvT hZ w4) hy (backOf (W := W) con hZ w4 w3 hN.1 hN.2.1) (g := mkF m pc Ls S) rfl hsz (Steps.refl _) (a := o) (argsL := B) (rest := rest) (lenOf hd (Nat.succ.inj hl)) (by rw [show (mkF m pc Ls S).stack = S from rfl, hS, List.reverse_cons, List.append_assoc]; rfl) (by show 2 * 0 + _ ≤ W; rw [hW, Nat.mul_zero, Nat.zero_add]; exact Nat.le_refl _) hdg (fun _ _ => ⟨rfl, e0, hN.2.2.1, hN.2.2.2⟩)
  dsimp only [Pt.U, Pt.locs, Pt.cells, Pt.slots] at X' l1 y1 z1 st hQ
  subst l1 y1 z1
  exact ⟨v, T', L, X', hQ, fun t k => st.trans k⟩
theorem oCall.initN {host : String} (h1 : y.name = "<init>") (w1 : (Jvm.Cond.methodLinkNest own index y host).before a0 Z = true) (w2 : (Jvm.Cond.instanceMethod y).before a0 Z = true) (w3 : (Jvm.Cond.initialized y.cls).before a0 Z = true) (w4 : (Jvm.Cond.code y bytes maxL none).before a0 Z = true) (hy : y.cls ≠ "java/lang/invoke/MethodHandle" ∧ y.cls ≠ "java/lang/invoke/VarHandle") (hd : parseMethodDescriptor y.desc = some ⟨ps, r⟩) :
    oCall Z own (.invokespecial index) y bytes maxL none (oRi ps.length) := by
  intro p l e R s m args below meth c T locs cells slots h rm Q pc W Ls S rest A X hx hZ hown e0 hP con hN hsz hS hW hdg
  obtain ⟨hl, o, B, rfl⟩ := hP
  obtain ⟨v, _, ⟨T', L', k', n'⟩, -, X', ⟨L, hQ, l1, y1, z1⟩, st⟩ := X.specialBackNest hx (y := y) h1 hown (oMvM hZ w1) (mvT hZ w2) (mvT hZ w4) hy (backOf (W := W) con hZ w4 w3 hN.1 hN.2.1) (g := mkF m pc Ls S) rfl hsz (Steps.refl _) (a := o) (argsL := B) (rest := rest) (lenOf hd (Nat.succ.inj hl)) (by rw [show (mkF m pc Ls S).stack = S from rfl, hS, List.reverse_cons, List.append_assoc]; rfl) (by show 2 * 0 + _ ≤ W; rw [hW, Nat.mul_zero, Nat.zero_add]; exact Nat.le_refl _) hdg (fun _ _ => ⟨rfl, e0, hN.2.2.1, hN.2.2.2⟩)
  dsimp only [Pt.U, Pt.locs, Pt.cells, Pt.slots] at X' l1 y1 z1 st hQ
  subst l1 y1 z1
  exact ⟨v, T', L, X', hQ, fun t k => st.trans k⟩
theorem oCall.virt (w1 : (Jvm.Cond.methodLink own index y).before a0 Z = true) (w2 : (Jvm.Cond.declares y).before a0 Z = true) (nf : ∀ s, Z.Warmed39 s.vm → NotFace s y) (w5 : (Jvm.Cond.selects C y z).before a0 Z = true) (w6 : (Jvm.Cond.instanceMethod z).before a0 Z = true) (w3 : (Jvm.Cond.initialized z.cls).before a0 Z = true) (w4 : (Jvm.Cond.code z bytes maxL ret).before a0 Z = true) (hy : y.cls ≠ "java/lang/invoke/MethodHandle" ∧ y.cls ≠ "java/lang/invoke/VarHandle") (hd : parseMethodDescriptor y.desc = some ⟨ps, r⟩) :
    oCall Z own (.invokevirtual index) z bytes maxL ret (oRv Z ps.length C) := by
  intro p l e R s m args below meth c T locs cells slots h rm Q pc W Ls S rest A X hx hZ hown e0 hP con hN hsz hS hW hdg
  obtain ⟨hl, o, B, rfl, E⟩ := hP
  obtain ⟨cq, kq, qa, qb, qc⟩ := isOf hZ e0 E
  obtain ⟨v, _, ⟨T', L', k', n'⟩, -, X', ⟨L, hQ, l1, y1, z1⟩, st⟩ := X.virtualBack hx (y := y) (z := z) hown (mvT hZ w1) (mvT hZ w2) (nf s hZ) (mvT hZ w5) (mvT hZ w6) hy (backOf (W := W) con hZ w4 w3 hN.1 hN.2.1) qa qc (g := mkF m pc Ls S) rfl hsz (Steps.refl _) (argsL := B) (rest := rest) (lenOf hd (Nat.succ.inj hl)) (by rw [show (mkF m pc Ls S).stack = S from rfl, hS, List.reverse_cons, List.append_assoc]; rfl) (by show 2 * 0 + _ ≤ W; rw [hW, Nat.mul_zero, Nat.zero_add]; exact Nat.le_refl _) hdg (fun _ _ => ⟨rfl, e0, hN.2.2.1, hN.2.2.2⟩)
  dsimp only [Pt.U, Pt.locs, Pt.cells, Pt.slots] at X' l1 y1 z1 st hQ
  subst l1 y1 z1
  exact ⟨v, T', L, X', hQ, fun t k => st.trans k⟩
theorem oCall.priv (w1 : (Jvm.Cond.methodLink own index y).before a0 Z = true) (w2 : (Jvm.Cond.instanceMethod y).before a0 Z = true) (w5 : (Jvm.Cond.selects y.cls y y).before a0 Z = true) (w6 : (Jvm.Cond.privateMethod y).before a0 Z = true) (w3 : (Jvm.Cond.initialized y.cls).before a0 Z = true) (w4 : (Jvm.Cond.code y bytes maxL ret).before a0 Z = true) (hy : y.cls ≠ "java/lang/invoke/MethodHandle" ∧ y.cls ≠ "java/lang/invoke/VarHandle") (hd : parseMethodDescriptor y.desc = some ⟨ps, r⟩) (C : String) :
    oCall Z own (.invokevirtual index) y bytes maxL ret (oRv Z ps.length C) := by
  intro p l e R s m args below meth c T locs cells slots h rm Q pc W Ls S rest A X hx hZ hown e0 hP con hN hsz hS hW hdg
  obtain ⟨hl, o, B, rfl, E⟩ := hP
  obtain ⟨cq, qa, qb⟩ := E.cell
  obtain ⟨v, _, ⟨T', L', k', n'⟩, -, X', ⟨L, hQ, l1, y1, z1⟩, st⟩ := X.privateBack hx (y := y) hown (mvT hZ w1) (mvT hZ w2) (mvT hZ w5) (Cond.privateMethod_at (mvP hZ w6 (args := #[]))) (mvT hZ w4) hy (backOf (W := W) con hZ w4 w3 hN.1 hN.2.1) (g := mkF m pc Ls S) rfl hsz (Steps.refl _) (a := o) (by rw [e0]; exact qa) qb (argsL := B) (rest := rest) (lenOf hd (Nat.succ.inj hl)) (by rw [show (mkF m pc Ls S).stack = S from rfl, hS, List.reverse_cons, List.append_assoc]; rfl) (by show 2 * 0 + _ ≤ W; rw [hW, Nat.mul_zero, Nat.zero_add]; exact Nat.le_refl _) hdg (fun _ _ => ⟨rfl, e0, hN.2.2.1, hN.2.2.2⟩)
  dsimp only [Pt.U, Pt.locs, Pt.cells, Pt.slots] at X' l1 y1 z1 st hQ
  subst l1 y1 z1
  exact ⟨v, T', L, X', hQ, fun t k => st.trans k⟩
variable {p : Program} {l : Launch} {e : Env} {R : Room} {s : State} {m : MethodId} {args : Array Value} {below : List Frame} {meth : Method} {c : Code} {T : State} {locs : List Loc} {cells slots : Nat} {h h0 : Heap} {rm : Room} {Q : Option Value → Heap → List Loc → Prop} {pc W ml : Nat} {Ls : Array Slot} {S rest A : List Value} {i : Instr} {P : Heap → List Value → Prop} {ws : List Addr} {w : Option Value} {bb : ByteArray}
/-- a call that leaves the heap as it is -/
theorem oCall.pure (H : oCall Z own i y bytes maxL ret P) (X : Stand p l e R s m args below meth c T locs cells slots) (hx : p.tables.exec = Jvm.exec) (hZ : Z.Warmed39 s.vm) (hown : s.vm.findClass own = some m.cls) (e0 : T.heap = h) (K : oKp h0 h ws locs) (hP : P h A) (con : oCon l Z y bytes maxL ret [] rm A.toArray h (oPq w h))
    (hN : rm.frames + 1 ≤ R.frames ∧ W + (maxL + 11) + rm.locals ≤ R.locals ∧ cells + rm.cells ≤ R.cells ∧ slots + rm.slots ≤ R.slots) (hml : c.maxLocals = ml) (hsz : Ls.size = ml) (hS : S = A.reverse ++ rest) (hW : (rest.map fun v => v.category).sum = W) (hby : c.code = bb) (hdg : decode bb pc = .ok (i, 3)) :
    ∃ (T' : State) (L : List Loc), Stand p l e R s m args below meth c T' (locs ++ L) (cells + rm.cells) (slots + rm.slots) ∧ T'.heap = h ∧ oKp h0 h ws (locs ++ L) ∧ ∀ t, Steps p.tables e below (T'.setTop (mkF m (pc + 3) Ls (w.toList ++ rest))) t → Steps p.tables e below (T.setTop (mkF m pc Ls S)) t := by
  obtain ⟨v, T', L, X', q, st⟩ := H _ _ _ _ _ _ _ _ _ _ _ _ _ _ _ _ _ _ _ _ _ _ _ X hx hZ hown e0 hP con hN (hsz.trans hml.symm) hS hW (hb hby hdg)
  obtain ⟨rfl, e1, K1⟩ := q
  rw [e1] at K1
  exact ⟨T', L, X', e1, K.call K1 all0, st⟩
/-- a call that may change it -/
theorem oCall.run (H : oCall Z own i y bytes maxL ret P) (X : Stand p l e R s m args below meth c T locs cells slots) (hx : p.tables.exec = Jvm.exec) (hZ : Z.Warmed39 s.vm) (hown : s.vm.findClass own = some m.cls) (e0 : T.heap = h) (hP : P h A) (con : oCon l Z y bytes maxL ret [] rm A.toArray h Q)
    (hN : rm.frames + 1 ≤ R.frames ∧ W + (maxL + 11) + rm.locals ≤ R.locals ∧ cells + rm.cells ≤ R.cells ∧ slots + rm.slots ≤ R.slots) (hml : c.maxLocals = ml) (hsz : Ls.size = ml) (hS : S = A.reverse ++ rest) (hW : (rest.map fun v => v.category).sum = W) (hby : c.code = bb) (hdg : decode bb pc = .ok (i, 3)) :
    ∃ (v : Option Value) (T' : State) (h' : Heap) (L : List Loc), Stand p l e R s m args below meth c T' (locs ++ L) (cells + rm.cells) (slots + rm.slots) ∧ T'.heap = h' ∧ Q v h' L ∧ ∀ t, Steps p.tables e below (T'.setTop (mkF m (pc + 3) Ls (v.toList ++ rest))) t → Steps p.tables e below (T.setTop (mkF m pc Ls S)) t := by
  obtain ⟨v, T', L, X', q, st⟩ := H _ _ _ _ _ _ _ _ _ _ _ _ _ _ _ _ _ _ _ _ _ _ _ X hx hZ hown e0 hP con hN (hsz.trans hml.symm) hS hW (hb hby hdg)
  exact ⟨v, T', _, L, X', rfl, q, st⟩
end OwnK
section OwnZ
variable {p : Program} {l : Launch} {e : Env} {R : Room} {s : State} {m : MethodId} {args : Array Value} {below : List Frame} {meth : Method} {c : Code} {T t : State} {locs : List Loc} {cells slots : Nat} {b : ByteArray} {g : JFrame} {x y : Int32} {v : Value} {rest : List Value} {k : Nat} {k4 : Fin 4} {i o : Int} {l' : Array Slot} {pc' : Nat} {cd : ClassFile.Cond}
theorem zA (X : Stand p l e R s m args below meth c T locs cells slots) (hx : p.tables.exec = Jvm.exec) (hby : c.code = b) (hd : decode b g.pc = .ok (.aload_n k4, 1)) (hg : g.method = m) (h0 : g.locals[k4.val]? = some (.val v)) (h1 : v.isRef = true) (hr : Steps p.tables e below (T.setTop { g with pc := g.pc + 1, stack := v :: g.stack }) t) : Steps p.tables e below (T.setTop g) t := XS.aloadN X.here hx hg (hb hby hd) h0 h1 hr
theorem zI (X : Stand p l e R s m args below meth c T locs cells slots) (hx : p.tables.exec = Jvm.exec) (hby : c.code = b) (hd : decode b g.pc = .ok (.iload_n k4, 1)) (hg : g.method = m) (h0 : g.locals[k4.val]? = some (.val (.int x))) (hr : Steps p.tables e below (T.setTop { g with pc := g.pc + 1, stack := .int x :: g.stack }) t) : Steps p.tables e below (T.setTop g) t := XS.iloadN X.here hx hg (hb hby hd) h0 hr
theorem zB (X : Stand p l e R s m args below meth c T locs cells slots) (hx : p.tables.exec = Jvm.exec) (hby : c.code = b) (hd : decode b g.pc = .ok (.aload k, 2)) (hg : g.method = m) (h0 : g.locals[k]? = some (.val v)) (h1 : v.isRef = true) (hr : Steps p.tables e below (T.setTop { g with pc := g.pc + 2, stack := v :: g.stack }) t) : Steps p.tables e below (T.setTop g) t := XS.aload X.here hx hg (hb hby hd) h0 h1 hr
theorem zJ (X : Stand p l e R s m args below meth c T locs cells slots) (hx : p.tables.exec = Jvm.exec) (hby : c.code = b) (hd : decode b g.pc = .ok (.iload k, 2)) (hg : g.method = m) (h0 : g.locals[k]? = some (.val (.int x))) (hr : Steps p.tables e below (T.setTop { g with pc := g.pc + 2, stack := .int x :: g.stack }) t) : Steps p.tables e below (T.setTop g) t := XS.iload X.here hx hg (hb hby hd) h0 hr
theorem zK (X : Stand p l e R s m args below meth c T locs cells slots) (hx : p.tables.exec = Jvm.exec) (hby : c.code = b) (hd : decode b g.pc = .ok (.iconst i, 1)) (hg : g.method = m)  (hr : Steps p.tables e below (T.setTop { g with pc := g.pc + 1, stack := .int (Int32.ofInt i) :: g.stack }) t) : Steps p.tables e below (T.setTop g) t := XS.iconst X.here hx hg (hb hby hd) hr
theorem zL (X : Stand p l e R s m args below meth c T locs cells slots) (hx : p.tables.exec = Jvm.exec) (hby : c.code = b) (hd : decode b g.pc = .ok (.bipush i, 2)) (hg : g.method = m)  (hr : Steps p.tables e below (T.setTop { g with pc := g.pc + 2, stack := .int (Int8.ofInt i).toInt32 :: g.stack }) t) : Steps p.tables e below (T.setTop g) t := XS.bipush X.here hx hg (hb hby hd) hr
theorem zM (X : Stand p l e R s m args below meth c T locs cells slots) (hx : p.tables.exec = Jvm.exec) (hby : c.code = b) (hd : decode b g.pc = .ok (.sipush i, 3)) (hg : g.method = m)  (hr : Steps p.tables e below (T.setTop { g with pc := g.pc + 3, stack := .int (Int16.ofInt i).toInt32 :: g.stack }) t) : Steps p.tables e below (T.setTop g) t := XS.sipush X.here hx hg (hb hby hd) hr
theorem zS (X : Stand p l e R s m args below meth c T locs cells slots) (hx : p.tables.exec = Jvm.exec) (hby : c.code = b) (hd : decode b g.pc = .ok (.istore k, 2)) (hg : g.method = m) (h0 : g.stack = .int x :: rest) (h1 : storeLocals g.locals k (.int x) = some l') (hr : Steps p.tables e below (T.setTop { g with pc := g.pc + 2, locals := l', stack := rest }) t) : Steps p.tables e below (T.setTop g) t := XS.istore X.here hx hg (hb hby hd) h0 h1 hr
theorem zSn (X : Stand p l e R s m args below meth c T locs cells slots) (hx : p.tables.exec = Jvm.exec) (hby : c.code = b) (hd : decode b g.pc = .ok (.istore_n k4, 1)) (hg : g.method = m) (h0 : g.stack = .int x :: rest) (h1 : storeLocals g.locals k4.val (.int x) = some l') (hr : Steps p.tables e below (T.setTop { g with pc := g.pc + 1, locals := l', stack := rest }) t) : Steps p.tables e below (T.setTop g) t := XS.istoreN X.here hx hg (hb hby hd) h0 h1 hr
theorem zT (X : Stand p l e R s m args below meth c T locs cells slots) (hx : p.tables.exec = Jvm.exec) (hby : c.code = b) (hd : decode b g.pc = .ok (.astore k, 2)) (hg : g.method = m) (h0 : g.stack = v :: rest) (h1 : v.isRef = true) (h2 : storeLocals g.locals k v = some l') (hr : Steps p.tables e below (T.setTop { g with pc := g.pc + 2, locals := l', stack := rest }) t) : Steps p.tables e below (T.setTop g) t := XS.astore X.here hx hg (hb hby hd) h0 h1 h2 hr
theorem zTn (X : Stand p l e R s m args below meth c T locs cells slots) (hx : p.tables.exec = Jvm.exec) (hby : c.code = b) (hd : decode b g.pc = .ok (.astore_n k4, 1)) (hg : g.method = m) (h0 : g.stack = v :: rest) (h1 : v.isRef = true) (h2 : storeLocals g.locals k4.val v = some l') (hr : Steps p.tables e below (T.setTop { g with pc := g.pc + 1, locals := l', stack := rest }) t) : Steps p.tables e below (T.setTop g) t := XS.astoreN X.here hx hg (hb hby hd) h0 h1 h2 hr
theorem zG (X : Stand p l e R s m args below meth c T locs cells slots) (hx : p.tables.exec = Jvm.exec) (hby : c.code = b) (hd : decode b g.pc = .ok (.goto o, 3)) (hg : g.method = m)  (hj : (g.pc : Int) + o = (pc' : Int)) (hr : Steps p.tables e below (T.setTop { g with pc := pc' }) t) : Steps p.tables e below (T.setTop g) t := XS.goto X.here hx hg rfl (hb hby hd) (by rw [hj]; exact Int.natCast_nonneg _) (by rw [hj]; exact Int.toNat_natCast _) hr
theorem zY (X : Stand p l e R s m args below meth c T locs cells slots) (hx : p.tables.exec = Jvm.exec) (hby : c.code = b) (hd : decode b g.pc = .ok (.if_icmp cd o, 3)) (hg : g.method = m) (h0 : g.stack = .int y :: .int x :: rest) (h1 : if_icmp.holds cd x y = true) (hj : (g.pc : Int) + o = (pc' : Int)) (hr : Steps p.tables e below (T.setTop { g with pc := pc', stack := rest }) t) : Steps p.tables e below (T.setTop g) t := XS.icmpYes X.here hx hg rfl (hb hby hd) h0 h1 (by rw [hj]; exact Int.natCast_nonneg _) (by rw [hj]; exact Int.toNat_natCast _) hr
theorem zN (X : Stand p l e R s m args below meth c T locs cells slots) (hx : p.tables.exec = Jvm.exec) (hby : c.code = b) (hd : decode b g.pc = .ok (.if_icmp cd o, 3)) (hg : g.method = m) (h0 : g.stack = .int y :: .int x :: rest) (h1 : if_icmp.holds cd x y = false) (hr : Steps p.tables e below (T.setTop { g with pc := g.pc + 3, stack := rest }) t) : Steps p.tables e below (T.setTop g) t := XS.icmpNo X.here hx hg (hb hby hd) h0 h1 hr
theorem zF (X : Stand p l e R s m args below meth c T locs cells slots) (hx : p.tables.exec = Jvm.exec) (hby : c.code = b) (hd : decode b g.pc = .ok (.ifCond cd o, 3)) (hg : g.method = m) (h0 : g.stack = .int x :: rest) (h1 : ifCond.holds cd x = true) (hj : (g.pc : Int) + o = (pc' : Int)) (hr : Steps p.tables e below (T.setTop { g with pc := pc', stack := rest }) t) : Steps p.tables e below (T.setTop g) t := XS.ifYes X.here hx hg rfl (hb hby hd) h0 h1 (by rw [hj]; exact Int.natCast_nonneg _) (by rw [hj]; exact Int.toNat_natCast _) hr
theorem zH (X : Stand p l e R s m args below meth c T locs cells slots) (hx : p.tables.exec = Jvm.exec) (hby : c.code = b) (hd : decode b g.pc = .ok (.ifCond cd o, 3)) (hg : g.method = m) (h0 : g.stack = .int x :: rest) (h1 : ifCond.holds cd x = false) (hr : Steps p.tables e below (T.setTop { g with pc := g.pc + 3, stack := rest }) t) : Steps p.tables e below (T.setTop g) t := XS.ifNo X.here hx hg (hb hby hd) h0 h1 hr
theorem zC (X : Stand p l e R s m args below meth c T locs cells slots) (hx : p.tables.exec = Jvm.exec) (hby : c.code = b) (hd : decode b g.pc = .ok (.iinc k i, 3)) (hg : g.method = m) (h0 : g.locals[k]? = some (.val (.int x))) (h1 : storeLocals g.locals k (.int (x + Int32.ofInt i)) = some l') (hr : Steps p.tables e below (T.setTop { g with pc := g.pc + 3, locals := l' }) t) : Steps p.tables e below (T.setTop g) t := XS.iinc X.here hx hg (hb hby hd) h0 h1 hr
theorem zD (X : Stand p l e R s m args below meth c T locs cells slots) (hx : p.tables.exec = Jvm.exec) (hby : c.code = b) (hd : decode b g.pc = .ok (.dup, 1)) (hg : g.method = m) (h0 : g.stack = v :: rest) (h1 : v.category = 1) (hr : Steps p.tables e below (T.setTop { g with pc := g.pc + 1, stack := v :: v :: rest }) t) : Steps p.tables e below (T.setTop g) t := XS.dup X.here hx hg (hb hby hd) h0 h1 hr
end OwnZ
section OwnL
variable {p : Program} {l : Launch} {e : Env} {R : Room} {s : State} {m : MethodId} {args : Array Value} {below : List Frame} {meth : Method} {c : Code} {T t : State} {locs : List Loc} {cells slots : Nat} {b : ByteArray} {g : JFrame} {Z : State} {h : Heap} {a : Addr} {k : ClassId} {n : Int32} {vs : List Value} {dv : Value} {ty : FieldType} {rest : List Value}
theorem oAl (X : Stand p l e R s m args below meth c T locs cells slots) (hx : p.tables.exec = Jvm.exec) (hZ : Z.Warmed39 s.vm) (e0 : T.heap = h) (V : Arv Z h a k ty n vs dv) (hby : c.code = b) (hd : decode b g.pc = .ok (.arraylength, 1)) (hg : g.method = m) (hs : g.stack = .ref a :: rest) (hr : Steps p.tables e below (T.setTop { g with pc := g.pc + 1, stack := .int n :: rest }) t) : Steps p.tables e below (T.setTop g) t := by
  obtain ⟨cl, Ar, q, Sz, Nn, Hs, Ft⟩ := V
  exact X.arraylength hx (by rw [e0]; exact Ar.1) (State.isArrayOf_alike hZ.alike Ar.2.1) hg hs (hb hby hd) _ (by rw [len_of Sz Nn]; exact hr)
theorem oLdB (X : Stand p l e R s m args below meth c T locs cells slots) (hx : p.tables.exec = Jvm.exec) (hZ : Z.Warmed39 s.vm) (e0 : T.heap = h) (V : Arv Z h a k .byte n vs dv) (j : Int32) (v : Value) (hj : ¬ j < 0 ∧ j < n) (hv : vs.getD j.toNatClampNeg dv = v) (hby : c.code = b) (hd : decode b g.pc = .ok (.baload, 1)) (hg : g.method = m) (hs : g.stack = .int j :: .ref a :: rest) (hr : Steps p.tables e below (T.setTop { g with pc := g.pc + 1, stack := v :: rest }) t) : Steps p.tables e below (T.setTop g) t := by
  obtain ⟨cl, Ar, q, Sz, Nn, Hs, Ft⟩ := V
  exact X.baloadBytes hx (by rw [e0]; exact Ar.1) (State.isArrayOf_alike hZ.alike Ar.2.1) Ar.2.2 (inb_of Sz hj) (Hs.at (inb_of Sz hj) hv) hg hs (hb hby hd) _ hr
theorem oLdC (X : Stand p l e R s m args below meth c T locs cells slots) (hx : p.tables.exec = Jvm.exec) (hZ : Z.Warmed39 s.vm) (e0 : T.heap = h) (V : Arv Z h a k .char n vs dv) (j : Int32) (v : Value) (hj : ¬ j < 0 ∧ j < n) (hv : vs.getD j.toNatClampNeg dv = v) (hby : c.code = b) (hd : decode b g.pc = .ok (.caload, 1)) (hg : g.method = m) (hs : g.stack = .int j :: .ref a :: rest) (hr : Steps p.tables e below (T.setTop { g with pc := g.pc + 1, stack := v :: rest }) t) : Steps p.tables e below (T.setTop g) t := by
  obtain ⟨cl, Ar, q, Sz, Nn, Hs, Ft⟩ := V
  exact X.caload hx (by rw [e0]; exact Ar.1) (State.isArrayOf_alike hZ.alike Ar.2.1) Ar.2.2 (inb_of Sz hj) (Hs.at (inb_of Sz hj) hv) hg hs (hb hby hd) _ hr
theorem oLdR (X : Stand p l e R s m args below meth c T locs cells slots) (hx : p.tables.exec = Jvm.exec) (hZ : Z.Warmed39 s.vm) (e0 : T.heap = h) {C : String} (V : Arv Z h a k (.object C) n vs dv) (j : Int32) (v : Value) (hj : ¬ j < 0 ∧ j < n) (hv : vs.getD j.toNatClampNeg dv = v) (hby : c.code = b) (hd : decode b g.pc = .ok (.aaload, 1)) (hg : g.method = m) (hs : g.stack = .int j :: .ref a :: rest) (hr : Steps p.tables e below (T.setTop { g with pc := g.pc + 1, stack := v :: rest }) t) : Steps p.tables e below (T.setTop g) t := by
  obtain ⟨cl, Ar, q, Sz, Nn, Hs, Ft⟩ := V
  exact X.aaload hx (by rw [e0]; exact Ar.1) (State.isArrayOf_alike hZ.alike Ar.2.1) rfl Ar.2.2 (inb_of Sz hj) (Hs.at (inb_of Sz hj) hv) hg hs (hb hby hd) _ hr
end OwnL
abbrev Y0 : String := "java/lang/String"
abbrev Y1 : String := "java/util/ArrayList"
abbrev Y2 : String := "com/example/wakati/wakati/Patch"
abbrev Y3 : String := "com/example/wakati/wakati/Text"
abbrev Y4 : String := "java/lang/StringUTF16"
abbrev Y5 : String := "java/util/ArrayList$Itr"
abbrev Y6 : String := "java/lang/Object"
abbrev Y7 : String := "[Ljava/lang/Object;"
abbrev Y8 : String := "java/util/AbstractList"
abbrev Y9 : String := "COMPACT_STRINGS"
abbrev Y10 : String := "$assertionsDisabled"
abbrev Y11 : String := "jdk/internal/util/Preconditions"
abbrev Y12 : String := "insertionLength"
abbrev Y13 : String := "Ljava/lang/String;"
abbrev Y14 : String := "Ljava/util/ArrayList;"
abbrev Y15 : String := "SIOOBE_FORMATTER"
abbrev Y16 : String := "Ljava/util/function/BiFunction;"
abbrev Y17 : String := "com/example/wakati/wakati/Text$Journal"
abbrev Y18 : String := "Lcom/example/wakati/wakati/Text$Journal;"
abbrev Y19 : String := "expectedModCount"
abbrev Y20 : String := "com/example/wakati/wakati/TextLengthPinLaw"
abbrev Y21 : String := "com/example/wakati/wakati/Surrogates"
abbrev Y22 : String := "java/util/Objects"
abbrev Y23 : String := "java/lang/Character"
abbrev Y24 : String := "DEFAULTCAPACITY_EMPTY_ELEMENTDATA"
abbrev Y25 : String := "java/lang/StringLatin1"
abbrev Y26 : String := "java/util/List"
abbrev Y27 : String := "(I)Ljava/lang/Object;"
abbrev Y28 : String := "java/util/Iterator"
abbrev b0_ : ByteArray := prog_13_method_5_code
abbrev b1_ : ByteArray := prog_13_method_7_code
abbrev b2_ : ByteArray := prog_13_method_8_code
abbrev b3_ : ByteArray := prog_12_method_3_code
abbrev b4_ : ByteArray := prog_13_method_4_code
abbrev b5_ : ByteArray := jdk_42_method_57_code
abbrev b6_ : ByteArray := jdk_52_method_11_code
abbrev b7_ : ByteArray := jdk_49_method_3_code
abbrev b8_ : ByteArray := jdk_42_method_149_code
abbrev b9_ : ByteArray := prog_10_method_1_code
abbrev b10_ : ByteArray := jdk_52_method_7_code
abbrev b11_ : ByteArray := jdk_52_method_16_code
abbrev b12_ : ByteArray := jdk_52_method_21_code
abbrev b13_ : ByteArray := jdk_52_method_5_code
abbrev b14_ : ByteArray := jdk_52_method_4_code
abbrev b15_ : ByteArray := jdk_42_method_59_code
abbrev b16_ : ByteArray := jdk_52_method_14_code
abbrev b17_ : ByteArray := jdk_38_method_6_code
abbrev b18_ : ByteArray := jdk_38_method_24_code
abbrev b19_ : ByteArray := jdk_38_method_25_code
abbrev b20_ : ByteArray := jdk_42_method_56_code
abbrev b21_ : ByteArray := jdk_49_method_1_code
abbrev b22_ : ByteArray := jdk_49_method_2_code
abbrev b23_ : ByteArray := jdk_42_method_54_code
abbrev b24_ : ByteArray := jdk_89_method_14_code
abbrev b25_ : ByteArray := prog_13_method_1_code
abbrev b26_ : ByteArray := jdk_42_method_139_code
abbrev b27_ : ByteArray := jdk_43_method_2_code
abbrev b28_ : ByteArray := prog_13_method_3_code
abbrev b29_ : ByteArray := jdk_42_method_154_code
abbrev b30_ : ByteArray := jdk_41_method_12_code
abbrev b31_ : ByteArray := jdk_89_method_15_code
abbrev b32_ : ByteArray := jdk_38_method_20_code
abbrev b33_ : ByteArray := jdk_42_method_3_code
abbrev b34_ : ByteArray := jdk_41_method_11_code
abbrev b35_ : ByteArray := jdk_89_method_18_code
abbrev b36_ : ByteArray := jdk_29_method_65_code
abbrev b37_ : ByteArray := jdk_52_method_15_code
abbrev b38_ : ByteArray := jdk_52_method_3_code
abbrev b39_ : ByteArray := jdk_42_method_151_code
abbrev b40_ : ByteArray := jdk_42_method_155_code
abbrev b41_ : ByteArray := prog_12_method_2_code
abbrev b42_ : ByteArray := jdk_52_method_83_code
abbrev b43_ : ByteArray := jdk_89_method_19_code
abbrev b44_ : ByteArray := jdk_43_method_46_code
abbrev b45_ : ByteArray := jdk_42_method_152_code
abbrev b46_ : ByteArray := jdk_38_method_18_code
abbrev b47_ : ByteArray := jdk_49_method_6_code
abbrev b48_ : ByteArray := jdk_38_method_7_code
abbrev b49_ : ByteArray := jdk_31_method_18_code
abbrev b50_ : ByteArray := jdk_52_method_91_code
abbrev b51_ : ByteArray := jdk_52_method_12_code
abbrev b52_ : ByteArray := jdk_52_method_8_code
abbrev b53_ : ByteArray := jdk_43_method_3_code
abbrev b54_ : ByteArray := jdk_39_method_1_code
abbrev b55_ : ByteArray := jdk_38_method_2_code
abbrev b56_ : ByteArray := jdk_89_method_16_code
abbrev b57_ : ByteArray := jdk_52_method_6_code
abbrev b58_ : ByteArray := jdk_31_method_17_code
abbrev b59_ : ByteArray := jdk_31_method_11_code
abbrev b60_ : ByteArray := jdk_38_method_55_code
abbrev b61_ : ByteArray := jdk_52_method_2_code
abbrev b62_ : ByteArray := prog_10_method_2_code
abbrev b63_ : ByteArray := prog_10_method_3_code
abbrev b64_ : ByteArray := prog_10_method_5_code
abbrev b65_ : ByteArray := prog_10_method_4_code
abbrev b66_ : ByteArray := jdk_22_method_1_code
abbrev b67_ : ByteArray := jdk_38_method_8_code
def oEL : List (String × Nat) := [(Y0, 7)]
theorem oTx0 : (∀ c ∈ "".toList, c.toNat < 256) ∧ "".toList.map (fun c => Value.int (Jvm.Lit.byteI c.toNat.toUInt16)) = [] := ⟨by decide, by decide +kernel⟩
theorem oELw {a0 : Array Value} {Z : State} (hw : ∀ d ∈ tables_1, d.before a0 Z = true) : EW Z a0 oEL := (EW.cons (oW hw 14 rfl) oTx0.1 EW.nil)
theorem oSAin : ∀ a ∈ Bundle.stringAtoms, a ∈ tables_1 := by decide +kernel
theorem oSA {a0 : Array Value} {Z : State} (hw : ∀ d ∈ tables_1, d.before a0 Z = true) : ∀ a ∈ Bundle.stringAtoms, a.before a0 Z = true := fun a ha => hw a (oSAin a ha)
theorem oB8 (x : Int32) : x.toInt8.toInt32.toInt8.toInt32 = x.toInt8.toInt32 := by rw [Int8.toInt8_toInt32]
theorem oB8inj {x y : Int32} (hx : 0 ≤ x.toInt ∧ x.toInt < 256) (hy : 0 ≤ y.toInt ∧ y.toInt < 256) (h : x.toInt8.toInt32 = y.toInt8.toInt32) : x = y := by
  have a := c_i2b x
  have b := c_i2b y
  rw [h] at a
  apply Int32.toInt_inj.mp
  omega
theorem oCmp {P R : Prop} [Decidable P] [Decidable R] (h : P ↔ R) : oBi P = oBi R := by
  by_cases q : P
  · rw [oBi_t q, oBi_t (h.mp q)]
  · rw [oBi_f q, oBi_f (fun r => q (h.mpr r))]
theorem oM255 (x : Int32) : 0 ≤ (x &&& 255).toInt ∧ (x &&& 255).toInt < 256 := by
  have q := c_mask x 255 8 (by decide) (by decide)
  omega
theorem oChr {x : Int32} (h : 0 ≤ x.toInt ∧ x.toInt < 256) : x.toUInt32.toUInt16.toUInt32.toInt32 = x := by
  have a := c_i2c x
  apply Int32.toInt_inj.mp
  omega
theorem oLe255 {x : Int32} (h : 0 ≤ x.toInt ∧ x.toInt < 256) : ¬ (255 : Int32) < x := fun q => by
  have r : (255 : Int32).toInt < x.toInt := Int32.lt_iff_toInt_lt.mp q
  have s : (255 : Int32).toInt = 255 := by decide
  omega
theorem oBk {x : Int32} (h : 0 ≤ x.toInt ∧ x.toInt < 256) : (x.toInt8.toInt32 &&& 255).toUInt32.toUInt16.toUInt32.toInt32 = x := by
  have a := c_i2b x
  have b := c_mask x.toInt8.toInt32 255 8 (by decide) (by decide)
  rw [oChr (by omega)]
  apply Int32.toInt_inj.mp
  omega
theorem oCat {v : Value} (h : v.isRef = true) : v.category = 1 := by cases v <;> simp_all [Value.isRef, Value.category]
theorem oLow {x : Int32} (h : 0 ≤ x.toInt ∧ x.toInt < 256) : x < (55296 : Int32) := by
  apply Int32.lt_iff_toInt_lt.mpr
  have s : (55296 : Int32).toInt = 55296 := by decide
  omega
theorem oChrU {x : Int32} (h : 0 ≤ x.toInt ∧ x.toInt < 65536) : x.toUInt32.toUInt16.toUInt32.toInt32 = x := by
  have a := c_i2c x
  apply Int32.toInt_inj.mp
  omega
theorem oM16 (x : Int32) : 0 ≤ (x &&& 65535).toInt ∧ (x &&& 65535).toInt < 65536 := by
  have q := c_mask x 65535 16 (by decide) (by decide)
  omega
theorem oU16 {x : Int32} (h : 0 ≤ x.toInt ∧ x.toInt < 65536) : (((x >>> ((0 : Int32) &&& 31)).toInt8.toInt32 &&& 255) <<< ((0 : Int32) &&& 31) ||| ((x >>> ((8 : Int32) &&& 31)).toInt8.toInt32 &&& 255) <<< ((8 : Int32) &&& 31)).toUInt32.toUInt16.toUInt32.toInt32 = x := by
  have a1 := c_ishr x 0 0 (by decide)
  have a2 := c_ishr x 8 8 (by decide)
  have b1 := c_i2b (x >>> ((0 : Int32) &&& 31))
  have b2 := c_i2b (x >>> ((8 : Int32) &&& 31))
  have m1 := c_mask (x >>> ((0 : Int32) &&& 31)).toInt8.toInt32 255 8 (by decide) (by decide)
  have m2 := c_mask (x >>> ((8 : Int32) &&& 31)).toInt8.toInt32 255 8 (by decide) (by decide)
  generalize (x >>> ((0 : Int32) &&& 31)).toInt8.toInt32 &&& 255 = B0 at *
  generalize (x >>> ((8 : Int32) &&& 31)).toInt8.toInt32 &&& 255 = B1 at *
  have s1 := c_ishl B0 0 0 (by decide)
  have s2 := c_ishl B1 8 8 (by decide)
  have r1 := rng32 (B0 <<< ((0 : Int32) &&& 31))
  have r2 := rng32 (B1 <<< ((8 : Int32) &&& 31))
  have o := c_or' (B0 <<< ((0 : Int32) &&& 31)) (B1 <<< ((8 : Int32) &&& 31)) 8 (by decide) 256 rfl (by omega) (by omega) (by omega)
  have i := c_i2c (B0 <<< ((0 : Int32) &&& 31) ||| B1 <<< ((8 : Int32) &&& 31))
  apply Int32.toInt_inj.mp
  omega
theorem oStI {args : Array Value} {Z : State} {C n d : String} {k : Int32} (h : (Jvm.Cond.eq (.static C n d) (.int k)).value args Z none Z [] = some true) : (Term.static C n d).eval args Z none [] Z = some (.int k) := by
  obtain ⟨x, y, e1, e2, k1, k2⟩ := cmp_v (Or.inl h)
  cases (Option.some.inj e2 : Value.int k = y)
  obtain ⟨z, rfl⟩ := (k2 : ∃ z, x = .int z)
  have q : z = k := by
    have h' := h
    simp only [Cond.value, e1, e2] at h'
    simpa using h'
  subst q
  exact e1

/-- an address within the heap -/
def oLt (h : Heap) (b : Addr) : Prop := b < h.size
theorem oLt.lt {h : Heap} {b : Addr} (q : oLt h b) : b < h.size := q
abbrev oH : Int32 := 55357
abbrev oL : Int32 := 56832
/-- a Latin-1 text of n chars, whatever they are, or the pair: n code points, u chars, w chars a code point -/
def oS (Z : State) (h : Heap) (a b : Addr) (k : ClassId) (n u w : Int32) : Prop :=
  Exa Z h a Y0 ∧ Fld Z h a Y0 "value" "[B" (.ref b) ∧ ((w = 1 ∧ u = n ∧ (0 ≤ n.toInt ∧ n.toInt ≤ 20) ∧ Fld Z h a Y0 "coder" "B" (.int (0 : Int32)) ∧ ∃ vs, Arv Z h b k .byte n vs (.int (0 : Int32))) ∨ (w = 2 ∧ u = 2 ∧ n = 1 ∧ Fld Z h a Y0 "coder" "B" (.int (1 : Int32)) ∧ Arv Z h b k .byte (4 : Int32) [iu0 oH, iu8 oH, iu0 oL, iu8 oL] (.int (0 : Int32))))
section OwnS
variable {Z : State} {h h' : Heap} {a b o : Addr} {k : ClassId} {n u w : Int32} {ws : List Addr} {sl : Nat} {v : Value}
theorem oS.exa (F : oS Z h a b k n u w) : Exa Z h a Y0 := F.1
theorem oS.lt (F : oS Z h a b k n u w) : a < h.size := F.1.lt
theorem oS.sb (F : oS Z h a b k n u w) : oLt h b := F.2.2.elim (fun q => q.2.2.2.2.elim fun _ A => A.lt) (fun q => q.2.2.2.2.lt)
theorem oS.ext (F : oS Z h a b k n u w) (E : Ext h h') : oS Z h' a b k n u w := ⟨F.1.ext E, F.2.1.ext E, F.2.2.imp (fun q => ⟨q.1, q.2.1, q.2.2.1, q.2.2.2.1.ext E, q.2.2.2.2.imp fun _ A => A.ext E⟩) (fun q => ⟨q.1, q.2.1, q.2.2.1, q.2.2.2.1.ext E, q.2.2.2.2.ext E⟩)⟩
theorem oS.wr (F : oS Z h a b k n u w) (W : Wr h h' o sl v) (q1 : a ≠ o) (q2 : b ≠ o) : oS Z h' a b k n u w := ⟨F.1.wr W, F.2.1.other W (Or.inl q1), F.2.2.imp (fun q => ⟨q.1, q.2.1, q.2.2.1, q.2.2.2.1.other W (Or.inl q1), q.2.2.2.2.imp fun _ A => A.other W q2⟩) (fun q => ⟨q.1, q.2.1, q.2.2.1, q.2.2.2.1.other W (Or.inl q1), q.2.2.2.2.other W q2⟩)⟩
theorem oS.keep (F : oS Z h a b k n u w) (K : Keep h h' ws) (q1 : a ∉ ws) (q2 : b ∉ ws) : oS Z h' a b k n u w := ⟨F.1.keep K, F.2.1.keep K q1, F.2.2.imp (fun q => ⟨q.1, q.2.1, q.2.2.1, q.2.2.2.1.keep K q1, q.2.2.2.2.imp fun _ A => A.keep K q2⟩) (fun q => ⟨q.1, q.2.1, q.2.2.1, q.2.2.2.1.keep K q1, q.2.2.2.2.keep K q2⟩)⟩
end OwnS
section OwnT
variable {Z : State} {h h' : Heap} {a : Addr} {c : Cell} {k : ClassId} {ty : FieldType} {z : Int32} {dv v : Value} {vs : List Value} {j : Nat}
/-- an array, whatever she holds -/
theorem oAny (A : Arr Z h a c ty) (q : c.cls = k) (S : c.slots.size = z.toNatClampNeg) (N : ¬ z < 0) (G : ∀ i, i < c.slots.size → ∃ v, c.slots[i]? = some v ∧ fits ty v = true) : ∃ vs, Arv Z h a k ty z vs dv := by
  have e : ∀ i, i < c.slots.size → c.slots[i]? = some (c.slots.toList.getD i dv) := fun i hi => by
    rw [List.getD_eq_getElem?_getD, Array.getElem?_toList, Array.getElem?_eq_getElem hi]; rfl
  refine ⟨c.slots.toList, c, A, q, S, N, e, fun i hi => ?_⟩
  obtain ⟨v, h1, h2⟩ := G i hi
  rw [Option.some.inj ((e i hi).symm.trans h1)]; exact h2
theorem oSetH (V : Arv Z h a k ty z vs dv) (W : Wr h h' a j v) (hv : fits ty v = true) : ∃ vs', Arv Z h' a k ty z vs' dv := by
  obtain ⟨c, A, q, S, N, H, G⟩ := V
  refine oAny (A.same W) q (by rw [sz_set]; exact S) N fun i hi => ?_
  rw [sz_set] at hi
  by_cases u : j = i
  · subst u; exact ⟨v, by simp [Cell.setSlot, hi], hv⟩
  · exact ⟨_, by simp only [Cell.setSlot]; rw [Array.getElem?_setIfInBounds_ne u]; exact H i hi, G i hi⟩
theorem oGetB (V : Arv Z h a k .byte z vs dv) {i : Int32} (hj : ¬ i < 0 ∧ i < z) : ∃ x : Int32, vs.getD i.toNatClampNeg dv = .int x := by
  obtain ⟨c, A, q, S, N, H, G⟩ := V
  have g := G i.toNatClampNeg (Nat.lt_of_not_le fun q => inb_of S hj (Or.inr q))
  cases e : vs.getD i.toNatClampNeg dv <;> rw [e] at g <;> first | exact ⟨_, rfl⟩ | cases g
end OwnT
section OwnV
variable {Z : State} {h : Heap} {b : Addr} {c c' : Cell} {ty : FieldType}
/-- another cell of the same class, kind and length at b -/
theorem oSetAt (hb : h[b]? = some c) (x : Addr) : (h.setIfInBounds b c')[x]? = if b = x then some c' else h[x]? := by
  rw [Array.getElem?_setIfInBounds]
  by_cases e : b = x
  · rw [if_pos e, if_pos e, if_pos (Array.getElem?_eq_some_iff.mp hb).1]
  · rw [if_neg e, if_neg e]
theorem oKeepSet (hb : h[b]? = some c) (h1 : c'.cls = c.cls) (h2 : c'.vm = c.vm) (h3 : c'.slots.size = c.slots.size) : Keep h (h.setIfInBounds b c') [b] := by
  refine ⟨Nat.le_of_eq Array.size_setIfInBounds.symm, fun x y q r => ?_, fun x y q => ?_⟩
  · rw [oSetAt hb, if_neg (fun e : b = x => r (List.mem_singleton.mpr e.symm))]; exact q
  · rw [oSetAt hb]
    by_cases e : b = x
    · subst e
      rw [if_pos rfl]
      cases hb.symm.trans q
      exact ⟨c', rfl, h1, h2, h3⟩
    · rw [if_neg e]; exact ⟨y, q, rfl, rfl, rfl⟩
theorem oArrSet (A : Arr Z h b c ty) (h1 : c'.cls = c.cls) (h2 : c'.vm = c.vm) : Arr Z (h.setIfInBounds b c') b c' ty := by
  refine ⟨by rw [oSetAt A.1, if_pos rfl], ?_, h2 ▸ A.2.2⟩
  obtain ⟨-, q, -⟩ := A
  simpa only [State.isArrayOf, h1, h2] using q
end OwnV
section OwnU
variable {p : Program} {l : Launch} {e : Env} {R : Room} {s : State} {m : MethodId} {args : Array Value} {below : List Frame} {meth : Method} {c : Code} {T : State} {locs : List Loc} {cells slots : Nat} {Z : State} {h h0 : Heap} {a b : Addr} {k k' : ClassId} {ty : FieldType} {z z' sp dp nn : Int32} {vs vd : List Value} {dv dd : Value} {ws : List Addr}
/-- System.arraycopy between two arrays of one plain type, whatever they hold (also within one) -/
theorem oCp (X : Stand p l e R s m args below meth c T locs cells slots) (hx : p.tables.exec = Jvm.exec) (hZ : Z.Warmed39 s.vm) {a0 : Array Value} {own : String} {index : Nat} (hown : s.vm.findClass own = some m.cls)
    (w1 : (Jvm.Cond.methodLink own index Jvm.Stand.acN).before a0 Z = true) (w2 : (Jvm.Cond.native Jvm.Stand.acN).before a0 Z = true) (w3 : (Jvm.Cond.static Jvm.Stand.acN).before a0 Z = true) (w4 : (Jvm.Cond.initialized "java/lang/System").before a0 Z = true) (eT : T.heap = h)
    (A : Arv Z h a k ty z vs dv) (B : Arv Z h b k' ty z' vd dd) (hty : refKind ty = false) (hr : (0 ≤ sp.toInt ∧ 0 ≤ dp.toInt ∧ 0 ≤ nn.toInt) ∧ sp.toInt + nn.toInt ≤ z.toInt ∧ dp.toInt + nn.toInt ≤ z'.toInt) (K : oKp h0 h ws locs) (hq : b ∈ ws ∨ h0.size ≤ b)
    {g : JFrame} (hg : g.method = m) (hsize : g.locals.size = c.maxLocals) {rest : List Value} (hs : g.stack = .int nn :: .int dp :: .ref b :: .int sp :: .ref a :: rest) (hd : decode c.code g.pc = .ok (.invokestatic index, 3))
    (hf : 1 ≤ R.frames) {W : Nat} (hW : 2 * g.monitorRoom + (rest.map fun v => v.category).sum ≤ W) (hlo : W + (nativeFrameWords "java/lang/System" "arraycopy" 5 + 11) ≤ R.locals) :
    ∃ T' h' L vs', Stand p l e R s m args below meth c T' L cells slots ∧ T'.heap = h' ∧ oKp h0 h' ws L ∧ Keep h h' [b] ∧ Arv Z h' b k' ty z' vs' dd ∧
      ∀ target, Steps p.tables e below (T'.setTop { g with pc := g.pc + 3, stack := rest }) target → Steps p.tables e below (T.setTop g) target := by
  obtain ⟨cs, As, -, Ss, Ns, Hs, Gs⟩ := A
  obtain ⟨cd, Ad, qd, Sd, Nd, Hd, Gd⟩ := B
  obtain ⟨os, ks, hks, sc, hsk⟩ := State.isArrayOf_alike hZ.alike As.2.1
  obtain ⟨od, kd, hkd, dc, hdk⟩ := State.isArrayOf_alike hZ.alike Ad.2.1
  obtain ⟨⟨r1, r2, r3⟩, r4, r5⟩ := hr
  have zi : (0 : Int32).toInt = 0 := rfl
  have n1 : ¬ sp < 0 := fun q => by rw [Int32.lt_iff_toInt_lt] at q; omega
  have n2 : ¬ dp < 0 := fun q => by rw [Int32.lt_iff_toInt_lt] at q; omega
  have n3 : ¬ nn < 0 := fun q => by rw [Int32.lt_iff_toInt_lt] at q; omega
  have e1 := nat_of n1
  have e2 := nat_of n2
  have e3 := nat_of n3
  have e4 := nat_of Ns
  have e5 := nat_of Nd
  have val : ∀ i, i < nn.toNatClampNeg → ∃ v, cs.slots[sp.toNatClampNeg + i]? = some v ∧ fits ty v = true := fun i hi => ⟨_, Hs _ (by omega), Gs _ (by omega)⟩
  have gd : ∀ i v, cs.slots[sp.toNatClampNeg + i]? = some v → cs.slots.getD (sp.toNatClampNeg + i) .null = v := fun i v q => by rw [Array.getD_eq_getD_getElem?, q]; rfl
  obtain ⟨vm₁, hW₁, X', st⟩ := X.arraycopyK hx hown (mvT hZ w1) (mvT hZ w2) (mvT hZ w3) (mvT hZ w4) (by rw [eT]; exact As.1) (by rw [eT]; exact Ad.1) os od As.2.2 Ad.2.2 hks hkd hsk hdk
    (by simp [hty]) n1 n2 n3 (by omega) (by omega) (fun vm₁ hw i hi => by
      obtain ⟨v, g1, g2⟩ := val i hi
      rw [gd i v g1]
      refine ⟨g2, ?_⟩
      cases v <;> try trivial
      exact (prim_no_ref hty g2).elim) hg hsize hs hd hf (by omega)
  obtain ⟨f1, f2, f3, -, -⟩ := cd.storeRun_facts dp.toNatClampNeg (cs.stretch sp.toNatClampNeg nn.toNatClampNeg)
  have ln : (cs.stretch sp.toNatClampNeg nn.toNatClampNeg).length = nn.toNatClampNeg := by simp [Cell.stretch]
  have kp := oKeepSet Ad.1 f1 f2 f3
  obtain ⟨vs', V⟩ := oAny (dv := dd) (oArrSet Ad f1 f2) (f1.trans qd) (f3.trans Sd) Nd (fun j hj => by
    rw [f3] at hj
    rw [Cell.storeRun_get _ _ _ _ (by rw [ln]; omega), ln]
    split
    · next q =>
      obtain ⟨v, g1, g2⟩ := val (j - dp.toNatClampNeg) (by omega)
      exact ⟨v, by rw [Cell.stretch, List.getElem?_map, List.getElem?_range (by omega)]; exact congrArg some (gd _ _ g1), g2⟩
    · exact ⟨_, Hd j hj, Gd j hj⟩)
  exact ⟨_, _, _, vs', X', congrArg (fun z : Heap => z.setIfInBounds b (copied cs cd sp dp nn)) eT, ⟨K.1.trans kp (allS hq all0), fun y hy => (List.mem_append.mp hy).elim (K.2 y) fun q => by rw [Jvm.Stand.copyLocs_base q]; exact hq⟩, kp, V, st⟩
end OwnU
theorem oPrivSel {Z : State} {a0 : Array Value} {y : MethodName} {n : Nat} (wk : (Jvm.Cond.instantiable y.cls n).before a0 Z = true) (w6 : (Jvm.Cond.privateMethod y).before a0 Z = true) (w2 : (Jvm.Cond.instanceMethod y).before a0 Z = true) (hy : y.cls ≠ "java/lang/invoke/MethodHandle" ∧ y.cls ≠ "java/lang/invoke/VarHandle") : (Jvm.Cond.selects y.cls y y).before a0 Z = true := by
  obtain ⟨t, kt, g1, g2, g3, g4, -⟩ := Cond.instantiable_spec wk
  have gi : kt.isInterface = false := by simp only [Bool.or_eq_false_iff] at g4; exact g4.1
  exact Jvm.Stand.selects_self_of_private g1 g2 gi (Cond.privateMethod_at w6) w2 hy
/-- one stands as before, grown by at most k cells and n slots -/
def oStG {p : Program} {l : Launch} {e : Env} {R : Room} {s : State} {m : MethodId} {args : Array Value} {below : List Frame} {meth : Method} {c : Code} {T : State} {locs : List Loc} {cells slots : Nat} (_ : Stand p l e R s m args below meth c T locs cells slots) (k n : Nat) (T' : State) (L' : List Loc) : Prop := Stand p l e R s m args below meth c T' L' (cells + k) (slots + n)
theorem oStG.of {p : Program} {l : Launch} {e : Env} {R : Room} {s : State} {m : MethodId} {args : Array Value} {below : List Frame} {meth : Method} {c : Code} {T T' : State} {locs L' : List Loc} {cells slots k n cells' slots' : Nat} {X : Stand p l e R s m args below meth c T locs cells slots} (Y : Stand p l e R s m args below meth c T' L' cells' slots') (h1 : cells' ≤ cells + k) (h2 : slots' ≤ slots + n) : oStG X k n T' L' := { Y with same := Y.same.mono h1 h2 }
theorem oIn {nb xt xb : Addr} {n : Nat} (q : nb = xb ∨ n ≤ nb) : nb ∈ [xt, xb] ∨ n ≤ nb := q.imp (fun e => by rw [e]; exact List.mem_of_getElem? (i := 1) rfl) id
/-- what a code point says of the chars it takes -/
def oCC (x w : Int32) : Prop := (w = 1 ∧ x < 65536) ∨ (w = 2 ∧ ¬ x < 65536)
def Q_cp (w : Int32) (h0 : Heap) (v : Option Value) (h : Heap) (L : List Loc) : Prop := ∃ ncp : Int32, v = some (.int ncp) ∧ h = h0 ∧ oKp h0 h [] L ∧ (oCC ncp w)
theorem oShr0 (x : Int32) : x >>> ((0 : Int32) &&& 31) = x := by
  have a := c_ishr x 0 0 (by decide)
  apply Int32.toInt_inj.mp
  rw [a]
  omega
theorem oSmall {x : Int32} (h : 0 ≤ x.toInt ∧ x.toInt < 256) : oCC x 1 := by
  refine Or.inl ⟨rfl, ?_⟩
  rw [Int32.lt_iff_toInt_lt]
  have : (65536 : Int32).toInt = 65536 := by decide
  omega
theorem oMaxEq {a b : Int32} (h1 : a.toInt ≤ b.toInt) (h2 : ¬ a < b) : a = b := by
  rw [Int32.lt_iff_toInt_lt] at h2
  apply Int32.toInt_inj.mp
  omega
def oPick (k : Int32) (a b c d : Addr) : Addr := if k = 0 then a else if k = 1 then b else if k = 2 then c else d
def oLenK (k : Int32) : Int32 := if k = 0 then 0 else if k = 2 then 20 else 1
theorem oM3 (x : Int32) : (x &&& 3) = 0 ∨ (x &&& 3) = 1 ∨ (x &&& 3) = 2 ∨ (x &&& 3) = 3 := by
  have a := c_mask x 3 2 (by decide) (by decide)
  have e : ∀ j : Int32, (x &&& 3).toInt = j.toInt → (x &&& 3) = j := fun j q => Int32.toInt_inj.mp q
  have d : (x &&& 3).toInt = 0 ∨ (x &&& 3).toInt = 1 ∨ (x &&& 3).toInt = 2 ∨ (x &&& 3).toInt = 3 := by omega
  exact d.imp (e 0) (Or.imp (e 1) (Or.imp (e 2) (e 3)))
abbrev oNU (n u w : Int32) : Prop := (n.toInt = 0 ∧ u.toInt = 0 ∧ w.toInt = 1) ∨ (n.toInt = 1 ∧ u.toInt = 1 ∧ w.toInt = 1) ∨ (n.toInt = 20 ∧ u.toInt = 20 ∧ w.toInt = 1) ∨ (n.toInt = 1 ∧ u.toInt = 2 ∧ w.toInt = 2)
theorem oPk {Z : State} {h : Heap} {k : Int32} {s0 s1 s2 s3 b0 b1 b2 b3 : Addr} {k0 k1 k2 k3 : ClassId} (hk : k = 0 ∨ k = 1 ∨ k = 2 ∨ k = 3) (U0 : oS Z h s0 b0 k0 0 0 1) (U1 : oS Z h s1 b1 k1 1 1 1) (U2 : oS Z h s2 b2 k2 20 20 1) (U3 : oS Z h s3 b3 k3 1 2 2) :
    ∃ (q b : Addr) (kk : ClassId) (n u w : Int32), oPick k s0 s1 s2 s3 = q ∧ oLenK k = n ∧ oS Z h q b kk n u w ∧ oNU n u w := by
  rcases hk with rfl | rfl | rfl | rfl
  · exact ⟨_, _, _, _, _, _, rfl, rfl, U0, Or.inl (by decide)⟩
  · exact ⟨_, _, _, _, _, _, rfl, rfl, U1, Or.inr (Or.inl (by decide))⟩
  · exact ⟨_, _, _, _, _, _, rfl, rfl, U2, Or.inr (Or.inr (Or.inl (by decide)))⟩
  · exact ⟨_, _, _, _, _, _, rfl, rfl, U3, Or.inr (Or.inr (Or.inr (by decide)))⟩
theorem oNx {h0 : Heap} {nb xb x : Addr} (q : nb = xb ∨ h0.size ≤ nb) (h1 : x < h0.size) (h2 : x ≠ xb) : x ≠ nb := q.elim (fun e => e ▸ h2) fun g => Nat.ne_of_lt (Nat.lt_of_lt_of_le h1 g)
theorem oNg {h0 : Heap} {nb xb : Addr} {m : Nat} (q : nb = xb ∨ h0.size ≤ nb) (h1 : m ≤ xb) (h2 : m ≤ h0.size) : m ≤ nb := q.elim (fun e => e ▸ h1) fun g => Nat.le_trans h2 g
theorem oRm {x n : Int32} (hn : 0 ≤ n.toInt ∧ n.toInt ≤ 1000) : 0 ≤ ((x &&& 2147483647) % (n + 1)).toInt ∧ ((x &&& 2147483647) % (n + 1)).toInt ≤ n.toInt := by
  have a := c_iadd n 1
  have b := rng32 (n + 1)
  have e : (1 : Int32).toInt = 1 := by decide
  have m := c_mask x 2147483647 31 (by decide) (by decide)
  have q := (c_iremV (x &&& 2147483647) (n + 1)).1 (by omega) (by omega)
  omega
theorem oNz {n : Int32} (hn : 0 ≤ n.toInt ∧ n.toInt ≤ 1000) : (n + 1) ≠ 0 := fun q => by
  have a := c_iadd n 1
  have b := rng32 (n + 1)
  have e : (1 : Int32).toInt = 1 := by decide
  have e0 : (0 : Int32).toInt = 0 := by decide
  have := congrArg Int32.toInt q
  omega
theorem oSfE {Z : State} {EL : List (String × Nat)} {vm : Vm} {h : Heap} {nb xb : Addr} (q : nb = xb ∨ h.size ≤ nb) (S : Safe Z EL vm h xb) : Safe Z EL vm h nb := q.elim (fun e => e ▸ S) Safe.new
abbrev oHT (N g e : Int32) : Prop := 0 ≤ g.toInt ∧ g.toInt ≤ e.toInt ∧ e.toInt ≤ N.toInt ∧ N.toInt ≤ 1000
abbrev oNN (N M : Int32) : Prop := (N.toInt = 16 ∧ M.toInt = 32) ∨ (N.toInt = 32 ∧ M.toInt = 64) ∨ (N.toInt = 64 ∧ M.toInt = 128)
theorem oA (x y : Int32) : ((x + y).toInt - (x.toInt + y.toInt)) % 4294967296 = 0 ∧ -2147483648 ≤ (x + y).toInt ∧ (x + y).toInt < 2147483648 := ⟨c_iadd x y, rng32 _⟩
theorem oD (x y : Int32) : ((x - y).toInt - (x.toInt - y.toInt)) % 4294967296 = 0 ∧ -2147483648 ≤ (x - y).toInt ∧ (x - y).toInt < 2147483648 := ⟨c_isub x y, rng32 _⟩
theorem oLi : (0 : Int32).toInt = 0 ∧ (1 : Int32).toInt = 1 ∧ (2 : Int32).toInt = 2 ∧ (16 : Int32).toInt = 16 ∧ (20 : Int32).toInt = 20 ∧ (32 : Int32).toInt = 32 ∧ (64 : Int32).toInt = 64 ∧ (128 : Int32).toInt = 128 := by decide
theorem oOld {nb xb : Addr} {n z : Nat} (q : nb = xb ∨ n ≤ nb) (h1 : z ≤ xb) (h2 : z ≤ n) : z ≤ nb := q.elim (fun e => e ▸ h1) fun g => Nat.le_trans h2 g
def oCs (v : Value) : Prop := ∃ c : Int32, v = .int c ∧ ¬ (255 : Int32) < c
theorem oHcs {l : List Value} (h : ∀ v ∈ l, oCs v) (k : Nat) : oCs (l.getD k (.int (0 : Int32))) := by
  rw [List.getD_eq_getElem?_getD]
  cases e : l[k]? with
  | none => exact ⟨0, rfl, by decide⟩
  | some v => exact h v (List.mem_of_getElem? e)
theorem oCsN : ∀ v ∈ ([] : List Value), oCs v := fun _ q => nomatch q
theorem oCsC {v : Value} {l : List Value} (h : oCs v) (r : ∀ x ∈ l, oCs x) : ∀ x ∈ v :: l, oCs x := fun x q => (List.mem_cons.mp q).elim (fun e => e ▸ h) (r x)
theorem oCs0 : oCs (.int (0 : Int32)) := ⟨0, rfl, by decide⟩

section OwnAr
variable {xi xn xp xe xg xN xi0 xd0 xn0 xu0 xw0 nge13 nN_0 nge_0 xi_22 gi_22 nN39 nge39 xi1 xd1 xn1 xu1 xw1 nge31 nN_1 nge_1 xi_40 gi_40 nN57 nge57 nN71 nge71 n1 u1 w1 n2 u2 w2 n3 u3 w3 pp2 dd2 ll2 pp3 dd3 ll3 N1 e1 g1 N2 e2 g2 : Int32} {d : Nat}
theorem ar0 (h0 : xi.toInt + (0 : Nat) = xn.toInt) (h1 : 0 ≤ xi.toInt) (h2 : 0 ≤ xn.toInt ∧ xn.toInt ≤ 20) : ¬ xi < xn := by
  try simp only [Int32.lt_iff_toInt_lt, Int32.le_iff_toInt_le, ← Int32.toInt_inj, ne_eq, oHT, oNU, oNN] at *
  all_goals (have := oLi; omega)
theorem ar1 (h0 : xi.toInt + (d + 1 : Nat) = xn.toInt) (h1 : 0 ≤ xi.toInt) (h2 : 0 ≤ xn.toInt ∧ xn.toInt ≤ 20) : xi < xn := by
  try simp only [Int32.lt_iff_toInt_lt, Int32.le_iff_toInt_le, ← Int32.toInt_inj, ne_eq, oHT, oNU, oNN] at *
  all_goals (have := oLi; omega)
theorem ar2 (h0 : xi.toInt + (d + 1 : Nat) = xn.toInt) (h1 : 0 ≤ xi.toInt) (h2 : 0 ≤ xn.toInt ∧ xn.toInt ≤ 20) : ¬ xi < (0 : Int32) := by
  try simp only [Int32.lt_iff_toInt_lt, Int32.le_iff_toInt_le, ← Int32.toInt_inj, ne_eq, oHT, oNU, oNN] at *
  all_goals (have := oLi; omega)
theorem ar3 (h0 : xi.toInt + (d + 1 : Nat) = xn.toInt) (h1 : 0 ≤ xi.toInt) (h2 : 0 ≤ xn.toInt ∧ xn.toInt ≤ 20) : (xi + (1 : Int32)).toInt + d = xn.toInt := by
  try simp only [Int32.lt_iff_toInt_lt, Int32.le_iff_toInt_le, ← Int32.toInt_inj, ne_eq, oHT, oNU, oNN] at *
  all_goals (have := oA xi (1 : Int32); have := oLi; omega)
theorem ar4 (h0 : xi.toInt + (d + 1 : Nat) = xn.toInt) (h1 : 0 ≤ xi.toInt) (h2 : 0 ≤ xn.toInt ∧ xn.toInt ≤ 20) : 0 ≤ (xi + (1 : Int32)).toInt := by
  try simp only [Int32.lt_iff_toInt_lt, Int32.le_iff_toInt_le, ← Int32.toInt_inj, ne_eq, oHT, oNU, oNN] at *
  all_goals (have := oA xi (1 : Int32); have := oLi; omega)
theorem ar5 (h0 : oHT xN xg xe) (h1 : 0 ≤ xp.toInt ∧ xp.toInt + (xe.toInt - xg.toInt) ≤ xN.toInt) (h2 : xp < xg) : (0 ≤ xp.toInt ∧ 0 ≤ (xe - (xg - xp)).toInt ∧ 0 ≤ (xg - xp).toInt) ∧ xp.toInt + (xg - xp).toInt ≤ xN.toInt ∧ (xe - (xg - xp)).toInt + (xg - xp).toInt ≤ xN.toInt := by
  try simp only [Int32.lt_iff_toInt_lt, Int32.le_iff_toInt_le, ← Int32.toInt_inj, ne_eq, oHT, oNU, oNN] at *
  all_goals (have := oD xg xp; have := oD xe (xg - xp); have := oLi; omega)
theorem ar6 (h0 : oHT xN xg xe) (h1 : 0 ≤ xp.toInt ∧ xp.toInt + (xe.toInt - xg.toInt) ≤ xN.toInt) (h2 : xp < xg) : (xe - (xg - xp)).toInt = xp.toInt + (xe.toInt - xg.toInt) := by
  try simp only [Int32.lt_iff_toInt_lt, Int32.le_iff_toInt_le, ← Int32.toInt_inj, ne_eq, oHT, oNU, oNN] at *
  all_goals (have := oD xg xp; have := oD xe (xg - xp); have := oLi; omega)
theorem ar7 (h0 : oHT xN xg xe) (h1 : 0 ≤ xp.toInt ∧ xp.toInt + (xe.toInt - xg.toInt) ≤ xN.toInt) (h2 : ¬ xp < xg) (h3 : xg < xp) : (0 ≤ xe.toInt ∧ 0 ≤ xg.toInt ∧ 0 ≤ (xp - xg).toInt) ∧ xe.toInt + (xp - xg).toInt ≤ xN.toInt ∧ xg.toInt + (xp - xg).toInt ≤ xN.toInt := by
  try simp only [Int32.lt_iff_toInt_lt, Int32.le_iff_toInt_le, ← Int32.toInt_inj, ne_eq, oHT, oNU, oNN] at *
  all_goals (have := oD xp xg; have := oLi; omega)
theorem ar8 (h0 : oHT xN xg xe) (h1 : 0 ≤ xp.toInt ∧ xp.toInt + (xe.toInt - xg.toInt) ≤ xN.toInt) (h2 : ¬ xp < xg) (h3 : xg < xp) : (xe + (xp - xg)).toInt = xp.toInt + (xe.toInt - xg.toInt) := by
  try simp only [Int32.lt_iff_toInt_lt, Int32.le_iff_toInt_le, ← Int32.toInt_inj, ne_eq, oHT, oNU, oNN] at *
  all_goals (have := oD xp xg; have := oA xe (xp - xg); have := oLi; omega)
theorem ar9 (h0 : oHT xN xg xe) (h1 : 0 ≤ xp.toInt ∧ xp.toInt + (xe.toInt - xg.toInt) ≤ xN.toInt) (h2 : ¬ xp < xg) (h3 : ¬ xg < xp) : xg = xp := by
  try simp only [Int32.lt_iff_toInt_lt, Int32.le_iff_toInt_le, ← Int32.toInt_inj, ne_eq, oHT, oNU, oNN] at *
  all_goals (have := oLi; omega)
theorem ar10 (h0 : oHT xN xg xe) (h1 : 0 ≤ xp.toInt ∧ xp.toInt + (xe.toInt - xg.toInt) ≤ xN.toInt) (h2 : ¬ xp < xg) (h3 : ¬ xg < xp) : xe.toInt = xp.toInt + (xe.toInt - xg.toInt) := by
  try simp only [Int32.lt_iff_toInt_lt, Int32.le_iff_toInt_le, ← Int32.toInt_inj, ne_eq, oHT, oNU, oNN] at *
  all_goals (have := oLi; omega)
theorem ar11 (h0 : oHT (16 : Int32) xg xe) (h1 : xn.toInt ≤ (16 : Int32).toInt + (16 : Int32).toInt) : xn.toInt ≤ (32 : Int32).toInt := by
  try simp only [Int32.lt_iff_toInt_lt, Int32.le_iff_toInt_le, ← Int32.toInt_inj, ne_eq, oHT, oNU, oNN] at *
  all_goals (have := oLi; omega)
theorem ar12 (h0 : oHT (16 : Int32) xg xe) (h1 : xn.toInt ≤ (16 : Int32).toInt + (16 : Int32).toInt) : (0 ≤ (0 : Int32).toInt ∧ 0 ≤ (0 : Int32).toInt ∧ 0 ≤ xg.toInt) ∧ (0 : Int32).toInt + xg.toInt ≤ (16 : Int32).toInt ∧ (0 : Int32).toInt + xg.toInt ≤ (32 : Int32).toInt := by
  try simp only [Int32.lt_iff_toInt_lt, Int32.le_iff_toInt_le, ← Int32.toInt_inj, ne_eq, oHT, oNU, oNN] at *
  all_goals (have := oLi; omega)
theorem ar13 (h0 : oHT (16 : Int32) xg xe) (h1 : xn.toInt ≤ (16 : Int32).toInt + (16 : Int32).toInt) : (0 ≤ xe.toInt ∧ 0 ≤ ((32 : Int32) - ((16 : Int32) - xe)).toInt ∧ 0 ≤ ((16 : Int32) - xe).toInt) ∧ xe.toInt + ((16 : Int32) - xe).toInt ≤ (16 : Int32).toInt ∧ ((32 : Int32) - ((16 : Int32) - xe)).toInt + ((16 : Int32) - xe).toInt ≤ (32 : Int32).toInt := by
  try simp only [Int32.lt_iff_toInt_lt, Int32.le_iff_toInt_le, ← Int32.toInt_inj, ne_eq, oHT, oNU, oNN] at *
  all_goals (have := oD (16 : Int32) xe; have := oD (32 : Int32) ((16 : Int32) - xe); have := oLi; omega)
theorem ar14 (h0 : oHT (16 : Int32) xg xe) (h1 : xn.toInt ≤ (16 : Int32).toInt + (16 : Int32).toInt) : ((32 : Int32) - ((16 : Int32) - xe)).toInt = (32 : Int32).toInt - ((16 : Int32).toInt - xe.toInt) := by
  try simp only [Int32.lt_iff_toInt_lt, Int32.le_iff_toInt_le, ← Int32.toInt_inj, ne_eq, oHT, oNU, oNN] at *
  all_goals (have := oD (16 : Int32) xe; have := oD (32 : Int32) ((16 : Int32) - xe); have := oLi; omega)
theorem ar15 (h0 : oHT (32 : Int32) xg xe) (h1 : xn.toInt ≤ (32 : Int32).toInt + (32 : Int32).toInt) : xn.toInt ≤ (64 : Int32).toInt := by
  try simp only [Int32.lt_iff_toInt_lt, Int32.le_iff_toInt_le, ← Int32.toInt_inj, ne_eq, oHT, oNU, oNN] at *
  all_goals (have := oLi; omega)
theorem ar16 (h0 : oHT (32 : Int32) xg xe) (h1 : xn.toInt ≤ (32 : Int32).toInt + (32 : Int32).toInt) : (0 ≤ (0 : Int32).toInt ∧ 0 ≤ (0 : Int32).toInt ∧ 0 ≤ xg.toInt) ∧ (0 : Int32).toInt + xg.toInt ≤ (32 : Int32).toInt ∧ (0 : Int32).toInt + xg.toInt ≤ (64 : Int32).toInt := by
  try simp only [Int32.lt_iff_toInt_lt, Int32.le_iff_toInt_le, ← Int32.toInt_inj, ne_eq, oHT, oNU, oNN] at *
  all_goals (have := oLi; omega)
theorem ar17 (h0 : oHT (32 : Int32) xg xe) (h1 : xn.toInt ≤ (32 : Int32).toInt + (32 : Int32).toInt) : (0 ≤ xe.toInt ∧ 0 ≤ ((64 : Int32) - ((32 : Int32) - xe)).toInt ∧ 0 ≤ ((32 : Int32) - xe).toInt) ∧ xe.toInt + ((32 : Int32) - xe).toInt ≤ (32 : Int32).toInt ∧ ((64 : Int32) - ((32 : Int32) - xe)).toInt + ((32 : Int32) - xe).toInt ≤ (64 : Int32).toInt := by
  try simp only [Int32.lt_iff_toInt_lt, Int32.le_iff_toInt_le, ← Int32.toInt_inj, ne_eq, oHT, oNU, oNN] at *
  all_goals (have := oD (32 : Int32) xe; have := oD (64 : Int32) ((32 : Int32) - xe); have := oLi; omega)
theorem ar18 (h0 : oHT (32 : Int32) xg xe) (h1 : xn.toInt ≤ (32 : Int32).toInt + (32 : Int32).toInt) : ((64 : Int32) - ((32 : Int32) - xe)).toInt = (64 : Int32).toInt - ((32 : Int32).toInt - xe.toInt) := by
  try simp only [Int32.lt_iff_toInt_lt, Int32.le_iff_toInt_le, ← Int32.toInt_inj, ne_eq, oHT, oNU, oNN] at *
  all_goals (have := oD (32 : Int32) xe; have := oD (64 : Int32) ((32 : Int32) - xe); have := oLi; omega)
theorem ar19 (h0 : oHT (64 : Int32) xg xe) (h1 : xn.toInt ≤ (64 : Int32).toInt + (64 : Int32).toInt) : xn.toInt ≤ (128 : Int32).toInt := by
  try simp only [Int32.lt_iff_toInt_lt, Int32.le_iff_toInt_le, ← Int32.toInt_inj, ne_eq, oHT, oNU, oNN] at *
  all_goals (have := oLi; omega)
theorem ar20 (h0 : oHT (64 : Int32) xg xe) (h1 : xn.toInt ≤ (64 : Int32).toInt + (64 : Int32).toInt) : (0 ≤ (0 : Int32).toInt ∧ 0 ≤ (0 : Int32).toInt ∧ 0 ≤ xg.toInt) ∧ (0 : Int32).toInt + xg.toInt ≤ (64 : Int32).toInt ∧ (0 : Int32).toInt + xg.toInt ≤ (128 : Int32).toInt := by
  try simp only [Int32.lt_iff_toInt_lt, Int32.le_iff_toInt_le, ← Int32.toInt_inj, ne_eq, oHT, oNU, oNN] at *
  all_goals (have := oLi; omega)
theorem ar21 (h0 : oHT (64 : Int32) xg xe) (h1 : xn.toInt ≤ (64 : Int32).toInt + (64 : Int32).toInt) : (0 ≤ xe.toInt ∧ 0 ≤ ((128 : Int32) - ((64 : Int32) - xe)).toInt ∧ 0 ≤ ((64 : Int32) - xe).toInt) ∧ xe.toInt + ((64 : Int32) - xe).toInt ≤ (64 : Int32).toInt ∧ ((128 : Int32) - ((64 : Int32) - xe)).toInt + ((64 : Int32) - xe).toInt ≤ (128 : Int32).toInt := by
  try simp only [Int32.lt_iff_toInt_lt, Int32.le_iff_toInt_le, ← Int32.toInt_inj, ne_eq, oHT, oNU, oNN] at *
  all_goals (have := oD (64 : Int32) xe; have := oD (128 : Int32) ((64 : Int32) - xe); have := oLi; omega)
theorem ar22 (h0 : oHT (64 : Int32) xg xe) (h1 : xn.toInt ≤ (64 : Int32).toInt + (64 : Int32).toInt) : ((128 : Int32) - ((64 : Int32) - xe)).toInt = (128 : Int32).toInt - ((64 : Int32).toInt - xe.toInt) := by
  try simp only [Int32.lt_iff_toInt_lt, Int32.le_iff_toInt_le, ← Int32.toInt_inj, ne_eq, oHT, oNU, oNN] at *
  all_goals (have := oD (64 : Int32) xe; have := oD (128 : Int32) ((64 : Int32) - xe); have := oLi; omega)
theorem ar23 (h0 : oHT xN xg xe) (h1 : xN.toInt = 16 ∧ (xN.toInt - (xe.toInt - xg.toInt)) ≤ 0) (h2 : 0 ≤ xi0.toInt ∧ 0 ≤ xd0.toInt ∧ xi0.toInt + xd0.toInt ≤ (xN.toInt - (xe.toInt - xg.toInt))) (h3 : oNU xn0 xu0 xw0) : ¬ ((xN - (xe - xg)) - xi0) < xd0 := by
  try simp only [Int32.lt_iff_toInt_lt, Int32.le_iff_toInt_le, ← Int32.toInt_inj, ne_eq, oHT, oNU, oNN] at *
  all_goals (have := oD xe xg; have := oD xN (xe - xg); have := oD (xN - (xe - xg)) xi0; have := oLi; omega)
theorem ar24 (h0 : oHT xN xg xe) (h1 : xN.toInt = 16 ∧ (xN.toInt - (xe.toInt - xg.toInt)) ≤ 0) (h2 : 0 ≤ xi0.toInt ∧ 0 ≤ xd0.toInt ∧ xi0.toInt + xd0.toInt ≤ (xN.toInt - (xe.toInt - xg.toInt))) (h3 : oNU xn0 xu0 xw0) : oHT xN xg xe := by
  try simp only [Int32.lt_iff_toInt_lt, Int32.le_iff_toInt_le, ← Int32.toInt_inj, ne_eq, oHT, oNU, oNN] at *
  all_goals (have := oLi; omega)
theorem ar25 (h0 : oHT xN xg xe) (h1 : xN.toInt = 16 ∧ (xN.toInt - (xe.toInt - xg.toInt)) ≤ 0) (h2 : 0 ≤ xi0.toInt ∧ 0 ≤ xd0.toInt ∧ xi0.toInt + xd0.toInt ≤ (xN.toInt - (xe.toInt - xg.toInt))) (h3 : oNU xn0 xu0 xw0) : 0 ≤ xi0.toInt ∧ xi0.toInt + (xe.toInt - xg.toInt) ≤ xN.toInt := by
  try simp only [Int32.lt_iff_toInt_lt, Int32.le_iff_toInt_le, ← Int32.toInt_inj, ne_eq, oHT, oNU, oNN] at *
  all_goals (have := oLi; omega)
theorem ar26 (h0 : oHT xN xg xe) (h1 : xN.toInt = 16 ∧ (xN.toInt - (xe.toInt - xg.toInt)) ≤ 0) (h2 : 0 ≤ xi0.toInt ∧ 0 ≤ xd0.toInt ∧ xi0.toInt + xd0.toInt ≤ (xN.toInt - (xe.toInt - xg.toInt))) (h3 : oNU xn0 xu0 xw0) (h4 : nge13.toInt = xi0.toInt + (xe.toInt - xg.toInt)) (h5 : oHT nN_0 xi0 nge_0) (h6 : nN_0.toInt - nge_0.toInt = xN.toInt - (nge13 + xd0).toInt) (h7 : xn0.toInt ≤ nge_0.toInt - xi0.toInt) (h8 : nN_0.toInt = xN.toInt ∨ oNN xN nN_0) : (xw0.toInt = 1 ∧ (0 : Int32).toInt + xn0.toInt.toNat = xn0.toInt) ∨ (xw0.toInt = 2 ∧ (0 : Int32).toInt + xn0.toInt.toNat + xn0.toInt.toNat = 2) := by
  try simp only [Int32.lt_iff_toInt_lt, Int32.le_iff_toInt_le, ← Int32.toInt_inj, ne_eq, oHT, oNU, oNN] at *
  all_goals (have := oA nge13 xd0; have := oLi; omega)
theorem ar27 (h0 : oHT xN xg xe) (h1 : xN.toInt = 16 ∧ (xN.toInt - (xe.toInt - xg.toInt)) ≤ 0) (h2 : 0 ≤ xi0.toInt ∧ 0 ≤ xd0.toInt ∧ xi0.toInt + xd0.toInt ≤ (xN.toInt - (xe.toInt - xg.toInt))) (h3 : oNU xn0 xu0 xw0) (h4 : nge13.toInt = xi0.toInt + (xe.toInt - xg.toInt)) (h5 : oHT nN_0 xi0 nge_0) (h6 : nN_0.toInt - nge_0.toInt = xN.toInt - (nge13 + xd0).toInt) (h7 : xn0.toInt ≤ nge_0.toInt - xi0.toInt) (h8 : nN_0.toInt = xN.toInt ∨ oNN xN nN_0) : 0 ≤ (0 : Int32).toInt := by
  try simp only [Int32.lt_iff_toInt_lt, Int32.le_iff_toInt_le, ← Int32.toInt_inj, ne_eq, oHT, oNU, oNN] at *
  all_goals (have := oA nge13 xd0; have := oLi; omega)
theorem ar28 (h0 : oHT xN xg xe) (h1 : xN.toInt = 16 ∧ (xN.toInt - (xe.toInt - xg.toInt)) ≤ 0) (h2 : 0 ≤ xi0.toInt ∧ 0 ≤ xd0.toInt ∧ xi0.toInt + xd0.toInt ≤ (xN.toInt - (xe.toInt - xg.toInt))) (h3 : oNU xn0 xu0 xw0) (h4 : nge13.toInt = xi0.toInt + (xe.toInt - xg.toInt)) (h5 : oHT nN_0 xi0 nge_0) (h6 : nN_0.toInt - nge_0.toInt = xN.toInt - (nge13 + xd0).toInt) (h7 : xn0.toInt ≤ nge_0.toInt - xi0.toInt) (h8 : nN_0.toInt = xN.toInt ∨ oNN xN nN_0) : xi0.toInt + xn0.toInt.toNat = xi0.toInt + xn0.toInt := by
  try simp only [Int32.lt_iff_toInt_lt, Int32.le_iff_toInt_le, ← Int32.toInt_inj, ne_eq, oHT, oNU, oNN] at *
  all_goals (have := oA nge13 xd0; have := oLi; omega)
theorem ar29 (h0 : oHT xN xg xe) (h1 : xN.toInt = 16 ∧ (xN.toInt - (xe.toInt - xg.toInt)) ≤ 0) (h2 : 0 ≤ xi0.toInt ∧ 0 ≤ xd0.toInt ∧ xi0.toInt + xd0.toInt ≤ (xN.toInt - (xe.toInt - xg.toInt))) (h3 : oNU xn0 xu0 xw0) (h4 : nge13.toInt = xi0.toInt + (xe.toInt - xg.toInt)) (h5 : oHT nN_0 xi0 nge_0) (h6 : nN_0.toInt - nge_0.toInt = xN.toInt - (nge13 + xd0).toInt) (h7 : xn0.toInt ≤ nge_0.toInt - xi0.toInt) (h8 : nN_0.toInt = xN.toInt ∨ oNN xN nN_0) (h9 : (xw0.toInt = 1 ∧ xi_22.toInt + (0 : Nat) = xn0.toInt) ∨ (xw0.toInt = 2 ∧ xi_22.toInt + (0 : Nat) + (0 : Nat) = 2)) (h10 : 0 ≤ xi_22.toInt) (h11 : gi_22.toInt + (0 : Nat) = xi0.toInt + xn0.toInt) : ¬ xi_22 < xu0 := by
  try simp only [Int32.lt_iff_toInt_lt, Int32.le_iff_toInt_le, ← Int32.toInt_inj, ne_eq, oHT, oNU, oNN] at *
  all_goals (have := oA nge13 xd0; have := oLi; omega)
theorem ar30 (h0 : oHT xN xg xe) (h1 : xN.toInt = 16 ∧ (xN.toInt - (xe.toInt - xg.toInt)) ≤ 0) (h2 : 0 ≤ xi0.toInt ∧ 0 ≤ xd0.toInt ∧ xi0.toInt + xd0.toInt ≤ (xN.toInt - (xe.toInt - xg.toInt))) (h3 : oNU xn0 xu0 xw0) (h4 : nge13.toInt = xi0.toInt + (xe.toInt - xg.toInt)) (h5 : oHT nN_0 xi0 nge_0) (h6 : nN_0.toInt - nge_0.toInt = xN.toInt - (nge13 + xd0).toInt) (h7 : xn0.toInt ≤ nge_0.toInt - xi0.toInt) (h8 : nN_0.toInt = xN.toInt ∨ oNN xN nN_0) (h9 : (xw0.toInt = 1 ∧ xi_22.toInt + (0 : Nat) = xn0.toInt) ∨ (xw0.toInt = 2 ∧ xi_22.toInt + (0 : Nat) + (0 : Nat) = 2)) (h10 : 0 ≤ xi_22.toInt) (h11 : gi_22.toInt + (0 : Nat) = xi0.toInt + xn0.toInt) : oHT nN_0 gi_22 nge_0 := by
  try simp only [Int32.lt_iff_toInt_lt, Int32.le_iff_toInt_le, ← Int32.toInt_inj, ne_eq, oHT, oNU, oNN] at *
  all_goals (have := oA nge13 xd0; have := oLi; omega)
theorem ar31 (h0 : oHT xN xg xe) (h1 : xN.toInt = 16 ∧ (xN.toInt - (xe.toInt - xg.toInt)) ≤ 0) (h2 : 0 ≤ xi0.toInt ∧ 0 ≤ xd0.toInt ∧ xi0.toInt + xd0.toInt ≤ (xN.toInt - (xe.toInt - xg.toInt))) (h3 : oNU xn0 xu0 xw0) (h4 : nge13.toInt = xi0.toInt + (xe.toInt - xg.toInt)) (h5 : oHT nN_0 xi0 nge_0) (h6 : nN_0.toInt - nge_0.toInt = xN.toInt - (nge13 + xd0).toInt) (h7 : xn0.toInt ≤ nge_0.toInt - xi0.toInt) (h8 : nN_0.toInt = xN.toInt ∨ oNN xN nN_0) (h9 : (xw0.toInt = 1 ∧ xi_22.toInt + (0 : Nat) = xn0.toInt) ∨ (xw0.toInt = 2 ∧ xi_22.toInt + (0 : Nat) + (0 : Nat) = 2)) (h10 : 0 ≤ xi_22.toInt) (h11 : gi_22.toInt + (0 : Nat) = xi0.toInt + xn0.toInt) : nN_0.toInt - (nge_0.toInt - gi_22.toInt) = (xN.toInt - (xe.toInt - xg.toInt)) - xd0.toInt + xn0.toInt := by
  try simp only [Int32.lt_iff_toInt_lt, Int32.le_iff_toInt_le, ← Int32.toInt_inj, ne_eq, oHT, oNU, oNN] at *
  all_goals (have := oA nge13 xd0; have := oLi; omega)
theorem ar32 (h0 : oHT xN xg xe) (h1 : xN.toInt = 16 ∧ (xN.toInt - (xe.toInt - xg.toInt)) ≤ 0) (h2 : 0 ≤ xi0.toInt ∧ 0 ≤ xd0.toInt ∧ xi0.toInt + xd0.toInt ≤ (xN.toInt - (xe.toInt - xg.toInt))) (h3 : oNU xn0 xu0 xw0) (h4 : nge13.toInt = xi0.toInt + (xe.toInt - xg.toInt)) (h5 : oHT nN_0 xi0 nge_0) (h6 : nN_0.toInt - nge_0.toInt = xN.toInt - (nge13 + xd0).toInt) (h7 : xn0.toInt ≤ nge_0.toInt - xi0.toInt) (h8 : nN_0.toInt = xN.toInt ∨ oNN xN nN_0) (h9 : (xw0.toInt = 1 ∧ xi_22.toInt + (0 : Nat) = xn0.toInt) ∨ (xw0.toInt = 2 ∧ xi_22.toInt + (0 : Nat) + (0 : Nat) = 2)) (h10 : 0 ≤ xi_22.toInt) (h11 : gi_22.toInt + (0 : Nat) = xi0.toInt + xn0.toInt) : (nN_0.toInt = 16 ∧ nN_0.toInt - (nge_0.toInt - gi_22.toInt) ≤ 1) ∨ nN_0.toInt = 32 := by
  try simp only [Int32.lt_iff_toInt_lt, Int32.le_iff_toInt_le, ← Int32.toInt_inj, ne_eq, oHT, oNU, oNN] at *
  all_goals (have := oA nge13 xd0; have := oLi; omega)
theorem ar33 (h0 : oHT xN xg xe) (h1 : xN.toInt = 16 ∧ (xN.toInt - (xe.toInt - xg.toInt)) ≤ 0) (h2 : 0 ≤ xi0.toInt ∧ 0 ≤ xd0.toInt ∧ xi0.toInt + xd0.toInt ≤ (xN.toInt - (xe.toInt - xg.toInt))) (h3 : oNU xn0 xu0 xw0) (h4 : nge13.toInt = xi0.toInt + (xe.toInt - xg.toInt)) (h5 : oHT nN_0 xi0 nge_0) (h6 : nN_0.toInt - nge_0.toInt = xN.toInt - (nge13 + xd0).toInt) (h7 : xn0.toInt ≤ nge_0.toInt - xi0.toInt) (h8 : nN_0.toInt = xN.toInt ∨ oNN xN nN_0) (h9 : (xw0.toInt = 1 ∧ xi_22.toInt + (d + 1 : Nat) = xn0.toInt) ∨ (xw0.toInt = 2 ∧ xi_22.toInt + (d + 1 : Nat) + (d + 1 : Nat) = 2)) (h10 : 0 ≤ xi_22.toInt) (h11 : gi_22.toInt + (d + 1 : Nat) = xi0.toInt + xn0.toInt) : xi_22 < xu0 := by
  try simp only [Int32.lt_iff_toInt_lt, Int32.le_iff_toInt_le, ← Int32.toInt_inj, ne_eq, oHT, oNU, oNN] at *
  all_goals (have := oA nge13 xd0; have := oLi; omega)
theorem ar34 (h0 : oHT xN xg xe) (h1 : xN.toInt = 16 ∧ (xN.toInt - (xe.toInt - xg.toInt)) ≤ 0) (h2 : 0 ≤ xi0.toInt ∧ 0 ≤ xd0.toInt ∧ xi0.toInt + xd0.toInt ≤ (xN.toInt - (xe.toInt - xg.toInt))) (h3 : oNU xn0 xu0 xw0) (h4 : nge13.toInt = xi0.toInt + (xe.toInt - xg.toInt)) (h5 : oHT nN_0 xi0 nge_0) (h6 : nN_0.toInt - nge_0.toInt = xN.toInt - (nge13 + xd0).toInt) (h7 : xn0.toInt ≤ nge_0.toInt - xi0.toInt) (h8 : nN_0.toInt = xN.toInt ∨ oNN xN nN_0) (h9 : (xw0.toInt = 1 ∧ xi_22.toInt + (d + 1 : Nat) = xn0.toInt) ∨ (xw0.toInt = 2 ∧ xi_22.toInt + (d + 1 : Nat) + (d + 1 : Nat) = 2)) (h10 : 0 ≤ xi_22.toInt) (h11 : gi_22.toInt + (d + 1 : Nat) = xi0.toInt + xn0.toInt) : ¬ gi_22 < (0 : Int32) ∧ gi_22 < nN_0 := by
  try simp only [Int32.lt_iff_toInt_lt, Int32.le_iff_toInt_le, ← Int32.toInt_inj, ne_eq, oHT, oNU, oNN] at *
  all_goals (have := oA nge13 xd0; have := oLi; omega)
theorem ar35 (h0 : oHT xN xg xe) (h1 : xN.toInt = 16 ∧ (xN.toInt - (xe.toInt - xg.toInt)) ≤ 0) (h2 : 0 ≤ xi0.toInt ∧ 0 ≤ xd0.toInt ∧ xi0.toInt + xd0.toInt ≤ (xN.toInt - (xe.toInt - xg.toInt))) (h3 : oNU xn0 xu0 xw0) (h4 : nge13.toInt = xi0.toInt + (xe.toInt - xg.toInt)) (h5 : oHT nN_0 xi0 nge_0) (h6 : nN_0.toInt - nge_0.toInt = xN.toInt - (nge13 + xd0).toInt) (h7 : xn0.toInt ≤ nge_0.toInt - xi0.toInt) (h8 : nN_0.toInt = xN.toInt ∨ oNN xN nN_0) (h9 : (xw0.toInt = 1 ∧ xi_22.toInt + (d + 1 : Nat) = xn0.toInt) ∨ (xw0.toInt = 2 ∧ xi_22.toInt + (d + 1 : Nat) + (d + 1 : Nat) = 2)) (h10 : 0 ≤ xi_22.toInt) (h11 : gi_22.toInt + (d + 1 : Nat) = xi0.toInt + xn0.toInt) : (xw0.toInt = 1 ∧ 0 ≤ xi_22.toInt ∧ xi_22.toInt < xu0.toInt) ∨ (xw0.toInt = 2 ∧ xi_22.toInt = 0) := by
  try simp only [Int32.lt_iff_toInt_lt, Int32.le_iff_toInt_le, ← Int32.toInt_inj, ne_eq, oHT, oNU, oNN] at *
  all_goals (have := oA nge13 xd0; have := oLi; omega)
theorem ar36 (h0 : oHT xN xg xe) (h1 : xN.toInt = 16 ∧ (xN.toInt - (xe.toInt - xg.toInt)) ≤ 0) (h2 : 0 ≤ xi0.toInt ∧ 0 ≤ xd0.toInt ∧ xi0.toInt + xd0.toInt ≤ (xN.toInt - (xe.toInt - xg.toInt))) (h3 : oNU xn0 xu0 xw0) (h4 : nge13.toInt = xi0.toInt + (xe.toInt - xg.toInt)) (h5 : oHT nN_0 xi0 nge_0) (h6 : nN_0.toInt - nge_0.toInt = xN.toInt - (nge13 + xd0).toInt) (h7 : xn0.toInt ≤ nge_0.toInt - xi0.toInt) (h8 : nN_0.toInt = xN.toInt ∨ oNN xN nN_0) (h9 : (xw0.toInt = 1 ∧ xi_22.toInt + (d + 1 : Nat) = xn0.toInt) ∨ (xw0.toInt = 2 ∧ xi_22.toInt + (d + 1 : Nat) + (d + 1 : Nat) = 2)) (h10 : 0 ≤ xi_22.toInt) (h11 : gi_22.toInt + (d + 1 : Nat) = xi0.toInt + xn0.toInt) : (xw0.toInt = 1 ∧ (xi_22 + xw0).toInt + d = xn0.toInt) ∨ (xw0.toInt = 2 ∧ (xi_22 + xw0).toInt + d + d = 2) := by
  try simp only [Int32.lt_iff_toInt_lt, Int32.le_iff_toInt_le, ← Int32.toInt_inj, ne_eq, oHT, oNU, oNN] at *
  all_goals (have := oA xi_22 xw0; have := oA nge13 xd0; have := oLi; omega)
theorem ar37 (h0 : oHT xN xg xe) (h1 : xN.toInt = 16 ∧ (xN.toInt - (xe.toInt - xg.toInt)) ≤ 0) (h2 : 0 ≤ xi0.toInt ∧ 0 ≤ xd0.toInt ∧ xi0.toInt + xd0.toInt ≤ (xN.toInt - (xe.toInt - xg.toInt))) (h3 : oNU xn0 xu0 xw0) (h4 : nge13.toInt = xi0.toInt + (xe.toInt - xg.toInt)) (h5 : oHT nN_0 xi0 nge_0) (h6 : nN_0.toInt - nge_0.toInt = xN.toInt - (nge13 + xd0).toInt) (h7 : xn0.toInt ≤ nge_0.toInt - xi0.toInt) (h8 : nN_0.toInt = xN.toInt ∨ oNN xN nN_0) (h9 : (xw0.toInt = 1 ∧ xi_22.toInt + (d + 1 : Nat) = xn0.toInt) ∨ (xw0.toInt = 2 ∧ xi_22.toInt + (d + 1 : Nat) + (d + 1 : Nat) = 2)) (h10 : 0 ≤ xi_22.toInt) (h11 : gi_22.toInt + (d + 1 : Nat) = xi0.toInt + xn0.toInt) : 0 ≤ (xi_22 + xw0).toInt := by
  try simp only [Int32.lt_iff_toInt_lt, Int32.le_iff_toInt_le, ← Int32.toInt_inj, ne_eq, oHT, oNU, oNN] at *
  all_goals (have := oA xi_22 xw0; have := oA nge13 xd0; have := oLi; omega)
theorem ar38 (h0 : oHT xN xg xe) (h1 : xN.toInt = 16 ∧ (xN.toInt - (xe.toInt - xg.toInt)) ≤ 0) (h2 : 0 ≤ xi0.toInt ∧ 0 ≤ xd0.toInt ∧ xi0.toInt + xd0.toInt ≤ (xN.toInt - (xe.toInt - xg.toInt))) (h3 : oNU xn0 xu0 xw0) (h4 : nge13.toInt = xi0.toInt + (xe.toInt - xg.toInt)) (h5 : oHT nN_0 xi0 nge_0) (h6 : nN_0.toInt - nge_0.toInt = xN.toInt - (nge13 + xd0).toInt) (h7 : xn0.toInt ≤ nge_0.toInt - xi0.toInt) (h8 : nN_0.toInt = xN.toInt ∨ oNN xN nN_0) (h9 : (xw0.toInt = 1 ∧ xi_22.toInt + (d + 1 : Nat) = xn0.toInt) ∨ (xw0.toInt = 2 ∧ xi_22.toInt + (d + 1 : Nat) + (d + 1 : Nat) = 2)) (h10 : 0 ≤ xi_22.toInt) (h11 : gi_22.toInt + (d + 1 : Nat) = xi0.toInt + xn0.toInt) : (gi_22 + (1 : Int32)).toInt + d = xi0.toInt + xn0.toInt := by
  try simp only [Int32.lt_iff_toInt_lt, Int32.le_iff_toInt_le, ← Int32.toInt_inj, ne_eq, oHT, oNU, oNN] at *
  all_goals (have := oA gi_22 (1 : Int32); have := oA nge13 xd0; have := oLi; omega)
theorem ar39 (h0 : oHT xN xg xe) (h1 : xN.toInt = 16 ∧ (xN.toInt - (xe.toInt - xg.toInt)) ≤ 0) (h2 : 0 ≤ xi0.toInt ∧ 0 ≤ xd0.toInt ∧ xi0.toInt + xd0.toInt ≤ (xN.toInt - (xe.toInt - xg.toInt))) (h3 : oNU xn0 xu0 xw0) (h4 : nge13.toInt = xi0.toInt + (xe.toInt - xg.toInt)) (h5 : ((nge13 + xd0) - xi0) < xn0) : xN = (16 : Int32) ∨ xN = (32 : Int32) ∨ xN = (64 : Int32) := by
  try simp only [Int32.lt_iff_toInt_lt, Int32.le_iff_toInt_le, ← Int32.toInt_inj, ne_eq, oHT, oNU, oNN] at *
  all_goals (have := oA nge13 xd0; have := oD (nge13 + xd0) xi0; have := oLi; omega)
theorem ar40 (h0 : oHT xN xg xe) (h1 : xN.toInt = 16 ∧ (xN.toInt - (xe.toInt - xg.toInt)) ≤ 0) (h2 : 0 ≤ xi0.toInt ∧ 0 ≤ xd0.toInt ∧ xi0.toInt + xd0.toInt ≤ (xN.toInt - (xe.toInt - xg.toInt))) (h3 : oNU xn0 xu0 xw0) (h4 : nge13.toInt = xi0.toInt + (xe.toInt - xg.toInt)) (h5 : ((nge13 + xd0) - xi0) < xn0) : oHT xN xi0 (nge13 + xd0) := by
  try simp only [Int32.lt_iff_toInt_lt, Int32.le_iff_toInt_le, ← Int32.toInt_inj, ne_eq, oHT, oNU, oNN] at *
  all_goals (have := oA nge13 xd0; have := oD (nge13 + xd0) xi0; have := oLi; omega)
theorem ar41 (h0 : oHT xN xg xe) (h1 : xN.toInt = 16 ∧ (xN.toInt - (xe.toInt - xg.toInt)) ≤ 0) (h2 : 0 ≤ xi0.toInt ∧ 0 ≤ xd0.toInt ∧ xi0.toInt + xd0.toInt ≤ (xN.toInt - (xe.toInt - xg.toInt))) (h3 : oNU xn0 xu0 xw0) (h4 : nge13.toInt = xi0.toInt + (xe.toInt - xg.toInt)) (h5 : ((nge13 + xd0) - xi0) < xn0) : ((xN - ((nge13 + xd0) - xi0)) + xn0).toInt ≤ xN.toInt + xN.toInt := by
  try simp only [Int32.lt_iff_toInt_lt, Int32.le_iff_toInt_le, ← Int32.toInt_inj, ne_eq, oHT, oNU, oNN] at *
  all_goals (have := oA nge13 xd0; have := oD (nge13 + xd0) xi0; have := oD xN ((nge13 + xd0) - xi0); have := oA (xN - ((nge13 + xd0) - xi0)) xn0; have := oLi; omega)
theorem ar42 (h0 : oHT xN xg xe) (h1 : xN.toInt = 16 ∧ (xN.toInt - (xe.toInt - xg.toInt)) ≤ 0) (h2 : 0 ≤ xi0.toInt ∧ 0 ≤ xd0.toInt ∧ xi0.toInt + xd0.toInt ≤ (xN.toInt - (xe.toInt - xg.toInt))) (h3 : oNU xn0 xu0 xw0) (h4 : nge13.toInt = xi0.toInt + (xe.toInt - xg.toInt)) (h5 : ((nge13 + xd0) - xi0) < xn0) (h6 : oNN xN nN39) (h7 : nge39.toInt = nN39.toInt - (xN.toInt - (nge13 + xd0).toInt)) : oHT nN39 xi0 nge39 := by
  try simp only [Int32.lt_iff_toInt_lt, Int32.le_iff_toInt_le, ← Int32.toInt_inj, ne_eq, oHT, oNU, oNN] at *
  all_goals (have := oA nge13 xd0; have := oD (nge13 + xd0) xi0; have := oLi; omega)
theorem ar43 (h0 : oHT xN xg xe) (h1 : xN.toInt = 16 ∧ (xN.toInt - (xe.toInt - xg.toInt)) ≤ 0) (h2 : 0 ≤ xi0.toInt ∧ 0 ≤ xd0.toInt ∧ xi0.toInt + xd0.toInt ≤ (xN.toInt - (xe.toInt - xg.toInt))) (h3 : oNU xn0 xu0 xw0) (h4 : nge13.toInt = xi0.toInt + (xe.toInt - xg.toInt)) (h5 : ((nge13 + xd0) - xi0) < xn0) (h6 : oNN xN nN39) (h7 : nge39.toInt = nN39.toInt - (xN.toInt - (nge13 + xd0).toInt)) : nN39.toInt - nge39.toInt = xN.toInt - (nge13 + xd0).toInt := by
  try simp only [Int32.lt_iff_toInt_lt, Int32.le_iff_toInt_le, ← Int32.toInt_inj, ne_eq, oHT, oNU, oNN] at *
  all_goals (have := oA nge13 xd0; have := oD (nge13 + xd0) xi0; have := oLi; omega)
theorem ar44 (h0 : oHT xN xg xe) (h1 : xN.toInt = 16 ∧ (xN.toInt - (xe.toInt - xg.toInt)) ≤ 0) (h2 : 0 ≤ xi0.toInt ∧ 0 ≤ xd0.toInt ∧ xi0.toInt + xd0.toInt ≤ (xN.toInt - (xe.toInt - xg.toInt))) (h3 : oNU xn0 xu0 xw0) (h4 : nge13.toInt = xi0.toInt + (xe.toInt - xg.toInt)) (h5 : ((nge13 + xd0) - xi0) < xn0) (h6 : oNN xN nN39) (h7 : nge39.toInt = nN39.toInt - (xN.toInt - (nge13 + xd0).toInt)) : xn0.toInt ≤ nge39.toInt - xi0.toInt := by
  try simp only [Int32.lt_iff_toInt_lt, Int32.le_iff_toInt_le, ← Int32.toInt_inj, ne_eq, oHT, oNU, oNN] at *
  all_goals (have := oA nge13 xd0; have := oD (nge13 + xd0) xi0; have := oLi; omega)
theorem ar45 (h0 : oHT xN xg xe) (h1 : xN.toInt = 16 ∧ (xN.toInt - (xe.toInt - xg.toInt)) ≤ 0) (h2 : 0 ≤ xi0.toInt ∧ 0 ≤ xd0.toInt ∧ xi0.toInt + xd0.toInt ≤ (xN.toInt - (xe.toInt - xg.toInt))) (h3 : oNU xn0 xu0 xw0) (h4 : nge13.toInt = xi0.toInt + (xe.toInt - xg.toInt)) (h5 : ((nge13 + xd0) - xi0) < xn0) (h6 : oNN xN nN39) (h7 : nge39.toInt = nN39.toInt - (xN.toInt - (nge13 + xd0).toInt)) : nN39.toInt = xN.toInt ∨ oNN xN nN39 := by
  try simp only [Int32.lt_iff_toInt_lt, Int32.le_iff_toInt_le, ← Int32.toInt_inj, ne_eq, oHT, oNU, oNN] at *
  all_goals (have := oA nge13 xd0; have := oD (nge13 + xd0) xi0; have := oLi; omega)
theorem ar46 (h0 : oHT xN xg xe) (h1 : xN.toInt = 16 ∧ (xN.toInt - (xe.toInt - xg.toInt)) ≤ 0) (h2 : 0 ≤ xi0.toInt ∧ 0 ≤ xd0.toInt ∧ xi0.toInt + xd0.toInt ≤ (xN.toInt - (xe.toInt - xg.toInt))) (h3 : oNU xn0 xu0 xw0) (h4 : nge13.toInt = xi0.toInt + (xe.toInt - xg.toInt)) (h5 : ¬ ((nge13 + xd0) - xi0) < xn0) : oHT xN xi0 (nge13 + xd0) := by
  try simp only [Int32.lt_iff_toInt_lt, Int32.le_iff_toInt_le, ← Int32.toInt_inj, ne_eq, oHT, oNU, oNN] at *
  all_goals (have := oA nge13 xd0; have := oD (nge13 + xd0) xi0; have := oLi; omega)
theorem ar47 (h0 : oHT xN xg xe) (h1 : xN.toInt = 16 ∧ (xN.toInt - (xe.toInt - xg.toInt)) ≤ 0) (h2 : 0 ≤ xi0.toInt ∧ 0 ≤ xd0.toInt ∧ xi0.toInt + xd0.toInt ≤ (xN.toInt - (xe.toInt - xg.toInt))) (h3 : oNU xn0 xu0 xw0) (h4 : nge13.toInt = xi0.toInt + (xe.toInt - xg.toInt)) (h5 : ¬ ((nge13 + xd0) - xi0) < xn0) : xn0.toInt ≤ (nge13 + xd0).toInt - xi0.toInt := by
  try simp only [Int32.lt_iff_toInt_lt, Int32.le_iff_toInt_le, ← Int32.toInt_inj, ne_eq, oHT, oNU, oNN] at *
  all_goals (have := oA nge13 xd0; have := oD (nge13 + xd0) xi0; have := oLi; omega)
theorem ar48 (h0 : oHT xN xg xe) (h1 : (xN.toInt = 16 ∧ (xN.toInt - (xe.toInt - xg.toInt)) ≤ 1) ∨ xN.toInt = 32) (h2 : 0 ≤ xi0.toInt ∧ 0 ≤ xd0.toInt ∧ xi0.toInt + xd0.toInt ≤ (xN.toInt - (xe.toInt - xg.toInt))) (h3 : 0 ≤ xi1.toInt ∧ 0 ≤ xd1.toInt ∧ xi1.toInt + xd1.toInt ≤ (xN.toInt - (xe.toInt - xg.toInt)) - xd0.toInt + xn0.toInt) (h4 : oNU xn0 xu0 xw0) (h5 : oNU xn1 xu1 xw1) : ¬ ((xN - (xe - xg)) - xi0) < xd0 := by
  try simp only [Int32.lt_iff_toInt_lt, Int32.le_iff_toInt_le, ← Int32.toInt_inj, ne_eq, oHT, oNU, oNN] at *
  all_goals (have := oD xe xg; have := oD xN (xe - xg); have := oD (xN - (xe - xg)) xi0; have := oLi; omega)
theorem ar49 (h0 : oHT xN xg xe) (h1 : (xN.toInt = 16 ∧ (xN.toInt - (xe.toInt - xg.toInt)) ≤ 1) ∨ xN.toInt = 32) (h2 : 0 ≤ xi0.toInt ∧ 0 ≤ xd0.toInt ∧ xi0.toInt + xd0.toInt ≤ (xN.toInt - (xe.toInt - xg.toInt))) (h3 : 0 ≤ xi1.toInt ∧ 0 ≤ xd1.toInt ∧ xi1.toInt + xd1.toInt ≤ (xN.toInt - (xe.toInt - xg.toInt)) - xd0.toInt + xn0.toInt) (h4 : oNU xn0 xu0 xw0) (h5 : oNU xn1 xu1 xw1) : ¬ ((((xN - (xe - xg)) - xd0) + xn0) - xi1) < xd1 := by
  try simp only [Int32.lt_iff_toInt_lt, Int32.le_iff_toInt_le, ← Int32.toInt_inj, ne_eq, oHT, oNU, oNN] at *
  all_goals (have := oD xe xg; have := oD xN (xe - xg); have := oD (xN - (xe - xg)) xd0; have := oA ((xN - (xe - xg)) - xd0) xn0; have := oD (((xN - (xe - xg)) - xd0) + xn0) xi1; have := oLi; omega)
theorem ar50 (h0 : oHT xN xg xe) (h1 : (xN.toInt = 16 ∧ (xN.toInt - (xe.toInt - xg.toInt)) ≤ 1) ∨ xN.toInt = 32) (h2 : 0 ≤ xi0.toInt ∧ 0 ≤ xd0.toInt ∧ xi0.toInt + xd0.toInt ≤ (xN.toInt - (xe.toInt - xg.toInt))) (h3 : oNU xn0 xu0 xw0) : oHT xN xg xe := by
  try simp only [Int32.lt_iff_toInt_lt, Int32.le_iff_toInt_le, ← Int32.toInt_inj, ne_eq, oHT, oNU, oNN] at *
  all_goals (have := oLi; omega)
theorem ar51 (h0 : oHT xN xg xe) (h1 : (xN.toInt = 16 ∧ (xN.toInt - (xe.toInt - xg.toInt)) ≤ 1) ∨ xN.toInt = 32) (h2 : 0 ≤ xi0.toInt ∧ 0 ≤ xd0.toInt ∧ xi0.toInt + xd0.toInt ≤ (xN.toInt - (xe.toInt - xg.toInt))) (h3 : oNU xn0 xu0 xw0) : 0 ≤ xi0.toInt ∧ xi0.toInt + (xe.toInt - xg.toInt) ≤ xN.toInt := by
  try simp only [Int32.lt_iff_toInt_lt, Int32.le_iff_toInt_le, ← Int32.toInt_inj, ne_eq, oHT, oNU, oNN] at *
  all_goals (have := oLi; omega)
theorem ar52 (h0 : oHT xN xg xe) (h1 : (xN.toInt = 16 ∧ (xN.toInt - (xe.toInt - xg.toInt)) ≤ 1) ∨ xN.toInt = 32) (h2 : 0 ≤ xi0.toInt ∧ 0 ≤ xd0.toInt ∧ xi0.toInt + xd0.toInt ≤ (xN.toInt - (xe.toInt - xg.toInt))) (h3 : oNU xn0 xu0 xw0) (h4 : nge13.toInt = xi0.toInt + (xe.toInt - xg.toInt)) (h5 : oHT nN_0 xi0 nge_0) (h6 : nN_0.toInt - nge_0.toInt = xN.toInt - (nge13 + xd0).toInt) (h7 : xn0.toInt ≤ nge_0.toInt - xi0.toInt) (h8 : nN_0.toInt = xN.toInt ∨ oNN xN nN_0) : (xw0.toInt = 1 ∧ (0 : Int32).toInt + xn0.toInt.toNat = xn0.toInt) ∨ (xw0.toInt = 2 ∧ (0 : Int32).toInt + xn0.toInt.toNat + xn0.toInt.toNat = 2) := by
  try simp only [Int32.lt_iff_toInt_lt, Int32.le_iff_toInt_le, ← Int32.toInt_inj, ne_eq, oHT, oNU, oNN] at *
  all_goals (have := oA nge13 xd0; have := oLi; omega)
theorem ar53 (h0 : oHT xN xg xe) (h1 : (xN.toInt = 16 ∧ (xN.toInt - (xe.toInt - xg.toInt)) ≤ 1) ∨ xN.toInt = 32) (h2 : 0 ≤ xi0.toInt ∧ 0 ≤ xd0.toInt ∧ xi0.toInt + xd0.toInt ≤ (xN.toInt - (xe.toInt - xg.toInt))) (h3 : oNU xn0 xu0 xw0) (h4 : nge13.toInt = xi0.toInt + (xe.toInt - xg.toInt)) (h5 : oHT nN_0 xi0 nge_0) (h6 : nN_0.toInt - nge_0.toInt = xN.toInt - (nge13 + xd0).toInt) (h7 : xn0.toInt ≤ nge_0.toInt - xi0.toInt) (h8 : nN_0.toInt = xN.toInt ∨ oNN xN nN_0) : 0 ≤ (0 : Int32).toInt := by
  try simp only [Int32.lt_iff_toInt_lt, Int32.le_iff_toInt_le, ← Int32.toInt_inj, ne_eq, oHT, oNU, oNN] at *
  all_goals (have := oA nge13 xd0; have := oLi; omega)
theorem ar54 (h0 : oHT xN xg xe) (h1 : (xN.toInt = 16 ∧ (xN.toInt - (xe.toInt - xg.toInt)) ≤ 1) ∨ xN.toInt = 32) (h2 : 0 ≤ xi0.toInt ∧ 0 ≤ xd0.toInt ∧ xi0.toInt + xd0.toInt ≤ (xN.toInt - (xe.toInt - xg.toInt))) (h3 : oNU xn0 xu0 xw0) (h4 : nge13.toInt = xi0.toInt + (xe.toInt - xg.toInt)) (h5 : oHT nN_0 xi0 nge_0) (h6 : nN_0.toInt - nge_0.toInt = xN.toInt - (nge13 + xd0).toInt) (h7 : xn0.toInt ≤ nge_0.toInt - xi0.toInt) (h8 : nN_0.toInt = xN.toInt ∨ oNN xN nN_0) : xi0.toInt + xn0.toInt.toNat = xi0.toInt + xn0.toInt := by
  try simp only [Int32.lt_iff_toInt_lt, Int32.le_iff_toInt_le, ← Int32.toInt_inj, ne_eq, oHT, oNU, oNN] at *
  all_goals (have := oA nge13 xd0; have := oLi; omega)
theorem ar55 (h0 : oHT xN xg xe) (h1 : (xN.toInt = 16 ∧ (xN.toInt - (xe.toInt - xg.toInt)) ≤ 1) ∨ xN.toInt = 32) (h2 : 0 ≤ xi0.toInt ∧ 0 ≤ xd0.toInt ∧ xi0.toInt + xd0.toInt ≤ (xN.toInt - (xe.toInt - xg.toInt))) (h3 : oNU xn0 xu0 xw0) (h4 : nge13.toInt = xi0.toInt + (xe.toInt - xg.toInt)) (h5 : oHT nN_0 xi0 nge_0) (h6 : nN_0.toInt - nge_0.toInt = xN.toInt - (nge13 + xd0).toInt) (h7 : xn0.toInt ≤ nge_0.toInt - xi0.toInt) (h8 : nN_0.toInt = xN.toInt ∨ oNN xN nN_0) (h9 : (xw0.toInt = 1 ∧ xi_22.toInt + (0 : Nat) = xn0.toInt) ∨ (xw0.toInt = 2 ∧ xi_22.toInt + (0 : Nat) + (0 : Nat) = 2)) (h10 : 0 ≤ xi_22.toInt) (h11 : gi_22.toInt + (0 : Nat) = xi0.toInt + xn0.toInt) : ¬ xi_22 < xu0 := by
  try simp only [Int32.lt_iff_toInt_lt, Int32.le_iff_toInt_le, ← Int32.toInt_inj, ne_eq, oHT, oNU, oNN] at *
  all_goals (have := oA nge13 xd0; have := oLi; omega)
theorem ar56 (h0 : oHT xN xg xe) (h1 : (xN.toInt = 16 ∧ (xN.toInt - (xe.toInt - xg.toInt)) ≤ 1) ∨ xN.toInt = 32) (h2 : 0 ≤ xi0.toInt ∧ 0 ≤ xd0.toInt ∧ xi0.toInt + xd0.toInt ≤ (xN.toInt - (xe.toInt - xg.toInt))) (h3 : 0 ≤ xi1.toInt ∧ 0 ≤ xd1.toInt ∧ xi1.toInt + xd1.toInt ≤ (xN.toInt - (xe.toInt - xg.toInt)) - xd0.toInt + xn0.toInt) (h4 : oNU xn0 xu0 xw0) (h5 : oNU xn1 xu1 xw1) (h6 : nge13.toInt = xi0.toInt + (xe.toInt - xg.toInt)) (h7 : oHT nN_0 xi0 nge_0) (h8 : nN_0.toInt - nge_0.toInt = xN.toInt - (nge13 + xd0).toInt) (h9 : xn0.toInt ≤ nge_0.toInt - xi0.toInt) (h10 : nN_0.toInt = xN.toInt ∨ oNN xN nN_0) (h11 : (xw0.toInt = 1 ∧ xi_22.toInt + (0 : Nat) = xn0.toInt) ∨ (xw0.toInt = 2 ∧ xi_22.toInt + (0 : Nat) + (0 : Nat) = 2)) (h12 : 0 ≤ xi_22.toInt) (h13 : gi_22.toInt + (0 : Nat) = xi0.toInt + xn0.toInt) : oHT nN_0 gi_22 nge_0 := by
  try simp only [Int32.lt_iff_toInt_lt, Int32.le_iff_toInt_le, ← Int32.toInt_inj, ne_eq, oHT, oNU, oNN] at *
  all_goals (have := oA nge13 xd0; have := oLi; omega)
theorem ar57 (h0 : oHT xN xg xe) (h1 : (xN.toInt = 16 ∧ (xN.toInt - (xe.toInt - xg.toInt)) ≤ 1) ∨ xN.toInt = 32) (h2 : 0 ≤ xi0.toInt ∧ 0 ≤ xd0.toInt ∧ xi0.toInt + xd0.toInt ≤ (xN.toInt - (xe.toInt - xg.toInt))) (h3 : 0 ≤ xi1.toInt ∧ 0 ≤ xd1.toInt ∧ xi1.toInt + xd1.toInt ≤ (xN.toInt - (xe.toInt - xg.toInt)) - xd0.toInt + xn0.toInt) (h4 : oNU xn0 xu0 xw0) (h5 : oNU xn1 xu1 xw1) (h6 : nge13.toInt = xi0.toInt + (xe.toInt - xg.toInt)) (h7 : oHT nN_0 xi0 nge_0) (h8 : nN_0.toInt - nge_0.toInt = xN.toInt - (nge13 + xd0).toInt) (h9 : xn0.toInt ≤ nge_0.toInt - xi0.toInt) (h10 : nN_0.toInt = xN.toInt ∨ oNN xN nN_0) (h11 : (xw0.toInt = 1 ∧ xi_22.toInt + (0 : Nat) = xn0.toInt) ∨ (xw0.toInt = 2 ∧ xi_22.toInt + (0 : Nat) + (0 : Nat) = 2)) (h12 : 0 ≤ xi_22.toInt) (h13 : gi_22.toInt + (0 : Nat) = xi0.toInt + xn0.toInt) : 0 ≤ xi1.toInt ∧ xi1.toInt + (nge_0.toInt - gi_22.toInt) ≤ nN_0.toInt := by
  try simp only [Int32.lt_iff_toInt_lt, Int32.le_iff_toInt_le, ← Int32.toInt_inj, ne_eq, oHT, oNU, oNN] at *
  all_goals (have := oA nge13 xd0; have := oLi; omega)
theorem ar58 (h0 : oHT xN xg xe) (h1 : (xN.toInt = 16 ∧ (xN.toInt - (xe.toInt - xg.toInt)) ≤ 1) ∨ xN.toInt = 32) (h2 : 0 ≤ xi0.toInt ∧ 0 ≤ xd0.toInt ∧ xi0.toInt + xd0.toInt ≤ (xN.toInt - (xe.toInt - xg.toInt))) (h3 : 0 ≤ xi1.toInt ∧ 0 ≤ xd1.toInt ∧ xi1.toInt + xd1.toInt ≤ (xN.toInt - (xe.toInt - xg.toInt)) - xd0.toInt + xn0.toInt) (h4 : oNU xn0 xu0 xw0) (h5 : oNU xn1 xu1 xw1) (h6 : nge13.toInt = xi0.toInt + (xe.toInt - xg.toInt)) (h7 : oHT nN_0 xi0 nge_0) (h8 : nN_0.toInt - nge_0.toInt = xN.toInt - (nge13 + xd0).toInt) (h9 : xn0.toInt ≤ nge_0.toInt - xi0.toInt) (h10 : nN_0.toInt = xN.toInt ∨ oNN xN nN_0) (h11 : (xw0.toInt = 1 ∧ xi_22.toInt + (0 : Nat) = xn0.toInt) ∨ (xw0.toInt = 2 ∧ xi_22.toInt + (0 : Nat) + (0 : Nat) = 2)) (h12 : 0 ≤ xi_22.toInt) (h13 : gi_22.toInt + (0 : Nat) = xi0.toInt + xn0.toInt) (h14 : nge31.toInt = xi1.toInt + (nge_0.toInt - gi_22.toInt)) (h15 : oHT nN_1 xi1 nge_1) (h16 : nN_1.toInt - nge_1.toInt = nN_0.toInt - (nge31 + xd1).toInt) (h17 : xn1.toInt ≤ nge_1.toInt - xi1.toInt) (h18 : nN_1.toInt = nN_0.toInt ∨ oNN nN_0 nN_1) : (xw1.toInt = 1 ∧ (0 : Int32).toInt + xn1.toInt.toNat = xn1.toInt) ∨ (xw1.toInt = 2 ∧ (0 : Int32).toInt + xn1.toInt.toNat + xn1.toInt.toNat = 2) := by
  try simp only [Int32.lt_iff_toInt_lt, Int32.le_iff_toInt_le, ← Int32.toInt_inj, ne_eq, oHT, oNU, oNN] at *
  all_goals (have := oA nge13 xd0; have := oA nge31 xd1; have := oLi; omega)
theorem ar59 (h0 : oHT xN xg xe) (h1 : (xN.toInt = 16 ∧ (xN.toInt - (xe.toInt - xg.toInt)) ≤ 1) ∨ xN.toInt = 32) (h2 : 0 ≤ xi0.toInt ∧ 0 ≤ xd0.toInt ∧ xi0.toInt + xd0.toInt ≤ (xN.toInt - (xe.toInt - xg.toInt))) (h3 : 0 ≤ xi1.toInt ∧ 0 ≤ xd1.toInt ∧ xi1.toInt + xd1.toInt ≤ (xN.toInt - (xe.toInt - xg.toInt)) - xd0.toInt + xn0.toInt) (h4 : oNU xn0 xu0 xw0) (h5 : oNU xn1 xu1 xw1) (h6 : nge13.toInt = xi0.toInt + (xe.toInt - xg.toInt)) (h7 : oHT nN_0 xi0 nge_0) (h8 : nN_0.toInt - nge_0.toInt = xN.toInt - (nge13 + xd0).toInt) (h9 : xn0.toInt ≤ nge_0.toInt - xi0.toInt) (h10 : nN_0.toInt = xN.toInt ∨ oNN xN nN_0) (h11 : (xw0.toInt = 1 ∧ xi_22.toInt + (0 : Nat) = xn0.toInt) ∨ (xw0.toInt = 2 ∧ xi_22.toInt + (0 : Nat) + (0 : Nat) = 2)) (h12 : 0 ≤ xi_22.toInt) (h13 : gi_22.toInt + (0 : Nat) = xi0.toInt + xn0.toInt) (h14 : nge31.toInt = xi1.toInt + (nge_0.toInt - gi_22.toInt)) (h15 : oHT nN_1 xi1 nge_1) (h16 : nN_1.toInt - nge_1.toInt = nN_0.toInt - (nge31 + xd1).toInt) (h17 : xn1.toInt ≤ nge_1.toInt - xi1.toInt) (h18 : nN_1.toInt = nN_0.toInt ∨ oNN nN_0 nN_1) : 0 ≤ (0 : Int32).toInt := by
  try simp only [Int32.lt_iff_toInt_lt, Int32.le_iff_toInt_le, ← Int32.toInt_inj, ne_eq, oHT, oNU, oNN] at *
  all_goals (have := oA nge13 xd0; have := oA nge31 xd1; have := oLi; omega)
theorem ar60 (h0 : oHT xN xg xe) (h1 : (xN.toInt = 16 ∧ (xN.toInt - (xe.toInt - xg.toInt)) ≤ 1) ∨ xN.toInt = 32) (h2 : 0 ≤ xi0.toInt ∧ 0 ≤ xd0.toInt ∧ xi0.toInt + xd0.toInt ≤ (xN.toInt - (xe.toInt - xg.toInt))) (h3 : 0 ≤ xi1.toInt ∧ 0 ≤ xd1.toInt ∧ xi1.toInt + xd1.toInt ≤ (xN.toInt - (xe.toInt - xg.toInt)) - xd0.toInt + xn0.toInt) (h4 : oNU xn0 xu0 xw0) (h5 : oNU xn1 xu1 xw1) (h6 : nge13.toInt = xi0.toInt + (xe.toInt - xg.toInt)) (h7 : oHT nN_0 xi0 nge_0) (h8 : nN_0.toInt - nge_0.toInt = xN.toInt - (nge13 + xd0).toInt) (h9 : xn0.toInt ≤ nge_0.toInt - xi0.toInt) (h10 : nN_0.toInt = xN.toInt ∨ oNN xN nN_0) (h11 : (xw0.toInt = 1 ∧ xi_22.toInt + (0 : Nat) = xn0.toInt) ∨ (xw0.toInt = 2 ∧ xi_22.toInt + (0 : Nat) + (0 : Nat) = 2)) (h12 : 0 ≤ xi_22.toInt) (h13 : gi_22.toInt + (0 : Nat) = xi0.toInt + xn0.toInt) (h14 : nge31.toInt = xi1.toInt + (nge_0.toInt - gi_22.toInt)) (h15 : oHT nN_1 xi1 nge_1) (h16 : nN_1.toInt - nge_1.toInt = nN_0.toInt - (nge31 + xd1).toInt) (h17 : xn1.toInt ≤ nge_1.toInt - xi1.toInt) (h18 : nN_1.toInt = nN_0.toInt ∨ oNN nN_0 nN_1) : xi1.toInt + xn1.toInt.toNat = xi1.toInt + xn1.toInt := by
  try simp only [Int32.lt_iff_toInt_lt, Int32.le_iff_toInt_le, ← Int32.toInt_inj, ne_eq, oHT, oNU, oNN] at *
  all_goals (have := oA nge13 xd0; have := oA nge31 xd1; have := oLi; omega)
theorem ar61 (h0 : oHT xN xg xe) (h1 : (xN.toInt = 16 ∧ (xN.toInt - (xe.toInt - xg.toInt)) ≤ 1) ∨ xN.toInt = 32) (h2 : 0 ≤ xi0.toInt ∧ 0 ≤ xd0.toInt ∧ xi0.toInt + xd0.toInt ≤ (xN.toInt - (xe.toInt - xg.toInt))) (h3 : 0 ≤ xi1.toInt ∧ 0 ≤ xd1.toInt ∧ xi1.toInt + xd1.toInt ≤ (xN.toInt - (xe.toInt - xg.toInt)) - xd0.toInt + xn0.toInt) (h4 : oNU xn0 xu0 xw0) (h5 : oNU xn1 xu1 xw1) (h6 : nge13.toInt = xi0.toInt + (xe.toInt - xg.toInt)) (h7 : oHT nN_0 xi0 nge_0) (h8 : nN_0.toInt - nge_0.toInt = xN.toInt - (nge13 + xd0).toInt) (h9 : xn0.toInt ≤ nge_0.toInt - xi0.toInt) (h10 : nN_0.toInt = xN.toInt ∨ oNN xN nN_0) (h11 : (xw0.toInt = 1 ∧ xi_22.toInt + (0 : Nat) = xn0.toInt) ∨ (xw0.toInt = 2 ∧ xi_22.toInt + (0 : Nat) + (0 : Nat) = 2)) (h12 : 0 ≤ xi_22.toInt) (h13 : gi_22.toInt + (0 : Nat) = xi0.toInt + xn0.toInt) (h14 : nge31.toInt = xi1.toInt + (nge_0.toInt - gi_22.toInt)) (h15 : oHT nN_1 xi1 nge_1) (h16 : nN_1.toInt - nge_1.toInt = nN_0.toInt - (nge31 + xd1).toInt) (h17 : xn1.toInt ≤ nge_1.toInt - xi1.toInt) (h18 : nN_1.toInt = nN_0.toInt ∨ oNN nN_0 nN_1) (h19 : (xw1.toInt = 1 ∧ xi_40.toInt + (0 : Nat) = xn1.toInt) ∨ (xw1.toInt = 2 ∧ xi_40.toInt + (0 : Nat) + (0 : Nat) = 2)) (h20 : 0 ≤ xi_40.toInt) (h21 : gi_40.toInt + (0 : Nat) = xi1.toInt + xn1.toInt) : ¬ xi_40 < xu1 := by
  try simp only [Int32.lt_iff_toInt_lt, Int32.le_iff_toInt_le, ← Int32.toInt_inj, ne_eq, oHT, oNU, oNN] at *
  all_goals (have := oA nge13 xd0; have := oA nge31 xd1; have := oLi; omega)
theorem ar62 (h0 : oHT xN xg xe) (h1 : (xN.toInt = 16 ∧ (xN.toInt - (xe.toInt - xg.toInt)) ≤ 1) ∨ xN.toInt = 32) (h2 : 0 ≤ xi0.toInt ∧ 0 ≤ xd0.toInt ∧ xi0.toInt + xd0.toInt ≤ (xN.toInt - (xe.toInt - xg.toInt))) (h3 : 0 ≤ xi1.toInt ∧ 0 ≤ xd1.toInt ∧ xi1.toInt + xd1.toInt ≤ (xN.toInt - (xe.toInt - xg.toInt)) - xd0.toInt + xn0.toInt) (h4 : oNU xn0 xu0 xw0) (h5 : oNU xn1 xu1 xw1) (h6 : nge13.toInt = xi0.toInt + (xe.toInt - xg.toInt)) (h7 : oHT nN_0 xi0 nge_0) (h8 : nN_0.toInt - nge_0.toInt = xN.toInt - (nge13 + xd0).toInt) (h9 : xn0.toInt ≤ nge_0.toInt - xi0.toInt) (h10 : nN_0.toInt = xN.toInt ∨ oNN xN nN_0) (h11 : (xw0.toInt = 1 ∧ xi_22.toInt + (0 : Nat) = xn0.toInt) ∨ (xw0.toInt = 2 ∧ xi_22.toInt + (0 : Nat) + (0 : Nat) = 2)) (h12 : 0 ≤ xi_22.toInt) (h13 : gi_22.toInt + (0 : Nat) = xi0.toInt + xn0.toInt) (h14 : nge31.toInt = xi1.toInt + (nge_0.toInt - gi_22.toInt)) (h15 : oHT nN_1 xi1 nge_1) (h16 : nN_1.toInt - nge_1.toInt = nN_0.toInt - (nge31 + xd1).toInt) (h17 : xn1.toInt ≤ nge_1.toInt - xi1.toInt) (h18 : nN_1.toInt = nN_0.toInt ∨ oNN nN_0 nN_1) (h19 : (xw1.toInt = 1 ∧ xi_40.toInt + (0 : Nat) = xn1.toInt) ∨ (xw1.toInt = 2 ∧ xi_40.toInt + (0 : Nat) + (0 : Nat) = 2)) (h20 : 0 ≤ xi_40.toInt) (h21 : gi_40.toInt + (0 : Nat) = xi1.toInt + xn1.toInt) : oHT nN_1 gi_40 nge_1 := by
  try simp only [Int32.lt_iff_toInt_lt, Int32.le_iff_toInt_le, ← Int32.toInt_inj, ne_eq, oHT, oNU, oNN] at *
  all_goals (have := oA nge13 xd0; have := oA nge31 xd1; have := oLi; omega)
theorem ar63 (h0 : oHT xN xg xe) (h1 : (xN.toInt = 16 ∧ (xN.toInt - (xe.toInt - xg.toInt)) ≤ 1) ∨ xN.toInt = 32) (h2 : 0 ≤ xi0.toInt ∧ 0 ≤ xd0.toInt ∧ xi0.toInt + xd0.toInt ≤ (xN.toInt - (xe.toInt - xg.toInt))) (h3 : 0 ≤ xi1.toInt ∧ 0 ≤ xd1.toInt ∧ xi1.toInt + xd1.toInt ≤ (xN.toInt - (xe.toInt - xg.toInt)) - xd0.toInt + xn0.toInt) (h4 : oNU xn0 xu0 xw0) (h5 : oNU xn1 xu1 xw1) (h6 : nge13.toInt = xi0.toInt + (xe.toInt - xg.toInt)) (h7 : oHT nN_0 xi0 nge_0) (h8 : nN_0.toInt - nge_0.toInt = xN.toInt - (nge13 + xd0).toInt) (h9 : xn0.toInt ≤ nge_0.toInt - xi0.toInt) (h10 : nN_0.toInt = xN.toInt ∨ oNN xN nN_0) (h11 : (xw0.toInt = 1 ∧ xi_22.toInt + (0 : Nat) = xn0.toInt) ∨ (xw0.toInt = 2 ∧ xi_22.toInt + (0 : Nat) + (0 : Nat) = 2)) (h12 : 0 ≤ xi_22.toInt) (h13 : gi_22.toInt + (0 : Nat) = xi0.toInt + xn0.toInt) (h14 : nge31.toInt = xi1.toInt + (nge_0.toInt - gi_22.toInt)) (h15 : oHT nN_1 xi1 nge_1) (h16 : nN_1.toInt - nge_1.toInt = nN_0.toInt - (nge31 + xd1).toInt) (h17 : xn1.toInt ≤ nge_1.toInt - xi1.toInt) (h18 : nN_1.toInt = nN_0.toInt ∨ oNN nN_0 nN_1) (h19 : (xw1.toInt = 1 ∧ xi_40.toInt + (0 : Nat) = xn1.toInt) ∨ (xw1.toInt = 2 ∧ xi_40.toInt + (0 : Nat) + (0 : Nat) = 2)) (h20 : 0 ≤ xi_40.toInt) (h21 : gi_40.toInt + (0 : Nat) = xi1.toInt + xn1.toInt) : nN_1.toInt - (nge_1.toInt - gi_40.toInt) = (xN.toInt - (xe.toInt - xg.toInt)) - xd0.toInt + xn0.toInt - xd1.toInt + xn1.toInt := by
  try simp only [Int32.lt_iff_toInt_lt, Int32.le_iff_toInt_le, ← Int32.toInt_inj, ne_eq, oHT, oNU, oNN] at *
  all_goals (have := oA nge13 xd0; have := oA nge31 xd1; have := oLi; omega)
theorem ar64 (h0 : oHT xN xg xe) (h1 : (xN.toInt = 16 ∧ (xN.toInt - (xe.toInt - xg.toInt)) ≤ 1) ∨ xN.toInt = 32) (h2 : 0 ≤ xi0.toInt ∧ 0 ≤ xd0.toInt ∧ xi0.toInt + xd0.toInt ≤ (xN.toInt - (xe.toInt - xg.toInt))) (h3 : 0 ≤ xi1.toInt ∧ 0 ≤ xd1.toInt ∧ xi1.toInt + xd1.toInt ≤ (xN.toInt - (xe.toInt - xg.toInt)) - xd0.toInt + xn0.toInt) (h4 : oNU xn0 xu0 xw0) (h5 : oNU xn1 xu1 xw1) (h6 : nge13.toInt = xi0.toInt + (xe.toInt - xg.toInt)) (h7 : oHT nN_0 xi0 nge_0) (h8 : nN_0.toInt - nge_0.toInt = xN.toInt - (nge13 + xd0).toInt) (h9 : xn0.toInt ≤ nge_0.toInt - xi0.toInt) (h10 : nN_0.toInt = xN.toInt ∨ oNN xN nN_0) (h11 : (xw0.toInt = 1 ∧ xi_22.toInt + (0 : Nat) = xn0.toInt) ∨ (xw0.toInt = 2 ∧ xi_22.toInt + (0 : Nat) + (0 : Nat) = 2)) (h12 : 0 ≤ xi_22.toInt) (h13 : gi_22.toInt + (0 : Nat) = xi0.toInt + xn0.toInt) (h14 : nge31.toInt = xi1.toInt + (nge_0.toInt - gi_22.toInt)) (h15 : oHT nN_1 xi1 nge_1) (h16 : nN_1.toInt - nge_1.toInt = nN_0.toInt - (nge31 + xd1).toInt) (h17 : xn1.toInt ≤ nge_1.toInt - xi1.toInt) (h18 : nN_1.toInt = nN_0.toInt ∨ oNN nN_0 nN_1) (h19 : (xw1.toInt = 1 ∧ xi_40.toInt + (d + 1 : Nat) = xn1.toInt) ∨ (xw1.toInt = 2 ∧ xi_40.toInt + (d + 1 : Nat) + (d + 1 : Nat) = 2)) (h20 : 0 ≤ xi_40.toInt) (h21 : gi_40.toInt + (d + 1 : Nat) = xi1.toInt + xn1.toInt) : xi_40 < xu1 := by
  try simp only [Int32.lt_iff_toInt_lt, Int32.le_iff_toInt_le, ← Int32.toInt_inj, ne_eq, oHT, oNU, oNN] at *
  all_goals (have := oA nge13 xd0; have := oA nge31 xd1; have := oLi; omega)
theorem ar65 (h0 : oHT xN xg xe) (h1 : (xN.toInt = 16 ∧ (xN.toInt - (xe.toInt - xg.toInt)) ≤ 1) ∨ xN.toInt = 32) (h2 : 0 ≤ xi0.toInt ∧ 0 ≤ xd0.toInt ∧ xi0.toInt + xd0.toInt ≤ (xN.toInt - (xe.toInt - xg.toInt))) (h3 : 0 ≤ xi1.toInt ∧ 0 ≤ xd1.toInt ∧ xi1.toInt + xd1.toInt ≤ (xN.toInt - (xe.toInt - xg.toInt)) - xd0.toInt + xn0.toInt) (h4 : oNU xn0 xu0 xw0) (h5 : oNU xn1 xu1 xw1) (h6 : nge13.toInt = xi0.toInt + (xe.toInt - xg.toInt)) (h7 : oHT nN_0 xi0 nge_0) (h8 : nN_0.toInt - nge_0.toInt = xN.toInt - (nge13 + xd0).toInt) (h9 : xn0.toInt ≤ nge_0.toInt - xi0.toInt) (h10 : nN_0.toInt = xN.toInt ∨ oNN xN nN_0) (h11 : (xw0.toInt = 1 ∧ xi_22.toInt + (0 : Nat) = xn0.toInt) ∨ (xw0.toInt = 2 ∧ xi_22.toInt + (0 : Nat) + (0 : Nat) = 2)) (h12 : 0 ≤ xi_22.toInt) (h13 : gi_22.toInt + (0 : Nat) = xi0.toInt + xn0.toInt) (h14 : nge31.toInt = xi1.toInt + (nge_0.toInt - gi_22.toInt)) (h15 : oHT nN_1 xi1 nge_1) (h16 : nN_1.toInt - nge_1.toInt = nN_0.toInt - (nge31 + xd1).toInt) (h17 : xn1.toInt ≤ nge_1.toInt - xi1.toInt) (h18 : nN_1.toInt = nN_0.toInt ∨ oNN nN_0 nN_1) (h19 : (xw1.toInt = 1 ∧ xi_40.toInt + (d + 1 : Nat) = xn1.toInt) ∨ (xw1.toInt = 2 ∧ xi_40.toInt + (d + 1 : Nat) + (d + 1 : Nat) = 2)) (h20 : 0 ≤ xi_40.toInt) (h21 : gi_40.toInt + (d + 1 : Nat) = xi1.toInt + xn1.toInt) : ¬ gi_40 < (0 : Int32) ∧ gi_40 < nN_1 := by
  try simp only [Int32.lt_iff_toInt_lt, Int32.le_iff_toInt_le, ← Int32.toInt_inj, ne_eq, oHT, oNU, oNN] at *
  all_goals (have := oA nge13 xd0; have := oA nge31 xd1; have := oLi; omega)
theorem ar66 (h0 : oHT xN xg xe) (h1 : (xN.toInt = 16 ∧ (xN.toInt - (xe.toInt - xg.toInt)) ≤ 1) ∨ xN.toInt = 32) (h2 : 0 ≤ xi0.toInt ∧ 0 ≤ xd0.toInt ∧ xi0.toInt + xd0.toInt ≤ (xN.toInt - (xe.toInt - xg.toInt))) (h3 : 0 ≤ xi1.toInt ∧ 0 ≤ xd1.toInt ∧ xi1.toInt + xd1.toInt ≤ (xN.toInt - (xe.toInt - xg.toInt)) - xd0.toInt + xn0.toInt) (h4 : oNU xn0 xu0 xw0) (h5 : oNU xn1 xu1 xw1) (h6 : nge13.toInt = xi0.toInt + (xe.toInt - xg.toInt)) (h7 : oHT nN_0 xi0 nge_0) (h8 : nN_0.toInt - nge_0.toInt = xN.toInt - (nge13 + xd0).toInt) (h9 : xn0.toInt ≤ nge_0.toInt - xi0.toInt) (h10 : nN_0.toInt = xN.toInt ∨ oNN xN nN_0) (h11 : (xw0.toInt = 1 ∧ xi_22.toInt + (0 : Nat) = xn0.toInt) ∨ (xw0.toInt = 2 ∧ xi_22.toInt + (0 : Nat) + (0 : Nat) = 2)) (h12 : 0 ≤ xi_22.toInt) (h13 : gi_22.toInt + (0 : Nat) = xi0.toInt + xn0.toInt) (h14 : nge31.toInt = xi1.toInt + (nge_0.toInt - gi_22.toInt)) (h15 : oHT nN_1 xi1 nge_1) (h16 : nN_1.toInt - nge_1.toInt = nN_0.toInt - (nge31 + xd1).toInt) (h17 : xn1.toInt ≤ nge_1.toInt - xi1.toInt) (h18 : nN_1.toInt = nN_0.toInt ∨ oNN nN_0 nN_1) (h19 : (xw1.toInt = 1 ∧ xi_40.toInt + (d + 1 : Nat) = xn1.toInt) ∨ (xw1.toInt = 2 ∧ xi_40.toInt + (d + 1 : Nat) + (d + 1 : Nat) = 2)) (h20 : 0 ≤ xi_40.toInt) (h21 : gi_40.toInt + (d + 1 : Nat) = xi1.toInt + xn1.toInt) : (xw1.toInt = 1 ∧ 0 ≤ xi_40.toInt ∧ xi_40.toInt < xu1.toInt) ∨ (xw1.toInt = 2 ∧ xi_40.toInt = 0) := by
  try simp only [Int32.lt_iff_toInt_lt, Int32.le_iff_toInt_le, ← Int32.toInt_inj, ne_eq, oHT, oNU, oNN] at *
  all_goals (have := oA nge13 xd0; have := oA nge31 xd1; have := oLi; omega)
theorem ar67 (h0 : oHT xN xg xe) (h1 : (xN.toInt = 16 ∧ (xN.toInt - (xe.toInt - xg.toInt)) ≤ 1) ∨ xN.toInt = 32) (h2 : 0 ≤ xi0.toInt ∧ 0 ≤ xd0.toInt ∧ xi0.toInt + xd0.toInt ≤ (xN.toInt - (xe.toInt - xg.toInt))) (h3 : 0 ≤ xi1.toInt ∧ 0 ≤ xd1.toInt ∧ xi1.toInt + xd1.toInt ≤ (xN.toInt - (xe.toInt - xg.toInt)) - xd0.toInt + xn0.toInt) (h4 : oNU xn0 xu0 xw0) (h5 : oNU xn1 xu1 xw1) (h6 : nge13.toInt = xi0.toInt + (xe.toInt - xg.toInt)) (h7 : oHT nN_0 xi0 nge_0) (h8 : nN_0.toInt - nge_0.toInt = xN.toInt - (nge13 + xd0).toInt) (h9 : xn0.toInt ≤ nge_0.toInt - xi0.toInt) (h10 : nN_0.toInt = xN.toInt ∨ oNN xN nN_0) (h11 : (xw0.toInt = 1 ∧ xi_22.toInt + (0 : Nat) = xn0.toInt) ∨ (xw0.toInt = 2 ∧ xi_22.toInt + (0 : Nat) + (0 : Nat) = 2)) (h12 : 0 ≤ xi_22.toInt) (h13 : gi_22.toInt + (0 : Nat) = xi0.toInt + xn0.toInt) (h14 : nge31.toInt = xi1.toInt + (nge_0.toInt - gi_22.toInt)) (h15 : oHT nN_1 xi1 nge_1) (h16 : nN_1.toInt - nge_1.toInt = nN_0.toInt - (nge31 + xd1).toInt) (h17 : xn1.toInt ≤ nge_1.toInt - xi1.toInt) (h18 : nN_1.toInt = nN_0.toInt ∨ oNN nN_0 nN_1) (h19 : (xw1.toInt = 1 ∧ xi_40.toInt + (d + 1 : Nat) = xn1.toInt) ∨ (xw1.toInt = 2 ∧ xi_40.toInt + (d + 1 : Nat) + (d + 1 : Nat) = 2)) (h20 : 0 ≤ xi_40.toInt) (h21 : gi_40.toInt + (d + 1 : Nat) = xi1.toInt + xn1.toInt) : (xw1.toInt = 1 ∧ (xi_40 + xw1).toInt + d = xn1.toInt) ∨ (xw1.toInt = 2 ∧ (xi_40 + xw1).toInt + d + d = 2) := by
  try simp only [Int32.lt_iff_toInt_lt, Int32.le_iff_toInt_le, ← Int32.toInt_inj, ne_eq, oHT, oNU, oNN] at *
  all_goals (have := oA xi_40 xw1; have := oA nge13 xd0; have := oA nge31 xd1; have := oLi; omega)
theorem ar68 (h0 : oHT xN xg xe) (h1 : (xN.toInt = 16 ∧ (xN.toInt - (xe.toInt - xg.toInt)) ≤ 1) ∨ xN.toInt = 32) (h2 : 0 ≤ xi0.toInt ∧ 0 ≤ xd0.toInt ∧ xi0.toInt + xd0.toInt ≤ (xN.toInt - (xe.toInt - xg.toInt))) (h3 : 0 ≤ xi1.toInt ∧ 0 ≤ xd1.toInt ∧ xi1.toInt + xd1.toInt ≤ (xN.toInt - (xe.toInt - xg.toInt)) - xd0.toInt + xn0.toInt) (h4 : oNU xn0 xu0 xw0) (h5 : oNU xn1 xu1 xw1) (h6 : nge13.toInt = xi0.toInt + (xe.toInt - xg.toInt)) (h7 : oHT nN_0 xi0 nge_0) (h8 : nN_0.toInt - nge_0.toInt = xN.toInt - (nge13 + xd0).toInt) (h9 : xn0.toInt ≤ nge_0.toInt - xi0.toInt) (h10 : nN_0.toInt = xN.toInt ∨ oNN xN nN_0) (h11 : (xw0.toInt = 1 ∧ xi_22.toInt + (0 : Nat) = xn0.toInt) ∨ (xw0.toInt = 2 ∧ xi_22.toInt + (0 : Nat) + (0 : Nat) = 2)) (h12 : 0 ≤ xi_22.toInt) (h13 : gi_22.toInt + (0 : Nat) = xi0.toInt + xn0.toInt) (h14 : nge31.toInt = xi1.toInt + (nge_0.toInt - gi_22.toInt)) (h15 : oHT nN_1 xi1 nge_1) (h16 : nN_1.toInt - nge_1.toInt = nN_0.toInt - (nge31 + xd1).toInt) (h17 : xn1.toInt ≤ nge_1.toInt - xi1.toInt) (h18 : nN_1.toInt = nN_0.toInt ∨ oNN nN_0 nN_1) (h19 : (xw1.toInt = 1 ∧ xi_40.toInt + (d + 1 : Nat) = xn1.toInt) ∨ (xw1.toInt = 2 ∧ xi_40.toInt + (d + 1 : Nat) + (d + 1 : Nat) = 2)) (h20 : 0 ≤ xi_40.toInt) (h21 : gi_40.toInt + (d + 1 : Nat) = xi1.toInt + xn1.toInt) : 0 ≤ (xi_40 + xw1).toInt := by
  try simp only [Int32.lt_iff_toInt_lt, Int32.le_iff_toInt_le, ← Int32.toInt_inj, ne_eq, oHT, oNU, oNN] at *
  all_goals (have := oA xi_40 xw1; have := oA nge13 xd0; have := oA nge31 xd1; have := oLi; omega)
theorem ar69 (h0 : oHT xN xg xe) (h1 : (xN.toInt = 16 ∧ (xN.toInt - (xe.toInt - xg.toInt)) ≤ 1) ∨ xN.toInt = 32) (h2 : 0 ≤ xi0.toInt ∧ 0 ≤ xd0.toInt ∧ xi0.toInt + xd0.toInt ≤ (xN.toInt - (xe.toInt - xg.toInt))) (h3 : 0 ≤ xi1.toInt ∧ 0 ≤ xd1.toInt ∧ xi1.toInt + xd1.toInt ≤ (xN.toInt - (xe.toInt - xg.toInt)) - xd0.toInt + xn0.toInt) (h4 : oNU xn0 xu0 xw0) (h5 : oNU xn1 xu1 xw1) (h6 : nge13.toInt = xi0.toInt + (xe.toInt - xg.toInt)) (h7 : oHT nN_0 xi0 nge_0) (h8 : nN_0.toInt - nge_0.toInt = xN.toInt - (nge13 + xd0).toInt) (h9 : xn0.toInt ≤ nge_0.toInt - xi0.toInt) (h10 : nN_0.toInt = xN.toInt ∨ oNN xN nN_0) (h11 : (xw0.toInt = 1 ∧ xi_22.toInt + (0 : Nat) = xn0.toInt) ∨ (xw0.toInt = 2 ∧ xi_22.toInt + (0 : Nat) + (0 : Nat) = 2)) (h12 : 0 ≤ xi_22.toInt) (h13 : gi_22.toInt + (0 : Nat) = xi0.toInt + xn0.toInt) (h14 : nge31.toInt = xi1.toInt + (nge_0.toInt - gi_22.toInt)) (h15 : oHT nN_1 xi1 nge_1) (h16 : nN_1.toInt - nge_1.toInt = nN_0.toInt - (nge31 + xd1).toInt) (h17 : xn1.toInt ≤ nge_1.toInt - xi1.toInt) (h18 : nN_1.toInt = nN_0.toInt ∨ oNN nN_0 nN_1) (h19 : (xw1.toInt = 1 ∧ xi_40.toInt + (d + 1 : Nat) = xn1.toInt) ∨ (xw1.toInt = 2 ∧ xi_40.toInt + (d + 1 : Nat) + (d + 1 : Nat) = 2)) (h20 : 0 ≤ xi_40.toInt) (h21 : gi_40.toInt + (d + 1 : Nat) = xi1.toInt + xn1.toInt) : (gi_40 + (1 : Int32)).toInt + d = xi1.toInt + xn1.toInt := by
  try simp only [Int32.lt_iff_toInt_lt, Int32.le_iff_toInt_le, ← Int32.toInt_inj, ne_eq, oHT, oNU, oNN] at *
  all_goals (have := oA gi_40 (1 : Int32); have := oA nge13 xd0; have := oA nge31 xd1; have := oLi; omega)
theorem ar70 (h0 : oHT xN xg xe) (h1 : (xN.toInt = 16 ∧ (xN.toInt - (xe.toInt - xg.toInt)) ≤ 1) ∨ xN.toInt = 32) (h2 : 0 ≤ xi0.toInt ∧ 0 ≤ xd0.toInt ∧ xi0.toInt + xd0.toInt ≤ (xN.toInt - (xe.toInt - xg.toInt))) (h3 : 0 ≤ xi1.toInt ∧ 0 ≤ xd1.toInt ∧ xi1.toInt + xd1.toInt ≤ (xN.toInt - (xe.toInt - xg.toInt)) - xd0.toInt + xn0.toInt) (h4 : oNU xn0 xu0 xw0) (h5 : oNU xn1 xu1 xw1) (h6 : nge13.toInt = xi0.toInt + (xe.toInt - xg.toInt)) (h7 : oHT nN_0 xi0 nge_0) (h8 : nN_0.toInt - nge_0.toInt = xN.toInt - (nge13 + xd0).toInt) (h9 : xn0.toInt ≤ nge_0.toInt - xi0.toInt) (h10 : nN_0.toInt = xN.toInt ∨ oNN xN nN_0) (h11 : (xw0.toInt = 1 ∧ xi_22.toInt + (0 : Nat) = xn0.toInt) ∨ (xw0.toInt = 2 ∧ xi_22.toInt + (0 : Nat) + (0 : Nat) = 2)) (h12 : 0 ≤ xi_22.toInt) (h13 : gi_22.toInt + (0 : Nat) = xi0.toInt + xn0.toInt) (h14 : nge31.toInt = xi1.toInt + (nge_0.toInt - gi_22.toInt)) (h15 : ((nge31 + xd1) - xi1) < xn1) : nN_0 = (16 : Int32) ∨ nN_0 = (32 : Int32) ∨ nN_0 = (64 : Int32) := by
  try simp only [Int32.lt_iff_toInt_lt, Int32.le_iff_toInt_le, ← Int32.toInt_inj, ne_eq, oHT, oNU, oNN] at *
  all_goals (have := oA nge13 xd0; have := oA nge31 xd1; have := oD (nge31 + xd1) xi1; have := oLi; omega)
theorem ar71 (h0 : oHT xN xg xe) (h1 : (xN.toInt = 16 ∧ (xN.toInt - (xe.toInt - xg.toInt)) ≤ 1) ∨ xN.toInt = 32) (h2 : 0 ≤ xi0.toInt ∧ 0 ≤ xd0.toInt ∧ xi0.toInt + xd0.toInt ≤ (xN.toInt - (xe.toInt - xg.toInt))) (h3 : 0 ≤ xi1.toInt ∧ 0 ≤ xd1.toInt ∧ xi1.toInt + xd1.toInt ≤ (xN.toInt - (xe.toInt - xg.toInt)) - xd0.toInt + xn0.toInt) (h4 : oNU xn0 xu0 xw0) (h5 : oNU xn1 xu1 xw1) (h6 : nge13.toInt = xi0.toInt + (xe.toInt - xg.toInt)) (h7 : oHT nN_0 xi0 nge_0) (h8 : nN_0.toInt - nge_0.toInt = xN.toInt - (nge13 + xd0).toInt) (h9 : xn0.toInt ≤ nge_0.toInt - xi0.toInt) (h10 : nN_0.toInt = xN.toInt ∨ oNN xN nN_0) (h11 : (xw0.toInt = 1 ∧ xi_22.toInt + (0 : Nat) = xn0.toInt) ∨ (xw0.toInt = 2 ∧ xi_22.toInt + (0 : Nat) + (0 : Nat) = 2)) (h12 : 0 ≤ xi_22.toInt) (h13 : gi_22.toInt + (0 : Nat) = xi0.toInt + xn0.toInt) (h14 : nge31.toInt = xi1.toInt + (nge_0.toInt - gi_22.toInt)) (h15 : ((nge31 + xd1) - xi1) < xn1) : oHT nN_0 xi1 (nge31 + xd1) := by
  try simp only [Int32.lt_iff_toInt_lt, Int32.le_iff_toInt_le, ← Int32.toInt_inj, ne_eq, oHT, oNU, oNN] at *
  all_goals (have := oA nge31 xd1; have := oA nge13 xd0; have := oD (nge31 + xd1) xi1; have := oLi; omega)
theorem ar72 (h0 : oHT xN xg xe) (h1 : (xN.toInt = 16 ∧ (xN.toInt - (xe.toInt - xg.toInt)) ≤ 1) ∨ xN.toInt = 32) (h2 : 0 ≤ xi0.toInt ∧ 0 ≤ xd0.toInt ∧ xi0.toInt + xd0.toInt ≤ (xN.toInt - (xe.toInt - xg.toInt))) (h3 : 0 ≤ xi1.toInt ∧ 0 ≤ xd1.toInt ∧ xi1.toInt + xd1.toInt ≤ (xN.toInt - (xe.toInt - xg.toInt)) - xd0.toInt + xn0.toInt) (h4 : oNU xn0 xu0 xw0) (h5 : oNU xn1 xu1 xw1) (h6 : nge13.toInt = xi0.toInt + (xe.toInt - xg.toInt)) (h7 : oHT nN_0 xi0 nge_0) (h8 : nN_0.toInt - nge_0.toInt = xN.toInt - (nge13 + xd0).toInt) (h9 : xn0.toInt ≤ nge_0.toInt - xi0.toInt) (h10 : nN_0.toInt = xN.toInt ∨ oNN xN nN_0) (h11 : (xw0.toInt = 1 ∧ xi_22.toInt + (0 : Nat) = xn0.toInt) ∨ (xw0.toInt = 2 ∧ xi_22.toInt + (0 : Nat) + (0 : Nat) = 2)) (h12 : 0 ≤ xi_22.toInt) (h13 : gi_22.toInt + (0 : Nat) = xi0.toInt + xn0.toInt) (h14 : nge31.toInt = xi1.toInt + (nge_0.toInt - gi_22.toInt)) (h15 : ((nge31 + xd1) - xi1) < xn1) : ((nN_0 - ((nge31 + xd1) - xi1)) + xn1).toInt ≤ nN_0.toInt + nN_0.toInt := by
  try simp only [Int32.lt_iff_toInt_lt, Int32.le_iff_toInt_le, ← Int32.toInt_inj, ne_eq, oHT, oNU, oNN] at *
  all_goals (have := oA nge31 xd1; have := oD (nge31 + xd1) xi1; have := oD nN_0 ((nge31 + xd1) - xi1); have := oA (nN_0 - ((nge31 + xd1) - xi1)) xn1; have := oA nge13 xd0; have := oLi; omega)
theorem ar73 (h0 : oHT xN xg xe) (h1 : (xN.toInt = 16 ∧ (xN.toInt - (xe.toInt - xg.toInt)) ≤ 1) ∨ xN.toInt = 32) (h2 : 0 ≤ xi0.toInt ∧ 0 ≤ xd0.toInt ∧ xi0.toInt + xd0.toInt ≤ (xN.toInt - (xe.toInt - xg.toInt))) (h3 : 0 ≤ xi1.toInt ∧ 0 ≤ xd1.toInt ∧ xi1.toInt + xd1.toInt ≤ (xN.toInt - (xe.toInt - xg.toInt)) - xd0.toInt + xn0.toInt) (h4 : oNU xn0 xu0 xw0) (h5 : oNU xn1 xu1 xw1) (h6 : nge13.toInt = xi0.toInt + (xe.toInt - xg.toInt)) (h7 : oHT nN_0 xi0 nge_0) (h8 : nN_0.toInt - nge_0.toInt = xN.toInt - (nge13 + xd0).toInt) (h9 : xn0.toInt ≤ nge_0.toInt - xi0.toInt) (h10 : nN_0.toInt = xN.toInt ∨ oNN xN nN_0) (h11 : (xw0.toInt = 1 ∧ xi_22.toInt + (0 : Nat) = xn0.toInt) ∨ (xw0.toInt = 2 ∧ xi_22.toInt + (0 : Nat) + (0 : Nat) = 2)) (h12 : 0 ≤ xi_22.toInt) (h13 : gi_22.toInt + (0 : Nat) = xi0.toInt + xn0.toInt) (h14 : nge31.toInt = xi1.toInt + (nge_0.toInt - gi_22.toInt)) (h15 : ((nge31 + xd1) - xi1) < xn1) (h16 : oNN nN_0 nN57) (h17 : nge57.toInt = nN57.toInt - (nN_0.toInt - (nge31 + xd1).toInt)) : oHT nN57 xi1 nge57 := by
  try simp only [Int32.lt_iff_toInt_lt, Int32.le_iff_toInt_le, ← Int32.toInt_inj, ne_eq, oHT, oNU, oNN] at *
  all_goals (have := oA nge13 xd0; have := oA nge31 xd1; have := oD (nge31 + xd1) xi1; have := oLi; omega)
theorem ar74 (h0 : oHT xN xg xe) (h1 : (xN.toInt = 16 ∧ (xN.toInt - (xe.toInt - xg.toInt)) ≤ 1) ∨ xN.toInt = 32) (h2 : 0 ≤ xi0.toInt ∧ 0 ≤ xd0.toInt ∧ xi0.toInt + xd0.toInt ≤ (xN.toInt - (xe.toInt - xg.toInt))) (h3 : 0 ≤ xi1.toInt ∧ 0 ≤ xd1.toInt ∧ xi1.toInt + xd1.toInt ≤ (xN.toInt - (xe.toInt - xg.toInt)) - xd0.toInt + xn0.toInt) (h4 : oNU xn0 xu0 xw0) (h5 : oNU xn1 xu1 xw1) (h6 : nge13.toInt = xi0.toInt + (xe.toInt - xg.toInt)) (h7 : oHT nN_0 xi0 nge_0) (h8 : nN_0.toInt - nge_0.toInt = xN.toInt - (nge13 + xd0).toInt) (h9 : xn0.toInt ≤ nge_0.toInt - xi0.toInt) (h10 : nN_0.toInt = xN.toInt ∨ oNN xN nN_0) (h11 : (xw0.toInt = 1 ∧ xi_22.toInt + (0 : Nat) = xn0.toInt) ∨ (xw0.toInt = 2 ∧ xi_22.toInt + (0 : Nat) + (0 : Nat) = 2)) (h12 : 0 ≤ xi_22.toInt) (h13 : gi_22.toInt + (0 : Nat) = xi0.toInt + xn0.toInt) (h14 : nge31.toInt = xi1.toInt + (nge_0.toInt - gi_22.toInt)) (h15 : ((nge31 + xd1) - xi1) < xn1) (h16 : oNN nN_0 nN57) (h17 : nge57.toInt = nN57.toInt - (nN_0.toInt - (nge31 + xd1).toInt)) : nN57.toInt - nge57.toInt = nN_0.toInt - (nge31 + xd1).toInt := by
  try simp only [Int32.lt_iff_toInt_lt, Int32.le_iff_toInt_le, ← Int32.toInt_inj, ne_eq, oHT, oNU, oNN] at *
  all_goals (have := oA nge31 xd1; have := oA nge13 xd0; have := oD (nge31 + xd1) xi1; have := oLi; omega)
theorem ar75 (h0 : oHT xN xg xe) (h1 : (xN.toInt = 16 ∧ (xN.toInt - (xe.toInt - xg.toInt)) ≤ 1) ∨ xN.toInt = 32) (h2 : 0 ≤ xi0.toInt ∧ 0 ≤ xd0.toInt ∧ xi0.toInt + xd0.toInt ≤ (xN.toInt - (xe.toInt - xg.toInt))) (h3 : 0 ≤ xi1.toInt ∧ 0 ≤ xd1.toInt ∧ xi1.toInt + xd1.toInt ≤ (xN.toInt - (xe.toInt - xg.toInt)) - xd0.toInt + xn0.toInt) (h4 : oNU xn0 xu0 xw0) (h5 : oNU xn1 xu1 xw1) (h6 : nge13.toInt = xi0.toInt + (xe.toInt - xg.toInt)) (h7 : oHT nN_0 xi0 nge_0) (h8 : nN_0.toInt - nge_0.toInt = xN.toInt - (nge13 + xd0).toInt) (h9 : xn0.toInt ≤ nge_0.toInt - xi0.toInt) (h10 : nN_0.toInt = xN.toInt ∨ oNN xN nN_0) (h11 : (xw0.toInt = 1 ∧ xi_22.toInt + (0 : Nat) = xn0.toInt) ∨ (xw0.toInt = 2 ∧ xi_22.toInt + (0 : Nat) + (0 : Nat) = 2)) (h12 : 0 ≤ xi_22.toInt) (h13 : gi_22.toInt + (0 : Nat) = xi0.toInt + xn0.toInt) (h14 : nge31.toInt = xi1.toInt + (nge_0.toInt - gi_22.toInt)) (h15 : ((nge31 + xd1) - xi1) < xn1) (h16 : oNN nN_0 nN57) (h17 : nge57.toInt = nN57.toInt - (nN_0.toInt - (nge31 + xd1).toInt)) : xn1.toInt ≤ nge57.toInt - xi1.toInt := by
  try simp only [Int32.lt_iff_toInt_lt, Int32.le_iff_toInt_le, ← Int32.toInt_inj, ne_eq, oHT, oNU, oNN] at *
  all_goals (have := oA nge13 xd0; have := oA nge31 xd1; have := oD (nge31 + xd1) xi1; have := oLi; omega)
theorem ar76 (h0 : oHT xN xg xe) (h1 : (xN.toInt = 16 ∧ (xN.toInt - (xe.toInt - xg.toInt)) ≤ 1) ∨ xN.toInt = 32) (h2 : 0 ≤ xi0.toInt ∧ 0 ≤ xd0.toInt ∧ xi0.toInt + xd0.toInt ≤ (xN.toInt - (xe.toInt - xg.toInt))) (h3 : 0 ≤ xi1.toInt ∧ 0 ≤ xd1.toInt ∧ xi1.toInt + xd1.toInt ≤ (xN.toInt - (xe.toInt - xg.toInt)) - xd0.toInt + xn0.toInt) (h4 : oNU xn0 xu0 xw0) (h5 : oNU xn1 xu1 xw1) (h6 : nge13.toInt = xi0.toInt + (xe.toInt - xg.toInt)) (h7 : oHT nN_0 xi0 nge_0) (h8 : nN_0.toInt - nge_0.toInt = xN.toInt - (nge13 + xd0).toInt) (h9 : xn0.toInt ≤ nge_0.toInt - xi0.toInt) (h10 : nN_0.toInt = xN.toInt ∨ oNN xN nN_0) (h11 : (xw0.toInt = 1 ∧ xi_22.toInt + (0 : Nat) = xn0.toInt) ∨ (xw0.toInt = 2 ∧ xi_22.toInt + (0 : Nat) + (0 : Nat) = 2)) (h12 : 0 ≤ xi_22.toInt) (h13 : gi_22.toInt + (0 : Nat) = xi0.toInt + xn0.toInt) (h14 : nge31.toInt = xi1.toInt + (nge_0.toInt - gi_22.toInt)) (h15 : ((nge31 + xd1) - xi1) < xn1) (h16 : oNN nN_0 nN57) (h17 : nge57.toInt = nN57.toInt - (nN_0.toInt - (nge31 + xd1).toInt)) : nN57.toInt = nN_0.toInt ∨ oNN nN_0 nN57 := by
  try simp only [Int32.lt_iff_toInt_lt, Int32.le_iff_toInt_le, ← Int32.toInt_inj, ne_eq, oHT, oNU, oNN] at *
  all_goals (have := oA nge13 xd0; have := oA nge31 xd1; have := oD (nge31 + xd1) xi1; have := oLi; omega)
theorem ar77 (h0 : oHT xN xg xe) (h1 : (xN.toInt = 16 ∧ (xN.toInt - (xe.toInt - xg.toInt)) ≤ 1) ∨ xN.toInt = 32) (h2 : 0 ≤ xi0.toInt ∧ 0 ≤ xd0.toInt ∧ xi0.toInt + xd0.toInt ≤ (xN.toInt - (xe.toInt - xg.toInt))) (h3 : 0 ≤ xi1.toInt ∧ 0 ≤ xd1.toInt ∧ xi1.toInt + xd1.toInt ≤ (xN.toInt - (xe.toInt - xg.toInt)) - xd0.toInt + xn0.toInt) (h4 : oNU xn0 xu0 xw0) (h5 : oNU xn1 xu1 xw1) (h6 : nge13.toInt = xi0.toInt + (xe.toInt - xg.toInt)) (h7 : oHT nN_0 xi0 nge_0) (h8 : nN_0.toInt - nge_0.toInt = xN.toInt - (nge13 + xd0).toInt) (h9 : xn0.toInt ≤ nge_0.toInt - xi0.toInt) (h10 : nN_0.toInt = xN.toInt ∨ oNN xN nN_0) (h11 : (xw0.toInt = 1 ∧ xi_22.toInt + (0 : Nat) = xn0.toInt) ∨ (xw0.toInt = 2 ∧ xi_22.toInt + (0 : Nat) + (0 : Nat) = 2)) (h12 : 0 ≤ xi_22.toInt) (h13 : gi_22.toInt + (0 : Nat) = xi0.toInt + xn0.toInt) (h14 : nge31.toInt = xi1.toInt + (nge_0.toInt - gi_22.toInt)) (h15 : ¬ ((nge31 + xd1) - xi1) < xn1) : oHT nN_0 xi1 (nge31 + xd1) := by
  try simp only [Int32.lt_iff_toInt_lt, Int32.le_iff_toInt_le, ← Int32.toInt_inj, ne_eq, oHT, oNU, oNN] at *
  all_goals (have := oA nge31 xd1; have := oA nge13 xd0; have := oD (nge31 + xd1) xi1; have := oLi; omega)
theorem ar78 (h0 : oHT xN xg xe) (h1 : (xN.toInt = 16 ∧ (xN.toInt - (xe.toInt - xg.toInt)) ≤ 1) ∨ xN.toInt = 32) (h2 : 0 ≤ xi0.toInt ∧ 0 ≤ xd0.toInt ∧ xi0.toInt + xd0.toInt ≤ (xN.toInt - (xe.toInt - xg.toInt))) (h3 : 0 ≤ xi1.toInt ∧ 0 ≤ xd1.toInt ∧ xi1.toInt + xd1.toInt ≤ (xN.toInt - (xe.toInt - xg.toInt)) - xd0.toInt + xn0.toInt) (h4 : oNU xn0 xu0 xw0) (h5 : oNU xn1 xu1 xw1) (h6 : nge13.toInt = xi0.toInt + (xe.toInt - xg.toInt)) (h7 : oHT nN_0 xi0 nge_0) (h8 : nN_0.toInt - nge_0.toInt = xN.toInt - (nge13 + xd0).toInt) (h9 : xn0.toInt ≤ nge_0.toInt - xi0.toInt) (h10 : nN_0.toInt = xN.toInt ∨ oNN xN nN_0) (h11 : (xw0.toInt = 1 ∧ xi_22.toInt + (0 : Nat) = xn0.toInt) ∨ (xw0.toInt = 2 ∧ xi_22.toInt + (0 : Nat) + (0 : Nat) = 2)) (h12 : 0 ≤ xi_22.toInt) (h13 : gi_22.toInt + (0 : Nat) = xi0.toInt + xn0.toInt) (h14 : nge31.toInt = xi1.toInt + (nge_0.toInt - gi_22.toInt)) (h15 : ¬ ((nge31 + xd1) - xi1) < xn1) : xn1.toInt ≤ (nge31 + xd1).toInt - xi1.toInt := by
  try simp only [Int32.lt_iff_toInt_lt, Int32.le_iff_toInt_le, ← Int32.toInt_inj, ne_eq, oHT, oNU, oNN] at *
  all_goals (have := oA nge31 xd1; have := oA nge13 xd0; have := oD (nge31 + xd1) xi1; have := oLi; omega)
theorem ar79 (h0 : oHT xN xg xe) (h1 : (xN.toInt = 16 ∧ (xN.toInt - (xe.toInt - xg.toInt)) ≤ 1) ∨ xN.toInt = 32) (h2 : 0 ≤ xi0.toInt ∧ 0 ≤ xd0.toInt ∧ xi0.toInt + xd0.toInt ≤ (xN.toInt - (xe.toInt - xg.toInt))) (h3 : oNU xn0 xu0 xw0) (h4 : nge13.toInt = xi0.toInt + (xe.toInt - xg.toInt)) (h5 : oHT nN_0 xi0 nge_0) (h6 : nN_0.toInt - nge_0.toInt = xN.toInt - (nge13 + xd0).toInt) (h7 : xn0.toInt ≤ nge_0.toInt - xi0.toInt) (h8 : nN_0.toInt = xN.toInt ∨ oNN xN nN_0) (h9 : (xw0.toInt = 1 ∧ xi_22.toInt + (d + 1 : Nat) = xn0.toInt) ∨ (xw0.toInt = 2 ∧ xi_22.toInt + (d + 1 : Nat) + (d + 1 : Nat) = 2)) (h10 : 0 ≤ xi_22.toInt) (h11 : gi_22.toInt + (d + 1 : Nat) = xi0.toInt + xn0.toInt) : xi_22 < xu0 := by
  try simp only [Int32.lt_iff_toInt_lt, Int32.le_iff_toInt_le, ← Int32.toInt_inj, ne_eq, oHT, oNU, oNN] at *
  all_goals (have := oA nge13 xd0; have := oLi; omega)
theorem ar80 (h0 : oHT xN xg xe) (h1 : (xN.toInt = 16 ∧ (xN.toInt - (xe.toInt - xg.toInt)) ≤ 1) ∨ xN.toInt = 32) (h2 : 0 ≤ xi0.toInt ∧ 0 ≤ xd0.toInt ∧ xi0.toInt + xd0.toInt ≤ (xN.toInt - (xe.toInt - xg.toInt))) (h3 : oNU xn0 xu0 xw0) (h4 : nge13.toInt = xi0.toInt + (xe.toInt - xg.toInt)) (h5 : oHT nN_0 xi0 nge_0) (h6 : nN_0.toInt - nge_0.toInt = xN.toInt - (nge13 + xd0).toInt) (h7 : xn0.toInt ≤ nge_0.toInt - xi0.toInt) (h8 : nN_0.toInt = xN.toInt ∨ oNN xN nN_0) (h9 : (xw0.toInt = 1 ∧ xi_22.toInt + (d + 1 : Nat) = xn0.toInt) ∨ (xw0.toInt = 2 ∧ xi_22.toInt + (d + 1 : Nat) + (d + 1 : Nat) = 2)) (h10 : 0 ≤ xi_22.toInt) (h11 : gi_22.toInt + (d + 1 : Nat) = xi0.toInt + xn0.toInt) : ¬ gi_22 < (0 : Int32) ∧ gi_22 < nN_0 := by
  try simp only [Int32.lt_iff_toInt_lt, Int32.le_iff_toInt_le, ← Int32.toInt_inj, ne_eq, oHT, oNU, oNN] at *
  all_goals (have := oA nge13 xd0; have := oLi; omega)
theorem ar81 (h0 : oHT xN xg xe) (h1 : (xN.toInt = 16 ∧ (xN.toInt - (xe.toInt - xg.toInt)) ≤ 1) ∨ xN.toInt = 32) (h2 : 0 ≤ xi0.toInt ∧ 0 ≤ xd0.toInt ∧ xi0.toInt + xd0.toInt ≤ (xN.toInt - (xe.toInt - xg.toInt))) (h3 : oNU xn0 xu0 xw0) (h4 : nge13.toInt = xi0.toInt + (xe.toInt - xg.toInt)) (h5 : oHT nN_0 xi0 nge_0) (h6 : nN_0.toInt - nge_0.toInt = xN.toInt - (nge13 + xd0).toInt) (h7 : xn0.toInt ≤ nge_0.toInt - xi0.toInt) (h8 : nN_0.toInt = xN.toInt ∨ oNN xN nN_0) (h9 : (xw0.toInt = 1 ∧ xi_22.toInt + (d + 1 : Nat) = xn0.toInt) ∨ (xw0.toInt = 2 ∧ xi_22.toInt + (d + 1 : Nat) + (d + 1 : Nat) = 2)) (h10 : 0 ≤ xi_22.toInt) (h11 : gi_22.toInt + (d + 1 : Nat) = xi0.toInt + xn0.toInt) : (xw0.toInt = 1 ∧ 0 ≤ xi_22.toInt ∧ xi_22.toInt < xu0.toInt) ∨ (xw0.toInt = 2 ∧ xi_22.toInt = 0) := by
  try simp only [Int32.lt_iff_toInt_lt, Int32.le_iff_toInt_le, ← Int32.toInt_inj, ne_eq, oHT, oNU, oNN] at *
  all_goals (have := oA nge13 xd0; have := oLi; omega)
theorem ar82 (h0 : oHT xN xg xe) (h1 : (xN.toInt = 16 ∧ (xN.toInt - (xe.toInt - xg.toInt)) ≤ 1) ∨ xN.toInt = 32) (h2 : 0 ≤ xi0.toInt ∧ 0 ≤ xd0.toInt ∧ xi0.toInt + xd0.toInt ≤ (xN.toInt - (xe.toInt - xg.toInt))) (h3 : oNU xn0 xu0 xw0) (h4 : nge13.toInt = xi0.toInt + (xe.toInt - xg.toInt)) (h5 : oHT nN_0 xi0 nge_0) (h6 : nN_0.toInt - nge_0.toInt = xN.toInt - (nge13 + xd0).toInt) (h7 : xn0.toInt ≤ nge_0.toInt - xi0.toInt) (h8 : nN_0.toInt = xN.toInt ∨ oNN xN nN_0) (h9 : (xw0.toInt = 1 ∧ xi_22.toInt + (d + 1 : Nat) = xn0.toInt) ∨ (xw0.toInt = 2 ∧ xi_22.toInt + (d + 1 : Nat) + (d + 1 : Nat) = 2)) (h10 : 0 ≤ xi_22.toInt) (h11 : gi_22.toInt + (d + 1 : Nat) = xi0.toInt + xn0.toInt) : (xw0.toInt = 1 ∧ (xi_22 + xw0).toInt + d = xn0.toInt) ∨ (xw0.toInt = 2 ∧ (xi_22 + xw0).toInt + d + d = 2) := by
  try simp only [Int32.lt_iff_toInt_lt, Int32.le_iff_toInt_le, ← Int32.toInt_inj, ne_eq, oHT, oNU, oNN] at *
  all_goals (have := oA xi_22 xw0; have := oA nge13 xd0; have := oLi; omega)
theorem ar83 (h0 : oHT xN xg xe) (h1 : (xN.toInt = 16 ∧ (xN.toInt - (xe.toInt - xg.toInt)) ≤ 1) ∨ xN.toInt = 32) (h2 : 0 ≤ xi0.toInt ∧ 0 ≤ xd0.toInt ∧ xi0.toInt + xd0.toInt ≤ (xN.toInt - (xe.toInt - xg.toInt))) (h3 : oNU xn0 xu0 xw0) (h4 : nge13.toInt = xi0.toInt + (xe.toInt - xg.toInt)) (h5 : oHT nN_0 xi0 nge_0) (h6 : nN_0.toInt - nge_0.toInt = xN.toInt - (nge13 + xd0).toInt) (h7 : xn0.toInt ≤ nge_0.toInt - xi0.toInt) (h8 : nN_0.toInt = xN.toInt ∨ oNN xN nN_0) (h9 : (xw0.toInt = 1 ∧ xi_22.toInt + (d + 1 : Nat) = xn0.toInt) ∨ (xw0.toInt = 2 ∧ xi_22.toInt + (d + 1 : Nat) + (d + 1 : Nat) = 2)) (h10 : 0 ≤ xi_22.toInt) (h11 : gi_22.toInt + (d + 1 : Nat) = xi0.toInt + xn0.toInt) : 0 ≤ (xi_22 + xw0).toInt := by
  try simp only [Int32.lt_iff_toInt_lt, Int32.le_iff_toInt_le, ← Int32.toInt_inj, ne_eq, oHT, oNU, oNN] at *
  all_goals (have := oA xi_22 xw0; have := oA nge13 xd0; have := oLi; omega)
theorem ar84 (h0 : oHT xN xg xe) (h1 : (xN.toInt = 16 ∧ (xN.toInt - (xe.toInt - xg.toInt)) ≤ 1) ∨ xN.toInt = 32) (h2 : 0 ≤ xi0.toInt ∧ 0 ≤ xd0.toInt ∧ xi0.toInt + xd0.toInt ≤ (xN.toInt - (xe.toInt - xg.toInt))) (h3 : oNU xn0 xu0 xw0) (h4 : nge13.toInt = xi0.toInt + (xe.toInt - xg.toInt)) (h5 : oHT nN_0 xi0 nge_0) (h6 : nN_0.toInt - nge_0.toInt = xN.toInt - (nge13 + xd0).toInt) (h7 : xn0.toInt ≤ nge_0.toInt - xi0.toInt) (h8 : nN_0.toInt = xN.toInt ∨ oNN xN nN_0) (h9 : (xw0.toInt = 1 ∧ xi_22.toInt + (d + 1 : Nat) = xn0.toInt) ∨ (xw0.toInt = 2 ∧ xi_22.toInt + (d + 1 : Nat) + (d + 1 : Nat) = 2)) (h10 : 0 ≤ xi_22.toInt) (h11 : gi_22.toInt + (d + 1 : Nat) = xi0.toInt + xn0.toInt) : (gi_22 + (1 : Int32)).toInt + d = xi0.toInt + xn0.toInt := by
  try simp only [Int32.lt_iff_toInt_lt, Int32.le_iff_toInt_le, ← Int32.toInt_inj, ne_eq, oHT, oNU, oNN] at *
  all_goals (have := oA gi_22 (1 : Int32); have := oA nge13 xd0; have := oLi; omega)
theorem ar85 (h0 : oHT xN xg xe) (h1 : (xN.toInt = 16 ∧ (xN.toInt - (xe.toInt - xg.toInt)) ≤ 1) ∨ xN.toInt = 32) (h2 : 0 ≤ xi0.toInt ∧ 0 ≤ xd0.toInt ∧ xi0.toInt + xd0.toInt ≤ (xN.toInt - (xe.toInt - xg.toInt))) (h3 : oNU xn0 xu0 xw0) (h4 : nge13.toInt = xi0.toInt + (xe.toInt - xg.toInt)) (h5 : ((nge13 + xd0) - xi0) < xn0) : xN = (16 : Int32) ∨ xN = (32 : Int32) ∨ xN = (64 : Int32) := by
  try simp only [Int32.lt_iff_toInt_lt, Int32.le_iff_toInt_le, ← Int32.toInt_inj, ne_eq, oHT, oNU, oNN] at *
  all_goals (have := oA nge13 xd0; have := oD (nge13 + xd0) xi0; have := oLi; omega)
theorem ar86 (h0 : oHT xN xg xe) (h1 : (xN.toInt = 16 ∧ (xN.toInt - (xe.toInt - xg.toInt)) ≤ 1) ∨ xN.toInt = 32) (h2 : 0 ≤ xi0.toInt ∧ 0 ≤ xd0.toInt ∧ xi0.toInt + xd0.toInt ≤ (xN.toInt - (xe.toInt - xg.toInt))) (h3 : oNU xn0 xu0 xw0) (h4 : nge13.toInt = xi0.toInt + (xe.toInt - xg.toInt)) (h5 : ((nge13 + xd0) - xi0) < xn0) : oHT xN xi0 (nge13 + xd0) := by
  try simp only [Int32.lt_iff_toInt_lt, Int32.le_iff_toInt_le, ← Int32.toInt_inj, ne_eq, oHT, oNU, oNN] at *
  all_goals (have := oA nge13 xd0; have := oD (nge13 + xd0) xi0; have := oLi; omega)
theorem ar87 (h0 : oHT xN xg xe) (h1 : (xN.toInt = 16 ∧ (xN.toInt - (xe.toInt - xg.toInt)) ≤ 1) ∨ xN.toInt = 32) (h2 : 0 ≤ xi0.toInt ∧ 0 ≤ xd0.toInt ∧ xi0.toInt + xd0.toInt ≤ (xN.toInt - (xe.toInt - xg.toInt))) (h3 : oNU xn0 xu0 xw0) (h4 : nge13.toInt = xi0.toInt + (xe.toInt - xg.toInt)) (h5 : ((nge13 + xd0) - xi0) < xn0) : ((xN - ((nge13 + xd0) - xi0)) + xn0).toInt ≤ xN.toInt + xN.toInt := by
  try simp only [Int32.lt_iff_toInt_lt, Int32.le_iff_toInt_le, ← Int32.toInt_inj, ne_eq, oHT, oNU, oNN] at *
  all_goals (have := oA nge13 xd0; have := oD (nge13 + xd0) xi0; have := oD xN ((nge13 + xd0) - xi0); have := oA (xN - ((nge13 + xd0) - xi0)) xn0; have := oLi; omega)
theorem ar88 (h0 : oHT xN xg xe) (h1 : (xN.toInt = 16 ∧ (xN.toInt - (xe.toInt - xg.toInt)) ≤ 1) ∨ xN.toInt = 32) (h2 : 0 ≤ xi0.toInt ∧ 0 ≤ xd0.toInt ∧ xi0.toInt + xd0.toInt ≤ (xN.toInt - (xe.toInt - xg.toInt))) (h3 : oNU xn0 xu0 xw0) (h4 : nge13.toInt = xi0.toInt + (xe.toInt - xg.toInt)) (h5 : ((nge13 + xd0) - xi0) < xn0) (h6 : oNN xN nN71) (h7 : nge71.toInt = nN71.toInt - (xN.toInt - (nge13 + xd0).toInt)) : oHT nN71 xi0 nge71 := by
  try simp only [Int32.lt_iff_toInt_lt, Int32.le_iff_toInt_le, ← Int32.toInt_inj, ne_eq, oHT, oNU, oNN] at *
  all_goals (have := oA nge13 xd0; have := oD (nge13 + xd0) xi0; have := oLi; omega)
theorem ar89 (h0 : oHT xN xg xe) (h1 : (xN.toInt = 16 ∧ (xN.toInt - (xe.toInt - xg.toInt)) ≤ 1) ∨ xN.toInt = 32) (h2 : 0 ≤ xi0.toInt ∧ 0 ≤ xd0.toInt ∧ xi0.toInt + xd0.toInt ≤ (xN.toInt - (xe.toInt - xg.toInt))) (h3 : oNU xn0 xu0 xw0) (h4 : nge13.toInt = xi0.toInt + (xe.toInt - xg.toInt)) (h5 : ((nge13 + xd0) - xi0) < xn0) (h6 : oNN xN nN71) (h7 : nge71.toInt = nN71.toInt - (xN.toInt - (nge13 + xd0).toInt)) : nN71.toInt - nge71.toInt = xN.toInt - (nge13 + xd0).toInt := by
  try simp only [Int32.lt_iff_toInt_lt, Int32.le_iff_toInt_le, ← Int32.toInt_inj, ne_eq, oHT, oNU, oNN] at *
  all_goals (have := oA nge13 xd0; have := oD (nge13 + xd0) xi0; have := oLi; omega)
theorem ar90 (h0 : oHT xN xg xe) (h1 : (xN.toInt = 16 ∧ (xN.toInt - (xe.toInt - xg.toInt)) ≤ 1) ∨ xN.toInt = 32) (h2 : 0 ≤ xi0.toInt ∧ 0 ≤ xd0.toInt ∧ xi0.toInt + xd0.toInt ≤ (xN.toInt - (xe.toInt - xg.toInt))) (h3 : oNU xn0 xu0 xw0) (h4 : nge13.toInt = xi0.toInt + (xe.toInt - xg.toInt)) (h5 : ((nge13 + xd0) - xi0) < xn0) (h6 : oNN xN nN71) (h7 : nge71.toInt = nN71.toInt - (xN.toInt - (nge13 + xd0).toInt)) : xn0.toInt ≤ nge71.toInt - xi0.toInt := by
  try simp only [Int32.lt_iff_toInt_lt, Int32.le_iff_toInt_le, ← Int32.toInt_inj, ne_eq, oHT, oNU, oNN] at *
  all_goals (have := oA nge13 xd0; have := oD (nge13 + xd0) xi0; have := oLi; omega)
theorem ar91 (h0 : oHT xN xg xe) (h1 : (xN.toInt = 16 ∧ (xN.toInt - (xe.toInt - xg.toInt)) ≤ 1) ∨ xN.toInt = 32) (h2 : 0 ≤ xi0.toInt ∧ 0 ≤ xd0.toInt ∧ xi0.toInt + xd0.toInt ≤ (xN.toInt - (xe.toInt - xg.toInt))) (h3 : oNU xn0 xu0 xw0) (h4 : nge13.toInt = xi0.toInt + (xe.toInt - xg.toInt)) (h5 : ((nge13 + xd0) - xi0) < xn0) (h6 : oNN xN nN71) (h7 : nge71.toInt = nN71.toInt - (xN.toInt - (nge13 + xd0).toInt)) : nN71.toInt = xN.toInt ∨ oNN xN nN71 := by
  try simp only [Int32.lt_iff_toInt_lt, Int32.le_iff_toInt_le, ← Int32.toInt_inj, ne_eq, oHT, oNU, oNN] at *
  all_goals (have := oA nge13 xd0; have := oD (nge13 + xd0) xi0; have := oLi; omega)
theorem ar92 (h0 : oHT xN xg xe) (h1 : (xN.toInt = 16 ∧ (xN.toInt - (xe.toInt - xg.toInt)) ≤ 1) ∨ xN.toInt = 32) (h2 : 0 ≤ xi0.toInt ∧ 0 ≤ xd0.toInt ∧ xi0.toInt + xd0.toInt ≤ (xN.toInt - (xe.toInt - xg.toInt))) (h3 : oNU xn0 xu0 xw0) (h4 : nge13.toInt = xi0.toInt + (xe.toInt - xg.toInt)) (h5 : ¬ ((nge13 + xd0) - xi0) < xn0) : oHT xN xi0 (nge13 + xd0) := by
  try simp only [Int32.lt_iff_toInt_lt, Int32.le_iff_toInt_le, ← Int32.toInt_inj, ne_eq, oHT, oNU, oNN] at *
  all_goals (have := oA nge13 xd0; have := oD (nge13 + xd0) xi0; have := oLi; omega)
theorem ar93 (h0 : oHT xN xg xe) (h1 : (xN.toInt = 16 ∧ (xN.toInt - (xe.toInt - xg.toInt)) ≤ 1) ∨ xN.toInt = 32) (h2 : 0 ≤ xi0.toInt ∧ 0 ≤ xd0.toInt ∧ xi0.toInt + xd0.toInt ≤ (xN.toInt - (xe.toInt - xg.toInt))) (h3 : oNU xn0 xu0 xw0) (h4 : nge13.toInt = xi0.toInt + (xe.toInt - xg.toInt)) (h5 : ¬ ((nge13 + xd0) - xi0) < xn0) : xn0.toInt ≤ (nge13 + xd0).toInt - xi0.toInt := by
  try simp only [Int32.lt_iff_toInt_lt, Int32.le_iff_toInt_le, ← Int32.toInt_inj, ne_eq, oHT, oNU, oNN] at *
  all_goals (have := oA nge13 xd0; have := oD (nge13 + xd0) xi0; have := oLi; omega)
theorem ar94 (h0 : xi.toInt + (0 : Nat) = (20 : Int32).toInt) (h1 : 0 ≤ xi.toInt) : ¬ xi < (20 : Int32) := by
  try simp only [Int32.lt_iff_toInt_lt, Int32.le_iff_toInt_le, ← Int32.toInt_inj, ne_eq, oHT, oNU, oNN] at *
  all_goals (have := oLi; omega)
theorem ar95 (h0 : xi.toInt + (d + 1 : Nat) = (20 : Int32).toInt) (h1 : 0 ≤ xi.toInt) : xi < (20 : Int32) := by
  try simp only [Int32.lt_iff_toInt_lt, Int32.le_iff_toInt_le, ← Int32.toInt_inj, ne_eq, oHT, oNU, oNN] at *
  all_goals (have := oLi; omega)
theorem ar96 (h0 : xi.toInt + (d + 1 : Nat) = (20 : Int32).toInt) (h1 : 0 ≤ xi.toInt) : ¬ xi < (0 : Int32) ∧ xi < (20 : Int32) := by
  try simp only [Int32.lt_iff_toInt_lt, Int32.le_iff_toInt_le, ← Int32.toInt_inj, ne_eq, oHT, oNU, oNN] at *
  all_goals (have := oLi; omega)
theorem ar97 (h0 : xi.toInt + (d + 1 : Nat) = (20 : Int32).toInt) (h1 : 0 ≤ xi.toInt) : (xi + (1 : Int32)).toInt + d = (20 : Int32).toInt := by
  try simp only [Int32.lt_iff_toInt_lt, Int32.le_iff_toInt_le, ← Int32.toInt_inj, ne_eq, oHT, oNU, oNN] at *
  all_goals (have := oA xi (1 : Int32); have := oLi; omega)
theorem ar98 (h0 : xi.toInt + (d + 1 : Nat) = (20 : Int32).toInt) (h1 : 0 ≤ xi.toInt) : 0 ≤ (xi + (1 : Int32)).toInt := by
  try simp only [Int32.lt_iff_toInt_lt, Int32.le_iff_toInt_le, ← Int32.toInt_inj, ne_eq, oHT, oNU, oNN] at *
  all_goals (have := oA xi (1 : Int32); have := oLi; omega)
theorem ar99 (h0 : oNU n1 u1 w1) (h1 : oNU n2 u2 w2) (h2 : oNU n3 u3 w3) : 0 ≤ n1.toInt ∧ n1.toInt ≤ 1000 := by
  try simp only [Int32.lt_iff_toInt_lt, Int32.le_iff_toInt_le, ← Int32.toInt_inj, ne_eq, oHT, oNU, oNN] at *
  all_goals (have := oLi; omega)
theorem ar100 (h0 : oNU n1 u1 w1) (h1 : oNU n2 u2 w2) (h2 : oNU n3 u3 w3) (h3 : 0 ≤ pp2.toInt ∧ pp2.toInt ≤ n1.toInt) : 0 ≤ (n1 - pp2).toInt ∧ (n1 - pp2).toInt ≤ 1000 := by
  try simp only [Int32.lt_iff_toInt_lt, Int32.le_iff_toInt_le, ← Int32.toInt_inj, ne_eq, oHT, oNU, oNN] at *
  all_goals (have := oD n1 pp2; have := oLi; omega)
theorem ar101 (h0 : oNU n1 u1 w1) (h1 : oNU n2 u2 w2) (h2 : oNU n3 u3 w3) (h3 : 0 ≤ pp2.toInt ∧ pp2.toInt ≤ n1.toInt) (h4 : 0 ≤ dd2.toInt ∧ dd2.toInt ≤ (n1 - pp2).toInt) : ((n1 - dd2) + n2).toInt = n1.toInt - dd2.toInt + n2.toInt := by
  try simp only [Int32.lt_iff_toInt_lt, Int32.le_iff_toInt_le, ← Int32.toInt_inj, ne_eq, oHT, oNU, oNN] at *
  all_goals (have := oD n1 dd2; have := oA (n1 - dd2) n2; have := oD n1 pp2; have := oLi; omega)
theorem ar102 (h0 : oNU n1 u1 w1) (h1 : oNU n2 u2 w2) (h2 : oNU n3 u3 w3) (h3 : 0 ≤ pp2.toInt ∧ pp2.toInt ≤ n1.toInt) (h4 : 0 ≤ dd2.toInt ∧ dd2.toInt ≤ (n1 - pp2).toInt) (h5 : ll2.toInt = n1.toInt - dd2.toInt + n2.toInt) : 0 ≤ ll2.toInt ∧ ll2.toInt ≤ 1000 := by
  try simp only [Int32.lt_iff_toInt_lt, Int32.le_iff_toInt_le, ← Int32.toInt_inj, ne_eq, oHT, oNU, oNN] at *
  all_goals (have := oD n1 pp2; have := oLi; omega)
theorem ar103 (h0 : oNU n1 u1 w1) (h1 : oNU n2 u2 w2) (h2 : oNU n3 u3 w3) (h3 : 0 ≤ pp2.toInt ∧ pp2.toInt ≤ n1.toInt) (h4 : 0 ≤ dd2.toInt ∧ dd2.toInt ≤ (n1 - pp2).toInt) (h5 : ll2.toInt = n1.toInt - dd2.toInt + n2.toInt) (h6 : 0 ≤ pp3.toInt ∧ pp3.toInt ≤ ll2.toInt) : 0 ≤ (ll2 - pp3).toInt ∧ (ll2 - pp3).toInt ≤ 1000 := by
  try simp only [Int32.lt_iff_toInt_lt, Int32.le_iff_toInt_le, ← Int32.toInt_inj, ne_eq, oHT, oNU, oNN] at *
  all_goals (have := oD ll2 pp3; have := oD n1 pp2; have := oLi; omega)
theorem ar104 (h0 : oNU n1 u1 w1) (h1 : oNU n2 u2 w2) (h2 : oNU n3 u3 w3) (h3 : 0 ≤ pp2.toInt ∧ pp2.toInt ≤ n1.toInt) (h4 : 0 ≤ dd2.toInt ∧ dd2.toInt ≤ (n1 - pp2).toInt) (h5 : ll2.toInt = n1.toInt - dd2.toInt + n2.toInt) (h6 : 0 ≤ pp3.toInt ∧ pp3.toInt ≤ ll2.toInt) (h7 : 0 ≤ dd3.toInt ∧ dd3.toInt ≤ (ll2 - pp3).toInt) : ((ll2 - dd3) + n3).toInt = ll2.toInt - dd3.toInt + n3.toInt := by
  try simp only [Int32.lt_iff_toInt_lt, Int32.le_iff_toInt_le, ← Int32.toInt_inj, ne_eq, oHT, oNU, oNN] at *
  all_goals (have := oD ll2 dd3; have := oA (ll2 - dd3) n3; have := oD n1 pp2; have := oD ll2 pp3; have := oLi; omega)
theorem ar105 (h0 : oNU n1 u1 w1) (h1 : oNU n2 u2 w2) (h2 : oNU n3 u3 w3) (h3 : 0 ≤ pp2.toInt ∧ pp2.toInt ≤ n1.toInt) (h4 : 0 ≤ dd2.toInt ∧ dd2.toInt ≤ (n1 - pp2).toInt) (h5 : ll2.toInt = n1.toInt - dd2.toInt + n2.toInt) (h6 : 0 ≤ pp3.toInt ∧ pp3.toInt ≤ ll2.toInt) (h7 : 0 ≤ dd3.toInt ∧ dd3.toInt ≤ (ll2 - pp3).toInt) (h8 : ll3.toInt = ll2.toInt - dd3.toInt + n3.toInt) : ¬ pp2 < (0 : Int32) := by
  try simp only [Int32.lt_iff_toInt_lt, Int32.le_iff_toInt_le, ← Int32.toInt_inj, ne_eq, oHT, oNU, oNN] at *
  all_goals (have := oD n1 pp2; have := oD ll2 pp3; have := oLi; omega)
theorem ar106 (h0 : oNU n1 u1 w1) (h1 : oNU n2 u2 w2) (h2 : oNU n3 u3 w3) (h3 : 0 ≤ pp2.toInt ∧ pp2.toInt ≤ n1.toInt) (h4 : 0 ≤ dd2.toInt ∧ dd2.toInt ≤ (n1 - pp2).toInt) (h5 : ll2.toInt = n1.toInt - dd2.toInt + n2.toInt) (h6 : 0 ≤ pp3.toInt ∧ pp3.toInt ≤ ll2.toInt) (h7 : 0 ≤ dd3.toInt ∧ dd3.toInt ≤ (ll2 - pp3).toInt) (h8 : ll3.toInt = ll2.toInt - dd3.toInt + n3.toInt) : ¬ dd2 < (0 : Int32) := by
  try simp only [Int32.lt_iff_toInt_lt, Int32.le_iff_toInt_le, ← Int32.toInt_inj, ne_eq, oHT, oNU, oNN] at *
  all_goals (have := oD n1 pp2; have := oD ll2 pp3; have := oLi; omega)
theorem ar107 (h0 : oNU n1 u1 w1) (h1 : oNU n2 u2 w2) (h2 : oNU n3 u3 w3) (h3 : 0 ≤ pp2.toInt ∧ pp2.toInt ≤ n1.toInt) (h4 : 0 ≤ dd2.toInt ∧ dd2.toInt ≤ (n1 - pp2).toInt) (h5 : ll2.toInt = n1.toInt - dd2.toInt + n2.toInt) (h6 : 0 ≤ pp3.toInt ∧ pp3.toInt ≤ ll2.toInt) (h7 : 0 ≤ dd3.toInt ∧ dd3.toInt ≤ (ll2 - pp3).toInt) (h8 : ll3.toInt = ll2.toInt - dd3.toInt + n3.toInt) : ¬ pp3 < (0 : Int32) := by
  try simp only [Int32.lt_iff_toInt_lt, Int32.le_iff_toInt_le, ← Int32.toInt_inj, ne_eq, oHT, oNU, oNN] at *
  all_goals (have := oD n1 pp2; have := oD ll2 pp3; have := oLi; omega)
theorem ar108 (h0 : oNU n1 u1 w1) (h1 : oNU n2 u2 w2) (h2 : oNU n3 u3 w3) (h3 : 0 ≤ pp2.toInt ∧ pp2.toInt ≤ n1.toInt) (h4 : 0 ≤ dd2.toInt ∧ dd2.toInt ≤ (n1 - pp2).toInt) (h5 : ll2.toInt = n1.toInt - dd2.toInt + n2.toInt) (h6 : 0 ≤ pp3.toInt ∧ pp3.toInt ≤ ll2.toInt) (h7 : 0 ≤ dd3.toInt ∧ dd3.toInt ≤ (ll2 - pp3).toInt) (h8 : ll3.toInt = ll2.toInt - dd3.toInt + n3.toInt) : ¬ dd3 < (0 : Int32) := by
  try simp only [Int32.lt_iff_toInt_lt, Int32.le_iff_toInt_le, ← Int32.toInt_inj, ne_eq, oHT, oNU, oNN] at *
  all_goals (have := oD n1 pp2; have := oD ll2 pp3; have := oLi; omega)
theorem ar109 (h0 : oNU n1 u1 w1) (h1 : oNU n2 u2 w2) (h2 : oNU n3 u3 w3) (h3 : 0 ≤ pp2.toInt ∧ pp2.toInt ≤ n1.toInt) (h4 : 0 ≤ dd2.toInt ∧ dd2.toInt ≤ (n1 - pp2).toInt) (h5 : ll2.toInt = n1.toInt - dd2.toInt + n2.toInt) (h6 : 0 ≤ pp3.toInt ∧ pp3.toInt ≤ ll2.toInt) (h7 : 0 ≤ dd3.toInt ∧ dd3.toInt ≤ (ll2 - pp3).toInt) (h8 : ll3.toInt = ll2.toInt - dd3.toInt + n3.toInt) (h9 : oHT N1 g1 e1) (h10 : N1.toInt - (e1.toInt - g1.toInt) = ((16 : Int32).toInt - ((16 : Int32).toInt - (0 : Int32).toInt)) - (0 : Int32).toInt + n1.toInt) (h11 : (N1.toInt = 16 ∧ N1.toInt - (e1.toInt - g1.toInt) ≤ 1) ∨ N1.toInt = 32) : (N1 - (e1 - g1)) = n1 := by
  try simp only [Int32.lt_iff_toInt_lt, Int32.le_iff_toInt_le, ← Int32.toInt_inj, ne_eq, oHT, oNU, oNN] at *
  all_goals (have := oD e1 g1; have := oD N1 (e1 - g1); have := oD n1 pp2; have := oD ll2 pp3; have := oLi; omega)
theorem ar110 (h0 : oNU n1 u1 w1) (h1 : oNU n2 u2 w2) (h2 : oNU n3 u3 w3) (h3 : 0 ≤ pp2.toInt ∧ pp2.toInt ≤ n1.toInt) (h4 : 0 ≤ dd2.toInt ∧ dd2.toInt ≤ (n1 - pp2).toInt) (h5 : ll2.toInt = n1.toInt - dd2.toInt + n2.toInt) (h6 : 0 ≤ pp3.toInt ∧ pp3.toInt ≤ ll2.toInt) (h7 : 0 ≤ dd3.toInt ∧ dd3.toInt ≤ (ll2 - pp3).toInt) (h8 : ll3.toInt = ll2.toInt - dd3.toInt + n3.toInt) (h9 : oHT N1 g1 e1) (h10 : N1.toInt - (e1.toInt - g1.toInt) = ((16 : Int32).toInt - ((16 : Int32).toInt - (0 : Int32).toInt)) - (0 : Int32).toInt + n1.toInt) (h11 : (N1.toInt = 16 ∧ N1.toInt - (e1.toInt - g1.toInt) ≤ 1) ∨ N1.toInt = 32) : oHT N1 g1 e1 := by
  try simp only [Int32.lt_iff_toInt_lt, Int32.le_iff_toInt_le, ← Int32.toInt_inj, ne_eq, oHT, oNU, oNN] at *
  all_goals (have := oD n1 pp2; have := oD ll2 pp3; have := oLi; omega)
theorem ar111 (h0 : oNU n1 u1 w1) (h1 : oNU n2 u2 w2) (h2 : oNU n3 u3 w3) (h3 : 0 ≤ pp2.toInt ∧ pp2.toInt ≤ n1.toInt) (h4 : 0 ≤ dd2.toInt ∧ dd2.toInt ≤ (n1 - pp2).toInt) (h5 : ll2.toInt = n1.toInt - dd2.toInt + n2.toInt) (h6 : 0 ≤ pp3.toInt ∧ pp3.toInt ≤ ll2.toInt) (h7 : 0 ≤ dd3.toInt ∧ dd3.toInt ≤ (ll2 - pp3).toInt) (h8 : ll3.toInt = ll2.toInt - dd3.toInt + n3.toInt) (h9 : oHT N1 g1 e1) (h10 : N1.toInt - (e1.toInt - g1.toInt) = ((16 : Int32).toInt - ((16 : Int32).toInt - (0 : Int32).toInt)) - (0 : Int32).toInt + n1.toInt) (h11 : (N1.toInt = 16 ∧ N1.toInt - (e1.toInt - g1.toInt) ≤ 1) ∨ N1.toInt = 32) : (N1.toInt = 16 ∧ (N1.toInt - (e1.toInt - g1.toInt)) ≤ 1) ∨ N1.toInt = 32 := by
  try simp only [Int32.lt_iff_toInt_lt, Int32.le_iff_toInt_le, ← Int32.toInt_inj, ne_eq, oHT, oNU, oNN] at *
  all_goals (have := oD n1 pp2; have := oD ll2 pp3; have := oLi; omega)
theorem ar112 (h0 : oNU n1 u1 w1) (h1 : oNU n2 u2 w2) (h2 : oNU n3 u3 w3) (h3 : 0 ≤ pp2.toInt ∧ pp2.toInt ≤ n1.toInt) (h4 : 0 ≤ dd2.toInt ∧ dd2.toInt ≤ (n1 - pp2).toInt) (h5 : ll2.toInt = n1.toInt - dd2.toInt + n2.toInt) (h6 : 0 ≤ pp3.toInt ∧ pp3.toInt ≤ ll2.toInt) (h7 : 0 ≤ dd3.toInt ∧ dd3.toInt ≤ (ll2 - pp3).toInt) (h8 : ll3.toInt = ll2.toInt - dd3.toInt + n3.toInt) (h9 : oHT N1 g1 e1) (h10 : N1.toInt - (e1.toInt - g1.toInt) = ((16 : Int32).toInt - ((16 : Int32).toInt - (0 : Int32).toInt)) - (0 : Int32).toInt + n1.toInt) (h11 : (N1.toInt = 16 ∧ N1.toInt - (e1.toInt - g1.toInt) ≤ 1) ∨ N1.toInt = 32) : 0 ≤ pp2.toInt ∧ 0 ≤ dd2.toInt ∧ pp2.toInt + dd2.toInt ≤ (N1.toInt - (e1.toInt - g1.toInt)) := by
  try simp only [Int32.lt_iff_toInt_lt, Int32.le_iff_toInt_le, ← Int32.toInt_inj, ne_eq, oHT, oNU, oNN] at *
  all_goals (have := oD n1 pp2; have := oD ll2 pp3; have := oLi; omega)
theorem ar113 (h0 : oNU n1 u1 w1) (h1 : oNU n2 u2 w2) (h2 : oNU n3 u3 w3) (h3 : 0 ≤ pp2.toInt ∧ pp2.toInt ≤ n1.toInt) (h4 : 0 ≤ dd2.toInt ∧ dd2.toInt ≤ (n1 - pp2).toInt) (h5 : ll2.toInt = n1.toInt - dd2.toInt + n2.toInt) (h6 : 0 ≤ pp3.toInt ∧ pp3.toInt ≤ ll2.toInt) (h7 : 0 ≤ dd3.toInt ∧ dd3.toInt ≤ (ll2 - pp3).toInt) (h8 : ll3.toInt = ll2.toInt - dd3.toInt + n3.toInt) (h9 : oHT N1 g1 e1) (h10 : N1.toInt - (e1.toInt - g1.toInt) = ((16 : Int32).toInt - ((16 : Int32).toInt - (0 : Int32).toInt)) - (0 : Int32).toInt + n1.toInt) (h11 : (N1.toInt = 16 ∧ N1.toInt - (e1.toInt - g1.toInt) ≤ 1) ∨ N1.toInt = 32) : 0 ≤ pp3.toInt ∧ 0 ≤ dd3.toInt ∧ pp3.toInt + dd3.toInt ≤ (N1.toInt - (e1.toInt - g1.toInt)) - dd2.toInt + n2.toInt := by
  try simp only [Int32.lt_iff_toInt_lt, Int32.le_iff_toInt_le, ← Int32.toInt_inj, ne_eq, oHT, oNU, oNN] at *
  all_goals (have := oD n1 pp2; have := oD ll2 pp3; have := oLi; omega)
theorem ar114 (h0 : oNU n1 u1 w1) (h1 : oNU n2 u2 w2) (h2 : oNU n3 u3 w3) (h3 : 0 ≤ pp2.toInt ∧ pp2.toInt ≤ n1.toInt) (h4 : 0 ≤ dd2.toInt ∧ dd2.toInt ≤ (n1 - pp2).toInt) (h5 : ll2.toInt = n1.toInt - dd2.toInt + n2.toInt) (h6 : 0 ≤ pp3.toInt ∧ pp3.toInt ≤ ll2.toInt) (h7 : 0 ≤ dd3.toInt ∧ dd3.toInt ≤ (ll2 - pp3).toInt) (h8 : ll3.toInt = ll2.toInt - dd3.toInt + n3.toInt) (h9 : oHT N1 g1 e1) (h10 : N1.toInt - (e1.toInt - g1.toInt) = ((16 : Int32).toInt - ((16 : Int32).toInt - (0 : Int32).toInt)) - (0 : Int32).toInt + n1.toInt) (h11 : (N1.toInt = 16 ∧ N1.toInt - (e1.toInt - g1.toInt) ≤ 1) ∨ N1.toInt = 32) (h12 : N2.toInt - (e2.toInt - g2.toInt) = (N1.toInt - (e1.toInt - g1.toInt)) - dd2.toInt + n2.toInt - dd3.toInt + n3.toInt) (h13 : oHT N2 g2 e2) : (N2 - (e2 - g2)) = ll3 := by
  try simp only [Int32.lt_iff_toInt_lt, Int32.le_iff_toInt_le, ← Int32.toInt_inj, ne_eq, oHT, oNU, oNN] at *
  all_goals (have := oD e2 g2; have := oD N2 (e2 - g2); have := oD n1 pp2; have := oD ll2 pp3; have := oLi; omega)
end OwnAr
theorem pn_0 : plainName "java/lang/String" = true := by first | (simp [plainName, overriddenIn]; done) | decide +kernel
abbrev yy0 : MethodName := ⟨"java/lang/String", "coder", "()B"⟩
theorem d26_0 : decode b45_ 0 = .ok (.getstatic 38, 3) := by decide +kernel
theorem d26_3 : decode b45_ 3 = .ok (.ifCond .eq 10, 3) := by decide +kernel
theorem d26_6 : decode b45_ 6 = .ok (.aload_n 0, 1) := by decide +kernel
theorem d26_7 : decode b45_ 7 = .ok (.getfield 15, 3) := by decide +kernel
theorem d26_10 : decode b45_ 10 = .ok (.goto 4, 3) := by decide +kernel
theorem d26_14 : decode b45_ 14 = .ok (.ireturn, 1) := by decide +kernel
theorem rCdr (l : Launch) (Z : State) (a0 : Array Value) (hw : oHW a0 Z) (ws : List Jvm.Cond) (xa : Addr) (xz : Int32) (h0 : Heap) (O0 : Ext Z.heap h0) (S_Z : Sta Z Z.heap Y0 Y9 "Z" (.int xz)) (hz : ¬ xz = (0 : Int32)) (F_coder_xa : Fld Z h0 xa Y0 "coder" "B" (.int (0 : Int32))) :
    oCon l Z yy0 b45_ 1 (some .byte) ws ({ frames := 0, cells := 0, slots := 0, locals := 0 } : Room) #[(.ref xa)] h0 (oPq (some (.int (0 : Int32))) h0) := by
  refine oCon.of (plainFor_of_name pn_0) ?_
  intro p e s m below meth c T X hx hby hml hown hnm hret hlk hZ e0
  have hml : c.maxLocals = 1 := hml
  have K : oKp h0 h0 [] [] := oKp.nil _ _
  refine oWk.cast (g' := (mkF m 0 #[rv xa] [])) (by first | rfl | (simp [entryFrame, mkF, argsToLocals, Value.category]; done)) ?_
  have Oh := K.old O0 all0
  obtain ⟨T, X, e0, st⟩ := getS2 X hx hZ hown (host := "") (Or.inl (oW hw 25 rfl)) Via.refl e0 (S_Z.ext Oh) (g := (mkF m 0 #[rv xa] [])) rfl (hb hby d26_0)
  refine oWk.st (fun _ kt => st _ (zH X hx hby d26_3 rfl rfl ((if0 _ _).trans (feq hz).1) (zA X hx hby d26_6 rfl rfl rfl kt))) ?_
  obtain ⟨T, X, e0, st⟩ := getF X hx hZ hown (host := "") (Or.inl (oW hw 21 rfl)) Via.refl e0 F_coder_xa (g := (mkF m 7 #[rv xa] [(.ref xa)])) rfl rfl (hb hby d26_7)
  refine oWk.to (mkF m 14 #[rv xa] [(.int 0)]) (fun _ kt => st _ (zG X hx hby d26_10 rfl (pc' := 14) rfl kt)) ?_
  exact oRetN X hx hlk hret (Or.inl rfl) rfl (hb hby d26_14) (by rw [e0]; exact ⟨rfl, rfl, K⟩) (by decide) (by decide)
abbrev yy1 : MethodName := ⟨"java/lang/String", "length", "()I"⟩
theorem d25_0 : decode b23_ 0 = .ok (.aload_n 0, 1) := by decide +kernel
theorem d25_1 : decode b23_ 1 = .ok (.getfield 9, 3) := by decide +kernel
theorem d25_4 : decode b23_ 4 = .ok (.arraylength, 1) := by decide +kernel
theorem d25_5 : decode b23_ 5 = .ok (.aload_n 0, 1) := by decide +kernel
theorem d25_6 : decode b23_ 6 = .ok (.invokevirtual 335, 3) := by decide +kernel
theorem pd_0 : parseMethodDescriptor "()B" = some ⟨[], some .byte⟩ := by decide +kernel
theorem cs0 {a0 : Array Value} {Z : State} (hw : oHW a0 Z) : oCall Z Y0 (.invokevirtual 335) yy0 b45_ 1 (some .byte) (oRv Z 0 Y0) := oCall.virt (oW hw 125 rfl) (oW hw 126 rfl) (fun _ hZ => notFace_of_selects (args := #[]) (mvT hZ (oW hw 128 rfl))) (oW hw 128 rfl) (oW hw 127 rfl) (oW hw 2 rfl) (oW hw 129 rfl) (by decide) pd_0
theorem d25_9 : decode b23_ 9 = .ok (.ishr, 1) := by decide +kernel
theorem d25_10 : decode b23_ 10 = .ok (.ireturn, 1) := by decide +kernel
theorem rLnL (l : Launch) (Z : State) (a0 : Array Value) (hw : oHW a0 Z) (ws : List Jvm.Cond) (xa xb : Addr) (xk : ClassId) (xn : Int32) (xv : List Value) (xz : Int32) (h0 : Heap) (O0 : Ext Z.heap h0) (S_Z : Sta Z Z.heap Y0 Y9 "Z" (.int xz)) (hz : ¬ xz = (0 : Int32)) (E_xa : Exa Z h0 xa Y0) (F_coder_xa : Fld Z h0 xa Y0 "coder" "B" (.int (0 : Int32))) (F_value_xa : Fld Z h0 xa Y0 "value" "[B" (.ref xb)) (V_xb : Arv Z h0 xb xk .byte xn xv (.int (0 : Int32))) :
    oCon l Z yy1 b23_ 1 (some .int) ws ({ frames := 1, cells := 0, slots := 0, locals := 13 } : Room) #[(.ref xa)] h0 (oPq (some (.int xn)) h0) := by
  refine oCon.of (plainFor_of_name pn_0) ?_
  intro p e s m below meth c T X hx hby hml hown hnm hret hlk hZ e0
  have hml : c.maxLocals = 1 := hml
  have K : oKp h0 h0 [] [] := oKp.nil _ _
  refine oWk.cast (g' := (mkF m 0 #[rv xa] [])) (by first | rfl | (simp [entryFrame, mkF, argsToLocals, Value.category]; done)) ?_
  refine oWk.st (fun _ kt => zA X hx hby d25_0 rfl rfl rfl kt) ?_
  obtain ⟨T, X, e0, st⟩ := getF X hx hZ hown (host := "") (Or.inl (oW hw 20 rfl)) Via.refl e0 F_value_xa (g := (mkF m 1 #[rv xa] [(.ref xa)])) rfl rfl (hb hby d25_1)
  refine oWk.st (fun _ kt => st _ (oAl X hx hZ e0 V_xb hby d25_4 rfl rfl (zA X hx hby d25_5 rfl rfl rfl kt))) ?_
  have Oh := K.old O0 all0
  obtain ⟨T, L3, X, e0, K, st⟩ := (cs0 hw).pure X hx hZ hown e0 K (A := [(.ref xa)]) ⟨rfl, _, _, rfl, E_xa⟩ (rCdr l Z a0 hw [] xa xz h0 Oh S_Z hz F_coder_xa) (W := 1) (by decide) hml (Ls := #[rv xa]) rfl (rest := [(.int xn)]) rfl rfl hby d25_6
  refine oWk.to (mkF m 10 #[rv xa] [(.int (xn >>> ((0 : Int32) &&& 31)))]) (fun _ kt => st _ (XS.ishr X.here hx rfl (hb hby d25_9) rfl kt)) ?_
  exact oRetI X hx hlk hret (hb hby d25_10) (by rw [e0]; exact ⟨(congrArg (fun z => some (Value.int z)) (oShr0 xn)), rfl, K⟩) (by decide) (by decide)
theorem pn_1 : plainName "jdk/internal/util/Preconditions" = true := by first | (simp [plainName, overriddenIn]; done) | decide +kernel
abbrev yy2 : MethodName := ⟨"jdk/internal/util/Preconditions", "checkIndex", "(IILjava/util/function/BiFunction;)I"⟩
theorem d43_0 : decode b34_ 0 = .ok (.iload_n 0, 1) := by decide +kernel
theorem d43_1 : decode b34_ 1 = .ok (.ifCond .lt 8, 3) := by decide +kernel
theorem d43_4 : decode b34_ 4 = .ok (.iload_n 0, 1) := by decide +kernel
theorem d43_5 : decode b34_ 5 = .ok (.iload_n 1, 1) := by decide +kernel
theorem d43_6 : decode b34_ 6 = .ok (.if_icmp .lt 10, 3) := by decide +kernel
theorem d43_16 : decode b34_ 16 = .ok (.iload_n 0, 1) := by decide +kernel
theorem d43_17 : decode b34_ 17 = .ok (.ireturn, 1) := by decide +kernel
theorem rPCk (l : Launch) (Z : State) (a0 : Array Value) (hw : oHW a0 Z) (ws : List Jvm.Cond) (xi xn : Int32) (xfm : Value) (h0 : Heap) (O0 : Ext Z.heap h0) (hcat : xfm.category = 1) (h1 : ¬ xi < (0 : Int32)) (h2 : xi < xn) :
    oCon l Z yy2 b34_ 3 (some .int) ws ({ frames := 0, cells := 0, slots := 0, locals := 0 } : Room) #[(.int xi), (.int xn), xfm] h0 (oPq (some (.int xi)) h0) := by
  refine oCon.of (plainFor_of_name pn_1) ?_
  intro p e s m below meth c T X hx hby hml hown hnm hret hlk hZ e0
  have hml : c.maxLocals = 3 := hml
  have K : oKp h0 h0 [] [] := oKp.nil _ _
  refine oWk.cast (g' := (mkF m 0 #[iv xi, iv xn, .val xfm] [])) (by cases xfm <;> first | rfl | exact absurd hcat (by simp [Value.category])) ?_
  refine oWk.to (mkF m 17 #[iv xi, iv xn, .val xfm] [(.int xi)]) (fun _ kt => zI X hx hby d43_0 rfl rfl (zH X hx hby d43_1 rfl rfl ((if0 _ _).trans (flt h1).1) (zI X hx hby d43_4 rfl rfl (zI X hx hby d43_5 rfl rfl (zY X hx hby d43_6 rfl rfl (tlt h2).1 (pc' := 16) rfl (zI X hx hby d43_16 rfl rfl kt)))))) ?_
  exact oRetI X hx hlk hret (hb hby d43_17) (by rw [e0]; exact ⟨rfl, rfl, K⟩) (by decide) (by decide)
abbrev yy3 : MethodName := ⟨"java/lang/String", "checkIndex", "(II)V"⟩
theorem d57_0 : decode b40_ 0 = .ok (.iload_n 0, 1) := by decide +kernel
theorem d57_1 : decode b40_ 1 = .ok (.iload_n 1, 1) := by decide +kernel
theorem d57_2 : decode b40_ 2 = .ok (.getstatic 1053, 3) := by decide +kernel
theorem d57_5 : decode b40_ 5 = .ok (.invokestatic 1059, 3) := by decide +kernel
theorem pd_1 : parseMethodDescriptor "(IILjava/util/function/BiFunction;)I" = some ⟨[.int, .int, (.object "java/util/function/BiFunction")], some .int⟩ := by decide +kernel
theorem cs1 {a0 : Array Value} {Z : State} (hw : oHW a0 Z) : oCall Z Y0 (.invokestatic 1059) yy2 b34_ 3 (some .int) (oRs 3) := oCall.stat (oW hw 334 rfl) (oW hw 237 rfl) (oW hw 148 rfl) (oW hw 238 rfl) (by decide) pd_1
theorem d57_8 : decode b40_ 8 = .ok (.pop, 1) := by decide +kernel
theorem d57_9 : decode b40_ 9 = .ok (.return_, 1) := by decide +kernel
theorem rCkI (l : Launch) (Z : State) (a0 : Array Value) (hw : oHW a0 Z) (ws : List Jvm.Cond) (xi xn : Int32) (xfm : Value) (h0 : Heap) (O0 : Ext Z.heap h0) (S_F : Sta Z Z.heap Y11 Y15 Y16 xfm) (hcat : xfm.category = 1) (h1 : ¬ xi < (0 : Int32)) (h2 : xi < xn) :
    oCon l Z yy3 b40_ 2 none ws ({ frames := 1, cells := 0, slots := 0, locals := 14 } : Room) #[(.int xi), (.int xn)] h0 (oPq none h0) := by
  refine oCon.of (plainFor_of_name pn_0) ?_
  intro p e s m below meth c T X hx hby hml hown hnm hret hlk hZ e0
  have hml : c.maxLocals = 2 := hml
  have K : oKp h0 h0 [] [] := oKp.nil _ _
  refine oWk.cast (g' := (mkF m 0 #[iv xi, iv xn] [])) (by first | rfl | (simp [entryFrame, mkF, argsToLocals, Value.category]; done)) ?_
  refine oWk.st (fun _ kt => zI X hx hby d57_0 rfl rfl (zI X hx hby d57_1 rfl rfl kt)) ?_
  have Oh := K.old O0 all0
  obtain ⟨T, X, e0, st⟩ := getS2 X hx hZ hown (host := "") (Or.inl (oW hw 333 rfl)) Via.refl e0 (S_F.ext Oh) (g := (mkF m 2 #[iv xi, iv xn] [(.int xn), (.int xi)])) rfl (hb hby d57_2)
  refine oWk.st (fun _ kt => st _ kt) ?_
  obtain ⟨T, L2, X, e0, K, st⟩ := (cs1 hw).pure X hx hZ hown e0 K (A := [(.int xi), (.int xn), xfm]) rfl (rPCk l Z a0 hw [] xi xn xfm h0 Oh hcat h1 h2) (W := 0) (by decide) hml (Ls := #[iv xi, iv xn]) rfl (rest := []) rfl rfl hby d57_5
  refine oWk.to (mkF m 9 #[iv xi, iv xn] []) (fun _ kt => st _ (XS.pop X.here hx rfl (hb hby d57_8) rfl rfl kt)) ?_
  exact oRetV X hx hlk hret (hb hby d57_9) (by rw [e0]; exact ⟨rfl, rfl, K⟩) (by decide) (by decide)
def Q_rLcL (Z : State) (xb : Addr) (xk : ClassId) (xn : Int32) (xv : List Value) (xi : Int32) (xfm : Value) (h0 : Heap) (v : Option Value) (h : Heap) (L : List Loc) : Prop := ∃ (nc : Int32), v = some (.int nc) ∧ h = h0 ∧ oKp h0 h [] L ∧ (0 ≤ nc.toInt ∧ nc.toInt < 256)
theorem pn_2 : plainName "java/lang/StringLatin1" = true := by first | (simp [plainName, overriddenIn]; done) | decide +kernel
abbrev yy4 : MethodName := ⟨"java/lang/StringLatin1", "charAt", "([BI)C"⟩
theorem d56_0 : decode b27_ 0 = .ok (.iload_n 1, 1) := by decide +kernel
theorem d56_1 : decode b27_ 1 = .ok (.aload_n 0, 1) := by decide +kernel
theorem d56_2 : decode b27_ 2 = .ok (.arraylength, 1) := by decide +kernel
theorem d56_3 : decode b27_ 3 = .ok (.invokestatic 9, 3) := by decide +kernel
theorem pd_2 : parseMethodDescriptor "(II)V" = some ⟨[.int, .int], none⟩ := by decide +kernel
theorem cs2 {a0 : Array Value} {Z : State} (hw : oHW a0 Z) : oCall Z Y25 (.invokestatic 9) yy3 b40_ 2 none (oRs 2) := oCall.stat (oW hw 330 rfl) (oW hw 331 rfl) (oW hw 2 rfl) (oW hw 332 rfl) (by decide) pd_2
theorem d56_6 : decode b27_ 6 = .ok (.aload_n 0, 1) := by decide +kernel
theorem d56_7 : decode b27_ 7 = .ok (.iload_n 1, 1) := by decide +kernel
theorem d56_8 : decode b27_ 8 = .ok (.baload, 1) := by decide +kernel
theorem d56_9 : decode b27_ 9 = .ok (.sipush 255, 3) := by decide +kernel
theorem d56_12 : decode b27_ 12 = .ok (.iand, 1) := by decide +kernel
theorem d56_13 : decode b27_ 13 = .ok (.i2c, 1) := by decide +kernel
theorem d56_14 : decode b27_ 14 = .ok (.ireturn, 1) := by decide +kernel
theorem rLcL (l : Launch) (Z : State) (a0 : Array Value) (hw : oHW a0 Z) (ws : List Jvm.Cond) (xb : Addr) (xk : ClassId) (xn : Int32) (xv : List Value) (xi : Int32) (xfm : Value) (h0 : Heap) (O0 : Ext Z.heap h0) (S_F : Sta Z Z.heap Y11 Y15 Y16 xfm) (hcat : xfm.category = 1) (h1 : ¬ xi < (0 : Int32)) (h2 : xi < xn) (V_xb : Arv Z h0 xb xk .byte xn xv (.int (0 : Int32))) :
    oCon l Z yy4 b27_ 2 (some .char) ws ({ frames := 2, cells := 0, slots := 0, locals := 27 } : Room) #[(.ref xb), (.int xi)] h0 (Q_rLcL Z xb xk xn xv xi xfm h0) := by
  refine oCon.of (plainFor_of_name pn_2) ?_
  intro p e s m below meth c T X hx hby hml hown hnm hret hlk hZ e0
  have hml : c.maxLocals = 2 := hml
  have K : oKp h0 h0 [] [] := oKp.nil _ _
  refine oWk.cast (g' := (mkF m 0 #[rv xb, iv xi] [])) (by first | rfl | (simp [entryFrame, mkF, argsToLocals, Value.category]; done)) ?_
  refine oWk.st (fun _ kt => zI X hx hby d56_0 rfl rfl (zA X hx hby d56_1 rfl rfl rfl (oAl X hx hZ e0 V_xb hby d56_2 rfl rfl kt))) ?_
  have Oh := K.old O0 all0
  obtain ⟨T, L3, X, e0, K, st⟩ := (cs2 hw).pure X hx hZ hown e0 K (A := [(.int xi), (.int xn)]) rfl (rCkI l Z a0 hw [] xi xn xfm h0 Oh S_F hcat h1 h2) (W := 0) (by decide) hml (Ls := #[rv xb, iv xi]) rfl (rest := []) rfl rfl hby d56_3
  refine oWk.to (mkF m 8 #[rv xb, iv xi] [(.int xi), (.ref xb)]) (fun _ kt => st _ (zA X hx hby d56_6 rfl rfl rfl (zI X hx hby d56_7 rfl rfl kt))) ?_
  obtain ⟨cv, hcv⟩ := oGetB V_xb (i := xi) ⟨h1, h2⟩
  refine oWk.to (mkF m 14 #[rv xb, iv xi] [(.int ((cv &&& (255 : Int32)).toUInt32.toUInt16.toUInt32.toInt32))]) (fun _ kt => oLdB X hx hZ e0 V_xb xi (.int cv) ⟨h1, h2⟩ hcv hby d56_8 rfl rfl (zM X hx hby d56_9 rfl (XS.iand X.here hx rfl (hb hby d56_12) rfl (XS.i2c X.here hx rfl (hb hby d56_13) rfl kt)))) ?_
  rw [oChr (oM255 cv)]
  show oWk _ _ _ _ T (mkF m 14 #[rv xb, iv xi] [(.int (cv &&& (255 : Int32)))])
  exact oRetN X hx hlk hret (Or.inr (Or.inl rfl)) (show narrow .char (.int (cv &&& (255 : Int32))) = .int (cv &&& (255 : Int32)) from congrArg Value.int (oChr (oM255 cv))) (hb hby d56_14) (by rw [e0]; exact ⟨(cv &&& (255 : Int32)), rfl, rfl, K, (oM255 cv)⟩) (by decide) (by decide)
abbrev yy5 : MethodName := ⟨"java/lang/String", "isLatin1", "()Z"⟩
theorem d30_0 : decode b29_ 0 = .ok (.getstatic 38, 3) := by decide +kernel
theorem d30_3 : decode b29_ 3 = .ok (.ifCond .eq 14, 3) := by decide +kernel
theorem d30_6 : decode b29_ 6 = .ok (.aload_n 0, 1) := by decide +kernel
theorem d30_7 : decode b29_ 7 = .ok (.getfield 15, 3) := by decide +kernel
theorem d30_10 : decode b29_ 10 = .ok (.ifCond .ne 7, 3) := by decide +kernel
theorem d30_13 : decode b29_ 13 = .ok (.iconst 1, 1) := by decide +kernel
theorem d30_14 : decode b29_ 14 = .ok (.goto 4, 3) := by decide +kernel
theorem d30_18 : decode b29_ 18 = .ok (.ireturn, 1) := by decide +kernel
theorem rIsL (l : Launch) (Z : State) (a0 : Array Value) (hw : oHW a0 Z) (ws : List Jvm.Cond) (xa : Addr) (xz : Int32) (h0 : Heap) (O0 : Ext Z.heap h0) (S_Z : Sta Z Z.heap Y0 Y9 "Z" (.int xz)) (hz : ¬ xz = (0 : Int32)) (F_coder_xa : Fld Z h0 xa Y0 "coder" "B" (.int (0 : Int32))) :
    oCon l Z yy5 b29_ 1 (some .boolean) ws ({ frames := 0, cells := 0, slots := 0, locals := 0 } : Room) #[(.ref xa)] h0 (oPq (some (.int (1 : Int32))) h0) := by
  refine oCon.of (plainFor_of_name pn_0) ?_
  intro p e s m below meth c T X hx hby hml hown hnm hret hlk hZ e0
  have hml : c.maxLocals = 1 := hml
  have K : oKp h0 h0 [] [] := oKp.nil _ _
  refine oWk.cast (g' := (mkF m 0 #[rv xa] [])) (by first | rfl | (simp [entryFrame, mkF, argsToLocals, Value.category]; done)) ?_
  have Oh := K.old O0 all0
  obtain ⟨T, X, e0, st⟩ := getS2 X hx hZ hown (host := "") (Or.inl (oW hw 25 rfl)) Via.refl e0 (S_Z.ext Oh) (g := (mkF m 0 #[rv xa] [])) rfl (hb hby d30_0)
  refine oWk.st (fun _ kt => st _ (zH X hx hby d30_3 rfl rfl ((if0 _ _).trans (feq hz).1) (zA X hx hby d30_6 rfl rfl rfl kt))) ?_
  obtain ⟨T, X, e0, st⟩ := getF X hx hZ hown (host := "") (Or.inl (oW hw 21 rfl)) Via.refl e0 F_coder_xa (g := (mkF m 7 #[rv xa] [(.ref xa)])) rfl rfl (hb hby d30_7)
  refine oWk.to (mkF m 18 #[rv xa] [(.int 1)]) (fun _ kt => st _ (zH X hx hby d30_10 rfl rfl ((if0 _ _).trans (teq (by decide)).2) (zK X hx hby d30_13 rfl (zG X hx hby d30_14 rfl (pc' := 18) rfl kt)))) ?_
  exact oRetZ X hx hlk hret (hb hby d30_18) (Or.inr rfl) (by rw [e0]; exact ⟨rfl, rfl, K⟩) (by decide) (by decide)
def Q_rChL (Z : State) (xa xb : Addr) (xk : ClassId) (xn : Int32) (xv : List Value) (xi : Int32) (xfm : Value) (xz : Int32) (h0 : Heap) (v : Option Value) (h : Heap) (L : List Loc) : Prop := ∃ (nc : Int32), v = some (.int nc) ∧ h = h0 ∧ oKp h0 h [] L ∧ (0 ≤ nc.toInt ∧ nc.toInt < 256)
abbrev yy6 : MethodName := ⟨"java/lang/String", "charAt", "(I)C"⟩
theorem d55_0 : decode b20_ 0 = .ok (.aload_n 0, 1) := by decide +kernel
theorem d55_1 : decode b20_ 1 = .ok (.invokevirtual 492, 3) := by decide +kernel
theorem pd_3 : parseMethodDescriptor "()Z" = some ⟨[], some .boolean⟩ := by decide +kernel
theorem cs3 {a0 : Array Value} {Z : State} (hw : oHW a0 Z) : oCall Z Y0 (.invokevirtual 492) yy5 b29_ 1 (some .boolean) (oRv Z 0 Y0) := oCall.virt (oW hw 150 rfl) (oW hw 151 rfl) (fun _ hZ => notFace_of_selects (args := #[]) (mvT hZ (oW hw 153 rfl))) (oW hw 153 rfl) (oW hw 152 rfl) (oW hw 2 rfl) (oW hw 154 rfl) (by decide) pd_3
theorem d55_4 : decode b20_ 4 = .ok (.ifCond .eq 12, 3) := by decide +kernel
theorem d55_7 : decode b20_ 7 = .ok (.aload_n 0, 1) := by decide +kernel
theorem d55_8 : decode b20_ 8 = .ok (.getfield 9, 3) := by decide +kernel
theorem d55_11 : decode b20_ 11 = .ok (.iload_n 1, 1) := by decide +kernel
theorem d55_12 : decode b20_ 12 = .ok (.invokestatic 495, 3) := by decide +kernel
theorem pd_4 : parseMethodDescriptor "([BI)C" = some ⟨[(.array .byte), .int], some .char⟩ := by decide +kernel
theorem cs4 {a0 : Array Value} {Z : State} (hw : oHW a0 Z) : oCall Z Y0 (.invokestatic 495) yy4 b27_ 2 (some .char) (oRs 2) := oCall.stat (oW hw 327 rfl) (oW hw 328 rfl) (oW hw 28 rfl) (oW hw 329 rfl) (by decide) pd_4
theorem d55_15 : decode b20_ 15 = .ok (.ireturn, 1) := by decide +kernel
theorem rChL (l : Launch) (Z : State) (a0 : Array Value) (hw : oHW a0 Z) (ws : List Jvm.Cond) (xa xb : Addr) (xk : ClassId) (xn : Int32) (xv : List Value) (xi : Int32) (xfm : Value) (xz : Int32) (h0 : Heap) (O0 : Ext Z.heap h0) (S_Z : Sta Z Z.heap Y0 Y9 "Z" (.int xz)) (hz : ¬ xz = (0 : Int32)) (S_F : Sta Z Z.heap Y11 Y15 Y16 xfm) (hcat : xfm.category = 1) (h1 : ¬ xi < (0 : Int32)) (h2 : xi < xn) (E_xa : Exa Z h0 xa Y0) (F_coder_xa : Fld Z h0 xa Y0 "coder" "B" (.int (0 : Int32))) (F_value_xa : Fld Z h0 xa Y0 "value" "[B" (.ref xb)) (V_xb : Arv Z h0 xb xk .byte xn xv (.int (0 : Int32))) :
    oCon l Z yy6 b20_ 2 (some .char) ws ({ frames := 3, cells := 0, slots := 0, locals := 40 } : Room) #[(.ref xa), (.int xi)] h0 (Q_rChL Z xa xb xk xn xv xi xfm xz h0) := by
  refine oCon.of (plainFor_of_name pn_0) ?_
  intro p e s m below meth c T X hx hby hml hown hnm hret hlk hZ e0
  have hml : c.maxLocals = 2 := hml
  have K : oKp h0 h0 [] [] := oKp.nil _ _
  refine oWk.cast (g' := (mkF m 0 #[rv xa, iv xi] [])) (by first | rfl | (simp [entryFrame, mkF, argsToLocals, Value.category]; done)) ?_
  refine oWk.st (fun _ kt => zA X hx hby d55_0 rfl rfl rfl kt) ?_
  have Oh := K.old O0 all0
  obtain ⟨T, L2, X, e0, K, st⟩ := (cs3 hw).pure X hx hZ hown e0 K (A := [(.ref xa)]) ⟨rfl, _, _, rfl, E_xa⟩ (rIsL l Z a0 hw [] xa xz h0 Oh S_Z hz F_coder_xa) (W := 0) (by decide) hml (Ls := #[rv xa, iv xi]) rfl (rest := []) rfl rfl hby d55_1
  refine oWk.st (fun _ kt => st _ (zH X hx hby d55_4 rfl rfl ((if0 _ _).trans (feq (by decide)).1) (zA X hx hby d55_7 rfl rfl rfl kt))) ?_
  obtain ⟨T, X, e0, st⟩ := getF X hx hZ hown (host := "") (Or.inl (oW hw 20 rfl)) Via.refl e0 F_value_xa (g := (mkF m 8 #[rv xa, iv xi] [(.ref xa)])) rfl rfl (hb hby d55_8)
  refine oWk.st (fun _ kt => st _ (zI X hx hby d55_11 rfl rfl kt)) ?_
  obtain ⟨_, T, hq, Lc4, X, e0, hQ, st⟩ := (cs4 hw).run X hx hZ hown e0 (A := [(.ref xb), (.int xi)]) rfl (rLcL l Z a0 hw [] xb xk xn xv xi xfm h0 Oh S_F hcat h1 h2 V_xb) (W := 0) (by decide) hml (Ls := #[rv xa, iv xi]) rfl (rest := []) rfl rfl hby d55_12
  obtain ⟨nc3, rfl, e1, K3, hc3⟩ := hQ
  rw [e1] at e0 K3
  have K := K.call K3 all0
  refine oWk.to (mkF m 15 #[rv xa, iv xi] [(.int nc3)]) (fun _ kt => st _ kt) ?_
  exact oRetN X hx hlk hret (Or.inr (Or.inl rfl)) (show narrow .char (.int nc3) = .int nc3 from congrArg Value.int (oChr hc3)) (hb hby d55_15) (by rw [e0]; exact ⟨nc3, rfl, rfl, K, (hc3)⟩) (by decide) (by decide)
abbrev yy7 : MethodName := ⟨"jdk/internal/util/Preconditions", "checkFromToIndex", "(IIILjava/util/function/BiFunction;)I"⟩
theorem d29_0 : decode b30_ 0 = .ok (.iload_n 0, 1) := by decide +kernel
theorem d29_1 : decode b30_ 1 = .ok (.ifCond .lt 13, 3) := by decide +kernel
theorem d29_4 : decode b30_ 4 = .ok (.iload_n 0, 1) := by decide +kernel
theorem d29_5 : decode b30_ 5 = .ok (.iload_n 1, 1) := by decide +kernel
theorem d29_6 : decode b30_ 6 = .ok (.if_icmp .gt 8, 3) := by decide +kernel
theorem d29_9 : decode b30_ 9 = .ok (.iload_n 1, 1) := by decide +kernel
theorem d29_10 : decode b30_ 10 = .ok (.iload_n 2, 1) := by decide +kernel
theorem d29_11 : decode b30_ 11 = .ok (.if_icmp .le 11, 3) := by decide +kernel
theorem d29_22 : decode b30_ 22 = .ok (.iload_n 0, 1) := by decide +kernel
theorem d29_23 : decode b30_ 23 = .ok (.ireturn, 1) := by decide +kernel
theorem rPFt (l : Launch) (Z : State) (a0 : Array Value) (hw : oHW a0 Z) (ws : List Jvm.Cond) (xi xe xn : Int32) (h0 : Heap) (O0 : Ext Z.heap h0) (h1 : ¬ xi < (0 : Int32)) (h2 : ¬ xe < xi) (h3 : ¬ xn < xe) :
    oCon l Z yy7 b30_ 4 (some .int) ws ({ frames := 0, cells := 0, slots := 0, locals := 0 } : Room) #[(.int xi), (.int xe), (.int xn), .null] h0 (oPq (some (.int xi)) h0) := by
  refine oCon.of (plainFor_of_name pn_1) ?_
  intro p e s m below meth c T X hx hby hml hown hnm hret hlk hZ e0
  have hml : c.maxLocals = 4 := hml
  have K : oKp h0 h0 [] [] := oKp.nil _ _
  refine oWk.cast (g' := (mkF m 0 #[iv xi, iv xe, iv xn, .val .null] [])) (by first | rfl | (simp [entryFrame, mkF, argsToLocals, Value.category]; done)) ?_
  refine oWk.to (mkF m 11 #[iv xi, iv xe, iv xn, .val .null] [(.int xn), (.int xe)]) (fun _ kt => zI X hx hby d29_0 rfl rfl (zH X hx hby d29_1 rfl rfl ((if0 _ _).trans (flt h1).1) (zI X hx hby d29_4 rfl rfl (zI X hx hby d29_5 rfl rfl (zN X hx hby d29_6 rfl rfl (flt h2).2.2.1 (zI X hx hby d29_9 rfl rfl (zI X hx hby d29_10 rfl rfl kt))))))) ?_
  refine oWk.to (mkF m 23 #[iv xi, iv xe, iv xn, .val .null] [(.int xi)]) (fun _ kt => zY X hx hby d29_11 rfl rfl (flt h3).2.2.2 (pc' := 22) rfl (zI X hx hby d29_22 rfl rfl kt)) ?_
  exact oRetI X hx hlk hret (hb hby d29_23) (by rw [e0]; exact ⟨rfl, rfl, K⟩) (by decide) (by decide)
theorem pn_3 : plainName "java/util/Objects" = true := by first | (simp [plainName, overriddenIn]; done) | decide +kernel
abbrev yy8 : MethodName := ⟨"java/util/Objects", "checkFromToIndex", "(III)I"⟩
theorem d28_0 : decode b49_ 0 = .ok (.iload_n 0, 1) := by decide +kernel
theorem d28_1 : decode b49_ 1 = .ok (.iload_n 1, 1) := by decide +kernel
theorem d28_2 : decode b49_ 2 = .ok (.iload_n 2, 1) := by decide +kernel
theorem d28_3 : decode b49_ 3 = .ok (.aconst_null, 1) := by decide +kernel
theorem d28_4 : decode b49_ 4 = .ok (.invokestatic 111, 3) := by decide +kernel
theorem pd_5 : parseMethodDescriptor "(IIILjava/util/function/BiFunction;)I" = some ⟨[.int, .int, .int, (.object "java/util/function/BiFunction")], some .int⟩ := by decide +kernel
theorem cs5 {a0 : Array Value} {Z : State} (hw : oHW a0 Z) : oCall Z Y22 (.invokestatic 111) yy7 b30_ 4 (some .int) (oRs 4) := oCall.stat (oW hw 146 rfl) (oW hw 147 rfl) (oW hw 148 rfl) (oW hw 149 rfl) (by decide) pd_5
theorem d28_7 : decode b49_ 7 = .ok (.ireturn, 1) := by decide +kernel
theorem rOFt (l : Launch) (Z : State) (a0 : Array Value) (hw : oHW a0 Z) (ws : List Jvm.Cond) (xi xe xn : Int32) (h0 : Heap) (O0 : Ext Z.heap h0) (h1 : ¬ xi < (0 : Int32)) (h2 : ¬ xe < xi) (h3 : ¬ xn < xe) :
    oCon l Z yy8 b49_ 3 (some .int) ws ({ frames := 1, cells := 0, slots := 0, locals := 15 } : Room) #[(.int xi), (.int xe), (.int xn)] h0 (oPq (some (.int xi)) h0) := by
  refine oCon.of (plainFor_of_name pn_3) ?_
  intro p e s m below meth c T X hx hby hml hown hnm hret hlk hZ e0
  have hml : c.maxLocals = 3 := hml
  have K : oKp h0 h0 [] [] := oKp.nil _ _
  refine oWk.cast (g' := (mkF m 0 #[iv xi, iv xe, iv xn] [])) (by first | rfl | (simp [entryFrame, mkF, argsToLocals, Value.category]; done)) ?_
  refine oWk.st (fun _ kt => zI X hx hby d28_0 rfl rfl (zI X hx hby d28_1 rfl rfl (zI X hx hby d28_2 rfl rfl (XS.aconstNull X.here hx rfl (hb hby d28_3) kt)))) ?_
  have Oh := K.old O0 all0
  obtain ⟨T, L2, X, e0, K, st⟩ := (cs5 hw).pure X hx hZ hown e0 K (A := [(.int xi), (.int xe), (.int xn), .null]) rfl (rPFt l Z a0 hw [] xi xe xn h0 Oh h1 h2 h3) (W := 0) (by decide) hml (Ls := #[iv xi, iv xe, iv xn]) rfl (rest := []) rfl rfl hby d28_4
  refine oWk.to (mkF m 7 #[iv xi, iv xe, iv xn] [(.int xi)]) (fun _ kt => st _ kt) ?_
  exact oRetI X hx hlk hret (hb hby d28_7) (by rw [e0]; exact ⟨rfl, rfl, K⟩) (by decide) (by decide)
theorem pn_4 : plainName "java/lang/Character" = true := by first | (simp [plainName, overriddenIn]; done) | decide +kernel
abbrev yy9 : MethodName := ⟨"java/lang/Character", "isHighSurrogate", "(C)Z"⟩
theorem d58_0 : decode b24_ 0 = .ok (.iload_n 0, 1) := by decide +kernel
theorem d58_1 : decode b24_ 1 = .ok (.ldc 75, 2) := by decide +kernel
theorem d58_3 : decode b24_ 3 = .ok (.if_icmp .lt 13, 3) := by decide +kernel
theorem d58_16 : decode b24_ 16 = .ok (.iconst 0, 1) := by decide +kernel
theorem d58_17 : decode b24_ 17 = .ok (.ireturn, 1) := by decide +kernel
theorem risHighSurrogate (l : Launch) (Z : State) (a0 : Array Value) (hw : oHW a0 Z) (ws : List Jvm.Cond) (xp : Int32) (h0 : Heap) (O0 : Ext Z.heap h0) (hr : 0 ≤ xp.toInt ∧ xp.toInt < 256) :
    oCon l Z yy9 b24_ 1 (some .boolean) ws ({ frames := 0, cells := 0, slots := 0, locals := 0 } : Room) #[(.int xp)] h0 (oPq (some (.int (0 : Int32))) h0) := by
  refine oCon.of (plainFor_of_name pn_4) ?_
  intro p e s m below meth c T X hx hby hml hown hnm hret hlk hZ e0
  have hml : c.maxLocals = 1 := hml
  have K : oKp h0 h0 [] [] := oKp.nil _ _
  refine oWk.cast (g' := (mkF m 0 #[iv xp] [])) (by first | rfl | (simp [entryFrame, mkF, argsToLocals, Value.category]; done)) ?_
  refine oWk.st (fun _ kt => zI X hx hby d58_0 rfl rfl kt) ?_
  refine oWk.to (mkF m 17 #[iv xp] [(.int 0)]) (fun _ kt => X.ldcI hx hown (mvT hZ (oW hw 339 rfl)) rfl (hb hby d58_1) (zY X hx hby d58_3 rfl rfl (tlt (oLow hr)).1 (pc' := 16) rfl (zK X hx hby d58_16 rfl kt))) ?_
  exact oRetZ X hx hlk hret (hb hby d58_17) (Or.inl rfl) (by rw [e0]; exact ⟨rfl, rfl, K⟩) (by decide) (by decide)
abbrev yy10 : MethodName := ⟨"java/lang/Character", "isSurrogate", "(C)Z"⟩
theorem d59_0 : decode b56_ 0 = .ok (.iload_n 0, 1) := by decide +kernel
theorem d59_1 : decode b56_ 1 = .ok (.ldc 75, 2) := by decide +kernel
theorem d59_3 : decode b56_ 3 = .ok (.if_icmp .lt 13, 3) := by decide +kernel
theorem d59_16 : decode b56_ 16 = .ok (.iconst 0, 1) := by decide +kernel
theorem d59_17 : decode b56_ 17 = .ok (.ireturn, 1) := by decide +kernel
theorem risSurrogate (l : Launch) (Z : State) (a0 : Array Value) (hw : oHW a0 Z) (ws : List Jvm.Cond) (xp : Int32) (h0 : Heap) (O0 : Ext Z.heap h0) (hr : 0 ≤ xp.toInt ∧ xp.toInt < 256) :
    oCon l Z yy10 b56_ 1 (some .boolean) ws ({ frames := 0, cells := 0, slots := 0, locals := 0 } : Room) #[(.int xp)] h0 (oPq (some (.int (0 : Int32))) h0) := by
  refine oCon.of (plainFor_of_name pn_4) ?_
  intro p e s m below meth c T X hx hby hml hown hnm hret hlk hZ e0
  have hml : c.maxLocals = 1 := hml
  have K : oKp h0 h0 [] [] := oKp.nil _ _
  refine oWk.cast (g' := (mkF m 0 #[iv xp] [])) (by first | rfl | (simp [entryFrame, mkF, argsToLocals, Value.category]; done)) ?_
  refine oWk.st (fun _ kt => zI X hx hby d59_0 rfl rfl kt) ?_
  refine oWk.to (mkF m 17 #[iv xp] [(.int 0)]) (fun _ kt => X.ldcI hx hown (mvT hZ (oW hw 339 rfl)) rfl (hb hby d59_1) (zY X hx hby d59_3 rfl rfl (tlt (oLow hr)).1 (pc' := 16) rfl (zK X hx hby d59_16 rfl kt))) ?_
  exact oRetZ X hx hlk hret (hb hby d59_17) (Or.inl rfl) (by rw [e0]; exact ⟨rfl, rfl, K⟩) (by decide) (by decide)
theorem oNn {n : Int32} (h : 0 ≤ n.toInt ∧ n.toInt ≤ 20) : ¬ n < (0 : Int32) := fun q => by
  rw [Int32.lt_iff_toInt_lt] at q
  have e : (0 : Int32).toInt = 0 := by decide
  omega
theorem oIrr (n : Int32) : ¬ n < n := fun q => by
  rw [Int32.lt_iff_toInt_lt] at q
  omega
theorem oT0 {n : Int32} (h : 0 ≤ n.toInt) : (0 : Int32).toInt + (n.toInt.toNat : Int) = n.toInt := by
  have e : (0 : Int32).toInt = 0 := by decide
  omega
theorem pn_5 : plainName "com/example/wakati/wakati/Surrogates" = true := by first | (simp [plainName, overriddenIn]; done) | decide +kernel
abbrev yy11 : MethodName := ⟨"com/example/wakati/wakati/Surrogates", "findLone", "(Ljava/lang/String;)I"⟩
theorem d24_0 : decode b3_ 0 = .ok (.iconst 0, 1) := by decide +kernel
theorem d24_1 : decode b3_ 1 = .ok (.istore_n 1, 1) := by decide +kernel
theorem d24_2 : decode b3_ 2 = .ok (.iload_n 1, 1) := by decide +kernel
theorem d24_3 : decode b3_ 3 = .ok (.aload_n 0, 1) := by decide +kernel
theorem d24_4 : decode b3_ 4 = .ok (.invokevirtual 42, 3) := by decide +kernel
theorem pd_6 : parseMethodDescriptor "()I" = some ⟨[], some .int⟩ := by decide +kernel
theorem cs6 {a0 : Array Value} {Z : State} (hw : oHW a0 Z) : oCall Z Y21 (.invokevirtual 42) yy1 b23_ 1 (some .int) (oRv Z 0 Y0) := oCall.virt (oW hw 120 rfl) (oW hw 121 rfl) (fun _ hZ => notFace_of_selects (args := #[]) (mvT hZ (oW hw 123 rfl))) (oW hw 123 rfl) (oW hw 122 rfl) (oW hw 2 rfl) (oW hw 124 rfl) (by decide) pd_6
theorem d24_7 : decode b3_ 7 = .ok (.if_icmp .ge 60, 3) := by decide +kernel
theorem d24_67 : decode b3_ 67 = .ok (.iconst (-1), 1) := by decide +kernel
theorem d24_68 : decode b3_ 68 = .ok (.ireturn, 1) := by decide +kernel
theorem d24_10 : decode b3_ 10 = .ok (.aload_n 0, 1) := by decide +kernel
theorem d24_11 : decode b3_ 11 = .ok (.iload_n 1, 1) := by decide +kernel
theorem d24_12 : decode b3_ 12 = .ok (.invokevirtual 23, 3) := by decide +kernel
theorem pd_7 : parseMethodDescriptor "(I)C" = some ⟨[.int], some .char⟩ := by decide +kernel
theorem cs7 {a0 : Array Value} {Z : State} (hw : oHW a0 Z) : oCall Z Y21 (.invokevirtual 23) yy6 b20_ 2 (some .char) (oRv Z 1 Y0) := oCall.virt (oW hw 322 rfl) (oW hw 323 rfl) (fun _ hZ => notFace_of_selects (args := #[]) (mvT hZ (oW hw 325 rfl))) (oW hw 325 rfl) (oW hw 324 rfl) (oW hw 2 rfl) (oW hw 326 rfl) (by decide) pd_7
theorem d24_15 : decode b3_ 15 = .ok (.istore_n 2, 1) := by decide +kernel
theorem d24_16 : decode b3_ 16 = .ok (.iload_n 2, 1) := by decide +kernel
theorem d24_17 : decode b3_ 17 = .ok (.invokestatic 46, 3) := by decide +kernel
theorem pd_8 : parseMethodDescriptor "(C)Z" = some ⟨[.char], some .boolean⟩ := by decide +kernel
theorem cs8 {a0 : Array Value} {Z : State} (hw : oHW a0 Z) : oCall Z Y21 (.invokestatic 46) yy9 b24_ 1 (some .boolean) (oRs 1) := oCall.stat (oW hw 335 rfl) (oW hw 336 rfl) (oW hw 337 rfl) (oW hw 338 rfl) (by decide) pd_8
theorem d24_20 : decode b3_ 20 = .ok (.ifCond .eq 32, 3) := by decide +kernel
theorem d24_52 : decode b3_ 52 = .ok (.iload_n 2, 1) := by decide +kernel
theorem d24_53 : decode b3_ 53 = .ok (.invokestatic 55, 3) := by decide +kernel
theorem cs9 {a0 : Array Value} {Z : State} (hw : oHW a0 Z) : oCall Z Y21 (.invokestatic 55) yy10 b56_ 1 (some .boolean) (oRs 1) := oCall.stat (oW hw 340 rfl) (oW hw 341 rfl) (oW hw 337 rfl) (oW hw 342 rfl) (by decide) pd_8
theorem d24_56 : decode b3_ 56 = .ok (.ifCond .eq 5, 3) := by decide +kernel
theorem d24_61 : decode b3_ 61 = .ok (.iinc 1 1, 3) := by decide +kernel
theorem d24_64 : decode b3_ 64 = .ok (.goto (-62), 3) := by decide +kernel
theorem rFlL (l : Launch) (Z : State) (a0 : Array Value) (hw : oHW a0 Z) (ws : List Jvm.Cond) (xa xb : Addr) (xk : ClassId) (xn : Int32) (xv : List Value) (xfm : Value) (xz : Int32) (h0 : Heap) (O0 : Ext Z.heap h0) (S_Z : Sta Z Z.heap Y0 Y9 "Z" (.int xz)) (hz : ¬ xz = (0 : Int32)) (S_F : Sta Z Z.heap Y11 Y15 Y16 xfm) (hcat : xfm.category = 1) (hn : 0 ≤ xn.toInt ∧ xn.toInt ≤ 20) (E_xa : Exa Z h0 xa Y0) (F_coder_xa : Fld Z h0 xa Y0 "coder" "B" (.int (0 : Int32))) (F_value_xa : Fld Z h0 xa Y0 "value" "[B" (.ref xb)) (V_xb : Arv Z h0 xb xk .byte xn xv (.int (0 : Int32))) :
    oCon l Z yy11 b3_ 3 (some .int) ws ({ frames := 7, cells := 0, slots := 0, locals := 130 } : Room) #[(.ref xa)] h0 (oPq (some (.int (-1 : Int32))) h0) := by
  refine oCon.of (plainFor_of_name pn_5) ?_
  intro p e s m below meth c T X hx hby hml hown hnm hret hlk hZ e0
  have hml : c.maxLocals = 3 := hml
  have K : oKp h0 h0 [] [] := oKp.nil _ _
  refine oWk.cast (g' := (mkF m 0 #[rv xa, uu, uu] [])) (by first | rfl | (simp [entryFrame, mkF, argsToLocals, Value.category]; done)) ?_
  refine oWk.to (mkF m 2 #[rv xa, iv 0, uu] []) (fun _ kt => zK X hx hby d24_0 rfl (zSn X hx hby d24_1 rfl rfl (l' := #[rv xa, iv 0, uu]) rfl kt)) ?_
  have J2 : ∀ (d : Nat) (xi : Int32) (sl : Slot), (xi.toInt + d = xn.toInt) → (0 ≤ xi.toInt) → (sl = uu ∨ ∃ x, sl = iv x) → ∀ (T' : State) (L' : List Loc), oStd X T' L' → T'.heap = h0 → oKp h0 h0 [] L' → oWk p.tables e below (oDn s below (oPq (some (.int (-1 : Int32))) h0) ({ frames := 7, cells := 0, slots := 0, locals := 130 } : Room).cells ({ frames := 7, cells := 0, slots := 0, locals := 130 } : Room).slots) T' (mkF m 2 #[rv xa, iv xi, sl] []) := by
    intro d
    induction d with
    | zero =>
      intro xi sl hi hj hsl T LJ X e0 K
      have X : Stand p l e _ _ m _ below meth c T LJ _ _ := X
      refine oWk.st (fun _ kt => zI X hx hby d24_2 rfl rfl (zA X hx hby d24_3 rfl rfl rfl kt)) ?_
      have Oh := K.old O0 all0
      obtain ⟨T, L2, X, e0, K, st⟩ := (cs6 hw).pure X hx hZ hown e0 K (A := [(.ref xa)]) ⟨rfl, _, _, rfl, E_xa⟩ (rLnL l Z a0 hw [] xa xb xk xn xv xz h0 Oh S_Z hz E_xa F_coder_xa F_value_xa V_xb) (W := 1) (by decide) hml (Ls := #[rv xa, iv xi, sl]) rfl (rest := [(.int xi)]) rfl rfl hby d24_4
      refine oWk.to (mkF m 68 #[rv xa, iv xi, sl] [(.int (-1 : Int32))]) (fun _ kt => st _ (zY X hx hby d24_7 rfl rfl (flt (ar0 hi hj hn)).2.1 (pc' := 67) rfl (zK X hx hby d24_67 rfl kt))) ?_
      exact oRetI X hx hlk hret (hb hby d24_68) (by rw [e0]; exact ⟨rfl, rfl, K⟩) (by decide) (by decide)
    | succ d ih =>
      intro xi sl hi hj hsl T LJ X e0 K
      have X : Stand p l e _ _ m _ below meth c T LJ _ _ := X
      refine oWk.st (fun _ kt => zI X hx hby d24_2 rfl rfl (zA X hx hby d24_3 rfl rfl rfl kt)) ?_
      have Oh := K.old O0 all0
      obtain ⟨T, L4, X, e0, K, st⟩ := (cs6 hw).pure X hx hZ hown e0 K (A := [(.ref xa)]) ⟨rfl, _, _, rfl, E_xa⟩ (rLnL l Z a0 hw [] xa xb xk xn xv xz h0 Oh S_Z hz E_xa F_coder_xa F_value_xa V_xb) (W := 1) (by decide) hml (Ls := #[rv xa, iv xi, sl]) rfl (rest := [(.int xi)]) rfl rfl hby d24_4
      refine oWk.st (fun _ kt => st _ (zN X hx hby d24_7 rfl rfl (tlt (ar1 hi hj hn)).2.1 (zA X hx hby d24_10 rfl rfl rfl (zI X hx hby d24_11 rfl rfl kt)))) ?_
      obtain ⟨_, T, hq, Lc6, X, e0, hQ, st⟩ := (cs7 hw).run X hx hZ hown e0 (A := [(.ref xa), (.int xi)]) ⟨rfl, _, _, rfl, E_xa⟩ (rChL l Z a0 hw [] xa xb xk xn xv xi xfm xz h0 Oh S_Z hz S_F hcat (ar2 hi hj hn) (ar1 hi hj hn) E_xa F_coder_xa F_value_xa V_xb) (W := 0) (by decide) hml (Ls := #[rv xa, iv xi, sl]) rfl (rest := []) rfl rfl hby d24_12
      obtain ⟨nc5, rfl, e1, K5, hc5⟩ := hQ
      rw [e1] at e0 K5
      have K := K.call K5 all0
      refine oWk.st (fun _ kt => st _ (zSn X hx hby d24_15 rfl rfl (l' := #[rv xa, iv xi, iv nc5]) (by rcases hsl with rfl | ⟨_, rfl⟩ <;> rfl) (zI X hx hby d24_16 rfl rfl kt))) ?_
      obtain ⟨T, L8, X, e0, K, st⟩ := (cs8 hw).pure X hx hZ hown e0 K (A := [(.int nc5)]) rfl (risHighSurrogate l Z a0 hw [] nc5 h0 Oh hc5) (W := 0) (by decide) hml (Ls := #[rv xa, iv xi, iv nc5]) rfl (rest := []) rfl rfl hby d24_17
      refine oWk.st (fun _ kt => st _ (zF X hx hby d24_20 rfl rfl ((if0 _ _).trans (teq (by decide)).1) (pc' := 52) rfl (zI X hx hby d24_52 rfl rfl kt))) ?_
      obtain ⟨T, L10, X, e0, K, st⟩ := (cs9 hw).pure X hx hZ hown e0 K (A := [(.int nc5)]) rfl (risSurrogate l Z a0 hw [] nc5 h0 Oh hc5) (W := 0) (by decide) hml (Ls := #[rv xa, iv xi, iv nc5]) rfl (rest := []) rfl rfl hby d24_53
      refine oWk.to (mkF m 2 #[rv xa, iv (xi + (1 : Int32)), iv nc5] []) (fun _ kt => st _ (zF X hx hby d24_56 rfl rfl ((if0 _ _).trans (teq (by decide)).1) (pc' := 61) rfl (zC X hx hby d24_61 rfl rfl (l' := #[rv xa, iv (xi + (1 : Int32)), iv nc5]) rfl (zG X hx hby d24_64 rfl (pc' := 2) rfl kt)))) ?_
      exact ih (xi + (1 : Int32)) (iv nc5) ((ar3 hi hj hn)) ((ar4 hi hj hn)) (Or.inr ⟨_, rfl⟩) T _ X e0 K
  exact J2 xn.toInt.toNat 0 uu (oT0 hn.1) (by decide) (Or.inl rfl) T _ X e0 K
abbrev yy12 : MethodName := ⟨"com/example/wakati/wakati/Surrogates", "checkPaired", "(Ljava/lang/String;Ljava/lang/String;)V"⟩
theorem d23_0 : decode b41_ 0 = .ok (.aload_n 1, 1) := by decide +kernel
theorem d23_1 : decode b41_ 1 = .ok (.invokestatic 7, 3) := by decide +kernel
theorem pd_9 : parseMethodDescriptor "(Ljava/lang/String;)I" = some ⟨[(.object "java/lang/String")], some .int⟩ := by decide +kernel
theorem cs10 {a0 : Array Value} {Z : State} (hw : oHW a0 Z) : oCall Z Y21 (.invokestatic 7) yy11 b3_ 3 (some .int) (oRs 1) := oCall.stat (oW hw 117 rfl) (oW hw 118 rfl) (oW hw 115 rfl) (oW hw 119 rfl) (by decide) pd_9
theorem d23_4 : decode b41_ 4 = .ok (.istore_n 2, 1) := by decide +kernel
theorem d23_5 : decode b41_ 5 = .ok (.iload_n 2, 1) := by decide +kernel
theorem d23_6 : decode b41_ 6 = .ok (.ifCond .lt 45, 3) := by decide +kernel
theorem d23_51 : decode b41_ 51 = .ok (.return_, 1) := by decide +kernel
theorem rCpL (l : Launch) (Z : State) (a0 : Array Value) (hw : oHW a0 Z) (ws : List Jvm.Cond) (xy xa xb : Addr) (xk : ClassId) (xn : Int32) (xv : List Value) (xfm : Value) (xz : Int32) (h0 : Heap) (O0 : Ext Z.heap h0) (S_Z : Sta Z Z.heap Y0 Y9 "Z" (.int xz)) (hz : ¬ xz = (0 : Int32)) (S_F : Sta Z Z.heap Y11 Y15 Y16 xfm) (hcat : xfm.category = 1) (hn : 0 ≤ xn.toInt ∧ xn.toInt ≤ 20) (E_xa : Exa Z h0 xa Y0) (F_coder_xa : Fld Z h0 xa Y0 "coder" "B" (.int (0 : Int32))) (F_value_xa : Fld Z h0 xa Y0 "value" "[B" (.ref xb)) (V_xb : Arv Z h0 xb xk .byte xn xv (.int (0 : Int32))) :
    oCon l Z yy12 b41_ 3 none ws ({ frames := 8, cells := 0, slots := 0, locals := 144 } : Room) #[(.ref xy), (.ref xa)] h0 (oPq none h0) := by
  refine oCon.of (plainFor_of_name pn_5) ?_
  intro p e s m below meth c T X hx hby hml hown hnm hret hlk hZ e0
  have hml : c.maxLocals = 3 := hml
  have K : oKp h0 h0 [] [] := oKp.nil _ _
  refine oWk.cast (g' := (mkF m 0 #[rv xy, rv xa, uu] [])) (by first | rfl | (simp [entryFrame, mkF, argsToLocals, Value.category]; done)) ?_
  refine oWk.st (fun _ kt => zA X hx hby d23_0 rfl rfl rfl kt) ?_
  have Oh := K.old O0 all0
  obtain ⟨T, L2, X, e0, K, st⟩ := (cs10 hw).pure X hx hZ hown e0 K (A := [(.ref xa)]) rfl (rFlL l Z a0 hw [] xa xb xk xn xv xfm xz h0 Oh S_Z hz S_F hcat hn E_xa F_coder_xa F_value_xa V_xb) (W := 0) (by decide) hml (Ls := #[rv xy, rv xa, uu]) rfl (rest := []) rfl rfl hby d23_1
  refine oWk.to (mkF m 51 #[rv xy, rv xa, iv (-1 : Int32)] []) (fun _ kt => st _ (zSn X hx hby d23_4 rfl rfl (l' := #[rv xy, rv xa, iv (-1 : Int32)]) rfl (zI X hx hby d23_5 rfl rfl (zF X hx hby d23_6 rfl rfl ((if0 _ _).trans (tlt (by decide)).1) (pc' := 51) rfl kt)))) ?_
  exact oRetV X hx hlk hret (hb hby d23_51) (by rw [e0]; exact ⟨rfl, rfl, K⟩) (by decide) (by decide)
abbrev yy13 : MethodName := ⟨"java/lang/String", "codePointCount", "(II)I"⟩
theorem d27_0 : decode b15_ 0 = .ok (.iload_n 1, 1) := by decide +kernel
theorem d27_1 : decode b15_ 1 = .ok (.iload_n 2, 1) := by decide +kernel
theorem d27_2 : decode b15_ 2 = .ok (.aload_n 0, 1) := by decide +kernel
theorem d27_3 : decode b15_ 3 = .ok (.invokevirtual 505, 3) := by decide +kernel
theorem cs11 {a0 : Array Value} {Z : State} (hw : oHW a0 Z) : oCall Z Y0 (.invokevirtual 505) yy1 b23_ 1 (some .int) (oRv Z 0 Y0) := oCall.virt (oW hw 142 rfl) (oW hw 121 rfl) (fun _ hZ => notFace_of_selects (args := #[]) (mvT hZ (oW hw 123 rfl))) (oW hw 123 rfl) (oW hw 122 rfl) (oW hw 2 rfl) (oW hw 124 rfl) (by decide) pd_6
theorem d27_6 : decode b15_ 6 = .ok (.invokestatic 511, 3) := by decide +kernel
theorem pd_10 : parseMethodDescriptor "(III)I" = some ⟨[.int, .int, .int], some .int⟩ := by decide +kernel
theorem cs12 {a0 : Array Value} {Z : State} (hw : oHW a0 Z) : oCall Z Y0 (.invokestatic 511) yy8 b49_ 3 (some .int) (oRs 3) := oCall.stat (oW hw 143 rfl) (oW hw 144 rfl) (oW hw 110 rfl) (oW hw 145 rfl) (by decide) pd_10
theorem d27_9 : decode b15_ 9 = .ok (.pop, 1) := by decide +kernel
theorem d27_10 : decode b15_ 10 = .ok (.aload_n 0, 1) := by decide +kernel
theorem d27_11 : decode b15_ 11 = .ok (.invokevirtual 492, 3) := by decide +kernel
theorem d27_14 : decode b15_ 14 = .ok (.ifCond .eq 7, 3) := by decide +kernel
theorem d27_17 : decode b15_ 17 = .ok (.iload_n 2, 1) := by decide +kernel
theorem d27_18 : decode b15_ 18 = .ok (.iload_n 1, 1) := by decide +kernel
theorem d27_19 : decode b15_ 19 = .ok (.isub, 1) := by decide +kernel
theorem d27_20 : decode b15_ 20 = .ok (.ireturn, 1) := by decide +kernel
theorem rCcL (l : Launch) (Z : State) (a0 : Array Value) (hw : oHW a0 Z) (ws : List Jvm.Cond) (xa xb : Addr) (xk : ClassId) (xn : Int32) (xv : List Value) (xz : Int32) (h0 : Heap) (O0 : Ext Z.heap h0) (S_Z : Sta Z Z.heap Y0 Y9 "Z" (.int xz)) (hz : ¬ xz = (0 : Int32)) (hn : 0 ≤ xn.toInt ∧ xn.toInt ≤ 20) (E_xa : Exa Z h0 xa Y0) (F_coder_xa : Fld Z h0 xa Y0 "coder" "B" (.int (0 : Int32))) (F_value_xa : Fld Z h0 xa Y0 "value" "[B" (.ref xb)) (V_xb : Arv Z h0 xb xk .byte xn xv (.int (0 : Int32))) :
    oCon l Z yy13 b15_ 3 (some .int) ws ({ frames := 4, cells := 0, slots := 0, locals := 100 } : Room) #[(.ref xa), (.int (0 : Int32)), (.int xn)] h0 (oPq (some (.int xn)) h0) := by
  refine oCon.of (plainFor_of_name pn_0) ?_
  intro p e s m below meth c T X hx hby hml hown hnm hret hlk hZ e0
  have hml : c.maxLocals = 3 := hml
  have K : oKp h0 h0 [] [] := oKp.nil _ _
  refine oWk.cast (g' := (mkF m 0 #[rv xa, iv 0, iv xn] [])) (by first | rfl | (simp [entryFrame, mkF, argsToLocals, Value.category]; done)) ?_
  refine oWk.st (fun _ kt => zI X hx hby d27_0 rfl rfl (zI X hx hby d27_1 rfl rfl (zA X hx hby d27_2 rfl rfl rfl kt))) ?_
  have Oh := K.old O0 all0
  obtain ⟨T, L2, X, e0, K, st⟩ := (cs11 hw).pure X hx hZ hown e0 K (A := [(.ref xa)]) ⟨rfl, _, _, rfl, E_xa⟩ (rLnL l Z a0 hw [] xa xb xk xn xv xz h0 Oh S_Z hz E_xa F_coder_xa F_value_xa V_xb) (W := 2) (by decide) hml (Ls := #[rv xa, iv 0, iv xn]) rfl (rest := [(.int xn), (.int (0 : Int32))]) rfl rfl hby d27_3
  refine oWk.st (fun _ kt => st _ kt) ?_
  obtain ⟨T, L4, X, e0, K, st⟩ := (cs12 hw).pure X hx hZ hown e0 K (A := [(.int (0 : Int32)), (.int xn), (.int xn)]) rfl (rOFt l Z a0 hw [] (0 : Int32) xn xn h0 Oh (by decide) (oNn hn) (oIrr xn)) (W := 0) (by decide) hml (Ls := #[rv xa, iv 0, iv xn]) rfl (rest := []) rfl rfl hby d27_6
  refine oWk.st (fun _ kt => st _ (XS.pop X.here hx rfl (hb hby d27_9) rfl rfl (zA X hx hby d27_10 rfl rfl rfl kt))) ?_
  obtain ⟨T, L6, X, e0, K, st⟩ := (cs3 hw).pure X hx hZ hown e0 K (A := [(.ref xa)]) ⟨rfl, _, _, rfl, E_xa⟩ (rIsL l Z a0 hw [] xa xz h0 Oh S_Z hz F_coder_xa) (W := 0) (by decide) hml (Ls := #[rv xa, iv 0, iv xn]) rfl (rest := []) rfl rfl hby d27_11
  refine oWk.to (mkF m 20 #[rv xa, iv 0, iv xn] [(.int (xn - (0 : Int32)))]) (fun _ kt => st _ (zH X hx hby d27_14 rfl rfl ((if0 _ _).trans (feq (by decide)).1) (zI X hx hby d27_17 rfl rfl (zI X hx hby d27_18 rfl rfl (XS.isub X.here hx rfl (hb hby d27_19) rfl kt))))) ?_
  exact oRetI X hx hlk hret (hb hby d27_20) (by rw [e0]; exact ⟨(congrArg (fun z => some (Value.int z)) (Int32.sub_zero xn)), rfl, K⟩) (by decide) (by decide)
abbrev yy14 : MethodName := ⟨"java/lang/String", "codePointAt", "(I)I"⟩
theorem d60_0 : decode b5_ 0 = .ok (.aload_n 0, 1) := by decide +kernel
theorem d60_1 : decode b5_ 1 = .ok (.invokevirtual 492, 3) := by decide +kernel
theorem d60_4 : decode b5_ 4 = .ok (.ifCond .eq 23, 3) := by decide +kernel
theorem d60_7 : decode b5_ 7 = .ok (.iload_n 1, 1) := by decide +kernel
theorem d60_8 : decode b5_ 8 = .ok (.aload_n 0, 1) := by decide +kernel
theorem d60_9 : decode b5_ 9 = .ok (.getfield 9, 3) := by decide +kernel
theorem d60_12 : decode b5_ 12 = .ok (.arraylength, 1) := by decide +kernel
theorem d60_13 : decode b5_ 13 = .ok (.invokestatic 499, 3) := by decide +kernel
theorem cs13 {a0 : Array Value} {Z : State} (hw : oHW a0 Z) : oCall Z Y0 (.invokestatic 499) yy3 b40_ 2 none (oRs 2) := oCall.stat (oW hw 348 rfl) (oW hw 331 rfl) (oW hw 2 rfl) (oW hw 332 rfl) (by decide) pd_2
theorem d60_16 : decode b5_ 16 = .ok (.aload_n 0, 1) := by decide +kernel
theorem d60_17 : decode b5_ 17 = .ok (.getfield 9, 3) := by decide +kernel
theorem d60_20 : decode b5_ 20 = .ok (.iload_n 1, 1) := by decide +kernel
theorem d60_21 : decode b5_ 21 = .ok (.baload, 1) := by decide +kernel
theorem d60_22 : decode b5_ 22 = .ok (.sipush 255, 3) := by decide +kernel
theorem d60_25 : decode b5_ 25 = .ok (.iand, 1) := by decide +kernel
theorem d60_26 : decode b5_ 26 = .ok (.ireturn, 1) := by decide +kernel
theorem rCaL (l : Launch) (Z : State) (a0 : Array Value) (hw : oHW a0 Z) (ws : List Jvm.Cond) (xa xb : Addr) (xk : ClassId) (xn : Int32) (xv : List Value) (xi : Int32) (xfm : Value) (xz : Int32) (h0 : Heap) (O0 : Ext Z.heap h0) (S_Z : Sta Z Z.heap Y0 Y9 "Z" (.int xz)) (hz : ¬ xz = (0 : Int32)) (S_F : Sta Z Z.heap Y11 Y15 Y16 xfm) (hcat : xfm.category = 1) (h1 : ¬ xi < (0 : Int32)) (h2 : xi < xn) (E_xa : Exa Z h0 xa Y0) (F_coder_xa : Fld Z h0 xa Y0 "coder" "B" (.int (0 : Int32))) (F_value_xa : Fld Z h0 xa Y0 "value" "[B" (.ref xb)) (V_xb : Arv Z h0 xb xk .byte xn xv (.int (0 : Int32))) :
    oCon l Z yy14 b5_ 3 (some .int) ws ({ frames := 4, cells := 0, slots := 0, locals := 100 } : Room) #[(.ref xa), (.int xi)] h0 (Q_cp 1 h0) := by
  refine oCon.of (plainFor_of_name pn_0) ?_
  intro p e s m below meth c T X hx hby hml hown hnm hret hlk hZ e0
  have hml : c.maxLocals = 3 := hml
  have K : oKp h0 h0 [] [] := oKp.nil _ _
  refine oWk.cast (g' := (mkF m 0 #[rv xa, iv xi, uu] [])) (by first | rfl | (simp [entryFrame, mkF, argsToLocals, Value.category]; done)) ?_
  refine oWk.st (fun _ kt => zA X hx hby d60_0 rfl rfl rfl kt) ?_
  have Oh := K.old O0 all0
  obtain ⟨T, L2, X, e0, K, st⟩ := (cs3 hw).pure X hx hZ hown e0 K (A := [(.ref xa)]) ⟨rfl, _, _, rfl, E_xa⟩ (rIsL l Z a0 hw [] xa xz h0 Oh S_Z hz F_coder_xa) (W := 0) (by decide) hml (Ls := #[rv xa, iv xi, uu]) rfl (rest := []) rfl rfl hby d60_1
  refine oWk.st (fun _ kt => st _ (zH X hx hby d60_4 rfl rfl ((if0 _ _).trans (feq (by decide)).1) (zI X hx hby d60_7 rfl rfl (zA X hx hby d60_8 rfl rfl rfl kt)))) ?_
  obtain ⟨T, X, e0, st⟩ := getF X hx hZ hown (host := "") (Or.inl (oW hw 20 rfl)) Via.refl e0 F_value_xa (g := (mkF m 9 #[rv xa, iv xi, uu] [(.ref xa), (.int xi)])) rfl rfl (hb hby d60_9)
  refine oWk.st (fun _ kt => st _ (oAl X hx hZ e0 V_xb hby d60_12 rfl rfl kt)) ?_
  obtain ⟨T, L5, X, e0, K, st⟩ := (cs13 hw).pure X hx hZ hown e0 K (A := [(.int xi), (.int xn)]) rfl (rCkI l Z a0 hw [] xi xn xfm h0 Oh S_F hcat h1 h2) (W := 0) (by decide) hml (Ls := #[rv xa, iv xi, uu]) rfl (rest := []) rfl rfl hby d60_13
  refine oWk.st (fun _ kt => st _ (zA X hx hby d60_16 rfl rfl rfl kt)) ?_
  obtain ⟨T, X, e0, st⟩ := getF X hx hZ hown (host := "") (Or.inl (oW hw 20 rfl)) Via.refl e0 F_value_xa (g := (mkF m 17 #[rv xa, iv xi, uu] [(.ref xa)])) rfl rfl (hb hby d60_17)
  refine oWk.to (mkF m 21 #[rv xa, iv xi, uu] [(.int xi), (.ref xb)]) (fun _ kt => st _ (zI X hx hby d60_20 rfl rfl kt)) ?_
  obtain ⟨cv, hcv⟩ := oGetB V_xb (i := xi) ⟨h1, h2⟩
  refine oWk.to (mkF m 26 #[rv xa, iv xi, uu] [(.int (cv &&& (255 : Int32)))]) (fun _ kt => oLdB X hx hZ e0 V_xb xi (.int cv) ⟨h1, h2⟩ hcv hby d60_21 rfl rfl (zM X hx hby d60_22 rfl (XS.iand X.here hx rfl (hb hby d60_25) rfl kt))) ?_
  exact oRetI X hx hlk hret (hb hby d60_26) (by rw [e0]; exact ⟨(cv &&& (255 : Int32)), rfl, rfl, K, (oSmall (oM255 cv))⟩) (by decide) (by decide)
theorem d58_6 : decode b24_ 6 = .ok (.iload_n 0, 1) := by decide +kernel
theorem d58_7 : decode b24_ 7 = .ok (.ldc 76, 2) := by decide +kernel
theorem d58_9 : decode b24_ 9 = .ok (.if_icmp .ge 7, 3) := by decide +kernel
theorem d58_12 : decode b24_ 12 = .ok (.iconst 1, 1) := by decide +kernel
theorem d58_13 : decode b24_ 13 = .ok (.goto 4, 3) := by decide +kernel
theorem risHighSurrogate_oH (l : Launch) (Z : State) (a0 : Array Value) (hw : oHW a0 Z) (ws : List Jvm.Cond)  (h0 : Heap) (O0 : Ext Z.heap h0)  :
    oCon l Z yy9 b24_ 1 (some .boolean) ws ({ frames := 0, cells := 0, slots := 0, locals := 0 } : Room) #[(.int oH)] h0 (oPq (some (.int (1 : Int32))) h0) := by
  refine oCon.of (plainFor_of_name pn_4) ?_
  intro p e s m below meth c T X hx hby hml hown hnm hret hlk hZ e0
  have hml : c.maxLocals = 1 := hml
  have K : oKp h0 h0 [] [] := oKp.nil _ _
  refine oWk.cast (g' := (mkF m 0 #[iv oH] [])) (by first | rfl | (simp [entryFrame, mkF, argsToLocals, Value.category]; done)) ?_
  refine oWk.st (fun _ kt => zI X hx hby d58_0 rfl rfl kt) ?_
  refine oWk.st (fun _ kt => X.ldcI hx hown (mvT hZ (oW hw 339 rfl)) rfl (hb hby d58_1) (zN X hx hby d58_3 rfl rfl (flt (by decide)).1 (zI X hx hby d58_6 rfl rfl kt))) ?_
  refine oWk.to (mkF m 17 #[iv oH] [(.int 1)]) (fun _ kt => X.ldcI hx hown (mvT hZ (oW hw 367 rfl)) rfl (hb hby d58_7) (zN X hx hby d58_9 rfl rfl (tlt (by decide)).2.1 (zK X hx hby d58_12 rfl (zG X hx hby d58_13 rfl (pc' := 17) rfl kt)))) ?_
  exact oRetZ X hx hlk hret (hb hby d58_17) (Or.inr rfl) (by rw [e0]; exact ⟨rfl, rfl, K⟩) (by decide) (by decide)
abbrev yy15 : MethodName := ⟨"java/lang/Character", "isLowSurrogate", "(C)Z"⟩
theorem d65_0 : decode b31_ 0 = .ok (.iload_n 0, 1) := by decide +kernel
theorem d65_1 : decode b31_ 1 = .ok (.ldc 76, 2) := by decide +kernel
theorem d65_3 : decode b31_ 3 = .ok (.if_icmp .lt 13, 3) := by decide +kernel
theorem d65_6 : decode b31_ 6 = .ok (.iload_n 0, 1) := by decide +kernel
theorem d65_7 : decode b31_ 7 = .ok (.ldc 77, 2) := by decide +kernel
theorem d65_9 : decode b31_ 9 = .ok (.if_icmp .ge 7, 3) := by decide +kernel
theorem d65_12 : decode b31_ 12 = .ok (.iconst 1, 1) := by decide +kernel
theorem d65_13 : decode b31_ 13 = .ok (.goto 4, 3) := by decide +kernel
theorem d65_17 : decode b31_ 17 = .ok (.ireturn, 1) := by decide +kernel
theorem risLowSurrogate_oL (l : Launch) (Z : State) (a0 : Array Value) (hw : oHW a0 Z) (ws : List Jvm.Cond)  (h0 : Heap) (O0 : Ext Z.heap h0)  :
    oCon l Z yy15 b31_ 1 (some .boolean) ws ({ frames := 0, cells := 0, slots := 0, locals := 0 } : Room) #[(.int oL)] h0 (oPq (some (.int (1 : Int32))) h0) := by
  refine oCon.of (plainFor_of_name pn_4) ?_
  intro p e s m below meth c T X hx hby hml hown hnm hret hlk hZ e0
  have hml : c.maxLocals = 1 := hml
  have K : oKp h0 h0 [] [] := oKp.nil _ _
  refine oWk.cast (g' := (mkF m 0 #[iv oL] [])) (by first | rfl | (simp [entryFrame, mkF, argsToLocals, Value.category]; done)) ?_
  refine oWk.st (fun _ kt => zI X hx hby d65_0 rfl rfl kt) ?_
  refine oWk.st (fun _ kt => X.ldcI hx hown (mvT hZ (oW hw 367 rfl)) rfl (hb hby d65_1) (zN X hx hby d65_3 rfl rfl (flt (by decide)).1 (zI X hx hby d65_6 rfl rfl kt))) ?_
  refine oWk.to (mkF m 17 #[iv oL] [(.int 1)]) (fun _ kt => X.ldcI hx hown (mvT hZ (oW hw 371 rfl)) rfl (hb hby d65_7) (zN X hx hby d65_9 rfl rfl (tlt (by decide)).2.1 (zK X hx hby d65_12 rfl (zG X hx hby d65_13 rfl (pc' := 17) rfl kt)))) ?_
  exact oRetZ X hx hlk hret (hb hby d65_17) (Or.inr rfl) (by rw [e0]; exact ⟨rfl, rfl, K⟩) (by decide) (by decide)
theorem rCdr1 (l : Launch) (Z : State) (a0 : Array Value) (hw : oHW a0 Z) (ws : List Jvm.Cond) (xa : Addr) (xz : Int32) (h0 : Heap) (O0 : Ext Z.heap h0) (S_Z : Sta Z Z.heap Y0 Y9 "Z" (.int xz)) (hz : ¬ xz = (0 : Int32)) (F_coder_xa : Fld Z h0 xa Y0 "coder" "B" (.int (1 : Int32))) :
    oCon l Z yy0 b45_ 1 (some .byte) ws ({ frames := 0, cells := 0, slots := 0, locals := 0 } : Room) #[(.ref xa)] h0 (oPq (some (.int (1 : Int32))) h0) := by
  refine oCon.of (plainFor_of_name pn_0) ?_
  intro p e s m below meth c T X hx hby hml hown hnm hret hlk hZ e0
  have hml : c.maxLocals = 1 := hml
  have K : oKp h0 h0 [] [] := oKp.nil _ _
  refine oWk.cast (g' := (mkF m 0 #[rv xa] [])) (by first | rfl | (simp [entryFrame, mkF, argsToLocals, Value.category]; done)) ?_
  have Oh := K.old O0 all0
  obtain ⟨T, X, e0, st⟩ := getS2 X hx hZ hown (host := "") (Or.inl (oW hw 25 rfl)) Via.refl e0 (S_Z.ext Oh) (g := (mkF m 0 #[rv xa] [])) rfl (hb hby d26_0)
  refine oWk.st (fun _ kt => st _ (zH X hx hby d26_3 rfl rfl ((if0 _ _).trans (feq hz).1) (zA X hx hby d26_6 rfl rfl rfl kt))) ?_
  obtain ⟨T, X, e0, st⟩ := getF X hx hZ hown (host := "") (Or.inl (oW hw 21 rfl)) Via.refl e0 F_coder_xa (g := (mkF m 7 #[rv xa] [(.ref xa)])) rfl rfl (hb hby d26_7)
  refine oWk.to (mkF m 14 #[rv xa] [(.int 1)]) (fun _ kt => st _ (zG X hx hby d26_10 rfl (pc' := 14) rfl kt)) ?_
  exact oRetN X hx hlk hret (Or.inl rfl) rfl (hb hby d26_14) (by rw [e0]; exact ⟨rfl, rfl, K⟩) (by decide) (by decide)
theorem rLnU_2 (l : Launch) (Z : State) (a0 : Array Value) (hw : oHW a0 Z) (ws : List Jvm.Cond) (xa xb : Addr) (xk : ClassId) (xz xc0 xc1 : Int32) (h0 : Heap) (O0 : Ext Z.heap h0) (S_Z : Sta Z Z.heap Y0 Y9 "Z" (.int xz)) (hz : ¬ xz = (0 : Int32)) (E_xa : Exa Z h0 xa Y0) (F_coder_xa : Fld Z h0 xa Y0 "coder" "B" (.int (1 : Int32))) (F_value_xa : Fld Z h0 xa Y0 "value" "[B" (.ref xb)) (V_xb : Arv Z h0 xb xk .byte (4 : Int32) [(iu0 xc0), (iu8 xc0), (iu0 xc1), (iu8 xc1)] (.int (0 : Int32))) :
    oCon l Z yy1 b23_ 1 (some .int) ws ({ frames := 1, cells := 0, slots := 0, locals := 13 } : Room) #[(.ref xa)] h0 (oPq (some (.int (2 : Int32))) h0) := by
  refine oCon.of (plainFor_of_name pn_0) ?_
  intro p e s m below meth c T X hx hby hml hown hnm hret hlk hZ e0
  have hml : c.maxLocals = 1 := hml
  have K : oKp h0 h0 [] [] := oKp.nil _ _
  refine oWk.cast (g' := (mkF m 0 #[rv xa] [])) (by first | rfl | (simp [entryFrame, mkF, argsToLocals, Value.category]; done)) ?_
  refine oWk.st (fun _ kt => zA X hx hby d25_0 rfl rfl rfl kt) ?_
  obtain ⟨T, X, e0, st⟩ := getF X hx hZ hown (host := "") (Or.inl (oW hw 20 rfl)) Via.refl e0 F_value_xa (g := (mkF m 1 #[rv xa] [(.ref xa)])) rfl rfl (hb hby d25_1)
  refine oWk.st (fun _ kt => st _ (oAl X hx hZ e0 V_xb hby d25_4 rfl rfl (zA X hx hby d25_5 rfl rfl rfl kt))) ?_
  have Oh := K.old O0 all0
  obtain ⟨T, L3, X, e0, K, st⟩ := (cs0 hw).pure X hx hZ hown e0 K (A := [(.ref xa)]) ⟨rfl, _, _, rfl, E_xa⟩ (rCdr1 l Z a0 hw [] xa xz h0 Oh S_Z hz F_coder_xa) (W := 1) (by decide) hml (Ls := #[rv xa]) rfl (rest := [(.int (4 : Int32))]) rfl rfl hby d25_6
  refine oWk.to (mkF m 10 #[rv xa] [(.int 2)]) (fun _ kt => st _ (XS.ishr X.here hx rfl (hb hby d25_9) rfl kt)) ?_
  exact oRetI X hx hlk hret (hb hby d25_10) (by rw [e0]; exact ⟨rfl, rfl, K⟩) (by decide) (by decide)
theorem d30_17 : decode b29_ 17 = .ok (.iconst 0, 1) := by decide +kernel
theorem rIsL1 (l : Launch) (Z : State) (a0 : Array Value) (hw : oHW a0 Z) (ws : List Jvm.Cond) (xa : Addr) (xz : Int32) (h0 : Heap) (O0 : Ext Z.heap h0) (S_Z : Sta Z Z.heap Y0 Y9 "Z" (.int xz)) (hz : ¬ xz = (0 : Int32)) (F_coder_xa : Fld Z h0 xa Y0 "coder" "B" (.int (1 : Int32))) :
    oCon l Z yy5 b29_ 1 (some .boolean) ws ({ frames := 0, cells := 0, slots := 0, locals := 0 } : Room) #[(.ref xa)] h0 (oPq (some (.int (0 : Int32))) h0) := by
  refine oCon.of (plainFor_of_name pn_0) ?_
  intro p e s m below meth c T X hx hby hml hown hnm hret hlk hZ e0
  have hml : c.maxLocals = 1 := hml
  have K : oKp h0 h0 [] [] := oKp.nil _ _
  refine oWk.cast (g' := (mkF m 0 #[rv xa] [])) (by first | rfl | (simp [entryFrame, mkF, argsToLocals, Value.category]; done)) ?_
  have Oh := K.old O0 all0
  obtain ⟨T, X, e0, st⟩ := getS2 X hx hZ hown (host := "") (Or.inl (oW hw 25 rfl)) Via.refl e0 (S_Z.ext Oh) (g := (mkF m 0 #[rv xa] [])) rfl (hb hby d30_0)
  refine oWk.st (fun _ kt => st _ (zH X hx hby d30_3 rfl rfl ((if0 _ _).trans (feq hz).1) (zA X hx hby d30_6 rfl rfl rfl kt))) ?_
  obtain ⟨T, X, e0, st⟩ := getF X hx hZ hown (host := "") (Or.inl (oW hw 21 rfl)) Via.refl e0 F_coder_xa (g := (mkF m 7 #[rv xa] [(.ref xa)])) rfl rfl (hb hby d30_7)
  refine oWk.to (mkF m 18 #[rv xa] [(.int 0)]) (fun _ kt => st _ (zF X hx hby d30_10 rfl rfl ((if0 _ _).trans (feq (by decide)).2) (pc' := 17) rfl (zK X hx hby d30_17 rfl kt))) ?_
  exact oRetZ X hx hlk hret (hb hby d30_18) (Or.inl rfl) (by rw [e0]; exact ⟨rfl, rfl, K⟩) (by decide) (by decide)
theorem pn_6 : plainName "java/lang/StringUTF16" = true := by first | (simp [plainName, overriddenIn]; done) | decide +kernel
abbrev yy16 : MethodName := ⟨"java/lang/StringUTF16", "length", "([B)I"⟩
theorem d64_0 : decode b57_ 0 = .ok (.aload_n 0, 1) := by decide +kernel
theorem d64_1 : decode b57_ 1 = .ok (.arraylength, 1) := by decide +kernel
theorem d64_2 : decode b57_ 2 = .ok (.iconst 1, 1) := by decide +kernel
theorem d64_3 : decode b57_ 3 = .ok (.ishr, 1) := by decide +kernel
theorem d64_4 : decode b57_ 4 = .ok (.ireturn, 1) := by decide +kernel
theorem rUL_2 (l : Launch) (Z : State) (a0 : Array Value) (hw : oHW a0 Z) (ws : List Jvm.Cond) (xb : Addr) (xk : ClassId) (xc0 xc1 : Int32) (h0 : Heap) (O0 : Ext Z.heap h0) (V_xb : Arv Z h0 xb xk .byte (4 : Int32) [(iu0 xc0), (iu8 xc0), (iu0 xc1), (iu8 xc1)] (.int (0 : Int32))) :
    oCon l Z yy16 b57_ 1 (some .int) ws ({ frames := 0, cells := 0, slots := 0, locals := 0 } : Room) #[(.ref xb)] h0 (oPq (some (.int (2 : Int32))) h0) := by
  refine oCon.of (plainFor_of_name pn_6) ?_
  intro p e s m below meth c T X hx hby hml hown hnm hret hlk hZ e0
  have hml : c.maxLocals = 1 := hml
  have K : oKp h0 h0 [] [] := oKp.nil _ _
  refine oWk.cast (g' := (mkF m 0 #[rv xb] [])) (by first | rfl | (simp [entryFrame, mkF, argsToLocals, Value.category]; done)) ?_
  refine oWk.to (mkF m 4 #[rv xb] [(.int 2)]) (fun _ kt => zA X hx hby d64_0 rfl rfl rfl (oAl X hx hZ e0 V_xb hby d64_1 rfl rfl (zK X hx hby d64_2 rfl (XS.ishr X.here hx rfl (hb hby d64_3) rfl kt)))) ?_
  exact oRetI X hx hlk hret (hb hby d64_4) (by rw [e0]; exact ⟨rfl, rfl, K⟩) (by decide) (by decide)
abbrev yy17 : MethodName := ⟨"java/lang/StringUTF16", "checkIndex", "(I[B)V"⟩
theorem d63_0 : decode b50_ 0 = .ok (.iload_n 0, 1) := by decide +kernel
theorem d63_1 : decode b50_ 1 = .ok (.aload_n 1, 1) := by decide +kernel
theorem d63_2 : decode b50_ 2 = .ok (.invokestatic 48, 3) := by decide +kernel
theorem pd_11 : parseMethodDescriptor "([B)I" = some ⟨[(.array .byte)], some .int⟩ := by decide +kernel
theorem cs14 {a0 : Array Value} {Z : State} (hw : oHW a0 Z) : oCall Z Y4 (.invokestatic 48) yy16 b57_ 1 (some .int) (oRs 1) := oCall.stat (oW hw 363 rfl) (oW hw 364 rfl) (oW hw 39 rfl) (oW hw 365 rfl) (by decide) pd_11
theorem d63_5 : decode b50_ 5 = .ok (.invokestatic 414, 3) := by decide +kernel
theorem cs15 {a0 : Array Value} {Z : State} (hw : oHW a0 Z) : oCall Z Y4 (.invokestatic 414) yy3 b40_ 2 none (oRs 2) := oCall.stat (oW hw 366 rfl) (oW hw 331 rfl) (oW hw 2 rfl) (oW hw 332 rfl) (by decide) pd_2
theorem d63_8 : decode b50_ 8 = .ok (.return_, 1) := by decide +kernel
theorem rUCk_2_0 (l : Launch) (Z : State) (a0 : Array Value) (hw : oHW a0 Z) (ws : List Jvm.Cond) (xb : Addr) (xk : ClassId) (xfm : Value) (xc0 xc1 : Int32) (h0 : Heap) (O0 : Ext Z.heap h0) (S_F : Sta Z Z.heap Y11 Y15 Y16 xfm) (hcat : xfm.category = 1) (V_xb : Arv Z h0 xb xk .byte (4 : Int32) [(iu0 xc0), (iu8 xc0), (iu0 xc1), (iu8 xc1)] (.int (0 : Int32))) :
    oCon l Z yy17 b50_ 2 none ws ({ frames := 2, cells := 0, slots := 0, locals := 27 } : Room) #[(.int (0 : Int32)), (.ref xb)] h0 (oPq none h0) := by
  refine oCon.of (plainFor_of_name pn_6) ?_
  intro p e s m below meth c T X hx hby hml hown hnm hret hlk hZ e0
  have hml : c.maxLocals = 2 := hml
  have K : oKp h0 h0 [] [] := oKp.nil _ _
  refine oWk.cast (g' := (mkF m 0 #[iv 0, rv xb] [])) (by first | rfl | (simp [entryFrame, mkF, argsToLocals, Value.category]; done)) ?_
  refine oWk.st (fun _ kt => zI X hx hby d63_0 rfl rfl (zA X hx hby d63_1 rfl rfl rfl kt)) ?_
  have Oh := K.old O0 all0
  obtain ⟨T, L2, X, e0, K, st⟩ := (cs14 hw).pure X hx hZ hown e0 K (A := [(.ref xb)]) rfl (rUL_2 l Z a0 hw [] xb xk xc0 xc1 h0 Oh V_xb) (W := 1) (by decide) hml (Ls := #[iv 0, rv xb]) rfl (rest := [(.int (0 : Int32))]) rfl rfl hby d63_2
  refine oWk.st (fun _ kt => st _ kt) ?_
  obtain ⟨T, L4, X, e0, K, st⟩ := (cs15 hw).pure X hx hZ hown e0 K (A := [(.int (0 : Int32)), (.int (2 : Int32))]) rfl (rCkI l Z a0 hw [] (0 : Int32) (2 : Int32) xfm h0 Oh S_F hcat (by decide) (by decide)) (W := 0) (by decide) hml (Ls := #[iv 0, rv xb]) rfl (rest := []) rfl rfl hby d63_5
  refine oWk.to (mkF m 8 #[iv 0, rv xb] []) (fun _ kt => st _ kt) ?_
  exact oRetV X hx hlk hret (hb hby d63_8) (by rw [e0]; exact ⟨rfl, rfl, K⟩) (by decide) (by decide)
abbrev yy18 : MethodName := ⟨"java/lang/StringUTF16", "getChar", "([BI)C"⟩
theorem d15_0 : decode b13_ 0 = .ok (.getstatic 44, 3) := by decide +kernel
theorem d15_3 : decode b13_ 3 = .ok (.ifCond .ne 25, 3) := by decide +kernel
theorem d15_28 : decode b13_ 28 = .ok (.iload_n 1, 1) := by decide +kernel
theorem d15_29 : decode b13_ 29 = .ok (.iconst 1, 1) := by decide +kernel
theorem d15_30 : decode b13_ 30 = .ok (.ishl, 1) := by decide +kernel
theorem d15_31 : decode b13_ 31 = .ok (.istore_n 1, 1) := by decide +kernel
theorem d15_32 : decode b13_ 32 = .ok (.aload_n 0, 1) := by decide +kernel
theorem d15_33 : decode b13_ 33 = .ok (.iload_n 1, 1) := by decide +kernel
theorem d15_34 : decode b13_ 34 = .ok (.iinc 1 1, 3) := by decide +kernel
theorem d15_37 : decode b13_ 37 = .ok (.baload, 1) := by decide +kernel
theorem d15_38 : decode b13_ 38 = .ok (.sipush 255, 3) := by decide +kernel
theorem d15_41 : decode b13_ 41 = .ok (.iand, 1) := by decide +kernel
theorem d15_42 : decode b13_ 42 = .ok (.getstatic 59, 3) := by decide +kernel
theorem d15_45 : decode b13_ 45 = .ok (.ishl, 1) := by decide +kernel
theorem d15_46 : decode b13_ 46 = .ok (.aload_n 0, 1) := by decide +kernel
theorem d15_47 : decode b13_ 47 = .ok (.iload_n 1, 1) := by decide +kernel
theorem d15_48 : decode b13_ 48 = .ok (.baload, 1) := by decide +kernel
theorem d15_49 : decode b13_ 49 = .ok (.sipush 255, 3) := by decide +kernel
theorem d15_52 : decode b13_ 52 = .ok (.iand, 1) := by decide +kernel
theorem d15_53 : decode b13_ 53 = .ok (.getstatic 63, 3) := by decide +kernel
theorem d15_56 : decode b13_ 56 = .ok (.ishl, 1) := by decide +kernel
theorem d15_57 : decode b13_ 57 = .ok (.ior, 1) := by decide +kernel
theorem d15_58 : decode b13_ 58 = .ok (.i2c, 1) := by decide +kernel
theorem d15_59 : decode b13_ 59 = .ok (.ireturn, 1) := by decide +kernel
theorem rGC_2_0 (l : Launch) (Z : State) (a0 : Array Value) (hw : oHW a0 Z) (ws : List Jvm.Cond) (xb : Addr) (xk : ClassId) (xc0 xc1 : Int32) (h0 : Heap) (O0 : Ext Z.heap h0) (S_A : Sta Z Z.heap Y4 Y10 "Z" (.int (1 : Int32))) (S_H : Sta Z Z.heap Y4 "HI_BYTE_SHIFT" "I" (.int (0 : Int32))) (S_L : Sta Z Z.heap Y4 "LO_BYTE_SHIFT" "I" (.int (8 : Int32))) (hr : 0 ≤ xc0.toInt ∧ xc0.toInt < 65536) (V_xb : Arv Z h0 xb xk .byte (4 : Int32) [(iu0 xc0), (iu8 xc0), (iu0 xc1), (iu8 xc1)] (.int (0 : Int32))) :
    oCon l Z yy18 b13_ 2 (some .char) ws ({ frames := 0, cells := 0, slots := 0, locals := 0 } : Room) #[(.ref xb), (.int (0 : Int32))] h0 (oPq (some (.int xc0)) h0) := by
  refine oCon.of (plainFor_of_name pn_6) ?_
  intro p e s m below meth c T X hx hby hml hown hnm hret hlk hZ e0
  have hml : c.maxLocals = 2 := hml
  have K : oKp h0 h0 [] [] := oKp.nil _ _
  refine oWk.cast (g' := (mkF m 0 #[rv xb, iv 0] [])) (by first | rfl | (simp [entryFrame, mkF, argsToLocals, Value.category]; done)) ?_
  have Oh := K.old O0 all0
  obtain ⟨T, X, e0, st⟩ := getS2 X hx hZ hown (host := "") (Or.inl (oW hw 62 rfl)) Via.refl e0 (S_A.ext Oh) (g := (mkF m 0 #[rv xb, iv 0] [])) rfl (hb hby d15_0)
  refine oWk.to (mkF m 33 #[rv xb, iv 0] [(.ref xb)]) (fun _ kt => st _ (zF X hx hby d15_3 rfl rfl ((if0 _ _).trans (feq (by decide)).2) (pc' := 28) rfl (zI X hx hby d15_28 rfl rfl (zK X hx hby d15_29 rfl (XS.ishl X.here hx rfl (hb hby d15_30) rfl (zSn X hx hby d15_31 rfl rfl (l' := #[rv xb, iv 0]) rfl (zA X hx hby d15_32 rfl rfl rfl kt))))))) ?_
  refine oWk.st (fun _ kt => zI X hx hby d15_33 rfl rfl (zC X hx hby d15_34 rfl rfl (l' := #[rv xb, iv ((0 : Int32) + (1 : Int32))]) rfl (oLdB X hx hZ e0 V_xb (0 : Int32) (iu0 xc0) ⟨by decide, by decide⟩ rfl hby d15_37 rfl rfl (zM X hx hby d15_38 rfl (XS.iand X.here hx rfl (hb hby d15_41) rfl kt))))) ?_
  obtain ⟨T, X, e0, st⟩ := getS2 X hx hZ hown (host := "") (Or.inl (oW hw 63 rfl)) Via.refl e0 (S_H.ext Oh) (g := (mkF m 42 #[rv xb, iv 1] [(.int (((xc0 >>> ((0 : Int32) &&& 31)).toInt8.toInt32) &&& (255 : Int32)))])) rfl (hb hby d15_42)
  refine oWk.to (mkF m 53 #[rv xb, iv 1] [(.int (((xc0 >>> ((8 : Int32) &&& 31)).toInt8.toInt32) &&& (255 : Int32))), (.int ((((xc0 >>> ((0 : Int32) &&& 31)).toInt8.toInt32) &&& (255 : Int32)) <<< ((0 : Int32) &&& 31)))]) (fun _ kt => st _ (XS.ishl X.here hx rfl (hb hby d15_45) rfl (zA X hx hby d15_46 rfl rfl rfl (zI X hx hby d15_47 rfl rfl (oLdB X hx hZ e0 V_xb (1 : Int32) (iu8 xc0) ⟨by decide, by decide⟩ rfl hby d15_48 rfl rfl (zM X hx hby d15_49 rfl (XS.iand X.here hx rfl (hb hby d15_52) rfl kt))))))) ?_
  obtain ⟨T, X, e0, st⟩ := getS2 X hx hZ hown (host := "") (Or.inl (oW hw 64 rfl)) Via.refl e0 (S_L.ext Oh) (g := (mkF m 53 #[rv xb, iv 1] [(.int (((xc0 >>> ((8 : Int32) &&& 31)).toInt8.toInt32) &&& (255 : Int32))), (.int ((((xc0 >>> ((0 : Int32) &&& 31)).toInt8.toInt32) &&& (255 : Int32)) <<< ((0 : Int32) &&& 31)))])) rfl (hb hby d15_53)
  refine oWk.to (mkF m 59 #[rv xb, iv 1] [(.int ((((((xc0 >>> ((0 : Int32) &&& 31)).toInt8.toInt32) &&& (255 : Int32)) <<< ((0 : Int32) &&& 31)) ||| ((((xc0 >>> ((8 : Int32) &&& 31)).toInt8.toInt32) &&& (255 : Int32)) <<< ((8 : Int32) &&& 31))).toUInt32.toUInt16.toUInt32.toInt32))]) (fun _ kt => st _ (XS.ishl X.here hx rfl (hb hby d15_56) rfl (XS.ior X.here hx rfl (hb hby d15_57) rfl (XS.i2c X.here hx rfl (hb hby d15_58) rfl kt)))) ?_
  show oWk _ _ _ _ T (mkF m 59 #[rv xb, iv 1] [(.int ((((((xc0 >>> ((0 : Int32) &&& 31)).toInt8.toInt32) &&& (255 : Int32)) <<< ((0 : Int32) &&& 31)) ||| ((((xc0 >>> ((8 : Int32) &&& 31)).toInt8.toInt32) &&& (255 : Int32)) <<< ((8 : Int32) &&& 31))).toUInt32.toUInt16.toUInt32.toInt32))])
  rw [oU16 hr]
  show oWk _ _ _ _ T (mkF m 59 #[rv xb, iv 1] [(.int xc0)])
  exact oRetN X hx hlk hret (Or.inr (Or.inl rfl)) (show narrow .char (.int xc0) = .int xc0 from congrArg Value.int (oChrU hr)) (hb hby d15_59) (by rw [e0]; exact ⟨rfl, rfl, K⟩) (by decide) (by decide)
abbrev yy19 : MethodName := ⟨"java/lang/StringUTF16", "charAt", "([BI)C"⟩
theorem d62_0 : decode b42_ 0 = .ok (.iload_n 1, 1) := by decide +kernel
theorem d62_1 : decode b42_ 1 = .ok (.aload_n 0, 1) := by decide +kernel
theorem d62_2 : decode b42_ 2 = .ok (.invokestatic 67, 3) := by decide +kernel
theorem pd_12 : parseMethodDescriptor "(I[B)V" = some ⟨[.int, (.array .byte)], none⟩ := by decide +kernel
theorem cs16 {a0 : Array Value} {Z : State} (hw : oHW a0 Z) : oCall Z Y4 (.invokestatic 67) yy17 b50_ 2 none (oRs 2) := oCall.stat (oW hw 360 rfl) (oW hw 361 rfl) (oW hw 39 rfl) (oW hw 362 rfl) (by decide) pd_12
theorem d62_5 : decode b42_ 5 = .ok (.aload_n 0, 1) := by decide +kernel
theorem d62_6 : decode b42_ 6 = .ok (.iload_n 1, 1) := by decide +kernel
theorem d62_7 : decode b42_ 7 = .ok (.invokestatic 71, 3) := by decide +kernel
theorem cs17 {a0 : Array Value} {Z : State} (hw : oHW a0 Z) : oCall Z Y4 (.invokestatic 71) yy18 b13_ 2 (some .char) (oRs 2) := oCall.stat (oW hw 65 rfl) (oW hw 66 rfl) (oW hw 39 rfl) (oW hw 67 rfl) (by decide) pd_4
theorem d62_10 : decode b42_ 10 = .ok (.ireturn, 1) := by decide +kernel
theorem rUC_2_0 (l : Launch) (Z : State) (a0 : Array Value) (hw : oHW a0 Z) (ws : List Jvm.Cond) (xb : Addr) (xk : ClassId) (xfm : Value) (xc0 xc1 : Int32) (h0 : Heap) (O0 : Ext Z.heap h0) (S_A : Sta Z Z.heap Y4 Y10 "Z" (.int (1 : Int32))) (S_H : Sta Z Z.heap Y4 "HI_BYTE_SHIFT" "I" (.int (0 : Int32))) (S_L : Sta Z Z.heap Y4 "LO_BYTE_SHIFT" "I" (.int (8 : Int32))) (S_F : Sta Z Z.heap Y11 Y15 Y16 xfm) (hcat : xfm.category = 1) (hr : 0 ≤ xc0.toInt ∧ xc0.toInt < 65536) (V_xb : Arv Z h0 xb xk .byte (4 : Int32) [(iu0 xc0), (iu8 xc0), (iu0 xc1), (iu8 xc1)] (.int (0 : Int32))) :
    oCon l Z yy19 b42_ 2 (some .char) ws ({ frames := 3, cells := 0, slots := 0, locals := 40 } : Room) #[(.ref xb), (.int (0 : Int32))] h0 (oPq (some (.int xc0)) h0) := by
  refine oCon.of (plainFor_of_name pn_6) ?_
  intro p e s m below meth c T X hx hby hml hown hnm hret hlk hZ e0
  have hml : c.maxLocals = 2 := hml
  have K : oKp h0 h0 [] [] := oKp.nil _ _
  refine oWk.cast (g' := (mkF m 0 #[rv xb, iv 0] [])) (by first | rfl | (simp [entryFrame, mkF, argsToLocals, Value.category]; done)) ?_
  refine oWk.st (fun _ kt => zI X hx hby d62_0 rfl rfl (zA X hx hby d62_1 rfl rfl rfl kt)) ?_
  have Oh := K.old O0 all0
  obtain ⟨T, L2, X, e0, K, st⟩ := (cs16 hw).pure X hx hZ hown e0 K (A := [(.int (0 : Int32)), (.ref xb)]) rfl (rUCk_2_0 l Z a0 hw [] xb xk xfm xc0 xc1 h0 Oh S_F hcat V_xb) (W := 0) (by decide) hml (Ls := #[rv xb, iv 0]) rfl (rest := []) rfl rfl hby d62_2
  refine oWk.st (fun _ kt => st _ (zA X hx hby d62_5 rfl rfl rfl (zI X hx hby d62_6 rfl rfl kt))) ?_
  obtain ⟨T, L4, X, e0, K, st⟩ := (cs17 hw).pure X hx hZ hown e0 K (A := [(.ref xb), (.int (0 : Int32))]) rfl (rGC_2_0 l Z a0 hw [] xb xk xc0 xc1 h0 Oh S_A S_H S_L hr V_xb) (W := 0) (by decide) hml (Ls := #[rv xb, iv 0]) rfl (rest := []) rfl rfl hby d62_7
  refine oWk.to (mkF m 10 #[rv xb, iv 0] [(.int xc0)]) (fun _ kt => st _ kt) ?_
  exact oRetN X hx hlk hret (Or.inr (Or.inl rfl)) (show narrow .char (.int xc0) = .int xc0 from congrArg Value.int (oChrU hr)) (hb hby d62_10) (by rw [e0]; exact ⟨rfl, rfl, K⟩) (by decide) (by decide)
theorem d55_16 : decode b20_ 16 = .ok (.aload_n 0, 1) := by decide +kernel
theorem d55_17 : decode b20_ 17 = .ok (.getfield 9, 3) := by decide +kernel
theorem d55_20 : decode b20_ 20 = .ok (.iload_n 1, 1) := by decide +kernel
theorem d55_21 : decode b20_ 21 = .ok (.invokestatic 498, 3) := by decide +kernel
theorem cs18 {a0 : Array Value} {Z : State} (hw : oHW a0 Z) : oCall Z Y0 (.invokestatic 498) yy19 b42_ 2 (some .char) (oRs 2) := oCall.stat (oW hw 357 rfl) (oW hw 358 rfl) (oW hw 39 rfl) (oW hw 359 rfl) (by decide) pd_4
theorem d55_24 : decode b20_ 24 = .ok (.ireturn, 1) := by decide +kernel
theorem rCAU_2_0 (l : Launch) (Z : State) (a0 : Array Value) (hw : oHW a0 Z) (ws : List Jvm.Cond) (xa xb : Addr) (xk : ClassId) (xfm : Value) (xz xc0 xc1 : Int32) (h0 : Heap) (O0 : Ext Z.heap h0) (S_Z : Sta Z Z.heap Y0 Y9 "Z" (.int xz)) (hz : ¬ xz = (0 : Int32)) (S_A : Sta Z Z.heap Y4 Y10 "Z" (.int (1 : Int32))) (S_H : Sta Z Z.heap Y4 "HI_BYTE_SHIFT" "I" (.int (0 : Int32))) (S_L : Sta Z Z.heap Y4 "LO_BYTE_SHIFT" "I" (.int (8 : Int32))) (S_F : Sta Z Z.heap Y11 Y15 Y16 xfm) (hcat : xfm.category = 1) (hr : 0 ≤ xc0.toInt ∧ xc0.toInt < 65536) (E_xa : Exa Z h0 xa Y0) (F_coder_xa : Fld Z h0 xa Y0 "coder" "B" (.int (1 : Int32))) (F_value_xa : Fld Z h0 xa Y0 "value" "[B" (.ref xb)) (V_xb : Arv Z h0 xb xk .byte (4 : Int32) [(iu0 xc0), (iu8 xc0), (iu0 xc1), (iu8 xc1)] (.int (0 : Int32))) :
    oCon l Z yy6 b20_ 2 (some .char) ws ({ frames := 4, cells := 0, slots := 0, locals := 53 } : Room) #[(.ref xa), (.int (0 : Int32))] h0 (oPq (some (.int xc0)) h0) := by
  refine oCon.of (plainFor_of_name pn_0) ?_
  intro p e s m below meth c T X hx hby hml hown hnm hret hlk hZ e0
  have hml : c.maxLocals = 2 := hml
  have K : oKp h0 h0 [] [] := oKp.nil _ _
  refine oWk.cast (g' := (mkF m 0 #[rv xa, iv 0] [])) (by first | rfl | (simp [entryFrame, mkF, argsToLocals, Value.category]; done)) ?_
  refine oWk.st (fun _ kt => zA X hx hby d55_0 rfl rfl rfl kt) ?_
  have Oh := K.old O0 all0
  obtain ⟨T, L2, X, e0, K, st⟩ := (cs3 hw).pure X hx hZ hown e0 K (A := [(.ref xa)]) ⟨rfl, _, _, rfl, E_xa⟩ (rIsL1 l Z a0 hw [] xa xz h0 Oh S_Z hz F_coder_xa) (W := 0) (by decide) hml (Ls := #[rv xa, iv 0]) rfl (rest := []) rfl rfl hby d55_1
  refine oWk.st (fun _ kt => st _ (zF X hx hby d55_4 rfl rfl ((if0 _ _).trans (teq (by decide)).1) (pc' := 16) rfl (zA X hx hby d55_16 rfl rfl rfl kt))) ?_
  obtain ⟨T, X, e0, st⟩ := getF X hx hZ hown (host := "") (Or.inl (oW hw 20 rfl)) Via.refl e0 F_value_xa (g := (mkF m 17 #[rv xa, iv 0] [(.ref xa)])) rfl rfl (hb hby d55_17)
  refine oWk.st (fun _ kt => st _ (zI X hx hby d55_20 rfl rfl kt)) ?_
  obtain ⟨T, L4, X, e0, K, st⟩ := (cs18 hw).pure X hx hZ hown e0 K (A := [(.ref xb), (.int (0 : Int32))]) rfl (rUC_2_0 l Z a0 hw [] xb xk xfm xc0 xc1 h0 Oh S_A S_H S_L S_F hcat hr V_xb) (W := 0) (by decide) hml (Ls := #[rv xa, iv 0]) rfl (rest := []) rfl rfl hby d55_21
  refine oWk.to (mkF m 24 #[rv xa, iv 0] [(.int xc0)]) (fun _ kt => st _ kt) ?_
  exact oRetN X hx hlk hret (Or.inr (Or.inl rfl)) (show narrow .char (.int xc0) = .int xc0 from congrArg Value.int (oChrU hr)) (hb hby d55_24) (by rw [e0]; exact ⟨rfl, rfl, K⟩) (by decide) (by decide)
theorem rUCk_2_1 (l : Launch) (Z : State) (a0 : Array Value) (hw : oHW a0 Z) (ws : List Jvm.Cond) (xb : Addr) (xk : ClassId) (xfm : Value) (xc0 xc1 : Int32) (h0 : Heap) (O0 : Ext Z.heap h0) (S_F : Sta Z Z.heap Y11 Y15 Y16 xfm) (hcat : xfm.category = 1) (V_xb : Arv Z h0 xb xk .byte (4 : Int32) [(iu0 xc0), (iu8 xc0), (iu0 xc1), (iu8 xc1)] (.int (0 : Int32))) :
    oCon l Z yy17 b50_ 2 none ws ({ frames := 2, cells := 0, slots := 0, locals := 27 } : Room) #[(.int (1 : Int32)), (.ref xb)] h0 (oPq none h0) := by
  refine oCon.of (plainFor_of_name pn_6) ?_
  intro p e s m below meth c T X hx hby hml hown hnm hret hlk hZ e0
  have hml : c.maxLocals = 2 := hml
  have K : oKp h0 h0 [] [] := oKp.nil _ _
  refine oWk.cast (g' := (mkF m 0 #[iv 1, rv xb] [])) (by first | rfl | (simp [entryFrame, mkF, argsToLocals, Value.category]; done)) ?_
  refine oWk.st (fun _ kt => zI X hx hby d63_0 rfl rfl (zA X hx hby d63_1 rfl rfl rfl kt)) ?_
  have Oh := K.old O0 all0
  obtain ⟨T, L2, X, e0, K, st⟩ := (cs14 hw).pure X hx hZ hown e0 K (A := [(.ref xb)]) rfl (rUL_2 l Z a0 hw [] xb xk xc0 xc1 h0 Oh V_xb) (W := 1) (by decide) hml (Ls := #[iv 1, rv xb]) rfl (rest := [(.int (1 : Int32))]) rfl rfl hby d63_2
  refine oWk.st (fun _ kt => st _ kt) ?_
  obtain ⟨T, L4, X, e0, K, st⟩ := (cs15 hw).pure X hx hZ hown e0 K (A := [(.int (1 : Int32)), (.int (2 : Int32))]) rfl (rCkI l Z a0 hw [] (1 : Int32) (2 : Int32) xfm h0 Oh S_F hcat (by decide) (by decide)) (W := 0) (by decide) hml (Ls := #[iv 1, rv xb]) rfl (rest := []) rfl rfl hby d63_5
  refine oWk.to (mkF m 8 #[iv 1, rv xb] []) (fun _ kt => st _ kt) ?_
  exact oRetV X hx hlk hret (hb hby d63_8) (by rw [e0]; exact ⟨rfl, rfl, K⟩) (by decide) (by decide)
theorem rGC_2_1 (l : Launch) (Z : State) (a0 : Array Value) (hw : oHW a0 Z) (ws : List Jvm.Cond) (xb : Addr) (xk : ClassId) (xc0 xc1 : Int32) (h0 : Heap) (O0 : Ext Z.heap h0) (S_A : Sta Z Z.heap Y4 Y10 "Z" (.int (1 : Int32))) (S_H : Sta Z Z.heap Y4 "HI_BYTE_SHIFT" "I" (.int (0 : Int32))) (S_L : Sta Z Z.heap Y4 "LO_BYTE_SHIFT" "I" (.int (8 : Int32))) (hr : 0 ≤ xc1.toInt ∧ xc1.toInt < 65536) (V_xb : Arv Z h0 xb xk .byte (4 : Int32) [(iu0 xc0), (iu8 xc0), (iu0 xc1), (iu8 xc1)] (.int (0 : Int32))) :
    oCon l Z yy18 b13_ 2 (some .char) ws ({ frames := 0, cells := 0, slots := 0, locals := 0 } : Room) #[(.ref xb), (.int (1 : Int32))] h0 (oPq (some (.int xc1)) h0) := by
  refine oCon.of (plainFor_of_name pn_6) ?_
  intro p e s m below meth c T X hx hby hml hown hnm hret hlk hZ e0
  have hml : c.maxLocals = 2 := hml
  have K : oKp h0 h0 [] [] := oKp.nil _ _
  refine oWk.cast (g' := (mkF m 0 #[rv xb, iv 1] [])) (by first | rfl | (simp [entryFrame, mkF, argsToLocals, Value.category]; done)) ?_
  have Oh := K.old O0 all0
  obtain ⟨T, X, e0, st⟩ := getS2 X hx hZ hown (host := "") (Or.inl (oW hw 62 rfl)) Via.refl e0 (S_A.ext Oh) (g := (mkF m 0 #[rv xb, iv 1] [])) rfl (hb hby d15_0)
  refine oWk.to (mkF m 33 #[rv xb, iv 2] [(.ref xb)]) (fun _ kt => st _ (zF X hx hby d15_3 rfl rfl ((if0 _ _).trans (feq (by decide)).2) (pc' := 28) rfl (zI X hx hby d15_28 rfl rfl (zK X hx hby d15_29 rfl (XS.ishl X.here hx rfl (hb hby d15_30) rfl (zSn X hx hby d15_31 rfl rfl (l' := #[rv xb, iv 2]) rfl (zA X hx hby d15_32 rfl rfl rfl kt))))))) ?_
  refine oWk.st (fun _ kt => zI X hx hby d15_33 rfl rfl (zC X hx hby d15_34 rfl rfl (l' := #[rv xb, iv ((2 : Int32) + (1 : Int32))]) rfl (oLdB X hx hZ e0 V_xb (2 : Int32) (iu0 xc1) ⟨by decide, by decide⟩ rfl hby d15_37 rfl rfl (zM X hx hby d15_38 rfl (XS.iand X.here hx rfl (hb hby d15_41) rfl kt))))) ?_
  obtain ⟨T, X, e0, st⟩ := getS2 X hx hZ hown (host := "") (Or.inl (oW hw 63 rfl)) Via.refl e0 (S_H.ext Oh) (g := (mkF m 42 #[rv xb, iv 3] [(.int (((xc1 >>> ((0 : Int32) &&& 31)).toInt8.toInt32) &&& (255 : Int32)))])) rfl (hb hby d15_42)
  refine oWk.to (mkF m 53 #[rv xb, iv 3] [(.int (((xc1 >>> ((8 : Int32) &&& 31)).toInt8.toInt32) &&& (255 : Int32))), (.int ((((xc1 >>> ((0 : Int32) &&& 31)).toInt8.toInt32) &&& (255 : Int32)) <<< ((0 : Int32) &&& 31)))]) (fun _ kt => st _ (XS.ishl X.here hx rfl (hb hby d15_45) rfl (zA X hx hby d15_46 rfl rfl rfl (zI X hx hby d15_47 rfl rfl (oLdB X hx hZ e0 V_xb (3 : Int32) (iu8 xc1) ⟨by decide, by decide⟩ rfl hby d15_48 rfl rfl (zM X hx hby d15_49 rfl (XS.iand X.here hx rfl (hb hby d15_52) rfl kt))))))) ?_
  obtain ⟨T, X, e0, st⟩ := getS2 X hx hZ hown (host := "") (Or.inl (oW hw 64 rfl)) Via.refl e0 (S_L.ext Oh) (g := (mkF m 53 #[rv xb, iv 3] [(.int (((xc1 >>> ((8 : Int32) &&& 31)).toInt8.toInt32) &&& (255 : Int32))), (.int ((((xc1 >>> ((0 : Int32) &&& 31)).toInt8.toInt32) &&& (255 : Int32)) <<< ((0 : Int32) &&& 31)))])) rfl (hb hby d15_53)
  refine oWk.to (mkF m 59 #[rv xb, iv 3] [(.int ((((((xc1 >>> ((0 : Int32) &&& 31)).toInt8.toInt32) &&& (255 : Int32)) <<< ((0 : Int32) &&& 31)) ||| ((((xc1 >>> ((8 : Int32) &&& 31)).toInt8.toInt32) &&& (255 : Int32)) <<< ((8 : Int32) &&& 31))).toUInt32.toUInt16.toUInt32.toInt32))]) (fun _ kt => st _ (XS.ishl X.here hx rfl (hb hby d15_56) rfl (XS.ior X.here hx rfl (hb hby d15_57) rfl (XS.i2c X.here hx rfl (hb hby d15_58) rfl kt)))) ?_
  show oWk _ _ _ _ T (mkF m 59 #[rv xb, iv 3] [(.int ((((((xc1 >>> ((0 : Int32) &&& 31)).toInt8.toInt32) &&& (255 : Int32)) <<< ((0 : Int32) &&& 31)) ||| ((((xc1 >>> ((8 : Int32) &&& 31)).toInt8.toInt32) &&& (255 : Int32)) <<< ((8 : Int32) &&& 31))).toUInt32.toUInt16.toUInt32.toInt32))])
  rw [oU16 hr]
  show oWk _ _ _ _ T (mkF m 59 #[rv xb, iv 3] [(.int xc1)])
  exact oRetN X hx hlk hret (Or.inr (Or.inl rfl)) (show narrow .char (.int xc1) = .int xc1 from congrArg Value.int (oChrU hr)) (hb hby d15_59) (by rw [e0]; exact ⟨rfl, rfl, K⟩) (by decide) (by decide)
theorem rUC_2_1 (l : Launch) (Z : State) (a0 : Array Value) (hw : oHW a0 Z) (ws : List Jvm.Cond) (xb : Addr) (xk : ClassId) (xfm : Value) (xc0 xc1 : Int32) (h0 : Heap) (O0 : Ext Z.heap h0) (S_A : Sta Z Z.heap Y4 Y10 "Z" (.int (1 : Int32))) (S_H : Sta Z Z.heap Y4 "HI_BYTE_SHIFT" "I" (.int (0 : Int32))) (S_L : Sta Z Z.heap Y4 "LO_BYTE_SHIFT" "I" (.int (8 : Int32))) (S_F : Sta Z Z.heap Y11 Y15 Y16 xfm) (hcat : xfm.category = 1) (hr : 0 ≤ xc1.toInt ∧ xc1.toInt < 65536) (V_xb : Arv Z h0 xb xk .byte (4 : Int32) [(iu0 xc0), (iu8 xc0), (iu0 xc1), (iu8 xc1)] (.int (0 : Int32))) :
    oCon l Z yy19 b42_ 2 (some .char) ws ({ frames := 3, cells := 0, slots := 0, locals := 40 } : Room) #[(.ref xb), (.int (1 : Int32))] h0 (oPq (some (.int xc1)) h0) := by
  refine oCon.of (plainFor_of_name pn_6) ?_
  intro p e s m below meth c T X hx hby hml hown hnm hret hlk hZ e0
  have hml : c.maxLocals = 2 := hml
  have K : oKp h0 h0 [] [] := oKp.nil _ _
  refine oWk.cast (g' := (mkF m 0 #[rv xb, iv 1] [])) (by first | rfl | (simp [entryFrame, mkF, argsToLocals, Value.category]; done)) ?_
  refine oWk.st (fun _ kt => zI X hx hby d62_0 rfl rfl (zA X hx hby d62_1 rfl rfl rfl kt)) ?_
  have Oh := K.old O0 all0
  obtain ⟨T, L2, X, e0, K, st⟩ := (cs16 hw).pure X hx hZ hown e0 K (A := [(.int (1 : Int32)), (.ref xb)]) rfl (rUCk_2_1 l Z a0 hw [] xb xk xfm xc0 xc1 h0 Oh S_F hcat V_xb) (W := 0) (by decide) hml (Ls := #[rv xb, iv 1]) rfl (rest := []) rfl rfl hby d62_2
  refine oWk.st (fun _ kt => st _ (zA X hx hby d62_5 rfl rfl rfl (zI X hx hby d62_6 rfl rfl kt))) ?_
  obtain ⟨T, L4, X, e0, K, st⟩ := (cs17 hw).pure X hx hZ hown e0 K (A := [(.ref xb), (.int (1 : Int32))]) rfl (rGC_2_1 l Z a0 hw [] xb xk xc0 xc1 h0 Oh S_A S_H S_L hr V_xb) (W := 0) (by decide) hml (Ls := #[rv xb, iv 1]) rfl (rest := []) rfl rfl hby d62_7
  refine oWk.to (mkF m 10 #[rv xb, iv 1] [(.int xc1)]) (fun _ kt => st _ kt) ?_
  exact oRetN X hx hlk hret (Or.inr (Or.inl rfl)) (show narrow .char (.int xc1) = .int xc1 from congrArg Value.int (oChrU hr)) (hb hby d62_10) (by rw [e0]; exact ⟨rfl, rfl, K⟩) (by decide) (by decide)
theorem rCAU_2_1 (l : Launch) (Z : State) (a0 : Array Value) (hw : oHW a0 Z) (ws : List Jvm.Cond) (xa xb : Addr) (xk : ClassId) (xfm : Value) (xz xc0 xc1 : Int32) (h0 : Heap) (O0 : Ext Z.heap h0) (S_Z : Sta Z Z.heap Y0 Y9 "Z" (.int xz)) (hz : ¬ xz = (0 : Int32)) (S_A : Sta Z Z.heap Y4 Y10 "Z" (.int (1 : Int32))) (S_H : Sta Z Z.heap Y4 "HI_BYTE_SHIFT" "I" (.int (0 : Int32))) (S_L : Sta Z Z.heap Y4 "LO_BYTE_SHIFT" "I" (.int (8 : Int32))) (S_F : Sta Z Z.heap Y11 Y15 Y16 xfm) (hcat : xfm.category = 1) (hr : 0 ≤ xc1.toInt ∧ xc1.toInt < 65536) (E_xa : Exa Z h0 xa Y0) (F_coder_xa : Fld Z h0 xa Y0 "coder" "B" (.int (1 : Int32))) (F_value_xa : Fld Z h0 xa Y0 "value" "[B" (.ref xb)) (V_xb : Arv Z h0 xb xk .byte (4 : Int32) [(iu0 xc0), (iu8 xc0), (iu0 xc1), (iu8 xc1)] (.int (0 : Int32))) :
    oCon l Z yy6 b20_ 2 (some .char) ws ({ frames := 4, cells := 0, slots := 0, locals := 53 } : Room) #[(.ref xa), (.int (1 : Int32))] h0 (oPq (some (.int xc1)) h0) := by
  refine oCon.of (plainFor_of_name pn_0) ?_
  intro p e s m below meth c T X hx hby hml hown hnm hret hlk hZ e0
  have hml : c.maxLocals = 2 := hml
  have K : oKp h0 h0 [] [] := oKp.nil _ _
  refine oWk.cast (g' := (mkF m 0 #[rv xa, iv 1] [])) (by first | rfl | (simp [entryFrame, mkF, argsToLocals, Value.category]; done)) ?_
  refine oWk.st (fun _ kt => zA X hx hby d55_0 rfl rfl rfl kt) ?_
  have Oh := K.old O0 all0
  obtain ⟨T, L2, X, e0, K, st⟩ := (cs3 hw).pure X hx hZ hown e0 K (A := [(.ref xa)]) ⟨rfl, _, _, rfl, E_xa⟩ (rIsL1 l Z a0 hw [] xa xz h0 Oh S_Z hz F_coder_xa) (W := 0) (by decide) hml (Ls := #[rv xa, iv 1]) rfl (rest := []) rfl rfl hby d55_1
  refine oWk.st (fun _ kt => st _ (zF X hx hby d55_4 rfl rfl ((if0 _ _).trans (teq (by decide)).1) (pc' := 16) rfl (zA X hx hby d55_16 rfl rfl rfl kt))) ?_
  obtain ⟨T, X, e0, st⟩ := getF X hx hZ hown (host := "") (Or.inl (oW hw 20 rfl)) Via.refl e0 F_value_xa (g := (mkF m 17 #[rv xa, iv 1] [(.ref xa)])) rfl rfl (hb hby d55_17)
  refine oWk.st (fun _ kt => st _ (zI X hx hby d55_20 rfl rfl kt)) ?_
  obtain ⟨T, L4, X, e0, K, st⟩ := (cs18 hw).pure X hx hZ hown e0 K (A := [(.ref xb), (.int (1 : Int32))]) rfl (rUC_2_1 l Z a0 hw [] xb xk xfm xc0 xc1 h0 Oh S_A S_H S_L S_F hcat hr V_xb) (W := 0) (by decide) hml (Ls := #[rv xa, iv 1]) rfl (rest := []) rfl rfl hby d55_21
  refine oWk.to (mkF m 24 #[rv xa, iv 1] [(.int xc1)]) (fun _ kt => st _ kt) ?_
  exact oRetN X hx hlk hret (Or.inr (Or.inl rfl)) (show narrow .char (.int xc1) = .int xc1 from congrArg Value.int (oChrU hr)) (hb hby d55_24) (by rw [e0]; exact ⟨rfl, rfl, K⟩) (by decide) (by decide)
theorem d24_23 : decode b3_ 23 = .ok (.iload_n 1, 1) := by decide +kernel
theorem d24_24 : decode b3_ 24 = .ok (.iconst 1, 1) := by decide +kernel
theorem d24_25 : decode b3_ 25 = .ok (.iadd, 1) := by decide +kernel
theorem d24_26 : decode b3_ 26 = .ok (.aload_n 0, 1) := by decide +kernel
theorem d24_27 : decode b3_ 27 = .ok (.invokevirtual 42, 3) := by decide +kernel
theorem d24_30 : decode b3_ 30 = .ok (.if_icmp .ge 22, 3) := by decide +kernel
theorem d24_33 : decode b3_ 33 = .ok (.aload_n 0, 1) := by decide +kernel
theorem d24_34 : decode b3_ 34 = .ok (.iload_n 1, 1) := by decide +kernel
theorem d24_35 : decode b3_ 35 = .ok (.iconst 1, 1) := by decide +kernel
theorem d24_36 : decode b3_ 36 = .ok (.iadd, 1) := by decide +kernel
theorem d24_37 : decode b3_ 37 = .ok (.invokevirtual 23, 3) := by decide +kernel
theorem d24_40 : decode b3_ 40 = .ok (.invokestatic 52, 3) := by decide +kernel
theorem cs19 {a0 : Array Value} {Z : State} (hw : oHW a0 Z) : oCall Z Y21 (.invokestatic 52) yy15 b31_ 1 (some .boolean) (oRs 1) := oCall.stat (oW hw 368 rfl) (oW hw 369 rfl) (oW hw 337 rfl) (oW hw 370 rfl) (by decide) pd_8
theorem d24_43 : decode b3_ 43 = .ok (.ifCond .eq 9, 3) := by decide +kernel
theorem d24_46 : decode b3_ 46 = .ok (.iinc 1 2, 3) := by decide +kernel
theorem d24_49 : decode b3_ 49 = .ok (.goto 15, 3) := by decide +kernel
theorem rFlU (l : Launch) (Z : State) (a0 : Array Value) (hw : oHW a0 Z) (ws : List Jvm.Cond) (xa xb : Addr) (xk : ClassId) (xfm : Value) (xz : Int32) (h0 : Heap) (O0 : Ext Z.heap h0) (S_Z : Sta Z Z.heap Y0 Y9 "Z" (.int xz)) (hz : ¬ xz = (0 : Int32)) (S_A : Sta Z Z.heap Y4 Y10 "Z" (.int (1 : Int32))) (S_H : Sta Z Z.heap Y4 "HI_BYTE_SHIFT" "I" (.int (0 : Int32))) (S_L : Sta Z Z.heap Y4 "LO_BYTE_SHIFT" "I" (.int (8 : Int32))) (S_F : Sta Z Z.heap Y11 Y15 Y16 xfm) (hcat : xfm.category = 1) (E_xa : Exa Z h0 xa Y0) (F_coder_xa : Fld Z h0 xa Y0 "coder" "B" (.int (1 : Int32))) (F_value_xa : Fld Z h0 xa Y0 "value" "[B" (.ref xb)) (V_xb : Arv Z h0 xb xk .byte (4 : Int32) [(iu0 oH), (iu8 oH), (iu0 oL), (iu8 oL)] (.int (0 : Int32))) :
    oCon l Z yy11 b3_ 3 (some .int) ws ({ frames := 7, cells := 0, slots := 0, locals := 130 } : Room) #[(.ref xa)] h0 (oPq (some (.int (-1 : Int32))) h0) := by
  refine oCon.of (plainFor_of_name pn_5) ?_
  intro p e s m below meth c T X hx hby hml hown hnm hret hlk hZ e0
  have hml : c.maxLocals = 3 := hml
  have K : oKp h0 h0 [] [] := oKp.nil _ _
  refine oWk.cast (g' := (mkF m 0 #[rv xa, uu, uu] [])) (by first | rfl | (simp [entryFrame, mkF, argsToLocals, Value.category]; done)) ?_
  refine oWk.st (fun _ kt => zK X hx hby d24_0 rfl (zSn X hx hby d24_1 rfl rfl (l' := #[rv xa, iv 0, uu]) rfl (zI X hx hby d24_2 rfl rfl (zA X hx hby d24_3 rfl rfl rfl kt)))) ?_
  have Oh := K.old O0 all0
  obtain ⟨T, L2, X, e0, K, st⟩ := (cs6 hw).pure X hx hZ hown e0 K (A := [(.ref xa)]) ⟨rfl, _, _, rfl, E_xa⟩ (rLnU_2 l Z a0 hw [] xa xb xk xz oH oL h0 Oh S_Z hz E_xa F_coder_xa F_value_xa V_xb) (W := 1) (by decide) hml (Ls := #[rv xa, iv 0, uu]) rfl (rest := [(.int (0 : Int32))]) rfl rfl hby d24_4
  refine oWk.st (fun _ kt => st _ (zN X hx hby d24_7 rfl rfl (tlt (by decide)).2.1 (zA X hx hby d24_10 rfl rfl rfl (zI X hx hby d24_11 rfl rfl kt)))) ?_
  obtain ⟨T, L4, X, e0, K, st⟩ := (cs7 hw).pure X hx hZ hown e0 K (A := [(.ref xa), (.int (0 : Int32))]) ⟨rfl, _, _, rfl, E_xa⟩ (rCAU_2_0 l Z a0 hw [] xa xb xk xfm xz oH oL h0 Oh S_Z hz S_A S_H S_L S_F hcat (by decide) E_xa F_coder_xa F_value_xa V_xb) (W := 0) (by decide) hml (Ls := #[rv xa, iv 0, uu]) rfl (rest := []) rfl rfl hby d24_12
  refine oWk.st (fun _ kt => st _ (zSn X hx hby d24_15 rfl rfl (l' := #[rv xa, iv 0, iv oH]) rfl (zI X hx hby d24_16 rfl rfl kt))) ?_
  obtain ⟨T, L6, X, e0, K, st⟩ := (cs8 hw).pure X hx hZ hown e0 K (A := [(.int oH)]) rfl (risHighSurrogate_oH l Z a0 hw []  h0 Oh ) (W := 0) (by decide) hml (Ls := #[rv xa, iv 0, iv oH]) rfl (rest := []) rfl rfl hby d24_17
  refine oWk.st (fun _ kt => st _ (zH X hx hby d24_20 rfl rfl ((if0 _ _).trans (feq (by decide)).1) (zI X hx hby d24_23 rfl rfl (zK X hx hby d24_24 rfl (XS.iadd X.here hx rfl (hb hby d24_25) rfl (zA X hx hby d24_26 rfl rfl rfl kt)))))) ?_
  obtain ⟨T, L8, X, e0, K, st⟩ := (cs6 hw).pure X hx hZ hown e0 K (A := [(.ref xa)]) ⟨rfl, _, _, rfl, E_xa⟩ (rLnU_2 l Z a0 hw [] xa xb xk xz oH oL h0 Oh S_Z hz E_xa F_coder_xa F_value_xa V_xb) (W := 1) (by decide) hml (Ls := #[rv xa, iv 0, iv oH]) rfl (rest := [(.int (1 : Int32))]) rfl rfl hby d24_27
  refine oWk.st (fun _ kt => st _ (zN X hx hby d24_30 rfl rfl (tlt (by decide)).2.1 (zA X hx hby d24_33 rfl rfl rfl (zI X hx hby d24_34 rfl rfl (zK X hx hby d24_35 rfl (XS.iadd X.here hx rfl (hb hby d24_36) rfl kt)))))) ?_
  obtain ⟨T, L10, X, e0, K, st⟩ := (cs7 hw).pure X hx hZ hown e0 K (A := [(.ref xa), (.int (1 : Int32))]) ⟨rfl, _, _, rfl, E_xa⟩ (rCAU_2_1 l Z a0 hw [] xa xb xk xfm xz oH oL h0 Oh S_Z hz S_A S_H S_L S_F hcat (by decide) E_xa F_coder_xa F_value_xa V_xb) (W := 0) (by decide) hml (Ls := #[rv xa, iv 0, iv oH]) rfl (rest := []) rfl rfl hby d24_37
  refine oWk.st (fun _ kt => st _ kt) ?_
  obtain ⟨T, L12, X, e0, K, st⟩ := (cs19 hw).pure X hx hZ hown e0 K (A := [(.int oL)]) rfl (risLowSurrogate_oL l Z a0 hw []  h0 Oh ) (W := 0) (by decide) hml (Ls := #[rv xa, iv 0, iv oH]) rfl (rest := []) rfl rfl hby d24_40
  refine oWk.to (mkF m 4 #[rv xa, iv 2, iv oH] [(.ref xa), (.int 2)]) (fun _ kt => st _ (zH X hx hby d24_43 rfl rfl ((if0 _ _).trans (feq (by decide)).1) (zC X hx hby d24_46 rfl rfl (l' := #[rv xa, iv ((0 : Int32) + (2 : Int32)), iv oH]) rfl (zG X hx hby d24_49 rfl (pc' := 64) rfl (zG X hx hby d24_64 rfl (pc' := 2) rfl (zI X hx hby d24_2 rfl rfl (zA X hx hby d24_3 rfl rfl rfl kt))))))) ?_
  obtain ⟨T, L14, X, e0, K, st⟩ := (cs6 hw).pure X hx hZ hown e0 K (A := [(.ref xa)]) ⟨rfl, _, _, rfl, E_xa⟩ (rLnU_2 l Z a0 hw [] xa xb xk xz oH oL h0 Oh S_Z hz E_xa F_coder_xa F_value_xa V_xb) (W := 1) (by decide) hml (Ls := #[rv xa, iv 2, iv oH]) rfl (rest := [(.int (2 : Int32))]) rfl rfl hby d24_4
  refine oWk.to (mkF m 68 #[rv xa, iv 2, iv oH] [(.int (-1 : Int32))]) (fun _ kt => st _ (zY X hx hby d24_7 rfl rfl (flt (by decide)).2.1 (pc' := 67) rfl (zK X hx hby d24_67 rfl kt))) ?_
  exact oRetI X hx hlk hret (hb hby d24_68) (by rw [e0]; exact ⟨rfl, rfl, K⟩) (by decide) (by decide)
theorem rCpU (l : Launch) (Z : State) (a0 : Array Value) (hw : oHW a0 Z) (ws : List Jvm.Cond) (xy xa xb : Addr) (xk : ClassId) (xfm : Value) (xz : Int32) (h0 : Heap) (O0 : Ext Z.heap h0) (S_Z : Sta Z Z.heap Y0 Y9 "Z" (.int xz)) (hz : ¬ xz = (0 : Int32)) (S_A : Sta Z Z.heap Y4 Y10 "Z" (.int (1 : Int32))) (S_H : Sta Z Z.heap Y4 "HI_BYTE_SHIFT" "I" (.int (0 : Int32))) (S_L : Sta Z Z.heap Y4 "LO_BYTE_SHIFT" "I" (.int (8 : Int32))) (S_F : Sta Z Z.heap Y11 Y15 Y16 xfm) (hcat : xfm.category = 1) (E_xa : Exa Z h0 xa Y0) (F_coder_xa : Fld Z h0 xa Y0 "coder" "B" (.int (1 : Int32))) (F_value_xa : Fld Z h0 xa Y0 "value" "[B" (.ref xb)) (V_xb : Arv Z h0 xb xk .byte (4 : Int32) [(iu0 oH), (iu8 oH), (iu0 oL), (iu8 oL)] (.int (0 : Int32))) :
    oCon l Z yy12 b41_ 3 none ws ({ frames := 8, cells := 0, slots := 0, locals := 144 } : Room) #[(.ref xy), (.ref xa)] h0 (oPq none h0) := by
  refine oCon.of (plainFor_of_name pn_5) ?_
  intro p e s m below meth c T X hx hby hml hown hnm hret hlk hZ e0
  have hml : c.maxLocals = 3 := hml
  have K : oKp h0 h0 [] [] := oKp.nil _ _
  refine oWk.cast (g' := (mkF m 0 #[rv xy, rv xa, uu] [])) (by first | rfl | (simp [entryFrame, mkF, argsToLocals, Value.category]; done)) ?_
  refine oWk.st (fun _ kt => zA X hx hby d23_0 rfl rfl rfl kt) ?_
  have Oh := K.old O0 all0
  obtain ⟨T, L2, X, e0, K, st⟩ := (cs10 hw).pure X hx hZ hown e0 K (A := [(.ref xa)]) rfl (rFlU l Z a0 hw [] xa xb xk xfm xz h0 Oh S_Z hz S_A S_H S_L S_F hcat E_xa F_coder_xa F_value_xa V_xb) (W := 0) (by decide) hml (Ls := #[rv xy, rv xa, uu]) rfl (rest := []) rfl rfl hby d23_1
  refine oWk.to (mkF m 51 #[rv xy, rv xa, iv (-1 : Int32)] []) (fun _ kt => st _ (zSn X hx hby d23_4 rfl rfl (l' := #[rv xy, rv xa, iv (-1 : Int32)]) rfl (zI X hx hby d23_5 rfl rfl (zF X hx hby d23_6 rfl rfl ((if0 _ _).trans (tlt (by decide)).1) (pc' := 51) rfl kt)))) ?_
  exact oRetV X hx hlk hret (hb hby d23_51) (by rw [e0]; exact ⟨rfl, rfl, K⟩) (by decide) (by decide)
abbrev yy20 : MethodName := ⟨"java/lang/StringUTF16", "codePointCount", "([BIIZ)I"⟩
theorem d67_0 : decode b6_ 0 = .ok (.getstatic 44, 3) := by decide +kernel
theorem d67_3 : decode b6_ 3 = .ok (.ifCond .ne 16, 3) := by decide +kernel
theorem d67_19 : decode b6_ 19 = .ok (.iload_n 2, 1) := by decide +kernel
theorem d67_20 : decode b6_ 20 = .ok (.iload_n 1, 1) := by decide +kernel
theorem d67_21 : decode b6_ 21 = .ok (.isub, 1) := by decide +kernel
theorem d67_22 : decode b6_ 22 = .ok (.istore 4, 2) := by decide +kernel
theorem d67_24 : decode b6_ 24 = .ok (.iload_n 1, 1) := by decide +kernel
theorem d67_25 : decode b6_ 25 = .ok (.istore 5, 2) := by decide +kernel
theorem d67_27 : decode b6_ 27 = .ok (.iload_n 3, 1) := by decide +kernel
theorem d67_28 : decode b6_ 28 = .ok (.ifCond .eq 16, 3) := by decide +kernel
theorem d67_44 : decode b6_ 44 = .ok (.iload 5, 2) := by decide +kernel
theorem d67_46 : decode b6_ 46 = .ok (.iload_n 2, 1) := by decide +kernel
theorem d67_47 : decode b6_ 47 = .ok (.iconst 1, 1) := by decide +kernel
theorem d67_48 : decode b6_ 48 = .ok (.isub, 1) := by decide +kernel
theorem d67_49 : decode b6_ 49 = .ok (.if_icmp .ge 39, 3) := by decide +kernel
theorem d67_52 : decode b6_ 52 = .ok (.aload_n 0, 1) := by decide +kernel
theorem d67_53 : decode b6_ 53 = .ok (.iload 5, 2) := by decide +kernel
theorem d67_55 : decode b6_ 55 = .ok (.iinc 5 1, 3) := by decide +kernel
theorem d67_58 : decode b6_ 58 = .ok (.invokestatic 71, 3) := by decide +kernel
theorem d67_61 : decode b6_ 61 = .ok (.invokestatic 75, 3) := by decide +kernel
theorem cs20 {a0 : Array Value} {Z : State} (hw : oHW a0 Z) : oCall Z Y4 (.invokestatic 75) yy9 b24_ 1 (some .boolean) (oRs 1) := oCall.stat (oW hw 378 rfl) (oW hw 336 rfl) (oW hw 337 rfl) (oW hw 338 rfl) (by decide) pd_8
theorem d67_64 : decode b6_ 64 = .ok (.ifCond .eq (-20), 3) := by decide +kernel
theorem d67_67 : decode b6_ 67 = .ok (.aload_n 0, 1) := by decide +kernel
theorem d67_68 : decode b6_ 68 = .ok (.iload 5, 2) := by decide +kernel
theorem d67_70 : decode b6_ 70 = .ok (.invokestatic 71, 3) := by decide +kernel
theorem d67_73 : decode b6_ 73 = .ok (.invokestatic 81, 3) := by decide +kernel
theorem cs21 {a0 : Array Value} {Z : State} (hw : oHW a0 Z) : oCall Z Y4 (.invokestatic 81) yy15 b31_ 1 (some .boolean) (oRs 1) := oCall.stat (oW hw 379 rfl) (oW hw 369 rfl) (oW hw 337 rfl) (oW hw 370 rfl) (by decide) pd_8
theorem d67_76 : decode b6_ 76 = .ok (.ifCond .eq (-32), 3) := by decide +kernel
theorem d67_79 : decode b6_ 79 = .ok (.iinc 4 (-1), 3) := by decide +kernel
theorem d67_82 : decode b6_ 82 = .ok (.iinc 5 1, 3) := by decide +kernel
theorem d67_85 : decode b6_ 85 = .ok (.goto (-41), 3) := by decide +kernel
theorem d67_88 : decode b6_ 88 = .ok (.iload 4, 2) := by decide +kernel
theorem d67_90 : decode b6_ 90 = .ok (.ireturn, 1) := by decide +kernel
theorem rUcc4 (l : Launch) (Z : State) (a0 : Array Value) (hw : oHW a0 Z) (ws : List Jvm.Cond) (xb : Addr) (xk : ClassId) (h0 : Heap) (O0 : Ext Z.heap h0) (S_A : Sta Z Z.heap Y4 Y10 "Z" (.int (1 : Int32))) (S_H : Sta Z Z.heap Y4 "HI_BYTE_SHIFT" "I" (.int (0 : Int32))) (S_L : Sta Z Z.heap Y4 "LO_BYTE_SHIFT" "I" (.int (8 : Int32))) (V_xb : Arv Z h0 xb xk .byte (4 : Int32) [(iu0 oH), (iu8 oH), (iu0 oL), (iu8 oL)] (.int (0 : Int32))) :
    oCon l Z yy20 b6_ 6 (some .int) ws ({ frames := 1, cells := 0, slots := 0, locals := 13 } : Room) #[(.ref xb), (.int (0 : Int32)), (.int (2 : Int32)), (.int (0 : Int32))] h0 (oPq (some (.int (1 : Int32))) h0) := by
  refine oCon.of (plainFor_of_name pn_6) ?_
  intro p e s m below meth c T X hx hby hml hown hnm hret hlk hZ e0
  have hml : c.maxLocals = 6 := hml
  have K : oKp h0 h0 [] [] := oKp.nil _ _
  refine oWk.cast (g' := (mkF m 0 #[rv xb, iv 0, iv 2, iv 0, uu, uu] [])) (by first | rfl | (simp [entryFrame, mkF, argsToLocals, Value.category]; done)) ?_
  have Oh := K.old O0 all0
  obtain ⟨T, X, e0, st⟩ := getS2 X hx hZ hown (host := "") (Or.inl (oW hw 62 rfl)) Via.refl e0 (S_A.ext Oh) (g := (mkF m 0 #[rv xb, iv 0, iv 2, iv 0, uu, uu] [])) rfl (hb hby d67_0)
  refine oWk.to (mkF m 25 #[rv xb, iv 0, iv 2, iv 0, iv 2, uu] [(.int 0)]) (fun _ kt => st _ (zF X hx hby d67_3 rfl rfl ((if0 _ _).trans (feq (by decide)).2) (pc' := 19) rfl (zI X hx hby d67_19 rfl rfl (zI X hx hby d67_20 rfl rfl (XS.isub X.here hx rfl (hb hby d67_21) rfl (zS X hx hby d67_22 rfl rfl (l' := #[rv xb, iv 0, iv 2, iv 0, iv 2, uu]) rfl (zI X hx hby d67_24 rfl rfl kt))))))) ?_
  refine oWk.to (mkF m 49 #[rv xb, iv 0, iv 2, iv 0, iv 2, iv 0] [(.int 1), (.int 0)]) (fun _ kt => zS X hx hby d67_25 rfl rfl (l' := #[rv xb, iv 0, iv 2, iv 0, iv 2, iv 0]) rfl (zI X hx hby d67_27 rfl rfl (zF X hx hby d67_28 rfl rfl ((if0 _ _).trans (teq (by decide)).1) (pc' := 44) rfl (zJ X hx hby d67_44 rfl rfl (zI X hx hby d67_46 rfl rfl (zK X hx hby d67_47 rfl (XS.isub X.here hx rfl (hb hby d67_48) rfl kt))))))) ?_
  refine oWk.st (fun _ kt => zN X hx hby d67_49 rfl rfl (tlt (by decide)).2.1 (zA X hx hby d67_52 rfl rfl rfl (zJ X hx hby d67_53 rfl rfl (zC X hx hby d67_55 rfl rfl (l' := #[rv xb, iv 0, iv 2, iv 0, iv 2, iv ((0 : Int32) + (1 : Int32))]) rfl kt)))) ?_
  obtain ⟨T, L2, X, e0, K, st⟩ := (cs17 hw).pure X hx hZ hown e0 K (A := [(.ref xb), (.int (0 : Int32))]) rfl (rGC_2_0 l Z a0 hw [] xb xk oH oL h0 Oh S_A S_H S_L (by decide) V_xb) (W := 0) (by decide) hml (Ls := #[rv xb, iv 0, iv 2, iv 0, iv 2, iv 1]) rfl (rest := []) rfl rfl hby d67_58
  refine oWk.st (fun _ kt => st _ kt) ?_
  obtain ⟨T, L4, X, e0, K, st⟩ := (cs20 hw).pure X hx hZ hown e0 K (A := [(.int oH)]) rfl (risHighSurrogate_oH l Z a0 hw []  h0 Oh ) (W := 0) (by decide) hml (Ls := #[rv xb, iv 0, iv 2, iv 0, iv 2, iv 1]) rfl (rest := []) rfl rfl hby d67_61
  refine oWk.st (fun _ kt => st _ (zH X hx hby d67_64 rfl rfl ((if0 _ _).trans (feq (by decide)).1) (zA X hx hby d67_67 rfl rfl rfl (zJ X hx hby d67_68 rfl rfl kt)))) ?_
  obtain ⟨T, L6, X, e0, K, st⟩ := (cs17 hw).pure X hx hZ hown e0 K (A := [(.ref xb), (.int (1 : Int32))]) rfl (rGC_2_1 l Z a0 hw [] xb xk oH oL h0 Oh S_A S_H S_L (by decide) V_xb) (W := 0) (by decide) hml (Ls := #[rv xb, iv 0, iv 2, iv 0, iv 2, iv 1]) rfl (rest := []) rfl rfl hby d67_70
  refine oWk.st (fun _ kt => st _ kt) ?_
  obtain ⟨T, L8, X, e0, K, st⟩ := (cs21 hw).pure X hx hZ hown e0 K (A := [(.int oL)]) rfl (risLowSurrogate_oL l Z a0 hw []  h0 Oh ) (W := 0) (by decide) hml (Ls := #[rv xb, iv 0, iv 2, iv 0, iv 2, iv 1]) rfl (rest := []) rfl rfl hby d67_73
  refine oWk.to (mkF m 47 #[rv xb, iv 0, iv 2, iv 0, iv 1, iv 2] [(.int 2), (.int 2)]) (fun _ kt => st _ (zH X hx hby d67_76 rfl rfl ((if0 _ _).trans (feq (by decide)).1) (zC X hx hby d67_79 rfl rfl (l' := #[rv xb, iv 0, iv 2, iv 0, iv ((2 : Int32) + (-1 : Int32)), iv 1]) rfl (zC X hx hby d67_82 rfl rfl (l' := #[rv xb, iv 0, iv 2, iv 0, iv 1, iv ((1 : Int32) + (1 : Int32))]) rfl (zG X hx hby d67_85 rfl (pc' := 44) rfl (zJ X hx hby d67_44 rfl rfl (zI X hx hby d67_46 rfl rfl kt))))))) ?_
  refine oWk.to (mkF m 90 #[rv xb, iv 0, iv 2, iv 0, iv 1, iv 2] [(.int 1)]) (fun _ kt => zK X hx hby d67_47 rfl (XS.isub X.here hx rfl (hb hby d67_48) rfl (zY X hx hby d67_49 rfl rfl (flt (by decide)).2.1 (pc' := 88) rfl (zJ X hx hby d67_88 rfl rfl kt)))) ?_
  exact oRetI X hx hlk hret (hb hby d67_90) (by rw [e0]; exact ⟨rfl, rfl, K⟩) (by decide) (by decide)
abbrev yy21 : MethodName := ⟨"java/lang/StringUTF16", "codePointCount", "([BII)I"⟩
theorem d66_0 : decode b51_ 0 = .ok (.aload_n 0, 1) := by decide +kernel
theorem d66_1 : decode b51_ 1 = .ok (.iload_n 1, 1) := by decide +kernel
theorem d66_2 : decode b51_ 2 = .ok (.iload_n 2, 1) := by decide +kernel
theorem d66_3 : decode b51_ 3 = .ok (.iconst 0, 1) := by decide +kernel
theorem d66_4 : decode b51_ 4 = .ok (.invokestatic 100, 3) := by decide +kernel
theorem pd_13 : parseMethodDescriptor "([BIIZ)I" = some ⟨[(.array .byte), .int, .int, .boolean], some .int⟩ := by decide +kernel
theorem cs22 {a0 : Array Value} {Z : State} (hw : oHW a0 Z) : oCall Z Y4 (.invokestatic 100) yy20 b6_ 6 (some .int) (oRs 4) := oCall.stat (oW hw 375 rfl) (oW hw 376 rfl) (oW hw 39 rfl) (oW hw 377 rfl) (by decide) pd_13
theorem d66_7 : decode b51_ 7 = .ok (.ireturn, 1) := by decide +kernel
theorem rUcc3 (l : Launch) (Z : State) (a0 : Array Value) (hw : oHW a0 Z) (ws : List Jvm.Cond) (xb : Addr) (xk : ClassId) (h0 : Heap) (O0 : Ext Z.heap h0) (S_A : Sta Z Z.heap Y4 Y10 "Z" (.int (1 : Int32))) (S_H : Sta Z Z.heap Y4 "HI_BYTE_SHIFT" "I" (.int (0 : Int32))) (S_L : Sta Z Z.heap Y4 "LO_BYTE_SHIFT" "I" (.int (8 : Int32))) (V_xb : Arv Z h0 xb xk .byte (4 : Int32) [(iu0 oH), (iu8 oH), (iu0 oL), (iu8 oL)] (.int (0 : Int32))) :
    oCon l Z yy21 b51_ 3 (some .int) ws ({ frames := 2, cells := 0, slots := 0, locals := 30 } : Room) #[(.ref xb), (.int (0 : Int32)), (.int (2 : Int32))] h0 (oPq (some (.int (1 : Int32))) h0) := by
  refine oCon.of (plainFor_of_name pn_6) ?_
  intro p e s m below meth c T X hx hby hml hown hnm hret hlk hZ e0
  have hml : c.maxLocals = 3 := hml
  have K : oKp h0 h0 [] [] := oKp.nil _ _
  refine oWk.cast (g' := (mkF m 0 #[rv xb, iv 0, iv 2] [])) (by first | rfl | (simp [entryFrame, mkF, argsToLocals, Value.category]; done)) ?_
  refine oWk.st (fun _ kt => zA X hx hby d66_0 rfl rfl rfl (zI X hx hby d66_1 rfl rfl (zI X hx hby d66_2 rfl rfl (zK X hx hby d66_3 rfl kt)))) ?_
  have Oh := K.old O0 all0
  obtain ⟨T, L2, X, e0, K, st⟩ := (cs22 hw).pure X hx hZ hown e0 K (A := [(.ref xb), (.int (0 : Int32)), (.int (2 : Int32)), (.int (0 : Int32))]) rfl (rUcc4 l Z a0 hw [] xb xk h0 Oh S_A S_H S_L V_xb) (W := 0) (by decide) hml (Ls := #[rv xb, iv 0, iv 2]) rfl (rest := []) rfl rfl hby d66_4
  refine oWk.to (mkF m 7 #[rv xb, iv 0, iv 2] [(.int 1)]) (fun _ kt => st _ kt) ?_
  exact oRetI X hx hlk hret (hb hby d66_7) (by rw [e0]; exact ⟨rfl, rfl, K⟩) (by decide) (by decide)
theorem d27_21 : decode b15_ 21 = .ok (.aload_n 0, 1) := by decide +kernel
theorem d27_22 : decode b15_ 22 = .ok (.getfield 9, 3) := by decide +kernel
theorem d27_25 : decode b15_ 25 = .ok (.iload_n 1, 1) := by decide +kernel
theorem d27_26 : decode b15_ 26 = .ok (.iload_n 2, 1) := by decide +kernel
theorem d27_27 : decode b15_ 27 = .ok (.invokestatic 514, 3) := by decide +kernel
theorem pd_14 : parseMethodDescriptor "([BII)I" = some ⟨[(.array .byte), .int, .int], some .int⟩ := by decide +kernel
theorem cs23 {a0 : Array Value} {Z : State} (hw : oHW a0 Z) : oCall Z Y0 (.invokestatic 514) yy21 b51_ 3 (some .int) (oRs 3) := oCall.stat (oW hw 372 rfl) (oW hw 373 rfl) (oW hw 39 rfl) (oW hw 374 rfl) (by decide) pd_14
theorem d27_30 : decode b15_ 30 = .ok (.ireturn, 1) := by decide +kernel
theorem rCcU (l : Launch) (Z : State) (a0 : Array Value) (hw : oHW a0 Z) (ws : List Jvm.Cond) (xa xb : Addr) (xk : ClassId) (xz : Int32) (h0 : Heap) (O0 : Ext Z.heap h0) (S_Z : Sta Z Z.heap Y0 Y9 "Z" (.int xz)) (hz : ¬ xz = (0 : Int32)) (S_A : Sta Z Z.heap Y4 Y10 "Z" (.int (1 : Int32))) (S_H : Sta Z Z.heap Y4 "HI_BYTE_SHIFT" "I" (.int (0 : Int32))) (S_L : Sta Z Z.heap Y4 "LO_BYTE_SHIFT" "I" (.int (8 : Int32))) (E_xa : Exa Z h0 xa Y0) (F_coder_xa : Fld Z h0 xa Y0 "coder" "B" (.int (1 : Int32))) (F_value_xa : Fld Z h0 xa Y0 "value" "[B" (.ref xb)) (V_xb : Arv Z h0 xb xk .byte (4 : Int32) [(iu0 oH), (iu8 oH), (iu0 oL), (iu8 oL)] (.int (0 : Int32))) :
    oCon l Z yy13 b15_ 3 (some .int) ws ({ frames := 4, cells := 0, slots := 0, locals := 100 } : Room) #[(.ref xa), (.int (0 : Int32)), (.int (2 : Int32))] h0 (oPq (some (.int (1 : Int32))) h0) := by
  refine oCon.of (plainFor_of_name pn_0) ?_
  intro p e s m below meth c T X hx hby hml hown hnm hret hlk hZ e0
  have hml : c.maxLocals = 3 := hml
  have K : oKp h0 h0 [] [] := oKp.nil _ _
  refine oWk.cast (g' := (mkF m 0 #[rv xa, iv 0, iv 2] [])) (by first | rfl | (simp [entryFrame, mkF, argsToLocals, Value.category]; done)) ?_
  refine oWk.st (fun _ kt => zI X hx hby d27_0 rfl rfl (zI X hx hby d27_1 rfl rfl (zA X hx hby d27_2 rfl rfl rfl kt))) ?_
  have Oh := K.old O0 all0
  obtain ⟨T, L2, X, e0, K, st⟩ := (cs11 hw).pure X hx hZ hown e0 K (A := [(.ref xa)]) ⟨rfl, _, _, rfl, E_xa⟩ (rLnU_2 l Z a0 hw [] xa xb xk xz oH oL h0 Oh S_Z hz E_xa F_coder_xa F_value_xa V_xb) (W := 2) (by decide) hml (Ls := #[rv xa, iv 0, iv 2]) rfl (rest := [(.int (2 : Int32)), (.int (0 : Int32))]) rfl rfl hby d27_3
  refine oWk.st (fun _ kt => st _ kt) ?_
  obtain ⟨T, L4, X, e0, K, st⟩ := (cs12 hw).pure X hx hZ hown e0 K (A := [(.int (0 : Int32)), (.int (2 : Int32)), (.int (2 : Int32))]) rfl (rOFt l Z a0 hw [] (0 : Int32) (2 : Int32) (2 : Int32) h0 Oh (by decide) (by decide) (by decide)) (W := 0) (by decide) hml (Ls := #[rv xa, iv 0, iv 2]) rfl (rest := []) rfl rfl hby d27_6
  refine oWk.st (fun _ kt => st _ (XS.pop X.here hx rfl (hb hby d27_9) rfl rfl (zA X hx hby d27_10 rfl rfl rfl kt))) ?_
  obtain ⟨T, L6, X, e0, K, st⟩ := (cs3 hw).pure X hx hZ hown e0 K (A := [(.ref xa)]) ⟨rfl, _, _, rfl, E_xa⟩ (rIsL1 l Z a0 hw [] xa xz h0 Oh S_Z hz F_coder_xa) (W := 0) (by decide) hml (Ls := #[rv xa, iv 0, iv 2]) rfl (rest := []) rfl rfl hby d27_11
  refine oWk.st (fun _ kt => st _ (zF X hx hby d27_14 rfl rfl ((if0 _ _).trans (teq (by decide)).1) (pc' := 21) rfl (zA X hx hby d27_21 rfl rfl rfl kt))) ?_
  obtain ⟨T, X, e0, st⟩ := getF X hx hZ hown (host := "") (Or.inl (oW hw 20 rfl)) Via.refl e0 F_value_xa (g := (mkF m 22 #[rv xa, iv 0, iv 2] [(.ref xa)])) rfl rfl (hb hby d27_22)
  refine oWk.st (fun _ kt => st _ (zI X hx hby d27_25 rfl rfl (zI X hx hby d27_26 rfl rfl kt))) ?_
  obtain ⟨T, L8, X, e0, K, st⟩ := (cs23 hw).pure X hx hZ hown e0 K (A := [(.ref xb), (.int (0 : Int32)), (.int (2 : Int32))]) rfl (rUcc3 l Z a0 hw [] xb xk h0 Oh S_A S_H S_L V_xb) (W := 0) (by decide) hml (Ls := #[rv xa, iv 0, iv 2]) rfl (rest := []) rfl rfl hby d27_27
  refine oWk.to (mkF m 30 #[rv xa, iv 0, iv 2] [(.int 1)]) (fun _ kt => st _ kt) ?_
  exact oRetI X hx hlk hret (hb hby d27_30) (by rw [e0]; exact ⟨rfl, rfl, K⟩) (by decide) (by decide)
abbrev yy22 : MethodName := ⟨"java/lang/Character", "toCodePoint", "(CC)I"⟩
theorem d70_0 : decode b43_ 0 = .ok (.iload_n 0, 1) := by decide +kernel
theorem d70_1 : decode b43_ 1 = .ok (.bipush 10, 2) := by decide +kernel
theorem d70_3 : decode b43_ 3 = .ok (.ishl, 1) := by decide +kernel
theorem d70_4 : decode b43_ 4 = .ok (.iload_n 1, 1) := by decide +kernel
theorem d70_5 : decode b43_ 5 = .ok (.iadd, 1) := by decide +kernel
theorem d70_6 : decode b43_ 6 = .ok (.ldc 85, 2) := by decide +kernel
theorem d70_8 : decode b43_ 8 = .ok (.iadd, 1) := by decide +kernel
theorem d70_9 : decode b43_ 9 = .ok (.ireturn, 1) := by decide +kernel
theorem rTcp (l : Launch) (Z : State) (a0 : Array Value) (hw : oHW a0 Z) (ws : List Jvm.Cond)  (h0 : Heap) (O0 : Ext Z.heap h0)  :
    oCon l Z yy22 b43_ 2 (some .int) ws ({ frames := 0, cells := 0, slots := 0, locals := 0 } : Room) #[(.int oH), (.int oL)] h0 (oPq (some (.int (((oH <<< ((10 : Int32) &&& 31)) + oL) + (-56613888 : Int32)))) h0) := by
  refine oCon.of (plainFor_of_name pn_4) ?_
  intro p e s m below meth c T X hx hby hml hown hnm hret hlk hZ e0
  have hml : c.maxLocals = 2 := hml
  have K : oKp h0 h0 [] [] := oKp.nil _ _
  refine oWk.cast (g' := (mkF m 0 #[iv oH, iv oL] [])) (by first | rfl | (simp [entryFrame, mkF, argsToLocals, Value.category]; done)) ?_
  refine oWk.st (fun _ kt => zI X hx hby d70_0 rfl rfl (zL X hx hby d70_1 rfl (XS.ishl X.here hx rfl (hb hby d70_3) rfl (zI X hx hby d70_4 rfl rfl (XS.iadd X.here hx rfl (hb hby d70_5) rfl kt))))) ?_
  refine oWk.to (mkF m 9 #[iv oH, iv oL] [(.int (((oH <<< ((10 : Int32) &&& 31)) + oL) + (-56613888 : Int32)))]) (fun _ kt => X.ldcI hx hown (mvT hZ (oW hw 389 rfl)) rfl (hb hby d70_6) (XS.iadd X.here hx rfl (hb hby d70_8) rfl kt)) ?_
  exact oRetI X hx hlk hret (hb hby d70_9) (by rw [e0]; exact ⟨rfl, rfl, K⟩) (by decide) (by decide)
abbrev yy23 : MethodName := ⟨"java/lang/StringUTF16", "codePointAt", "([BIIZ)I"⟩
theorem d69_0 : decode b10_ 0 = .ok (.getstatic 44, 3) := by decide +kernel
theorem d69_3 : decode b10_ 3 = .ok (.ifCond .ne 16, 3) := by decide +kernel
theorem d69_19 : decode b10_ 19 = .ok (.iload_n 3, 1) := by decide +kernel
theorem d69_20 : decode b10_ 20 = .ok (.ifCond .eq 8, 3) := by decide +kernel
theorem d69_28 : decode b10_ 28 = .ok (.aload_n 0, 1) := by decide +kernel
theorem d69_29 : decode b10_ 29 = .ok (.iload_n 1, 1) := by decide +kernel
theorem d69_30 : decode b10_ 30 = .ok (.invokestatic 71, 3) := by decide +kernel
theorem d69_33 : decode b10_ 33 = .ok (.istore 4, 2) := by decide +kernel
theorem d69_35 : decode b10_ 35 = .ok (.iload 4, 2) := by decide +kernel
theorem d69_37 : decode b10_ 37 = .ok (.invokestatic 75, 3) := by decide +kernel
theorem d69_40 : decode b10_ 40 = .ok (.ifCond .eq 43, 3) := by decide +kernel
theorem d69_43 : decode b10_ 43 = .ok (.iinc 1 1, 3) := by decide +kernel
theorem d69_46 : decode b10_ 46 = .ok (.iload_n 1, 1) := by decide +kernel
theorem d69_47 : decode b10_ 47 = .ok (.iload_n 2, 1) := by decide +kernel
theorem d69_48 : decode b10_ 48 = .ok (.if_icmp .ge 35, 3) := by decide +kernel
theorem d69_51 : decode b10_ 51 = .ok (.iload_n 3, 1) := by decide +kernel
theorem d69_52 : decode b10_ 52 = .ok (.ifCond .eq 8, 3) := by decide +kernel
theorem d69_60 : decode b10_ 60 = .ok (.aload_n 0, 1) := by decide +kernel
theorem d69_61 : decode b10_ 61 = .ok (.iload_n 1, 1) := by decide +kernel
theorem d69_62 : decode b10_ 62 = .ok (.invokestatic 71, 3) := by decide +kernel
theorem d69_65 : decode b10_ 65 = .ok (.istore 5, 2) := by decide +kernel
theorem d69_67 : decode b10_ 67 = .ok (.iload 5, 2) := by decide +kernel
theorem d69_69 : decode b10_ 69 = .ok (.invokestatic 81, 3) := by decide +kernel
theorem d69_72 : decode b10_ 72 = .ok (.ifCond .eq 11, 3) := by decide +kernel
theorem d69_75 : decode b10_ 75 = .ok (.iload 4, 2) := by decide +kernel
theorem d69_77 : decode b10_ 77 = .ok (.iload 5, 2) := by decide +kernel
theorem d69_79 : decode b10_ 79 = .ok (.invokestatic 84, 3) := by decide +kernel
theorem pd_15 : parseMethodDescriptor "(CC)I" = some ⟨[.char, .char], some .int⟩ := by decide +kernel
theorem cs24 {a0 : Array Value} {Z : State} (hw : oHW a0 Z) : oCall Z Y4 (.invokestatic 84) yy22 b43_ 2 (some .int) (oRs 2) := oCall.stat (oW hw 386 rfl) (oW hw 387 rfl) (oW hw 337 rfl) (oW hw 388 rfl) (by decide) pd_15
theorem d69_82 : decode b10_ 82 = .ok (.ireturn, 1) := by decide +kernel
theorem rUca4 (l : Launch) (Z : State) (a0 : Array Value) (hw : oHW a0 Z) (ws : List Jvm.Cond) (xb : Addr) (xk : ClassId) (h0 : Heap) (O0 : Ext Z.heap h0) (S_A : Sta Z Z.heap Y4 Y10 "Z" (.int (1 : Int32))) (S_H : Sta Z Z.heap Y4 "HI_BYTE_SHIFT" "I" (.int (0 : Int32))) (S_L : Sta Z Z.heap Y4 "LO_BYTE_SHIFT" "I" (.int (8 : Int32))) (V_xb : Arv Z h0 xb xk .byte (4 : Int32) [(iu0 oH), (iu8 oH), (iu0 oL), (iu8 oL)] (.int (0 : Int32))) :
    oCon l Z yy23 b10_ 6 (some .int) ws ({ frames := 1, cells := 0, slots := 0, locals := 13 } : Room) #[(.ref xb), (.int (0 : Int32)), (.int (2 : Int32)), (.int (0 : Int32))] h0 (oPq (some (.int (((oH <<< ((10 : Int32) &&& 31)) + oL) + (-56613888 : Int32)))) h0) := by
  refine oCon.of (plainFor_of_name pn_6) ?_
  intro p e s m below meth c T X hx hby hml hown hnm hret hlk hZ e0
  have hml : c.maxLocals = 6 := hml
  have K : oKp h0 h0 [] [] := oKp.nil _ _
  refine oWk.cast (g' := (mkF m 0 #[rv xb, iv 0, iv 2, iv 0, uu, uu] [])) (by first | rfl | (simp [entryFrame, mkF, argsToLocals, Value.category]; done)) ?_
  have Oh := K.old O0 all0
  obtain ⟨T, X, e0, st⟩ := getS2 X hx hZ hown (host := "") (Or.inl (oW hw 62 rfl)) Via.refl e0 (S_A.ext Oh) (g := (mkF m 0 #[rv xb, iv 0, iv 2, iv 0, uu, uu] [])) rfl (hb hby d69_0)
  refine oWk.st (fun _ kt => st _ (zF X hx hby d69_3 rfl rfl ((if0 _ _).trans (feq (by decide)).2) (pc' := 19) rfl (zI X hx hby d69_19 rfl rfl (zF X hx hby d69_20 rfl rfl ((if0 _ _).trans (teq (by decide)).1) (pc' := 28) rfl (zA X hx hby d69_28 rfl rfl rfl (zI X hx hby d69_29 rfl rfl kt)))))) ?_
  obtain ⟨T, L2, X, e0, K, st⟩ := (cs17 hw).pure X hx hZ hown e0 K (A := [(.ref xb), (.int (0 : Int32))]) rfl (rGC_2_0 l Z a0 hw [] xb xk oH oL h0 Oh S_A S_H S_L (by decide) V_xb) (W := 0) (by decide) hml (Ls := #[rv xb, iv 0, iv 2, iv 0, uu, uu]) rfl (rest := []) rfl rfl hby d69_30
  refine oWk.st (fun _ kt => st _ (zS X hx hby d69_33 rfl rfl (l' := #[rv xb, iv 0, iv 2, iv 0, iv oH, uu]) rfl (zJ X hx hby d69_35 rfl rfl kt))) ?_
  obtain ⟨T, L4, X, e0, K, st⟩ := (cs20 hw).pure X hx hZ hown e0 K (A := [(.int oH)]) rfl (risHighSurrogate_oH l Z a0 hw []  h0 Oh ) (W := 0) (by decide) hml (Ls := #[rv xb, iv 0, iv 2, iv 0, iv oH, uu]) rfl (rest := []) rfl rfl hby d69_37
  refine oWk.to (mkF m 52 #[rv xb, iv 1, iv 2, iv 0, iv oH, uu] [(.int 0)]) (fun _ kt => st _ (zH X hx hby d69_40 rfl rfl ((if0 _ _).trans (feq (by decide)).1) (zC X hx hby d69_43 rfl rfl (l' := #[rv xb, iv ((0 : Int32) + (1 : Int32)), iv 2, iv 0, iv oH, uu]) rfl (zI X hx hby d69_46 rfl rfl (zI X hx hby d69_47 rfl rfl (zN X hx hby d69_48 rfl rfl (tlt (by decide)).2.1 (zI X hx hby d69_51 rfl rfl kt))))))) ?_
  refine oWk.st (fun _ kt => zF X hx hby d69_52 rfl rfl ((if0 _ _).trans (teq (by decide)).1) (pc' := 60) rfl (zA X hx hby d69_60 rfl rfl rfl (zI X hx hby d69_61 rfl rfl kt))) ?_
  obtain ⟨T, L6, X, e0, K, st⟩ := (cs17 hw).pure X hx hZ hown e0 K (A := [(.ref xb), (.int (1 : Int32))]) rfl (rGC_2_1 l Z a0 hw [] xb xk oH oL h0 Oh S_A S_H S_L (by decide) V_xb) (W := 0) (by decide) hml (Ls := #[rv xb, iv 1, iv 2, iv 0, iv oH, uu]) rfl (rest := []) rfl rfl hby d69_62
  refine oWk.st (fun _ kt => st _ (zS X hx hby d69_65 rfl rfl (l' := #[rv xb, iv 1, iv 2, iv 0, iv oH, iv oL]) rfl (zJ X hx hby d69_67 rfl rfl kt))) ?_
  obtain ⟨T, L8, X, e0, K, st⟩ := (cs21 hw).pure X hx hZ hown e0 K (A := [(.int oL)]) rfl (risLowSurrogate_oL l Z a0 hw []  h0 Oh ) (W := 0) (by decide) hml (Ls := #[rv xb, iv 1, iv 2, iv 0, iv oH, iv oL]) rfl (rest := []) rfl rfl hby d69_69
  refine oWk.st (fun _ kt => st _ (zH X hx hby d69_72 rfl rfl ((if0 _ _).trans (feq (by decide)).1) (zJ X hx hby d69_75 rfl rfl (zJ X hx hby d69_77 rfl rfl kt)))) ?_
  obtain ⟨T, L10, X, e0, K, st⟩ := (cs24 hw).pure X hx hZ hown e0 K (A := [(.int oH), (.int oL)]) rfl (rTcp l Z a0 hw []  h0 Oh ) (W := 0) (by decide) hml (Ls := #[rv xb, iv 1, iv 2, iv 0, iv oH, iv oL]) rfl (rest := []) rfl rfl hby d69_79
  refine oWk.to (mkF m 82 #[rv xb, iv 1, iv 2, iv 0, iv oH, iv oL] [(.int (((oH <<< ((10 : Int32) &&& 31)) + oL) + (-56613888 : Int32)))]) (fun _ kt => st _ kt) ?_
  exact oRetI X hx hlk hret (hb hby d69_82) (by rw [e0]; exact ⟨rfl, rfl, K⟩) (by decide) (by decide)
abbrev yy24 : MethodName := ⟨"java/lang/StringUTF16", "codePointAt", "([BII)I"⟩
theorem d68_0 : decode b52_ 0 = .ok (.aload_n 0, 1) := by decide +kernel
theorem d68_1 : decode b52_ 1 = .ok (.iload_n 1, 1) := by decide +kernel
theorem d68_2 : decode b52_ 2 = .ok (.iload_n 2, 1) := by decide +kernel
theorem d68_3 : decode b52_ 3 = .ok (.iconst 0, 1) := by decide +kernel
theorem d68_4 : decode b52_ 4 = .ok (.invokestatic 88, 3) := by decide +kernel
theorem cs25 {a0 : Array Value} {Z : State} (hw : oHW a0 Z) : oCall Z Y4 (.invokestatic 88) yy23 b10_ 6 (some .int) (oRs 4) := oCall.stat (oW hw 383 rfl) (oW hw 384 rfl) (oW hw 39 rfl) (oW hw 385 rfl) (by decide) pd_13
theorem d68_7 : decode b52_ 7 = .ok (.ireturn, 1) := by decide +kernel
theorem rUca3 (l : Launch) (Z : State) (a0 : Array Value) (hw : oHW a0 Z) (ws : List Jvm.Cond) (xb : Addr) (xk : ClassId) (h0 : Heap) (O0 : Ext Z.heap h0) (S_A : Sta Z Z.heap Y4 Y10 "Z" (.int (1 : Int32))) (S_H : Sta Z Z.heap Y4 "HI_BYTE_SHIFT" "I" (.int (0 : Int32))) (S_L : Sta Z Z.heap Y4 "LO_BYTE_SHIFT" "I" (.int (8 : Int32))) (V_xb : Arv Z h0 xb xk .byte (4 : Int32) [(iu0 oH), (iu8 oH), (iu0 oL), (iu8 oL)] (.int (0 : Int32))) :
    oCon l Z yy24 b52_ 3 (some .int) ws ({ frames := 2, cells := 0, slots := 0, locals := 30 } : Room) #[(.ref xb), (.int (0 : Int32)), (.int (2 : Int32))] h0 (oPq (some (.int (((oH <<< ((10 : Int32) &&& 31)) + oL) + (-56613888 : Int32)))) h0) := by
  refine oCon.of (plainFor_of_name pn_6) ?_
  intro p e s m below meth c T X hx hby hml hown hnm hret hlk hZ e0
  have hml : c.maxLocals = 3 := hml
  have K : oKp h0 h0 [] [] := oKp.nil _ _
  refine oWk.cast (g' := (mkF m 0 #[rv xb, iv 0, iv 2] [])) (by first | rfl | (simp [entryFrame, mkF, argsToLocals, Value.category]; done)) ?_
  refine oWk.st (fun _ kt => zA X hx hby d68_0 rfl rfl rfl (zI X hx hby d68_1 rfl rfl (zI X hx hby d68_2 rfl rfl (zK X hx hby d68_3 rfl kt)))) ?_
  have Oh := K.old O0 all0
  obtain ⟨T, L2, X, e0, K, st⟩ := (cs25 hw).pure X hx hZ hown e0 K (A := [(.ref xb), (.int (0 : Int32)), (.int (2 : Int32)), (.int (0 : Int32))]) rfl (rUca4 l Z a0 hw [] xb xk h0 Oh S_A S_H S_L V_xb) (W := 0) (by decide) hml (Ls := #[rv xb, iv 0, iv 2]) rfl (rest := []) rfl rfl hby d68_4
  refine oWk.to (mkF m 7 #[rv xb, iv 0, iv 2] [(.int (((oH <<< ((10 : Int32) &&& 31)) + oL) + (-56613888 : Int32)))]) (fun _ kt => st _ kt) ?_
  exact oRetI X hx hlk hret (hb hby d68_7) (by rw [e0]; exact ⟨rfl, rfl, K⟩) (by decide) (by decide)
theorem d60_27 : decode b5_ 27 = .ok (.aload_n 0, 1) := by decide +kernel
theorem d60_28 : decode b5_ 28 = .ok (.getfield 9, 3) := by decide +kernel
theorem d60_31 : decode b5_ 31 = .ok (.arraylength, 1) := by decide +kernel
theorem d60_32 : decode b5_ 32 = .ok (.iconst 1, 1) := by decide +kernel
theorem d60_33 : decode b5_ 33 = .ok (.ishr, 1) := by decide +kernel
theorem d60_34 : decode b5_ 34 = .ok (.istore_n 2, 1) := by decide +kernel
theorem d60_35 : decode b5_ 35 = .ok (.iload_n 1, 1) := by decide +kernel
theorem d60_36 : decode b5_ 36 = .ok (.iload_n 2, 1) := by decide +kernel
theorem d60_37 : decode b5_ 37 = .ok (.invokestatic 499, 3) := by decide +kernel
theorem d60_40 : decode b5_ 40 = .ok (.aload_n 0, 1) := by decide +kernel
theorem d60_41 : decode b5_ 41 = .ok (.getfield 9, 3) := by decide +kernel
theorem d60_44 : decode b5_ 44 = .ok (.iload_n 1, 1) := by decide +kernel
theorem d60_45 : decode b5_ 45 = .ok (.iload_n 2, 1) := by decide +kernel
theorem d60_46 : decode b5_ 46 = .ok (.invokestatic 502, 3) := by decide +kernel
theorem cs26 {a0 : Array Value} {Z : State} (hw : oHW a0 Z) : oCall Z Y0 (.invokestatic 502) yy24 b52_ 3 (some .int) (oRs 3) := oCall.stat (oW hw 380 rfl) (oW hw 381 rfl) (oW hw 39 rfl) (oW hw 382 rfl) (by decide) pd_14
theorem d60_49 : decode b5_ 49 = .ok (.ireturn, 1) := by decide +kernel
theorem rCaU (l : Launch) (Z : State) (a0 : Array Value) (hw : oHW a0 Z) (ws : List Jvm.Cond) (xa xb : Addr) (xk : ClassId) (xfm : Value) (xz : Int32) (h0 : Heap) (O0 : Ext Z.heap h0) (S_Z : Sta Z Z.heap Y0 Y9 "Z" (.int xz)) (hz : ¬ xz = (0 : Int32)) (S_A : Sta Z Z.heap Y4 Y10 "Z" (.int (1 : Int32))) (S_H : Sta Z Z.heap Y4 "HI_BYTE_SHIFT" "I" (.int (0 : Int32))) (S_L : Sta Z Z.heap Y4 "LO_BYTE_SHIFT" "I" (.int (8 : Int32))) (S_F : Sta Z Z.heap Y11 Y15 Y16 xfm) (hcat : xfm.category = 1) (E_xa : Exa Z h0 xa Y0) (F_coder_xa : Fld Z h0 xa Y0 "coder" "B" (.int (1 : Int32))) (F_value_xa : Fld Z h0 xa Y0 "value" "[B" (.ref xb)) (V_xb : Arv Z h0 xb xk .byte (4 : Int32) [(iu0 oH), (iu8 oH), (iu0 oL), (iu8 oL)] (.int (0 : Int32))) :
    oCon l Z yy14 b5_ 3 (some .int) ws ({ frames := 4, cells := 0, slots := 0, locals := 100 } : Room) #[(.ref xa), (.int (0 : Int32))] h0 (Q_cp 2 h0) := by
  refine oCon.of (plainFor_of_name pn_0) ?_
  intro p e s m below meth c T X hx hby hml hown hnm hret hlk hZ e0
  have hml : c.maxLocals = 3 := hml
  have K : oKp h0 h0 [] [] := oKp.nil _ _
  refine oWk.cast (g' := (mkF m 0 #[rv xa, iv 0, uu] [])) (by first | rfl | (simp [entryFrame, mkF, argsToLocals, Value.category]; done)) ?_
  refine oWk.st (fun _ kt => zA X hx hby d60_0 rfl rfl rfl kt) ?_
  have Oh := K.old O0 all0
  obtain ⟨T, L2, X, e0, K, st⟩ := (cs3 hw).pure X hx hZ hown e0 K (A := [(.ref xa)]) ⟨rfl, _, _, rfl, E_xa⟩ (rIsL1 l Z a0 hw [] xa xz h0 Oh S_Z hz F_coder_xa) (W := 0) (by decide) hml (Ls := #[rv xa, iv 0, uu]) rfl (rest := []) rfl rfl hby d60_1
  refine oWk.st (fun _ kt => st _ (zF X hx hby d60_4 rfl rfl ((if0 _ _).trans (teq (by decide)).1) (pc' := 27) rfl (zA X hx hby d60_27 rfl rfl rfl kt))) ?_
  obtain ⟨T, X, e0, st⟩ := getF X hx hZ hown (host := "") (Or.inl (oW hw 20 rfl)) Via.refl e0 F_value_xa (g := (mkF m 28 #[rv xa, iv 0, uu] [(.ref xa)])) rfl rfl (hb hby d60_28)
  refine oWk.to (mkF m 37 #[rv xa, iv 0, iv 2] [(.int 2), (.int 0)]) (fun _ kt => st _ (oAl X hx hZ e0 V_xb hby d60_31 rfl rfl (zK X hx hby d60_32 rfl (XS.ishr X.here hx rfl (hb hby d60_33) rfl (zSn X hx hby d60_34 rfl rfl (l' := #[rv xa, iv 0, iv 2]) rfl (zI X hx hby d60_35 rfl rfl (zI X hx hby d60_36 rfl rfl kt))))))) ?_
  obtain ⟨T, L5, X, e0, K, st⟩ := (cs13 hw).pure X hx hZ hown e0 K (A := [(.int (0 : Int32)), (.int (2 : Int32))]) rfl (rCkI l Z a0 hw [] (0 : Int32) (2 : Int32) xfm h0 Oh S_F hcat (by decide) (by decide)) (W := 0) (by decide) hml (Ls := #[rv xa, iv 0, iv 2]) rfl (rest := []) rfl rfl hby d60_37
  refine oWk.st (fun _ kt => st _ (zA X hx hby d60_40 rfl rfl rfl kt)) ?_
  obtain ⟨T, X, e0, st⟩ := getF X hx hZ hown (host := "") (Or.inl (oW hw 20 rfl)) Via.refl e0 F_value_xa (g := (mkF m 41 #[rv xa, iv 0, iv 2] [(.ref xa)])) rfl rfl (hb hby d60_41)
  refine oWk.st (fun _ kt => st _ (zI X hx hby d60_44 rfl rfl (zI X hx hby d60_45 rfl rfl kt))) ?_
  obtain ⟨T, L7, X, e0, K, st⟩ := (cs26 hw).pure X hx hZ hown e0 K (A := [(.ref xb), (.int (0 : Int32)), (.int (2 : Int32))]) rfl (rUca3 l Z a0 hw [] xb xk h0 Oh S_A S_H S_L V_xb) (W := 0) (by decide) hml (Ls := #[rv xa, iv 0, iv 2]) rfl (rest := []) rfl rfl hby d60_46
  refine oWk.to (mkF m 49 #[rv xa, iv 0, iv 2] [(.int (((oH <<< ((10 : Int32) &&& 31)) + oL) + (-56613888 : Int32)))]) (fun _ kt => st _ kt) ?_
  exact oRetI X hx hlk hret (hb hby d60_49) (by rw [e0]; exact ⟨(((oH <<< ((10 : Int32) &&& 31)) + oL) + (-56613888 : Int32)), rfl, rfl, K, (Or.inr ⟨rfl, by decide⟩)⟩) (by decide) (by decide)
theorem rSLn (l : Launch) (Z : State) (a0 : Array Value) (hw : oHW a0 Z) (ws : List Jvm.Cond) (xa xb : Addr) (xk : ClassId) (xn xu xw xz : Int32) (h0 : Heap) (O0 : Ext Z.heap h0) (S_Z : Sta Z Z.heap Y0 Y9 "Z" (.int xz)) (hz : ¬ xz = (0 : Int32)) (U_xa : oS Z h0 xa xb xk xn xu xw) :
    oCon l Z yy1 b23_ 1 (some .int) ws ({ frames := 1, cells := 0, slots := 0, locals := 13 } : Room) #[(.ref xa)] h0 (oPq (some (.int xu)) h0) := by
  obtain ⟨E, F, ⟨rfl, rfl, hn, C, vs, V⟩ | ⟨rfl, rfl, rfl, C, V⟩⟩ := U_xa
  · exact rLnL l Z a0 hw ws xa xb xk _ vs xz h0 O0 S_Z hz E C F V
  · exact rLnU_2 l Z a0 hw ws xa xb xk xz oH oL h0 O0 S_Z hz E C F V
theorem rSCk (l : Launch) (Z : State) (a0 : Array Value) (hw : oHW a0 Z) (ws : List Jvm.Cond) (xy xa xb : Addr) (xk : ClassId) (xn xu xw : Int32) (xfm : Value) (xz : Int32) (h0 : Heap) (O0 : Ext Z.heap h0) (S_Z : Sta Z Z.heap Y0 Y9 "Z" (.int xz)) (hz : ¬ xz = (0 : Int32)) (S_A : Sta Z Z.heap Y4 Y10 "Z" (.int (1 : Int32))) (S_H : Sta Z Z.heap Y4 "HI_BYTE_SHIFT" "I" (.int (0 : Int32))) (S_L : Sta Z Z.heap Y4 "LO_BYTE_SHIFT" "I" (.int (8 : Int32))) (S_F : Sta Z Z.heap Y11 Y15 Y16 xfm) (hcat : xfm.category = 1) (U_xa : oS Z h0 xa xb xk xn xu xw) :
    oCon l Z yy12 b41_ 3 none ws ({ frames := 8, cells := 0, slots := 0, locals := 144 } : Room) #[(.ref xy), (.ref xa)] h0 (oPq none h0) := by
  obtain ⟨E, F, ⟨rfl, rfl, hn, C, vs, V⟩ | ⟨rfl, rfl, rfl, C, V⟩⟩ := U_xa
  · exact rCpL l Z a0 hw ws xy xa xb xk _ vs xfm xz h0 O0 S_Z hz S_F hcat hn E C F V
  · exact rCpU l Z a0 hw ws xy xa xb xk xfm xz h0 O0 S_Z hz S_A S_H S_L S_F hcat E C F V
theorem rSCc (l : Launch) (Z : State) (a0 : Array Value) (hw : oHW a0 Z) (ws : List Jvm.Cond) (xa xb : Addr) (xk : ClassId) (xn xu xw xz : Int32) (h0 : Heap) (O0 : Ext Z.heap h0) (S_Z : Sta Z Z.heap Y0 Y9 "Z" (.int xz)) (hz : ¬ xz = (0 : Int32)) (S_A : Sta Z Z.heap Y4 Y10 "Z" (.int (1 : Int32))) (S_H : Sta Z Z.heap Y4 "HI_BYTE_SHIFT" "I" (.int (0 : Int32))) (S_L : Sta Z Z.heap Y4 "LO_BYTE_SHIFT" "I" (.int (8 : Int32))) (U_xa : oS Z h0 xa xb xk xn xu xw) :
    oCon l Z yy13 b15_ 3 (some .int) ws ({ frames := 4, cells := 0, slots := 0, locals := 100 } : Room) #[(.ref xa), (.int (0 : Int32)), (.int xu)] h0 (oPq (some (.int xn)) h0) := by
  obtain ⟨E, F, ⟨rfl, rfl, hn, C, vs, V⟩ | ⟨rfl, rfl, rfl, C, V⟩⟩ := U_xa
  · exact rCcL l Z a0 hw ws xa xb xk _ vs xz h0 O0 S_Z hz hn E C F V
  · exact rCcU l Z a0 hw ws xa xb xk xz h0 O0 S_Z hz S_A S_H S_L E C F V
theorem oIx1 {i n : Int32} (hx : ((1 : Int32).toInt = 1 ∧ 0 ≤ i.toInt ∧ i.toInt < n.toInt) ∨ ((1 : Int32).toInt = 2 ∧ i.toInt = 0)) : ¬ i < (0 : Int32) ∧ i < n := by
  have e : (0 : Int32).toInt = 0 := by decide
  have e1 : (1 : Int32).toInt = 1 := by decide
  simp only [Int32.lt_iff_toInt_lt]
  omega
theorem oIx2 {i n : Int32} (hx : ((2 : Int32).toInt = 1 ∧ 0 ≤ i.toInt ∧ i.toInt < n.toInt) ∨ ((2 : Int32).toInt = 2 ∧ i.toInt = 0)) : i = 0 := by
  have e : (0 : Int32).toInt = 0 := by decide
  have e1 : (2 : Int32).toInt = 2 := by decide
  apply Int32.toInt_inj.mp
  omega
theorem rSCa (l : Launch) (Z : State) (a0 : Array Value) (hw : oHW a0 Z) (ws : List Jvm.Cond) (xa xb : Addr) (xk : ClassId) (xn xu xw xi : Int32) (xfm : Value) (xz : Int32) (h0 : Heap) (O0 : Ext Z.heap h0) (S_Z : Sta Z Z.heap Y0 Y9 "Z" (.int xz)) (hz : ¬ xz = (0 : Int32)) (S_A : Sta Z Z.heap Y4 Y10 "Z" (.int (1 : Int32))) (S_H : Sta Z Z.heap Y4 "HI_BYTE_SHIFT" "I" (.int (0 : Int32))) (S_L : Sta Z Z.heap Y4 "LO_BYTE_SHIFT" "I" (.int (8 : Int32))) (S_F : Sta Z Z.heap Y11 Y15 Y16 xfm) (hcat : xfm.category = 1) (hx : (xw.toInt = 1 ∧ 0 ≤ xi.toInt ∧ xi.toInt < xu.toInt) ∨ (xw.toInt = 2 ∧ xi.toInt = 0)) (U_xa : oS Z h0 xa xb xk xn xu xw) :
    oCon l Z yy14 b5_ 3 (some .int) ws ({ frames := 4, cells := 0, slots := 0, locals := 100 } : Room) #[(.ref xa), (.int xi)] h0 (Q_cp xw h0) := by
  obtain ⟨E, F, ⟨rfl, rfl, hn, C, vs, V⟩ | ⟨rfl, rfl, rfl, C, V⟩⟩ := U_xa
  · exact rCaL l Z a0 hw ws xa xb xk _ vs xi xfm xz h0 O0 S_Z hz S_F hcat (oIx1 hx).1 (oIx1 hx).2 E C F V
  · cases oIx2 hx
    exact rCaU l Z a0 hw ws xa xb xk xfm xz h0 O0 S_Z hz S_A S_H S_L S_F hcat E C F V
abbrev yy25 : MethodName := ⟨"java/lang/Character", "charCount", "(I)I"⟩
theorem d61_0 : decode b35_ 0 = .ok (.iload_n 0, 1) := by decide +kernel
theorem d61_1 : decode b35_ 1 = .ok (.ldc 73, 2) := by decide +kernel
theorem d61_3 : decode b35_ 3 = .ok (.if_icmp .lt 7, 3) := by decide +kernel
theorem d61_10 : decode b35_ 10 = .ok (.iconst 1, 1) := by decide +kernel
theorem d61_11 : decode b35_ 11 = .ok (.ireturn, 1) := by decide +kernel
theorem rCh1 (l : Launch) (Z : State) (a0 : Array Value) (hw : oHW a0 Z) (ws : List Jvm.Cond) (xi : Int32) (h0 : Heap) (O0 : Ext Z.heap h0) (h1 : xi < (65536 : Int32)) :
    oCon l Z yy25 b35_ 1 (some .int) ws ({ frames := 0, cells := 0, slots := 0, locals := 0 } : Room) #[(.int xi)] h0 (oPq (some (.int (1 : Int32))) h0) := by
  refine oCon.of (plainFor_of_name pn_4) ?_
  intro p e s m below meth c T X hx hby hml hown hnm hret hlk hZ e0
  have hml : c.maxLocals = 1 := hml
  have K : oKp h0 h0 [] [] := oKp.nil _ _
  refine oWk.cast (g' := (mkF m 0 #[iv xi] [])) (by first | rfl | (simp [entryFrame, mkF, argsToLocals, Value.category]; done)) ?_
  refine oWk.st (fun _ kt => zI X hx hby d61_0 rfl rfl kt) ?_
  refine oWk.to (mkF m 11 #[iv xi] [(.int 1)]) (fun _ kt => X.ldcI hx hown (mvT hZ (oW hw 352 rfl)) rfl (hb hby d61_1) (zY X hx hby d61_3 rfl rfl (tlt h1).1 (pc' := 10) rfl (zK X hx hby d61_10 rfl kt))) ?_
  exact oRetI X hx hlk hret (hb hby d61_11) (by rw [e0]; exact ⟨rfl, rfl, K⟩) (by decide) (by decide)
theorem d61_6 : decode b35_ 6 = .ok (.iconst 2, 1) := by decide +kernel
theorem d61_7 : decode b35_ 7 = .ok (.goto 4, 3) := by decide +kernel
theorem rCh2 (l : Launch) (Z : State) (a0 : Array Value) (hw : oHW a0 Z) (ws : List Jvm.Cond) (xi : Int32) (h0 : Heap) (O0 : Ext Z.heap h0) (h1 : ¬ xi < (65536 : Int32)) :
    oCon l Z yy25 b35_ 1 (some .int) ws ({ frames := 0, cells := 0, slots := 0, locals := 0 } : Room) #[(.int xi)] h0 (oPq (some (.int (2 : Int32))) h0) := by
  refine oCon.of (plainFor_of_name pn_4) ?_
  intro p e s m below meth c T X hx hby hml hown hnm hret hlk hZ e0
  have hml : c.maxLocals = 1 := hml
  have K : oKp h0 h0 [] [] := oKp.nil _ _
  refine oWk.cast (g' := (mkF m 0 #[iv xi] [])) (by first | rfl | (simp [entryFrame, mkF, argsToLocals, Value.category]; done)) ?_
  refine oWk.st (fun _ kt => zI X hx hby d61_0 rfl rfl kt) ?_
  refine oWk.to (mkF m 11 #[iv xi] [(.int 2)]) (fun _ kt => X.ldcI hx hown (mvT hZ (oW hw 352 rfl)) rfl (hb hby d61_1) (zN X hx hby d61_3 rfl rfl (flt h1).1 (zK X hx hby d61_6 rfl (zG X hx hby d61_7 rfl (pc' := 11) rfl kt)))) ?_
  exact oRetI X hx hlk hret (hb hby d61_11) (by rw [e0]; exact ⟨rfl, rfl, K⟩) (by decide) (by decide)
theorem rSCh (l : Launch) (Z : State) (a0 : Array Value) (hw : oHW a0 Z) (ws : List Jvm.Cond) (xi xw : Int32) (h0 : Heap) (O0 : Ext Z.heap h0) (hcc : oCC xi xw) :
    oCon l Z yy25 b35_ 1 (some .int) ws ({ frames := 0, cells := 0, slots := 0, locals := 0 } : Room) #[(.int xi)] h0 (oPq (some (.int xw)) h0) := by
  rcases hcc with ⟨rfl, h1⟩ | ⟨rfl, h1⟩
  · exact rCh1 l Z a0 hw ws xi h0 O0 h1
  · exact rCh2 l Z a0 hw ws xi h0 O0 h1
abbrev yy26 : MethodName := ⟨"java/util/Objects", "requireNonNull", "(Ljava/lang/Object;Ljava/lang/String;)Ljava/lang/Object;"⟩
theorem d22_0 : decode b59_ 0 = .ok (.aload_n 0, 1) := by decide +kernel
theorem d22_1 : decode b59_ 1 = .ok (.ifnonnull 12, 3) := by decide +kernel
theorem d22_13 : decode b59_ 13 = .ok (.aload_n 0, 1) := by decide +kernel
theorem d22_14 : decode b59_ 14 = .ok (.areturn, 1) := by decide +kernel
theorem rRN2 (l : Launch) (Z : State) (a0 : Array Value) (hw : oHW a0 Z) (ws : List Jvm.Cond) (xx xy : Addr) (h0 : Heap) (O0 : Ext Z.heap h0)  :
    oCon l Z yy26 b59_ 2 (some (.object Y6)) ws ({ frames := 0, cells := 0, slots := 0, locals := 0 } : Room) #[(.ref xx), (.ref xy)] h0 (oPq (some (.ref xx)) h0) := by
  refine oCon.of (plainFor_of_name pn_3) ?_
  intro p e s m below meth c T X hx hby hml hown hnm hret hlk hZ e0
  have hml : c.maxLocals = 2 := hml
  have K : oKp h0 h0 [] [] := oKp.nil _ _
  refine oWk.cast (g' := (mkF m 0 #[rv xx, rv xy] [])) (by first | rfl | (simp [entryFrame, mkF, argsToLocals, Value.category]; done)) ?_
  refine oWk.to (mkF m 14 #[rv xx, rv xy] [(.ref xx)]) (fun _ kt => zA X hx hby d22_0 rfl rfl rfl (XS.ifnonnullYes X.here hx rfl (pc0 := 1) (pc' := 13) rfl (hb hby d22_1) rfl (by decide) (by decide) (zA X hx hby d22_13 rfl rfl rfl kt))) ?_
  exact oRetA X hx hlk hret rfl rfl (hb hby d22_14) (by rw [e0]; exact ⟨rfl, rfl, K⟩) (by decide) (by decide)
def Q_rPI (Z : State) (xp : Addr) (xi xd : Int32) (u1 u2 u3 u4 : Value) (xa xb : Addr) (xk : ClassId) (xn xu xw : Int32) (xfm : Value) (xz : Int32) (h0 : Heap) (v : Option Value) (h : Heap) (L : List Loc) : Prop := v = none ∧ oKp h0 h [xp] L ∧ (Exa Z h xp Y2) ∧ (Fld Z h xp Y2 "position" "I" (.int xi)) ∧ (Fld Z h xp Y2 "deleteCount" "I" (.int xd)) ∧ (Fld Z h xp Y2 "insertion" Y13 (.ref xa)) ∧ (Fld Z h xp Y2 Y12 "I" (.int xn))
theorem pn_7 : plainName "com/example/wakati/wakati/Patch" = true := by first | (simp [plainName, overriddenIn]; done) | decide +kernel
abbrev yy27 : MethodName := ⟨"com/example/wakati/wakati/Patch", "<init>", "(IILjava/lang/String;)V"⟩
theorem d21_0 : decode b9_ 0 = .ok (.aload_n 0, 1) := by decide +kernel
theorem d21_1 : decode b9_ 1 = .ok (.invokespecial 1, 3) := by decide +kernel
theorem d21_4 : decode b9_ 4 = .ok (.aload_n 3, 1) := by decide +kernel
theorem d21_5 : decode b9_ 5 = .ok (.ldc 7, 2) := by decide +kernel
theorem d21_7 : decode b9_ 7 = .ok (.invokestatic 9, 3) := by decide +kernel
theorem pd_16 : parseMethodDescriptor "(Ljava/lang/Object;Ljava/lang/String;)Ljava/lang/Object;" = some ⟨[(.object "java/lang/Object"), (.object "java/lang/String")], some (.object "java/lang/Object")⟩ := by decide +kernel
theorem cs27 {a0 : Array Value} {Z : State} (hw : oHW a0 Z) : oCall Z Y2 (.invokestatic 9) yy26 b59_ 2 (some (.object Y6)) (oRs 2) := oCall.stat (oW hw 108 rfl) (oW hw 109 rfl) (oW hw 110 rfl) (oW hw 111 rfl) (by decide) pd_16
theorem d21_10 : decode b9_ 10 = .ok (.pop, 1) := by decide +kernel
theorem d21_11 : decode b9_ 11 = .ok (.iload_n 1, 1) := by decide +kernel
theorem d21_12 : decode b9_ 12 = .ok (.ifCond .ge 17, 3) := by decide +kernel
theorem d21_29 : decode b9_ 29 = .ok (.iload_n 2, 1) := by decide +kernel
theorem d21_30 : decode b9_ 30 = .ok (.ifCond .ge 17, 3) := by decide +kernel
theorem d21_47 : decode b9_ 47 = .ok (.ldc 25, 2) := by decide +kernel
theorem d21_49 : decode b9_ 49 = .ok (.aload_n 3, 1) := by decide +kernel
theorem d21_50 : decode b9_ 50 = .ok (.invokestatic 27, 3) := by decide +kernel
theorem pd_17 : parseMethodDescriptor "(Ljava/lang/String;Ljava/lang/String;)V" = some ⟨[(.object "java/lang/String"), (.object "java/lang/String")], none⟩ := by decide +kernel
theorem cs28 {a0 : Array Value} {Z : State} (hw : oHW a0 Z) : oCall Z Y2 (.invokestatic 27) yy12 b41_ 3 none (oRs 2) := oCall.stat (oW hw 113 rfl) (oW hw 114 rfl) (oW hw 115 rfl) (oW hw 116 rfl) (by decide) pd_17
theorem d21_53 : decode b9_ 53 = .ok (.aload_n 0, 1) := by decide +kernel
theorem d21_54 : decode b9_ 54 = .ok (.iload_n 1, 1) := by decide +kernel
theorem d21_55 : decode b9_ 55 = .ok (.putfield 33, 3) := by decide +kernel
theorem d21_58 : decode b9_ 58 = .ok (.aload_n 0, 1) := by decide +kernel
theorem d21_59 : decode b9_ 59 = .ok (.iload_n 2, 1) := by decide +kernel
theorem d21_60 : decode b9_ 60 = .ok (.putfield 39, 3) := by decide +kernel
theorem d21_63 : decode b9_ 63 = .ok (.aload_n 0, 1) := by decide +kernel
theorem d21_64 : decode b9_ 64 = .ok (.aload_n 3, 1) := by decide +kernel
theorem d21_65 : decode b9_ 65 = .ok (.putfield 42, 3) := by decide +kernel
theorem d21_68 : decode b9_ 68 = .ok (.aload_n 0, 1) := by decide +kernel
theorem d21_69 : decode b9_ 69 = .ok (.aload_n 3, 1) := by decide +kernel
theorem d21_70 : decode b9_ 70 = .ok (.iconst 0, 1) := by decide +kernel
theorem d21_71 : decode b9_ 71 = .ok (.aload_n 3, 1) := by decide +kernel
theorem d21_72 : decode b9_ 72 = .ok (.invokevirtual 45, 3) := by decide +kernel
theorem cs29 {a0 : Array Value} {Z : State} (hw : oHW a0 Z) : oCall Z Y2 (.invokevirtual 45) yy1 b23_ 1 (some .int) (oRv Z 0 Y0) := oCall.virt (oW hw 136 rfl) (oW hw 121 rfl) (fun _ hZ => notFace_of_selects (args := #[]) (mvT hZ (oW hw 123 rfl))) (oW hw 123 rfl) (oW hw 122 rfl) (oW hw 2 rfl) (oW hw 124 rfl) (by decide) pd_6
theorem d21_75 : decode b9_ 75 = .ok (.invokevirtual 51, 3) := by decide +kernel
theorem pd_18 : parseMethodDescriptor "(II)I" = some ⟨[.int, .int], some .int⟩ := by decide +kernel
theorem cs30 {a0 : Array Value} {Z : State} (hw : oHW a0 Z) : oCall Z Y2 (.invokevirtual 51) yy13 b15_ 3 (some .int) (oRv Z 2 Y0) := oCall.virt (oW hw 137 rfl) (oW hw 138 rfl) (fun _ hZ => notFace_of_selects (args := #[]) (mvT hZ (oW hw 140 rfl))) (oW hw 140 rfl) (oW hw 139 rfl) (oW hw 2 rfl) (oW hw 141 rfl) (by decide) pd_18
theorem d21_78 : decode b9_ 78 = .ok (.putfield 55, 3) := by decide +kernel
theorem d21_81 : decode b9_ 81 = .ok (.return_, 1) := by decide +kernel
theorem rPI (l : Launch) (Z : State) (a0 : Array Value) (hw : oHW a0 Z) (ws : List Jvm.Cond) (xp : Addr) (xi xd : Int32) (u1 u2 u3 u4 : Value) (xa xb : Addr) (xk : ClassId) (xn xu xw : Int32) (xfm : Value) (xz : Int32) (h0 : Heap) (O0 : Ext Z.heap h0) (S_Z : Sta Z Z.heap Y0 Y9 "Z" (.int xz)) (hz : ¬ xz = (0 : Int32)) (S_A : Sta Z Z.heap Y4 Y10 "Z" (.int (1 : Int32))) (S_H : Sta Z Z.heap Y4 "HI_BYTE_SHIFT" "I" (.int (0 : Int32))) (S_L : Sta Z Z.heap Y4 "LO_BYTE_SHIFT" "I" (.int (8 : Int32))) (S_F : Sta Z Z.heap Y11 Y15 Y16 xfm) (hcat : xfm.category = 1) (og_xp : Z.heap.size ≤ xp) (E_xp : Exa Z h0 xp Y2) (F_position_xp : Fld Z h0 xp Y2 "position" "I" u1) (F_deleteCount_xp : Fld Z h0 xp Y2 "deleteCount" "I" u2) (F_insertion_xp : Fld Z h0 xp Y2 "insertion" Y13 u3) (F_insertionLength_xp : Fld Z h0 xp Y2 Y12 "I" u4) (U_xa : oS Z h0 xa xb xk xn xu xw) (ne_xa_xp : xa ≠ xp) (ne_xb_xp : xb ≠ xp) (hi : ¬ xi < (0 : Int32)) (hd : ¬ xd < (0 : Int32)) :
    oConH l Z oEL yy27 b9_ 4 none ws ({ frames := 9, cells := 4, slots := 112, locals := 158 } : Room) #[(.ref xp), (.int xi), (.int xd), (.ref xa)] h0 [xp] (Q_rPI Z xp xi xd u1 u2 u3 u4 xa xb xk xn xu xw xfm xz h0) := by
  refine oConH.of (plainFor_of_name pn_7) ?_
  intro p e s m below meth c T vm X hx hby hml hown hnm hret hlk hZ e0 B hsf
  have sf_xp := hsf xp (List.mem_of_getElem? (i := 0) rfl)
  have hml : c.maxLocals = 4 := hml
  have K : oKp h0 h0 [xp] [] := oKp.nil _ _
  refine oWk.cast (g' := (mkF m 0 #[rv xp, iv xi, iv xd, rv xa] [])) (by first | rfl | (simp [entryFrame, mkF, argsToLocals, Value.category]; done)) ?_
  refine oWk.st (fun _ kt => zA X hx hby d21_0 rfl rfl rfl kt) ?_
  obtain ⟨T, X, e0, st⟩ := initO X hx hZ hown (oW hw 106 rfl) (oW hw 12 rfl) (oW hw 13 rfl) e0 (g := (mkF m 1 #[rv xp, iv xi, iv xd, rv xa] [(.ref xp)])) rfl (by rw [hml]; rfl) rfl (hb hby d21_1) (by decide) (W := 0) (Nat.le_of_eq rfl) (by decide)
  refine oWk.st (fun _ kt => st _ (zA X hx hby d21_4 rfl rfl rfl kt)) ?_
  obtain ⟨lt1, T, h, X, e2, E1, hZ, hown, B, C, st⟩ := oLdcO X hx hZ hown (oW hw 107 rfl) (oSA hw) e0 (oELw hw) B (g := (mkF m 5 #[rv xp, iv xi, iv xd, rv xa] [(.ref xa)])) rfl (hb hby d21_5) (n := 68) (by decide) (by decide) (by decide) (by decide)
  have sf_xp := C.safe E_xp.lt sf_xp
  have e0 := e2
  have K := K.ext E1
  refine oWk.st (fun _ kt => st _ kt) ?_
  have Oh := K.old O0 (allS og_xp all0)
  obtain ⟨T, L3, X, e0, K, st⟩ := (cs27 hw).pure X hx hZ hown e0 K (A := [(.ref xa), (.ref lt1)]) rfl (rRN2 l Z a0 hw [] xa lt1 h Oh ) (W := 0) (by decide) hml (Ls := #[rv xp, iv xi, iv xd, rv xa]) rfl (rest := []) rfl rfl hby d21_7
  refine oWk.st (fun _ kt => st _ (XS.pop X.here hx rfl (hb hby d21_10) rfl rfl (zI X hx hby d21_11 rfl rfl (zF X hx hby d21_12 rfl rfl ((if0 _ _).trans (flt hi).2.1) (pc' := 29) rfl (zI X hx hby d21_29 rfl rfl (zF X hx hby d21_30 rfl rfl ((if0 _ _).trans (flt hd).2.1) (pc' := 47) rfl kt)))))) ?_
  have E_xp := (E_xp.ext E1)
  obtain ⟨lt4, T, h, X, e2, E4, hZ, hown, B, C, st⟩ := oLdcO X hx hZ hown (oW hw 112 rfl) (oSA hw) e0 (oELw hw) B (g := (mkF m 47 #[rv xp, iv xi, iv xd, rv xa] [])) rfl (hb hby d21_47) (n := 36) (by decide) (by decide) (by decide) (by decide)
  have sf_xp := C.safe E_xp.lt sf_xp
  have e0 := e2
  have K := K.ext E4
  refine oWk.st (fun _ kt => st _ (zA X hx hby d21_49 rfl rfl rfl kt)) ?_
  have U_xa := ((U_xa.ext E1).ext E4)
  have Oh := K.old O0 (allS og_xp all0)
  obtain ⟨T, L6, X, e0, K, st⟩ := (cs28 hw).pure X hx hZ hown e0 K (A := [(.ref lt4), (.ref xa)]) rfl (rSCk l Z a0 hw [] lt4 xa xb xk xn xu xw xfm xz h Oh S_Z hz S_A S_H S_L S_F hcat U_xa) (W := 0) (by decide) hml (Ls := #[rv xp, iv xi, iv xd, rv xa]) rfl (rest := []) rfl rfl hby d21_50
  refine oWk.st (fun _ kt => st _ (zA X hx hby d21_53 rfl rfl rfl (zI X hx hby d21_54 rfl rfl kt))) ?_
  have E_xp := (E_xp.ext E4)
  have F_position_xp := ((F_position_xp.ext E1).ext E4)
  obtain ⟨T, h, X, e0, W7, st⟩ := putF X hx hZ hown (host := "") (Or.inl (oW hw 130 rfl)) Via.refl e0 F_position_xp E_xp (Or.inr ⟨(oW hw 131 rfl), rfl, hnm⟩) (oW hw 98 rfl) (ty := .int) (by decide) rfl rfl (g := (mkF m 55 #[rv xp, iv xi, iv xd, rv xa] [(.int xi), (.ref xp)])) rfl rfl (hb hby d21_55)
  have K := K.wr W7 (Or.inl (List.mem_of_getElem? (i := 0) rfl))
  have sw : Safe Z oEL _ _ xp := sf_xp
  have sf_xp := Safe.wr W7 sw B.2.1 sf_xp
  have B := B.wr W7 sw
  have F_position_xp := F_position_xp.same W7
  refine oWk.st (fun _ kt => st _ (zA X hx hby d21_58 rfl rfl rfl (zI X hx hby d21_59 rfl rfl kt))) ?_
  have E_xp := (E_xp.wr W7)
  have F_deleteCount_xp := (((F_deleteCount_xp.ext E1).ext E4).other W7 (Or.inr (slot_ne (Or.inr (oW hw 133 rfl)) (Or.inr (oW hw 131 rfl)) (by decide) (t := .int) (t' := .int) (by decide) (by decide))))
  obtain ⟨T, h, X, e0, W8, st⟩ := putF X hx hZ hown (host := "") (Or.inl (oW hw 132 rfl)) Via.refl e0 F_deleteCount_xp E_xp (Or.inr ⟨(oW hw 133 rfl), rfl, hnm⟩) (oW hw 98 rfl) (ty := .int) (by decide) rfl rfl (g := (mkF m 60 #[rv xp, iv xi, iv xd, rv xa] [(.int xd), (.ref xp)])) rfl rfl (hb hby d21_60)
  have K := K.wr W8 (Or.inl (List.mem_of_getElem? (i := 0) rfl))
  have sw : Safe Z oEL _ _ xp := sf_xp
  have sf_xp := Safe.wr W8 sw B.2.1 sf_xp
  have B := B.wr W8 sw
  have F_deleteCount_xp := F_deleteCount_xp.same W8
  refine oWk.st (fun _ kt => st _ (zA X hx hby d21_63 rfl rfl rfl (zA X hx hby d21_64 rfl rfl rfl kt))) ?_
  have E_xp := (E_xp.wr W8)
  have F_insertion_xp := ((((F_insertion_xp.ext E1).ext E4).other W7 (Or.inr (slot_ne (Or.inr (oW hw 135 rfl)) (Or.inr (oW hw 131 rfl)) (by decide) (t := (.object Y0)) (t' := .int) (by decide) (by decide)))).other W8 (Or.inr (slot_ne (Or.inr (oW hw 135 rfl)) (Or.inr (oW hw 133 rfl)) (by decide) (t := (.object Y0)) (t' := .int) (by decide) (by decide))))
  obtain ⟨T, h, X, e0, W9, st⟩ := putF X hx hZ hown (host := "") (Or.inl (oW hw 134 rfl)) Via.refl e0 F_insertion_xp E_xp (Or.inr ⟨(oW hw 135 rfl), rfl, hnm⟩) (oW hw 98 rfl) (ty := (.object Y0)) (by decide) rfl rfl (g := (mkF m 65 #[rv xp, iv xi, iv xd, rv xa] [(.ref xa), (.ref xp)])) rfl rfl (hb hby d21_65)
  have K := K.wr W9 (Or.inl (List.mem_of_getElem? (i := 0) rfl))
  have sw : Safe Z oEL _ _ xp := sf_xp
  have sf_xp := Safe.wr W9 sw B.2.1 sf_xp
  have B := B.wr W9 sw
  have F_insertion_xp := F_insertion_xp.same W9
  refine oWk.st (fun _ kt => st _ (zA X hx hby d21_68 rfl rfl rfl (zA X hx hby d21_69 rfl rfl rfl (zK X hx hby d21_70 rfl (zA X hx hby d21_71 rfl rfl rfl kt))))) ?_
  have U_xa := (((U_xa.wr W7 ne_xa_xp ne_xb_xp).wr W8 ne_xa_xp ne_xb_xp).wr W9 ne_xa_xp ne_xb_xp)
  have Oh := K.old O0 (allS og_xp all0)
  obtain ⟨T, L11, X, e0, K, st⟩ := (cs29 hw).pure X hx hZ hown e0 K (A := [(.ref xa)]) ⟨rfl, _, _, rfl, U_xa.exa⟩ (rSLn l Z a0 hw [] xa xb xk xn xu xw xz h Oh S_Z hz U_xa) (W := 3) (by decide) hml (Ls := #[rv xp, iv xi, iv xd, rv xa]) rfl (rest := [(.int (0 : Int32)), (.ref xa), (.ref xp)]) rfl rfl hby d21_72
  refine oWk.st (fun _ kt => st _ kt) ?_
  obtain ⟨T, L13, X, e0, K, st⟩ := (cs30 hw).pure X hx hZ hown e0 K (A := [(.ref xa), (.int (0 : Int32)), (.int xu)]) ⟨rfl, _, _, rfl, U_xa.exa⟩ (rSCc l Z a0 hw [] xa xb xk xn xu xw xz h Oh S_Z hz S_A S_H S_L U_xa) (W := 1) (by decide) hml (Ls := #[rv xp, iv xi, iv xd, rv xa]) rfl (rest := [(.ref xp)]) rfl rfl hby d21_75
  refine oWk.st (fun _ kt => st _ kt) ?_
  have E_xp := (E_xp.wr W9)
  have F_insertionLength_xp := (((((F_insertionLength_xp.ext E1).ext E4).other W7 (Or.inr (slot_ne (Or.inr (oW hw 156 rfl)) (Or.inr (oW hw 131 rfl)) (by decide) (t := .int) (t' := .int) (by decide) (by decide)))).other W8 (Or.inr (slot_ne (Or.inr (oW hw 156 rfl)) (Or.inr (oW hw 133 rfl)) (by decide) (t := .int) (t' := .int) (by decide) (by decide)))).other W9 (Or.inr (slot_ne (Or.inr (oW hw 156 rfl)) (Or.inr (oW hw 135 rfl)) (by decide) (t := .int) (t' := (.object Y0)) (by decide) (by decide))))
  obtain ⟨T, h, X, e0, W14, st⟩ := putF X hx hZ hown (host := "") (Or.inl (oW hw 155 rfl)) Via.refl e0 F_insertionLength_xp E_xp (Or.inr ⟨(oW hw 156 rfl), rfl, hnm⟩) (oW hw 98 rfl) (ty := .int) (by decide) rfl rfl (g := (mkF m 78 #[rv xp, iv xi, iv xd, rv xa] [(.int xn), (.ref xp)])) rfl rfl (hb hby d21_78)
  have K := K.wr W14 (Or.inl (List.mem_of_getElem? (i := 0) rfl))
  have sw : Safe Z oEL _ _ xp := sf_xp
  have sf_xp := Safe.wr W14 sw B.2.1 sf_xp
  have B := B.wr W14 sw
  have F_insertionLength_xp := F_insertionLength_xp.same W14
  refine oWk.to (mkF m 81 #[rv xp, iv xi, iv xd, rv xa] []) (fun _ kt => st _ kt) ?_
  have E_xp := (E_xp.wr W14)
  have F_position_xp := (((F_position_xp.other W8 (Or.inr (slot_ne (Or.inr (oW hw 131 rfl)) (Or.inr (oW hw 133 rfl)) (by decide) (t := .int) (t' := .int) (by decide) (by decide)))).other W9 (Or.inr (slot_ne (Or.inr (oW hw 131 rfl)) (Or.inr (oW hw 135 rfl)) (by decide) (t := .int) (t' := (.object Y0)) (by decide) (by decide)))).other W14 (Or.inr (slot_ne (Or.inr (oW hw 131 rfl)) (Or.inr (oW hw 156 rfl)) (by decide) (t := .int) (t' := .int) (by decide) (by decide))))
  have F_deleteCount_xp := ((F_deleteCount_xp.other W9 (Or.inr (slot_ne (Or.inr (oW hw 133 rfl)) (Or.inr (oW hw 135 rfl)) (by decide) (t := .int) (t' := (.object Y0)) (by decide) (by decide)))).other W14 (Or.inr (slot_ne (Or.inr (oW hw 133 rfl)) (Or.inr (oW hw 156 rfl)) (by decide) (t := .int) (t' := .int) (by decide) (by decide))))
  have F_insertion_xp := (F_insertion_xp.other W14 (Or.inr (slot_ne (Or.inr (oW hw 135 rfl)) (Or.inr (oW hw 156 rfl)) (by decide) (t := (.object Y0)) (t' := .int) (by decide) (by decide))))
  exact oRetHV X hx hlk hZ (oELw hw) e0 B hret (hb hby d21_81) (by rw [e0]; exact ⟨rfl, K, E_xp, F_position_xp, F_deleteCount_xp, F_insertion_xp, F_insertionLength_xp⟩) (by decide) (by decide)
abbrev yy28 : MethodName := ⟨"com/example/wakati/wakati/Patch", "position", "()I"⟩
theorem d46_0 : decode b62_ 0 = .ok (.aload_n 0, 1) := by decide +kernel
theorem d46_1 : decode b62_ 1 = .ok (.getfield 33, 3) := by decide +kernel
theorem d46_4 : decode b62_ 4 = .ok (.ireturn, 1) := by decide +kernel
theorem rGposition (l : Launch) (Z : State) (a0 : Array Value) (hw : oHW a0 Z) (ws : List Jvm.Cond) (xp : Addr) (xi : Int32) (h0 : Heap) (O0 : Ext Z.heap h0) (F_position_xp : Fld Z h0 xp Y2 "position" "I" (.int xi)) :
    oCon l Z yy28 b62_ 1 (some .int) ws ({ frames := 0, cells := 0, slots := 0, locals := 0 } : Room) #[(.ref xp)] h0 (oPq (some (.int xi)) h0) := by
  refine oCon.of (plainFor_of_name pn_7) ?_
  intro p e s m below meth c T X hx hby hml hown hnm hret hlk hZ e0
  have hml : c.maxLocals = 1 := hml
  have K : oKp h0 h0 [] [] := oKp.nil _ _
  refine oWk.cast (g' := (mkF m 0 #[rv xp] [])) (by first | rfl | (simp [entryFrame, mkF, argsToLocals, Value.category]; done)) ?_
  refine oWk.st (fun _ kt => zA X hx hby d46_0 rfl rfl rfl kt) ?_
  obtain ⟨T, X, e0, st⟩ := getF X hx hZ hown (host := "") (Or.inl (oW hw 130 rfl)) Via.refl e0 F_position_xp (g := (mkF m 1 #[rv xp] [(.ref xp)])) rfl rfl (hb hby d46_1)
  refine oWk.to (mkF m 4 #[rv xp] [(.int xi)]) (fun _ kt => st _ kt) ?_
  exact oRetI X hx hlk hret (hb hby d46_4) (by rw [e0]; exact ⟨rfl, rfl, K⟩) (by decide) (by decide)
abbrev yy29 : MethodName := ⟨"com/example/wakati/wakati/Patch", "deleteCount", "()I"⟩
theorem d45_0 : decode b63_ 0 = .ok (.aload_n 0, 1) := by decide +kernel
theorem d45_1 : decode b63_ 1 = .ok (.getfield 39, 3) := by decide +kernel
theorem d45_4 : decode b63_ 4 = .ok (.ireturn, 1) := by decide +kernel
theorem rGdeleteCount (l : Launch) (Z : State) (a0 : Array Value) (hw : oHW a0 Z) (ws : List Jvm.Cond) (xp : Addr) (xi : Int32) (h0 : Heap) (O0 : Ext Z.heap h0) (F_deleteCount_xp : Fld Z h0 xp Y2 "deleteCount" "I" (.int xi)) :
    oCon l Z yy29 b63_ 1 (some .int) ws ({ frames := 0, cells := 0, slots := 0, locals := 0 } : Room) #[(.ref xp)] h0 (oPq (some (.int xi)) h0) := by
  refine oCon.of (plainFor_of_name pn_7) ?_
  intro p e s m below meth c T X hx hby hml hown hnm hret hlk hZ e0
  have hml : c.maxLocals = 1 := hml
  have K : oKp h0 h0 [] [] := oKp.nil _ _
  refine oWk.cast (g' := (mkF m 0 #[rv xp] [])) (by first | rfl | (simp [entryFrame, mkF, argsToLocals, Value.category]; done)) ?_
  refine oWk.st (fun _ kt => zA X hx hby d45_0 rfl rfl rfl kt) ?_
  obtain ⟨T, X, e0, st⟩ := getF X hx hZ hown (host := "") (Or.inl (oW hw 132 rfl)) Via.refl e0 F_deleteCount_xp (g := (mkF m 1 #[rv xp] [(.ref xp)])) rfl rfl (hb hby d45_1)
  refine oWk.to (mkF m 4 #[rv xp] [(.int xi)]) (fun _ kt => st _ kt) ?_
  exact oRetI X hx hlk hret (hb hby d45_4) (by rw [e0]; exact ⟨rfl, rfl, K⟩) (by decide) (by decide)
abbrev yy30 : MethodName := ⟨"com/example/wakati/wakati/Patch", "insertionLength", "()I"⟩
theorem d47_0 : decode b64_ 0 = .ok (.aload_n 0, 1) := by decide +kernel
theorem d47_1 : decode b64_ 1 = .ok (.getfield 55, 3) := by decide +kernel
theorem d47_4 : decode b64_ 4 = .ok (.ireturn, 1) := by decide +kernel
theorem rGinsertionLength (l : Launch) (Z : State) (a0 : Array Value) (hw : oHW a0 Z) (ws : List Jvm.Cond) (xp : Addr) (xi : Int32) (h0 : Heap) (O0 : Ext Z.heap h0) (F_insertionLength_xp : Fld Z h0 xp Y2 Y12 "I" (.int xi)) :
    oCon l Z yy30 b64_ 1 (some .int) ws ({ frames := 0, cells := 0, slots := 0, locals := 0 } : Room) #[(.ref xp)] h0 (oPq (some (.int xi)) h0) := by
  refine oCon.of (plainFor_of_name pn_7) ?_
  intro p e s m below meth c T X hx hby hml hown hnm hret hlk hZ e0
  have hml : c.maxLocals = 1 := hml
  have K : oKp h0 h0 [] [] := oKp.nil _ _
  refine oWk.cast (g' := (mkF m 0 #[rv xp] [])) (by first | rfl | (simp [entryFrame, mkF, argsToLocals, Value.category]; done)) ?_
  refine oWk.st (fun _ kt => zA X hx hby d47_0 rfl rfl rfl kt) ?_
  obtain ⟨T, X, e0, st⟩ := getF X hx hZ hown (host := "") (Or.inl (oW hw 155 rfl)) Via.refl e0 F_insertionLength_xp (g := (mkF m 1 #[rv xp] [(.ref xp)])) rfl rfl (hb hby d47_1)
  refine oWk.to (mkF m 4 #[rv xp] [(.int xi)]) (fun _ kt => st _ kt) ?_
  exact oRetI X hx hlk hret (hb hby d47_4) (by rw [e0]; exact ⟨rfl, rfl, K⟩) (by decide) (by decide)
abbrev yy31 : MethodName := ⟨"com/example/wakati/wakati/Patch", "insertion", "()Ljava/lang/String;"⟩
theorem d54_0 : decode b65_ 0 = .ok (.aload_n 0, 1) := by decide +kernel
theorem d54_1 : decode b65_ 1 = .ok (.getfield 42, 3) := by decide +kernel
theorem d54_4 : decode b65_ 4 = .ok (.areturn, 1) := by decide +kernel
theorem rGinsertion (l : Launch) (Z : State) (a0 : Array Value) (hw : oHW a0 Z) (ws : List Jvm.Cond) (xp xs : Addr) (h0 : Heap) (O0 : Ext Z.heap h0) (F_insertion_xp : Fld Z h0 xp Y2 "insertion" Y13 (.ref xs)) :
    oCon l Z yy31 b65_ 1 (some (.object Y0)) ws ({ frames := 0, cells := 0, slots := 0, locals := 0 } : Room) #[(.ref xp)] h0 (oPq (some (.ref xs)) h0) := by
  refine oCon.of (plainFor_of_name pn_7) ?_
  intro p e s m below meth c T X hx hby hml hown hnm hret hlk hZ e0
  have hml : c.maxLocals = 1 := hml
  have K : oKp h0 h0 [] [] := oKp.nil _ _
  refine oWk.cast (g' := (mkF m 0 #[rv xp] [])) (by first | rfl | (simp [entryFrame, mkF, argsToLocals, Value.category]; done)) ?_
  refine oWk.st (fun _ kt => zA X hx hby d54_0 rfl rfl rfl kt) ?_
  obtain ⟨T, X, e0, st⟩ := getF X hx hZ hown (host := "") (Or.inl (oW hw 134 rfl)) Via.refl e0 F_insertion_xp (g := (mkF m 1 #[rv xp] [(.ref xp)])) rfl rfl (hb hby d54_1)
  refine oWk.to (mkF m 4 #[rv xp] [(.ref xs)]) (fun _ kt => st _ kt) ?_
  exact oRetA X hx hlk hret rfl rfl (hb hby d54_4) (by rw [e0]; exact ⟨rfl, rfl, K⟩) (by decide) (by decide)
theorem pn_8 : plainName "java/util/ArrayList" = true := by first | (simp [plainName, overriddenIn]; done) | decide +kernel
abbrev yy32 : MethodName := ⟨"java/util/ArrayList", "size", "()I"⟩
theorem d40_0 : decode b67_ 0 = .ok (.aload_n 0, 1) := by decide +kernel
theorem d40_1 : decode b67_ 1 = .ok (.getfield 48, 3) := by decide +kernel
theorem d40_4 : decode b67_ 4 = .ok (.ireturn, 1) := by decide +kernel
theorem rSize (l : Launch) (Z : State) (a0 : Array Value) (hw : oHW a0 Z) (ws : List Jvm.Cond) (xa : Addr) (xs : Int32) (h0 : Heap) (O0 : Ext Z.heap h0) (F_size_xa : Fld Z h0 xa Y1 "size" "I" (.int xs)) :
    oCon l Z yy32 b67_ 1 (some .int) ws ({ frames := 0, cells := 0, slots := 0, locals := 0 } : Room) #[(.ref xa)] h0 (oPq (some (.int xs)) h0) := by
  refine oCon.of (plainFor_of_name pn_8) ?_
  intro p e s m below meth c T X hx hby hml hown hnm hret hlk hZ e0
  have hml : c.maxLocals = 1 := hml
  have K : oKp h0 h0 [] [] := oKp.nil _ _
  refine oWk.cast (g' := (mkF m 0 #[rv xa] [])) (by first | rfl | (simp [entryFrame, mkF, argsToLocals, Value.category]; done)) ?_
  refine oWk.st (fun _ kt => zA X hx hby d40_0 rfl rfl rfl kt) ?_
  obtain ⟨T, X, e0, st⟩ := getF X hx hZ hown (host := "") (Or.inl (oW hw 164 rfl)) Via.refl e0 F_size_xa (g := (mkF m 1 #[rv xa] [(.ref xa)])) rfl rfl (hb hby d40_1)
  refine oWk.to (mkF m 4 #[rv xa] [(.int xs)]) (fun _ kt => st _ kt) ?_
  exact oRetI X hx hlk hret (hb hby d40_4) (by rw [e0]; exact ⟨rfl, rfl, K⟩) (by decide) (by decide)
theorem rPCn (l : Launch) (Z : State) (a0 : Array Value) (hw : oHW a0 Z) (ws : List Jvm.Cond) (xi xn : Int32) (h0 : Heap) (O0 : Ext Z.heap h0) (h1 : ¬ xi < (0 : Int32)) (h2 : xi < xn) :
    oCon l Z yy2 b34_ 3 (some .int) ws ({ frames := 0, cells := 0, slots := 0, locals := 0 } : Room) #[(.int xi), (.int xn), .null] h0 (oPq (some (.int xi)) h0) := by
  refine oCon.of (plainFor_of_name pn_1) ?_
  intro p e s m below meth c T X hx hby hml hown hnm hret hlk hZ e0
  have hml : c.maxLocals = 3 := hml
  have K : oKp h0 h0 [] [] := oKp.nil _ _
  refine oWk.cast (g' := (mkF m 0 #[iv xi, iv xn, .val .null] [])) (by first | rfl | (simp [entryFrame, mkF, argsToLocals, Value.category]; done)) ?_
  refine oWk.to (mkF m 17 #[iv xi, iv xn, .val .null] [(.int xi)]) (fun _ kt => zI X hx hby d43_0 rfl rfl (zH X hx hby d43_1 rfl rfl ((if0 _ _).trans (flt h1).1) (zI X hx hby d43_4 rfl rfl (zI X hx hby d43_5 rfl rfl (zY X hx hby d43_6 rfl rfl (tlt h2).1 (pc' := 16) rfl (zI X hx hby d43_16 rfl rfl kt)))))) ?_
  exact oRetI X hx hlk hret (hb hby d43_17) (by rw [e0]; exact ⟨rfl, rfl, K⟩) (by decide) (by decide)
abbrev yy33 : MethodName := ⟨"java/util/Objects", "checkIndex", "(II)I"⟩
theorem d42_0 : decode b58_ 0 = .ok (.iload_n 0, 1) := by decide +kernel
theorem d42_1 : decode b58_ 1 = .ok (.iload_n 1, 1) := by decide +kernel
theorem d42_2 : decode b58_ 2 = .ok (.aconst_null, 1) := by decide +kernel
theorem d42_3 : decode b58_ 3 = .ok (.invokestatic 105, 3) := by decide +kernel
theorem cs31 {a0 : Array Value} {Z : State} (hw : oHW a0 Z) : oCall Z Y22 (.invokestatic 105) yy2 b34_ 3 (some .int) (oRs 3) := oCall.stat (oW hw 236 rfl) (oW hw 237 rfl) (oW hw 148 rfl) (oW hw 238 rfl) (by decide) pd_1
theorem d42_6 : decode b58_ 6 = .ok (.ireturn, 1) := by decide +kernel
theorem rOCk (l : Launch) (Z : State) (a0 : Array Value) (hw : oHW a0 Z) (ws : List Jvm.Cond) (xi xn : Int32) (h0 : Heap) (O0 : Ext Z.heap h0) (h1 : ¬ xi < (0 : Int32)) (h2 : xi < xn) :
    oCon l Z yy33 b58_ 2 (some .int) ws ({ frames := 1, cells := 0, slots := 0, locals := 14 } : Room) #[(.int xi), (.int xn)] h0 (oPq (some (.int xi)) h0) := by
  refine oCon.of (plainFor_of_name pn_3) ?_
  intro p e s m below meth c T X hx hby hml hown hnm hret hlk hZ e0
  have hml : c.maxLocals = 2 := hml
  have K : oKp h0 h0 [] [] := oKp.nil _ _
  refine oWk.cast (g' := (mkF m 0 #[iv xi, iv xn] [])) (by first | rfl | (simp [entryFrame, mkF, argsToLocals, Value.category]; done)) ?_
  refine oWk.st (fun _ kt => zI X hx hby d42_0 rfl rfl (zI X hx hby d42_1 rfl rfl (XS.aconstNull X.here hx rfl (hb hby d42_2) kt))) ?_
  have Oh := K.old O0 all0
  obtain ⟨T, L2, X, e0, K, st⟩ := (cs31 hw).pure X hx hZ hown e0 K (A := [(.int xi), (.int xn), .null]) rfl (rPCn l Z a0 hw [] xi xn h0 Oh h1 h2) (W := 0) (by decide) hml (Ls := #[iv xi, iv xn]) rfl (rest := []) rfl rfl hby d42_3
  refine oWk.to (mkF m 6 #[iv xi, iv xn] [(.int xi)]) (fun _ kt => st _ kt) ?_
  exact oRetI X hx hlk hret (hb hby d42_6) (by rw [e0]; exact ⟨rfl, rfl, K⟩) (by decide) (by decide)
abbrev yy34 : MethodName := ⟨"java/util/ArrayList", "elementData", "(I)Ljava/lang/Object;"⟩
theorem d44_0 : decode b46_ 0 = .ok (.aload_n 0, 1) := by decide +kernel
theorem d44_1 : decode b46_ 1 = .ok (.getfield 9, 3) := by decide +kernel
theorem d44_4 : decode b46_ 4 = .ok (.iload_n 1, 1) := by decide +kernel
theorem d44_5 : decode b46_ 5 = .ok (.aaload, 1) := by decide +kernel
theorem d44_6 : decode b46_ 6 = .ok (.areturn, 1) := by decide +kernel
theorem rEd_1_0 (l : Launch) (Z : State) (a0 : Array Value) (hw : oHW a0 Z) (ws : List Jvm.Cond) (xa xf : Addr) (xk : ClassId) (xm : Int32) (xe0 : Addr) (h0 : Heap) (O0 : Ext Z.heap h0) (E_xa : Exa Z h0 xa Y1) (F_elementData_xa : Fld Z h0 xa Y1 "elementData" Y7 (.ref xf)) (F_size_xa : Fld Z h0 xa Y1 "size" "I" (.int (1 : Int32))) (F_modCount_xa : Fld Z h0 xa Y8 "modCount" "I" (.int xm)) (V_xf : Arv Z h0 xf xk (.object Y6) (10 : Int32) [(.ref xe0), .null, .null, .null, .null, .null, .null, .null, .null, .null] .null) :
    oCon l Z yy34 b46_ 2 (some (.object Y6)) ws ({ frames := 0, cells := 0, slots := 0, locals := 0 } : Room) #[(.ref xa), (.int (0 : Int32))] h0 (oPq (some (.ref xe0)) h0) := by
  refine oCon.of (plainFor_of_name pn_8) ?_
  intro p e s m below meth c T X hx hby hml hown hnm hret hlk hZ e0
  have hml : c.maxLocals = 2 := hml
  have K : oKp h0 h0 [] [] := oKp.nil _ _
  refine oWk.cast (g' := (mkF m 0 #[rv xa, iv 0] [])) (by first | rfl | (simp [entryFrame, mkF, argsToLocals, Value.category]; done)) ?_
  refine oWk.st (fun _ kt => zA X hx hby d44_0 rfl rfl rfl kt) ?_
  obtain ⟨T, X, e0, st⟩ := getF X hx hZ hown (host := "") (Or.inl (oW hw 95 rfl)) Via.refl e0 F_elementData_xa (g := (mkF m 1 #[rv xa, iv 0] [(.ref xa)])) rfl rfl (hb hby d44_1)
  refine oWk.to (mkF m 6 #[rv xa, iv 0] [(.ref xe0)]) (fun _ kt => st _ (zI X hx hby d44_4 rfl rfl (oLdR X hx hZ e0 V_xf (0 : Int32) (.ref xe0) ⟨by decide, by decide⟩ rfl hby d44_5 rfl rfl kt))) ?_
  exact oRetA X hx hlk hret rfl rfl (hb hby d44_6) (by rw [e0]; exact ⟨rfl, rfl, K⟩) (by decide) (by decide)
abbrev yy35 : MethodName := ⟨"java/util/ArrayList", "get", "(I)Ljava/lang/Object;"⟩
theorem d41_0 : decode b32_ 0 = .ok (.iload_n 1, 1) := by decide +kernel
theorem d41_1 : decode b32_ 1 = .ok (.aload_n 0, 1) := by decide +kernel
theorem d41_2 : decode b32_ 2 = .ok (.getfield 48, 3) := by decide +kernel
theorem d41_5 : decode b32_ 5 = .ok (.invokestatic 118, 3) := by decide +kernel
theorem cs32 {a0 : Array Value} {Z : State} (hw : oHW a0 Z) : oCall Z Y1 (.invokestatic 118) yy33 b58_ 2 (some .int) (oRs 2) := oCall.stat (oW hw 233 rfl) (oW hw 234 rfl) (oW hw 110 rfl) (oW hw 235 rfl) (by decide) pd_18
theorem d41_8 : decode b32_ 8 = .ok (.pop, 1) := by decide +kernel
theorem d41_9 : decode b32_ 9 = .ok (.aload_n 0, 1) := by decide +kernel
theorem d41_10 : decode b32_ 10 = .ok (.iload_n 1, 1) := by decide +kernel
theorem d41_11 : decode b32_ 11 = .ok (.invokevirtual 123, 3) := by decide +kernel
theorem pd_19 : parseMethodDescriptor "(I)Ljava/lang/Object;" = some ⟨[.int], some (.object "java/lang/Object")⟩ := by decide +kernel
theorem cs33 {a0 : Array Value} {Z : State} (hw : oHW a0 Z) : oCall Z Y1 (.invokevirtual 123) yy34 b46_ 2 (some (.object Y6)) (oRv Z 1 Y1) := oCall.virt (oW hw 239 rfl) (oW hw 240 rfl) (fun _ hZ => notFace_of_selects (args := #[]) (mvT hZ (oW hw 242 rfl))) (oW hw 242 rfl) (oW hw 241 rfl) (oW hw 75 rfl) (oW hw 243 rfl) (by decide) pd_19
theorem d41_14 : decode b32_ 14 = .ok (.areturn, 1) := by decide +kernel
theorem rGet_1_0 (l : Launch) (Z : State) (a0 : Array Value) (hw : oHW a0 Z) (ws : List Jvm.Cond) (xa xf : Addr) (xk : ClassId) (xm : Int32) (xe0 : Addr) (h0 : Heap) (O0 : Ext Z.heap h0) (E_xa : Exa Z h0 xa Y1) (F_elementData_xa : Fld Z h0 xa Y1 "elementData" Y7 (.ref xf)) (F_size_xa : Fld Z h0 xa Y1 "size" "I" (.int (1 : Int32))) (F_modCount_xa : Fld Z h0 xa Y8 "modCount" "I" (.int xm)) (V_xf : Arv Z h0 xf xk (.object Y6) (10 : Int32) [(.ref xe0), .null, .null, .null, .null, .null, .null, .null, .null, .null] .null) :
    oCon l Z yy35 b32_ 2 (some (.object Y6)) ws ({ frames := 2, cells := 0, slots := 0, locals := 27 } : Room) #[(.ref xa), (.int (0 : Int32))] h0 (oPq (some (.ref xe0)) h0) := by
  refine oCon.of (plainFor_of_name pn_8) ?_
  intro p e s m below meth c T X hx hby hml hown hnm hret hlk hZ e0
  have hml : c.maxLocals = 2 := hml
  have K : oKp h0 h0 [] [] := oKp.nil _ _
  refine oWk.cast (g' := (mkF m 0 #[rv xa, iv 0] [])) (by first | rfl | (simp [entryFrame, mkF, argsToLocals, Value.category]; done)) ?_
  refine oWk.st (fun _ kt => zI X hx hby d41_0 rfl rfl (zA X hx hby d41_1 rfl rfl rfl kt)) ?_
  obtain ⟨T, X, e0, st⟩ := getF X hx hZ hown (host := "") (Or.inl (oW hw 164 rfl)) Via.refl e0 F_size_xa (g := (mkF m 2 #[rv xa, iv 0] [(.ref xa), (.int 0)])) rfl rfl (hb hby d41_2)
  refine oWk.st (fun _ kt => st _ kt) ?_
  have Oh := K.old O0 all0
  obtain ⟨T, L2, X, e0, K, st⟩ := (cs32 hw).pure X hx hZ hown e0 K (A := [(.int (0 : Int32)), (.int (1 : Int32))]) rfl (rOCk l Z a0 hw [] (0 : Int32) (1 : Int32) h0 Oh (by decide) (by decide)) (W := 0) (by decide) hml (Ls := #[rv xa, iv 0]) rfl (rest := []) rfl rfl hby d41_5
  refine oWk.st (fun _ kt => st _ (XS.pop X.here hx rfl (hb hby d41_8) rfl rfl (zA X hx hby d41_9 rfl rfl rfl (zI X hx hby d41_10 rfl rfl kt)))) ?_
  obtain ⟨T, L4, X, e0, K, st⟩ := (cs33 hw).pure X hx hZ hown e0 K (A := [(.ref xa), (.int (0 : Int32))]) ⟨rfl, _, _, rfl, E_xa⟩ (rEd_1_0 l Z a0 hw [] xa xf xk xm xe0 h0 Oh E_xa F_elementData_xa F_size_xa F_modCount_xa V_xf) (W := 0) (by decide) hml (Ls := #[rv xa, iv 0]) rfl (rest := []) rfl rfl hby d41_11
  refine oWk.to (mkF m 14 #[rv xa, iv 0] [(.ref xe0)]) (fun _ kt => st _ kt) ?_
  exact oRetA X hx hlk hret rfl rfl (hb hby d41_14) (by rw [e0]; exact ⟨rfl, rfl, K⟩) (by decide) (by decide)
theorem rEd_2_0 (l : Launch) (Z : State) (a0 : Array Value) (hw : oHW a0 Z) (ws : List Jvm.Cond) (xa xf : Addr) (xk : ClassId) (xm : Int32) (xe0 xe1 : Addr) (h0 : Heap) (O0 : Ext Z.heap h0) (E_xa : Exa Z h0 xa Y1) (F_elementData_xa : Fld Z h0 xa Y1 "elementData" Y7 (.ref xf)) (F_size_xa : Fld Z h0 xa Y1 "size" "I" (.int (2 : Int32))) (F_modCount_xa : Fld Z h0 xa Y8 "modCount" "I" (.int xm)) (V_xf : Arv Z h0 xf xk (.object Y6) (10 : Int32) [(.ref xe0), (.ref xe1), .null, .null, .null, .null, .null, .null, .null, .null] .null) :
    oCon l Z yy34 b46_ 2 (some (.object Y6)) ws ({ frames := 0, cells := 0, slots := 0, locals := 0 } : Room) #[(.ref xa), (.int (0 : Int32))] h0 (oPq (some (.ref xe0)) h0) := by
  refine oCon.of (plainFor_of_name pn_8) ?_
  intro p e s m below meth c T X hx hby hml hown hnm hret hlk hZ e0
  have hml : c.maxLocals = 2 := hml
  have K : oKp h0 h0 [] [] := oKp.nil _ _
  refine oWk.cast (g' := (mkF m 0 #[rv xa, iv 0] [])) (by first | rfl | (simp [entryFrame, mkF, argsToLocals, Value.category]; done)) ?_
  refine oWk.st (fun _ kt => zA X hx hby d44_0 rfl rfl rfl kt) ?_
  obtain ⟨T, X, e0, st⟩ := getF X hx hZ hown (host := "") (Or.inl (oW hw 95 rfl)) Via.refl e0 F_elementData_xa (g := (mkF m 1 #[rv xa, iv 0] [(.ref xa)])) rfl rfl (hb hby d44_1)
  refine oWk.to (mkF m 6 #[rv xa, iv 0] [(.ref xe0)]) (fun _ kt => st _ (zI X hx hby d44_4 rfl rfl (oLdR X hx hZ e0 V_xf (0 : Int32) (.ref xe0) ⟨by decide, by decide⟩ rfl hby d44_5 rfl rfl kt))) ?_
  exact oRetA X hx hlk hret rfl rfl (hb hby d44_6) (by rw [e0]; exact ⟨rfl, rfl, K⟩) (by decide) (by decide)
theorem rGet_2_0 (l : Launch) (Z : State) (a0 : Array Value) (hw : oHW a0 Z) (ws : List Jvm.Cond) (xa xf : Addr) (xk : ClassId) (xm : Int32) (xe0 xe1 : Addr) (h0 : Heap) (O0 : Ext Z.heap h0) (E_xa : Exa Z h0 xa Y1) (F_elementData_xa : Fld Z h0 xa Y1 "elementData" Y7 (.ref xf)) (F_size_xa : Fld Z h0 xa Y1 "size" "I" (.int (2 : Int32))) (F_modCount_xa : Fld Z h0 xa Y8 "modCount" "I" (.int xm)) (V_xf : Arv Z h0 xf xk (.object Y6) (10 : Int32) [(.ref xe0), (.ref xe1), .null, .null, .null, .null, .null, .null, .null, .null] .null) :
    oCon l Z yy35 b32_ 2 (some (.object Y6)) ws ({ frames := 2, cells := 0, slots := 0, locals := 27 } : Room) #[(.ref xa), (.int (0 : Int32))] h0 (oPq (some (.ref xe0)) h0) := by
  refine oCon.of (plainFor_of_name pn_8) ?_
  intro p e s m below meth c T X hx hby hml hown hnm hret hlk hZ e0
  have hml : c.maxLocals = 2 := hml
  have K : oKp h0 h0 [] [] := oKp.nil _ _
  refine oWk.cast (g' := (mkF m 0 #[rv xa, iv 0] [])) (by first | rfl | (simp [entryFrame, mkF, argsToLocals, Value.category]; done)) ?_
  refine oWk.st (fun _ kt => zI X hx hby d41_0 rfl rfl (zA X hx hby d41_1 rfl rfl rfl kt)) ?_
  obtain ⟨T, X, e0, st⟩ := getF X hx hZ hown (host := "") (Or.inl (oW hw 164 rfl)) Via.refl e0 F_size_xa (g := (mkF m 2 #[rv xa, iv 0] [(.ref xa), (.int 0)])) rfl rfl (hb hby d41_2)
  refine oWk.st (fun _ kt => st _ kt) ?_
  have Oh := K.old O0 all0
  obtain ⟨T, L2, X, e0, K, st⟩ := (cs32 hw).pure X hx hZ hown e0 K (A := [(.int (0 : Int32)), (.int (2 : Int32))]) rfl (rOCk l Z a0 hw [] (0 : Int32) (2 : Int32) h0 Oh (by decide) (by decide)) (W := 0) (by decide) hml (Ls := #[rv xa, iv 0]) rfl (rest := []) rfl rfl hby d41_5
  refine oWk.st (fun _ kt => st _ (XS.pop X.here hx rfl (hb hby d41_8) rfl rfl (zA X hx hby d41_9 rfl rfl rfl (zI X hx hby d41_10 rfl rfl kt)))) ?_
  obtain ⟨T, L4, X, e0, K, st⟩ := (cs33 hw).pure X hx hZ hown e0 K (A := [(.ref xa), (.int (0 : Int32))]) ⟨rfl, _, _, rfl, E_xa⟩ (rEd_2_0 l Z a0 hw [] xa xf xk xm xe0 xe1 h0 Oh E_xa F_elementData_xa F_size_xa F_modCount_xa V_xf) (W := 0) (by decide) hml (Ls := #[rv xa, iv 0]) rfl (rest := []) rfl rfl hby d41_11
  refine oWk.to (mkF m 14 #[rv xa, iv 0] [(.ref xe0)]) (fun _ kt => st _ kt) ?_
  exact oRetA X hx hlk hret rfl rfl (hb hby d41_14) (by rw [e0]; exact ⟨rfl, rfl, K⟩) (by decide) (by decide)
theorem rEd_2_1 (l : Launch) (Z : State) (a0 : Array Value) (hw : oHW a0 Z) (ws : List Jvm.Cond) (xa xf : Addr) (xk : ClassId) (xm : Int32) (xe0 xe1 : Addr) (h0 : Heap) (O0 : Ext Z.heap h0) (E_xa : Exa Z h0 xa Y1) (F_elementData_xa : Fld Z h0 xa Y1 "elementData" Y7 (.ref xf)) (F_size_xa : Fld Z h0 xa Y1 "size" "I" (.int (2 : Int32))) (F_modCount_xa : Fld Z h0 xa Y8 "modCount" "I" (.int xm)) (V_xf : Arv Z h0 xf xk (.object Y6) (10 : Int32) [(.ref xe0), (.ref xe1), .null, .null, .null, .null, .null, .null, .null, .null] .null) :
    oCon l Z yy34 b46_ 2 (some (.object Y6)) ws ({ frames := 0, cells := 0, slots := 0, locals := 0 } : Room) #[(.ref xa), (.int (1 : Int32))] h0 (oPq (some (.ref xe1)) h0) := by
  refine oCon.of (plainFor_of_name pn_8) ?_
  intro p e s m below meth c T X hx hby hml hown hnm hret hlk hZ e0
  have hml : c.maxLocals = 2 := hml
  have K : oKp h0 h0 [] [] := oKp.nil _ _
  refine oWk.cast (g' := (mkF m 0 #[rv xa, iv 1] [])) (by first | rfl | (simp [entryFrame, mkF, argsToLocals, Value.category]; done)) ?_
  refine oWk.st (fun _ kt => zA X hx hby d44_0 rfl rfl rfl kt) ?_
  obtain ⟨T, X, e0, st⟩ := getF X hx hZ hown (host := "") (Or.inl (oW hw 95 rfl)) Via.refl e0 F_elementData_xa (g := (mkF m 1 #[rv xa, iv 1] [(.ref xa)])) rfl rfl (hb hby d44_1)
  refine oWk.to (mkF m 6 #[rv xa, iv 1] [(.ref xe1)]) (fun _ kt => st _ (zI X hx hby d44_4 rfl rfl (oLdR X hx hZ e0 V_xf (1 : Int32) (.ref xe1) ⟨by decide, by decide⟩ rfl hby d44_5 rfl rfl kt))) ?_
  exact oRetA X hx hlk hret rfl rfl (hb hby d44_6) (by rw [e0]; exact ⟨rfl, rfl, K⟩) (by decide) (by decide)
theorem rGet_2_1 (l : Launch) (Z : State) (a0 : Array Value) (hw : oHW a0 Z) (ws : List Jvm.Cond) (xa xf : Addr) (xk : ClassId) (xm : Int32) (xe0 xe1 : Addr) (h0 : Heap) (O0 : Ext Z.heap h0) (E_xa : Exa Z h0 xa Y1) (F_elementData_xa : Fld Z h0 xa Y1 "elementData" Y7 (.ref xf)) (F_size_xa : Fld Z h0 xa Y1 "size" "I" (.int (2 : Int32))) (F_modCount_xa : Fld Z h0 xa Y8 "modCount" "I" (.int xm)) (V_xf : Arv Z h0 xf xk (.object Y6) (10 : Int32) [(.ref xe0), (.ref xe1), .null, .null, .null, .null, .null, .null, .null, .null] .null) :
    oCon l Z yy35 b32_ 2 (some (.object Y6)) ws ({ frames := 2, cells := 0, slots := 0, locals := 27 } : Room) #[(.ref xa), (.int (1 : Int32))] h0 (oPq (some (.ref xe1)) h0) := by
  refine oCon.of (plainFor_of_name pn_8) ?_
  intro p e s m below meth c T X hx hby hml hown hnm hret hlk hZ e0
  have hml : c.maxLocals = 2 := hml
  have K : oKp h0 h0 [] [] := oKp.nil _ _
  refine oWk.cast (g' := (mkF m 0 #[rv xa, iv 1] [])) (by first | rfl | (simp [entryFrame, mkF, argsToLocals, Value.category]; done)) ?_
  refine oWk.st (fun _ kt => zI X hx hby d41_0 rfl rfl (zA X hx hby d41_1 rfl rfl rfl kt)) ?_
  obtain ⟨T, X, e0, st⟩ := getF X hx hZ hown (host := "") (Or.inl (oW hw 164 rfl)) Via.refl e0 F_size_xa (g := (mkF m 2 #[rv xa, iv 1] [(.ref xa), (.int 1)])) rfl rfl (hb hby d41_2)
  refine oWk.st (fun _ kt => st _ kt) ?_
  have Oh := K.old O0 all0
  obtain ⟨T, L2, X, e0, K, st⟩ := (cs32 hw).pure X hx hZ hown e0 K (A := [(.int (1 : Int32)), (.int (2 : Int32))]) rfl (rOCk l Z a0 hw [] (1 : Int32) (2 : Int32) h0 Oh (by decide) (by decide)) (W := 0) (by decide) hml (Ls := #[rv xa, iv 1]) rfl (rest := []) rfl rfl hby d41_5
  refine oWk.st (fun _ kt => st _ (XS.pop X.here hx rfl (hb hby d41_8) rfl rfl (zA X hx hby d41_9 rfl rfl rfl (zI X hx hby d41_10 rfl rfl kt)))) ?_
  obtain ⟨T, L4, X, e0, K, st⟩ := (cs33 hw).pure X hx hZ hown e0 K (A := [(.ref xa), (.int (1 : Int32))]) ⟨rfl, _, _, rfl, E_xa⟩ (rEd_2_1 l Z a0 hw [] xa xf xk xm xe0 xe1 h0 Oh E_xa F_elementData_xa F_size_xa F_modCount_xa V_xf) (W := 0) (by decide) hml (Ls := #[rv xa, iv 1]) rfl (rest := []) rfl rfl hby d41_11
  refine oWk.to (mkF m 14 #[rv xa, iv 1] [(.ref xe1)]) (fun _ kt => st _ kt) ?_
  exact oRetA X hx hlk hret rfl rfl (hb hby d41_14) (by rw [e0]; exact ⟨rfl, rfl, K⟩) (by decide) (by decide)
def Q_rItI (Z : State) (xt xa : Addr) (xm : Int32) (u1 u2 u3 : Value) (h0 : Heap) (v : Option Value) (h : Heap) (L : List Loc) : Prop := v = none ∧ oKp h0 h [xt] L ∧ (Exa Z h xt Y5) ∧ (Fld Z h xt Y5 "cursor" "I" (.int (0 : Int32))) ∧ (Fld Z h xt Y5 "lastRet" "I" (.int (-1 : Int32))) ∧ (Fld Z h xt Y5 Y19 "I" (.int xm)) ∧ (Fld Z h xt Y5 "this$0" Y14 (.ref xa))
theorem pn_9 : plainName "java/util/ArrayList$Itr" = true := by first | (simp [plainName, overriddenIn]; done) | decide +kernel
abbrev yy36 : MethodName := ⟨"java/util/ArrayList$Itr", "<init>", "(Ljava/util/ArrayList;)V"⟩
theorem d49_0 : decode b21_ 0 = .ok (.aload_n 0, 1) := by decide +kernel
theorem d49_1 : decode b21_ 1 = .ok (.aload_n 1, 1) := by decide +kernel
theorem d49_2 : decode b21_ 2 = .ok (.putfield 1, 3) := by decide +kernel
theorem d49_5 : decode b21_ 5 = .ok (.aload_n 0, 1) := by decide +kernel
theorem d49_6 : decode b21_ 6 = .ok (.invokespecial 7, 3) := by decide +kernel
theorem d49_9 : decode b21_ 9 = .ok (.aload_n 0, 1) := by decide +kernel
theorem d49_10 : decode b21_ 10 = .ok (.iconst (-1), 1) := by decide +kernel
theorem d49_11 : decode b21_ 11 = .ok (.putfield 13, 3) := by decide +kernel
theorem d49_14 : decode b21_ 14 = .ok (.aload_n 0, 1) := by decide +kernel
theorem d49_15 : decode b21_ 15 = .ok (.aload_n 0, 1) := by decide +kernel
theorem d49_16 : decode b21_ 16 = .ok (.getfield 1, 3) := by decide +kernel
theorem d49_19 : decode b21_ 19 = .ok (.getfield 17, 3) := by decide +kernel
theorem d49_22 : decode b21_ 22 = .ok (.putfield 22, 3) := by decide +kernel
theorem d49_25 : decode b21_ 25 = .ok (.return_, 1) := by decide +kernel
theorem rItI (l : Launch) (Z : State) (a0 : Array Value) (hw : oHW a0 Z) (ws : List Jvm.Cond) (xt xa : Addr) (xm : Int32) (u1 u2 u3 : Value) (h0 : Heap) (O0 : Ext Z.heap h0) (og_xt : Z.heap.size ≤ xt) (ne_xa_xt : xa ≠ xt) (E_xa : Exa Z h0 xa Y1) (F_modCount_xa : Fld Z h0 xa Y8 "modCount" "I" (.int xm)) (E_xt : Exa Z h0 xt Y5) (F_cursor_xt : Fld Z h0 xt Y5 "cursor" "I" (.int (0 : Int32))) (F_lastRet_xt : Fld Z h0 xt Y5 "lastRet" "I" u1) (F_expectedModCount_xt : Fld Z h0 xt Y5 Y19 "I" u2) (F_this_0_xt : Fld Z h0 xt Y5 "this$0" Y14 u3) :
    oCon l Z yy36 b21_ 2 none ws ({ frames := 1, cells := 0, slots := 0, locals := 12 } : Room) #[(.ref xt), (.ref xa)] h0 (Q_rItI Z xt xa xm u1 u2 u3 h0) := by
  refine oCon.of (plainFor_of_name pn_9) ?_
  intro p e s m below meth c T X hx hby hml hown hnm hret hlk hZ e0
  have hml : c.maxLocals = 2 := hml
  have K : oKp h0 h0 [xt] [] := oKp.nil _ _
  refine oWk.cast (g' := (mkF m 0 #[rv xt, rv xa] [])) (by first | rfl | (simp [entryFrame, mkF, argsToLocals, Value.category]; done)) ?_
  refine oWk.st (fun _ kt => zA X hx hby d49_0 rfl rfl rfl (zA X hx hby d49_1 rfl rfl rfl kt)) ?_
  obtain ⟨T, h, X, e0, W1, st⟩ := putF X hx hZ hown (host := "") (Or.inl (oW hw 276 rfl)) Via.refl e0 F_this_0_xt E_xt (Or.inr ⟨(oW hw 277 rfl), rfl, hnm⟩) (oW hw 270 rfl) (ty := (.object Y1)) (by decide) rfl rfl (g := (mkF m 2 #[rv xt, rv xa] [(.ref xa), (.ref xt)])) rfl rfl (hb hby d49_2)
  have K := K.wr W1 (Or.inl (List.mem_of_getElem? (i := 0) rfl))
  have F_this_0_xt := F_this_0_xt.same W1
  refine oWk.st (fun _ kt => st _ (zA X hx hby d49_5 rfl rfl rfl kt)) ?_
  obtain ⟨T, X, e0, st⟩ := initO X hx hZ hown (oW hw 278 rfl) (oW hw 12 rfl) (oW hw 13 rfl) e0 (g := (mkF m 6 #[rv xt, rv xa] [(.ref xt)])) rfl (by rw [hml]; rfl) rfl (hb hby d49_6) (by decide) (W := 0) (Nat.le_of_eq rfl) (by decide)
  refine oWk.st (fun _ kt => st _ (zA X hx hby d49_9 rfl rfl rfl (zK X hx hby d49_10 rfl kt))) ?_
  have E_xt := (E_xt.wr W1)
  have F_lastRet_xt := (F_lastRet_xt.other W1 (Or.inr (slot_ne (Or.inl (oW hw 280 rfl)) (Or.inr (oW hw 277 rfl)) (by decide) (t := .int) (t' := (.object Y1)) (by decide) (by decide))))
  obtain ⟨T, h, X, e0, W2, st⟩ := putF X hx hZ hown (host := "") (Or.inl (oW hw 279 rfl)) Via.refl e0 F_lastRet_xt E_xt (Or.inl (oW hw 280 rfl)) (oW hw 270 rfl) (ty := .int) (by decide) rfl rfl (g := (mkF m 11 #[rv xt, rv xa] [(.int (-1 : Int32)), (.ref xt)])) rfl rfl (hb hby d49_11)
  have K := K.wr W2 (Or.inl (List.mem_of_getElem? (i := 0) rfl))
  have F_lastRet_xt := F_lastRet_xt.same W2
  refine oWk.st (fun _ kt => st _ (zA X hx hby d49_14 rfl rfl rfl (zA X hx hby d49_15 rfl rfl rfl kt))) ?_
  have F_this_0_xt := (F_this_0_xt.other W2 (Or.inr (slot_ne (Or.inr (oW hw 277 rfl)) (Or.inl (oW hw 280 rfl)) (by decide) (t := (.object Y1)) (t' := .int) (by decide) (by decide))))
  obtain ⟨T, X, e0, st⟩ := getF X hx hZ hown (host := "") (Or.inl (oW hw 276 rfl)) Via.refl e0 F_this_0_xt (g := (mkF m 16 #[rv xt, rv xa] [(.ref xt), (.ref xt)])) rfl rfl (hb hby d49_16)
  refine oWk.st (fun _ kt => st _ kt) ?_
  have F_modCount_xa := ((F_modCount_xa.other W1 (Or.inl ne_xa_xt)).other W2 (Or.inl ne_xa_xt))
  obtain ⟨T, X, e0, st⟩ := getF X hx hZ hown (host := "") (Or.inl (oW hw 281 rfl)) (Via.of (oW hw 163 rfl)) e0 F_modCount_xa (g := (mkF m 19 #[rv xt, rv xa] [(.ref xa), (.ref xt)])) rfl rfl (hb hby d49_19)
  refine oWk.st (fun _ kt => st _ kt) ?_
  have E_xt := (E_xt.wr W2)
  have F_expectedModCount_xt := ((F_expectedModCount_xt.other W1 (Or.inr (slot_ne (Or.inl (oW hw 283 rfl)) (Or.inr (oW hw 277 rfl)) (by decide) (t := .int) (t' := (.object Y1)) (by decide) (by decide)))).other W2 (Or.inr (slot_ne (Or.inl (oW hw 283 rfl)) (Or.inl (oW hw 280 rfl)) (by decide) (t := .int) (t' := .int) (by decide) (by decide))))
  obtain ⟨T, h, X, e0, W3, st⟩ := putF X hx hZ hown (host := "") (Or.inl (oW hw 282 rfl)) Via.refl e0 F_expectedModCount_xt E_xt (Or.inl (oW hw 283 rfl)) (oW hw 270 rfl) (ty := .int) (by decide) rfl rfl (g := (mkF m 22 #[rv xt, rv xa] [(.int xm), (.ref xt)])) rfl rfl (hb hby d49_22)
  have K := K.wr W3 (Or.inl (List.mem_of_getElem? (i := 0) rfl))
  have F_expectedModCount_xt := F_expectedModCount_xt.same W3
  refine oWk.to (mkF m 25 #[rv xt, rv xa] []) (fun _ kt => st _ kt) ?_
  have E_xt := (E_xt.wr W3)
  have F_cursor_xt := (((F_cursor_xt.other W1 (Or.inr (slot_ne (Or.inl (oW hw 294 rfl)) (Or.inr (oW hw 277 rfl)) (by decide) (t := .int) (t' := (.object Y1)) (by decide) (by decide)))).other W2 (Or.inr (slot_ne (Or.inl (oW hw 294 rfl)) (Or.inl (oW hw 280 rfl)) (by decide) (t := .int) (t' := .int) (by decide) (by decide)))).other W3 (Or.inr (slot_ne (Or.inl (oW hw 294 rfl)) (Or.inl (oW hw 283 rfl)) (by decide) (t := .int) (t' := .int) (by decide) (by decide))))
  have F_lastRet_xt := (F_lastRet_xt.other W3 (Or.inr (slot_ne (Or.inl (oW hw 280 rfl)) (Or.inl (oW hw 283 rfl)) (by decide) (t := .int) (t' := .int) (by decide) (by decide))))
  have F_this_0_xt := (F_this_0_xt.other W3 (Or.inr (slot_ne (Or.inr (oW hw 277 rfl)) (Or.inl (oW hw 283 rfl)) (by decide) (t := (.object Y1)) (t' := .int) (by decide) (by decide))))
  exact oRetV X hx hlk hret (hb hby d49_25) (by rw [e0]; exact ⟨rfl, K, E_xt, F_cursor_xt, F_lastRet_xt, F_expectedModCount_xt, F_this_0_xt⟩) (by decide) (by decide)
def Q_rIter (Z : State) (xa : Addr) (xm : Int32) (h0 : Heap) (v : Option Value) (h : Heap) (L : List Loc) : Prop := ∃ (nt : Addr), v = some (.ref nt) ∧ oKp h0 h [] L ∧ (h0.size ≤ nt) ∧ (Exa Z h nt Y5) ∧ (Fld Z h nt Y5 "cursor" "I" (.int (0 : Int32))) ∧ (Fld Z h nt Y5 "lastRet" "I" (.int (-1 : Int32))) ∧ (Fld Z h nt Y5 Y19 "I" (.int xm)) ∧ (Fld Z h nt Y5 "this$0" Y14 (.ref xa))
abbrev yy37 : MethodName := ⟨"java/util/ArrayList", "iterator", "()Ljava/util/Iterator;"⟩
theorem d48_0 : decode b60_ 0 = .ok (.new 267, 3) := by decide +kernel
theorem d48_3 : decode b60_ 3 = .ok (.dup, 1) := by decide +kernel
theorem d48_4 : decode b60_ 4 = .ok (.aload_n 0, 1) := by decide +kernel
theorem d48_5 : decode b60_ 5 = .ok (.invokespecial 269, 3) := by decide +kernel
theorem pd_20 : parseMethodDescriptor "(Ljava/util/ArrayList;)V" = some ⟨[(.object "java/util/ArrayList")], none⟩ := by decide +kernel
theorem cs34 {a0 : Array Value} {Z : State} (hw : oHW a0 Z) : oCall Z Y1 (.invokespecial 269) yy36 b21_ 2 none (oRi 1) := oCall.init rfl (oW hw 272 rfl) (oW hw 273 rfl) (oW hw 271 rfl) (oW hw 275 rfl) (by decide) pd_20
theorem d48_8 : decode b60_ 8 = .ok (.areturn, 1) := by decide +kernel
theorem rIter (l : Launch) (Z : State) (a0 : Array Value) (hw : oHW a0 Z) (ws : List Jvm.Cond) (xa : Addr) (xm : Int32) (h0 : Heap) (O0 : Ext Z.heap h0) (E_xa : Exa Z h0 xa Y1) (F_modCount_xa : Fld Z h0 xa Y8 "modCount" "I" (.int xm)) :
    oCon l Z yy37 b60_ 1 (some (.object Y28)) ws ({ frames := 2, cells := 1, slots := 4, locals := 26 } : Room) #[(.ref xa)] h0 (Q_rIter Z xa xm h0) := by
  refine oCon.of (plainFor_of_name pn_8) ?_
  intro p e s m below meth c T X hx hby hml hown hnm hret hlk hZ e0
  have hml : c.maxLocals = 1 := hml
  have K : oKp h0 h0 [] [] := oKp.nil _ _
  refine oWk.cast (g' := (mkF m 0 #[rv xa] [])) (by first | rfl | (simp [entryFrame, mkF, argsToLocals, Value.category]; done)) ?_
  obtain ⟨o1, g1⟩ : ∃ z, z = h0.size := ⟨_, rfl⟩
  have ne_xa_o1 : xa ≠ o1 := Nat.ne_of_lt (Nat.lt_of_lt_of_le E_xa.lt (Nat.le_of_eq g1.symm))
  have ge_o1 : h0.size ≤ o1 := Nat.le_trans K.le (Nat.le_of_eq g1.symm)
  obtain ⟨T, h, X, e0, E1, A1, D1, -, st⟩ := newO X hx hZ hown (oW hw 269 rfl) (oW hw 270 rfl) (oW hw 271 rfl) e0 (g := (mkF m 0 #[rv xa] [])) rfl (hb hby d48_0) (by decide) (by decide)
  rw [← g1] at A1 D1 st
  have K := K.ext E1
  have E_o1 := A1
  have F_this_0_o1 : Fld Z h o1 Y5 "this$0" Y14 .null := D1 (Or.inr (oW hw 277 rfl)) (ty := (.object Y1)) (by decide)
  have F_lastRet_o1 : Fld Z h o1 Y5 "lastRet" "I" (.int (0 : Int32)) := D1 (Or.inl (oW hw 280 rfl)) (ty := .int) (by decide)
  have F_expectedModCount_o1 : Fld Z h o1 Y5 Y19 "I" (.int (0 : Int32)) := D1 (Or.inl (oW hw 283 rfl)) (ty := .int) (by decide)
  have F_cursor_o1 : Fld Z h o1 Y5 "cursor" "I" (.int (0 : Int32)) := D1 (Or.inl (oW hw 294 rfl)) (ty := .int) (by decide)
  refine oWk.st (fun _ kt => st _ (zD X hx hby d48_3 rfl rfl rfl (zA X hx hby d48_4 rfl rfl rfl kt))) ?_
  have E_xa := (E_xa.ext E1)
  have F_modCount_xa := (F_modCount_xa.ext E1)
  have Oh := K.old O0 all0
  obtain ⟨_, T, h, Lc3, X, e0, hQ, st⟩ := (cs34 hw).run X hx hZ hown e0 (A := [(.ref o1), (.ref xa)]) ⟨rfl, _, _, rfl⟩ (rItI l Z a0 hw [] o1 xa xm (.int (0 : Int32)) (.int (0 : Int32)) .null h Oh (Nat.le_trans O0.1 ge_o1) ne_xa_o1 E_xa F_modCount_xa E_o1 F_cursor_o1 F_lastRet_o1 F_expectedModCount_o1 F_this_0_o1) (W := 1) (by decide) hml (Ls := #[rv xa]) rfl (rest := [(.ref o1)]) rfl rfl hby d48_5
  obtain ⟨rfl, K2, E_o1, F_cursor_o1, F_lastRet_o1, F_expectedModCount_o1, F_this_0_o1⟩ := hQ
  have K := K.call K2 (allS (Or.inr ge_o1) all0)
  refine oWk.to (mkF m 8 #[rv xa] [(.ref o1)]) (fun _ kt => st _ kt) ?_
  exact oRetA X hx hlk hret rfl rfl (hb hby d48_8) (by rw [e0]; exact ⟨o1, rfl, K, ge_o1, E_o1, F_cursor_o1, F_lastRet_o1, F_expectedModCount_o1, F_this_0_o1⟩) (by decide) (by decide)
abbrev yy38 : MethodName := ⟨"java/util/ArrayList$Itr", "hasNext", "()Z"⟩
theorem d50_0 : decode b22_ 0 = .ok (.aload_n 0, 1) := by decide +kernel
theorem d50_1 : decode b22_ 1 = .ok (.getfield 25, 3) := by decide +kernel
theorem d50_4 : decode b22_ 4 = .ok (.aload_n 0, 1) := by decide +kernel
theorem d50_5 : decode b22_ 5 = .ok (.getfield 1, 3) := by decide +kernel
theorem d50_8 : decode b22_ 8 = .ok (.getfield 28, 3) := by decide +kernel
theorem d50_11 : decode b22_ 11 = .ok (.if_icmp .eq 7, 3) := by decide +kernel
theorem d50_14 : decode b22_ 14 = .ok (.iconst 1, 1) := by decide +kernel
theorem d50_15 : decode b22_ 15 = .ok (.goto 4, 3) := by decide +kernel
theorem d50_19 : decode b22_ 19 = .ok (.ireturn, 1) := by decide +kernel
theorem rHas_1_0 (l : Launch) (Z : State) (a0 : Array Value) (hw : oHW a0 Z) (ws : List Jvm.Cond) (xt xa : Addr) (h0 : Heap) (O0 : Ext Z.heap h0) (E_xt : Exa Z h0 xt Y5) (F_cursor_xt : Fld Z h0 xt Y5 "cursor" "I" (.int (0 : Int32))) (F_this_0_xt : Fld Z h0 xt Y5 "this$0" Y14 (.ref xa)) (E_xa : Exa Z h0 xa Y1) (F_size_xa : Fld Z h0 xa Y1 "size" "I" (.int (1 : Int32))) :
    oCon l Z yy38 b22_ 1 (some .boolean) ws ({ frames := 0, cells := 0, slots := 0, locals := 0 } : Room) #[(.ref xt)] h0 (oPq (some (.int (1 : Int32))) h0) := by
  refine oCon.of (plainFor_of_name pn_9) ?_
  intro p e s m below meth c T X hx hby hml hown hnm hret hlk hZ e0
  have hml : c.maxLocals = 1 := hml
  have K : oKp h0 h0 [] [] := oKp.nil _ _
  refine oWk.cast (g' := (mkF m 0 #[rv xt] [])) (by first | rfl | (simp [entryFrame, mkF, argsToLocals, Value.category]; done)) ?_
  refine oWk.st (fun _ kt => zA X hx hby d50_0 rfl rfl rfl kt) ?_
  obtain ⟨T, X, e0, st⟩ := getF X hx hZ hown (host := "") (Or.inl (oW hw 293 rfl)) Via.refl e0 F_cursor_xt (g := (mkF m 1 #[rv xt] [(.ref xt)])) rfl rfl (hb hby d50_1)
  refine oWk.st (fun _ kt => st _ (zA X hx hby d50_4 rfl rfl rfl kt)) ?_
  obtain ⟨T, X, e0, st⟩ := getF X hx hZ hown (host := "") (Or.inl (oW hw 276 rfl)) Via.refl e0 F_this_0_xt (g := (mkF m 5 #[rv xt] [(.ref xt), (.int 0)])) rfl rfl (hb hby d50_5)
  refine oWk.st (fun _ kt => st _ kt) ?_
  obtain ⟨T, X, e0, st⟩ := getF X hx hZ hown (Or.inr (oW hw 295 rfl)) Via.refl e0 F_size_xa (g := (mkF m 8 #[rv xt] [(.ref xa), (.int 0)])) rfl rfl (hb hby d50_8)
  refine oWk.to (mkF m 19 #[rv xt] [(.int 1)]) (fun _ kt => st _ (zN X hx hby d50_11 rfl rfl (feq (by decide)).1 (zK X hx hby d50_14 rfl (zG X hx hby d50_15 rfl (pc' := 19) rfl kt)))) ?_
  exact oRetZ X hx hlk hret (hb hby d50_19) (Or.inr rfl) (by rw [e0]; exact ⟨rfl, rfl, K⟩) (by decide) (by decide)
theorem d50_18 : decode b22_ 18 = .ok (.iconst 0, 1) := by decide +kernel
theorem rHas_1_1 (l : Launch) (Z : State) (a0 : Array Value) (hw : oHW a0 Z) (ws : List Jvm.Cond) (xt xa : Addr) (h0 : Heap) (O0 : Ext Z.heap h0) (E_xt : Exa Z h0 xt Y5) (F_cursor_xt : Fld Z h0 xt Y5 "cursor" "I" (.int (1 : Int32))) (F_this_0_xt : Fld Z h0 xt Y5 "this$0" Y14 (.ref xa)) (E_xa : Exa Z h0 xa Y1) (F_size_xa : Fld Z h0 xa Y1 "size" "I" (.int (1 : Int32))) :
    oCon l Z yy38 b22_ 1 (some .boolean) ws ({ frames := 0, cells := 0, slots := 0, locals := 0 } : Room) #[(.ref xt)] h0 (oPq (some (.int (0 : Int32))) h0) := by
  refine oCon.of (plainFor_of_name pn_9) ?_
  intro p e s m below meth c T X hx hby hml hown hnm hret hlk hZ e0
  have hml : c.maxLocals = 1 := hml
  have K : oKp h0 h0 [] [] := oKp.nil _ _
  refine oWk.cast (g' := (mkF m 0 #[rv xt] [])) (by first | rfl | (simp [entryFrame, mkF, argsToLocals, Value.category]; done)) ?_
  refine oWk.st (fun _ kt => zA X hx hby d50_0 rfl rfl rfl kt) ?_
  obtain ⟨T, X, e0, st⟩ := getF X hx hZ hown (host := "") (Or.inl (oW hw 293 rfl)) Via.refl e0 F_cursor_xt (g := (mkF m 1 #[rv xt] [(.ref xt)])) rfl rfl (hb hby d50_1)
  refine oWk.st (fun _ kt => st _ (zA X hx hby d50_4 rfl rfl rfl kt)) ?_
  obtain ⟨T, X, e0, st⟩ := getF X hx hZ hown (host := "") (Or.inl (oW hw 276 rfl)) Via.refl e0 F_this_0_xt (g := (mkF m 5 #[rv xt] [(.ref xt), (.int 1)])) rfl rfl (hb hby d50_5)
  refine oWk.st (fun _ kt => st _ kt) ?_
  obtain ⟨T, X, e0, st⟩ := getF X hx hZ hown (Or.inr (oW hw 295 rfl)) Via.refl e0 F_size_xa (g := (mkF m 8 #[rv xt] [(.ref xa), (.int 1)])) rfl rfl (hb hby d50_8)
  refine oWk.to (mkF m 19 #[rv xt] [(.int 0)]) (fun _ kt => st _ (zY X hx hby d50_11 rfl rfl (teq (by decide)).1 (pc' := 18) rfl (zK X hx hby d50_18 rfl kt))) ?_
  exact oRetZ X hx hlk hret (hb hby d50_19) (Or.inl rfl) (by rw [e0]; exact ⟨rfl, rfl, K⟩) (by decide) (by decide)
theorem rHas_2_0 (l : Launch) (Z : State) (a0 : Array Value) (hw : oHW a0 Z) (ws : List Jvm.Cond) (xt xa : Addr) (h0 : Heap) (O0 : Ext Z.heap h0) (E_xt : Exa Z h0 xt Y5) (F_cursor_xt : Fld Z h0 xt Y5 "cursor" "I" (.int (0 : Int32))) (F_this_0_xt : Fld Z h0 xt Y5 "this$0" Y14 (.ref xa)) (E_xa : Exa Z h0 xa Y1) (F_size_xa : Fld Z h0 xa Y1 "size" "I" (.int (2 : Int32))) :
    oCon l Z yy38 b22_ 1 (some .boolean) ws ({ frames := 0, cells := 0, slots := 0, locals := 0 } : Room) #[(.ref xt)] h0 (oPq (some (.int (1 : Int32))) h0) := by
  refine oCon.of (plainFor_of_name pn_9) ?_
  intro p e s m below meth c T X hx hby hml hown hnm hret hlk hZ e0
  have hml : c.maxLocals = 1 := hml
  have K : oKp h0 h0 [] [] := oKp.nil _ _
  refine oWk.cast (g' := (mkF m 0 #[rv xt] [])) (by first | rfl | (simp [entryFrame, mkF, argsToLocals, Value.category]; done)) ?_
  refine oWk.st (fun _ kt => zA X hx hby d50_0 rfl rfl rfl kt) ?_
  obtain ⟨T, X, e0, st⟩ := getF X hx hZ hown (host := "") (Or.inl (oW hw 293 rfl)) Via.refl e0 F_cursor_xt (g := (mkF m 1 #[rv xt] [(.ref xt)])) rfl rfl (hb hby d50_1)
  refine oWk.st (fun _ kt => st _ (zA X hx hby d50_4 rfl rfl rfl kt)) ?_
  obtain ⟨T, X, e0, st⟩ := getF X hx hZ hown (host := "") (Or.inl (oW hw 276 rfl)) Via.refl e0 F_this_0_xt (g := (mkF m 5 #[rv xt] [(.ref xt), (.int 0)])) rfl rfl (hb hby d50_5)
  refine oWk.st (fun _ kt => st _ kt) ?_
  obtain ⟨T, X, e0, st⟩ := getF X hx hZ hown (Or.inr (oW hw 295 rfl)) Via.refl e0 F_size_xa (g := (mkF m 8 #[rv xt] [(.ref xa), (.int 0)])) rfl rfl (hb hby d50_8)
  refine oWk.to (mkF m 19 #[rv xt] [(.int 1)]) (fun _ kt => st _ (zN X hx hby d50_11 rfl rfl (feq (by decide)).1 (zK X hx hby d50_14 rfl (zG X hx hby d50_15 rfl (pc' := 19) rfl kt)))) ?_
  exact oRetZ X hx hlk hret (hb hby d50_19) (Or.inr rfl) (by rw [e0]; exact ⟨rfl, rfl, K⟩) (by decide) (by decide)
theorem rHas_2_1 (l : Launch) (Z : State) (a0 : Array Value) (hw : oHW a0 Z) (ws : List Jvm.Cond) (xt xa : Addr) (h0 : Heap) (O0 : Ext Z.heap h0) (E_xt : Exa Z h0 xt Y5) (F_cursor_xt : Fld Z h0 xt Y5 "cursor" "I" (.int (1 : Int32))) (F_this_0_xt : Fld Z h0 xt Y5 "this$0" Y14 (.ref xa)) (E_xa : Exa Z h0 xa Y1) (F_size_xa : Fld Z h0 xa Y1 "size" "I" (.int (2 : Int32))) :
    oCon l Z yy38 b22_ 1 (some .boolean) ws ({ frames := 0, cells := 0, slots := 0, locals := 0 } : Room) #[(.ref xt)] h0 (oPq (some (.int (1 : Int32))) h0) := by
  refine oCon.of (plainFor_of_name pn_9) ?_
  intro p e s m below meth c T X hx hby hml hown hnm hret hlk hZ e0
  have hml : c.maxLocals = 1 := hml
  have K : oKp h0 h0 [] [] := oKp.nil _ _
  refine oWk.cast (g' := (mkF m 0 #[rv xt] [])) (by first | rfl | (simp [entryFrame, mkF, argsToLocals, Value.category]; done)) ?_
  refine oWk.st (fun _ kt => zA X hx hby d50_0 rfl rfl rfl kt) ?_
  obtain ⟨T, X, e0, st⟩ := getF X hx hZ hown (host := "") (Or.inl (oW hw 293 rfl)) Via.refl e0 F_cursor_xt (g := (mkF m 1 #[rv xt] [(.ref xt)])) rfl rfl (hb hby d50_1)
  refine oWk.st (fun _ kt => st _ (zA X hx hby d50_4 rfl rfl rfl kt)) ?_
  obtain ⟨T, X, e0, st⟩ := getF X hx hZ hown (host := "") (Or.inl (oW hw 276 rfl)) Via.refl e0 F_this_0_xt (g := (mkF m 5 #[rv xt] [(.ref xt), (.int 1)])) rfl rfl (hb hby d50_5)
  refine oWk.st (fun _ kt => st _ kt) ?_
  obtain ⟨T, X, e0, st⟩ := getF X hx hZ hown (Or.inr (oW hw 295 rfl)) Via.refl e0 F_size_xa (g := (mkF m 8 #[rv xt] [(.ref xa), (.int 1)])) rfl rfl (hb hby d50_8)
  refine oWk.to (mkF m 19 #[rv xt] [(.int 1)]) (fun _ kt => st _ (zN X hx hby d50_11 rfl rfl (feq (by decide)).1 (zK X hx hby d50_14 rfl (zG X hx hby d50_15 rfl (pc' := 19) rfl kt)))) ?_
  exact oRetZ X hx hlk hret (hb hby d50_19) (Or.inr rfl) (by rw [e0]; exact ⟨rfl, rfl, K⟩) (by decide) (by decide)
theorem rHas_2_2 (l : Launch) (Z : State) (a0 : Array Value) (hw : oHW a0 Z) (ws : List Jvm.Cond) (xt xa : Addr) (h0 : Heap) (O0 : Ext Z.heap h0) (E_xt : Exa Z h0 xt Y5) (F_cursor_xt : Fld Z h0 xt Y5 "cursor" "I" (.int (2 : Int32))) (F_this_0_xt : Fld Z h0 xt Y5 "this$0" Y14 (.ref xa)) (E_xa : Exa Z h0 xa Y1) (F_size_xa : Fld Z h0 xa Y1 "size" "I" (.int (2 : Int32))) :
    oCon l Z yy38 b22_ 1 (some .boolean) ws ({ frames := 0, cells := 0, slots := 0, locals := 0 } : Room) #[(.ref xt)] h0 (oPq (some (.int (0 : Int32))) h0) := by
  refine oCon.of (plainFor_of_name pn_9) ?_
  intro p e s m below meth c T X hx hby hml hown hnm hret hlk hZ e0
  have hml : c.maxLocals = 1 := hml
  have K : oKp h0 h0 [] [] := oKp.nil _ _
  refine oWk.cast (g' := (mkF m 0 #[rv xt] [])) (by first | rfl | (simp [entryFrame, mkF, argsToLocals, Value.category]; done)) ?_
  refine oWk.st (fun _ kt => zA X hx hby d50_0 rfl rfl rfl kt) ?_
  obtain ⟨T, X, e0, st⟩ := getF X hx hZ hown (host := "") (Or.inl (oW hw 293 rfl)) Via.refl e0 F_cursor_xt (g := (mkF m 1 #[rv xt] [(.ref xt)])) rfl rfl (hb hby d50_1)
  refine oWk.st (fun _ kt => st _ (zA X hx hby d50_4 rfl rfl rfl kt)) ?_
  obtain ⟨T, X, e0, st⟩ := getF X hx hZ hown (host := "") (Or.inl (oW hw 276 rfl)) Via.refl e0 F_this_0_xt (g := (mkF m 5 #[rv xt] [(.ref xt), (.int 2)])) rfl rfl (hb hby d50_5)
  refine oWk.st (fun _ kt => st _ kt) ?_
  obtain ⟨T, X, e0, st⟩ := getF X hx hZ hown (Or.inr (oW hw 295 rfl)) Via.refl e0 F_size_xa (g := (mkF m 8 #[rv xt] [(.ref xa), (.int 2)])) rfl rfl (hb hby d50_8)
  refine oWk.to (mkF m 19 #[rv xt] [(.int 0)]) (fun _ kt => st _ (zY X hx hby d50_11 rfl rfl (teq (by decide)).1 (pc' := 18) rfl (zK X hx hby d50_18 rfl kt))) ?_
  exact oRetZ X hx hlk hret (hb hby d50_19) (Or.inl rfl) (by rw [e0]; exact ⟨rfl, rfl, K⟩) (by decide) (by decide)
abbrev yy39 : MethodName := ⟨"java/util/ArrayList$Itr", "checkForComodification", "()V"⟩
theorem d52_0 : decode b47_ 0 = .ok (.aload_n 0, 1) := by decide +kernel
theorem d52_1 : decode b47_ 1 = .ok (.getfield 1, 3) := by decide +kernel
theorem d52_4 : decode b47_ 4 = .ok (.getfield 17, 3) := by decide +kernel
theorem d52_7 : decode b47_ 7 = .ok (.aload_n 0, 1) := by decide +kernel
theorem d52_8 : decode b47_ 8 = .ok (.getfield 22, 3) := by decide +kernel
theorem d52_11 : decode b47_ 11 = .ok (.if_icmp .eq 11, 3) := by decide +kernel
theorem d52_22 : decode b47_ 22 = .ok (.return_, 1) := by decide +kernel
theorem rCkm (l : Launch) (Z : State) (a0 : Array Value) (hw : oHW a0 Z) (ws : List Jvm.Cond) (xt xa : Addr) (xm : Int32) (h0 : Heap) (O0 : Ext Z.heap h0) (E_xt : Exa Z h0 xt Y5) (F_this_0_xt : Fld Z h0 xt Y5 "this$0" Y14 (.ref xa)) (F_expectedModCount_xt : Fld Z h0 xt Y5 Y19 "I" (.int xm)) (E_xa : Exa Z h0 xa Y1) (F_modCount_xa : Fld Z h0 xa Y8 "modCount" "I" (.int xm)) :
    oCon l Z yy39 b47_ 1 none ws ({ frames := 0, cells := 0, slots := 0, locals := 0 } : Room) #[(.ref xt)] h0 (oPq none h0) := by
  refine oCon.of (plainFor_of_name pn_9) ?_
  intro p e s m below meth c T X hx hby hml hown hnm hret hlk hZ e0
  have hml : c.maxLocals = 1 := hml
  have K : oKp h0 h0 [] [] := oKp.nil _ _
  refine oWk.cast (g' := (mkF m 0 #[rv xt] [])) (by first | rfl | (simp [entryFrame, mkF, argsToLocals, Value.category]; done)) ?_
  refine oWk.st (fun _ kt => zA X hx hby d52_0 rfl rfl rfl kt) ?_
  obtain ⟨T, X, e0, st⟩ := getF X hx hZ hown (host := "") (Or.inl (oW hw 276 rfl)) Via.refl e0 F_this_0_xt (g := (mkF m 1 #[rv xt] [(.ref xt)])) rfl rfl (hb hby d52_1)
  refine oWk.st (fun _ kt => st _ kt) ?_
  obtain ⟨T, X, e0, st⟩ := getF X hx hZ hown (host := "") (Or.inl (oW hw 281 rfl)) (Via.of (oW hw 163 rfl)) e0 F_modCount_xa (g := (mkF m 4 #[rv xt] [(.ref xa)])) rfl rfl (hb hby d52_4)
  refine oWk.st (fun _ kt => st _ (zA X hx hby d52_7 rfl rfl rfl kt)) ?_
  obtain ⟨T, X, e0, st⟩ := getF X hx hZ hown (host := "") (Or.inl (oW hw 282 rfl)) Via.refl e0 F_expectedModCount_xt (g := (mkF m 8 #[rv xt] [(.ref xt), (.int xm)])) rfl rfl (hb hby d52_8)
  refine oWk.to (mkF m 22 #[rv xt] []) (fun _ kt => st _ (zY X hx hby d52_11 rfl rfl (teq rfl).1 (pc' := 22) rfl kt)) ?_
  exact oRetV X hx hlk hret (hb hby d52_22) (by rw [e0]; exact ⟨rfl, rfl, K⟩) (by decide) (by decide)
def Q_rNext_1_0 (Z : State) (xt : Addr) (u1 : Int32) (xa xf : Addr) (xk : ClassId) (xm : Int32) (xe0 : Addr) (h0 : Heap) (v : Option Value) (h : Heap) (L : List Loc) : Prop := v = some (.ref xe0) ∧ oKp h0 h [xt] L ∧ (Exa Z h xt Y5) ∧ (Fld Z h xt Y5 "cursor" "I" (.int (1 : Int32))) ∧ (Fld Z h xt Y5 "lastRet" "I" (.int (0 : Int32))) ∧ (Fld Z h xt Y5 Y19 "I" (.int xm)) ∧ (Fld Z h xt Y5 "this$0" Y14 (.ref xa))
abbrev yy40 : MethodName := ⟨"java/util/ArrayList$Itr", "next", "()Ljava/lang/Object;"⟩
theorem d51_0 : decode b7_ 0 = .ok (.aload_n 0, 1) := by decide +kernel
theorem d51_1 : decode b7_ 1 = .ok (.invokevirtual 31, 3) := by decide +kernel
theorem pd_21 : parseMethodDescriptor "()V" = some ⟨[], none⟩ := by decide +kernel
theorem cs35 {a0 : Array Value} {Z : State} (hw : oHW a0 Z) : oCall Z Y5 (.invokevirtual 31) yy39 b47_ 1 none (oRv Z 0 Y5) := oCall.virt (oW hw 304 rfl) (oW hw 305 rfl) (fun _ hZ => notFace_of_selects (args := #[]) (mvT hZ (oW hw 307 rfl))) (oW hw 307 rfl) (oW hw 306 rfl) (oW hw 271 rfl) (oW hw 308 rfl) (by decide) pd_21
theorem d51_4 : decode b7_ 4 = .ok (.aload_n 0, 1) := by decide +kernel
theorem d51_5 : decode b7_ 5 = .ok (.getfield 25, 3) := by decide +kernel
theorem d51_8 : decode b7_ 8 = .ok (.istore_n 1, 1) := by decide +kernel
theorem d51_9 : decode b7_ 9 = .ok (.iload_n 1, 1) := by decide +kernel
theorem d51_10 : decode b7_ 10 = .ok (.aload_n 0, 1) := by decide +kernel
theorem d51_11 : decode b7_ 11 = .ok (.getfield 1, 3) := by decide +kernel
theorem d51_14 : decode b7_ 14 = .ok (.getfield 28, 3) := by decide +kernel
theorem d51_17 : decode b7_ 17 = .ok (.if_icmp .lt 11, 3) := by decide +kernel
theorem d51_28 : decode b7_ 28 = .ok (.aload_n 0, 1) := by decide +kernel
theorem d51_29 : decode b7_ 29 = .ok (.getfield 1, 3) := by decide +kernel
theorem d51_32 : decode b7_ 32 = .ok (.getfield 37, 3) := by decide +kernel
theorem d51_35 : decode b7_ 35 = .ok (.astore_n 2, 1) := by decide +kernel
theorem d51_36 : decode b7_ 36 = .ok (.iload_n 1, 1) := by decide +kernel
theorem d51_37 : decode b7_ 37 = .ok (.aload_n 2, 1) := by decide +kernel
theorem d51_38 : decode b7_ 38 = .ok (.arraylength, 1) := by decide +kernel
theorem d51_39 : decode b7_ 39 = .ok (.if_icmp .lt 11, 3) := by decide +kernel
theorem d51_50 : decode b7_ 50 = .ok (.aload_n 0, 1) := by decide +kernel
theorem d51_51 : decode b7_ 51 = .ok (.iload_n 1, 1) := by decide +kernel
theorem d51_52 : decode b7_ 52 = .ok (.iconst 1, 1) := by decide +kernel
theorem d51_53 : decode b7_ 53 = .ok (.iadd, 1) := by decide +kernel
theorem d51_54 : decode b7_ 54 = .ok (.putfield 25, 3) := by decide +kernel
theorem d51_57 : decode b7_ 57 = .ok (.aload_n 2, 1) := by decide +kernel
theorem d51_58 : decode b7_ 58 = .ok (.aload_n 0, 1) := by decide +kernel
theorem d51_59 : decode b7_ 59 = .ok (.iload_n 1, 1) := by decide +kernel
theorem d51_60 : decode b7_ 60 = .ok (.dup_x1, 1) := by decide +kernel
theorem d51_61 : decode b7_ 61 = .ok (.putfield 13, 3) := by decide +kernel
theorem d51_64 : decode b7_ 64 = .ok (.aaload, 1) := by decide +kernel
theorem d51_65 : decode b7_ 65 = .ok (.areturn, 1) := by decide +kernel
theorem rNext_1_0 (l : Launch) (Z : State) (a0 : Array Value) (hw : oHW a0 Z) (ws : List Jvm.Cond) (xt : Addr) (u1 : Int32) (xa xf : Addr) (xk : ClassId) (xm : Int32) (xe0 : Addr) (h0 : Heap) (O0 : Ext Z.heap h0) (og_xt : Z.heap.size ≤ xt) (ne_xa_xt : xa ≠ xt) (ne_xf_xt : xf ≠ xt) (E_xt : Exa Z h0 xt Y5) (F_cursor_xt : Fld Z h0 xt Y5 "cursor" "I" (.int (0 : Int32))) (F_lastRet_xt : Fld Z h0 xt Y5 "lastRet" "I" (.int u1)) (F_expectedModCount_xt : Fld Z h0 xt Y5 Y19 "I" (.int xm)) (F_this_0_xt : Fld Z h0 xt Y5 "this$0" Y14 (.ref xa)) (E_xa : Exa Z h0 xa Y1) (F_elementData_xa : Fld Z h0 xa Y1 "elementData" Y7 (.ref xf)) (F_size_xa : Fld Z h0 xa Y1 "size" "I" (.int (1 : Int32))) (F_modCount_xa : Fld Z h0 xa Y8 "modCount" "I" (.int xm)) (V_xf : Arv Z h0 xf xk (.object Y6) (10 : Int32) [(.ref xe0), .null, .null, .null, .null, .null, .null, .null, .null, .null] .null) :
    oCon l Z yy40 b7_ 3 (some (.object Y6)) ws ({ frames := 1, cells := 0, slots := 0, locals := 12 } : Room) #[(.ref xt)] h0 (Q_rNext_1_0 Z xt u1 xa xf xk xm xe0 h0) := by
  refine oCon.of (plainFor_of_name pn_9) ?_
  intro p e s m below meth c T X hx hby hml hown hnm hret hlk hZ e0
  have hml : c.maxLocals = 3 := hml
  have K : oKp h0 h0 [xt] [] := oKp.nil _ _
  refine oWk.cast (g' := (mkF m 0 #[rv xt, uu, uu] [])) (by first | rfl | (simp [entryFrame, mkF, argsToLocals, Value.category]; done)) ?_
  refine oWk.st (fun _ kt => zA X hx hby d51_0 rfl rfl rfl kt) ?_
  have Oh := K.old O0 (allS og_xt all0)
  obtain ⟨T, L2, X, e0, K, st⟩ := (cs35 hw).pure X hx hZ hown e0 K (A := [(.ref xt)]) ⟨rfl, _, _, rfl, E_xt⟩ (rCkm l Z a0 hw [] xt xa xm h0 Oh E_xt F_this_0_xt F_expectedModCount_xt E_xa F_modCount_xa) (W := 0) (by decide) hml (Ls := #[rv xt, uu, uu]) rfl (rest := []) rfl rfl hby d51_1
  refine oWk.st (fun _ kt => st _ (zA X hx hby d51_4 rfl rfl rfl kt)) ?_
  obtain ⟨T, X, e0, st⟩ := getF X hx hZ hown (host := "") (Or.inl (oW hw 293 rfl)) Via.refl e0 F_cursor_xt (g := (mkF m 5 #[rv xt, uu, uu] [(.ref xt)])) rfl rfl (hb hby d51_5)
  refine oWk.st (fun _ kt => st _ (zSn X hx hby d51_8 rfl rfl (l' := #[rv xt, iv 0, uu]) rfl (zI X hx hby d51_9 rfl rfl (zA X hx hby d51_10 rfl rfl rfl kt)))) ?_
  obtain ⟨T, X, e0, st⟩ := getF X hx hZ hown (host := "") (Or.inl (oW hw 276 rfl)) Via.refl e0 F_this_0_xt (g := (mkF m 11 #[rv xt, iv 0, uu] [(.ref xt), (.int 0)])) rfl rfl (hb hby d51_11)
  refine oWk.st (fun _ kt => st _ kt) ?_
  obtain ⟨T, X, e0, st⟩ := getF X hx hZ hown (Or.inr (oW hw 295 rfl)) Via.refl e0 F_size_xa (g := (mkF m 14 #[rv xt, iv 0, uu] [(.ref xa), (.int 0)])) rfl rfl (hb hby d51_14)
  refine oWk.st (fun _ kt => st _ (zY X hx hby d51_17 rfl rfl (tlt (by decide)).1 (pc' := 28) rfl (zA X hx hby d51_28 rfl rfl rfl kt))) ?_
  obtain ⟨T, X, e0, st⟩ := getF X hx hZ hown (host := "") (Or.inl (oW hw 276 rfl)) Via.refl e0 F_this_0_xt (g := (mkF m 29 #[rv xt, iv 0, uu] [(.ref xt)])) rfl rfl (hb hby d51_29)
  refine oWk.st (fun _ kt => st _ kt) ?_
  obtain ⟨T, X, e0, st⟩ := getF X hx hZ hown (host := "") (Or.inl (oW hw 309 rfl)) Via.refl e0 F_elementData_xa (g := (mkF m 32 #[rv xt, iv 0, uu] [(.ref xa)])) rfl rfl (hb hby d51_32)
  refine oWk.to (mkF m 51 #[rv xt, iv 0, rv xf] [(.ref xt)]) (fun _ kt => st _ (zTn X hx hby d51_35 rfl rfl rfl (l' := #[rv xt, iv 0, rv xf]) rfl (zI X hx hby d51_36 rfl rfl (zA X hx hby d51_37 rfl rfl rfl (oAl X hx hZ e0 V_xf hby d51_38 rfl rfl (zY X hx hby d51_39 rfl rfl (tlt (by decide)).1 (pc' := 50) rfl (zA X hx hby d51_50 rfl rfl rfl kt))))))) ?_
  refine oWk.st (fun _ kt => zI X hx hby d51_51 rfl rfl (zK X hx hby d51_52 rfl (XS.iadd X.here hx rfl (hb hby d51_53) rfl kt))) ?_
  obtain ⟨T, h, X, e0, W4, st⟩ := putF X hx hZ hown (host := "") (Or.inl (oW hw 293 rfl)) Via.refl e0 F_cursor_xt E_xt (Or.inl (oW hw 294 rfl)) (oW hw 270 rfl) (ty := .int) (by decide) rfl rfl (g := (mkF m 54 #[rv xt, iv 0, rv xf] [(.int 1), (.ref xt)])) rfl rfl (hb hby d51_54)
  have K := K.wr W4 (Or.inl (List.mem_of_getElem? (i := 0) rfl))
  have F_cursor_xt := F_cursor_xt.same W4
  refine oWk.st (fun _ kt => st _ (zA X hx hby d51_57 rfl rfl rfl (zA X hx hby d51_58 rfl rfl rfl (zI X hx hby d51_59 rfl rfl (XS.dupX1 X.here hx rfl (hb hby d51_60) rfl rfl rfl kt))))) ?_
  have E_xt := (E_xt.wr W4)
  have F_lastRet_xt := (F_lastRet_xt.other W4 (Or.inr (slot_ne (Or.inl (oW hw 280 rfl)) (Or.inl (oW hw 294 rfl)) (by decide) (t := .int) (t' := .int) (by decide) (by decide))))
  obtain ⟨T, h, X, e0, W5, st⟩ := putF X hx hZ hown (host := "") (Or.inl (oW hw 279 rfl)) Via.refl e0 F_lastRet_xt E_xt (Or.inl (oW hw 280 rfl)) (oW hw 270 rfl) (ty := .int) (by decide) rfl rfl (g := (mkF m 61 #[rv xt, iv 0, rv xf] [(.int 0), (.ref xt), (.int 0), (.ref xf)])) rfl rfl (hb hby d51_61)
  have K := K.wr W5 (Or.inl (List.mem_of_getElem? (i := 0) rfl))
  have F_lastRet_xt := F_lastRet_xt.same W5
  refine oWk.st (fun _ kt => st _ kt) ?_
  have V_xf := ((V_xf.other W4 ne_xf_xt).other W5 ne_xf_xt)
  refine oWk.to (mkF m 65 #[rv xt, iv 0, rv xf] [(.ref xe0)]) (fun _ kt => oLdR X hx hZ e0 V_xf (0 : Int32) (.ref xe0) ⟨by decide, by decide⟩ rfl hby d51_64 rfl rfl kt) ?_
  have E_xt := (E_xt.wr W5)
  have F_cursor_xt := (F_cursor_xt.other W5 (Or.inr (slot_ne (Or.inl (oW hw 294 rfl)) (Or.inl (oW hw 280 rfl)) (by decide) (t := .int) (t' := .int) (by decide) (by decide))))
  have F_expectedModCount_xt := ((F_expectedModCount_xt.other W4 (Or.inr (slot_ne (Or.inl (oW hw 283 rfl)) (Or.inl (oW hw 294 rfl)) (by decide) (t := .int) (t' := .int) (by decide) (by decide)))).other W5 (Or.inr (slot_ne (Or.inl (oW hw 283 rfl)) (Or.inl (oW hw 280 rfl)) (by decide) (t := .int) (t' := .int) (by decide) (by decide))))
  have F_this_0_xt := ((F_this_0_xt.other W4 (Or.inr (slot_ne (Or.inr (oW hw 277 rfl)) (Or.inl (oW hw 294 rfl)) (by decide) (t := (.object Y1)) (t' := .int) (by decide) (by decide)))).other W5 (Or.inr (slot_ne (Or.inr (oW hw 277 rfl)) (Or.inl (oW hw 280 rfl)) (by decide) (t := (.object Y1)) (t' := .int) (by decide) (by decide))))
  exact oRetA X hx hlk hret rfl rfl (hb hby d51_65) (by rw [e0]; exact ⟨rfl, K, E_xt, F_cursor_xt, F_lastRet_xt, F_expectedModCount_xt, F_this_0_xt⟩) (by decide) (by decide)
def Q_rNext_2_0 (Z : State) (xt : Addr) (u1 : Int32) (xa xf : Addr) (xk : ClassId) (xm : Int32) (xe0 xe1 : Addr) (h0 : Heap) (v : Option Value) (h : Heap) (L : List Loc) : Prop := v = some (.ref xe0) ∧ oKp h0 h [xt] L ∧ (Exa Z h xt Y5) ∧ (Fld Z h xt Y5 "cursor" "I" (.int (1 : Int32))) ∧ (Fld Z h xt Y5 "lastRet" "I" (.int (0 : Int32))) ∧ (Fld Z h xt Y5 Y19 "I" (.int xm)) ∧ (Fld Z h xt Y5 "this$0" Y14 (.ref xa))
theorem rNext_2_0 (l : Launch) (Z : State) (a0 : Array Value) (hw : oHW a0 Z) (ws : List Jvm.Cond) (xt : Addr) (u1 : Int32) (xa xf : Addr) (xk : ClassId) (xm : Int32) (xe0 xe1 : Addr) (h0 : Heap) (O0 : Ext Z.heap h0) (og_xt : Z.heap.size ≤ xt) (ne_xa_xt : xa ≠ xt) (ne_xf_xt : xf ≠ xt) (E_xt : Exa Z h0 xt Y5) (F_cursor_xt : Fld Z h0 xt Y5 "cursor" "I" (.int (0 : Int32))) (F_lastRet_xt : Fld Z h0 xt Y5 "lastRet" "I" (.int u1)) (F_expectedModCount_xt : Fld Z h0 xt Y5 Y19 "I" (.int xm)) (F_this_0_xt : Fld Z h0 xt Y5 "this$0" Y14 (.ref xa)) (E_xa : Exa Z h0 xa Y1) (F_elementData_xa : Fld Z h0 xa Y1 "elementData" Y7 (.ref xf)) (F_size_xa : Fld Z h0 xa Y1 "size" "I" (.int (2 : Int32))) (F_modCount_xa : Fld Z h0 xa Y8 "modCount" "I" (.int xm)) (V_xf : Arv Z h0 xf xk (.object Y6) (10 : Int32) [(.ref xe0), (.ref xe1), .null, .null, .null, .null, .null, .null, .null, .null] .null) :
    oCon l Z yy40 b7_ 3 (some (.object Y6)) ws ({ frames := 1, cells := 0, slots := 0, locals := 12 } : Room) #[(.ref xt)] h0 (Q_rNext_2_0 Z xt u1 xa xf xk xm xe0 xe1 h0) := by
  refine oCon.of (plainFor_of_name pn_9) ?_
  intro p e s m below meth c T X hx hby hml hown hnm hret hlk hZ e0
  have hml : c.maxLocals = 3 := hml
  have K : oKp h0 h0 [xt] [] := oKp.nil _ _
  refine oWk.cast (g' := (mkF m 0 #[rv xt, uu, uu] [])) (by first | rfl | (simp [entryFrame, mkF, argsToLocals, Value.category]; done)) ?_
  refine oWk.st (fun _ kt => zA X hx hby d51_0 rfl rfl rfl kt) ?_
  have Oh := K.old O0 (allS og_xt all0)
  obtain ⟨T, L2, X, e0, K, st⟩ := (cs35 hw).pure X hx hZ hown e0 K (A := [(.ref xt)]) ⟨rfl, _, _, rfl, E_xt⟩ (rCkm l Z a0 hw [] xt xa xm h0 Oh E_xt F_this_0_xt F_expectedModCount_xt E_xa F_modCount_xa) (W := 0) (by decide) hml (Ls := #[rv xt, uu, uu]) rfl (rest := []) rfl rfl hby d51_1
  refine oWk.st (fun _ kt => st _ (zA X hx hby d51_4 rfl rfl rfl kt)) ?_
  obtain ⟨T, X, e0, st⟩ := getF X hx hZ hown (host := "") (Or.inl (oW hw 293 rfl)) Via.refl e0 F_cursor_xt (g := (mkF m 5 #[rv xt, uu, uu] [(.ref xt)])) rfl rfl (hb hby d51_5)
  refine oWk.st (fun _ kt => st _ (zSn X hx hby d51_8 rfl rfl (l' := #[rv xt, iv 0, uu]) rfl (zI X hx hby d51_9 rfl rfl (zA X hx hby d51_10 rfl rfl rfl kt)))) ?_
  obtain ⟨T, X, e0, st⟩ := getF X hx hZ hown (host := "") (Or.inl (oW hw 276 rfl)) Via.refl e0 F_this_0_xt (g := (mkF m 11 #[rv xt, iv 0, uu] [(.ref xt), (.int 0)])) rfl rfl (hb hby d51_11)
  refine oWk.st (fun _ kt => st _ kt) ?_
  obtain ⟨T, X, e0, st⟩ := getF X hx hZ hown (Or.inr (oW hw 295 rfl)) Via.refl e0 F_size_xa (g := (mkF m 14 #[rv xt, iv 0, uu] [(.ref xa), (.int 0)])) rfl rfl (hb hby d51_14)
  refine oWk.st (fun _ kt => st _ (zY X hx hby d51_17 rfl rfl (tlt (by decide)).1 (pc' := 28) rfl (zA X hx hby d51_28 rfl rfl rfl kt))) ?_
  obtain ⟨T, X, e0, st⟩ := getF X hx hZ hown (host := "") (Or.inl (oW hw 276 rfl)) Via.refl e0 F_this_0_xt (g := (mkF m 29 #[rv xt, iv 0, uu] [(.ref xt)])) rfl rfl (hb hby d51_29)
  refine oWk.st (fun _ kt => st _ kt) ?_
  obtain ⟨T, X, e0, st⟩ := getF X hx hZ hown (host := "") (Or.inl (oW hw 309 rfl)) Via.refl e0 F_elementData_xa (g := (mkF m 32 #[rv xt, iv 0, uu] [(.ref xa)])) rfl rfl (hb hby d51_32)
  refine oWk.to (mkF m 51 #[rv xt, iv 0, rv xf] [(.ref xt)]) (fun _ kt => st _ (zTn X hx hby d51_35 rfl rfl rfl (l' := #[rv xt, iv 0, rv xf]) rfl (zI X hx hby d51_36 rfl rfl (zA X hx hby d51_37 rfl rfl rfl (oAl X hx hZ e0 V_xf hby d51_38 rfl rfl (zY X hx hby d51_39 rfl rfl (tlt (by decide)).1 (pc' := 50) rfl (zA X hx hby d51_50 rfl rfl rfl kt))))))) ?_
  refine oWk.st (fun _ kt => zI X hx hby d51_51 rfl rfl (zK X hx hby d51_52 rfl (XS.iadd X.here hx rfl (hb hby d51_53) rfl kt))) ?_
  obtain ⟨T, h, X, e0, W4, st⟩ := putF X hx hZ hown (host := "") (Or.inl (oW hw 293 rfl)) Via.refl e0 F_cursor_xt E_xt (Or.inl (oW hw 294 rfl)) (oW hw 270 rfl) (ty := .int) (by decide) rfl rfl (g := (mkF m 54 #[rv xt, iv 0, rv xf] [(.int 1), (.ref xt)])) rfl rfl (hb hby d51_54)
  have K := K.wr W4 (Or.inl (List.mem_of_getElem? (i := 0) rfl))
  have F_cursor_xt := F_cursor_xt.same W4
  refine oWk.st (fun _ kt => st _ (zA X hx hby d51_57 rfl rfl rfl (zA X hx hby d51_58 rfl rfl rfl (zI X hx hby d51_59 rfl rfl (XS.dupX1 X.here hx rfl (hb hby d51_60) rfl rfl rfl kt))))) ?_
  have E_xt := (E_xt.wr W4)
  have F_lastRet_xt := (F_lastRet_xt.other W4 (Or.inr (slot_ne (Or.inl (oW hw 280 rfl)) (Or.inl (oW hw 294 rfl)) (by decide) (t := .int) (t' := .int) (by decide) (by decide))))
  obtain ⟨T, h, X, e0, W5, st⟩ := putF X hx hZ hown (host := "") (Or.inl (oW hw 279 rfl)) Via.refl e0 F_lastRet_xt E_xt (Or.inl (oW hw 280 rfl)) (oW hw 270 rfl) (ty := .int) (by decide) rfl rfl (g := (mkF m 61 #[rv xt, iv 0, rv xf] [(.int 0), (.ref xt), (.int 0), (.ref xf)])) rfl rfl (hb hby d51_61)
  have K := K.wr W5 (Or.inl (List.mem_of_getElem? (i := 0) rfl))
  have F_lastRet_xt := F_lastRet_xt.same W5
  refine oWk.st (fun _ kt => st _ kt) ?_
  have V_xf := ((V_xf.other W4 ne_xf_xt).other W5 ne_xf_xt)
  refine oWk.to (mkF m 65 #[rv xt, iv 0, rv xf] [(.ref xe0)]) (fun _ kt => oLdR X hx hZ e0 V_xf (0 : Int32) (.ref xe0) ⟨by decide, by decide⟩ rfl hby d51_64 rfl rfl kt) ?_
  have E_xt := (E_xt.wr W5)
  have F_cursor_xt := (F_cursor_xt.other W5 (Or.inr (slot_ne (Or.inl (oW hw 294 rfl)) (Or.inl (oW hw 280 rfl)) (by decide) (t := .int) (t' := .int) (by decide) (by decide))))
  have F_expectedModCount_xt := ((F_expectedModCount_xt.other W4 (Or.inr (slot_ne (Or.inl (oW hw 283 rfl)) (Or.inl (oW hw 294 rfl)) (by decide) (t := .int) (t' := .int) (by decide) (by decide)))).other W5 (Or.inr (slot_ne (Or.inl (oW hw 283 rfl)) (Or.inl (oW hw 280 rfl)) (by decide) (t := .int) (t' := .int) (by decide) (by decide))))
  have F_this_0_xt := ((F_this_0_xt.other W4 (Or.inr (slot_ne (Or.inr (oW hw 277 rfl)) (Or.inl (oW hw 294 rfl)) (by decide) (t := (.object Y1)) (t' := .int) (by decide) (by decide)))).other W5 (Or.inr (slot_ne (Or.inr (oW hw 277 rfl)) (Or.inl (oW hw 280 rfl)) (by decide) (t := (.object Y1)) (t' := .int) (by decide) (by decide))))
  exact oRetA X hx hlk hret rfl rfl (hb hby d51_65) (by rw [e0]; exact ⟨rfl, K, E_xt, F_cursor_xt, F_lastRet_xt, F_expectedModCount_xt, F_this_0_xt⟩) (by decide) (by decide)
def Q_rNext_2_1 (Z : State) (xt : Addr) (u1 : Int32) (xa xf : Addr) (xk : ClassId) (xm : Int32) (xe0 xe1 : Addr) (h0 : Heap) (v : Option Value) (h : Heap) (L : List Loc) : Prop := v = some (.ref xe1) ∧ oKp h0 h [xt] L ∧ (Exa Z h xt Y5) ∧ (Fld Z h xt Y5 "cursor" "I" (.int (2 : Int32))) ∧ (Fld Z h xt Y5 "lastRet" "I" (.int (1 : Int32))) ∧ (Fld Z h xt Y5 Y19 "I" (.int xm)) ∧ (Fld Z h xt Y5 "this$0" Y14 (.ref xa))
theorem rNext_2_1 (l : Launch) (Z : State) (a0 : Array Value) (hw : oHW a0 Z) (ws : List Jvm.Cond) (xt : Addr) (u1 : Int32) (xa xf : Addr) (xk : ClassId) (xm : Int32) (xe0 xe1 : Addr) (h0 : Heap) (O0 : Ext Z.heap h0) (og_xt : Z.heap.size ≤ xt) (ne_xa_xt : xa ≠ xt) (ne_xf_xt : xf ≠ xt) (E_xt : Exa Z h0 xt Y5) (F_cursor_xt : Fld Z h0 xt Y5 "cursor" "I" (.int (1 : Int32))) (F_lastRet_xt : Fld Z h0 xt Y5 "lastRet" "I" (.int u1)) (F_expectedModCount_xt : Fld Z h0 xt Y5 Y19 "I" (.int xm)) (F_this_0_xt : Fld Z h0 xt Y5 "this$0" Y14 (.ref xa)) (E_xa : Exa Z h0 xa Y1) (F_elementData_xa : Fld Z h0 xa Y1 "elementData" Y7 (.ref xf)) (F_size_xa : Fld Z h0 xa Y1 "size" "I" (.int (2 : Int32))) (F_modCount_xa : Fld Z h0 xa Y8 "modCount" "I" (.int xm)) (V_xf : Arv Z h0 xf xk (.object Y6) (10 : Int32) [(.ref xe0), (.ref xe1), .null, .null, .null, .null, .null, .null, .null, .null] .null) :
    oCon l Z yy40 b7_ 3 (some (.object Y6)) ws ({ frames := 1, cells := 0, slots := 0, locals := 12 } : Room) #[(.ref xt)] h0 (Q_rNext_2_1 Z xt u1 xa xf xk xm xe0 xe1 h0) := by
  refine oCon.of (plainFor_of_name pn_9) ?_
  intro p e s m below meth c T X hx hby hml hown hnm hret hlk hZ e0
  have hml : c.maxLocals = 3 := hml
  have K : oKp h0 h0 [xt] [] := oKp.nil _ _
  refine oWk.cast (g' := (mkF m 0 #[rv xt, uu, uu] [])) (by first | rfl | (simp [entryFrame, mkF, argsToLocals, Value.category]; done)) ?_
  refine oWk.st (fun _ kt => zA X hx hby d51_0 rfl rfl rfl kt) ?_
  have Oh := K.old O0 (allS og_xt all0)
  obtain ⟨T, L2, X, e0, K, st⟩ := (cs35 hw).pure X hx hZ hown e0 K (A := [(.ref xt)]) ⟨rfl, _, _, rfl, E_xt⟩ (rCkm l Z a0 hw [] xt xa xm h0 Oh E_xt F_this_0_xt F_expectedModCount_xt E_xa F_modCount_xa) (W := 0) (by decide) hml (Ls := #[rv xt, uu, uu]) rfl (rest := []) rfl rfl hby d51_1
  refine oWk.st (fun _ kt => st _ (zA X hx hby d51_4 rfl rfl rfl kt)) ?_
  obtain ⟨T, X, e0, st⟩ := getF X hx hZ hown (host := "") (Or.inl (oW hw 293 rfl)) Via.refl e0 F_cursor_xt (g := (mkF m 5 #[rv xt, uu, uu] [(.ref xt)])) rfl rfl (hb hby d51_5)
  refine oWk.st (fun _ kt => st _ (zSn X hx hby d51_8 rfl rfl (l' := #[rv xt, iv 1, uu]) rfl (zI X hx hby d51_9 rfl rfl (zA X hx hby d51_10 rfl rfl rfl kt)))) ?_
  obtain ⟨T, X, e0, st⟩ := getF X hx hZ hown (host := "") (Or.inl (oW hw 276 rfl)) Via.refl e0 F_this_0_xt (g := (mkF m 11 #[rv xt, iv 1, uu] [(.ref xt), (.int 1)])) rfl rfl (hb hby d51_11)
  refine oWk.st (fun _ kt => st _ kt) ?_
  obtain ⟨T, X, e0, st⟩ := getF X hx hZ hown (Or.inr (oW hw 295 rfl)) Via.refl e0 F_size_xa (g := (mkF m 14 #[rv xt, iv 1, uu] [(.ref xa), (.int 1)])) rfl rfl (hb hby d51_14)
  refine oWk.st (fun _ kt => st _ (zY X hx hby d51_17 rfl rfl (tlt (by decide)).1 (pc' := 28) rfl (zA X hx hby d51_28 rfl rfl rfl kt))) ?_
  obtain ⟨T, X, e0, st⟩ := getF X hx hZ hown (host := "") (Or.inl (oW hw 276 rfl)) Via.refl e0 F_this_0_xt (g := (mkF m 29 #[rv xt, iv 1, uu] [(.ref xt)])) rfl rfl (hb hby d51_29)
  refine oWk.st (fun _ kt => st _ kt) ?_
  obtain ⟨T, X, e0, st⟩ := getF X hx hZ hown (host := "") (Or.inl (oW hw 309 rfl)) Via.refl e0 F_elementData_xa (g := (mkF m 32 #[rv xt, iv 1, uu] [(.ref xa)])) rfl rfl (hb hby d51_32)
  refine oWk.to (mkF m 51 #[rv xt, iv 1, rv xf] [(.ref xt)]) (fun _ kt => st _ (zTn X hx hby d51_35 rfl rfl rfl (l' := #[rv xt, iv 1, rv xf]) rfl (zI X hx hby d51_36 rfl rfl (zA X hx hby d51_37 rfl rfl rfl (oAl X hx hZ e0 V_xf hby d51_38 rfl rfl (zY X hx hby d51_39 rfl rfl (tlt (by decide)).1 (pc' := 50) rfl (zA X hx hby d51_50 rfl rfl rfl kt))))))) ?_
  refine oWk.st (fun _ kt => zI X hx hby d51_51 rfl rfl (zK X hx hby d51_52 rfl (XS.iadd X.here hx rfl (hb hby d51_53) rfl kt))) ?_
  obtain ⟨T, h, X, e0, W4, st⟩ := putF X hx hZ hown (host := "") (Or.inl (oW hw 293 rfl)) Via.refl e0 F_cursor_xt E_xt (Or.inl (oW hw 294 rfl)) (oW hw 270 rfl) (ty := .int) (by decide) rfl rfl (g := (mkF m 54 #[rv xt, iv 1, rv xf] [(.int 2), (.ref xt)])) rfl rfl (hb hby d51_54)
  have K := K.wr W4 (Or.inl (List.mem_of_getElem? (i := 0) rfl))
  have F_cursor_xt := F_cursor_xt.same W4
  refine oWk.st (fun _ kt => st _ (zA X hx hby d51_57 rfl rfl rfl (zA X hx hby d51_58 rfl rfl rfl (zI X hx hby d51_59 rfl rfl (XS.dupX1 X.here hx rfl (hb hby d51_60) rfl rfl rfl kt))))) ?_
  have E_xt := (E_xt.wr W4)
  have F_lastRet_xt := (F_lastRet_xt.other W4 (Or.inr (slot_ne (Or.inl (oW hw 280 rfl)) (Or.inl (oW hw 294 rfl)) (by decide) (t := .int) (t' := .int) (by decide) (by decide))))
  obtain ⟨T, h, X, e0, W5, st⟩ := putF X hx hZ hown (host := "") (Or.inl (oW hw 279 rfl)) Via.refl e0 F_lastRet_xt E_xt (Or.inl (oW hw 280 rfl)) (oW hw 270 rfl) (ty := .int) (by decide) rfl rfl (g := (mkF m 61 #[rv xt, iv 1, rv xf] [(.int 1), (.ref xt), (.int 1), (.ref xf)])) rfl rfl (hb hby d51_61)
  have K := K.wr W5 (Or.inl (List.mem_of_getElem? (i := 0) rfl))
  have F_lastRet_xt := F_lastRet_xt.same W5
  refine oWk.st (fun _ kt => st _ kt) ?_
  have V_xf := ((V_xf.other W4 ne_xf_xt).other W5 ne_xf_xt)
  refine oWk.to (mkF m 65 #[rv xt, iv 1, rv xf] [(.ref xe1)]) (fun _ kt => oLdR X hx hZ e0 V_xf (1 : Int32) (.ref xe1) ⟨by decide, by decide⟩ rfl hby d51_64 rfl rfl kt) ?_
  have E_xt := (E_xt.wr W5)
  have F_cursor_xt := (F_cursor_xt.other W5 (Or.inr (slot_ne (Or.inl (oW hw 294 rfl)) (Or.inl (oW hw 280 rfl)) (by decide) (t := .int) (t' := .int) (by decide) (by decide))))
  have F_expectedModCount_xt := ((F_expectedModCount_xt.other W4 (Or.inr (slot_ne (Or.inl (oW hw 283 rfl)) (Or.inl (oW hw 294 rfl)) (by decide) (t := .int) (t' := .int) (by decide) (by decide)))).other W5 (Or.inr (slot_ne (Or.inl (oW hw 283 rfl)) (Or.inl (oW hw 280 rfl)) (by decide) (t := .int) (t' := .int) (by decide) (by decide))))
  have F_this_0_xt := ((F_this_0_xt.other W4 (Or.inr (slot_ne (Or.inr (oW hw 277 rfl)) (Or.inl (oW hw 294 rfl)) (by decide) (t := (.object Y1)) (t' := .int) (by decide) (by decide)))).other W5 (Or.inr (slot_ne (Or.inr (oW hw 277 rfl)) (Or.inl (oW hw 280 rfl)) (by decide) (t := (.object Y1)) (t' := .int) (by decide) (by decide))))
  exact oRetA X hx hlk hret rfl rfl (hb hby d51_65) (by rw [e0]; exact ⟨rfl, K, E_xt, F_cursor_xt, F_lastRet_xt, F_expectedModCount_xt, F_this_0_xt⟩) (by decide) (by decide)
def Q_rTI (Z : State) (xt : Addr) (u1 : Value) (h0 : Heap) (v : Option Value) (h : Heap) (L : List Loc) : Prop := ∃ (nb : Addr) (nk : ClassId), v = none ∧ oKp h0 h [xt] L ∧ (h0.size ≤ nb) ∧ (Exa Z h xt Y3) ∧ (Fld Z h xt Y3 "buffer" "[I" (.ref nb)) ∧ (Fld Z h xt Y3 "gapStart" "I" (.int (0 : Int32))) ∧ (Fld Z h xt Y3 "gapEnd" "I" (.int (16 : Int32))) ∧ (Fld Z h xt Y3 "journal" Y18 .null) ∧ (Arv Z h nb nk .int (16 : Int32) [] (.int (0 : Int32)))
theorem pn_10 : plainName "com/example/wakati/wakati/Text" = true := by first | (simp [plainName, overriddenIn]; done) | decide +kernel
abbrev yy41 : MethodName := ⟨"com/example/wakati/wakati/Text", "<init>", "()V"⟩
theorem d36_0 : decode b25_ 0 = .ok (.aload_n 0, 1) := by decide +kernel
theorem d36_1 : decode b25_ 1 = .ok (.invokespecial 1, 3) := by decide +kernel
theorem d36_4 : decode b25_ 4 = .ok (.aload_n 0, 1) := by decide +kernel
theorem d36_5 : decode b25_ 5 = .ok (.bipush 16, 2) := by decide +kernel
theorem d36_7 : decode b25_ 7 = .ok (.newarray .int, 2) := by decide +kernel
theorem d36_9 : decode b25_ 9 = .ok (.putfield 9, 3) := by decide +kernel
theorem d36_12 : decode b25_ 12 = .ok (.aload_n 0, 1) := by decide +kernel
theorem d36_13 : decode b25_ 13 = .ok (.aload_n 0, 1) := by decide +kernel
theorem d36_14 : decode b25_ 14 = .ok (.getfield 9, 3) := by decide +kernel
theorem d36_17 : decode b25_ 17 = .ok (.arraylength, 1) := by decide +kernel
theorem d36_18 : decode b25_ 18 = .ok (.putfield 13, 3) := by decide +kernel
theorem d36_21 : decode b25_ 21 = .ok (.return_, 1) := by decide +kernel
theorem rTI (l : Launch) (Z : State) (a0 : Array Value) (hw : oHW a0 Z) (ws : List Jvm.Cond) (xt : Addr) (u1 : Value) (h0 : Heap) (O0 : Ext Z.heap h0) (og_xt : Z.heap.size ≤ xt) (E_xt : Exa Z h0 xt Y3) (F_buffer_xt : Fld Z h0 xt Y3 "buffer" "[I" u1) (F_gapStart_xt : Fld Z h0 xt Y3 "gapStart" "I" (.int (0 : Int32))) (F_gapEnd_xt : Fld Z h0 xt Y3 "gapEnd" "I" (.int (0 : Int32))) (F_journal_xt : Fld Z h0 xt Y3 "journal" Y18 .null) :
    oCon l Z yy41 b25_ 1 none ws ({ frames := 1, cells := 1, slots := 16, locals := 12 } : Room) #[(.ref xt)] h0 (Q_rTI Z xt u1 h0) := by
  refine oCon.of (plainFor_of_name pn_10) ?_
  intro p e s m below meth c T X hx hby hml hown hnm hret hlk hZ e0
  have hml : c.maxLocals = 1 := hml
  have K : oKp h0 h0 [xt] [] := oKp.nil _ _
  refine oWk.cast (g' := (mkF m 0 #[rv xt] [])) (by first | rfl | (simp [entryFrame, mkF, argsToLocals, Value.category]; done)) ?_
  refine oWk.st (fun _ kt => zA X hx hby d36_0 rfl rfl rfl kt) ?_
  obtain ⟨T, X, e0, st⟩ := initO X hx hZ hown (oW hw 194 rfl) (oW hw 12 rfl) (oW hw 13 rfl) e0 (g := (mkF m 1 #[rv xt] [(.ref xt)])) rfl (by rw [hml]; rfl) rfl (hb hby d36_1) (by decide) (W := 0) (Nat.le_of_eq rfl) (by decide)
  refine oWk.st (fun _ kt => st _ (zA X hx hby d36_4 rfl rfl rfl (zL X hx hby d36_5 rfl kt))) ?_
  obtain ⟨o1, g1⟩ : ∃ z, z = h0.size := ⟨_, rfl⟩
  have ne_xt_o1 : xt ≠ o1 := Nat.ne_of_lt (Nat.lt_of_lt_of_le E_xt.lt (Nat.le_of_eq g1.symm))
  have ge_o1 : h0.size ≤ o1 := Nat.le_trans K.le (Nat.le_of_eq g1.symm)
  obtain ⟨T, h, k1, X, e0, E1, A1, st⟩ := newP X hx hZ (oW hw 195 rfl) e0 (g := (mkF m 7 #[rv xt] [(.int 16), (.ref xt)])) rfl (hb hby d36_7) rfl (by decide) (cap := 16) (by decide) (by decide) (by decide) (by decide)
  rw [← g1] at A1 st
  have K := K.ext E1
  have V_o1 : Arv Z h o1 k1 .int (16 : Int32) [] (.int (0 : Int32)) := Arv.new A1 (by decide)
  refine oWk.st (fun _ kt => st _ kt) ?_
  have E_xt := (E_xt.ext E1)
  have F_buffer_xt := (F_buffer_xt.ext E1)
  obtain ⟨T, h, X, e0, W2, st⟩ := putF X hx hZ hown (host := "") (Or.inl (oW hw 196 rfl)) Via.refl e0 F_buffer_xt E_xt (Or.inl (oW hw 197 rfl)) (oW hw 189 rfl) (ty := (.array .int)) (by decide) rfl rfl (g := (mkF m 9 #[rv xt] [(.ref o1), (.ref xt)])) rfl rfl (hb hby d36_9)
  have K := K.wr W2 (Or.inl (List.mem_of_getElem? (i := 0) rfl))
  have F_buffer_xt := F_buffer_xt.same W2
  refine oWk.st (fun _ kt => st _ (zA X hx hby d36_12 rfl rfl rfl (zA X hx hby d36_13 rfl rfl rfl kt))) ?_
  obtain ⟨T, X, e0, st⟩ := getF X hx hZ hown (host := "") (Or.inl (oW hw 196 rfl)) Via.refl e0 F_buffer_xt (g := (mkF m 14 #[rv xt] [(.ref xt), (.ref xt)])) rfl rfl (hb hby d36_14)
  refine oWk.st (fun _ kt => st _ kt) ?_
  have V_o1 := (V_o1.other W2 (Ne.symm ne_xt_o1))
  refine oWk.st (fun _ kt => oAl X hx hZ e0 V_o1 hby d36_17 rfl rfl kt) ?_
  have E_xt := (E_xt.wr W2)
  have F_gapEnd_xt := ((F_gapEnd_xt.ext E1).other W2 (Or.inr (slot_ne (Or.inl (oW hw 199 rfl)) (Or.inl (oW hw 197 rfl)) (by decide) (t := .int) (t' := (.array .int)) (by decide) (by decide))))
  obtain ⟨T, h, X, e0, W4, st⟩ := putF X hx hZ hown (host := "") (Or.inl (oW hw 198 rfl)) Via.refl e0 F_gapEnd_xt E_xt (Or.inl (oW hw 199 rfl)) (oW hw 189 rfl) (ty := .int) (by decide) rfl rfl (g := (mkF m 18 #[rv xt] [(.int 16), (.ref xt)])) rfl rfl (hb hby d36_18)
  have K := K.wr W4 (Or.inl (List.mem_of_getElem? (i := 0) rfl))
  have F_gapEnd_xt := F_gapEnd_xt.same W4
  refine oWk.to (mkF m 21 #[rv xt] []) (fun _ kt => st _ kt) ?_
  have E_xt := (E_xt.wr W4)
  have F_buffer_xt := (F_buffer_xt.other W4 (Or.inr (slot_ne (Or.inl (oW hw 197 rfl)) (Or.inl (oW hw 199 rfl)) (by decide) (t := (.array .int)) (t' := .int) (by decide) (by decide))))
  have F_gapStart_xt := (((F_gapStart_xt.ext E1).other W2 (Or.inr (slot_ne (Or.inl (oW hw 206 rfl)) (Or.inl (oW hw 197 rfl)) (by decide) (t := .int) (t' := (.array .int)) (by decide) (by decide)))).other W4 (Or.inr (slot_ne (Or.inl (oW hw 206 rfl)) (Or.inl (oW hw 199 rfl)) (by decide) (t := .int) (t' := .int) (by decide) (by decide))))
  have F_journal_xt := (((F_journal_xt.ext E1).other W2 (Or.inr (slot_ne (Or.inl (oW hw 321 rfl)) (Or.inl (oW hw 197 rfl)) (by decide) (t := (.object Y17)) (t' := (.array .int)) (by decide) (by decide)))).other W4 (Or.inr (slot_ne (Or.inl (oW hw 321 rfl)) (Or.inl (oW hw 199 rfl)) (by decide) (t := (.object Y17)) (t' := .int) (by decide) (by decide))))
  have V_o1 := (V_o1.other W4 (Ne.symm ne_xt_o1))
  exact oRetV X hx hlk hret (hb hby d36_21) (by rw [e0]; exact ⟨o1, k1, rfl, K, ge_o1, E_xt, F_buffer_xt, F_gapStart_xt, F_gapEnd_xt, F_journal_xt, V_o1⟩) (by decide) (by decide)
abbrev yy42 : MethodName := ⟨"com/example/wakati/wakati/Text", "length", "()I"⟩
theorem d37_0 : decode b28_ 0 = .ok (.aload_n 0, 1) := by decide +kernel
theorem d37_1 : decode b28_ 1 = .ok (.getfield 9, 3) := by decide +kernel
theorem d37_4 : decode b28_ 4 = .ok (.arraylength, 1) := by decide +kernel
theorem d37_5 : decode b28_ 5 = .ok (.aload_n 0, 1) := by decide +kernel
theorem d37_6 : decode b28_ 6 = .ok (.getfield 13, 3) := by decide +kernel
theorem d37_9 : decode b28_ 9 = .ok (.aload_n 0, 1) := by decide +kernel
theorem d37_10 : decode b28_ 10 = .ok (.getfield 33, 3) := by decide +kernel
theorem d37_13 : decode b28_ 13 = .ok (.isub, 1) := by decide +kernel
theorem d37_14 : decode b28_ 14 = .ok (.isub, 1) := by decide +kernel
theorem d37_15 : decode b28_ 15 = .ok (.ireturn, 1) := by decide +kernel
theorem rTL (l : Launch) (Z : State) (a0 : Array Value) (hw : oHW a0 Z) (ws : List Jvm.Cond) (xt xb : Addr) (xN xg xe : Int32) (xv : List Value) (xkb : ClassId) (h0 : Heap) (O0 : Ext Z.heap h0) (E_xt : Exa Z h0 xt Y3) (F_buffer_xt : Fld Z h0 xt Y3 "buffer" "[I" (.ref xb)) (F_gapStart_xt : Fld Z h0 xt Y3 "gapStart" "I" (.int xg)) (F_gapEnd_xt : Fld Z h0 xt Y3 "gapEnd" "I" (.int xe)) (F_journal_xt : Fld Z h0 xt Y3 "journal" Y18 .null) (V_xb : Arv Z h0 xb xkb .int xN xv (.int (0 : Int32))) :
    oCon l Z yy42 b28_ 1 (some .int) ws ({ frames := 0, cells := 0, slots := 0, locals := 0 } : Room) #[(.ref xt)] h0 (oPq (some (.int (xN - (xe - xg)))) h0) := by
  refine oCon.of (plainFor_of_name pn_10) ?_
  intro p e s m below meth c T X hx hby hml hown hnm hret hlk hZ e0
  have hml : c.maxLocals = 1 := hml
  have K : oKp h0 h0 [] [] := oKp.nil _ _
  refine oWk.cast (g' := (mkF m 0 #[rv xt] [])) (by first | rfl | (simp [entryFrame, mkF, argsToLocals, Value.category]; done)) ?_
  refine oWk.st (fun _ kt => zA X hx hby d37_0 rfl rfl rfl kt) ?_
  obtain ⟨T, X, e0, st⟩ := getF X hx hZ hown (host := "") (Or.inl (oW hw 196 rfl)) Via.refl e0 F_buffer_xt (g := (mkF m 1 #[rv xt] [(.ref xt)])) rfl rfl (hb hby d37_1)
  refine oWk.st (fun _ kt => st _ (oAl X hx hZ e0 V_xb hby d37_4 rfl rfl (zA X hx hby d37_5 rfl rfl rfl kt))) ?_
  obtain ⟨T, X, e0, st⟩ := getF X hx hZ hown (host := "") (Or.inl (oW hw 198 rfl)) Via.refl e0 F_gapEnd_xt (g := (mkF m 6 #[rv xt] [(.ref xt), (.int xN)])) rfl rfl (hb hby d37_6)
  refine oWk.st (fun _ kt => st _ (zA X hx hby d37_9 rfl rfl rfl kt)) ?_
  obtain ⟨T, X, e0, st⟩ := getF X hx hZ hown (host := "") (Or.inl (oW hw 205 rfl)) Via.refl e0 F_gapStart_xt (g := (mkF m 10 #[rv xt] [(.ref xt), (.int xe), (.int xN)])) rfl rfl (hb hby d37_10)
  refine oWk.to (mkF m 15 #[rv xt] [(.int (xN - (xe - xg)))]) (fun _ kt => st _ (XS.isub X.here hx rfl (hb hby d37_13) rfl (XS.isub X.here hx rfl (hb hby d37_14) rfl kt))) ?_
  exact oRetI X hx hlk hret (hb hby d37_15) (by rw [e0]; exact ⟨rfl, rfl, K⟩) (by decide) (by decide)
def Q_rMG (Z : State) (xt xb : Addr) (xN xg xe : Int32) (xv : List Value) (xkb : ClassId) (xp : Int32) (h0 : Heap) (v : Option Value) (h : Heap) (L : List Loc) : Prop := ∃ (nge : Int32) (nv : List Value), v = none ∧ oKp h0 h [xt, xb] L ∧ (Exa Z h xt Y3) ∧ (Fld Z h xt Y3 "buffer" "[I" (.ref xb)) ∧ (Fld Z h xt Y3 "gapStart" "I" (.int xp)) ∧ (Fld Z h xt Y3 "gapEnd" "I" (.int nge)) ∧ (Fld Z h xt Y3 "journal" Y18 .null) ∧ (Arv Z h xb xkb .int xN nv (.int (0 : Int32))) ∧ (nge.toInt = xp.toInt + (xe.toInt - xg.toInt))
abbrev yy43 : MethodName := ⟨"com/example/wakati/wakati/Text", "moveGapTo", "(I)V"⟩
theorem d53_0 : decode b1_ 0 = .ok (.iload_n 1, 1) := by decide +kernel
theorem d53_1 : decode b1_ 1 = .ok (.aload_n 0, 1) := by decide +kernel
theorem d53_2 : decode b1_ 2 = .ok (.getfield 33, 3) := by decide +kernel
theorem d53_5 : decode b1_ 5 = .ok (.if_icmp .ge 47, 3) := by decide +kernel
theorem d53_8 : decode b1_ 8 = .ok (.aload_n 0, 1) := by decide +kernel
theorem d53_9 : decode b1_ 9 = .ok (.getfield 33, 3) := by decide +kernel
theorem d53_12 : decode b1_ 12 = .ok (.iload_n 1, 1) := by decide +kernel
theorem d53_13 : decode b1_ 13 = .ok (.isub, 1) := by decide +kernel
theorem d53_14 : decode b1_ 14 = .ok (.istore_n 2, 1) := by decide +kernel
theorem d53_15 : decode b1_ 15 = .ok (.aload_n 0, 1) := by decide +kernel
theorem d53_16 : decode b1_ 16 = .ok (.getfield 9, 3) := by decide +kernel
theorem d53_19 : decode b1_ 19 = .ok (.iload_n 1, 1) := by decide +kernel
theorem d53_20 : decode b1_ 20 = .ok (.aload_n 0, 1) := by decide +kernel
theorem d53_21 : decode b1_ 21 = .ok (.getfield 9, 3) := by decide +kernel
theorem d53_24 : decode b1_ 24 = .ok (.aload_n 0, 1) := by decide +kernel
theorem d53_25 : decode b1_ 25 = .ok (.getfield 13, 3) := by decide +kernel
theorem d53_28 : decode b1_ 28 = .ok (.iload_n 2, 1) := by decide +kernel
theorem d53_29 : decode b1_ 29 = .ok (.isub, 1) := by decide +kernel
theorem d53_30 : decode b1_ 30 = .ok (.iload_n 2, 1) := by decide +kernel
theorem d53_31 : decode b1_ 31 = .ok (.invokestatic 140, 3) := by decide +kernel
theorem d53_34 : decode b1_ 34 = .ok (.aload_n 0, 1) := by decide +kernel
theorem d53_35 : decode b1_ 35 = .ok (.iload_n 1, 1) := by decide +kernel
theorem d53_36 : decode b1_ 36 = .ok (.putfield 33, 3) := by decide +kernel
theorem d53_39 : decode b1_ 39 = .ok (.aload_n 0, 1) := by decide +kernel
theorem d53_40 : decode b1_ 40 = .ok (.dup, 1) := by decide +kernel
theorem d53_41 : decode b1_ 41 = .ok (.getfield 13, 3) := by decide +kernel
theorem d53_44 : decode b1_ 44 = .ok (.iload_n 2, 1) := by decide +kernel
theorem d53_45 : decode b1_ 45 = .ok (.isub, 1) := by decide +kernel
theorem d53_46 : decode b1_ 46 = .ok (.putfield 13, 3) := by decide +kernel
theorem d53_49 : decode b1_ 49 = .ok (.goto 53, 3) := by decide +kernel
theorem d53_102 : decode b1_ 102 = .ok (.return_, 1) := by decide +kernel
theorem d53_52 : decode b1_ 52 = .ok (.iload_n 1, 1) := by decide +kernel
theorem d53_53 : decode b1_ 53 = .ok (.aload_n 0, 1) := by decide +kernel
theorem d53_54 : decode b1_ 54 = .ok (.getfield 33, 3) := by decide +kernel
theorem d53_57 : decode b1_ 57 = .ok (.if_icmp .le 45, 3) := by decide +kernel
theorem d53_60 : decode b1_ 60 = .ok (.iload_n 1, 1) := by decide +kernel
theorem d53_61 : decode b1_ 61 = .ok (.aload_n 0, 1) := by decide +kernel
theorem d53_62 : decode b1_ 62 = .ok (.getfield 33, 3) := by decide +kernel
theorem d53_65 : decode b1_ 65 = .ok (.isub, 1) := by decide +kernel
theorem d53_66 : decode b1_ 66 = .ok (.istore_n 2, 1) := by decide +kernel
theorem d53_67 : decode b1_ 67 = .ok (.aload_n 0, 1) := by decide +kernel
theorem d53_68 : decode b1_ 68 = .ok (.getfield 9, 3) := by decide +kernel
theorem d53_71 : decode b1_ 71 = .ok (.aload_n 0, 1) := by decide +kernel
theorem d53_72 : decode b1_ 72 = .ok (.getfield 13, 3) := by decide +kernel
theorem d53_75 : decode b1_ 75 = .ok (.aload_n 0, 1) := by decide +kernel
theorem d53_76 : decode b1_ 76 = .ok (.getfield 9, 3) := by decide +kernel
theorem d53_79 : decode b1_ 79 = .ok (.aload_n 0, 1) := by decide +kernel
theorem d53_80 : decode b1_ 80 = .ok (.getfield 33, 3) := by decide +kernel
theorem d53_83 : decode b1_ 83 = .ok (.iload_n 2, 1) := by decide +kernel
theorem d53_84 : decode b1_ 84 = .ok (.invokestatic 140, 3) := by decide +kernel
theorem d53_87 : decode b1_ 87 = .ok (.aload_n 0, 1) := by decide +kernel
theorem d53_88 : decode b1_ 88 = .ok (.iload_n 1, 1) := by decide +kernel
theorem d53_89 : decode b1_ 89 = .ok (.putfield 33, 3) := by decide +kernel
theorem d53_92 : decode b1_ 92 = .ok (.aload_n 0, 1) := by decide +kernel
theorem d53_93 : decode b1_ 93 = .ok (.dup, 1) := by decide +kernel
theorem d53_94 : decode b1_ 94 = .ok (.getfield 13, 3) := by decide +kernel
theorem d53_97 : decode b1_ 97 = .ok (.iload_n 2, 1) := by decide +kernel
theorem d53_98 : decode b1_ 98 = .ok (.iadd, 1) := by decide +kernel
theorem d53_99 : decode b1_ 99 = .ok (.putfield 13, 3) := by decide +kernel
theorem rMG (l : Launch) (Z : State) (a0 : Array Value) (hw : oHW a0 Z) (ws : List Jvm.Cond) (xt xb : Addr) (xN xg xe : Int32) (xv : List Value) (xkb : ClassId) (xp : Int32) (h0 : Heap) (O0 : Ext Z.heap h0) (og_xt : Z.heap.size ≤ xt) (og_xb : Z.heap.size ≤ xb) (ne_xt_xb : xt ≠ xb) (ht : oHT xN xg xe) (hp : 0 ≤ xp.toInt ∧ xp.toInt + (xe.toInt - xg.toInt) ≤ xN.toInt) (E_xt : Exa Z h0 xt Y3) (F_buffer_xt : Fld Z h0 xt Y3 "buffer" "[I" (.ref xb)) (F_gapStart_xt : Fld Z h0 xt Y3 "gapStart" "I" (.int xg)) (F_gapEnd_xt : Fld Z h0 xt Y3 "gapEnd" "I" (.int xe)) (F_journal_xt : Fld Z h0 xt Y3 "journal" Y18 .null) (V_xb : Arv Z h0 xb xkb .int xN xv (.int (0 : Int32))) :
    oCon l Z yy43 b1_ 3 none ws ({ frames := 1, cells := 0, slots := 0, locals := 18 } : Room) #[(.ref xt), (.int xp)] h0 (Q_rMG Z xt xb xN xg xe xv xkb xp h0) := by
  refine oCon.of (plainFor_of_name pn_10) ?_
  intro p e s m below meth c T X hx hby hml hown hnm hret hlk hZ e0
  have hml : c.maxLocals = 3 := hml
  have K : oKp h0 h0 [xt, xb] [] := oKp.nil _ _
  refine oWk.cast (g' := (mkF m 0 #[rv xt, iv xp, uu] [])) (by first | rfl | (simp [entryFrame, mkF, argsToLocals, Value.category]; done)) ?_
  refine oWk.st (fun _ kt => zI X hx hby d53_0 rfl rfl (zA X hx hby d53_1 rfl rfl rfl kt)) ?_
  obtain ⟨T, X, e0, st⟩ := getF X hx hZ hown (host := "") (Or.inl (oW hw 205 rfl)) Via.refl e0 F_gapStart_xt (g := (mkF m 2 #[rv xt, iv xp, uu] [(.ref xt), (.int xp)])) rfl rfl (hb hby d53_2)
  refine oWk.to (mkF m 5 #[rv xt, iv xp, uu] [(.int xg), (.int xp)]) (fun _ kt => st _ kt) ?_
  by_cases hc5 : xp < xg
  · refine oWk.to (mkF m 8 #[rv xt, iv xp, uu] []) (fun _ kt => zN X hx hby d53_5 rfl rfl (tlt hc5).2.1 kt) ?_
    refine oWk.st (fun _ kt => zA X hx hby d53_8 rfl rfl rfl kt) ?_
    obtain ⟨T, X, e0, st⟩ := getF X hx hZ hown (host := "") (Or.inl (oW hw 205 rfl)) Via.refl e0 F_gapStart_xt (g := (mkF m 9 #[rv xt, iv xp, uu] [(.ref xt)])) rfl rfl (hb hby d53_9)
    refine oWk.st (fun _ kt => st _ (zI X hx hby d53_12 rfl rfl (XS.isub X.here hx rfl (hb hby d53_13) rfl (zSn X hx hby d53_14 rfl rfl (l' := #[rv xt, iv xp, iv (xg - xp)]) rfl (zA X hx hby d53_15 rfl rfl rfl kt))))) ?_
    obtain ⟨T, X, e0, st⟩ := getF X hx hZ hown (host := "") (Or.inl (oW hw 196 rfl)) Via.refl e0 F_buffer_xt (g := (mkF m 16 #[rv xt, iv xp, iv (xg - xp)] [(.ref xt)])) rfl rfl (hb hby d53_16)
    refine oWk.st (fun _ kt => st _ (zI X hx hby d53_19 rfl rfl (zA X hx hby d53_20 rfl rfl rfl kt))) ?_
    obtain ⟨T, X, e0, st⟩ := getF X hx hZ hown (host := "") (Or.inl (oW hw 196 rfl)) Via.refl e0 F_buffer_xt (g := (mkF m 21 #[rv xt, iv xp, iv (xg - xp)] [(.ref xt), (.int xp), (.ref xb)])) rfl rfl (hb hby d53_21)
    refine oWk.st (fun _ kt => st _ (zA X hx hby d53_24 rfl rfl rfl kt)) ?_
    obtain ⟨T, X, e0, st⟩ := getF X hx hZ hown (host := "") (Or.inl (oW hw 198 rfl)) Via.refl e0 F_gapEnd_xt (g := (mkF m 25 #[rv xt, iv xp, iv (xg - xp)] [(.ref xt), (.ref xb), (.int xp), (.ref xb)])) rfl rfl (hb hby d53_25)
    refine oWk.st (fun _ kt => st _ (zI X hx hby d53_28 rfl rfl (XS.isub X.here hx rfl (hb hby d53_29) rfl (zI X hx hby d53_30 rfl rfl kt)))) ?_
    obtain ⟨T, h, L1, xv1, X, e0, K, C1, V1, st⟩ := oCp X hx hZ hown (oW hw 353 rfl) (oW hw 356 rfl) (oW hw 354 rfl) (oW hw 355 rfl) e0 V_xb V_xb rfl (ar5 ht hp hc5) K (Or.inl (List.mem_of_getElem? (i := 1) rfl)) (g := (mkF m 31 #[rv xt, iv xp, iv (xg - xp)] [(.int (xg - xp)), (.int (xe - (xg - xp))), (.ref xb), (.int xp), (.ref xb)])) rfl (by rw [hml]; rfl) rfl (hb hby d53_31) (by decide) (W := 0) (Nat.le_of_eq rfl) (by decide)
    have V_xb := V1
    refine oWk.st (fun _ kt => st _ (zA X hx hby d53_34 rfl rfl rfl (zI X hx hby d53_35 rfl rfl kt))) ?_
    have E_xt := (E_xt.keep C1)
    have F_gapStart_xt := (F_gapStart_xt.keep C1 (ninS ne_xt_xb nin0))
    obtain ⟨T, h, X, e0, W2, st⟩ := putF X hx hZ hown (host := "") (Or.inl (oW hw 205 rfl)) Via.refl e0 F_gapStart_xt E_xt (Or.inl (oW hw 206 rfl)) (oW hw 189 rfl) (ty := .int) (by decide) rfl rfl (g := (mkF m 36 #[rv xt, iv xp, iv (xg - xp)] [(.int xp), (.ref xt)])) rfl rfl (hb hby d53_36)
    have K := K.wr W2 (Or.inl (List.mem_of_getElem? (i := 0) rfl))
    have F_gapStart_xt := F_gapStart_xt.same W2
    refine oWk.st (fun _ kt => st _ (zA X hx hby d53_39 rfl rfl rfl (zD X hx hby d53_40 rfl rfl rfl kt))) ?_
    have F_gapEnd_xt := ((F_gapEnd_xt.keep C1 (ninS ne_xt_xb nin0)).other W2 (Or.inr (slot_ne (Or.inl (oW hw 199 rfl)) (Or.inl (oW hw 206 rfl)) (by decide) (t := .int) (t' := .int) (by decide) (by decide))))
    obtain ⟨T, X, e0, st⟩ := getF X hx hZ hown (host := "") (Or.inl (oW hw 198 rfl)) Via.refl e0 F_gapEnd_xt (g := (mkF m 41 #[rv xt, iv xp, iv (xg - xp)] [(.ref xt), (.ref xt)])) rfl rfl (hb hby d53_41)
    refine oWk.st (fun _ kt => st _ (zI X hx hby d53_44 rfl rfl (XS.isub X.here hx rfl (hb hby d53_45) rfl kt))) ?_
    have E_xt := (E_xt.wr W2)
    obtain ⟨T, h, X, e0, W3, st⟩ := putF X hx hZ hown (host := "") (Or.inl (oW hw 198 rfl)) Via.refl e0 F_gapEnd_xt E_xt (Or.inl (oW hw 199 rfl)) (oW hw 189 rfl) (ty := .int) (by decide) rfl rfl (g := (mkF m 46 #[rv xt, iv xp, iv (xg - xp)] [(.int (xe - (xg - xp))), (.ref xt)])) rfl rfl (hb hby d53_46)
    have K := K.wr W3 (Or.inl (List.mem_of_getElem? (i := 0) rfl))
    have F_gapEnd_xt := F_gapEnd_xt.same W3
    refine oWk.to (mkF m 102 #[rv xt, iv xp, iv (xg - xp)] []) (fun _ kt => st _ (zG X hx hby d53_49 rfl (pc' := 102) rfl kt)) ?_
    have E_xt := (E_xt.wr W3)
    have F_buffer_xt := (((F_buffer_xt.keep C1 (ninS ne_xt_xb nin0)).other W2 (Or.inr (slot_ne (Or.inl (oW hw 197 rfl)) (Or.inl (oW hw 206 rfl)) (by decide) (t := (.array .int)) (t' := .int) (by decide) (by decide)))).other W3 (Or.inr (slot_ne (Or.inl (oW hw 197 rfl)) (Or.inl (oW hw 199 rfl)) (by decide) (t := (.array .int)) (t' := .int) (by decide) (by decide))))
    have F_gapStart_xt := (F_gapStart_xt.other W3 (Or.inr (slot_ne (Or.inl (oW hw 206 rfl)) (Or.inl (oW hw 199 rfl)) (by decide) (t := .int) (t' := .int) (by decide) (by decide))))
    have F_journal_xt := (((F_journal_xt.keep C1 (ninS ne_xt_xb nin0)).other W2 (Or.inr (slot_ne (Or.inl (oW hw 321 rfl)) (Or.inl (oW hw 206 rfl)) (by decide) (t := (.object Y17)) (t' := .int) (by decide) (by decide)))).other W3 (Or.inr (slot_ne (Or.inl (oW hw 321 rfl)) (Or.inl (oW hw 199 rfl)) (by decide) (t := (.object Y17)) (t' := .int) (by decide) (by decide))))
    have V_xb := ((V_xb.other W2 (Ne.symm ne_xt_xb)).other W3 (Ne.symm ne_xt_xb))
    exact oRetV X hx hlk hret (hb hby d53_102) (by rw [e0]; exact ⟨(xe - (xg - xp)), xv1, rfl, K, E_xt, F_buffer_xt, F_gapStart_xt, F_gapEnd_xt, F_journal_xt, V_xb, ((ar6 ht hp hc5))⟩) (by decide) (by decide)
  · refine oWk.to (mkF m 52 #[rv xt, iv xp, uu] []) (fun _ kt => zY X hx hby d53_5 rfl rfl (flt hc5).2.1 (pc' := 52) rfl kt) ?_
    refine oWk.st (fun _ kt => zI X hx hby d53_52 rfl rfl (zA X hx hby d53_53 rfl rfl rfl kt)) ?_
    obtain ⟨T, X, e0, st⟩ := getF X hx hZ hown (host := "") (Or.inl (oW hw 205 rfl)) Via.refl e0 F_gapStart_xt (g := (mkF m 54 #[rv xt, iv xp, uu] [(.ref xt), (.int xp)])) rfl rfl (hb hby d53_54)
    refine oWk.to (mkF m 57 #[rv xt, iv xp, uu] [(.int xg), (.int xp)]) (fun _ kt => st _ kt) ?_
    by_cases hc57 : xg < xp
    · refine oWk.to (mkF m 60 #[rv xt, iv xp, uu] []) (fun _ kt => zN X hx hby d53_57 rfl rfl (tlt hc57).2.2.2 kt) ?_
      refine oWk.st (fun _ kt => zI X hx hby d53_60 rfl rfl (zA X hx hby d53_61 rfl rfl rfl kt)) ?_
      obtain ⟨T, X, e0, st⟩ := getF X hx hZ hown (host := "") (Or.inl (oW hw 205 rfl)) Via.refl e0 F_gapStart_xt (g := (mkF m 62 #[rv xt, iv xp, uu] [(.ref xt), (.int xp)])) rfl rfl (hb hby d53_62)
      refine oWk.st (fun _ kt => st _ (XS.isub X.here hx rfl (hb hby d53_65) rfl (zSn X hx hby d53_66 rfl rfl (l' := #[rv xt, iv xp, iv (xp - xg)]) rfl (zA X hx hby d53_67 rfl rfl rfl kt)))) ?_
      obtain ⟨T, X, e0, st⟩ := getF X hx hZ hown (host := "") (Or.inl (oW hw 196 rfl)) Via.refl e0 F_buffer_xt (g := (mkF m 68 #[rv xt, iv xp, iv (xp - xg)] [(.ref xt)])) rfl rfl (hb hby d53_68)
      refine oWk.st (fun _ kt => st _ (zA X hx hby d53_71 rfl rfl rfl kt)) ?_
      obtain ⟨T, X, e0, st⟩ := getF X hx hZ hown (host := "") (Or.inl (oW hw 198 rfl)) Via.refl e0 F_gapEnd_xt (g := (mkF m 72 #[rv xt, iv xp, iv (xp - xg)] [(.ref xt), (.ref xb)])) rfl rfl (hb hby d53_72)
      refine oWk.st (fun _ kt => st _ (zA X hx hby d53_75 rfl rfl rfl kt)) ?_
      obtain ⟨T, X, e0, st⟩ := getF X hx hZ hown (host := "") (Or.inl (oW hw 196 rfl)) Via.refl e0 F_buffer_xt (g := (mkF m 76 #[rv xt, iv xp, iv (xp - xg)] [(.ref xt), (.int xe), (.ref xb)])) rfl rfl (hb hby d53_76)
      refine oWk.st (fun _ kt => st _ (zA X hx hby d53_79 rfl rfl rfl kt)) ?_
      obtain ⟨T, X, e0, st⟩ := getF X hx hZ hown (host := "") (Or.inl (oW hw 205 rfl)) Via.refl e0 F_gapStart_xt (g := (mkF m 80 #[rv xt, iv xp, iv (xp - xg)] [(.ref xt), (.ref xb), (.int xe), (.ref xb)])) rfl rfl (hb hby d53_80)
      refine oWk.st (fun _ kt => st _ (zI X hx hby d53_83 rfl rfl kt)) ?_
      obtain ⟨T, h, L4, xv4, X, e0, K, C4, V4, st⟩ := oCp X hx hZ hown (oW hw 353 rfl) (oW hw 356 rfl) (oW hw 354 rfl) (oW hw 355 rfl) e0 V_xb V_xb rfl (ar7 ht hp hc5 hc57) K (Or.inl (List.mem_of_getElem? (i := 1) rfl)) (g := (mkF m 84 #[rv xt, iv xp, iv (xp - xg)] [(.int (xp - xg)), (.int xg), (.ref xb), (.int xe), (.ref xb)])) rfl (by rw [hml]; rfl) rfl (hb hby d53_84) (by decide) (W := 0) (Nat.le_of_eq rfl) (by decide)
      have V_xb := V4
      refine oWk.st (fun _ kt => st _ (zA X hx hby d53_87 rfl rfl rfl (zI X hx hby d53_88 rfl rfl kt))) ?_
      have E_xt := (E_xt.keep C4)
      have F_gapStart_xt := (F_gapStart_xt.keep C4 (ninS ne_xt_xb nin0))
      obtain ⟨T, h, X, e0, W5, st⟩ := putF X hx hZ hown (host := "") (Or.inl (oW hw 205 rfl)) Via.refl e0 F_gapStart_xt E_xt (Or.inl (oW hw 206 rfl)) (oW hw 189 rfl) (ty := .int) (by decide) rfl rfl (g := (mkF m 89 #[rv xt, iv xp, iv (xp - xg)] [(.int xp), (.ref xt)])) rfl rfl (hb hby d53_89)
      have K := K.wr W5 (Or.inl (List.mem_of_getElem? (i := 0) rfl))
      have F_gapStart_xt := F_gapStart_xt.same W5
      refine oWk.st (fun _ kt => st _ (zA X hx hby d53_92 rfl rfl rfl (zD X hx hby d53_93 rfl rfl rfl kt))) ?_
      have F_gapEnd_xt := ((F_gapEnd_xt.keep C4 (ninS ne_xt_xb nin0)).other W5 (Or.inr (slot_ne (Or.inl (oW hw 199 rfl)) (Or.inl (oW hw 206 rfl)) (by decide) (t := .int) (t' := .int) (by decide) (by decide))))
      obtain ⟨T, X, e0, st⟩ := getF X hx hZ hown (host := "") (Or.inl (oW hw 198 rfl)) Via.refl e0 F_gapEnd_xt (g := (mkF m 94 #[rv xt, iv xp, iv (xp - xg)] [(.ref xt), (.ref xt)])) rfl rfl (hb hby d53_94)
      refine oWk.st (fun _ kt => st _ (zI X hx hby d53_97 rfl rfl (XS.iadd X.here hx rfl (hb hby d53_98) rfl kt))) ?_
      have E_xt := (E_xt.wr W5)
      obtain ⟨T, h, X, e0, W6, st⟩ := putF X hx hZ hown (host := "") (Or.inl (oW hw 198 rfl)) Via.refl e0 F_gapEnd_xt E_xt (Or.inl (oW hw 199 rfl)) (oW hw 189 rfl) (ty := .int) (by decide) rfl rfl (g := (mkF m 99 #[rv xt, iv xp, iv (xp - xg)] [(.int (xe + (xp - xg))), (.ref xt)])) rfl rfl (hb hby d53_99)
      have K := K.wr W6 (Or.inl (List.mem_of_getElem? (i := 0) rfl))
      have F_gapEnd_xt := F_gapEnd_xt.same W6
      refine oWk.to (mkF m 102 #[rv xt, iv xp, iv (xp - xg)] []) (fun _ kt => st _ kt) ?_
      have E_xt := (E_xt.wr W6)
      have F_buffer_xt := (((F_buffer_xt.keep C4 (ninS ne_xt_xb nin0)).other W5 (Or.inr (slot_ne (Or.inl (oW hw 197 rfl)) (Or.inl (oW hw 206 rfl)) (by decide) (t := (.array .int)) (t' := .int) (by decide) (by decide)))).other W6 (Or.inr (slot_ne (Or.inl (oW hw 197 rfl)) (Or.inl (oW hw 199 rfl)) (by decide) (t := (.array .int)) (t' := .int) (by decide) (by decide))))
      have F_gapStart_xt := (F_gapStart_xt.other W6 (Or.inr (slot_ne (Or.inl (oW hw 206 rfl)) (Or.inl (oW hw 199 rfl)) (by decide) (t := .int) (t' := .int) (by decide) (by decide))))
      have F_journal_xt := (((F_journal_xt.keep C4 (ninS ne_xt_xb nin0)).other W5 (Or.inr (slot_ne (Or.inl (oW hw 321 rfl)) (Or.inl (oW hw 206 rfl)) (by decide) (t := (.object Y17)) (t' := .int) (by decide) (by decide)))).other W6 (Or.inr (slot_ne (Or.inl (oW hw 321 rfl)) (Or.inl (oW hw 199 rfl)) (by decide) (t := (.object Y17)) (t' := .int) (by decide) (by decide))))
      have V_xb := ((V_xb.other W5 (Ne.symm ne_xt_xb)).other W6 (Ne.symm ne_xt_xb))
      exact oRetV X hx hlk hret (hb hby d53_102) (by rw [e0]; exact ⟨(xe + (xp - xg)), xv4, rfl, K, E_xt, F_buffer_xt, F_gapStart_xt, F_gapEnd_xt, F_journal_xt, V_xb, ((ar8 ht hp hc5 hc57))⟩) (by decide) (by decide)
    · refine oWk.to (mkF m 102 #[rv xt, iv xp, uu] []) (fun _ kt => zY X hx hby d53_57 rfl rfl (flt hc57).2.2.2 (pc' := 102) rfl kt) ?_
      have eg : xg = xp := (ar9 ht hp hc5 hc57)
      replace F_gapStart_xt : Fld Z h0 xt Y3 "gapStart" "I" (.int xp) := by rw [← eg]; exact F_gapStart_xt
      exact oRetV X hx hlk hret (hb hby d53_102) (by rw [e0]; exact ⟨xe, xv, rfl, K, E_xt, F_buffer_xt, F_gapStart_xt, F_gapEnd_xt, F_journal_xt, V_xb, ((ar10 ht hp hc5 hc57))⟩) (by decide) (by decide)
abbrev yy44 : MethodName := ⟨"java/lang/Math", "max", "(II)I"⟩
theorem d35_0 : decode b36_ 0 = .ok (.iload_n 0, 1) := by decide +kernel
theorem d35_1 : decode b36_ 1 = .ok (.iload_n 1, 1) := by decide +kernel
theorem d35_2 : decode b36_ 2 = .ok (.if_icmp .lt 7, 3) := by decide +kernel
theorem d35_9 : decode b36_ 9 = .ok (.iload_n 1, 1) := by decide +kernel
theorem d35_10 : decode b36_ 10 = .ok (.ireturn, 1) := by decide +kernel
theorem d35_5 : decode b36_ 5 = .ok (.iload_n 0, 1) := by decide +kernel
theorem d35_6 : decode b36_ 6 = .ok (.goto 4, 3) := by decide +kernel
theorem rMx (l : Launch) (Z : State) (a0 : Array Value) (hw : oHW a0 Z) (ws : List Jvm.Cond) (xi xj : Int32) (h0 : Heap) (O0 : Ext Z.heap h0) (hle : xi.toInt ≤ xj.toInt) :
    oCon l Z yy44 b36_ 2 (some .int) ws ({ frames := 0, cells := 0, slots := 0, locals := 0 } : Room) #[(.int xi), (.int xj)] h0 (oPq (some (.int xj)) h0) := by
  refine oCon.of (Jvm.Free.JP.mathPlain rfl (by decide +kernel)) ?_
  intro p e s m below meth c T X hx hby hml hown hnm hret hlk hZ e0
  have hml : c.maxLocals = 2 := hml
  have K : oKp h0 h0 [] [] := oKp.nil _ _
  refine oWk.cast (g' := (mkF m 0 #[iv xi, iv xj] [])) (by first | rfl | (simp [entryFrame, mkF, argsToLocals, Value.category]; done)) ?_
  refine oWk.to (mkF m 2 #[iv xi, iv xj] [(.int xj), (.int xi)]) (fun _ kt => zI X hx hby d35_0 rfl rfl (zI X hx hby d35_1 rfl rfl kt)) ?_
  by_cases hc2 : xi < xj
  · refine oWk.to (mkF m 9 #[iv xi, iv xj] []) (fun _ kt => zY X hx hby d35_2 rfl rfl (tlt hc2).1 (pc' := 9) rfl kt) ?_
    refine oWk.to (mkF m 10 #[iv xi, iv xj] [(.int xj)]) (fun _ kt => zI X hx hby d35_9 rfl rfl kt) ?_
    exact oRetI X hx hlk hret (hb hby d35_10) (by rw [e0]; exact ⟨rfl, rfl, K⟩) (by decide) (by decide)
  · refine oWk.to (mkF m 5 #[iv xi, iv xj] []) (fun _ kt => zN X hx hby d35_2 rfl rfl (flt hc2).1 kt) ?_
    refine oWk.to (mkF m 10 #[iv xi, iv xj] [(.int xi)]) (fun _ kt => zI X hx hby d35_5 rfl rfl (zG X hx hby d35_6 rfl (pc' := 10) rfl kt)) ?_
    exact oRetI X hx hlk hret (hb hby d35_10) (by rw [e0]; exact ⟨(congrArg (fun z => some (Value.int z)) (oMaxEq hle hc2)), rfl, K⟩) (by decide) (by decide)
def Q_rGW (Z : State) (xt xb : Addr) (xN xg xe : Int32) (xv : List Value) (xkb : ClassId) (xn : Int32) (h0 : Heap) (v : Option Value) (h : Heap) (L : List Loc) : Prop := ∃ (nb : Addr) (nN : Int32) (nge : Int32) (nv : List Value) (nk : ClassId), v = none ∧ oKp h0 h [xt] L ∧ (h0.size ≤ nb) ∧ (Exa Z h xt Y3) ∧ (Fld Z h xt Y3 "buffer" "[I" (.ref nb)) ∧ (Fld Z h xt Y3 "gapStart" "I" (.int xg)) ∧ (Fld Z h xt Y3 "gapEnd" "I" (.int nge)) ∧ (Fld Z h xt Y3 "journal" Y18 .null) ∧ (Arv Z h nb nk .int nN nv (.int (0 : Int32))) ∧ (oNN xN nN) ∧ (nge.toInt = nN.toInt - (xN.toInt - xe.toInt))
abbrev yy45 : MethodName := ⟨"com/example/wakati/wakati/Text", "grow", "(I)V"⟩
theorem d71_0 : decode b2_ 0 = .ok (.iload_n 1, 1) := by decide +kernel
theorem d71_1 : decode b2_ 1 = .ok (.aload_n 0, 1) := by decide +kernel
theorem d71_2 : decode b2_ 2 = .ok (.getfield 9, 3) := by decide +kernel
theorem d71_5 : decode b2_ 5 = .ok (.arraylength, 1) := by decide +kernel
theorem d71_6 : decode b2_ 6 = .ok (.iconst 2, 1) := by decide +kernel
theorem d71_7 : decode b2_ 7 = .ok (.imul, 1) := by decide +kernel
theorem d71_8 : decode b2_ 8 = .ok (.invokestatic 146, 3) := by decide +kernel
theorem cs36 {a0 : Array Value} {Z : State} (hw : oHW a0 Z) : oCall Z Y3 (.invokestatic 146) yy44 b36_ 2 (some .int) (oRs 2) := oCall.stat (oW hw 394 rfl) (oW hw 182 rfl) (oW hw 183 rfl) (oW hw 184 rfl) (by decide) pd_18
theorem d71_11 : decode b2_ 11 = .ok (.newarray .int, 2) := by decide +kernel
theorem d71_13 : decode b2_ 13 = .ok (.astore_n 2, 1) := by decide +kernel
theorem d71_14 : decode b2_ 14 = .ok (.aload_n 0, 1) := by decide +kernel
theorem d71_15 : decode b2_ 15 = .ok (.getfield 9, 3) := by decide +kernel
theorem d71_18 : decode b2_ 18 = .ok (.arraylength, 1) := by decide +kernel
theorem d71_19 : decode b2_ 19 = .ok (.aload_n 0, 1) := by decide +kernel
theorem d71_20 : decode b2_ 20 = .ok (.getfield 13, 3) := by decide +kernel
theorem d71_23 : decode b2_ 23 = .ok (.isub, 1) := by decide +kernel
theorem d71_24 : decode b2_ 24 = .ok (.istore_n 3, 1) := by decide +kernel
theorem d71_25 : decode b2_ 25 = .ok (.aload_n 0, 1) := by decide +kernel
theorem d71_26 : decode b2_ 26 = .ok (.getfield 9, 3) := by decide +kernel
theorem d71_29 : decode b2_ 29 = .ok (.iconst 0, 1) := by decide +kernel
theorem d71_30 : decode b2_ 30 = .ok (.aload_n 2, 1) := by decide +kernel
theorem d71_31 : decode b2_ 31 = .ok (.iconst 0, 1) := by decide +kernel
theorem d71_32 : decode b2_ 32 = .ok (.aload_n 0, 1) := by decide +kernel
theorem d71_33 : decode b2_ 33 = .ok (.getfield 33, 3) := by decide +kernel
theorem d71_36 : decode b2_ 36 = .ok (.invokestatic 140, 3) := by decide +kernel
theorem d71_39 : decode b2_ 39 = .ok (.aload_n 0, 1) := by decide +kernel
theorem d71_40 : decode b2_ 40 = .ok (.getfield 9, 3) := by decide +kernel
theorem d71_43 : decode b2_ 43 = .ok (.aload_n 0, 1) := by decide +kernel
theorem d71_44 : decode b2_ 44 = .ok (.getfield 13, 3) := by decide +kernel
theorem d71_47 : decode b2_ 47 = .ok (.aload_n 2, 1) := by decide +kernel
theorem d71_48 : decode b2_ 48 = .ok (.aload_n 2, 1) := by decide +kernel
theorem d71_49 : decode b2_ 49 = .ok (.arraylength, 1) := by decide +kernel
theorem d71_50 : decode b2_ 50 = .ok (.iload_n 3, 1) := by decide +kernel
theorem d71_51 : decode b2_ 51 = .ok (.isub, 1) := by decide +kernel
theorem d71_52 : decode b2_ 52 = .ok (.iload_n 3, 1) := by decide +kernel
theorem d71_53 : decode b2_ 53 = .ok (.invokestatic 140, 3) := by decide +kernel
theorem d71_56 : decode b2_ 56 = .ok (.aload_n 0, 1) := by decide +kernel
theorem d71_57 : decode b2_ 57 = .ok (.aload_n 2, 1) := by decide +kernel
theorem d71_58 : decode b2_ 58 = .ok (.putfield 9, 3) := by decide +kernel
theorem d71_61 : decode b2_ 61 = .ok (.aload_n 0, 1) := by decide +kernel
theorem d71_62 : decode b2_ 62 = .ok (.aload_n 2, 1) := by decide +kernel
theorem d71_63 : decode b2_ 63 = .ok (.arraylength, 1) := by decide +kernel
theorem d71_64 : decode b2_ 64 = .ok (.iload_n 3, 1) := by decide +kernel
theorem d71_65 : decode b2_ 65 = .ok (.isub, 1) := by decide +kernel
theorem d71_66 : decode b2_ 66 = .ok (.putfield 13, 3) := by decide +kernel
theorem d71_69 : decode b2_ 69 = .ok (.return_, 1) := by decide +kernel
theorem rGW (l : Launch) (Z : State) (a0 : Array Value) (hw : oHW a0 Z) (ws : List Jvm.Cond) (xt xb : Addr) (xN xg xe : Int32) (xv : List Value) (xkb : ClassId) (xn : Int32) (h0 : Heap) (O0 : Ext Z.heap h0) (og_xt : Z.heap.size ≤ xt) (ne_xt_xb : xt ≠ xb) (hN : xN = (16 : Int32) ∨ xN = (32 : Int32) ∨ xN = (64 : Int32)) (ht : oHT xN xg xe) (hneed : xn.toInt ≤ xN.toInt + xN.toInt) (E_xt : Exa Z h0 xt Y3) (F_buffer_xt : Fld Z h0 xt Y3 "buffer" "[I" (.ref xb)) (F_gapStart_xt : Fld Z h0 xt Y3 "gapStart" "I" (.int xg)) (F_gapEnd_xt : Fld Z h0 xt Y3 "gapEnd" "I" (.int xe)) (F_journal_xt : Fld Z h0 xt Y3 "journal" Y18 .null) (V_xb : Arv Z h0 xb xkb .int xN xv (.int (0 : Int32))) :
    oCon l Z yy45 b2_ 4 none ws ({ frames := 1, cells := 1, slots := 128, locals := 18 } : Room) #[(.ref xt), (.int xn)] h0 (Q_rGW Z xt xb xN xg xe xv xkb xn h0) := by
  refine oCon.of (plainFor_of_name pn_10) ?_
  intro p e s m below meth c T X hx hby hml hown hnm hret hlk hZ e0
  have hml : c.maxLocals = 4 := hml
  have K : oKp h0 h0 [xt] [] := oKp.nil _ _
  refine oWk.cast (g' := (mkF m 0 #[rv xt, iv xn, uu, uu] [])) (by first | rfl | (simp [entryFrame, mkF, argsToLocals, Value.category]; done)) ?_
  rcases hN with rfl | rfl | rfl
  · show oWk _ _ _ _ T (mkF m 0 #[rv xt, iv xn, uu, uu] [])
    refine oWk.st (fun _ kt => zI X hx hby d71_0 rfl rfl (zA X hx hby d71_1 rfl rfl rfl kt)) ?_
    obtain ⟨T, X, e0, st⟩ := getF X hx hZ hown (host := "") (Or.inl (oW hw 196 rfl)) Via.refl e0 F_buffer_xt (g := (mkF m 2 #[rv xt, iv xn, uu, uu] [(.ref xt), (.int xn)])) rfl rfl (hb hby d71_2)
    refine oWk.st (fun _ kt => st _ (oAl X hx hZ e0 V_xb hby d71_5 rfl rfl (zK X hx hby d71_6 rfl (XS.imul X.here hx rfl (hb hby d71_7) rfl kt)))) ?_
    have Oh := K.old O0 (allS og_xt all0)
    obtain ⟨T, L3, X, e0, K, st⟩ := (cs36 hw).pure X hx hZ hown e0 K (A := [(.int xn), (.int (32 : Int32))]) rfl (rMx l Z a0 hw [] xn (32 : Int32) h0 Oh (ar11 ht hneed)) (W := 0) (by decide) hml (Ls := #[rv xt, iv xn, uu, uu]) rfl (rest := []) rfl rfl hby d71_8
    refine oWk.st (fun _ kt => st _ kt) ?_
    obtain ⟨nb, g4⟩ : ∃ z, z = h0.size := ⟨_, rfl⟩
    have ne_xt_nb : xt ≠ nb := Nat.ne_of_lt (Nat.lt_of_lt_of_le E_xt.lt (Nat.le_of_eq g4.symm))
    have ne_xb_nb : xb ≠ nb := Nat.ne_of_lt (Nat.lt_of_lt_of_le V_xb.lt (Nat.le_of_eq g4.symm))
    have ge_nb : h0.size ≤ nb := Nat.le_trans K.le (Nat.le_of_eq g4.symm)
    obtain ⟨T, h, k4, X, e0, E4, A4, st⟩ := newP X hx hZ (oW hw 195 rfl) e0 (g := (mkF m 11 #[rv xt, iv xn, uu, uu] [(.int 32)])) rfl (hb hby d71_11) rfl (by decide) (cap := 32) (by decide) (by decide) (by decide) (by decide)
    rw [← g4] at A4 st
    have K := K.ext E4
    have V_nb : Arv Z h nb k4 .int (32 : Int32) [] (.int (0 : Int32)) := Arv.new A4 (by decide)
    refine oWk.st (fun _ kt => st _ (zTn X hx hby d71_13 rfl rfl rfl (l' := #[rv xt, iv xn, rv nb, uu]) rfl (zA X hx hby d71_14 rfl rfl rfl kt))) ?_
    have F_buffer_xt := (F_buffer_xt.ext E4)
    obtain ⟨T, X, e0, st⟩ := getF X hx hZ hown (host := "") (Or.inl (oW hw 196 rfl)) Via.refl e0 F_buffer_xt (g := (mkF m 15 #[rv xt, iv xn, rv nb, uu] [(.ref xt)])) rfl rfl (hb hby d71_15)
    refine oWk.st (fun _ kt => st _ kt) ?_
    have V_xb := (V_xb.ext E4)
    refine oWk.st (fun _ kt => oAl X hx hZ e0 V_xb hby d71_18 rfl rfl (zA X hx hby d71_19 rfl rfl rfl kt)) ?_
    have F_gapEnd_xt := (F_gapEnd_xt.ext E4)
    obtain ⟨T, X, e0, st⟩ := getF X hx hZ hown (host := "") (Or.inl (oW hw 198 rfl)) Via.refl e0 F_gapEnd_xt (g := (mkF m 20 #[rv xt, iv xn, rv nb, uu] [(.ref xt), (.int 16)])) rfl rfl (hb hby d71_20)
    refine oWk.st (fun _ kt => st _ (XS.isub X.here hx rfl (hb hby d71_23) rfl (zSn X hx hby d71_24 rfl rfl (l' := #[rv xt, iv xn, rv nb, iv ((16 : Int32) - xe)]) rfl (zA X hx hby d71_25 rfl rfl rfl kt)))) ?_
    obtain ⟨T, X, e0, st⟩ := getF X hx hZ hown (host := "") (Or.inl (oW hw 196 rfl)) Via.refl e0 F_buffer_xt (g := (mkF m 26 #[rv xt, iv xn, rv nb, iv ((16 : Int32) - xe)] [(.ref xt)])) rfl rfl (hb hby d71_26)
    refine oWk.st (fun _ kt => st _ (zK X hx hby d71_29 rfl (zA X hx hby d71_30 rfl rfl rfl (zK X hx hby d71_31 rfl (zA X hx hby d71_32 rfl rfl rfl kt))))) ?_
    have F_gapStart_xt := (F_gapStart_xt.ext E4)
    obtain ⟨T, X, e0, st⟩ := getF X hx hZ hown (host := "") (Or.inl (oW hw 205 rfl)) Via.refl e0 F_gapStart_xt (g := (mkF m 33 #[rv xt, iv xn, rv nb, iv ((16 : Int32) - xe)] [(.ref xt), (.int 0), (.ref nb), (.int 0), (.ref xb)])) rfl rfl (hb hby d71_33)
    refine oWk.st (fun _ kt => st _ kt) ?_
    obtain ⟨T, h, L6, xv6, X, e0, K, C6, V6, st⟩ := oCp X hx hZ hown (oW hw 353 rfl) (oW hw 356 rfl) (oW hw 354 rfl) (oW hw 355 rfl) e0 V_xb V_nb rfl (ar12 ht hneed) K (Or.inr ge_nb) (g := (mkF m 36 #[rv xt, iv xn, rv nb, iv ((16 : Int32) - xe)] [(.int xg), (.int 0), (.ref nb), (.int 0), (.ref xb)])) rfl (by rw [hml]; rfl) rfl (hb hby d71_36) (by decide) (W := 0) (Nat.le_of_eq rfl) (by decide)
    have V_nb := V6
    refine oWk.st (fun _ kt => st _ (zA X hx hby d71_39 rfl rfl rfl kt)) ?_
    have F_buffer_xt := (F_buffer_xt.keep C6 (ninS ne_xt_nb nin0))
    obtain ⟨T, X, e0, st⟩ := getF X hx hZ hown (host := "") (Or.inl (oW hw 196 rfl)) Via.refl e0 F_buffer_xt (g := (mkF m 40 #[rv xt, iv xn, rv nb, iv ((16 : Int32) - xe)] [(.ref xt)])) rfl rfl (hb hby d71_40)
    refine oWk.st (fun _ kt => st _ (zA X hx hby d71_43 rfl rfl rfl kt)) ?_
    have F_gapEnd_xt := (F_gapEnd_xt.keep C6 (ninS ne_xt_nb nin0))
    obtain ⟨T, X, e0, st⟩ := getF X hx hZ hown (host := "") (Or.inl (oW hw 198 rfl)) Via.refl e0 F_gapEnd_xt (g := (mkF m 44 #[rv xt, iv xn, rv nb, iv ((16 : Int32) - xe)] [(.ref xt), (.ref xb)])) rfl rfl (hb hby d71_44)
    refine oWk.to (mkF m 53 #[rv xt, iv xn, rv nb, iv ((16 : Int32) - xe)] [(.int ((16 : Int32) - xe)), (.int ((32 : Int32) - ((16 : Int32) - xe))), (.ref nb), (.int xe), (.ref xb)]) (fun _ kt => st _ (zA X hx hby d71_47 rfl rfl rfl (zA X hx hby d71_48 rfl rfl rfl (oAl X hx hZ e0 V_nb hby d71_49 rfl rfl (zI X hx hby d71_50 rfl rfl (XS.isub X.here hx rfl (hb hby d71_51) rfl (zI X hx hby d71_52 rfl rfl kt))))))) ?_
    have V_xb := (V_xb.keep C6 (ninS ne_xb_nb nin0))
    obtain ⟨T, h, L8, xv8, X, e0, K, C8, V8, st⟩ := oCp X hx hZ hown (oW hw 353 rfl) (oW hw 356 rfl) (oW hw 354 rfl) (oW hw 355 rfl) e0 V_xb V_nb rfl (ar13 ht hneed) K (Or.inr ge_nb) (g := (mkF m 53 #[rv xt, iv xn, rv nb, iv ((16 : Int32) - xe)] [(.int ((16 : Int32) - xe)), (.int ((32 : Int32) - ((16 : Int32) - xe))), (.ref nb), (.int xe), (.ref xb)])) rfl (by rw [hml]; rfl) rfl (hb hby d71_53) (by decide) (W := 0) (Nat.le_of_eq rfl) (by decide)
    have V_nb := V8
    refine oWk.st (fun _ kt => st _ (zA X hx hby d71_56 rfl rfl rfl (zA X hx hby d71_57 rfl rfl rfl kt))) ?_
    have E_xt := (((E_xt.ext E4).keep C6).keep C8)
    have F_buffer_xt := (F_buffer_xt.keep C8 (ninS ne_xt_nb nin0))
    obtain ⟨T, h, X, e0, W9, st⟩ := putF X hx hZ hown (host := "") (Or.inl (oW hw 196 rfl)) Via.refl e0 F_buffer_xt E_xt (Or.inl (oW hw 197 rfl)) (oW hw 189 rfl) (ty := (.array .int)) (by decide) rfl rfl (g := (mkF m 58 #[rv xt, iv xn, rv nb, iv ((16 : Int32) - xe)] [(.ref nb), (.ref xt)])) rfl rfl (hb hby d71_58)
    have K := K.wr W9 (Or.inl (List.mem_of_getElem? (i := 0) rfl))
    have F_buffer_xt := F_buffer_xt.same W9
    refine oWk.st (fun _ kt => st _ (zA X hx hby d71_61 rfl rfl rfl (zA X hx hby d71_62 rfl rfl rfl kt))) ?_
    have V_nb := (V_nb.other W9 (Ne.symm ne_xt_nb))
    refine oWk.st (fun _ kt => oAl X hx hZ e0 V_nb hby d71_63 rfl rfl (zI X hx hby d71_64 rfl rfl (XS.isub X.here hx rfl (hb hby d71_65) rfl kt))) ?_
    have E_xt := (E_xt.wr W9)
    have F_gapEnd_xt := ((F_gapEnd_xt.keep C8 (ninS ne_xt_nb nin0)).other W9 (Or.inr (slot_ne (Or.inl (oW hw 199 rfl)) (Or.inl (oW hw 197 rfl)) (by decide) (t := .int) (t' := (.array .int)) (by decide) (by decide))))
    obtain ⟨T, h, X, e0, W11, st⟩ := putF X hx hZ hown (host := "") (Or.inl (oW hw 198 rfl)) Via.refl e0 F_gapEnd_xt E_xt (Or.inl (oW hw 199 rfl)) (oW hw 189 rfl) (ty := .int) (by decide) rfl rfl (g := (mkF m 66 #[rv xt, iv xn, rv nb, iv ((16 : Int32) - xe)] [(.int ((32 : Int32) - ((16 : Int32) - xe))), (.ref xt)])) rfl rfl (hb hby d71_66)
    have K := K.wr W11 (Or.inl (List.mem_of_getElem? (i := 0) rfl))
    have F_gapEnd_xt := F_gapEnd_xt.same W11
    refine oWk.to (mkF m 69 #[rv xt, iv xn, rv nb, iv ((16 : Int32) - xe)] []) (fun _ kt => st _ kt) ?_
    have E_xt := (E_xt.wr W11)
    have F_buffer_xt := (F_buffer_xt.other W11 (Or.inr (slot_ne (Or.inl (oW hw 197 rfl)) (Or.inl (oW hw 199 rfl)) (by decide) (t := (.array .int)) (t' := .int) (by decide) (by decide))))
    have F_gapStart_xt := ((((F_gapStart_xt.keep C6 (ninS ne_xt_nb nin0)).keep C8 (ninS ne_xt_nb nin0)).other W9 (Or.inr (slot_ne (Or.inl (oW hw 206 rfl)) (Or.inl (oW hw 197 rfl)) (by decide) (t := .int) (t' := (.array .int)) (by decide) (by decide)))).other W11 (Or.inr (slot_ne (Or.inl (oW hw 206 rfl)) (Or.inl (oW hw 199 rfl)) (by decide) (t := .int) (t' := .int) (by decide) (by decide))))
    have F_journal_xt := (((((F_journal_xt.ext E4).keep C6 (ninS ne_xt_nb nin0)).keep C8 (ninS ne_xt_nb nin0)).other W9 (Or.inr (slot_ne (Or.inl (oW hw 321 rfl)) (Or.inl (oW hw 197 rfl)) (by decide) (t := (.object Y17)) (t' := (.array .int)) (by decide) (by decide)))).other W11 (Or.inr (slot_ne (Or.inl (oW hw 321 rfl)) (Or.inl (oW hw 199 rfl)) (by decide) (t := (.object Y17)) (t' := .int) (by decide) (by decide))))
    have V_nb := (V_nb.other W11 (Ne.symm ne_xt_nb))
    exact oRetV X hx hlk hret (hb hby d71_69) (by rw [e0]; exact ⟨nb, (32 : Int32), ((32 : Int32) - ((16 : Int32) - xe)), xv8, k4, rfl, K, ge_nb, E_xt, F_buffer_xt, F_gapStart_xt, F_gapEnd_xt, F_journal_xt, V_nb, (by decide), ((ar14 ht hneed))⟩) (by decide) (by decide)
  · show oWk _ _ _ _ T (mkF m 0 #[rv xt, iv xn, uu, uu] [])
    refine oWk.st (fun _ kt => zI X hx hby d71_0 rfl rfl (zA X hx hby d71_1 rfl rfl rfl kt)) ?_
    obtain ⟨T, X, e0, st⟩ := getF X hx hZ hown (host := "") (Or.inl (oW hw 196 rfl)) Via.refl e0 F_buffer_xt (g := (mkF m 2 #[rv xt, iv xn, uu, uu] [(.ref xt), (.int xn)])) rfl rfl (hb hby d71_2)
    refine oWk.st (fun _ kt => st _ (oAl X hx hZ e0 V_xb hby d71_5 rfl rfl (zK X hx hby d71_6 rfl (XS.imul X.here hx rfl (hb hby d71_7) rfl kt)))) ?_
    have Oh := K.old O0 (allS og_xt all0)
    obtain ⟨T, L14, X, e0, K, st⟩ := (cs36 hw).pure X hx hZ hown e0 K (A := [(.int xn), (.int (64 : Int32))]) rfl (rMx l Z a0 hw [] xn (64 : Int32) h0 Oh (ar15 ht hneed)) (W := 0) (by decide) hml (Ls := #[rv xt, iv xn, uu, uu]) rfl (rest := []) rfl rfl hby d71_8
    refine oWk.st (fun _ kt => st _ kt) ?_
    obtain ⟨nb, g15⟩ : ∃ z, z = h0.size := ⟨_, rfl⟩
    have ne_xt_nb : xt ≠ nb := Nat.ne_of_lt (Nat.lt_of_lt_of_le E_xt.lt (Nat.le_of_eq g15.symm))
    have ne_xb_nb : xb ≠ nb := Nat.ne_of_lt (Nat.lt_of_lt_of_le V_xb.lt (Nat.le_of_eq g15.symm))
    have ge_nb : h0.size ≤ nb := Nat.le_trans K.le (Nat.le_of_eq g15.symm)
    obtain ⟨T, h, k15, X, e0, E15, A15, st⟩ := newP X hx hZ (oW hw 195 rfl) e0 (g := (mkF m 11 #[rv xt, iv xn, uu, uu] [(.int 64)])) rfl (hb hby d71_11) rfl (by decide) (cap := 64) (by decide) (by decide) (by decide) (by decide)
    rw [← g15] at A15 st
    have K := K.ext E15
    have V_nb : Arv Z h nb k15 .int (64 : Int32) [] (.int (0 : Int32)) := Arv.new A15 (by decide)
    refine oWk.st (fun _ kt => st _ (zTn X hx hby d71_13 rfl rfl rfl (l' := #[rv xt, iv xn, rv nb, uu]) rfl (zA X hx hby d71_14 rfl rfl rfl kt))) ?_
    have F_buffer_xt := (F_buffer_xt.ext E15)
    obtain ⟨T, X, e0, st⟩ := getF X hx hZ hown (host := "") (Or.inl (oW hw 196 rfl)) Via.refl e0 F_buffer_xt (g := (mkF m 15 #[rv xt, iv xn, rv nb, uu] [(.ref xt)])) rfl rfl (hb hby d71_15)
    refine oWk.st (fun _ kt => st _ kt) ?_
    have V_xb := (V_xb.ext E15)
    refine oWk.st (fun _ kt => oAl X hx hZ e0 V_xb hby d71_18 rfl rfl (zA X hx hby d71_19 rfl rfl rfl kt)) ?_
    have F_gapEnd_xt := (F_gapEnd_xt.ext E15)
    obtain ⟨T, X, e0, st⟩ := getF X hx hZ hown (host := "") (Or.inl (oW hw 198 rfl)) Via.refl e0 F_gapEnd_xt (g := (mkF m 20 #[rv xt, iv xn, rv nb, uu] [(.ref xt), (.int 32)])) rfl rfl (hb hby d71_20)
    refine oWk.st (fun _ kt => st _ (XS.isub X.here hx rfl (hb hby d71_23) rfl (zSn X hx hby d71_24 rfl rfl (l' := #[rv xt, iv xn, rv nb, iv ((32 : Int32) - xe)]) rfl (zA X hx hby d71_25 rfl rfl rfl kt)))) ?_
    obtain ⟨T, X, e0, st⟩ := getF X hx hZ hown (host := "") (Or.inl (oW hw 196 rfl)) Via.refl e0 F_buffer_xt (g := (mkF m 26 #[rv xt, iv xn, rv nb, iv ((32 : Int32) - xe)] [(.ref xt)])) rfl rfl (hb hby d71_26)
    refine oWk.st (fun _ kt => st _ (zK X hx hby d71_29 rfl (zA X hx hby d71_30 rfl rfl rfl (zK X hx hby d71_31 rfl (zA X hx hby d71_32 rfl rfl rfl kt))))) ?_
    have F_gapStart_xt := (F_gapStart_xt.ext E15)
    obtain ⟨T, X, e0, st⟩ := getF X hx hZ hown (host := "") (Or.inl (oW hw 205 rfl)) Via.refl e0 F_gapStart_xt (g := (mkF m 33 #[rv xt, iv xn, rv nb, iv ((32 : Int32) - xe)] [(.ref xt), (.int 0), (.ref nb), (.int 0), (.ref xb)])) rfl rfl (hb hby d71_33)
    refine oWk.st (fun _ kt => st _ kt) ?_
    obtain ⟨T, h, L17, xv17, X, e0, K, C17, V17, st⟩ := oCp X hx hZ hown (oW hw 353 rfl) (oW hw 356 rfl) (oW hw 354 rfl) (oW hw 355 rfl) e0 V_xb V_nb rfl (ar16 ht hneed) K (Or.inr ge_nb) (g := (mkF m 36 #[rv xt, iv xn, rv nb, iv ((32 : Int32) - xe)] [(.int xg), (.int 0), (.ref nb), (.int 0), (.ref xb)])) rfl (by rw [hml]; rfl) rfl (hb hby d71_36) (by decide) (W := 0) (Nat.le_of_eq rfl) (by decide)
    have V_nb := V17
    refine oWk.st (fun _ kt => st _ (zA X hx hby d71_39 rfl rfl rfl kt)) ?_
    have F_buffer_xt := (F_buffer_xt.keep C17 (ninS ne_xt_nb nin0))
    obtain ⟨T, X, e0, st⟩ := getF X hx hZ hown (host := "") (Or.inl (oW hw 196 rfl)) Via.refl e0 F_buffer_xt (g := (mkF m 40 #[rv xt, iv xn, rv nb, iv ((32 : Int32) - xe)] [(.ref xt)])) rfl rfl (hb hby d71_40)
    refine oWk.st (fun _ kt => st _ (zA X hx hby d71_43 rfl rfl rfl kt)) ?_
    have F_gapEnd_xt := (F_gapEnd_xt.keep C17 (ninS ne_xt_nb nin0))
    obtain ⟨T, X, e0, st⟩ := getF X hx hZ hown (host := "") (Or.inl (oW hw 198 rfl)) Via.refl e0 F_gapEnd_xt (g := (mkF m 44 #[rv xt, iv xn, rv nb, iv ((32 : Int32) - xe)] [(.ref xt), (.ref xb)])) rfl rfl (hb hby d71_44)
    refine oWk.to (mkF m 53 #[rv xt, iv xn, rv nb, iv ((32 : Int32) - xe)] [(.int ((32 : Int32) - xe)), (.int ((64 : Int32) - ((32 : Int32) - xe))), (.ref nb), (.int xe), (.ref xb)]) (fun _ kt => st _ (zA X hx hby d71_47 rfl rfl rfl (zA X hx hby d71_48 rfl rfl rfl (oAl X hx hZ e0 V_nb hby d71_49 rfl rfl (zI X hx hby d71_50 rfl rfl (XS.isub X.here hx rfl (hb hby d71_51) rfl (zI X hx hby d71_52 rfl rfl kt))))))) ?_
    have V_xb := (V_xb.keep C17 (ninS ne_xb_nb nin0))
    obtain ⟨T, h, L19, xv19, X, e0, K, C19, V19, st⟩ := oCp X hx hZ hown (oW hw 353 rfl) (oW hw 356 rfl) (oW hw 354 rfl) (oW hw 355 rfl) e0 V_xb V_nb rfl (ar17 ht hneed) K (Or.inr ge_nb) (g := (mkF m 53 #[rv xt, iv xn, rv nb, iv ((32 : Int32) - xe)] [(.int ((32 : Int32) - xe)), (.int ((64 : Int32) - ((32 : Int32) - xe))), (.ref nb), (.int xe), (.ref xb)])) rfl (by rw [hml]; rfl) rfl (hb hby d71_53) (by decide) (W := 0) (Nat.le_of_eq rfl) (by decide)
    have V_nb := V19
    refine oWk.st (fun _ kt => st _ (zA X hx hby d71_56 rfl rfl rfl (zA X hx hby d71_57 rfl rfl rfl kt))) ?_
    have E_xt := (((E_xt.ext E15).keep C17).keep C19)
    have F_buffer_xt := (F_buffer_xt.keep C19 (ninS ne_xt_nb nin0))
    obtain ⟨T, h, X, e0, W20, st⟩ := putF X hx hZ hown (host := "") (Or.inl (oW hw 196 rfl)) Via.refl e0 F_buffer_xt E_xt (Or.inl (oW hw 197 rfl)) (oW hw 189 rfl) (ty := (.array .int)) (by decide) rfl rfl (g := (mkF m 58 #[rv xt, iv xn, rv nb, iv ((32 : Int32) - xe)] [(.ref nb), (.ref xt)])) rfl rfl (hb hby d71_58)
    have K := K.wr W20 (Or.inl (List.mem_of_getElem? (i := 0) rfl))
    have F_buffer_xt := F_buffer_xt.same W20
    refine oWk.st (fun _ kt => st _ (zA X hx hby d71_61 rfl rfl rfl (zA X hx hby d71_62 rfl rfl rfl kt))) ?_
    have V_nb := (V_nb.other W20 (Ne.symm ne_xt_nb))
    refine oWk.st (fun _ kt => oAl X hx hZ e0 V_nb hby d71_63 rfl rfl (zI X hx hby d71_64 rfl rfl (XS.isub X.here hx rfl (hb hby d71_65) rfl kt))) ?_
    have E_xt := (E_xt.wr W20)
    have F_gapEnd_xt := ((F_gapEnd_xt.keep C19 (ninS ne_xt_nb nin0)).other W20 (Or.inr (slot_ne (Or.inl (oW hw 199 rfl)) (Or.inl (oW hw 197 rfl)) (by decide) (t := .int) (t' := (.array .int)) (by decide) (by decide))))
    obtain ⟨T, h, X, e0, W22, st⟩ := putF X hx hZ hown (host := "") (Or.inl (oW hw 198 rfl)) Via.refl e0 F_gapEnd_xt E_xt (Or.inl (oW hw 199 rfl)) (oW hw 189 rfl) (ty := .int) (by decide) rfl rfl (g := (mkF m 66 #[rv xt, iv xn, rv nb, iv ((32 : Int32) - xe)] [(.int ((64 : Int32) - ((32 : Int32) - xe))), (.ref xt)])) rfl rfl (hb hby d71_66)
    have K := K.wr W22 (Or.inl (List.mem_of_getElem? (i := 0) rfl))
    have F_gapEnd_xt := F_gapEnd_xt.same W22
    refine oWk.to (mkF m 69 #[rv xt, iv xn, rv nb, iv ((32 : Int32) - xe)] []) (fun _ kt => st _ kt) ?_
    have E_xt := (E_xt.wr W22)
    have F_buffer_xt := (F_buffer_xt.other W22 (Or.inr (slot_ne (Or.inl (oW hw 197 rfl)) (Or.inl (oW hw 199 rfl)) (by decide) (t := (.array .int)) (t' := .int) (by decide) (by decide))))
    have F_gapStart_xt := ((((F_gapStart_xt.keep C17 (ninS ne_xt_nb nin0)).keep C19 (ninS ne_xt_nb nin0)).other W20 (Or.inr (slot_ne (Or.inl (oW hw 206 rfl)) (Or.inl (oW hw 197 rfl)) (by decide) (t := .int) (t' := (.array .int)) (by decide) (by decide)))).other W22 (Or.inr (slot_ne (Or.inl (oW hw 206 rfl)) (Or.inl (oW hw 199 rfl)) (by decide) (t := .int) (t' := .int) (by decide) (by decide))))
    have F_journal_xt := (((((F_journal_xt.ext E15).keep C17 (ninS ne_xt_nb nin0)).keep C19 (ninS ne_xt_nb nin0)).other W20 (Or.inr (slot_ne (Or.inl (oW hw 321 rfl)) (Or.inl (oW hw 197 rfl)) (by decide) (t := (.object Y17)) (t' := (.array .int)) (by decide) (by decide)))).other W22 (Or.inr (slot_ne (Or.inl (oW hw 321 rfl)) (Or.inl (oW hw 199 rfl)) (by decide) (t := (.object Y17)) (t' := .int) (by decide) (by decide))))
    have V_nb := (V_nb.other W22 (Ne.symm ne_xt_nb))
    exact oRetV X hx hlk hret (hb hby d71_69) (by rw [e0]; exact ⟨nb, (64 : Int32), ((64 : Int32) - ((32 : Int32) - xe)), xv19, k15, rfl, K, ge_nb, E_xt, F_buffer_xt, F_gapStart_xt, F_gapEnd_xt, F_journal_xt, V_nb, (by decide), ((ar18 ht hneed))⟩) (by decide) (by decide)
  · show oWk _ _ _ _ T (mkF m 0 #[rv xt, iv xn, uu, uu] [])
    refine oWk.st (fun _ kt => zI X hx hby d71_0 rfl rfl (zA X hx hby d71_1 rfl rfl rfl kt)) ?_
    obtain ⟨T, X, e0, st⟩ := getF X hx hZ hown (host := "") (Or.inl (oW hw 196 rfl)) Via.refl e0 F_buffer_xt (g := (mkF m 2 #[rv xt, iv xn, uu, uu] [(.ref xt), (.int xn)])) rfl rfl (hb hby d71_2)
    refine oWk.st (fun _ kt => st _ (oAl X hx hZ e0 V_xb hby d71_5 rfl rfl (zK X hx hby d71_6 rfl (XS.imul X.here hx rfl (hb hby d71_7) rfl kt)))) ?_
    have Oh := K.old O0 (allS og_xt all0)
    obtain ⟨T, L25, X, e0, K, st⟩ := (cs36 hw).pure X hx hZ hown e0 K (A := [(.int xn), (.int (128 : Int32))]) rfl (rMx l Z a0 hw [] xn (128 : Int32) h0 Oh (ar19 ht hneed)) (W := 0) (by decide) hml (Ls := #[rv xt, iv xn, uu, uu]) rfl (rest := []) rfl rfl hby d71_8
    refine oWk.st (fun _ kt => st _ kt) ?_
    obtain ⟨nb, g26⟩ : ∃ z, z = h0.size := ⟨_, rfl⟩
    have ne_xt_nb : xt ≠ nb := Nat.ne_of_lt (Nat.lt_of_lt_of_le E_xt.lt (Nat.le_of_eq g26.symm))
    have ne_xb_nb : xb ≠ nb := Nat.ne_of_lt (Nat.lt_of_lt_of_le V_xb.lt (Nat.le_of_eq g26.symm))
    have ge_nb : h0.size ≤ nb := Nat.le_trans K.le (Nat.le_of_eq g26.symm)
    obtain ⟨T, h, k26, X, e0, E26, A26, st⟩ := newP X hx hZ (oW hw 195 rfl) e0 (g := (mkF m 11 #[rv xt, iv xn, uu, uu] [(.int 128)])) rfl (hb hby d71_11) rfl (by decide) (cap := 128) (by decide) (by decide) (by decide) (by decide)
    rw [← g26] at A26 st
    have K := K.ext E26
    have V_nb : Arv Z h nb k26 .int (128 : Int32) [] (.int (0 : Int32)) := Arv.new A26 (by decide)
    refine oWk.st (fun _ kt => st _ (zTn X hx hby d71_13 rfl rfl rfl (l' := #[rv xt, iv xn, rv nb, uu]) rfl (zA X hx hby d71_14 rfl rfl rfl kt))) ?_
    have F_buffer_xt := (F_buffer_xt.ext E26)
    obtain ⟨T, X, e0, st⟩ := getF X hx hZ hown (host := "") (Or.inl (oW hw 196 rfl)) Via.refl e0 F_buffer_xt (g := (mkF m 15 #[rv xt, iv xn, rv nb, uu] [(.ref xt)])) rfl rfl (hb hby d71_15)
    refine oWk.st (fun _ kt => st _ kt) ?_
    have V_xb := (V_xb.ext E26)
    refine oWk.st (fun _ kt => oAl X hx hZ e0 V_xb hby d71_18 rfl rfl (zA X hx hby d71_19 rfl rfl rfl kt)) ?_
    have F_gapEnd_xt := (F_gapEnd_xt.ext E26)
    obtain ⟨T, X, e0, st⟩ := getF X hx hZ hown (host := "") (Or.inl (oW hw 198 rfl)) Via.refl e0 F_gapEnd_xt (g := (mkF m 20 #[rv xt, iv xn, rv nb, uu] [(.ref xt), (.int 64)])) rfl rfl (hb hby d71_20)
    refine oWk.st (fun _ kt => st _ (XS.isub X.here hx rfl (hb hby d71_23) rfl (zSn X hx hby d71_24 rfl rfl (l' := #[rv xt, iv xn, rv nb, iv ((64 : Int32) - xe)]) rfl (zA X hx hby d71_25 rfl rfl rfl kt)))) ?_
    obtain ⟨T, X, e0, st⟩ := getF X hx hZ hown (host := "") (Or.inl (oW hw 196 rfl)) Via.refl e0 F_buffer_xt (g := (mkF m 26 #[rv xt, iv xn, rv nb, iv ((64 : Int32) - xe)] [(.ref xt)])) rfl rfl (hb hby d71_26)
    refine oWk.st (fun _ kt => st _ (zK X hx hby d71_29 rfl (zA X hx hby d71_30 rfl rfl rfl (zK X hx hby d71_31 rfl (zA X hx hby d71_32 rfl rfl rfl kt))))) ?_
    have F_gapStart_xt := (F_gapStart_xt.ext E26)
    obtain ⟨T, X, e0, st⟩ := getF X hx hZ hown (host := "") (Or.inl (oW hw 205 rfl)) Via.refl e0 F_gapStart_xt (g := (mkF m 33 #[rv xt, iv xn, rv nb, iv ((64 : Int32) - xe)] [(.ref xt), (.int 0), (.ref nb), (.int 0), (.ref xb)])) rfl rfl (hb hby d71_33)
    refine oWk.st (fun _ kt => st _ kt) ?_
    obtain ⟨T, h, L28, xv28, X, e0, K, C28, V28, st⟩ := oCp X hx hZ hown (oW hw 353 rfl) (oW hw 356 rfl) (oW hw 354 rfl) (oW hw 355 rfl) e0 V_xb V_nb rfl (ar20 ht hneed) K (Or.inr ge_nb) (g := (mkF m 36 #[rv xt, iv xn, rv nb, iv ((64 : Int32) - xe)] [(.int xg), (.int 0), (.ref nb), (.int 0), (.ref xb)])) rfl (by rw [hml]; rfl) rfl (hb hby d71_36) (by decide) (W := 0) (Nat.le_of_eq rfl) (by decide)
    have V_nb := V28
    refine oWk.st (fun _ kt => st _ (zA X hx hby d71_39 rfl rfl rfl kt)) ?_
    have F_buffer_xt := (F_buffer_xt.keep C28 (ninS ne_xt_nb nin0))
    obtain ⟨T, X, e0, st⟩ := getF X hx hZ hown (host := "") (Or.inl (oW hw 196 rfl)) Via.refl e0 F_buffer_xt (g := (mkF m 40 #[rv xt, iv xn, rv nb, iv ((64 : Int32) - xe)] [(.ref xt)])) rfl rfl (hb hby d71_40)
    refine oWk.st (fun _ kt => st _ (zA X hx hby d71_43 rfl rfl rfl kt)) ?_
    have F_gapEnd_xt := (F_gapEnd_xt.keep C28 (ninS ne_xt_nb nin0))
    obtain ⟨T, X, e0, st⟩ := getF X hx hZ hown (host := "") (Or.inl (oW hw 198 rfl)) Via.refl e0 F_gapEnd_xt (g := (mkF m 44 #[rv xt, iv xn, rv nb, iv ((64 : Int32) - xe)] [(.ref xt), (.ref xb)])) rfl rfl (hb hby d71_44)
    refine oWk.to (mkF m 53 #[rv xt, iv xn, rv nb, iv ((64 : Int32) - xe)] [(.int ((64 : Int32) - xe)), (.int ((128 : Int32) - ((64 : Int32) - xe))), (.ref nb), (.int xe), (.ref xb)]) (fun _ kt => st _ (zA X hx hby d71_47 rfl rfl rfl (zA X hx hby d71_48 rfl rfl rfl (oAl X hx hZ e0 V_nb hby d71_49 rfl rfl (zI X hx hby d71_50 rfl rfl (XS.isub X.here hx rfl (hb hby d71_51) rfl (zI X hx hby d71_52 rfl rfl kt))))))) ?_
    have V_xb := (V_xb.keep C28 (ninS ne_xb_nb nin0))
    obtain ⟨T, h, L30, xv30, X, e0, K, C30, V30, st⟩ := oCp X hx hZ hown (oW hw 353 rfl) (oW hw 356 rfl) (oW hw 354 rfl) (oW hw 355 rfl) e0 V_xb V_nb rfl (ar21 ht hneed) K (Or.inr ge_nb) (g := (mkF m 53 #[rv xt, iv xn, rv nb, iv ((64 : Int32) - xe)] [(.int ((64 : Int32) - xe)), (.int ((128 : Int32) - ((64 : Int32) - xe))), (.ref nb), (.int xe), (.ref xb)])) rfl (by rw [hml]; rfl) rfl (hb hby d71_53) (by decide) (W := 0) (Nat.le_of_eq rfl) (by decide)
    have V_nb := V30
    refine oWk.st (fun _ kt => st _ (zA X hx hby d71_56 rfl rfl rfl (zA X hx hby d71_57 rfl rfl rfl kt))) ?_
    have E_xt := (((E_xt.ext E26).keep C28).keep C30)
    have F_buffer_xt := (F_buffer_xt.keep C30 (ninS ne_xt_nb nin0))
    obtain ⟨T, h, X, e0, W31, st⟩ := putF X hx hZ hown (host := "") (Or.inl (oW hw 196 rfl)) Via.refl e0 F_buffer_xt E_xt (Or.inl (oW hw 197 rfl)) (oW hw 189 rfl) (ty := (.array .int)) (by decide) rfl rfl (g := (mkF m 58 #[rv xt, iv xn, rv nb, iv ((64 : Int32) - xe)] [(.ref nb), (.ref xt)])) rfl rfl (hb hby d71_58)
    have K := K.wr W31 (Or.inl (List.mem_of_getElem? (i := 0) rfl))
    have F_buffer_xt := F_buffer_xt.same W31
    refine oWk.st (fun _ kt => st _ (zA X hx hby d71_61 rfl rfl rfl (zA X hx hby d71_62 rfl rfl rfl kt))) ?_
    have V_nb := (V_nb.other W31 (Ne.symm ne_xt_nb))
    refine oWk.st (fun _ kt => oAl X hx hZ e0 V_nb hby d71_63 rfl rfl (zI X hx hby d71_64 rfl rfl (XS.isub X.here hx rfl (hb hby d71_65) rfl kt))) ?_
    have E_xt := (E_xt.wr W31)
    have F_gapEnd_xt := ((F_gapEnd_xt.keep C30 (ninS ne_xt_nb nin0)).other W31 (Or.inr (slot_ne (Or.inl (oW hw 199 rfl)) (Or.inl (oW hw 197 rfl)) (by decide) (t := .int) (t' := (.array .int)) (by decide) (by decide))))
    obtain ⟨T, h, X, e0, W33, st⟩ := putF X hx hZ hown (host := "") (Or.inl (oW hw 198 rfl)) Via.refl e0 F_gapEnd_xt E_xt (Or.inl (oW hw 199 rfl)) (oW hw 189 rfl) (ty := .int) (by decide) rfl rfl (g := (mkF m 66 #[rv xt, iv xn, rv nb, iv ((64 : Int32) - xe)] [(.int ((128 : Int32) - ((64 : Int32) - xe))), (.ref xt)])) rfl rfl (hb hby d71_66)
    have K := K.wr W33 (Or.inl (List.mem_of_getElem? (i := 0) rfl))
    have F_gapEnd_xt := F_gapEnd_xt.same W33
    refine oWk.to (mkF m 69 #[rv xt, iv xn, rv nb, iv ((64 : Int32) - xe)] []) (fun _ kt => st _ kt) ?_
    have E_xt := (E_xt.wr W33)
    have F_buffer_xt := (F_buffer_xt.other W33 (Or.inr (slot_ne (Or.inl (oW hw 197 rfl)) (Or.inl (oW hw 199 rfl)) (by decide) (t := (.array .int)) (t' := .int) (by decide) (by decide))))
    have F_gapStart_xt := ((((F_gapStart_xt.keep C28 (ninS ne_xt_nb nin0)).keep C30 (ninS ne_xt_nb nin0)).other W31 (Or.inr (slot_ne (Or.inl (oW hw 206 rfl)) (Or.inl (oW hw 197 rfl)) (by decide) (t := .int) (t' := (.array .int)) (by decide) (by decide)))).other W33 (Or.inr (slot_ne (Or.inl (oW hw 206 rfl)) (Or.inl (oW hw 199 rfl)) (by decide) (t := .int) (t' := .int) (by decide) (by decide))))
    have F_journal_xt := (((((F_journal_xt.ext E26).keep C28 (ninS ne_xt_nb nin0)).keep C30 (ninS ne_xt_nb nin0)).other W31 (Or.inr (slot_ne (Or.inl (oW hw 321 rfl)) (Or.inl (oW hw 197 rfl)) (by decide) (t := (.object Y17)) (t' := (.array .int)) (by decide) (by decide)))).other W33 (Or.inr (slot_ne (Or.inl (oW hw 321 rfl)) (Or.inl (oW hw 199 rfl)) (by decide) (t := (.object Y17)) (t' := .int) (by decide) (by decide))))
    have V_nb := (V_nb.other W33 (Ne.symm ne_xt_nb))
    exact oRetV X hx hlk hret (hb hby d71_69) (by rw [e0]; exact ⟨nb, (128 : Int32), ((128 : Int32) - ((64 : Int32) - xe)), xv30, k26, rfl, K, ge_nb, E_xt, F_buffer_xt, F_gapStart_xt, F_gapEnd_xt, F_journal_xt, V_nb, (by decide), ((ar22 ht hneed))⟩) (by decide) (by decide)
abbrev yy46 : MethodName := ⟨"com/example/wakati/wakati/Text", "lengthAfter", "(ILjava/util/List;)I"⟩
theorem d39_0 : decode b4_ 0 = .ok (.iload_n 0, 1) := by decide +kernel
theorem d39_1 : decode b4_ 1 = .ok (.istore_n 2, 1) := by decide +kernel
theorem d39_2 : decode b4_ 2 = .ok (.iconst 0, 1) := by decide +kernel
theorem d39_3 : decode b4_ 3 = .ok (.istore_n 3, 1) := by decide +kernel
theorem d39_4 : decode b4_ 4 = .ok (.iload_n 3, 1) := by decide +kernel
theorem d39_5 : decode b4_ 5 = .ok (.aload_n 1, 1) := by decide +kernel
theorem d39_6 : decode b4_ 6 = .ok (.invokeinterface 36 1, 5) := by decide +kernel
abbrev yy47 : MethodName := ⟨"java/util/List", "size", "()I"⟩
theorem d39_11 : decode b4_ 11 = .ok (.if_icmp .ge 83, 3) := by decide +kernel
theorem d39_14 : decode b4_ 14 = .ok (.aload_n 1, 1) := by decide +kernel
theorem d39_15 : decode b4_ 15 = .ok (.iload_n 3, 1) := by decide +kernel
theorem d39_16 : decode b4_ 16 = .ok (.invokeinterface 40 2, 5) := by decide +kernel
abbrev yy48 : MethodName := ⟨"java/util/List", "get", "(I)Ljava/lang/Object;"⟩
theorem d39_21 : decode b4_ 21 = .ok (.checkcast 18, 3) := by decide +kernel
theorem d39_24 : decode b4_ 24 = .ok (.astore 4, 2) := by decide +kernel
theorem d39_26 : decode b4_ 26 = .ok (.aload 4, 2) := by decide +kernel
theorem d39_28 : decode b4_ 28 = .ok (.invokevirtual 44, 3) := by decide +kernel
theorem cs37 {a0 : Array Value} {Z : State} (hw : oHW a0 Z) : oCall Z Y3 (.invokevirtual 44) yy29 b63_ 1 (some .int) (oRv Z 0 Y2) := oCall.virt (oW hw 246 rfl) (oW hw 247 rfl) (fun _ hZ => notFace_of_selects (args := #[]) (mvT hZ (oW hw 249 rfl))) (oW hw 249 rfl) (oW hw 248 rfl) (oW hw 99 rfl) (oW hw 250 rfl) (by decide) pd_6
theorem d39_31 : decode b4_ 31 = .ok (.iload_n 2, 1) := by decide +kernel
theorem d39_32 : decode b4_ 32 = .ok (.aload 4, 2) := by decide +kernel
theorem d39_34 : decode b4_ 34 = .ok (.invokevirtual 47, 3) := by decide +kernel
theorem cs38 {a0 : Array Value} {Z : State} (hw : oHW a0 Z) : oCall Z Y3 (.invokevirtual 47) yy28 b62_ 1 (some .int) (oRv Z 0 Y2) := oCall.virt (oW hw 251 rfl) (oW hw 252 rfl) (fun _ hZ => notFace_of_selects (args := #[]) (mvT hZ (oW hw 254 rfl))) (oW hw 254 rfl) (oW hw 253 rfl) (oW hw 99 rfl) (oW hw 255 rfl) (by decide) pd_6
theorem d39_37 : decode b4_ 37 = .ok (.isub, 1) := by decide +kernel
theorem d39_38 : decode b4_ 38 = .ok (.if_icmp .le 36, 3) := by decide +kernel
theorem d39_74 : decode b4_ 74 = .ok (.iload_n 2, 1) := by decide +kernel
theorem d39_75 : decode b4_ 75 = .ok (.aload 4, 2) := by decide +kernel
theorem d39_77 : decode b4_ 77 = .ok (.invokevirtual 44, 3) := by decide +kernel
theorem d39_80 : decode b4_ 80 = .ok (.isub, 1) := by decide +kernel
theorem d39_81 : decode b4_ 81 = .ok (.aload 4, 2) := by decide +kernel
theorem d39_83 : decode b4_ 83 = .ok (.invokevirtual 59, 3) := by decide +kernel
theorem cs39 {a0 : Array Value} {Z : State} (hw : oHW a0 Z) : oCall Z Y3 (.invokevirtual 59) yy30 b64_ 1 (some .int) (oRv Z 0 Y2) := oCall.virt (oW hw 256 rfl) (oW hw 257 rfl) (fun _ hZ => notFace_of_selects (args := #[]) (mvT hZ (oW hw 259 rfl))) (oW hw 259 rfl) (oW hw 258 rfl) (oW hw 99 rfl) (oW hw 260 rfl) (by decide) pd_6
theorem d39_86 : decode b4_ 86 = .ok (.iadd, 1) := by decide +kernel
theorem d39_87 : decode b4_ 87 = .ok (.istore_n 2, 1) := by decide +kernel
theorem d39_88 : decode b4_ 88 = .ok (.iinc 3 1, 3) := by decide +kernel
theorem d39_91 : decode b4_ 91 = .ok (.goto (-87), 3) := by decide +kernel
theorem d39_94 : decode b4_ 94 = .ok (.iload_n 2, 1) := by decide +kernel
theorem d39_95 : decode b4_ 95 = .ok (.ireturn, 1) := by decide +kernel
theorem rLA_1 (l : Launch) (Z : State) (a0 : Array Value) (hw : oHW a0 Z) (ws : List Jvm.Cond) (xr : Int32) (xa xf : Addr) (xk : ClassId) (xm : Int32) (xe0 : Addr) (xi0 xd0 : Int32) (xs0 : Addr) (xn0 : Int32) (h0 : Heap) (O0 : Ext Z.heap h0) (E_xa : Exa Z h0 xa Y1) (F_elementData_xa : Fld Z h0 xa Y1 "elementData" Y7 (.ref xf)) (F_size_xa : Fld Z h0 xa Y1 "size" "I" (.int (1 : Int32))) (F_modCount_xa : Fld Z h0 xa Y8 "modCount" "I" (.int xm)) (V_xf : Arv Z h0 xf xk (.object Y6) (10 : Int32) [(.ref xe0), .null, .null, .null, .null, .null, .null, .null, .null, .null] .null) (E_xe0 : Exa Z h0 xe0 Y2) (F_position_xe0 : Fld Z h0 xe0 Y2 "position" "I" (.int xi0)) (F_deleteCount_xe0 : Fld Z h0 xe0 Y2 "deleteCount" "I" (.int xd0)) (F_insertion_xe0 : Fld Z h0 xe0 Y2 "insertion" Y13 (.ref xs0)) (F_insertionLength_xe0 : Fld Z h0 xe0 Y2 Y12 "I" (.int xn0)) (g0 : ¬ (xr - xi0) < xd0) :
    oCon l Z yy46 b4_ 5 (some .int) ws ({ frames := 3, cells := 0, slots := 0, locals := 40 } : Room) #[(.int xr), (.ref xa)] h0 (oPq (some (.int ((xr - xd0) + xn0))) h0) := by
  refine oCon.of (plainFor_of_name pn_10) ?_
  intro p e s m below meth c T X hx hby hml hown hnm hret hlk hZ e0
  have hml : c.maxLocals = 5 := hml
  have K : oKp h0 h0 [] [] := oKp.nil _ _
  refine oWk.cast (g' := (mkF m 0 #[iv xr, rv xa, uu, uu, uu] [])) (by first | rfl | (simp [entryFrame, mkF, argsToLocals, Value.category]; done)) ?_
  refine oWk.st (fun _ kt => zI X hx hby d39_0 rfl rfl (zSn X hx hby d39_1 rfl rfl (l' := #[iv xr, rv xa, iv xr, uu, uu]) rfl (zK X hx hby d39_2 rfl (zSn X hx hby d39_3 rfl rfl (l' := #[iv xr, rv xa, iv xr, iv 0, uu]) rfl (zI X hx hby d39_4 rfl rfl (zA X hx hby d39_5 rfl rfl rfl kt)))))) ?_
  have Oh := K.old O0 all0
  obtain ⟨cq2, kq2, q2a, q2b, q2c⟩ := isOf hZ e0 E_xa
  obtain ⟨_, _, ⟨T, L2, k2, n2⟩, -, X, ⟨Lc2, hQ, l2, y2, z2⟩, st⟩ := X.interfaceBack hx (xi := yy47) (y := yy32) hown (mvT hZ (oW hw 216 rfl)) (mvT hZ (oW hw 217 rfl)) (mvT hZ (oW hw 218 rfl)) (mvT hZ (oW hw 219 rfl)) (mvT hZ (oW hw 220 rfl)) (mvT hZ (oW hw 221 rfl)) (mvT hZ (oW hw 222 rfl)) (mvT hZ (oW hw 223 rfl)) (by decide) (backOf (W := 1) (rSize l Z a0 hw [] xa (1 : Int32) h0 Oh F_size_xa) hZ (oW hw 224 rfl) (oW hw 75 rfl) (by decide) (by decide)) q2a q2b q2c (g := (mkF m 6 #[iv xr, rv xa, iv xr, iv 0, uu] [(.ref xa), (.int 0)])) rfl (by rw [hml]; rfl) (Steps.refl _) (argsL := []) (rest := [(.int (0 : Int32))]) (lenOf pd_6 rfl) rfl (Nat.le_of_eq rfl) (hb hby d39_6) (fun _ _ => ⟨rfl, e0, (by decide : 0 + 0 ≤ _), (by decide : 0 + 0 ≤ _)⟩)
  dsimp only [Pt.U, Pt.locs, Pt.cells, Pt.slots] at X l2 y2 z2 st hQ
  subst l2 y2 z2
  obtain ⟨rfl, e0, K1⟩ := hQ
  have K := K.call K1 all0
  rw [e0] at K
  refine oWk.st (fun _ kt => st.trans (zN X hx hby d39_11 rfl rfl (tlt (by decide)).2.1 (zA X hx hby d39_14 rfl rfl rfl (zI X hx hby d39_15 rfl rfl kt)))) ?_
  obtain ⟨cq4, kq4, q4a, q4b, q4c⟩ := isOf hZ e0 E_xa
  obtain ⟨_, _, ⟨T, L4, k4, n4⟩, -, X, ⟨Lc4, hQ, l4, y4, z4⟩, st⟩ := X.interfaceBack hx (xi := yy48) (y := yy35) hown (mvT hZ (oW hw 225 rfl)) (mvT hZ (oW hw 226 rfl)) (mvT hZ (oW hw 227 rfl)) (mvT hZ (oW hw 228 rfl)) (mvT hZ (oW hw 229 rfl)) (mvT hZ (oW hw 230 rfl)) (mvT hZ (oW hw 231 rfl)) (mvT hZ (oW hw 223 rfl)) (by decide) (backOf (W := 0) (rGet_1_0 l Z a0 hw [] xa xf xk xm xe0 h0 Oh E_xa F_elementData_xa F_size_xa F_modCount_xa V_xf) hZ (oW hw 232 rfl) (oW hw 75 rfl) (by decide) (by decide)) q4a q4b q4c (g := (mkF m 16 #[iv xr, rv xa, iv xr, iv 0, uu] [(.int 0), (.ref xa)])) rfl (by rw [hml]; rfl) (Steps.refl _) (argsL := [(.int (0 : Int32))]) (rest := []) (lenOf pd_19 rfl) rfl (Nat.le_of_eq rfl) (hb hby d39_16) (fun _ _ => ⟨rfl, e0, (by decide : 0 + 0 ≤ _), (by decide : 0 + 0 ≤ _)⟩)
  dsimp only [Pt.U, Pt.locs, Pt.cells, Pt.slots] at X l4 y4 z4 st hQ
  subst l4 y4 z4
  obtain ⟨rfl, e0, K3⟩ := hQ
  have K := K.call K3 all0
  rw [e0] at K
  refine oWk.st (fun _ kt => st.trans kt) ?_
  obtain ⟨T, X, e0, st⟩ := castY X hx hZ hown (oW hw 244 rfl) e0 (Ins.self E_xe0) (g := (mkF m 21 #[iv xr, rv xa, iv xr, iv 0, uu] [(.ref xe0)])) rfl rfl (hb hby d39_21)
  refine oWk.st (fun _ kt => st _ (zT X hx hby d39_24 rfl rfl rfl (l' := #[iv xr, rv xa, iv xr, iv 0, rv xe0]) rfl (zB X hx hby d39_26 rfl rfl rfl kt))) ?_
  obtain ⟨T, L6, X, e0, K, st⟩ := (cs37 hw).pure X hx hZ hown e0 K (A := [(.ref xe0)]) ⟨rfl, _, _, rfl, E_xe0⟩ (rGdeleteCount l Z a0 hw [] xe0 xd0 h0 Oh F_deleteCount_xe0) (W := 0) (by decide) hml (Ls := #[iv xr, rv xa, iv xr, iv 0, rv xe0]) rfl (rest := []) rfl rfl hby d39_28
  refine oWk.st (fun _ kt => st _ (zI X hx hby d39_31 rfl rfl (zB X hx hby d39_32 rfl rfl rfl kt))) ?_
  obtain ⟨T, L8, X, e0, K, st⟩ := (cs38 hw).pure X hx hZ hown e0 K (A := [(.ref xe0)]) ⟨rfl, _, _, rfl, E_xe0⟩ (rGposition l Z a0 hw [] xe0 xi0 h0 Oh F_position_xe0) (W := 2) (by decide) hml (Ls := #[iv xr, rv xa, iv xr, iv 0, rv xe0]) rfl (rest := [(.int xr), (.int xd0)]) rfl rfl hby d39_34
  refine oWk.to (mkF m 38 #[iv xr, rv xa, iv xr, iv 0, rv xe0] [(.int (xr - xi0)), (.int xd0)]) (fun _ kt => st _ (XS.isub X.here hx rfl (hb hby d39_37) rfl kt)) ?_
  refine oWk.st (fun _ kt => zY X hx hby d39_38 rfl rfl (flt g0).2.2.2 (pc' := 74) rfl (zI X hx hby d39_74 rfl rfl (zB X hx hby d39_75 rfl rfl rfl kt))) ?_
  obtain ⟨T, L10, X, e0, K, st⟩ := (cs37 hw).pure X hx hZ hown e0 K (A := [(.ref xe0)]) ⟨rfl, _, _, rfl, E_xe0⟩ (rGdeleteCount l Z a0 hw [] xe0 xd0 h0 Oh F_deleteCount_xe0) (W := 1) (by decide) hml (Ls := #[iv xr, rv xa, iv xr, iv 0, rv xe0]) rfl (rest := [(.int xr)]) rfl rfl hby d39_77
  refine oWk.st (fun _ kt => st _ (XS.isub X.here hx rfl (hb hby d39_80) rfl (zB X hx hby d39_81 rfl rfl rfl kt))) ?_
  obtain ⟨T, L12, X, e0, K, st⟩ := (cs39 hw).pure X hx hZ hown e0 K (A := [(.ref xe0)]) ⟨rfl, _, _, rfl, E_xe0⟩ (rGinsertionLength l Z a0 hw [] xe0 xn0 h0 Oh F_insertionLength_xe0) (W := 1) (by decide) hml (Ls := #[iv xr, rv xa, iv xr, iv 0, rv xe0]) rfl (rest := [(.int (xr - xd0))]) rfl rfl hby d39_83
  refine oWk.to (mkF m 6 #[iv xr, rv xa, iv ((xr - xd0) + xn0), iv 1, rv xe0] [(.ref xa), (.int 1)]) (fun _ kt => st _ (XS.iadd X.here hx rfl (hb hby d39_86) rfl (zSn X hx hby d39_87 rfl rfl (l' := #[iv xr, rv xa, iv ((xr - xd0) + xn0), iv 0, rv xe0]) rfl (zC X hx hby d39_88 rfl rfl (l' := #[iv xr, rv xa, iv ((xr - xd0) + xn0), iv ((0 : Int32) + (1 : Int32)), rv xe0]) rfl (zG X hx hby d39_91 rfl (pc' := 4) rfl (zI X hx hby d39_4 rfl rfl (zA X hx hby d39_5 rfl rfl rfl kt))))))) ?_
  obtain ⟨cq14, kq14, q14a, q14b, q14c⟩ := isOf hZ e0 E_xa
  obtain ⟨_, _, ⟨T, L14, k14, n14⟩, -, X, ⟨Lc14, hQ, l14, y14, z14⟩, st⟩ := X.interfaceBack hx (xi := yy47) (y := yy32) hown (mvT hZ (oW hw 216 rfl)) (mvT hZ (oW hw 217 rfl)) (mvT hZ (oW hw 218 rfl)) (mvT hZ (oW hw 219 rfl)) (mvT hZ (oW hw 220 rfl)) (mvT hZ (oW hw 221 rfl)) (mvT hZ (oW hw 222 rfl)) (mvT hZ (oW hw 223 rfl)) (by decide) (backOf (W := 1) (rSize l Z a0 hw [] xa (1 : Int32) h0 Oh F_size_xa) hZ (oW hw 224 rfl) (oW hw 75 rfl) (by decide) (by decide)) q14a q14b q14c (g := (mkF m 6 #[iv xr, rv xa, iv ((xr - xd0) + xn0), iv 1, rv xe0] [(.ref xa), (.int 1)])) rfl (by rw [hml]; rfl) (Steps.refl _) (argsL := []) (rest := [(.int (1 : Int32))]) (lenOf pd_6 rfl) rfl (Nat.le_of_eq rfl) (hb hby d39_6) (fun _ _ => ⟨rfl, e0, (by decide : 0 + 0 ≤ _), (by decide : 0 + 0 ≤ _)⟩)
  dsimp only [Pt.U, Pt.locs, Pt.cells, Pt.slots] at X l14 y14 z14 st hQ
  subst l14 y14 z14
  obtain ⟨rfl, e0, K13⟩ := hQ
  have K := K.call K13 all0
  rw [e0] at K
  refine oWk.to (mkF m 95 #[iv xr, rv xa, iv ((xr - xd0) + xn0), iv 1, rv xe0] [(.int ((xr - xd0) + xn0))]) (fun _ kt => st.trans (zY X hx hby d39_11 rfl rfl (flt (by decide)).2.1 (pc' := 94) rfl (zI X hx hby d39_94 rfl rfl kt))) ?_
  exact oRetI X hx hlk hret (hb hby d39_95) (by rw [e0]; exact ⟨rfl, rfl, K⟩) (by decide) (by decide)
theorem rLA_2 (l : Launch) (Z : State) (a0 : Array Value) (hw : oHW a0 Z) (ws : List Jvm.Cond) (xr : Int32) (xa xf : Addr) (xk : ClassId) (xm : Int32) (xe0 : Addr) (xi0 xd0 : Int32) (xs0 : Addr) (xn0 : Int32) (xe1 : Addr) (xi1 xd1 : Int32) (xs1 : Addr) (xn1 : Int32) (h0 : Heap) (O0 : Ext Z.heap h0) (E_xa : Exa Z h0 xa Y1) (F_elementData_xa : Fld Z h0 xa Y1 "elementData" Y7 (.ref xf)) (F_size_xa : Fld Z h0 xa Y1 "size" "I" (.int (2 : Int32))) (F_modCount_xa : Fld Z h0 xa Y8 "modCount" "I" (.int xm)) (V_xf : Arv Z h0 xf xk (.object Y6) (10 : Int32) [(.ref xe0), (.ref xe1), .null, .null, .null, .null, .null, .null, .null, .null] .null) (E_xe0 : Exa Z h0 xe0 Y2) (F_position_xe0 : Fld Z h0 xe0 Y2 "position" "I" (.int xi0)) (F_deleteCount_xe0 : Fld Z h0 xe0 Y2 "deleteCount" "I" (.int xd0)) (F_insertion_xe0 : Fld Z h0 xe0 Y2 "insertion" Y13 (.ref xs0)) (F_insertionLength_xe0 : Fld Z h0 xe0 Y2 Y12 "I" (.int xn0)) (E_xe1 : Exa Z h0 xe1 Y2) (F_position_xe1 : Fld Z h0 xe1 Y2 "position" "I" (.int xi1)) (F_deleteCount_xe1 : Fld Z h0 xe1 Y2 "deleteCount" "I" (.int xd1)) (F_insertion_xe1 : Fld Z h0 xe1 Y2 "insertion" Y13 (.ref xs1)) (F_insertionLength_xe1 : Fld Z h0 xe1 Y2 Y12 "I" (.int xn1)) (g0 : ¬ (xr - xi0) < xd0) (g1 : ¬ (((xr - xd0) + xn0) - xi1) < xd1) :
    oCon l Z yy46 b4_ 5 (some .int) ws ({ frames := 3, cells := 0, slots := 0, locals := 40 } : Room) #[(.int xr), (.ref xa)] h0 (oPq (some (.int ((((xr - xd0) + xn0) - xd1) + xn1))) h0) := by
  refine oCon.of (plainFor_of_name pn_10) ?_
  intro p e s m below meth c T X hx hby hml hown hnm hret hlk hZ e0
  have hml : c.maxLocals = 5 := hml
  have K : oKp h0 h0 [] [] := oKp.nil _ _
  refine oWk.cast (g' := (mkF m 0 #[iv xr, rv xa, uu, uu, uu] [])) (by first | rfl | (simp [entryFrame, mkF, argsToLocals, Value.category]; done)) ?_
  refine oWk.st (fun _ kt => zI X hx hby d39_0 rfl rfl (zSn X hx hby d39_1 rfl rfl (l' := #[iv xr, rv xa, iv xr, uu, uu]) rfl (zK X hx hby d39_2 rfl (zSn X hx hby d39_3 rfl rfl (l' := #[iv xr, rv xa, iv xr, iv 0, uu]) rfl (zI X hx hby d39_4 rfl rfl (zA X hx hby d39_5 rfl rfl rfl kt)))))) ?_
  have Oh := K.old O0 all0
  obtain ⟨cq2, kq2, q2a, q2b, q2c⟩ := isOf hZ e0 E_xa
  obtain ⟨_, _, ⟨T, L2, k2, n2⟩, -, X, ⟨Lc2, hQ, l2, y2, z2⟩, st⟩ := X.interfaceBack hx (xi := yy47) (y := yy32) hown (mvT hZ (oW hw 216 rfl)) (mvT hZ (oW hw 217 rfl)) (mvT hZ (oW hw 218 rfl)) (mvT hZ (oW hw 219 rfl)) (mvT hZ (oW hw 220 rfl)) (mvT hZ (oW hw 221 rfl)) (mvT hZ (oW hw 222 rfl)) (mvT hZ (oW hw 223 rfl)) (by decide) (backOf (W := 1) (rSize l Z a0 hw [] xa (2 : Int32) h0 Oh F_size_xa) hZ (oW hw 224 rfl) (oW hw 75 rfl) (by decide) (by decide)) q2a q2b q2c (g := (mkF m 6 #[iv xr, rv xa, iv xr, iv 0, uu] [(.ref xa), (.int 0)])) rfl (by rw [hml]; rfl) (Steps.refl _) (argsL := []) (rest := [(.int (0 : Int32))]) (lenOf pd_6 rfl) rfl (Nat.le_of_eq rfl) (hb hby d39_6) (fun _ _ => ⟨rfl, e0, (by decide : 0 + 0 ≤ _), (by decide : 0 + 0 ≤ _)⟩)
  dsimp only [Pt.U, Pt.locs, Pt.cells, Pt.slots] at X l2 y2 z2 st hQ
  subst l2 y2 z2
  obtain ⟨rfl, e0, K1⟩ := hQ
  have K := K.call K1 all0
  rw [e0] at K
  refine oWk.st (fun _ kt => st.trans (zN X hx hby d39_11 rfl rfl (tlt (by decide)).2.1 (zA X hx hby d39_14 rfl rfl rfl (zI X hx hby d39_15 rfl rfl kt)))) ?_
  obtain ⟨cq4, kq4, q4a, q4b, q4c⟩ := isOf hZ e0 E_xa
  obtain ⟨_, _, ⟨T, L4, k4, n4⟩, -, X, ⟨Lc4, hQ, l4, y4, z4⟩, st⟩ := X.interfaceBack hx (xi := yy48) (y := yy35) hown (mvT hZ (oW hw 225 rfl)) (mvT hZ (oW hw 226 rfl)) (mvT hZ (oW hw 227 rfl)) (mvT hZ (oW hw 228 rfl)) (mvT hZ (oW hw 229 rfl)) (mvT hZ (oW hw 230 rfl)) (mvT hZ (oW hw 231 rfl)) (mvT hZ (oW hw 223 rfl)) (by decide) (backOf (W := 0) (rGet_2_0 l Z a0 hw [] xa xf xk xm xe0 xe1 h0 Oh E_xa F_elementData_xa F_size_xa F_modCount_xa V_xf) hZ (oW hw 232 rfl) (oW hw 75 rfl) (by decide) (by decide)) q4a q4b q4c (g := (mkF m 16 #[iv xr, rv xa, iv xr, iv 0, uu] [(.int 0), (.ref xa)])) rfl (by rw [hml]; rfl) (Steps.refl _) (argsL := [(.int (0 : Int32))]) (rest := []) (lenOf pd_19 rfl) rfl (Nat.le_of_eq rfl) (hb hby d39_16) (fun _ _ => ⟨rfl, e0, (by decide : 0 + 0 ≤ _), (by decide : 0 + 0 ≤ _)⟩)
  dsimp only [Pt.U, Pt.locs, Pt.cells, Pt.slots] at X l4 y4 z4 st hQ
  subst l4 y4 z4
  obtain ⟨rfl, e0, K3⟩ := hQ
  have K := K.call K3 all0
  rw [e0] at K
  refine oWk.st (fun _ kt => st.trans kt) ?_
  obtain ⟨T, X, e0, st⟩ := castY X hx hZ hown (oW hw 244 rfl) e0 (Ins.self E_xe0) (g := (mkF m 21 #[iv xr, rv xa, iv xr, iv 0, uu] [(.ref xe0)])) rfl rfl (hb hby d39_21)
  refine oWk.st (fun _ kt => st _ (zT X hx hby d39_24 rfl rfl rfl (l' := #[iv xr, rv xa, iv xr, iv 0, rv xe0]) rfl (zB X hx hby d39_26 rfl rfl rfl kt))) ?_
  obtain ⟨T, L6, X, e0, K, st⟩ := (cs37 hw).pure X hx hZ hown e0 K (A := [(.ref xe0)]) ⟨rfl, _, _, rfl, E_xe0⟩ (rGdeleteCount l Z a0 hw [] xe0 xd0 h0 Oh F_deleteCount_xe0) (W := 0) (by decide) hml (Ls := #[iv xr, rv xa, iv xr, iv 0, rv xe0]) rfl (rest := []) rfl rfl hby d39_28
  refine oWk.st (fun _ kt => st _ (zI X hx hby d39_31 rfl rfl (zB X hx hby d39_32 rfl rfl rfl kt))) ?_
  obtain ⟨T, L8, X, e0, K, st⟩ := (cs38 hw).pure X hx hZ hown e0 K (A := [(.ref xe0)]) ⟨rfl, _, _, rfl, E_xe0⟩ (rGposition l Z a0 hw [] xe0 xi0 h0 Oh F_position_xe0) (W := 2) (by decide) hml (Ls := #[iv xr, rv xa, iv xr, iv 0, rv xe0]) rfl (rest := [(.int xr), (.int xd0)]) rfl rfl hby d39_34
  refine oWk.to (mkF m 38 #[iv xr, rv xa, iv xr, iv 0, rv xe0] [(.int (xr - xi0)), (.int xd0)]) (fun _ kt => st _ (XS.isub X.here hx rfl (hb hby d39_37) rfl kt)) ?_
  refine oWk.st (fun _ kt => zY X hx hby d39_38 rfl rfl (flt g0).2.2.2 (pc' := 74) rfl (zI X hx hby d39_74 rfl rfl (zB X hx hby d39_75 rfl rfl rfl kt))) ?_
  obtain ⟨T, L10, X, e0, K, st⟩ := (cs37 hw).pure X hx hZ hown e0 K (A := [(.ref xe0)]) ⟨rfl, _, _, rfl, E_xe0⟩ (rGdeleteCount l Z a0 hw [] xe0 xd0 h0 Oh F_deleteCount_xe0) (W := 1) (by decide) hml (Ls := #[iv xr, rv xa, iv xr, iv 0, rv xe0]) rfl (rest := [(.int xr)]) rfl rfl hby d39_77
  refine oWk.st (fun _ kt => st _ (XS.isub X.here hx rfl (hb hby d39_80) rfl (zB X hx hby d39_81 rfl rfl rfl kt))) ?_
  obtain ⟨T, L12, X, e0, K, st⟩ := (cs39 hw).pure X hx hZ hown e0 K (A := [(.ref xe0)]) ⟨rfl, _, _, rfl, E_xe0⟩ (rGinsertionLength l Z a0 hw [] xe0 xn0 h0 Oh F_insertionLength_xe0) (W := 1) (by decide) hml (Ls := #[iv xr, rv xa, iv xr, iv 0, rv xe0]) rfl (rest := [(.int (xr - xd0))]) rfl rfl hby d39_83
  refine oWk.to (mkF m 6 #[iv xr, rv xa, iv ((xr - xd0) + xn0), iv 1, rv xe0] [(.ref xa), (.int 1)]) (fun _ kt => st _ (XS.iadd X.here hx rfl (hb hby d39_86) rfl (zSn X hx hby d39_87 rfl rfl (l' := #[iv xr, rv xa, iv ((xr - xd0) + xn0), iv 0, rv xe0]) rfl (zC X hx hby d39_88 rfl rfl (l' := #[iv xr, rv xa, iv ((xr - xd0) + xn0), iv ((0 : Int32) + (1 : Int32)), rv xe0]) rfl (zG X hx hby d39_91 rfl (pc' := 4) rfl (zI X hx hby d39_4 rfl rfl (zA X hx hby d39_5 rfl rfl rfl kt))))))) ?_
  obtain ⟨cq14, kq14, q14a, q14b, q14c⟩ := isOf hZ e0 E_xa
  obtain ⟨_, _, ⟨T, L14, k14, n14⟩, -, X, ⟨Lc14, hQ, l14, y14, z14⟩, st⟩ := X.interfaceBack hx (xi := yy47) (y := yy32) hown (mvT hZ (oW hw 216 rfl)) (mvT hZ (oW hw 217 rfl)) (mvT hZ (oW hw 218 rfl)) (mvT hZ (oW hw 219 rfl)) (mvT hZ (oW hw 220 rfl)) (mvT hZ (oW hw 221 rfl)) (mvT hZ (oW hw 222 rfl)) (mvT hZ (oW hw 223 rfl)) (by decide) (backOf (W := 1) (rSize l Z a0 hw [] xa (2 : Int32) h0 Oh F_size_xa) hZ (oW hw 224 rfl) (oW hw 75 rfl) (by decide) (by decide)) q14a q14b q14c (g := (mkF m 6 #[iv xr, rv xa, iv ((xr - xd0) + xn0), iv 1, rv xe0] [(.ref xa), (.int 1)])) rfl (by rw [hml]; rfl) (Steps.refl _) (argsL := []) (rest := [(.int (1 : Int32))]) (lenOf pd_6 rfl) rfl (Nat.le_of_eq rfl) (hb hby d39_6) (fun _ _ => ⟨rfl, e0, (by decide : 0 + 0 ≤ _), (by decide : 0 + 0 ≤ _)⟩)
  dsimp only [Pt.U, Pt.locs, Pt.cells, Pt.slots] at X l14 y14 z14 st hQ
  subst l14 y14 z14
  obtain ⟨rfl, e0, K13⟩ := hQ
  have K := K.call K13 all0
  rw [e0] at K
  refine oWk.st (fun _ kt => st.trans (zN X hx hby d39_11 rfl rfl (tlt (by decide)).2.1 (zA X hx hby d39_14 rfl rfl rfl (zI X hx hby d39_15 rfl rfl kt)))) ?_
  obtain ⟨cq16, kq16, q16a, q16b, q16c⟩ := isOf hZ e0 E_xa
  obtain ⟨_, _, ⟨T, L16, k16, n16⟩, -, X, ⟨Lc16, hQ, l16, y16, z16⟩, st⟩ := X.interfaceBack hx (xi := yy48) (y := yy35) hown (mvT hZ (oW hw 225 rfl)) (mvT hZ (oW hw 226 rfl)) (mvT hZ (oW hw 227 rfl)) (mvT hZ (oW hw 228 rfl)) (mvT hZ (oW hw 229 rfl)) (mvT hZ (oW hw 230 rfl)) (mvT hZ (oW hw 231 rfl)) (mvT hZ (oW hw 223 rfl)) (by decide) (backOf (W := 0) (rGet_2_1 l Z a0 hw [] xa xf xk xm xe0 xe1 h0 Oh E_xa F_elementData_xa F_size_xa F_modCount_xa V_xf) hZ (oW hw 232 rfl) (oW hw 75 rfl) (by decide) (by decide)) q16a q16b q16c (g := (mkF m 16 #[iv xr, rv xa, iv ((xr - xd0) + xn0), iv 1, rv xe0] [(.int 1), (.ref xa)])) rfl (by rw [hml]; rfl) (Steps.refl _) (argsL := [(.int (1 : Int32))]) (rest := []) (lenOf pd_19 rfl) rfl (Nat.le_of_eq rfl) (hb hby d39_16) (fun _ _ => ⟨rfl, e0, (by decide : 0 + 0 ≤ _), (by decide : 0 + 0 ≤ _)⟩)
  dsimp only [Pt.U, Pt.locs, Pt.cells, Pt.slots] at X l16 y16 z16 st hQ
  subst l16 y16 z16
  obtain ⟨rfl, e0, K15⟩ := hQ
  have K := K.call K15 all0
  rw [e0] at K
  refine oWk.st (fun _ kt => st.trans kt) ?_
  obtain ⟨T, X, e0, st⟩ := castY X hx hZ hown (oW hw 244 rfl) e0 (Ins.self E_xe1) (g := (mkF m 21 #[iv xr, rv xa, iv ((xr - xd0) + xn0), iv 1, rv xe0] [(.ref xe1)])) rfl rfl (hb hby d39_21)
  refine oWk.st (fun _ kt => st _ (zT X hx hby d39_24 rfl rfl rfl (l' := #[iv xr, rv xa, iv ((xr - xd0) + xn0), iv 1, rv xe1]) rfl (zB X hx hby d39_26 rfl rfl rfl kt))) ?_
  obtain ⟨T, L18, X, e0, K, st⟩ := (cs37 hw).pure X hx hZ hown e0 K (A := [(.ref xe1)]) ⟨rfl, _, _, rfl, E_xe1⟩ (rGdeleteCount l Z a0 hw [] xe1 xd1 h0 Oh F_deleteCount_xe1) (W := 0) (by decide) hml (Ls := #[iv xr, rv xa, iv ((xr - xd0) + xn0), iv 1, rv xe1]) rfl (rest := []) rfl rfl hby d39_28
  refine oWk.st (fun _ kt => st _ (zI X hx hby d39_31 rfl rfl (zB X hx hby d39_32 rfl rfl rfl kt))) ?_
  obtain ⟨T, L20, X, e0, K, st⟩ := (cs38 hw).pure X hx hZ hown e0 K (A := [(.ref xe1)]) ⟨rfl, _, _, rfl, E_xe1⟩ (rGposition l Z a0 hw [] xe1 xi1 h0 Oh F_position_xe1) (W := 2) (by decide) hml (Ls := #[iv xr, rv xa, iv ((xr - xd0) + xn0), iv 1, rv xe1]) rfl (rest := [(.int ((xr - xd0) + xn0)), (.int xd1)]) rfl rfl hby d39_34
  refine oWk.to (mkF m 38 #[iv xr, rv xa, iv ((xr - xd0) + xn0), iv 1, rv xe1] [(.int (((xr - xd0) + xn0) - xi1)), (.int xd1)]) (fun _ kt => st _ (XS.isub X.here hx rfl (hb hby d39_37) rfl kt)) ?_
  refine oWk.st (fun _ kt => zY X hx hby d39_38 rfl rfl (flt g1).2.2.2 (pc' := 74) rfl (zI X hx hby d39_74 rfl rfl (zB X hx hby d39_75 rfl rfl rfl kt))) ?_
  obtain ⟨T, L22, X, e0, K, st⟩ := (cs37 hw).pure X hx hZ hown e0 K (A := [(.ref xe1)]) ⟨rfl, _, _, rfl, E_xe1⟩ (rGdeleteCount l Z a0 hw [] xe1 xd1 h0 Oh F_deleteCount_xe1) (W := 1) (by decide) hml (Ls := #[iv xr, rv xa, iv ((xr - xd0) + xn0), iv 1, rv xe1]) rfl (rest := [(.int ((xr - xd0) + xn0))]) rfl rfl hby d39_77
  refine oWk.st (fun _ kt => st _ (XS.isub X.here hx rfl (hb hby d39_80) rfl (zB X hx hby d39_81 rfl rfl rfl kt))) ?_
  obtain ⟨T, L24, X, e0, K, st⟩ := (cs39 hw).pure X hx hZ hown e0 K (A := [(.ref xe1)]) ⟨rfl, _, _, rfl, E_xe1⟩ (rGinsertionLength l Z a0 hw [] xe1 xn1 h0 Oh F_insertionLength_xe1) (W := 1) (by decide) hml (Ls := #[iv xr, rv xa, iv ((xr - xd0) + xn0), iv 1, rv xe1]) rfl (rest := [(.int (((xr - xd0) + xn0) - xd1))]) rfl rfl hby d39_83
  refine oWk.to (mkF m 6 #[iv xr, rv xa, iv ((((xr - xd0) + xn0) - xd1) + xn1), iv 2, rv xe1] [(.ref xa), (.int 2)]) (fun _ kt => st _ (XS.iadd X.here hx rfl (hb hby d39_86) rfl (zSn X hx hby d39_87 rfl rfl (l' := #[iv xr, rv xa, iv ((((xr - xd0) + xn0) - xd1) + xn1), iv 1, rv xe1]) rfl (zC X hx hby d39_88 rfl rfl (l' := #[iv xr, rv xa, iv ((((xr - xd0) + xn0) - xd1) + xn1), iv ((1 : Int32) + (1 : Int32)), rv xe1]) rfl (zG X hx hby d39_91 rfl (pc' := 4) rfl (zI X hx hby d39_4 rfl rfl (zA X hx hby d39_5 rfl rfl rfl kt))))))) ?_
  obtain ⟨cq26, kq26, q26a, q26b, q26c⟩ := isOf hZ e0 E_xa
  obtain ⟨_, _, ⟨T, L26, k26, n26⟩, -, X, ⟨Lc26, hQ, l26, y26, z26⟩, st⟩ := X.interfaceBack hx (xi := yy47) (y := yy32) hown (mvT hZ (oW hw 216 rfl)) (mvT hZ (oW hw 217 rfl)) (mvT hZ (oW hw 218 rfl)) (mvT hZ (oW hw 219 rfl)) (mvT hZ (oW hw 220 rfl)) (mvT hZ (oW hw 221 rfl)) (mvT hZ (oW hw 222 rfl)) (mvT hZ (oW hw 223 rfl)) (by decide) (backOf (W := 1) (rSize l Z a0 hw [] xa (2 : Int32) h0 Oh F_size_xa) hZ (oW hw 224 rfl) (oW hw 75 rfl) (by decide) (by decide)) q26a q26b q26c (g := (mkF m 6 #[iv xr, rv xa, iv ((((xr - xd0) + xn0) - xd1) + xn1), iv 2, rv xe1] [(.ref xa), (.int 2)])) rfl (by rw [hml]; rfl) (Steps.refl _) (argsL := []) (rest := [(.int (2 : Int32))]) (lenOf pd_6 rfl) rfl (Nat.le_of_eq rfl) (hb hby d39_6) (fun _ _ => ⟨rfl, e0, (by decide : 0 + 0 ≤ _), (by decide : 0 + 0 ≤ _)⟩)
  dsimp only [Pt.U, Pt.locs, Pt.cells, Pt.slots] at X l26 y26 z26 st hQ
  subst l26 y26 z26
  obtain ⟨rfl, e0, K25⟩ := hQ
  have K := K.call K25 all0
  rw [e0] at K
  refine oWk.to (mkF m 95 #[iv xr, rv xa, iv ((((xr - xd0) + xn0) - xd1) + xn1), iv 2, rv xe1] [(.int ((((xr - xd0) + xn0) - xd1) + xn1))]) (fun _ kt => st.trans (zY X hx hby d39_11 rfl rfl (flt (by decide)).2.1 (pc' := 94) rfl (zI X hx hby d39_94 rfl rfl kt))) ?_
  exact oRetI X hx hlk hret (hb hby d39_95) (by rw [e0]; exact ⟨rfl, rfl, K⟩) (by decide) (by decide)
def Q_rAp_1 (Z : State) (xt xb : Addr) (xN xg xe : Int32) (xv : List Value) (xkb : ClassId) (xa xf : Addr) (xk : ClassId) (xm : Int32) (xe0 : Addr) (xi0 xd0 : Int32) (xs0 : Addr) (xn0 : Int32) (xb0 : Addr) (xk0 : ClassId) (xu0 xw0 : Int32) (xfm : Value) (xz : Int32) (h0 : Heap) (v : Option Value) (h : Heap) (L : List Loc) : Prop := ∃ (nb : Addr) (nN : Int32) (ng : Int32) (nge : Int32) (nv : List Value) (nk : ClassId), v = none ∧ oKp h0 h [xt, xb] L ∧ (Exa Z h xt Y3) ∧ (Fld Z h xt Y3 "buffer" "[I" (.ref nb)) ∧ (Fld Z h xt Y3 "gapStart" "I" (.int ng)) ∧ (Fld Z h xt Y3 "gapEnd" "I" (.int nge)) ∧ (Fld Z h xt Y3 "journal" Y18 .null) ∧ (Arv Z h nb nk .int nN nv (.int (0 : Int32))) ∧ (nb = xb ∨ h0.size ≤ nb) ∧ (oHT nN ng nge) ∧ (nN.toInt - (nge.toInt - ng.toInt) = (xN.toInt - (xe.toInt - xg.toInt)) - xd0.toInt + xn0.toInt) ∧ ((nN.toInt = 16 ∧ nN.toInt - (nge.toInt - ng.toInt) ≤ 1) ∨ nN.toInt = 32)
abbrev yy49 : MethodName := ⟨"com/example/wakati/wakati/Text", "apply", "(Ljava/util/List;)V"⟩
theorem d38_0 : decode b0_ 0 = .ok (.aload_n 0, 1) := by decide +kernel
theorem d38_1 : decode b0_ 1 = .ok (.invokevirtual 62, 3) := by decide +kernel
theorem cs40 {a0 : Array Value} {Z : State} (hw : oHW a0 Z) : oCall Z Y3 (.invokevirtual 62) yy42 b28_ 1 (some .int) (oRv Z 0 Y3) := oCall.virt (oW hw 212 rfl) (oW hw 201 rfl) (fun _ hZ => notFace_of_selects (args := #[]) (mvT hZ (oW hw 203 rfl))) (oW hw 203 rfl) (oW hw 202 rfl) (oW hw 190 rfl) (oW hw 204 rfl) (by decide) pd_6
theorem d38_4 : decode b0_ 4 = .ok (.aload_n 1, 1) := by decide +kernel
theorem d38_5 : decode b0_ 5 = .ok (.invokestatic 65, 3) := by decide +kernel
theorem pd_22 : parseMethodDescriptor "(ILjava/util/List;)I" = some ⟨[.int, (.object "java/util/List")], some .int⟩ := by decide +kernel
theorem cs41 {a0 : Array Value} {Z : State} (hw : oHW a0 Z) : oCall Z Y3 (.invokestatic 65) yy46 b4_ 5 (some .int) (oRs 2) := oCall.stat (oW hw 213 rfl) (oW hw 214 rfl) (oW hw 190 rfl) (oW hw 215 rfl) (by decide) pd_22
theorem d38_8 : decode b0_ 8 = .ok (.pop, 1) := by decide +kernel
theorem d38_9 : decode b0_ 9 = .ok (.aload_n 1, 1) := by decide +kernel
theorem d38_10 : decode b0_ 10 = .ok (.invokeinterface 69 1, 5) := by decide +kernel
theorem pd_23 : parseMethodDescriptor "()Ljava/util/Iterator;" = some ⟨[], some (.object "java/util/Iterator")⟩ := by decide +kernel
abbrev yy50 : MethodName := ⟨"java/util/List", "iterator", "()Ljava/util/Iterator;"⟩
theorem d38_15 : decode b0_ 15 = .ok (.astore_n 2, 1) := by decide +kernel
theorem d38_16 : decode b0_ 16 = .ok (.aload_n 2, 1) := by decide +kernel
theorem d38_17 : decode b0_ 17 = .ok (.invokeinterface 73 1, 5) := by decide +kernel
abbrev yy51 : MethodName := ⟨"java/util/Iterator", "hasNext", "()Z"⟩
theorem d38_22 : decode b0_ 22 = .ok (.ifCond .eq 125, 3) := by decide +kernel
theorem d38_25 : decode b0_ 25 = .ok (.aload_n 2, 1) := by decide +kernel
theorem d38_26 : decode b0_ 26 = .ok (.invokeinterface 79 1, 5) := by decide +kernel
theorem pd_24 : parseMethodDescriptor "()Ljava/lang/Object;" = some ⟨[], some (.object "java/lang/Object")⟩ := by decide +kernel
abbrev yy52 : MethodName := ⟨"java/util/Iterator", "next", "()Ljava/lang/Object;"⟩
theorem d38_31 : decode b0_ 31 = .ok (.checkcast 18, 3) := by decide +kernel
theorem d38_34 : decode b0_ 34 = .ok (.astore_n 3, 1) := by decide +kernel
theorem d38_35 : decode b0_ 35 = .ok (.aload_n 0, 1) := by decide +kernel
theorem d38_36 : decode b0_ 36 = .ok (.aload_n 3, 1) := by decide +kernel
theorem d38_37 : decode b0_ 37 = .ok (.invokevirtual 47, 3) := by decide +kernel
theorem d38_40 : decode b0_ 40 = .ok (.invokevirtual 83, 3) := by decide +kernel
theorem pd_25 : parseMethodDescriptor "(I)V" = some ⟨[.int], none⟩ := by decide +kernel
theorem cs42 {a0 : Array Value} {Z : State} (hw : oHW a0 Z) : oCall Z Y3 (.invokevirtual 83) yy43 b1_ 3 none (oRv Z 1 Y3) := oCall.priv (oW hw 310 rfl) (oW hw 311 rfl) (oPrivSel (y := yy43) (oW hw 189 rfl) (oW hw 312 rfl) (oW hw 311 rfl) (by decide)) (oW hw 312 rfl) (oW hw 190 rfl) (oW hw 313 rfl) (by decide) pd_25 _
theorem d38_43 : decode b0_ 43 = .ok (.aload_n 0, 1) := by decide +kernel
theorem d38_44 : decode b0_ 44 = .ok (.dup, 1) := by decide +kernel
theorem d38_45 : decode b0_ 45 = .ok (.getfield 13, 3) := by decide +kernel
theorem d38_48 : decode b0_ 48 = .ok (.aload_n 3, 1) := by decide +kernel
theorem d38_49 : decode b0_ 49 = .ok (.invokevirtual 44, 3) := by decide +kernel
theorem d38_52 : decode b0_ 52 = .ok (.iadd, 1) := by decide +kernel
theorem d38_53 : decode b0_ 53 = .ok (.putfield 13, 3) := by decide +kernel
theorem d38_56 : decode b0_ 56 = .ok (.aload_n 3, 1) := by decide +kernel
theorem d38_57 : decode b0_ 57 = .ok (.invokevirtual 59, 3) := by decide +kernel
theorem d38_60 : decode b0_ 60 = .ok (.aload_n 0, 1) := by decide +kernel
theorem d38_61 : decode b0_ 61 = .ok (.getfield 13, 3) := by decide +kernel
theorem d38_64 : decode b0_ 64 = .ok (.aload_n 0, 1) := by decide +kernel
theorem d38_65 : decode b0_ 65 = .ok (.getfield 33, 3) := by decide +kernel
theorem d38_68 : decode b0_ 68 = .ok (.isub, 1) := by decide +kernel
theorem d38_85 : decode b0_ 85 = .ok (.aload_n 3, 1) := by decide +kernel
theorem d38_86 : decode b0_ 86 = .ok (.invokevirtual 90, 3) := by decide +kernel
theorem pd_26 : parseMethodDescriptor "()Ljava/lang/String;" = some ⟨[], some (.object "java/lang/String")⟩ := by decide +kernel
theorem cs43 {a0 : Array Value} {Z : State} (hw : oHW a0 Z) : oCall Z Y3 (.invokevirtual 90) yy31 b65_ 1 (some (.object Y0)) (oRv Z 0 Y2) := oCall.virt (oW hw 314 rfl) (oW hw 315 rfl) (fun _ hZ => notFace_of_selects (args := #[]) (mvT hZ (oW hw 317 rfl))) (oW hw 317 rfl) (oW hw 316 rfl) (oW hw 99 rfl) (oW hw 318 rfl) (by decide) pd_26
theorem d38_89 : decode b0_ 89 = .ok (.astore 4, 2) := by decide +kernel
theorem d38_91 : decode b0_ 91 = .ok (.iconst 0, 1) := by decide +kernel
theorem d38_92 : decode b0_ 92 = .ok (.istore 5, 2) := by decide +kernel
theorem d38_94 : decode b0_ 94 = .ok (.iload 5, 2) := by decide +kernel
theorem d38_96 : decode b0_ 96 = .ok (.aload 4, 2) := by decide +kernel
theorem d38_98 : decode b0_ 98 = .ok (.invokevirtual 94, 3) := by decide +kernel
theorem cs44 {a0 : Array Value} {Z : State} (hw : oHW a0 Z) : oCall Z Y3 (.invokevirtual 94) yy1 b23_ 1 (some .int) (oRv Z 0 Y0) := oCall.virt (oW hw 319 rfl) (oW hw 121 rfl) (fun _ hZ => notFace_of_selects (args := #[]) (mvT hZ (oW hw 123 rfl))) (oW hw 123 rfl) (oW hw 122 rfl) (oW hw 2 rfl) (oW hw 124 rfl) (by decide) pd_6
theorem d38_101 : decode b0_ 101 = .ok (.if_icmp .ge 43, 3) := by decide +kernel
theorem d38_144 : decode b0_ 144 = .ok (.goto (-128), 3) := by decide +kernel
theorem d38_147 : decode b0_ 147 = .ok (.aload_n 0, 1) := by decide +kernel
theorem d38_148 : decode b0_ 148 = .ok (.getfield 106, 3) := by decide +kernel
theorem d38_151 : decode b0_ 151 = .ok (.ifnull 38, 3) := by decide +kernel
theorem d38_189 : decode b0_ 189 = .ok (.return_, 1) := by decide +kernel
theorem d38_104 : decode b0_ 104 = .ok (.aload 4, 2) := by decide +kernel
theorem d38_106 : decode b0_ 106 = .ok (.iload 5, 2) := by decide +kernel
theorem d38_108 : decode b0_ 108 = .ok (.invokevirtual 97, 3) := by decide +kernel
theorem pd_27 : parseMethodDescriptor "(I)I" = some ⟨[.int], some .int⟩ := by decide +kernel
theorem cs45 {a0 : Array Value} {Z : State} (hw : oHW a0 Z) : oCall Z Y3 (.invokevirtual 97) yy14 b5_ 3 (some .int) (oRv Z 1 Y0) := oCall.virt (oW hw 343 rfl) (oW hw 344 rfl) (fun _ hZ => notFace_of_selects (args := #[]) (mvT hZ (oW hw 346 rfl))) (oW hw 346 rfl) (oW hw 345 rfl) (oW hw 2 rfl) (oW hw 347 rfl) (by decide) pd_27
theorem d38_111 : decode b0_ 111 = .ok (.istore 6, 2) := by decide +kernel
theorem d38_113 : decode b0_ 113 = .ok (.aload_n 0, 1) := by decide +kernel
theorem d38_114 : decode b0_ 114 = .ok (.getfield 9, 3) := by decide +kernel
theorem d38_117 : decode b0_ 117 = .ok (.aload_n 0, 1) := by decide +kernel
theorem d38_118 : decode b0_ 118 = .ok (.dup, 1) := by decide +kernel
theorem d38_119 : decode b0_ 119 = .ok (.getfield 33, 3) := by decide +kernel
theorem d38_122 : decode b0_ 122 = .ok (.dup_x1, 1) := by decide +kernel
theorem d38_123 : decode b0_ 123 = .ok (.iconst 1, 1) := by decide +kernel
theorem d38_124 : decode b0_ 124 = .ok (.iadd, 1) := by decide +kernel
theorem d38_125 : decode b0_ 125 = .ok (.putfield 33, 3) := by decide +kernel
theorem d38_128 : decode b0_ 128 = .ok (.iload 6, 2) := by decide +kernel
theorem d38_130 : decode b0_ 130 = .ok (.iastore, 1) := by decide +kernel
theorem d38_131 : decode b0_ 131 = .ok (.iload 5, 2) := by decide +kernel
theorem d38_133 : decode b0_ 133 = .ok (.iload 6, 2) := by decide +kernel
theorem d38_135 : decode b0_ 135 = .ok (.invokestatic 101, 3) := by decide +kernel
theorem cs46 {a0 : Array Value} {Z : State} (hw : oHW a0 Z) : oCall Z Y3 (.invokestatic 101) yy25 b35_ 1 (some .int) (oRs 1) := oCall.stat (oW hw 349 rfl) (oW hw 350 rfl) (oW hw 337 rfl) (oW hw 351 rfl) (by decide) pd_27
theorem d38_138 : decode b0_ 138 = .ok (.iadd, 1) := by decide +kernel
theorem d38_139 : decode b0_ 139 = .ok (.istore 5, 2) := by decide +kernel
theorem d38_141 : decode b0_ 141 = .ok (.goto (-47), 3) := by decide +kernel
theorem d38_69 : decode b0_ 69 = .ok (.if_icmp .le 16, 3) := by decide +kernel
theorem d38_72 : decode b0_ 72 = .ok (.aload_n 0, 1) := by decide +kernel
theorem d38_73 : decode b0_ 73 = .ok (.aload_n 0, 1) := by decide +kernel
theorem d38_74 : decode b0_ 74 = .ok (.invokevirtual 62, 3) := by decide +kernel
theorem d38_77 : decode b0_ 77 = .ok (.aload_n 3, 1) := by decide +kernel
theorem d38_78 : decode b0_ 78 = .ok (.invokevirtual 59, 3) := by decide +kernel
theorem d38_81 : decode b0_ 81 = .ok (.iadd, 1) := by decide +kernel
theorem d38_82 : decode b0_ 82 = .ok (.invokevirtual 87, 3) := by decide +kernel
theorem cs47 {a0 : Array Value} {Z : State} (hw : oHW a0 Z) : oCall Z Y3 (.invokevirtual 87) yy45 b2_ 4 none (oRv Z 1 Y3) := oCall.priv (oW hw 390 rfl) (oW hw 391 rfl) (oPrivSel (y := yy45) (oW hw 189 rfl) (oW hw 392 rfl) (oW hw 391 rfl) (by decide)) (oW hw 392 rfl) (oW hw 190 rfl) (oW hw 393 rfl) (by decide) pd_25 _
theorem rAp_1 (l : Launch) (Z : State) (a0 : Array Value) (hw : oHW a0 Z) (ws : List Jvm.Cond) (xt xb : Addr) (xN xg xe : Int32) (xv : List Value) (xkb : ClassId) (xa xf : Addr) (xk : ClassId) (xm : Int32) (xe0 : Addr) (xi0 xd0 : Int32) (xs0 : Addr) (xn0 : Int32) (xb0 : Addr) (xk0 : ClassId) (xu0 xw0 : Int32) (xfm : Value) (xz : Int32) (h0 : Heap) (O0 : Ext Z.heap h0) (S_Z : Sta Z Z.heap Y0 Y9 "Z" (.int xz)) (hz : ¬ xz = (0 : Int32)) (S_A : Sta Z Z.heap Y4 Y10 "Z" (.int (1 : Int32))) (S_H : Sta Z Z.heap Y4 "HI_BYTE_SHIFT" "I" (.int (0 : Int32))) (S_L : Sta Z Z.heap Y4 "LO_BYTE_SHIFT" "I" (.int (8 : Int32))) (S_F : Sta Z Z.heap Y11 Y15 Y16 xfm) (hcat : xfm.category = 1) (og_xt : Z.heap.size ≤ xt) (og_xb : Z.heap.size ≤ xb) (ne_xt_xb : xt ≠ xb) (ne_xa_xt : xa ≠ xt) (ne_xa_xb : xa ≠ xb) (ne_xf_xt : xf ≠ xt) (ne_xf_xb : xf ≠ xb) (ne_xe0_xt : xe0 ≠ xt) (ne_xe0_xb : xe0 ≠ xb) (ne_xs0_xt : xs0 ≠ xt) (ne_xs0_xb : xs0 ≠ xb) (ne_xb0_xt : xb0 ≠ xt) (ne_xb0_xb : xb0 ≠ xb) (ht : oHT xN xg xe) (hNc : xN.toInt = 16 ∧ (xN.toInt - (xe.toInt - xg.toInt)) ≤ 0) (hp0 : 0 ≤ xi0.toInt ∧ 0 ≤ xd0.toInt ∧ xi0.toInt + xd0.toInt ≤ (xN.toInt - (xe.toInt - xg.toInt))) (hn0 : oNU xn0 xu0 xw0) (E_xt : Exa Z h0 xt Y3) (F_buffer_xt : Fld Z h0 xt Y3 "buffer" "[I" (.ref xb)) (F_gapStart_xt : Fld Z h0 xt Y3 "gapStart" "I" (.int xg)) (F_gapEnd_xt : Fld Z h0 xt Y3 "gapEnd" "I" (.int xe)) (F_journal_xt : Fld Z h0 xt Y3 "journal" Y18 .null) (V_xb : Arv Z h0 xb xkb .int xN xv (.int (0 : Int32))) (E_xa : Exa Z h0 xa Y1) (F_elementData_xa : Fld Z h0 xa Y1 "elementData" Y7 (.ref xf)) (F_size_xa : Fld Z h0 xa Y1 "size" "I" (.int (1 : Int32))) (F_modCount_xa : Fld Z h0 xa Y8 "modCount" "I" (.int xm)) (V_xf : Arv Z h0 xf xk (.object Y6) (10 : Int32) [(.ref xe0), .null, .null, .null, .null, .null, .null, .null, .null, .null] .null) (E_xe0 : Exa Z h0 xe0 Y2) (F_position_xe0 : Fld Z h0 xe0 Y2 "position" "I" (.int xi0)) (F_deleteCount_xe0 : Fld Z h0 xe0 Y2 "deleteCount" "I" (.int xd0)) (F_insertion_xe0 : Fld Z h0 xe0 Y2 "insertion" Y13 (.ref xs0)) (F_insertionLength_xe0 : Fld Z h0 xe0 Y2 Y12 "I" (.int xn0)) (U_xs0 : oS Z h0 xs0 xb0 xk0 xn0 xu0 xw0) :
    oCon l Z yy49 b0_ 7 none ws ({ frames := 5, cells := 2, slots := 132, locals := 114 } : Room) #[(.ref xt), (.ref xa)] h0 (Q_rAp_1 Z xt xb xN xg xe xv xkb xa xf xk xm xe0 xi0 xd0 xs0 xn0 xb0 xk0 xu0 xw0 xfm xz h0) := by
  refine oCon.of (plainFor_of_name pn_10) ?_
  intro p e s m below meth c T X hx hby hml hown hnm hret hlk hZ e0
  have hml : c.maxLocals = 7 := hml
  have K : oKp h0 h0 [xt, xb] [] := oKp.nil _ _
  refine oWk.cast (g' := (mkF m 0 #[rv xt, rv xa, uu, uu, uu, uu, uu] [])) (by first | rfl | (simp [entryFrame, mkF, argsToLocals, Value.category]; done)) ?_
  refine oWk.st (fun _ kt => zA X hx hby d38_0 rfl rfl rfl kt) ?_
  have Oh := K.old O0 (allS og_xt (allS og_xb all0))
  obtain ⟨T, L2, X, e0, K, st⟩ := (cs40 hw).pure X hx hZ hown e0 K (A := [(.ref xt)]) ⟨rfl, _, _, rfl, E_xt⟩ (rTL l Z a0 hw [] xt xb xN xg xe xv xkb h0 Oh E_xt F_buffer_xt F_gapStart_xt F_gapEnd_xt F_journal_xt V_xb) (W := 0) (by decide) hml (Ls := #[rv xt, rv xa, uu, uu, uu, uu, uu]) rfl (rest := []) rfl rfl hby d38_1
  refine oWk.st (fun _ kt => st _ (zA X hx hby d38_4 rfl rfl rfl kt)) ?_
  obtain ⟨T, L4, X, e0, K, st⟩ := (cs41 hw).pure X hx hZ hown e0 K (A := [(.int (xN - (xe - xg))), (.ref xa)]) rfl (rLA_1 l Z a0 hw [] (xN - (xe - xg)) xa xf xk xm xe0 xi0 xd0 xs0 xn0 h0 Oh E_xa F_elementData_xa F_size_xa F_modCount_xa V_xf E_xe0 F_position_xe0 F_deleteCount_xe0 F_insertion_xe0 F_insertionLength_xe0 (ar23 ht hNc hp0 hn0)) (W := 0) (by decide) hml (Ls := #[rv xt, rv xa, uu, uu, uu, uu, uu]) rfl (rest := []) rfl rfl hby d38_5
  refine oWk.st (fun _ kt => st _ (XS.pop X.here hx rfl (hb hby d38_8) rfl rfl (zA X hx hby d38_9 rfl rfl rfl kt))) ?_
  have lt_xt := E_xt.lt
  have lt_xb := V_xb.lt
  have lt_xa := E_xa.lt
  have lt_xf := V_xf.lt
  have lt_xe0 := E_xe0.lt
  have lt_xs0 := U_xs0.lt
  have lt_xb0 := U_xs0.sb.lt
  obtain ⟨cq6, kq6, q6a, q6b, q6c⟩ := isOf hZ e0 E_xa
  obtain ⟨_, _, ⟨T, L6, k6, n6⟩, -, X, ⟨Lc6, hQ, l6, y6, z6⟩, st⟩ := X.interfaceBack hx (xi := yy50) (y := yy37) hown (mvT hZ (oW hw 261 rfl)) (mvT hZ (oW hw 262 rfl)) (mvT hZ (oW hw 263 rfl)) (mvT hZ (oW hw 264 rfl)) (mvT hZ (oW hw 265 rfl)) (mvT hZ (oW hw 266 rfl)) (mvT hZ (oW hw 267 rfl)) (mvT hZ (oW hw 223 rfl)) (by decide) (backOf (W := 0) (rIter l Z a0 hw [] xa xm h0 Oh E_xa F_modCount_xa) hZ (oW hw 268 rfl) (oW hw 75 rfl) (by decide) (by decide)) q6a q6b q6c (g := (mkF m 10 #[rv xt, rv xa, uu, uu, uu, uu, uu] [(.ref xa)])) rfl (by rw [hml]; rfl) (Steps.refl _) (argsL := []) (rest := []) (lenOf pd_23 rfl) rfl (Nat.le_of_eq rfl) (hb hby d38_10) (fun _ _ => ⟨rfl, e0, (by decide : 0 + 1 ≤ _), (by decide : 0 + 4 ≤ _)⟩)
  dsimp only [Pt.U, Pt.locs, Pt.cells, Pt.slots] at X l6 y6 z6 st hQ
  subst l6 y6 z6
  obtain ⟨h, e0⟩ : ∃ z, T.heap = z := ⟨_, rfl⟩
  rw [e0] at hQ
  obtain ⟨nt5, rfl, K5, gn_nt5, E_nt5, F_cursor_nt5, F_lastRet_nt5, F_expectedModCount_nt5, F_this_0_nt5⟩ := hQ
  have ge_nt5 := Nat.le_trans K.le gn_nt5
  have ne_xt_nt5 : xt ≠ nt5 := Nat.ne_of_lt (Nat.lt_of_lt_of_le lt_xt gn_nt5)
  have ne_xb_nt5 : xb ≠ nt5 := Nat.ne_of_lt (Nat.lt_of_lt_of_le lt_xb gn_nt5)
  have ne_xa_nt5 : xa ≠ nt5 := Nat.ne_of_lt (Nat.lt_of_lt_of_le lt_xa gn_nt5)
  have ne_xf_nt5 : xf ≠ nt5 := Nat.ne_of_lt (Nat.lt_of_lt_of_le lt_xf gn_nt5)
  have ne_xe0_nt5 : xe0 ≠ nt5 := Nat.ne_of_lt (Nat.lt_of_lt_of_le lt_xe0 gn_nt5)
  have ne_xs0_nt5 : xs0 ≠ nt5 := Nat.ne_of_lt (Nat.lt_of_lt_of_le lt_xs0 gn_nt5)
  have ne_xb0_nt5 : xb0 ≠ nt5 := Nat.ne_of_lt (Nat.lt_of_lt_of_le lt_xb0 gn_nt5)
  have K := K.call K5 all0
  refine oWk.st (fun _ kt => st.trans (zTn X hx hby d38_15 rfl rfl rfl (l' := #[rv xt, rv xa, rv nt5, uu, uu, uu, uu]) rfl (zA X hx hby d38_16 rfl rfl rfl kt))) ?_
  have E_xa := (E_xa.keep K5.1)
  have F_size_xa := (F_size_xa.keep K5.1 nin0)
  have Oh := K.old O0 (allS og_xt (allS og_xb all0))
  obtain ⟨cq8, kq8, q8a, q8b, q8c⟩ := isOf hZ e0 E_nt5
  obtain ⟨_, _, ⟨T, L8, k8, n8⟩, -, X, ⟨Lc8, hQ, l8, y8, z8⟩, st⟩ := X.interfaceBack hx (xi := yy51) (y := yy38) hown (mvT hZ (oW hw 284 rfl)) (mvT hZ (oW hw 285 rfl)) (mvT hZ (oW hw 286 rfl)) (mvT hZ (oW hw 287 rfl)) (mvT hZ (oW hw 288 rfl)) (mvT hZ (oW hw 289 rfl)) (mvT hZ (oW hw 290 rfl)) (mvT hZ (oW hw 291 rfl)) (by decide) (backOf (W := 0) (rHas_1_0 l Z a0 hw [] nt5 xa h Oh E_nt5 F_cursor_nt5 F_this_0_nt5 E_xa F_size_xa) hZ (oW hw 292 rfl) (oW hw 271 rfl) (by decide) (by decide)) q8a q8b q8c (g := (mkF m 17 #[rv xt, rv xa, rv nt5, uu, uu, uu, uu] [(.ref nt5)])) rfl (by rw [hml]; rfl) (Steps.refl _) (argsL := []) (rest := []) (lenOf pd_3 rfl) rfl (Nat.le_of_eq rfl) (hb hby d38_17) (fun _ _ => ⟨rfl, e0, (by decide : 1 + 0 ≤ _), (by decide : 4 + 0 ≤ _)⟩)
  dsimp only [Pt.U, Pt.locs, Pt.cells, Pt.slots] at X l8 y8 z8 st hQ
  subst l8 y8 z8
  obtain ⟨rfl, e0, K7⟩ := hQ
  have K := K.call K7 all0
  rw [e0] at K
  refine oWk.st (fun _ kt => st.trans (zH X hx hby d38_22 rfl rfl ((if0 _ _).trans (feq (by decide)).1) (zA X hx hby d38_25 rfl rfl rfl kt))) ?_
  have F_elementData_xa := (F_elementData_xa.keep K5.1 nin0)
  have F_modCount_xa := (F_modCount_xa.keep K5.1 nin0)
  have V_xf := (V_xf.keep K5.1 nin0)
  obtain ⟨cq10, kq10, q10a, q10b, q10c⟩ := isOf hZ e0 E_nt5
  obtain ⟨_, _, ⟨T, L10, k10, n10⟩, -, X, ⟨Lc10, hQ, l10, y10, z10⟩, st⟩ := X.interfaceBack hx (xi := yy52) (y := yy40) hown (mvT hZ (oW hw 296 rfl)) (mvT hZ (oW hw 297 rfl)) (mvT hZ (oW hw 298 rfl)) (mvT hZ (oW hw 299 rfl)) (mvT hZ (oW hw 300 rfl)) (mvT hZ (oW hw 301 rfl)) (mvT hZ (oW hw 302 rfl)) (mvT hZ (oW hw 291 rfl)) (by decide) (backOf (W := 0) (rNext_1_0 l Z a0 hw [] nt5 (-1 : Int32) xa xf xk xm xe0 h Oh (Nat.le_trans O0.1 ge_nt5) ne_xa_nt5 ne_xf_nt5 E_nt5 F_cursor_nt5 F_lastRet_nt5 F_expectedModCount_nt5 F_this_0_nt5 E_xa F_elementData_xa F_size_xa F_modCount_xa V_xf) hZ (oW hw 303 rfl) (oW hw 271 rfl) (by decide) (by decide)) q10a q10b q10c (g := (mkF m 26 #[rv xt, rv xa, rv nt5, uu, uu, uu, uu] [(.ref nt5)])) rfl (by rw [hml]; rfl) (Steps.refl _) (argsL := []) (rest := []) (lenOf pd_24 rfl) rfl (Nat.le_of_eq rfl) (hb hby d38_26) (fun _ _ => ⟨rfl, e0, (by decide : 1 + 0 ≤ _), (by decide : 4 + 0 ≤ _)⟩)
  dsimp only [Pt.U, Pt.locs, Pt.cells, Pt.slots] at X l10 y10 z10 st hQ
  subst l10 y10 z10
  obtain ⟨h, e0⟩ : ∃ z, T.heap = z := ⟨_, rfl⟩
  rw [e0] at hQ
  obtain ⟨rfl, K9, E_nt5, F_cursor_nt5, F_lastRet_nt5, F_expectedModCount_nt5, F_this_0_nt5⟩ := hQ
  have K := K.call K9 (allS (Or.inr ge_nt5) all0)
  refine oWk.st (fun _ kt => st.trans kt) ?_
  have E_xe0 := ((E_xe0.keep K5.1).keep K9.1)
  obtain ⟨T, X, e0, st⟩ := castY X hx hZ hown (oW hw 244 rfl) e0 (Ins.self E_xe0) (g := (mkF m 31 #[rv xt, rv xa, rv nt5, uu, uu, uu, uu] [(.ref xe0)])) rfl rfl (hb hby d38_31)
  refine oWk.st (fun _ kt => st _ (zTn X hx hby d38_34 rfl rfl rfl (l' := #[rv xt, rv xa, rv nt5, rv xe0, uu, uu, uu]) rfl (zA X hx hby d38_35 rfl rfl rfl (zA X hx hby d38_36 rfl rfl rfl kt)))) ?_
  have F_position_xe0 := ((F_position_xe0.keep K5.1 nin0).keep K9.1 (ninS ne_xe0_nt5 nin0))
  have Oh := K.old O0 (allS og_xt (allS og_xb all0))
  obtain ⟨T, L12, X, e0, K, st⟩ := (cs38 hw).pure X hx hZ hown e0 K (A := [(.ref xe0)]) ⟨rfl, _, _, rfl, E_xe0⟩ (rGposition l Z a0 hw [] xe0 xi0 h Oh F_position_xe0) (W := 1) (by decide) hml (Ls := #[rv xt, rv xa, rv nt5, rv xe0, uu, uu, uu]) rfl (rest := [(.ref xt)]) rfl rfl hby d38_37
  refine oWk.st (fun _ kt => st _ kt) ?_
  have E_xt := ((E_xt.keep K5.1).keep K9.1)
  have F_buffer_xt := ((F_buffer_xt.keep K5.1 nin0).keep K9.1 (ninS ne_xt_nt5 nin0))
  have F_gapStart_xt := ((F_gapStart_xt.keep K5.1 nin0).keep K9.1 (ninS ne_xt_nt5 nin0))
  have F_gapEnd_xt := ((F_gapEnd_xt.keep K5.1 nin0).keep K9.1 (ninS ne_xt_nt5 nin0))
  have F_journal_xt := ((F_journal_xt.keep K5.1 nin0).keep K9.1 (ninS ne_xt_nt5 nin0))
  have V_xb := ((V_xb.keep K5.1 nin0).keep K9.1 (ninS ne_xb_nt5 nin0))
  obtain ⟨_, T, h, Lc14, X, e0, hQ, st⟩ := (cs42 hw).run X hx hZ hown e0 (A := [(.ref xt), (.int xi0)]) ⟨rfl, _, _, rfl, E_xt⟩ (rMG l Z a0 hw [] xt xb xN xg xe xv xkb xi0 h Oh og_xt og_xb ne_xt_xb (ar24 ht hNc hp0 hn0) (ar25 ht hNc hp0 hn0) E_xt F_buffer_xt F_gapStart_xt F_gapEnd_xt F_journal_xt V_xb) (W := 0) (by decide) hml (Ls := #[rv xt, rv xa, rv nt5, rv xe0, uu, uu, uu]) rfl (rest := []) rfl rfl hby d38_40
  obtain ⟨nge13, nv13, rfl, K13, E_xt, F_buffer_xt, F_gapStart_xt, F_gapEnd_xt, F_journal_xt, V_xb, hge13⟩ := hQ
  have K := K.call K13 (allS (Or.inl (List.mem_of_getElem? (i := 0) rfl)) (allS (Or.inl (List.mem_of_getElem? (i := 1) rfl)) all0))
  refine oWk.st (fun _ kt => st _ (zA X hx hby d38_43 rfl rfl rfl (zD X hx hby d38_44 rfl rfl rfl kt))) ?_
  obtain ⟨T, X, e0, st⟩ := getF X hx hZ hown (host := "") (Or.inl (oW hw 198 rfl)) Via.refl e0 F_gapEnd_xt (g := (mkF m 45 #[rv xt, rv xa, rv nt5, rv xe0, uu, uu, uu] [(.ref xt), (.ref xt)])) rfl rfl (hb hby d38_45)
  refine oWk.st (fun _ kt => st _ (zA X hx hby d38_48 rfl rfl rfl kt)) ?_
  have F_deleteCount_xe0 := (((F_deleteCount_xe0.keep K5.1 nin0).keep K9.1 (ninS ne_xe0_nt5 nin0)).keep K13.1 (ninS ne_xe0_xt (ninS ne_xe0_xb nin0)))
  have Oh := K.old O0 (allS og_xt (allS og_xb all0))
  have E_xe0 := (E_xe0.keep K13.1)
  obtain ⟨T, L16, X, e0, K, st⟩ := (cs37 hw).pure X hx hZ hown e0 K (A := [(.ref xe0)]) ⟨rfl, _, _, rfl, E_xe0⟩ (rGdeleteCount l Z a0 hw [] xe0 xd0 h Oh F_deleteCount_xe0) (W := 2) (by decide) hml (Ls := #[rv xt, rv xa, rv nt5, rv xe0, uu, uu, uu]) rfl (rest := [(.int nge13), (.ref xt)]) rfl rfl hby d38_49
  refine oWk.st (fun _ kt => st _ (XS.iadd X.here hx rfl (hb hby d38_52) rfl kt)) ?_
  obtain ⟨T, h, X, e0, W17, st⟩ := putF X hx hZ hown (host := "") (Or.inl (oW hw 198 rfl)) Via.refl e0 F_gapEnd_xt E_xt (Or.inl (oW hw 199 rfl)) (oW hw 189 rfl) (ty := .int) (by decide) rfl rfl (g := (mkF m 53 #[rv xt, rv xa, rv nt5, rv xe0, uu, uu, uu] [(.int (nge13 + xd0)), (.ref xt)])) rfl rfl (hb hby d38_53)
  have K := K.wr W17 (Or.inl (List.mem_of_getElem? (i := 0) rfl))
  have F_gapEnd_xt := F_gapEnd_xt.same W17
  refine oWk.st (fun _ kt => st _ (zA X hx hby d38_56 rfl rfl rfl kt)) ?_
  have F_insertionLength_xe0 := ((((F_insertionLength_xe0.keep K5.1 nin0).keep K9.1 (ninS ne_xe0_nt5 nin0)).keep K13.1 (ninS ne_xe0_xt (ninS ne_xe0_xb nin0))).other W17 (Or.inl ne_xe0_xt))
  have Oh := K.old O0 (allS og_xt (allS og_xb all0))
  have E_xe0 := (E_xe0.wr W17)
  obtain ⟨T, L19, X, e0, K, st⟩ := (cs39 hw).pure X hx hZ hown e0 K (A := [(.ref xe0)]) ⟨rfl, _, _, rfl, E_xe0⟩ (rGinsertionLength l Z a0 hw [] xe0 xn0 h Oh F_insertionLength_xe0) (W := 0) (by decide) hml (Ls := #[rv xt, rv xa, rv nt5, rv xe0, uu, uu, uu]) rfl (rest := []) rfl rfl hby d38_57
  refine oWk.st (fun _ kt => st _ (zA X hx hby d38_60 rfl rfl rfl kt)) ?_
  obtain ⟨T, X, e0, st⟩ := getF X hx hZ hown (host := "") (Or.inl (oW hw 198 rfl)) Via.refl e0 F_gapEnd_xt (g := (mkF m 61 #[rv xt, rv xa, rv nt5, rv xe0, uu, uu, uu] [(.ref xt), (.int xn0)])) rfl rfl (hb hby d38_61)
  refine oWk.st (fun _ kt => st _ (zA X hx hby d38_64 rfl rfl rfl kt)) ?_
  have F_gapStart_xt := (F_gapStart_xt.other W17 (Or.inr (slot_ne (Or.inl (oW hw 206 rfl)) (Or.inl (oW hw 199 rfl)) (by decide) (t := .int) (t' := .int) (by decide) (by decide))))
  obtain ⟨T, X, e0, st⟩ := getF X hx hZ hown (host := "") (Or.inl (oW hw 205 rfl)) Via.refl e0 F_gapStart_xt (g := (mkF m 65 #[rv xt, rv xa, rv nt5, rv xe0, uu, uu, uu] [(.ref xt), (.int (nge13 + xd0)), (.int xn0)])) rfl rfl (hb hby d38_65)
  refine oWk.to (mkF m 69 #[rv xt, rv xa, rv nt5, rv xe0, uu, uu, uu] [(.int ((nge13 + xd0) - xi0)), (.int xn0)]) (fun _ kt => st _ (XS.isub X.here hx rfl (hb hby d38_68) rfl kt)) ?_
  have E_xt := (E_xt.wr W17)
  have E_xa := (((E_xa.keep K9.1).keep K13.1).wr W17)
  have V_xf := (((V_xf.keep K9.1 (ninS ne_xf_nt5 nin0)).keep K13.1 (ninS ne_xf_xt (ninS ne_xf_xb nin0))).other W17 ne_xf_xt)
  have U_xs0 := ((((U_xs0.keep K5.1 nin0 nin0).keep K9.1 (ninS ne_xs0_nt5 nin0) (ninS ne_xb0_nt5 nin0)).keep K13.1 (ninS ne_xs0_xt (ninS ne_xs0_xb nin0)) (ninS ne_xb0_xt (ninS ne_xb0_xb nin0))).wr W17 ne_xs0_xt ne_xb0_xt)
  have E_nt5 := ((E_nt5.keep K13.1).wr W17)
  have F_elementData_xa := (((F_elementData_xa.keep K9.1 (ninS ne_xa_nt5 nin0)).keep K13.1 (ninS ne_xa_xt (ninS ne_xa_xb nin0))).other W17 (Or.inl ne_xa_xt))
  have F_size_xa := (((F_size_xa.keep K9.1 (ninS ne_xa_nt5 nin0)).keep K13.1 (ninS ne_xa_xt (ninS ne_xa_xb nin0))).other W17 (Or.inl ne_xa_xt))
  have F_modCount_xa := (((F_modCount_xa.keep K9.1 (ninS ne_xa_nt5 nin0)).keep K13.1 (ninS ne_xa_xt (ninS ne_xa_xb nin0))).other W17 (Or.inl ne_xa_xt))
  have F_position_xe0 := ((F_position_xe0.keep K13.1 (ninS ne_xe0_xt (ninS ne_xe0_xb nin0))).other W17 (Or.inl ne_xe0_xt))
  have F_deleteCount_xe0 := (F_deleteCount_xe0.other W17 (Or.inl ne_xe0_xt))
  have F_insertion_xe0 := ((((F_insertion_xe0.keep K5.1 nin0).keep K9.1 (ninS ne_xe0_nt5 nin0)).keep K13.1 (ninS ne_xe0_xt (ninS ne_xe0_xb nin0))).other W17 (Or.inl ne_xe0_xt))
  have F_cursor_nt5 := ((F_cursor_nt5.keep K13.1 (ninS (Ne.symm ne_xt_nt5) (ninS (Ne.symm ne_xb_nt5) nin0))).other W17 (Or.inl (Ne.symm ne_xt_nt5)))
  have F_lastRet_nt5 := ((F_lastRet_nt5.keep K13.1 (ninS (Ne.symm ne_xt_nt5) (ninS (Ne.symm ne_xb_nt5) nin0))).other W17 (Or.inl (Ne.symm ne_xt_nt5)))
  have F_expectedModCount_nt5 := ((F_expectedModCount_nt5.keep K13.1 (ninS (Ne.symm ne_xt_nt5) (ninS (Ne.symm ne_xb_nt5) nin0))).other W17 (Or.inl (Ne.symm ne_xt_nt5)))
  have F_this_0_nt5 := ((F_this_0_nt5.keep K13.1 (ninS (Ne.symm ne_xt_nt5) (ninS (Ne.symm ne_xb_nt5) nin0))).other W17 (Or.inl (Ne.symm ne_xt_nt5)))
  have F_buffer_xt := (F_buffer_xt.other W17 (Or.inr (slot_ne (Or.inl (oW hw 197 rfl)) (Or.inl (oW hw 199 rfl)) (by decide) (t := (.array .int)) (t' := .int) (by decide) (by decide))))
  have F_journal_xt := (F_journal_xt.other W17 (Or.inr (slot_ne (Or.inl (oW hw 321 rfl)) (Or.inl (oW hw 199 rfl)) (by decide) (t := (.object Y17)) (t' := .int) (by decide) (by decide))))
  have V_xb := (V_xb.other W17 (Ne.symm ne_xt_xb))
  have J85 : ∀ (nb_0 : Addr) (nN_0 : Int32) (nge_0 : Int32) (vb_0 : List Value) (nk_0 : ClassId), (nb_0 = xb ∨ h0.size ≤ nb_0) → (xt ≠ nb_0) → (xa ≠ nb_0) → (xf ≠ nb_0) → (xe0 ≠ nb_0) → (xs0 ≠ nb_0) → (xb0 ≠ nb_0) → (nt5 ≠ nb_0) → (oHT nN_0 xi0 nge_0) → (nN_0.toInt - nge_0.toInt = xN.toInt - (nge13 + xd0).toInt) → (xn0.toInt ≤ nge_0.toInt - xi0.toInt) → (nN_0.toInt = xN.toInt ∨ oNN xN nN_0) → ∀ (T' : State) (L' : List Loc) (h : Heap), oStG X 1 128 T' L' → T'.heap = h → oKp h0 h [xt, xb] L' → Exa Z h xa Y1 → Fld Z h xa Y1 "elementData" Y7 (.ref xf) → Fld Z h xa Y1 "size" "I" (.int (1 : Int32)) → Fld Z h xa Y8 "modCount" "I" (.int xm) → Arv Z h xf xk (.object Y6) (10 : Int32) [(.ref xe0), .null, .null, .null, .null, .null, .null, .null, .null, .null] .null → Exa Z h xe0 Y2 → Fld Z h xe0 Y2 "position" "I" (.int xi0) → Fld Z h xe0 Y2 "deleteCount" "I" (.int xd0) → Fld Z h xe0 Y2 "insertion" Y13 (.ref xs0) → Fld Z h xe0 Y2 Y12 "I" (.int xn0) → oS Z h xs0 xb0 xk0 xn0 xu0 xw0 → Exa Z h nt5 Y5 → Fld Z h nt5 Y5 "cursor" "I" (.int (1 : Int32)) → Fld Z h nt5 Y5 "lastRet" "I" (.int (0 : Int32)) → Fld Z h nt5 Y5 Y19 "I" (.int xm) → Fld Z h nt5 Y5 "this$0" Y14 (.ref xa) → Exa Z h xt Y3 → Fld Z h xt Y3 "buffer" "[I" (.ref nb_0) → Fld Z h xt Y3 "gapStart" "I" (.int xi0) → Fld Z h xt Y3 "gapEnd" "I" (.int nge_0) → Fld Z h xt Y3 "journal" Y18 .null → Arv Z h nb_0 nk_0 .int nN_0 vb_0 (.int (0 : Int32)) → oWk p.tables e below (oDn s below (Q_rAp_1 Z xt xb xN xg xe xv xkb xa xf xk xm xe0 xi0 xd0 xs0 xn0 xb0 xk0 xu0 xw0 xfm xz h0) ({ frames := 5, cells := 2, slots := 132, locals := 114 } : Room).cells ({ frames := 5, cells := 2, slots := 132, locals := 114 } : Room).slots) T' (mkF m 85 #[rv xt, rv xa, rv nt5, rv xe0, uu, uu, uu] []) := by
    intro nb_0 nN_0 nge_0 vb_0 nk_0 hgb0 ne_xt_nb_0 ne_xa_nb_0 ne_xf_nb_0 ne_xe0_nb_0 ne_xs0_nb_0 ne_xb0_nb_0 ne_nt5_nb_0 ha0 hb0 hf0 hd0 T LJ h X e0 K E_xa F_elementData_xa F_size_xa F_modCount_xa V_xf E_xe0 F_position_xe0 F_deleteCount_xe0 F_insertion_xe0 F_insertionLength_xe0 U_xs0 E_nt5 F_cursor_nt5 F_lastRet_nt5 F_expectedModCount_nt5 F_this_0_nt5 E_xt F_buffer_xt F_gapStart_xt F_gapEnd_xt F_journal_xt V_nb_0
    have X : Stand p l e _ _ m _ below meth c T LJ _ _ := X
    refine oWk.st (fun _ kt => zA X hx hby d38_85 rfl rfl rfl kt) ?_
    have Oh := K.old O0 (allS og_xt (allS og_xb all0))
    obtain ⟨T, L21, X, e0, K, st⟩ := (cs43 hw).pure X hx hZ hown e0 K (A := [(.ref xe0)]) ⟨rfl, _, _, rfl, E_xe0⟩ (rGinsertion l Z a0 hw [] xe0 xs0 h Oh F_insertion_xe0) (W := 0) (by decide) hml (Ls := #[rv xt, rv xa, rv nt5, rv xe0, uu, uu, uu]) rfl (rest := []) rfl rfl hby d38_86
    refine oWk.to (mkF m 94 #[rv xt, rv xa, rv nt5, rv xe0, rv xs0, iv 0, uu] []) (fun _ kt => st _ (zT X hx hby d38_89 rfl rfl rfl (l' := #[rv xt, rv xa, rv nt5, rv xe0, rv xs0, uu, uu]) rfl (zK X hx hby d38_91 rfl (zS X hx hby d38_92 rfl rfl (l' := #[rv xt, rv xa, rv nt5, rv xe0, rv xs0, iv 0, uu]) rfl kt)))) ?_
    have J94 : ∀ (d : Nat) (xi_22 : Int32) (gi_22 : Int32) (sl_22 : Slot) (vl_22 : List Value), ((xw0.toInt = 1 ∧ xi_22.toInt + d = xn0.toInt) ∨ (xw0.toInt = 2 ∧ xi_22.toInt + d + d = 2)) → (0 ≤ xi_22.toInt) → (gi_22.toInt + d = xi0.toInt + xn0.toInt) → (sl_22 = uu ∨ ∃ x, sl_22 = iv x) → ∀ (T' : State) (L' : List Loc) (h : Heap), oStd X T' L' → T'.heap = h → oKp h0 h [xt, xb] L' → Exa Z h xa Y1 → Fld Z h xa Y1 "elementData" Y7 (.ref xf) → Fld Z h xa Y1 "size" "I" (.int (1 : Int32)) → Fld Z h xa Y8 "modCount" "I" (.int xm) → Arv Z h xf xk (.object Y6) (10 : Int32) [(.ref xe0), .null, .null, .null, .null, .null, .null, .null, .null, .null] .null → Exa Z h xe0 Y2 → Fld Z h xe0 Y2 "position" "I" (.int xi0) → Fld Z h xe0 Y2 "deleteCount" "I" (.int xd0) → Fld Z h xe0 Y2 "insertion" Y13 (.ref xs0) → Fld Z h xe0 Y2 Y12 "I" (.int xn0) → oS Z h xs0 xb0 xk0 xn0 xu0 xw0 → Exa Z h nt5 Y5 → Fld Z h nt5 Y5 "cursor" "I" (.int (1 : Int32)) → Fld Z h nt5 Y5 "lastRet" "I" (.int (0 : Int32)) → Fld Z h nt5 Y5 Y19 "I" (.int xm) → Fld Z h nt5 Y5 "this$0" Y14 (.ref xa) → Exa Z h xt Y3 → Fld Z h xt Y3 "buffer" "[I" (.ref nb_0) → Fld Z h xt Y3 "gapStart" "I" (.int gi_22) → Fld Z h xt Y3 "gapEnd" "I" (.int nge_0) → Fld Z h xt Y3 "journal" Y18 .null → Arv Z h nb_0 nk_0 .int nN_0 vl_22 (.int (0 : Int32)) → oWk p.tables e below (oDn s below (Q_rAp_1 Z xt xb xN xg xe xv xkb xa xf xk xm xe0 xi0 xd0 xs0 xn0 xb0 xk0 xu0 xw0 xfm xz h0) ({ frames := 5, cells := 2, slots := 132, locals := 114 } : Room).cells ({ frames := 5, cells := 2, slots := 132, locals := 114 } : Room).slots) T' (mkF m 94 #[rv xt, rv xa, rv nt5, rv xe0, rv xs0, iv xi_22, sl_22] []) := by
      intro d
      induction d with
      | zero =>
        intro xi_22 gi_22 sl_22 vl_22 hi22 hj22 hg22 hs22 T LJ h X e0 K E_xa F_elementData_xa F_size_xa F_modCount_xa V_xf E_xe0 F_position_xe0 F_deleteCount_xe0 F_insertion_xe0 F_insertionLength_xe0 U_xs0 E_nt5 F_cursor_nt5 F_lastRet_nt5 F_expectedModCount_nt5 F_this_0_nt5 E_xt F_buffer_xt F_gapStart_xt F_gapEnd_xt F_journal_xt V_nb_0
        have X : Stand p l e _ _ m _ below meth c T LJ _ _ := X
        refine oWk.st (fun _ kt => zJ X hx hby d38_94 rfl rfl (zB X hx hby d38_96 rfl rfl rfl kt)) ?_
        have Oh := K.old O0 (allS og_xt (allS og_xb all0))
        obtain ⟨T, L24, X, e0, K, st⟩ := (cs44 hw).pure X hx hZ hown e0 K (A := [(.ref xs0)]) ⟨rfl, _, _, rfl, U_xs0.exa⟩ (rSLn l Z a0 hw [] xs0 xb0 xk0 xn0 xu0 xw0 xz h Oh S_Z hz U_xs0) (W := 1) (by decide) hml (Ls := #[rv xt, rv xa, rv nt5, rv xe0, rv xs0, iv xi_22, sl_22]) rfl (rest := [(.int xi_22)]) rfl rfl hby d38_98
        refine oWk.st (fun _ kt => st _ (zY X hx hby d38_101 rfl rfl (flt (ar29 ht hNc hp0 hn0 hge13 ha0 hb0 hf0 hd0 hi22 hj22 hg22)).2.1 (pc' := 144) rfl (zG X hx hby d38_144 rfl (pc' := 16) rfl (zA X hx hby d38_16 rfl rfl rfl kt)))) ?_
        obtain ⟨cq26, kq26, q26a, q26b, q26c⟩ := isOf hZ e0 E_nt5
        obtain ⟨_, _, ⟨T, L26, k26, n26⟩, -, X, ⟨Lc26, hQ, l26, y26, z26⟩, st⟩ := X.interfaceBack hx (xi := yy51) (y := yy38) hown (mvT hZ (oW hw 284 rfl)) (mvT hZ (oW hw 285 rfl)) (mvT hZ (oW hw 286 rfl)) (mvT hZ (oW hw 287 rfl)) (mvT hZ (oW hw 288 rfl)) (mvT hZ (oW hw 289 rfl)) (mvT hZ (oW hw 290 rfl)) (mvT hZ (oW hw 291 rfl)) (by decide) (backOf (W := 0) (rHas_1_1 l Z a0 hw [] nt5 xa h Oh E_nt5 F_cursor_nt5 F_this_0_nt5 E_xa F_size_xa) hZ (oW hw 292 rfl) (oW hw 271 rfl) (by decide) (by decide)) q26a q26b q26c (g := (mkF m 17 #[rv xt, rv xa, rv nt5, rv xe0, rv xs0, iv xi_22, sl_22] [(.ref nt5)])) rfl (by rw [hml]; rfl) (Steps.refl _) (argsL := []) (rest := []) (lenOf pd_3 rfl) rfl (Nat.le_of_eq rfl) (hb hby d38_17) (fun _ _ => ⟨rfl, e0, (by decide : 2 + 0 ≤ _), (by decide : 132 + 0 ≤ _)⟩)
        dsimp only [Pt.U, Pt.locs, Pt.cells, Pt.slots] at X l26 y26 z26 st hQ
        subst l26 y26 z26
        obtain ⟨rfl, e0, K25⟩ := hQ
        have K := K.call K25 all0
        rw [e0] at K
        refine oWk.st (fun _ kt => st.trans (zF X hx hby d38_22 rfl rfl ((if0 _ _).trans (teq (by decide)).1) (pc' := 147) rfl (zA X hx hby d38_147 rfl rfl rfl kt))) ?_
        obtain ⟨T, X, e0, st⟩ := getF X hx hZ hown (host := "") (Or.inl (oW hw 320 rfl)) Via.refl e0 F_journal_xt (g := (mkF m 148 #[rv xt, rv xa, rv nt5, rv xe0, rv xs0, iv xi_22, sl_22] [(.ref xt)])) rfl rfl (hb hby d38_148)
        refine oWk.to (mkF m 189 #[rv xt, rv xa, rv nt5, rv xe0, rv xs0, iv xi_22, sl_22] []) (fun _ kt => st _ (XS.ifnullYes X.here hx rfl (pc0 := 151) (pc' := 189) rfl (hb hby d38_151) rfl (by decide) (by decide) kt)) ?_
        exact oRetV X hx hlk hret (hb hby d38_189) (by rw [e0]; exact ⟨nb_0, nN_0, gi_22, nge_0, vl_22, nk_0, rfl, K, E_xt, F_buffer_xt, F_gapStart_xt, F_gapEnd_xt, F_journal_xt, V_nb_0, (hgb0), ((ar30 ht hNc hp0 hn0 hge13 ha0 hb0 hf0 hd0 hi22 hj22 hg22)), ((ar31 ht hNc hp0 hn0 hge13 ha0 hb0 hf0 hd0 hi22 hj22 hg22)), ((ar32 ht hNc hp0 hn0 hge13 ha0 hb0 hf0 hd0 hi22 hj22 hg22))⟩) (by decide) (by decide)
      | succ d ih =>
        intro xi_22 gi_22 sl_22 vl_22 hi22 hj22 hg22 hs22 T LJ h X e0 K E_xa F_elementData_xa F_size_xa F_modCount_xa V_xf E_xe0 F_position_xe0 F_deleteCount_xe0 F_insertion_xe0 F_insertionLength_xe0 U_xs0 E_nt5 F_cursor_nt5 F_lastRet_nt5 F_expectedModCount_nt5 F_this_0_nt5 E_xt F_buffer_xt F_gapStart_xt F_gapEnd_xt F_journal_xt V_nb_0
        have X : Stand p l e _ _ m _ below meth c T LJ _ _ := X
        refine oWk.st (fun _ kt => zJ X hx hby d38_94 rfl rfl (zB X hx hby d38_96 rfl rfl rfl kt)) ?_
        have Oh := K.old O0 (allS og_xt (allS og_xb all0))
        obtain ⟨T, L28, X, e0, K, st⟩ := (cs44 hw).pure X hx hZ hown e0 K (A := [(.ref xs0)]) ⟨rfl, _, _, rfl, U_xs0.exa⟩ (rSLn l Z a0 hw [] xs0 xb0 xk0 xn0 xu0 xw0 xz h Oh S_Z hz U_xs0) (W := 1) (by decide) hml (Ls := #[rv xt, rv xa, rv nt5, rv xe0, rv xs0, iv xi_22, sl_22]) rfl (rest := [(.int xi_22)]) rfl rfl hby d38_98
        refine oWk.st (fun _ kt => st _ (zN X hx hby d38_101 rfl rfl (tlt (ar33 ht hNc hp0 hn0 hge13 ha0 hb0 hf0 hd0 hi22 hj22 hg22)).2.1 (zB X hx hby d38_104 rfl rfl rfl (zJ X hx hby d38_106 rfl rfl kt)))) ?_
        obtain ⟨_, T, hq, Lc30, X, e0, hQ, st⟩ := (cs45 hw).run X hx hZ hown e0 (A := [(.ref xs0), (.int xi_22)]) ⟨rfl, _, _, rfl, U_xs0.exa⟩ (rSCa l Z a0 hw [] xs0 xb0 xk0 xn0 xu0 xw0 xi_22 xfm xz h Oh S_Z hz S_A S_H S_L S_F hcat (ar35 ht hNc hp0 hn0 hge13 ha0 hb0 hf0 hd0 hi22 hj22 hg22) U_xs0) (W := 0) (by decide) hml (Ls := #[rv xt, rv xa, rv nt5, rv xe0, rv xs0, iv xi_22, sl_22]) rfl (rest := []) rfl rfl hby d38_108
        obtain ⟨ncp29, rfl, e1, K29, hcc29⟩ := hQ
        rw [e1] at e0 K29
        have K := K.call K29 all0
        refine oWk.st (fun _ kt => st _ (zS X hx hby d38_111 rfl rfl (l' := #[rv xt, rv xa, rv nt5, rv xe0, rv xs0, iv xi_22, iv ncp29]) (by rcases hs22 with rfl | ⟨_, rfl⟩ <;> rfl) (zA X hx hby d38_113 rfl rfl rfl kt))) ?_
        obtain ⟨T, X, e0, st⟩ := getF X hx hZ hown (host := "") (Or.inl (oW hw 196 rfl)) Via.refl e0 F_buffer_xt (g := (mkF m 114 #[rv xt, rv xa, rv nt5, rv xe0, rv xs0, iv xi_22, iv ncp29] [(.ref xt)])) rfl rfl (hb hby d38_114)
        refine oWk.st (fun _ kt => st _ (zA X hx hby d38_117 rfl rfl rfl (zD X hx hby d38_118 rfl rfl rfl kt))) ?_
        obtain ⟨T, X, e0, st⟩ := getF X hx hZ hown (host := "") (Or.inl (oW hw 205 rfl)) Via.refl e0 F_gapStart_xt (g := (mkF m 119 #[rv xt, rv xa, rv nt5, rv xe0, rv xs0, iv xi_22, iv ncp29] [(.ref xt), (.ref xt), (.ref nb_0)])) rfl rfl (hb hby d38_119)
        refine oWk.st (fun _ kt => st _ (XS.dupX1 X.here hx rfl (hb hby d38_122) rfl rfl rfl (zK X hx hby d38_123 rfl (XS.iadd X.here hx rfl (hb hby d38_124) rfl kt)))) ?_
        obtain ⟨T, h, X, e0, W31, st⟩ := putF X hx hZ hown (host := "") (Or.inl (oW hw 205 rfl)) Via.refl e0 F_gapStart_xt E_xt (Or.inl (oW hw 206 rfl)) (oW hw 189 rfl) (ty := .int) (by decide) rfl rfl (g := (mkF m 125 #[rv xt, rv xa, rv nt5, rv xe0, rv xs0, iv xi_22, iv ncp29] [(.int (gi_22 + (1 : Int32))), (.ref xt), (.int gi_22), (.ref nb_0)])) rfl rfl (hb hby d38_125)
        have K := K.wr W31 (Or.inl (List.mem_of_getElem? (i := 0) rfl))
        have F_gapStart_xt := F_gapStart_xt.same W31
        refine oWk.st (fun _ kt => st _ (zJ X hx hby d38_128 rfl rfl kt)) ?_
        have V_nb_0 := (V_nb_0.other W31 (Ne.symm ne_xt_nb_0))
        obtain ⟨cl32, Ar32, q32, Sz32, Nn32, Hs32, Ft32⟩ := id V_nb_0
        have hin32 : ¬ (gi_22 < 0 ∨ cl32.slots.size ≤ (gi_22).toNatClampNeg) := inb_of Sz32 (ar34 ht hNc hp0 hn0 hge13 ha0 hb0 hf0 hd0 hi22 hj22 hg22)
        obtain ⟨T, h, X, e0, W32, st⟩ := stI X hx hZ e0 Ar32 (j := gi_22) hin32 (g := (mkF m 130 #[rv xt, rv xa, rv nt5, rv xe0, rv xs0, iv xi_22, iv ncp29] [(.int ncp29), (.int gi_22), (.ref nb_0)])) rfl rfl (hb hby d38_130)
        have K := K.wr W32 (oIn hgb0)
        obtain ⟨xv32, V_nb_0⟩ := oSetH V_nb_0 W32 rfl
        refine oWk.st (fun _ kt => st _ (zJ X hx hby d38_131 rfl rfl (zJ X hx hby d38_133 rfl rfl kt))) ?_
        have Oh := K.old O0 (allS og_xt (allS og_xb all0))
        obtain ⟨T, L34, X, e0, K, st⟩ := (cs46 hw).pure X hx hZ hown e0 K (A := [(.int ncp29)]) rfl (rSCh l Z a0 hw [] ncp29 xw0 h Oh hcc29) (W := 1) (by decide) hml (Ls := #[rv xt, rv xa, rv nt5, rv xe0, rv xs0, iv xi_22, iv ncp29]) rfl (rest := [(.int xi_22)]) rfl rfl hby d38_135
        refine oWk.to (mkF m 94 #[rv xt, rv xa, rv nt5, rv xe0, rv xs0, iv (xi_22 + xw0), iv ncp29] []) (fun _ kt => st _ (XS.iadd X.here hx rfl (hb hby d38_138) rfl (zS X hx hby d38_139 rfl rfl (l' := #[rv xt, rv xa, rv nt5, rv xe0, rv xs0, iv (xi_22 + xw0), iv ncp29]) rfl (zG X hx hby d38_141 rfl (pc' := 94) rfl kt)))) ?_
        have E_xa := ((E_xa.wr W31).wr W32)
        have F_elementData_xa := ((F_elementData_xa.other W31 (Or.inl ne_xa_xt)).other W32 (Or.inl ne_xa_nb_0))
        have F_size_xa := ((F_size_xa.other W31 (Or.inl ne_xa_xt)).other W32 (Or.inl ne_xa_nb_0))
        have F_modCount_xa := ((F_modCount_xa.other W31 (Or.inl ne_xa_xt)).other W32 (Or.inl ne_xa_nb_0))
        have V_xf := ((V_xf.other W31 ne_xf_xt).other W32 ne_xf_nb_0)
        have E_xe0 := ((E_xe0.wr W31).wr W32)
        have F_position_xe0 := ((F_position_xe0.other W31 (Or.inl ne_xe0_xt)).other W32 (Or.inl ne_xe0_nb_0))
        have F_deleteCount_xe0 := ((F_deleteCount_xe0.other W31 (Or.inl ne_xe0_xt)).other W32 (Or.inl ne_xe0_nb_0))
        have F_insertion_xe0 := ((F_insertion_xe0.other W31 (Or.inl ne_xe0_xt)).other W32 (Or.inl ne_xe0_nb_0))
        have F_insertionLength_xe0 := ((F_insertionLength_xe0.other W31 (Or.inl ne_xe0_xt)).other W32 (Or.inl ne_xe0_nb_0))
        have U_xs0 := ((U_xs0.wr W31 ne_xs0_xt ne_xb0_xt).wr W32 ne_xs0_nb_0 ne_xb0_nb_0)
        have E_nt5 := ((E_nt5.wr W31).wr W32)
        have F_cursor_nt5 := ((F_cursor_nt5.other W31 (Or.inl (Ne.symm ne_xt_nt5))).other W32 (Or.inl ne_nt5_nb_0))
        have F_lastRet_nt5 := ((F_lastRet_nt5.other W31 (Or.inl (Ne.symm ne_xt_nt5))).other W32 (Or.inl ne_nt5_nb_0))
        have F_expectedModCount_nt5 := ((F_expectedModCount_nt5.other W31 (Or.inl (Ne.symm ne_xt_nt5))).other W32 (Or.inl ne_nt5_nb_0))
        have F_this_0_nt5 := ((F_this_0_nt5.other W31 (Or.inl (Ne.symm ne_xt_nt5))).other W32 (Or.inl ne_nt5_nb_0))
        have E_xt := ((E_xt.wr W31).wr W32)
        have F_buffer_xt := ((F_buffer_xt.other W31 (Or.inr (slot_ne (Or.inl (oW hw 197 rfl)) (Or.inl (oW hw 206 rfl)) (by decide) (t := (.array .int)) (t' := .int) (by decide) (by decide)))).other W32 (Or.inl ne_xt_nb_0))
        have F_gapStart_xt := (F_gapStart_xt.other W32 (Or.inl ne_xt_nb_0))
        have F_gapEnd_xt := ((F_gapEnd_xt.other W31 (Or.inr (slot_ne (Or.inl (oW hw 199 rfl)) (Or.inl (oW hw 206 rfl)) (by decide) (t := .int) (t' := .int) (by decide) (by decide)))).other W32 (Or.inl ne_xt_nb_0))
        have F_journal_xt := ((F_journal_xt.other W31 (Or.inr (slot_ne (Or.inl (oW hw 321 rfl)) (Or.inl (oW hw 206 rfl)) (by decide) (t := (.object Y17)) (t' := .int) (by decide) (by decide)))).other W32 (Or.inl ne_xt_nb_0))
        exact ih (xi_22 + xw0) (gi_22 + (1 : Int32)) (iv ncp29) xv32 ((ar36 ht hNc hp0 hn0 hge13 ha0 hb0 hf0 hd0 hi22 hj22 hg22)) ((ar37 ht hNc hp0 hn0 hge13 ha0 hb0 hf0 hd0 hi22 hj22 hg22)) ((ar38 ht hNc hp0 hn0 hge13 ha0 hb0 hf0 hd0 hi22 hj22 hg22)) (Or.inr ⟨_, rfl⟩) T _ h X e0 K E_xa F_elementData_xa F_size_xa F_modCount_xa V_xf E_xe0 F_position_xe0 F_deleteCount_xe0 F_insertion_xe0 F_insertionLength_xe0 U_xs0 E_nt5 F_cursor_nt5 F_lastRet_nt5 F_expectedModCount_nt5 F_this_0_nt5 E_xt F_buffer_xt F_gapStart_xt F_gapEnd_xt F_journal_xt V_nb_0
    exact J94 xn0.toInt.toNat (0 : Int32) xi0 (uu) vb_0 ((ar26 ht hNc hp0 hn0 hge13 ha0 hb0 hf0 hd0)) ((ar27 ht hNc hp0 hn0 hge13 ha0 hb0 hf0 hd0)) ((ar28 ht hNc hp0 hn0 hge13 ha0 hb0 hf0 hd0)) (Or.inl rfl) T _ h X e0 K E_xa F_elementData_xa F_size_xa F_modCount_xa V_xf E_xe0 F_position_xe0 F_deleteCount_xe0 F_insertion_xe0 F_insertionLength_xe0 U_xs0 E_nt5 F_cursor_nt5 F_lastRet_nt5 F_expectedModCount_nt5 F_this_0_nt5 E_xt F_buffer_xt F_gapStart_xt F_gapEnd_xt F_journal_xt V_nb_0
  by_cases hq0 : ((nge13 + xd0) - xi0) < xn0
  · refine oWk.to (mkF m 72 #[rv xt, rv xa, rv nt5, rv xe0, uu, uu, uu] []) (fun _ kt => zN X hx hby d38_69 rfl rfl (tlt hq0).2.2.2 kt) ?_
    refine oWk.st (fun _ kt => zA X hx hby d38_72 rfl rfl rfl (zA X hx hby d38_73 rfl rfl rfl kt)) ?_
    obtain ⟨T, L36, X, e0, K, st⟩ := (cs40 hw).pure X hx hZ hown e0 K (A := [(.ref xt)]) ⟨rfl, _, _, rfl, E_xt⟩ (rTL l Z a0 hw [] xt xb xN xi0 (nge13 + xd0) nv13 xkb h Oh E_xt F_buffer_xt F_gapStart_xt F_gapEnd_xt F_journal_xt V_xb) (W := 1) (by decide) hml (Ls := #[rv xt, rv xa, rv nt5, rv xe0, uu, uu, uu]) rfl (rest := [(.ref xt)]) rfl rfl hby d38_74
    refine oWk.st (fun _ kt => st _ (zA X hx hby d38_77 rfl rfl rfl kt)) ?_
    obtain ⟨T, L38, X, e0, K, st⟩ := (cs39 hw).pure X hx hZ hown e0 K (A := [(.ref xe0)]) ⟨rfl, _, _, rfl, E_xe0⟩ (rGinsertionLength l Z a0 hw [] xe0 xn0 h Oh F_insertionLength_xe0) (W := 2) (by decide) hml (Ls := #[rv xt, rv xa, rv nt5, rv xe0, uu, uu, uu]) rfl (rest := [(.int (xN - ((nge13 + xd0) - xi0))), (.ref xt)]) rfl rfl hby d38_78
    refine oWk.st (fun _ kt => st _ (XS.iadd X.here hx rfl (hb hby d38_81) rfl kt)) ?_
    have lt_xt := E_xt.lt
    have lt_xb := V_xb.lt
    have lt_xa := E_xa.lt
    have lt_xf := V_xf.lt
    have lt_xe0 := E_xe0.lt
    have lt_xs0 := U_xs0.lt
    have lt_xb0 := U_xs0.sb.lt
    have lt_nt5 := E_nt5.lt
    obtain ⟨_, T, h, Lc40, X, e0, hQ, st⟩ := (cs47 hw).run X hx hZ hown e0 (A := [(.ref xt), (.int ((xN - ((nge13 + xd0) - xi0)) + xn0))]) ⟨rfl, _, _, rfl, E_xt⟩ (rGW l Z a0 hw [] xt xb xN xi0 (nge13 + xd0) nv13 xkb ((xN - ((nge13 + xd0) - xi0)) + xn0) h Oh og_xt ne_xt_xb (ar39 ht hNc hp0 hn0 hge13 hq0) (ar40 ht hNc hp0 hn0 hge13 hq0) (ar41 ht hNc hp0 hn0 hge13 hq0) E_xt F_buffer_xt F_gapStart_xt F_gapEnd_xt F_journal_xt V_xb) (W := 0) (by decide) hml (Ls := #[rv xt, rv xa, rv nt5, rv xe0, uu, uu, uu]) rfl (rest := []) rfl rfl hby d38_82
    obtain ⟨nb39, nN39, nge39, nv39, nk39, rfl, K39, gn_nb39, E_xt, F_buffer_xt, F_gapStart_xt, F_gapEnd_xt, F_journal_xt, V_nb39, hnN39, hg239⟩ := hQ
    have ge_nb39 := Nat.le_trans K.le gn_nb39
    have ne_xt_nb39 : xt ≠ nb39 := Nat.ne_of_lt (Nat.lt_of_lt_of_le lt_xt gn_nb39)
    have ne_xb_nb39 : xb ≠ nb39 := Nat.ne_of_lt (Nat.lt_of_lt_of_le lt_xb gn_nb39)
    have ne_xa_nb39 : xa ≠ nb39 := Nat.ne_of_lt (Nat.lt_of_lt_of_le lt_xa gn_nb39)
    have ne_xf_nb39 : xf ≠ nb39 := Nat.ne_of_lt (Nat.lt_of_lt_of_le lt_xf gn_nb39)
    have ne_xe0_nb39 : xe0 ≠ nb39 := Nat.ne_of_lt (Nat.lt_of_lt_of_le lt_xe0 gn_nb39)
    have ne_xs0_nb39 : xs0 ≠ nb39 := Nat.ne_of_lt (Nat.lt_of_lt_of_le lt_xs0 gn_nb39)
    have ne_xb0_nb39 : xb0 ≠ nb39 := Nat.ne_of_lt (Nat.lt_of_lt_of_le lt_xb0 gn_nb39)
    have ne_nt5_nb39 : nt5 ≠ nb39 := Nat.ne_of_lt (Nat.lt_of_lt_of_le lt_nt5 gn_nb39)
    have K := K.call K39 (allS (Or.inl (List.mem_of_getElem? (i := 0) rfl)) all0)
    refine oWk.to (mkF m 85 #[rv xt, rv xa, rv nt5, rv xe0, uu, uu, uu] []) (fun _ kt => st _ kt) ?_
    have E_xa := (E_xa.keep K39.1)
    have F_elementData_xa := (F_elementData_xa.keep K39.1 (ninS ne_xa_xt nin0))
    have F_size_xa := (F_size_xa.keep K39.1 (ninS ne_xa_xt nin0))
    have F_modCount_xa := (F_modCount_xa.keep K39.1 (ninS ne_xa_xt nin0))
    have V_xf := (V_xf.keep K39.1 (ninS ne_xf_xt nin0))
    have E_xe0 := (E_xe0.keep K39.1)
    have F_position_xe0 := (F_position_xe0.keep K39.1 (ninS ne_xe0_xt nin0))
    have F_deleteCount_xe0 := (F_deleteCount_xe0.keep K39.1 (ninS ne_xe0_xt nin0))
    have F_insertion_xe0 := (F_insertion_xe0.keep K39.1 (ninS ne_xe0_xt nin0))
    have F_insertionLength_xe0 := (F_insertionLength_xe0.keep K39.1 (ninS ne_xe0_xt nin0))
    have U_xs0 := (U_xs0.keep K39.1 (ninS ne_xs0_xt nin0) (ninS ne_xb0_xt nin0))
    have E_nt5 := (E_nt5.keep K39.1)
    have F_cursor_nt5 := (F_cursor_nt5.keep K39.1 (ninS (Ne.symm ne_xt_nt5) nin0))
    have F_lastRet_nt5 := (F_lastRet_nt5.keep K39.1 (ninS (Ne.symm ne_xt_nt5) nin0))
    have F_expectedModCount_nt5 := (F_expectedModCount_nt5.keep K39.1 (ninS (Ne.symm ne_xt_nt5) nin0))
    have F_this_0_nt5 := (F_this_0_nt5.keep K39.1 (ninS (Ne.symm ne_xt_nt5) nin0))
    exact J85 nb39 nN39 nge39 nv39 nk39 (Or.inr ge_nb39) (ne_xt_nb39) (ne_xa_nb39) (ne_xf_nb39) (ne_xe0_nb39) (ne_xs0_nb39) (ne_xb0_nb39) (ne_nt5_nb39) ((ar42 ht hNc hp0 hn0 hge13 hq0 hnN39 hg239)) ((ar43 ht hNc hp0 hn0 hge13 hq0 hnN39 hg239)) ((ar44 ht hNc hp0 hn0 hge13 hq0 hnN39 hg239)) ((ar45 ht hNc hp0 hn0 hge13 hq0 hnN39 hg239)) T _ h (oStG.of X (by decide) (by decide)) e0 K E_xa F_elementData_xa F_size_xa F_modCount_xa V_xf E_xe0 F_position_xe0 F_deleteCount_xe0 F_insertion_xe0 F_insertionLength_xe0 U_xs0 E_nt5 F_cursor_nt5 F_lastRet_nt5 F_expectedModCount_nt5 F_this_0_nt5 E_xt F_buffer_xt F_gapStart_xt F_gapEnd_xt F_journal_xt V_nb39
  · refine oWk.to (mkF m 85 #[rv xt, rv xa, rv nt5, rv xe0, uu, uu, uu] []) (fun _ kt => zY X hx hby d38_69 rfl rfl (flt hq0).2.2.2 (pc' := 85) rfl kt) ?_
    exact J85 xb xN (nge13 + xd0) nv13 xkb (Or.inl rfl) (ne_xt_xb) (ne_xa_xb) (ne_xf_xb) (ne_xe0_xb) (ne_xs0_xb) (ne_xb0_xb) ((Ne.symm ne_xb_nt5)) ((ar46 ht hNc hp0 hn0 hge13 hq0)) (rfl) ((ar47 ht hNc hp0 hn0 hge13 hq0)) (Or.inl rfl) T _ h (oStG.of X (by decide) (by decide)) e0 K E_xa F_elementData_xa F_size_xa F_modCount_xa V_xf E_xe0 F_position_xe0 F_deleteCount_xe0 F_insertion_xe0 F_insertionLength_xe0 U_xs0 E_nt5 F_cursor_nt5 F_lastRet_nt5 F_expectedModCount_nt5 F_this_0_nt5 E_xt F_buffer_xt F_gapStart_xt F_gapEnd_xt F_journal_xt V_xb
def Q_rAp_2 (Z : State) (xt xb : Addr) (xN xg xe : Int32) (xv : List Value) (xkb : ClassId) (xa xf : Addr) (xk : ClassId) (xm : Int32) (xe0 : Addr) (xi0 xd0 : Int32) (xs0 : Addr) (xn0 : Int32) (xe1 : Addr) (xi1 xd1 : Int32) (xs1 : Addr) (xn1 : Int32) (xb0 : Addr) (xk0 : ClassId) (xu0 xw0 : Int32) (xb1 : Addr) (xk1 : ClassId) (xu1 xw1 : Int32) (xfm : Value) (xz : Int32) (h0 : Heap) (v : Option Value) (h : Heap) (L : List Loc) : Prop := ∃ (nb : Addr) (nN : Int32) (ng : Int32) (nge : Int32) (nv : List Value) (nk : ClassId), v = none ∧ oKp h0 h [xt, xb] L ∧ (Exa Z h xt Y3) ∧ (Fld Z h xt Y3 "buffer" "[I" (.ref nb)) ∧ (Fld Z h xt Y3 "gapStart" "I" (.int ng)) ∧ (Fld Z h xt Y3 "gapEnd" "I" (.int nge)) ∧ (Fld Z h xt Y3 "journal" Y18 .null) ∧ (Arv Z h nb nk .int nN nv (.int (0 : Int32))) ∧ (nb = xb ∨ h0.size ≤ nb) ∧ (oHT nN ng nge) ∧ (nN.toInt - (nge.toInt - ng.toInt) = (xN.toInt - (xe.toInt - xg.toInt)) - xd0.toInt + xn0.toInt - xd1.toInt + xn1.toInt)
theorem rAp_2 (l : Launch) (Z : State) (a0 : Array Value) (hw : oHW a0 Z) (ws : List Jvm.Cond) (xt xb : Addr) (xN xg xe : Int32) (xv : List Value) (xkb : ClassId) (xa xf : Addr) (xk : ClassId) (xm : Int32) (xe0 : Addr) (xi0 xd0 : Int32) (xs0 : Addr) (xn0 : Int32) (xe1 : Addr) (xi1 xd1 : Int32) (xs1 : Addr) (xn1 : Int32) (xb0 : Addr) (xk0 : ClassId) (xu0 xw0 : Int32) (xb1 : Addr) (xk1 : ClassId) (xu1 xw1 : Int32) (xfm : Value) (xz : Int32) (h0 : Heap) (O0 : Ext Z.heap h0) (S_Z : Sta Z Z.heap Y0 Y9 "Z" (.int xz)) (hz : ¬ xz = (0 : Int32)) (S_A : Sta Z Z.heap Y4 Y10 "Z" (.int (1 : Int32))) (S_H : Sta Z Z.heap Y4 "HI_BYTE_SHIFT" "I" (.int (0 : Int32))) (S_L : Sta Z Z.heap Y4 "LO_BYTE_SHIFT" "I" (.int (8 : Int32))) (S_F : Sta Z Z.heap Y11 Y15 Y16 xfm) (hcat : xfm.category = 1) (og_xt : Z.heap.size ≤ xt) (og_xb : Z.heap.size ≤ xb) (ne_xt_xb : xt ≠ xb) (ne_xa_xt : xa ≠ xt) (ne_xa_xb : xa ≠ xb) (ne_xf_xt : xf ≠ xt) (ne_xf_xb : xf ≠ xb) (ne_xe0_xt : xe0 ≠ xt) (ne_xe0_xb : xe0 ≠ xb) (ne_xs0_xt : xs0 ≠ xt) (ne_xs0_xb : xs0 ≠ xb) (ne_xb0_xt : xb0 ≠ xt) (ne_xb0_xb : xb0 ≠ xb) (ne_xe1_xt : xe1 ≠ xt) (ne_xe1_xb : xe1 ≠ xb) (ne_xs1_xt : xs1 ≠ xt) (ne_xs1_xb : xs1 ≠ xb) (ne_xb1_xt : xb1 ≠ xt) (ne_xb1_xb : xb1 ≠ xb) (ht : oHT xN xg xe) (hNc : (xN.toInt = 16 ∧ (xN.toInt - (xe.toInt - xg.toInt)) ≤ 1) ∨ xN.toInt = 32) (hp0 : 0 ≤ xi0.toInt ∧ 0 ≤ xd0.toInt ∧ xi0.toInt + xd0.toInt ≤ (xN.toInt - (xe.toInt - xg.toInt))) (hp1 : 0 ≤ xi1.toInt ∧ 0 ≤ xd1.toInt ∧ xi1.toInt + xd1.toInt ≤ (xN.toInt - (xe.toInt - xg.toInt)) - xd0.toInt + xn0.toInt) (hn0 : oNU xn0 xu0 xw0) (hn1 : oNU xn1 xu1 xw1) (E_xt : Exa Z h0 xt Y3) (F_buffer_xt : Fld Z h0 xt Y3 "buffer" "[I" (.ref xb)) (F_gapStart_xt : Fld Z h0 xt Y3 "gapStart" "I" (.int xg)) (F_gapEnd_xt : Fld Z h0 xt Y3 "gapEnd" "I" (.int xe)) (F_journal_xt : Fld Z h0 xt Y3 "journal" Y18 .null) (V_xb : Arv Z h0 xb xkb .int xN xv (.int (0 : Int32))) (E_xa : Exa Z h0 xa Y1) (F_elementData_xa : Fld Z h0 xa Y1 "elementData" Y7 (.ref xf)) (F_size_xa : Fld Z h0 xa Y1 "size" "I" (.int (2 : Int32))) (F_modCount_xa : Fld Z h0 xa Y8 "modCount" "I" (.int xm)) (V_xf : Arv Z h0 xf xk (.object Y6) (10 : Int32) [(.ref xe0), (.ref xe1), .null, .null, .null, .null, .null, .null, .null, .null] .null) (E_xe0 : Exa Z h0 xe0 Y2) (F_position_xe0 : Fld Z h0 xe0 Y2 "position" "I" (.int xi0)) (F_deleteCount_xe0 : Fld Z h0 xe0 Y2 "deleteCount" "I" (.int xd0)) (F_insertion_xe0 : Fld Z h0 xe0 Y2 "insertion" Y13 (.ref xs0)) (F_insertionLength_xe0 : Fld Z h0 xe0 Y2 Y12 "I" (.int xn0)) (E_xe1 : Exa Z h0 xe1 Y2) (F_position_xe1 : Fld Z h0 xe1 Y2 "position" "I" (.int xi1)) (F_deleteCount_xe1 : Fld Z h0 xe1 Y2 "deleteCount" "I" (.int xd1)) (F_insertion_xe1 : Fld Z h0 xe1 Y2 "insertion" Y13 (.ref xs1)) (F_insertionLength_xe1 : Fld Z h0 xe1 Y2 Y12 "I" (.int xn1)) (U_xs0 : oS Z h0 xs0 xb0 xk0 xn0 xu0 xw0) (U_xs1 : oS Z h0 xs1 xb1 xk1 xn1 xu1 xw1) :
    oCon l Z yy49 b0_ 7 none ws ({ frames := 5, cells := 3, slots := 260, locals := 114 } : Room) #[(.ref xt), (.ref xa)] h0 (Q_rAp_2 Z xt xb xN xg xe xv xkb xa xf xk xm xe0 xi0 xd0 xs0 xn0 xe1 xi1 xd1 xs1 xn1 xb0 xk0 xu0 xw0 xb1 xk1 xu1 xw1 xfm xz h0) := by
  refine oCon.of (plainFor_of_name pn_10) ?_
  intro p e s m below meth c T X hx hby hml hown hnm hret hlk hZ e0
  have hml : c.maxLocals = 7 := hml
  have K : oKp h0 h0 [xt, xb] [] := oKp.nil _ _
  refine oWk.cast (g' := (mkF m 0 #[rv xt, rv xa, uu, uu, uu, uu, uu] [])) (by first | rfl | (simp [entryFrame, mkF, argsToLocals, Value.category]; done)) ?_
  refine oWk.st (fun _ kt => zA X hx hby d38_0 rfl rfl rfl kt) ?_
  have Oh := K.old O0 (allS og_xt (allS og_xb all0))
  obtain ⟨T, L2, X, e0, K, st⟩ := (cs40 hw).pure X hx hZ hown e0 K (A := [(.ref xt)]) ⟨rfl, _, _, rfl, E_xt⟩ (rTL l Z a0 hw [] xt xb xN xg xe xv xkb h0 Oh E_xt F_buffer_xt F_gapStart_xt F_gapEnd_xt F_journal_xt V_xb) (W := 0) (by decide) hml (Ls := #[rv xt, rv xa, uu, uu, uu, uu, uu]) rfl (rest := []) rfl rfl hby d38_1
  refine oWk.st (fun _ kt => st _ (zA X hx hby d38_4 rfl rfl rfl kt)) ?_
  obtain ⟨T, L4, X, e0, K, st⟩ := (cs41 hw).pure X hx hZ hown e0 K (A := [(.int (xN - (xe - xg))), (.ref xa)]) rfl (rLA_2 l Z a0 hw [] (xN - (xe - xg)) xa xf xk xm xe0 xi0 xd0 xs0 xn0 xe1 xi1 xd1 xs1 xn1 h0 Oh E_xa F_elementData_xa F_size_xa F_modCount_xa V_xf E_xe0 F_position_xe0 F_deleteCount_xe0 F_insertion_xe0 F_insertionLength_xe0 E_xe1 F_position_xe1 F_deleteCount_xe1 F_insertion_xe1 F_insertionLength_xe1 (ar48 ht hNc hp0 hp1 hn0 hn1) (ar49 ht hNc hp0 hp1 hn0 hn1)) (W := 0) (by decide) hml (Ls := #[rv xt, rv xa, uu, uu, uu, uu, uu]) rfl (rest := []) rfl rfl hby d38_5
  refine oWk.st (fun _ kt => st _ (XS.pop X.here hx rfl (hb hby d38_8) rfl rfl (zA X hx hby d38_9 rfl rfl rfl kt))) ?_
  have lt_xt := E_xt.lt
  have lt_xb := V_xb.lt
  have lt_xa := E_xa.lt
  have lt_xf := V_xf.lt
  have lt_xe0 := E_xe0.lt
  have lt_xe1 := E_xe1.lt
  have lt_xs0 := U_xs0.lt
  have lt_xb0 := U_xs0.sb.lt
  have lt_xs1 := U_xs1.lt
  have lt_xb1 := U_xs1.sb.lt
  obtain ⟨cq6, kq6, q6a, q6b, q6c⟩ := isOf hZ e0 E_xa
  obtain ⟨_, _, ⟨T, L6, k6, n6⟩, -, X, ⟨Lc6, hQ, l6, y6, z6⟩, st⟩ := X.interfaceBack hx (xi := yy50) (y := yy37) hown (mvT hZ (oW hw 261 rfl)) (mvT hZ (oW hw 262 rfl)) (mvT hZ (oW hw 263 rfl)) (mvT hZ (oW hw 264 rfl)) (mvT hZ (oW hw 265 rfl)) (mvT hZ (oW hw 266 rfl)) (mvT hZ (oW hw 267 rfl)) (mvT hZ (oW hw 223 rfl)) (by decide) (backOf (W := 0) (rIter l Z a0 hw [] xa xm h0 Oh E_xa F_modCount_xa) hZ (oW hw 268 rfl) (oW hw 75 rfl) (by decide) (by decide)) q6a q6b q6c (g := (mkF m 10 #[rv xt, rv xa, uu, uu, uu, uu, uu] [(.ref xa)])) rfl (by rw [hml]; rfl) (Steps.refl _) (argsL := []) (rest := []) (lenOf pd_23 rfl) rfl (Nat.le_of_eq rfl) (hb hby d38_10) (fun _ _ => ⟨rfl, e0, (by decide : 0 + 1 ≤ _), (by decide : 0 + 4 ≤ _)⟩)
  dsimp only [Pt.U, Pt.locs, Pt.cells, Pt.slots] at X l6 y6 z6 st hQ
  subst l6 y6 z6
  obtain ⟨h, e0⟩ : ∃ z, T.heap = z := ⟨_, rfl⟩
  rw [e0] at hQ
  obtain ⟨nt5, rfl, K5, gn_nt5, E_nt5, F_cursor_nt5, F_lastRet_nt5, F_expectedModCount_nt5, F_this_0_nt5⟩ := hQ
  have ge_nt5 := Nat.le_trans K.le gn_nt5
  have ne_xt_nt5 : xt ≠ nt5 := Nat.ne_of_lt (Nat.lt_of_lt_of_le lt_xt gn_nt5)
  have ne_xb_nt5 : xb ≠ nt5 := Nat.ne_of_lt (Nat.lt_of_lt_of_le lt_xb gn_nt5)
  have ne_xa_nt5 : xa ≠ nt5 := Nat.ne_of_lt (Nat.lt_of_lt_of_le lt_xa gn_nt5)
  have ne_xf_nt5 : xf ≠ nt5 := Nat.ne_of_lt (Nat.lt_of_lt_of_le lt_xf gn_nt5)
  have ne_xe0_nt5 : xe0 ≠ nt5 := Nat.ne_of_lt (Nat.lt_of_lt_of_le lt_xe0 gn_nt5)
  have ne_xe1_nt5 : xe1 ≠ nt5 := Nat.ne_of_lt (Nat.lt_of_lt_of_le lt_xe1 gn_nt5)
  have ne_xs0_nt5 : xs0 ≠ nt5 := Nat.ne_of_lt (Nat.lt_of_lt_of_le lt_xs0 gn_nt5)
  have ne_xb0_nt5 : xb0 ≠ nt5 := Nat.ne_of_lt (Nat.lt_of_lt_of_le lt_xb0 gn_nt5)
  have ne_xs1_nt5 : xs1 ≠ nt5 := Nat.ne_of_lt (Nat.lt_of_lt_of_le lt_xs1 gn_nt5)
  have ne_xb1_nt5 : xb1 ≠ nt5 := Nat.ne_of_lt (Nat.lt_of_lt_of_le lt_xb1 gn_nt5)
  have K := K.call K5 all0
  refine oWk.st (fun _ kt => st.trans (zTn X hx hby d38_15 rfl rfl rfl (l' := #[rv xt, rv xa, rv nt5, uu, uu, uu, uu]) rfl (zA X hx hby d38_16 rfl rfl rfl kt))) ?_
  have E_xa := (E_xa.keep K5.1)
  have F_size_xa := (F_size_xa.keep K5.1 nin0)
  have Oh := K.old O0 (allS og_xt (allS og_xb all0))
  obtain ⟨cq8, kq8, q8a, q8b, q8c⟩ := isOf hZ e0 E_nt5
  obtain ⟨_, _, ⟨T, L8, k8, n8⟩, -, X, ⟨Lc8, hQ, l8, y8, z8⟩, st⟩ := X.interfaceBack hx (xi := yy51) (y := yy38) hown (mvT hZ (oW hw 284 rfl)) (mvT hZ (oW hw 285 rfl)) (mvT hZ (oW hw 286 rfl)) (mvT hZ (oW hw 287 rfl)) (mvT hZ (oW hw 288 rfl)) (mvT hZ (oW hw 289 rfl)) (mvT hZ (oW hw 290 rfl)) (mvT hZ (oW hw 291 rfl)) (by decide) (backOf (W := 0) (rHas_2_0 l Z a0 hw [] nt5 xa h Oh E_nt5 F_cursor_nt5 F_this_0_nt5 E_xa F_size_xa) hZ (oW hw 292 rfl) (oW hw 271 rfl) (by decide) (by decide)) q8a q8b q8c (g := (mkF m 17 #[rv xt, rv xa, rv nt5, uu, uu, uu, uu] [(.ref nt5)])) rfl (by rw [hml]; rfl) (Steps.refl _) (argsL := []) (rest := []) (lenOf pd_3 rfl) rfl (Nat.le_of_eq rfl) (hb hby d38_17) (fun _ _ => ⟨rfl, e0, (by decide : 1 + 0 ≤ _), (by decide : 4 + 0 ≤ _)⟩)
  dsimp only [Pt.U, Pt.locs, Pt.cells, Pt.slots] at X l8 y8 z8 st hQ
  subst l8 y8 z8
  obtain ⟨rfl, e0, K7⟩ := hQ
  have K := K.call K7 all0
  rw [e0] at K
  refine oWk.st (fun _ kt => st.trans (zH X hx hby d38_22 rfl rfl ((if0 _ _).trans (feq (by decide)).1) (zA X hx hby d38_25 rfl rfl rfl kt))) ?_
  have F_elementData_xa := (F_elementData_xa.keep K5.1 nin0)
  have F_modCount_xa := (F_modCount_xa.keep K5.1 nin0)
  have V_xf := (V_xf.keep K5.1 nin0)
  obtain ⟨cq10, kq10, q10a, q10b, q10c⟩ := isOf hZ e0 E_nt5
  obtain ⟨_, _, ⟨T, L10, k10, n10⟩, -, X, ⟨Lc10, hQ, l10, y10, z10⟩, st⟩ := X.interfaceBack hx (xi := yy52) (y := yy40) hown (mvT hZ (oW hw 296 rfl)) (mvT hZ (oW hw 297 rfl)) (mvT hZ (oW hw 298 rfl)) (mvT hZ (oW hw 299 rfl)) (mvT hZ (oW hw 300 rfl)) (mvT hZ (oW hw 301 rfl)) (mvT hZ (oW hw 302 rfl)) (mvT hZ (oW hw 291 rfl)) (by decide) (backOf (W := 0) (rNext_2_0 l Z a0 hw [] nt5 (-1 : Int32) xa xf xk xm xe0 xe1 h Oh (Nat.le_trans O0.1 ge_nt5) ne_xa_nt5 ne_xf_nt5 E_nt5 F_cursor_nt5 F_lastRet_nt5 F_expectedModCount_nt5 F_this_0_nt5 E_xa F_elementData_xa F_size_xa F_modCount_xa V_xf) hZ (oW hw 303 rfl) (oW hw 271 rfl) (by decide) (by decide)) q10a q10b q10c (g := (mkF m 26 #[rv xt, rv xa, rv nt5, uu, uu, uu, uu] [(.ref nt5)])) rfl (by rw [hml]; rfl) (Steps.refl _) (argsL := []) (rest := []) (lenOf pd_24 rfl) rfl (Nat.le_of_eq rfl) (hb hby d38_26) (fun _ _ => ⟨rfl, e0, (by decide : 1 + 0 ≤ _), (by decide : 4 + 0 ≤ _)⟩)
  dsimp only [Pt.U, Pt.locs, Pt.cells, Pt.slots] at X l10 y10 z10 st hQ
  subst l10 y10 z10
  obtain ⟨h, e0⟩ : ∃ z, T.heap = z := ⟨_, rfl⟩
  rw [e0] at hQ
  obtain ⟨rfl, K9, E_nt5, F_cursor_nt5, F_lastRet_nt5, F_expectedModCount_nt5, F_this_0_nt5⟩ := hQ
  have K := K.call K9 (allS (Or.inr ge_nt5) all0)
  refine oWk.st (fun _ kt => st.trans kt) ?_
  have E_xe0 := ((E_xe0.keep K5.1).keep K9.1)
  obtain ⟨T, X, e0, st⟩ := castY X hx hZ hown (oW hw 244 rfl) e0 (Ins.self E_xe0) (g := (mkF m 31 #[rv xt, rv xa, rv nt5, uu, uu, uu, uu] [(.ref xe0)])) rfl rfl (hb hby d38_31)
  refine oWk.st (fun _ kt => st _ (zTn X hx hby d38_34 rfl rfl rfl (l' := #[rv xt, rv xa, rv nt5, rv xe0, uu, uu, uu]) rfl (zA X hx hby d38_35 rfl rfl rfl (zA X hx hby d38_36 rfl rfl rfl kt)))) ?_
  have F_position_xe0 := ((F_position_xe0.keep K5.1 nin0).keep K9.1 (ninS ne_xe0_nt5 nin0))
  have Oh := K.old O0 (allS og_xt (allS og_xb all0))
  obtain ⟨T, L12, X, e0, K, st⟩ := (cs38 hw).pure X hx hZ hown e0 K (A := [(.ref xe0)]) ⟨rfl, _, _, rfl, E_xe0⟩ (rGposition l Z a0 hw [] xe0 xi0 h Oh F_position_xe0) (W := 1) (by decide) hml (Ls := #[rv xt, rv xa, rv nt5, rv xe0, uu, uu, uu]) rfl (rest := [(.ref xt)]) rfl rfl hby d38_37
  refine oWk.st (fun _ kt => st _ kt) ?_
  have E_xt := ((E_xt.keep K5.1).keep K9.1)
  have F_buffer_xt := ((F_buffer_xt.keep K5.1 nin0).keep K9.1 (ninS ne_xt_nt5 nin0))
  have F_gapStart_xt := ((F_gapStart_xt.keep K5.1 nin0).keep K9.1 (ninS ne_xt_nt5 nin0))
  have F_gapEnd_xt := ((F_gapEnd_xt.keep K5.1 nin0).keep K9.1 (ninS ne_xt_nt5 nin0))
  have F_journal_xt := ((F_journal_xt.keep K5.1 nin0).keep K9.1 (ninS ne_xt_nt5 nin0))
  have V_xb := ((V_xb.keep K5.1 nin0).keep K9.1 (ninS ne_xb_nt5 nin0))
  obtain ⟨_, T, h, Lc14, X, e0, hQ, st⟩ := (cs42 hw).run X hx hZ hown e0 (A := [(.ref xt), (.int xi0)]) ⟨rfl, _, _, rfl, E_xt⟩ (rMG l Z a0 hw [] xt xb xN xg xe xv xkb xi0 h Oh og_xt og_xb ne_xt_xb (ar50 ht hNc hp0 hn0) (ar51 ht hNc hp0 hn0) E_xt F_buffer_xt F_gapStart_xt F_gapEnd_xt F_journal_xt V_xb) (W := 0) (by decide) hml (Ls := #[rv xt, rv xa, rv nt5, rv xe0, uu, uu, uu]) rfl (rest := []) rfl rfl hby d38_40
  obtain ⟨nge13, nv13, rfl, K13, E_xt, F_buffer_xt, F_gapStart_xt, F_gapEnd_xt, F_journal_xt, V_xb, hge13⟩ := hQ
  have K := K.call K13 (allS (Or.inl (List.mem_of_getElem? (i := 0) rfl)) (allS (Or.inl (List.mem_of_getElem? (i := 1) rfl)) all0))
  refine oWk.st (fun _ kt => st _ (zA X hx hby d38_43 rfl rfl rfl (zD X hx hby d38_44 rfl rfl rfl kt))) ?_
  obtain ⟨T, X, e0, st⟩ := getF X hx hZ hown (host := "") (Or.inl (oW hw 198 rfl)) Via.refl e0 F_gapEnd_xt (g := (mkF m 45 #[rv xt, rv xa, rv nt5, rv xe0, uu, uu, uu] [(.ref xt), (.ref xt)])) rfl rfl (hb hby d38_45)
  refine oWk.st (fun _ kt => st _ (zA X hx hby d38_48 rfl rfl rfl kt)) ?_
  have F_deleteCount_xe0 := (((F_deleteCount_xe0.keep K5.1 nin0).keep K9.1 (ninS ne_xe0_nt5 nin0)).keep K13.1 (ninS ne_xe0_xt (ninS ne_xe0_xb nin0)))
  have Oh := K.old O0 (allS og_xt (allS og_xb all0))
  have E_xe0 := (E_xe0.keep K13.1)
  obtain ⟨T, L16, X, e0, K, st⟩ := (cs37 hw).pure X hx hZ hown e0 K (A := [(.ref xe0)]) ⟨rfl, _, _, rfl, E_xe0⟩ (rGdeleteCount l Z a0 hw [] xe0 xd0 h Oh F_deleteCount_xe0) (W := 2) (by decide) hml (Ls := #[rv xt, rv xa, rv nt5, rv xe0, uu, uu, uu]) rfl (rest := [(.int nge13), (.ref xt)]) rfl rfl hby d38_49
  refine oWk.st (fun _ kt => st _ (XS.iadd X.here hx rfl (hb hby d38_52) rfl kt)) ?_
  obtain ⟨T, h, X, e0, W17, st⟩ := putF X hx hZ hown (host := "") (Or.inl (oW hw 198 rfl)) Via.refl e0 F_gapEnd_xt E_xt (Or.inl (oW hw 199 rfl)) (oW hw 189 rfl) (ty := .int) (by decide) rfl rfl (g := (mkF m 53 #[rv xt, rv xa, rv nt5, rv xe0, uu, uu, uu] [(.int (nge13 + xd0)), (.ref xt)])) rfl rfl (hb hby d38_53)
  have K := K.wr W17 (Or.inl (List.mem_of_getElem? (i := 0) rfl))
  have F_gapEnd_xt := F_gapEnd_xt.same W17
  refine oWk.st (fun _ kt => st _ (zA X hx hby d38_56 rfl rfl rfl kt)) ?_
  have F_insertionLength_xe0 := ((((F_insertionLength_xe0.keep K5.1 nin0).keep K9.1 (ninS ne_xe0_nt5 nin0)).keep K13.1 (ninS ne_xe0_xt (ninS ne_xe0_xb nin0))).other W17 (Or.inl ne_xe0_xt))
  have Oh := K.old O0 (allS og_xt (allS og_xb all0))
  have E_xe0 := (E_xe0.wr W17)
  obtain ⟨T, L19, X, e0, K, st⟩ := (cs39 hw).pure X hx hZ hown e0 K (A := [(.ref xe0)]) ⟨rfl, _, _, rfl, E_xe0⟩ (rGinsertionLength l Z a0 hw [] xe0 xn0 h Oh F_insertionLength_xe0) (W := 0) (by decide) hml (Ls := #[rv xt, rv xa, rv nt5, rv xe0, uu, uu, uu]) rfl (rest := []) rfl rfl hby d38_57
  refine oWk.st (fun _ kt => st _ (zA X hx hby d38_60 rfl rfl rfl kt)) ?_
  obtain ⟨T, X, e0, st⟩ := getF X hx hZ hown (host := "") (Or.inl (oW hw 198 rfl)) Via.refl e0 F_gapEnd_xt (g := (mkF m 61 #[rv xt, rv xa, rv nt5, rv xe0, uu, uu, uu] [(.ref xt), (.int xn0)])) rfl rfl (hb hby d38_61)
  refine oWk.st (fun _ kt => st _ (zA X hx hby d38_64 rfl rfl rfl kt)) ?_
  have F_gapStart_xt := (F_gapStart_xt.other W17 (Or.inr (slot_ne (Or.inl (oW hw 206 rfl)) (Or.inl (oW hw 199 rfl)) (by decide) (t := .int) (t' := .int) (by decide) (by decide))))
  obtain ⟨T, X, e0, st⟩ := getF X hx hZ hown (host := "") (Or.inl (oW hw 205 rfl)) Via.refl e0 F_gapStart_xt (g := (mkF m 65 #[rv xt, rv xa, rv nt5, rv xe0, uu, uu, uu] [(.ref xt), (.int (nge13 + xd0)), (.int xn0)])) rfl rfl (hb hby d38_65)
  refine oWk.to (mkF m 69 #[rv xt, rv xa, rv nt5, rv xe0, uu, uu, uu] [(.int ((nge13 + xd0) - xi0)), (.int xn0)]) (fun _ kt => st _ (XS.isub X.here hx rfl (hb hby d38_68) rfl kt)) ?_
  have E_xt := (E_xt.wr W17)
  have E_xa := (((E_xa.keep K9.1).keep K13.1).wr W17)
  have V_xf := (((V_xf.keep K9.1 (ninS ne_xf_nt5 nin0)).keep K13.1 (ninS ne_xf_xt (ninS ne_xf_xb nin0))).other W17 ne_xf_xt)
  have E_xe1 := ((((E_xe1.keep K5.1).keep K9.1).keep K13.1).wr W17)
  have U_xs0 := ((((U_xs0.keep K5.1 nin0 nin0).keep K9.1 (ninS ne_xs0_nt5 nin0) (ninS ne_xb0_nt5 nin0)).keep K13.1 (ninS ne_xs0_xt (ninS ne_xs0_xb nin0)) (ninS ne_xb0_xt (ninS ne_xb0_xb nin0))).wr W17 ne_xs0_xt ne_xb0_xt)
  have U_xs1 := ((((U_xs1.keep K5.1 nin0 nin0).keep K9.1 (ninS ne_xs1_nt5 nin0) (ninS ne_xb1_nt5 nin0)).keep K13.1 (ninS ne_xs1_xt (ninS ne_xs1_xb nin0)) (ninS ne_xb1_xt (ninS ne_xb1_xb nin0))).wr W17 ne_xs1_xt ne_xb1_xt)
  have E_nt5 := ((E_nt5.keep K13.1).wr W17)
  have F_elementData_xa := (((F_elementData_xa.keep K9.1 (ninS ne_xa_nt5 nin0)).keep K13.1 (ninS ne_xa_xt (ninS ne_xa_xb nin0))).other W17 (Or.inl ne_xa_xt))
  have F_size_xa := (((F_size_xa.keep K9.1 (ninS ne_xa_nt5 nin0)).keep K13.1 (ninS ne_xa_xt (ninS ne_xa_xb nin0))).other W17 (Or.inl ne_xa_xt))
  have F_modCount_xa := (((F_modCount_xa.keep K9.1 (ninS ne_xa_nt5 nin0)).keep K13.1 (ninS ne_xa_xt (ninS ne_xa_xb nin0))).other W17 (Or.inl ne_xa_xt))
  have F_position_xe0 := ((F_position_xe0.keep K13.1 (ninS ne_xe0_xt (ninS ne_xe0_xb nin0))).other W17 (Or.inl ne_xe0_xt))
  have F_deleteCount_xe0 := (F_deleteCount_xe0.other W17 (Or.inl ne_xe0_xt))
  have F_insertion_xe0 := ((((F_insertion_xe0.keep K5.1 nin0).keep K9.1 (ninS ne_xe0_nt5 nin0)).keep K13.1 (ninS ne_xe0_xt (ninS ne_xe0_xb nin0))).other W17 (Or.inl ne_xe0_xt))
  have F_position_xe1 := ((((F_position_xe1.keep K5.1 nin0).keep K9.1 (ninS ne_xe1_nt5 nin0)).keep K13.1 (ninS ne_xe1_xt (ninS ne_xe1_xb nin0))).other W17 (Or.inl ne_xe1_xt))
  have F_deleteCount_xe1 := ((((F_deleteCount_xe1.keep K5.1 nin0).keep K9.1 (ninS ne_xe1_nt5 nin0)).keep K13.1 (ninS ne_xe1_xt (ninS ne_xe1_xb nin0))).other W17 (Or.inl ne_xe1_xt))
  have F_insertion_xe1 := ((((F_insertion_xe1.keep K5.1 nin0).keep K9.1 (ninS ne_xe1_nt5 nin0)).keep K13.1 (ninS ne_xe1_xt (ninS ne_xe1_xb nin0))).other W17 (Or.inl ne_xe1_xt))
  have F_insertionLength_xe1 := ((((F_insertionLength_xe1.keep K5.1 nin0).keep K9.1 (ninS ne_xe1_nt5 nin0)).keep K13.1 (ninS ne_xe1_xt (ninS ne_xe1_xb nin0))).other W17 (Or.inl ne_xe1_xt))
  have F_cursor_nt5 := ((F_cursor_nt5.keep K13.1 (ninS (Ne.symm ne_xt_nt5) (ninS (Ne.symm ne_xb_nt5) nin0))).other W17 (Or.inl (Ne.symm ne_xt_nt5)))
  have F_lastRet_nt5 := ((F_lastRet_nt5.keep K13.1 (ninS (Ne.symm ne_xt_nt5) (ninS (Ne.symm ne_xb_nt5) nin0))).other W17 (Or.inl (Ne.symm ne_xt_nt5)))
  have F_expectedModCount_nt5 := ((F_expectedModCount_nt5.keep K13.1 (ninS (Ne.symm ne_xt_nt5) (ninS (Ne.symm ne_xb_nt5) nin0))).other W17 (Or.inl (Ne.symm ne_xt_nt5)))
  have F_this_0_nt5 := ((F_this_0_nt5.keep K13.1 (ninS (Ne.symm ne_xt_nt5) (ninS (Ne.symm ne_xb_nt5) nin0))).other W17 (Or.inl (Ne.symm ne_xt_nt5)))
  have F_buffer_xt := (F_buffer_xt.other W17 (Or.inr (slot_ne (Or.inl (oW hw 197 rfl)) (Or.inl (oW hw 199 rfl)) (by decide) (t := (.array .int)) (t' := .int) (by decide) (by decide))))
  have F_journal_xt := (F_journal_xt.other W17 (Or.inr (slot_ne (Or.inl (oW hw 321 rfl)) (Or.inl (oW hw 199 rfl)) (by decide) (t := (.object Y17)) (t' := .int) (by decide) (by decide))))
  have V_xb := (V_xb.other W17 (Ne.symm ne_xt_xb))
  have J85 : ∀ (nb_0 : Addr) (nN_0 : Int32) (nge_0 : Int32) (vb_0 : List Value) (nk_0 : ClassId), (nb_0 = xb ∨ h0.size ≤ nb_0) → (xt ≠ nb_0) → (xa ≠ nb_0) → (xf ≠ nb_0) → (xe0 ≠ nb_0) → (xe1 ≠ nb_0) → (xs0 ≠ nb_0) → (xb0 ≠ nb_0) → (xs1 ≠ nb_0) → (xb1 ≠ nb_0) → (nt5 ≠ nb_0) → (oHT nN_0 xi0 nge_0) → (nN_0.toInt - nge_0.toInt = xN.toInt - (nge13 + xd0).toInt) → (xn0.toInt ≤ nge_0.toInt - xi0.toInt) → (nN_0.toInt = xN.toInt ∨ oNN xN nN_0) → ∀ (T' : State) (L' : List Loc) (h : Heap), oStG X 1 128 T' L' → T'.heap = h → oKp h0 h [xt, xb] L' → Exa Z h xa Y1 → Fld Z h xa Y1 "elementData" Y7 (.ref xf) → Fld Z h xa Y1 "size" "I" (.int (2 : Int32)) → Fld Z h xa Y8 "modCount" "I" (.int xm) → Arv Z h xf xk (.object Y6) (10 : Int32) [(.ref xe0), (.ref xe1), .null, .null, .null, .null, .null, .null, .null, .null] .null → Exa Z h xe0 Y2 → Fld Z h xe0 Y2 "position" "I" (.int xi0) → Fld Z h xe0 Y2 "deleteCount" "I" (.int xd0) → Fld Z h xe0 Y2 "insertion" Y13 (.ref xs0) → Fld Z h xe0 Y2 Y12 "I" (.int xn0) → Exa Z h xe1 Y2 → Fld Z h xe1 Y2 "position" "I" (.int xi1) → Fld Z h xe1 Y2 "deleteCount" "I" (.int xd1) → Fld Z h xe1 Y2 "insertion" Y13 (.ref xs1) → Fld Z h xe1 Y2 Y12 "I" (.int xn1) → oS Z h xs0 xb0 xk0 xn0 xu0 xw0 → oS Z h xs1 xb1 xk1 xn1 xu1 xw1 → Exa Z h nt5 Y5 → Fld Z h nt5 Y5 "cursor" "I" (.int (1 : Int32)) → Fld Z h nt5 Y5 "lastRet" "I" (.int (0 : Int32)) → Fld Z h nt5 Y5 Y19 "I" (.int xm) → Fld Z h nt5 Y5 "this$0" Y14 (.ref xa) → Exa Z h xt Y3 → Fld Z h xt Y3 "buffer" "[I" (.ref nb_0) → Fld Z h xt Y3 "gapStart" "I" (.int xi0) → Fld Z h xt Y3 "gapEnd" "I" (.int nge_0) → Fld Z h xt Y3 "journal" Y18 .null → Arv Z h nb_0 nk_0 .int nN_0 vb_0 (.int (0 : Int32)) → oWk p.tables e below (oDn s below (Q_rAp_2 Z xt xb xN xg xe xv xkb xa xf xk xm xe0 xi0 xd0 xs0 xn0 xe1 xi1 xd1 xs1 xn1 xb0 xk0 xu0 xw0 xb1 xk1 xu1 xw1 xfm xz h0) ({ frames := 5, cells := 3, slots := 260, locals := 114 } : Room).cells ({ frames := 5, cells := 3, slots := 260, locals := 114 } : Room).slots) T' (mkF m 85 #[rv xt, rv xa, rv nt5, rv xe0, uu, uu, uu] []) := by
    intro nb_0 nN_0 nge_0 vb_0 nk_0 hgb0 ne_xt_nb_0 ne_xa_nb_0 ne_xf_nb_0 ne_xe0_nb_0 ne_xe1_nb_0 ne_xs0_nb_0 ne_xb0_nb_0 ne_xs1_nb_0 ne_xb1_nb_0 ne_nt5_nb_0 ha0 hb0 hf0 hd0 T LJ h X e0 K E_xa F_elementData_xa F_size_xa F_modCount_xa V_xf E_xe0 F_position_xe0 F_deleteCount_xe0 F_insertion_xe0 F_insertionLength_xe0 E_xe1 F_position_xe1 F_deleteCount_xe1 F_insertion_xe1 F_insertionLength_xe1 U_xs0 U_xs1 E_nt5 F_cursor_nt5 F_lastRet_nt5 F_expectedModCount_nt5 F_this_0_nt5 E_xt F_buffer_xt F_gapStart_xt F_gapEnd_xt F_journal_xt V_nb_0
    have X : Stand p l e _ _ m _ below meth c T LJ _ _ := X
    refine oWk.st (fun _ kt => zA X hx hby d38_85 rfl rfl rfl kt) ?_
    have Oh := K.old O0 (allS og_xt (allS og_xb all0))
    obtain ⟨T, L21, X, e0, K, st⟩ := (cs43 hw).pure X hx hZ hown e0 K (A := [(.ref xe0)]) ⟨rfl, _, _, rfl, E_xe0⟩ (rGinsertion l Z a0 hw [] xe0 xs0 h Oh F_insertion_xe0) (W := 0) (by decide) hml (Ls := #[rv xt, rv xa, rv nt5, rv xe0, uu, uu, uu]) rfl (rest := []) rfl rfl hby d38_86
    refine oWk.to (mkF m 94 #[rv xt, rv xa, rv nt5, rv xe0, rv xs0, iv 0, uu] []) (fun _ kt => st _ (zT X hx hby d38_89 rfl rfl rfl (l' := #[rv xt, rv xa, rv nt5, rv xe0, rv xs0, uu, uu]) rfl (zK X hx hby d38_91 rfl (zS X hx hby d38_92 rfl rfl (l' := #[rv xt, rv xa, rv nt5, rv xe0, rv xs0, iv 0, uu]) rfl kt)))) ?_
    have J94 : ∀ (d : Nat) (xi_22 : Int32) (gi_22 : Int32) (sl_22 : Slot) (vl_22 : List Value), ((xw0.toInt = 1 ∧ xi_22.toInt + d = xn0.toInt) ∨ (xw0.toInt = 2 ∧ xi_22.toInt + d + d = 2)) → (0 ≤ xi_22.toInt) → (gi_22.toInt + d = xi0.toInt + xn0.toInt) → (sl_22 = uu ∨ ∃ x, sl_22 = iv x) → ∀ (T' : State) (L' : List Loc) (h : Heap), oStd X T' L' → T'.heap = h → oKp h0 h [xt, xb] L' → Exa Z h xa Y1 → Fld Z h xa Y1 "elementData" Y7 (.ref xf) → Fld Z h xa Y1 "size" "I" (.int (2 : Int32)) → Fld Z h xa Y8 "modCount" "I" (.int xm) → Arv Z h xf xk (.object Y6) (10 : Int32) [(.ref xe0), (.ref xe1), .null, .null, .null, .null, .null, .null, .null, .null] .null → Exa Z h xe0 Y2 → Fld Z h xe0 Y2 "position" "I" (.int xi0) → Fld Z h xe0 Y2 "deleteCount" "I" (.int xd0) → Fld Z h xe0 Y2 "insertion" Y13 (.ref xs0) → Fld Z h xe0 Y2 Y12 "I" (.int xn0) → Exa Z h xe1 Y2 → Fld Z h xe1 Y2 "position" "I" (.int xi1) → Fld Z h xe1 Y2 "deleteCount" "I" (.int xd1) → Fld Z h xe1 Y2 "insertion" Y13 (.ref xs1) → Fld Z h xe1 Y2 Y12 "I" (.int xn1) → oS Z h xs0 xb0 xk0 xn0 xu0 xw0 → oS Z h xs1 xb1 xk1 xn1 xu1 xw1 → Exa Z h nt5 Y5 → Fld Z h nt5 Y5 "cursor" "I" (.int (1 : Int32)) → Fld Z h nt5 Y5 "lastRet" "I" (.int (0 : Int32)) → Fld Z h nt5 Y5 Y19 "I" (.int xm) → Fld Z h nt5 Y5 "this$0" Y14 (.ref xa) → Exa Z h xt Y3 → Fld Z h xt Y3 "buffer" "[I" (.ref nb_0) → Fld Z h xt Y3 "gapStart" "I" (.int gi_22) → Fld Z h xt Y3 "gapEnd" "I" (.int nge_0) → Fld Z h xt Y3 "journal" Y18 .null → Arv Z h nb_0 nk_0 .int nN_0 vl_22 (.int (0 : Int32)) → oWk p.tables e below (oDn s below (Q_rAp_2 Z xt xb xN xg xe xv xkb xa xf xk xm xe0 xi0 xd0 xs0 xn0 xe1 xi1 xd1 xs1 xn1 xb0 xk0 xu0 xw0 xb1 xk1 xu1 xw1 xfm xz h0) ({ frames := 5, cells := 3, slots := 260, locals := 114 } : Room).cells ({ frames := 5, cells := 3, slots := 260, locals := 114 } : Room).slots) T' (mkF m 94 #[rv xt, rv xa, rv nt5, rv xe0, rv xs0, iv xi_22, sl_22] []) := by
      intro d
      induction d with
      | zero =>
        intro xi_22 gi_22 sl_22 vl_22 hi22 hj22 hg22 hs22 T LJ h X e0 K E_xa F_elementData_xa F_size_xa F_modCount_xa V_xf E_xe0 F_position_xe0 F_deleteCount_xe0 F_insertion_xe0 F_insertionLength_xe0 E_xe1 F_position_xe1 F_deleteCount_xe1 F_insertion_xe1 F_insertionLength_xe1 U_xs0 U_xs1 E_nt5 F_cursor_nt5 F_lastRet_nt5 F_expectedModCount_nt5 F_this_0_nt5 E_xt F_buffer_xt F_gapStart_xt F_gapEnd_xt F_journal_xt V_nb_0
        have X : Stand p l e _ _ m _ below meth c T LJ _ _ := X
        refine oWk.st (fun _ kt => zJ X hx hby d38_94 rfl rfl (zB X hx hby d38_96 rfl rfl rfl kt)) ?_
        have Oh := K.old O0 (allS og_xt (allS og_xb all0))
        obtain ⟨T, L24, X, e0, K, st⟩ := (cs44 hw).pure X hx hZ hown e0 K (A := [(.ref xs0)]) ⟨rfl, _, _, rfl, U_xs0.exa⟩ (rSLn l Z a0 hw [] xs0 xb0 xk0 xn0 xu0 xw0 xz h Oh S_Z hz U_xs0) (W := 1) (by decide) hml (Ls := #[rv xt, rv xa, rv nt5, rv xe0, rv xs0, iv xi_22, sl_22]) rfl (rest := [(.int xi_22)]) rfl rfl hby d38_98
        refine oWk.st (fun _ kt => st _ (zY X hx hby d38_101 rfl rfl (flt (ar55 ht hNc hp0 hn0 hge13 ha0 hb0 hf0 hd0 hi22 hj22 hg22)).2.1 (pc' := 144) rfl (zG X hx hby d38_144 rfl (pc' := 16) rfl (zA X hx hby d38_16 rfl rfl rfl kt)))) ?_
        obtain ⟨cq26, kq26, q26a, q26b, q26c⟩ := isOf hZ e0 E_nt5
        obtain ⟨_, _, ⟨T, L26, k26, n26⟩, -, X, ⟨Lc26, hQ, l26, y26, z26⟩, st⟩ := X.interfaceBack hx (xi := yy51) (y := yy38) hown (mvT hZ (oW hw 284 rfl)) (mvT hZ (oW hw 285 rfl)) (mvT hZ (oW hw 286 rfl)) (mvT hZ (oW hw 287 rfl)) (mvT hZ (oW hw 288 rfl)) (mvT hZ (oW hw 289 rfl)) (mvT hZ (oW hw 290 rfl)) (mvT hZ (oW hw 291 rfl)) (by decide) (backOf (W := 0) (rHas_2_1 l Z a0 hw [] nt5 xa h Oh E_nt5 F_cursor_nt5 F_this_0_nt5 E_xa F_size_xa) hZ (oW hw 292 rfl) (oW hw 271 rfl) (by decide) (by decide)) q26a q26b q26c (g := (mkF m 17 #[rv xt, rv xa, rv nt5, rv xe0, rv xs0, iv xi_22, sl_22] [(.ref nt5)])) rfl (by rw [hml]; rfl) (Steps.refl _) (argsL := []) (rest := []) (lenOf pd_3 rfl) rfl (Nat.le_of_eq rfl) (hb hby d38_17) (fun _ _ => ⟨rfl, e0, (by decide : 2 + 0 ≤ _), (by decide : 132 + 0 ≤ _)⟩)
        dsimp only [Pt.U, Pt.locs, Pt.cells, Pt.slots] at X l26 y26 z26 st hQ
        subst l26 y26 z26
        obtain ⟨rfl, e0, K25⟩ := hQ
        have K := K.call K25 all0
        rw [e0] at K
        refine oWk.st (fun _ kt => st.trans (zH X hx hby d38_22 rfl rfl ((if0 _ _).trans (feq (by decide)).1) (zA X hx hby d38_25 rfl rfl rfl kt))) ?_
        obtain ⟨cq28, kq28, q28a, q28b, q28c⟩ := isOf hZ e0 E_nt5
        obtain ⟨_, _, ⟨T, L28, k28, n28⟩, -, X, ⟨Lc28, hQ, l28, y28, z28⟩, st⟩ := X.interfaceBack hx (xi := yy52) (y := yy40) hown (mvT hZ (oW hw 296 rfl)) (mvT hZ (oW hw 297 rfl)) (mvT hZ (oW hw 298 rfl)) (mvT hZ (oW hw 299 rfl)) (mvT hZ (oW hw 300 rfl)) (mvT hZ (oW hw 301 rfl)) (mvT hZ (oW hw 302 rfl)) (mvT hZ (oW hw 291 rfl)) (by decide) (backOf (W := 0) (rNext_2_1 l Z a0 hw [] nt5 (0 : Int32) xa xf xk xm xe0 xe1 h Oh (Nat.le_trans O0.1 ge_nt5) ne_xa_nt5 ne_xf_nt5 E_nt5 F_cursor_nt5 F_lastRet_nt5 F_expectedModCount_nt5 F_this_0_nt5 E_xa F_elementData_xa F_size_xa F_modCount_xa V_xf) hZ (oW hw 303 rfl) (oW hw 271 rfl) (by decide) (by decide)) q28a q28b q28c (g := (mkF m 26 #[rv xt, rv xa, rv nt5, rv xe0, rv xs0, iv xi_22, sl_22] [(.ref nt5)])) rfl (by rw [hml]; rfl) (Steps.refl _) (argsL := []) (rest := []) (lenOf pd_24 rfl) rfl (Nat.le_of_eq rfl) (hb hby d38_26) (fun _ _ => ⟨rfl, e0, (by decide : 2 + 0 ≤ _), (by decide : 132 + 0 ≤ _)⟩)
        dsimp only [Pt.U, Pt.locs, Pt.cells, Pt.slots] at X l28 y28 z28 st hQ
        subst l28 y28 z28
        obtain ⟨h, e0⟩ : ∃ z, T.heap = z := ⟨_, rfl⟩
        rw [e0] at hQ
        obtain ⟨rfl, K27, E_nt5, F_cursor_nt5, F_lastRet_nt5, F_expectedModCount_nt5, F_this_0_nt5⟩ := hQ
        have K := K.call K27 (allS (Or.inr ge_nt5) all0)
        refine oWk.st (fun _ kt => st.trans kt) ?_
        have E_xe1 := (E_xe1.keep K27.1)
        obtain ⟨T, X, e0, st⟩ := castY X hx hZ hown (oW hw 244 rfl) e0 (Ins.self E_xe1) (g := (mkF m 31 #[rv xt, rv xa, rv nt5, rv xe0, rv xs0, iv xi_22, sl_22] [(.ref xe1)])) rfl rfl (hb hby d38_31)
        refine oWk.st (fun _ kt => st _ (zTn X hx hby d38_34 rfl rfl rfl (l' := #[rv xt, rv xa, rv nt5, rv xe1, rv xs0, iv xi_22, sl_22]) rfl (zA X hx hby d38_35 rfl rfl rfl (zA X hx hby d38_36 rfl rfl rfl kt)))) ?_
        have F_position_xe1 := (F_position_xe1.keep K27.1 (ninS ne_xe1_nt5 nin0))
        have Oh := K.old O0 (allS og_xt (allS og_xb all0))
        obtain ⟨T, L30, X, e0, K, st⟩ := (cs38 hw).pure X hx hZ hown e0 K (A := [(.ref xe1)]) ⟨rfl, _, _, rfl, E_xe1⟩ (rGposition l Z a0 hw [] xe1 xi1 h Oh F_position_xe1) (W := 1) (by decide) hml (Ls := #[rv xt, rv xa, rv nt5, rv xe1, rv xs0, iv xi_22, sl_22]) rfl (rest := [(.ref xt)]) rfl rfl hby d38_37
        refine oWk.st (fun _ kt => st _ kt) ?_
        have E_xt := (E_xt.keep K27.1)
        have F_buffer_xt := (F_buffer_xt.keep K27.1 (ninS ne_xt_nt5 nin0))
        have F_gapStart_xt := (F_gapStart_xt.keep K27.1 (ninS ne_xt_nt5 nin0))
        have F_gapEnd_xt := (F_gapEnd_xt.keep K27.1 (ninS ne_xt_nt5 nin0))
        have F_journal_xt := (F_journal_xt.keep K27.1 (ninS ne_xt_nt5 nin0))
        have V_nb_0 := (V_nb_0.keep K27.1 (ninS (Ne.symm ne_nt5_nb_0) nin0))
        obtain ⟨_, T, h, Lc32, X, e0, hQ, st⟩ := (cs42 hw).run X hx hZ hown e0 (A := [(.ref xt), (.int xi1)]) ⟨rfl, _, _, rfl, E_xt⟩ (rMG l Z a0 hw [] xt nb_0 nN_0 gi_22 nge_0 vl_22 nk_0 xi1 h Oh og_xt (oOld hgb0 og_xb O0.1) ne_xt_nb_0 (ar56 ht hNc hp0 hp1 hn0 hn1 hge13 ha0 hb0 hf0 hd0 hi22 hj22 hg22) (ar57 ht hNc hp0 hp1 hn0 hn1 hge13 ha0 hb0 hf0 hd0 hi22 hj22 hg22) E_xt F_buffer_xt F_gapStart_xt F_gapEnd_xt F_journal_xt V_nb_0) (W := 0) (by decide) hml (Ls := #[rv xt, rv xa, rv nt5, rv xe1, rv xs0, iv xi_22, sl_22]) rfl (rest := []) rfl rfl hby d38_40
        obtain ⟨nge31, nv31, rfl, K31, E_xt, F_buffer_xt, F_gapStart_xt, F_gapEnd_xt, F_journal_xt, V_nb_0, hge31⟩ := hQ
        have K := K.call K31 (allS (Or.inl (List.mem_of_getElem? (i := 0) rfl)) (allS (oIn hgb0) all0))
        refine oWk.st (fun _ kt => st _ (zA X hx hby d38_43 rfl rfl rfl (zD X hx hby d38_44 rfl rfl rfl kt))) ?_
        obtain ⟨T, X, e0, st⟩ := getF X hx hZ hown (host := "") (Or.inl (oW hw 198 rfl)) Via.refl e0 F_gapEnd_xt (g := (mkF m 45 #[rv xt, rv xa, rv nt5, rv xe1, rv xs0, iv xi_22, sl_22] [(.ref xt), (.ref xt)])) rfl rfl (hb hby d38_45)
        refine oWk.st (fun _ kt => st _ (zA X hx hby d38_48 rfl rfl rfl kt)) ?_
        have F_deleteCount_xe1 := ((F_deleteCount_xe1.keep K27.1 (ninS ne_xe1_nt5 nin0)).keep K31.1 (ninS ne_xe1_xt (ninS ne_xe1_nb_0 nin0)))
        have Oh := K.old O0 (allS og_xt (allS og_xb all0))
        have E_xe1 := (E_xe1.keep K31.1)
        obtain ⟨T, L34, X, e0, K, st⟩ := (cs37 hw).pure X hx hZ hown e0 K (A := [(.ref xe1)]) ⟨rfl, _, _, rfl, E_xe1⟩ (rGdeleteCount l Z a0 hw [] xe1 xd1 h Oh F_deleteCount_xe1) (W := 2) (by decide) hml (Ls := #[rv xt, rv xa, rv nt5, rv xe1, rv xs0, iv xi_22, sl_22]) rfl (rest := [(.int nge31), (.ref xt)]) rfl rfl hby d38_49
        refine oWk.st (fun _ kt => st _ (XS.iadd X.here hx rfl (hb hby d38_52) rfl kt)) ?_
        obtain ⟨T, h, X, e0, W35, st⟩ := putF X hx hZ hown (host := "") (Or.inl (oW hw 198 rfl)) Via.refl e0 F_gapEnd_xt E_xt (Or.inl (oW hw 199 rfl)) (oW hw 189 rfl) (ty := .int) (by decide) rfl rfl (g := (mkF m 53 #[rv xt, rv xa, rv nt5, rv xe1, rv xs0, iv xi_22, sl_22] [(.int (nge31 + xd1)), (.ref xt)])) rfl rfl (hb hby d38_53)
        have K := K.wr W35 (Or.inl (List.mem_of_getElem? (i := 0) rfl))
        have F_gapEnd_xt := F_gapEnd_xt.same W35
        refine oWk.st (fun _ kt => st _ (zA X hx hby d38_56 rfl rfl rfl kt)) ?_
        have F_insertionLength_xe1 := (((F_insertionLength_xe1.keep K27.1 (ninS ne_xe1_nt5 nin0)).keep K31.1 (ninS ne_xe1_xt (ninS ne_xe1_nb_0 nin0))).other W35 (Or.inl ne_xe1_xt))
        have Oh := K.old O0 (allS og_xt (allS og_xb all0))
        have E_xe1 := (E_xe1.wr W35)
        obtain ⟨T, L37, X, e0, K, st⟩ := (cs39 hw).pure X hx hZ hown e0 K (A := [(.ref xe1)]) ⟨rfl, _, _, rfl, E_xe1⟩ (rGinsertionLength l Z a0 hw [] xe1 xn1 h Oh F_insertionLength_xe1) (W := 0) (by decide) hml (Ls := #[rv xt, rv xa, rv nt5, rv xe1, rv xs0, iv xi_22, sl_22]) rfl (rest := []) rfl rfl hby d38_57
        refine oWk.st (fun _ kt => st _ (zA X hx hby d38_60 rfl rfl rfl kt)) ?_
        obtain ⟨T, X, e0, st⟩ := getF X hx hZ hown (host := "") (Or.inl (oW hw 198 rfl)) Via.refl e0 F_gapEnd_xt (g := (mkF m 61 #[rv xt, rv xa, rv nt5, rv xe1, rv xs0, iv xi_22, sl_22] [(.ref xt), (.int xn1)])) rfl rfl (hb hby d38_61)
        refine oWk.st (fun _ kt => st _ (zA X hx hby d38_64 rfl rfl rfl kt)) ?_
        have F_gapStart_xt := (F_gapStart_xt.other W35 (Or.inr (slot_ne (Or.inl (oW hw 206 rfl)) (Or.inl (oW hw 199 rfl)) (by decide) (t := .int) (t' := .int) (by decide) (by decide))))
        obtain ⟨T, X, e0, st⟩ := getF X hx hZ hown (host := "") (Or.inl (oW hw 205 rfl)) Via.refl e0 F_gapStart_xt (g := (mkF m 65 #[rv xt, rv xa, rv nt5, rv xe1, rv xs0, iv xi_22, sl_22] [(.ref xt), (.int (nge31 + xd1)), (.int xn1)])) rfl rfl (hb hby d38_65)
        refine oWk.to (mkF m 69 #[rv xt, rv xa, rv nt5, rv xe1, rv xs0, iv xi_22, sl_22] [(.int ((nge31 + xd1) - xi1)), (.int xn1)]) (fun _ kt => st _ (XS.isub X.here hx rfl (hb hby d38_68) rfl kt)) ?_
        have E_xt := (E_xt.wr W35)
        have E_xa := (((E_xa.keep K27.1).keep K31.1).wr W35)
        have V_xf := (((V_xf.keep K27.1 (ninS ne_xf_nt5 nin0)).keep K31.1 (ninS ne_xf_xt (ninS ne_xf_nb_0 nin0))).other W35 ne_xf_xt)
        have E_xe0 := (((E_xe0.keep K27.1).keep K31.1).wr W35)
        have U_xs0 := (((U_xs0.keep K27.1 (ninS ne_xs0_nt5 nin0) (ninS ne_xb0_nt5 nin0)).keep K31.1 (ninS ne_xs0_xt (ninS ne_xs0_nb_0 nin0)) (ninS ne_xb0_xt (ninS ne_xb0_nb_0 nin0))).wr W35 ne_xs0_xt ne_xb0_xt)
        have U_xs1 := (((U_xs1.keep K27.1 (ninS ne_xs1_nt5 nin0) (ninS ne_xb1_nt5 nin0)).keep K31.1 (ninS ne_xs1_xt (ninS ne_xs1_nb_0 nin0)) (ninS ne_xb1_xt (ninS ne_xb1_nb_0 nin0))).wr W35 ne_xs1_xt ne_xb1_xt)
        have E_nt5 := ((E_nt5.keep K31.1).wr W35)
        have F_elementData_xa := (((F_elementData_xa.keep K27.1 (ninS ne_xa_nt5 nin0)).keep K31.1 (ninS ne_xa_xt (ninS ne_xa_nb_0 nin0))).other W35 (Or.inl ne_xa_xt))
        have F_size_xa := (((F_size_xa.keep K27.1 (ninS ne_xa_nt5 nin0)).keep K31.1 (ninS ne_xa_xt (ninS ne_xa_nb_0 nin0))).other W35 (Or.inl ne_xa_xt))
        have F_modCount_xa := (((F_modCount_xa.keep K27.1 (ninS ne_xa_nt5 nin0)).keep K31.1 (ninS ne_xa_xt (ninS ne_xa_nb_0 nin0))).other W35 (Or.inl ne_xa_xt))
        have F_position_xe0 := (((F_position_xe0.keep K27.1 (ninS ne_xe0_nt5 nin0)).keep K31.1 (ninS ne_xe0_xt (ninS ne_xe0_nb_0 nin0))).other W35 (Or.inl ne_xe0_xt))
        have F_deleteCount_xe0 := (((F_deleteCount_xe0.keep K27.1 (ninS ne_xe0_nt5 nin0)).keep K31.1 (ninS ne_xe0_xt (ninS ne_xe0_nb_0 nin0))).other W35 (Or.inl ne_xe0_xt))
        have F_insertion_xe0 := (((F_insertion_xe0.keep K27.1 (ninS ne_xe0_nt5 nin0)).keep K31.1 (ninS ne_xe0_xt (ninS ne_xe0_nb_0 nin0))).other W35 (Or.inl ne_xe0_xt))
        have F_insertionLength_xe0 := (((F_insertionLength_xe0.keep K27.1 (ninS ne_xe0_nt5 nin0)).keep K31.1 (ninS ne_xe0_xt (ninS ne_xe0_nb_0 nin0))).other W35 (Or.inl ne_xe0_xt))
        have F_position_xe1 := ((F_position_xe1.keep K31.1 (ninS ne_xe1_xt (ninS ne_xe1_nb_0 nin0))).other W35 (Or.inl ne_xe1_xt))
        have F_deleteCount_xe1 := (F_deleteCount_xe1.other W35 (Or.inl ne_xe1_xt))
        have F_insertion_xe1 := (((F_insertion_xe1.keep K27.1 (ninS ne_xe1_nt5 nin0)).keep K31.1 (ninS ne_xe1_xt (ninS ne_xe1_nb_0 nin0))).other W35 (Or.inl ne_xe1_xt))
        have F_cursor_nt5 := ((F_cursor_nt5.keep K31.1 (ninS (Ne.symm ne_xt_nt5) (ninS ne_nt5_nb_0 nin0))).other W35 (Or.inl (Ne.symm ne_xt_nt5)))
        have F_lastRet_nt5 := ((F_lastRet_nt5.keep K31.1 (ninS (Ne.symm ne_xt_nt5) (ninS ne_nt5_nb_0 nin0))).other W35 (Or.inl (Ne.symm ne_xt_nt5)))
        have F_expectedModCount_nt5 := ((F_expectedModCount_nt5.keep K31.1 (ninS (Ne.symm ne_xt_nt5) (ninS ne_nt5_nb_0 nin0))).other W35 (Or.inl (Ne.symm ne_xt_nt5)))
        have F_this_0_nt5 := ((F_this_0_nt5.keep K31.1 (ninS (Ne.symm ne_xt_nt5) (ninS ne_nt5_nb_0 nin0))).other W35 (Or.inl (Ne.symm ne_xt_nt5)))
        have F_buffer_xt := (F_buffer_xt.other W35 (Or.inr (slot_ne (Or.inl (oW hw 197 rfl)) (Or.inl (oW hw 199 rfl)) (by decide) (t := (.array .int)) (t' := .int) (by decide) (by decide))))
        have F_journal_xt := (F_journal_xt.other W35 (Or.inr (slot_ne (Or.inl (oW hw 321 rfl)) (Or.inl (oW hw 199 rfl)) (by decide) (t := (.object Y17)) (t' := .int) (by decide) (by decide))))
        have V_nb_0 := (V_nb_0.other W35 (Ne.symm ne_xt_nb_0))
        have J85 : ∀ (nb_1 : Addr) (nN_1 : Int32) (nge_1 : Int32) (vb_1 : List Value) (nk_1 : ClassId), (nb_1 = xb ∨ h0.size ≤ nb_1) → (xt ≠ nb_1) → (xa ≠ nb_1) → (xf ≠ nb_1) → (xe0 ≠ nb_1) → (xe1 ≠ nb_1) → (xs0 ≠ nb_1) → (xb0 ≠ nb_1) → (xs1 ≠ nb_1) → (xb1 ≠ nb_1) → (nt5 ≠ nb_1) → (oHT nN_1 xi1 nge_1) → (nN_1.toInt - nge_1.toInt = nN_0.toInt - (nge31 + xd1).toInt) → (xn1.toInt ≤ nge_1.toInt - xi1.toInt) → (nN_1.toInt = nN_0.toInt ∨ oNN nN_0 nN_1) → ∀ (T' : State) (L' : List Loc) (h : Heap), oStG X 1 128 T' L' → T'.heap = h → oKp h0 h [xt, xb] L' → Exa Z h xa Y1 → Fld Z h xa Y1 "elementData" Y7 (.ref xf) → Fld Z h xa Y1 "size" "I" (.int (2 : Int32)) → Fld Z h xa Y8 "modCount" "I" (.int xm) → Arv Z h xf xk (.object Y6) (10 : Int32) [(.ref xe0), (.ref xe1), .null, .null, .null, .null, .null, .null, .null, .null] .null → Exa Z h xe0 Y2 → Fld Z h xe0 Y2 "position" "I" (.int xi0) → Fld Z h xe0 Y2 "deleteCount" "I" (.int xd0) → Fld Z h xe0 Y2 "insertion" Y13 (.ref xs0) → Fld Z h xe0 Y2 Y12 "I" (.int xn0) → Exa Z h xe1 Y2 → Fld Z h xe1 Y2 "position" "I" (.int xi1) → Fld Z h xe1 Y2 "deleteCount" "I" (.int xd1) → Fld Z h xe1 Y2 "insertion" Y13 (.ref xs1) → Fld Z h xe1 Y2 Y12 "I" (.int xn1) → oS Z h xs0 xb0 xk0 xn0 xu0 xw0 → oS Z h xs1 xb1 xk1 xn1 xu1 xw1 → Exa Z h nt5 Y5 → Fld Z h nt5 Y5 "cursor" "I" (.int (2 : Int32)) → Fld Z h nt5 Y5 "lastRet" "I" (.int (1 : Int32)) → Fld Z h nt5 Y5 Y19 "I" (.int xm) → Fld Z h nt5 Y5 "this$0" Y14 (.ref xa) → Exa Z h xt Y3 → Fld Z h xt Y3 "buffer" "[I" (.ref nb_1) → Fld Z h xt Y3 "gapStart" "I" (.int xi1) → Fld Z h xt Y3 "gapEnd" "I" (.int nge_1) → Fld Z h xt Y3 "journal" Y18 .null → Arv Z h nb_1 nk_1 .int nN_1 vb_1 (.int (0 : Int32)) → oWk p.tables e below (oDn s below (Q_rAp_2 Z xt xb xN xg xe xv xkb xa xf xk xm xe0 xi0 xd0 xs0 xn0 xe1 xi1 xd1 xs1 xn1 xb0 xk0 xu0 xw0 xb1 xk1 xu1 xw1 xfm xz h0) ({ frames := 5, cells := 3, slots := 260, locals := 114 } : Room).cells ({ frames := 5, cells := 3, slots := 260, locals := 114 } : Room).slots) T' (mkF m 85 #[rv xt, rv xa, rv nt5, rv xe1, rv xs0, iv xi_22, sl_22] []) := by
          intro nb_1 nN_1 nge_1 vb_1 nk_1 hgb1 ne_xt_nb_1 ne_xa_nb_1 ne_xf_nb_1 ne_xe0_nb_1 ne_xe1_nb_1 ne_xs0_nb_1 ne_xb0_nb_1 ne_xs1_nb_1 ne_xb1_nb_1 ne_nt5_nb_1 ha1 hb1 hf1 hd1 T LJ h X e0 K E_xa F_elementData_xa F_size_xa F_modCount_xa V_xf E_xe0 F_position_xe0 F_deleteCount_xe0 F_insertion_xe0 F_insertionLength_xe0 E_xe1 F_position_xe1 F_deleteCount_xe1 F_insertion_xe1 F_insertionLength_xe1 U_xs0 U_xs1 E_nt5 F_cursor_nt5 F_lastRet_nt5 F_expectedModCount_nt5 F_this_0_nt5 E_xt F_buffer_xt F_gapStart_xt F_gapEnd_xt F_journal_xt V_nb_1
          have X : Stand p l e _ _ m _ below meth c T LJ _ _ := X
          refine oWk.st (fun _ kt => zA X hx hby d38_85 rfl rfl rfl kt) ?_
          have Oh := K.old O0 (allS og_xt (allS og_xb all0))
          obtain ⟨T, L39, X, e0, K, st⟩ := (cs43 hw).pure X hx hZ hown e0 K (A := [(.ref xe1)]) ⟨rfl, _, _, rfl, E_xe1⟩ (rGinsertion l Z a0 hw [] xe1 xs1 h Oh F_insertion_xe1) (W := 0) (by decide) hml (Ls := #[rv xt, rv xa, rv nt5, rv xe1, rv xs0, iv xi_22, sl_22]) rfl (rest := []) rfl rfl hby d38_86
          refine oWk.to (mkF m 94 #[rv xt, rv xa, rv nt5, rv xe1, rv xs1, iv 0, sl_22] []) (fun _ kt => st _ (zT X hx hby d38_89 rfl rfl rfl (l' := #[rv xt, rv xa, rv nt5, rv xe1, rv xs1, iv xi_22, sl_22]) rfl (zK X hx hby d38_91 rfl (zS X hx hby d38_92 rfl rfl (l' := #[rv xt, rv xa, rv nt5, rv xe1, rv xs1, iv 0, sl_22]) rfl kt)))) ?_
          have J94 : ∀ (d : Nat) (xi_40 : Int32) (gi_40 : Int32) (sl_40 : Slot) (vl_40 : List Value), ((xw1.toInt = 1 ∧ xi_40.toInt + d = xn1.toInt) ∨ (xw1.toInt = 2 ∧ xi_40.toInt + d + d = 2)) → (0 ≤ xi_40.toInt) → (gi_40.toInt + d = xi1.toInt + xn1.toInt) → (sl_40 = uu ∨ ∃ x, sl_40 = iv x) → ∀ (T' : State) (L' : List Loc) (h : Heap), oStd X T' L' → T'.heap = h → oKp h0 h [xt, xb] L' → Exa Z h xa Y1 → Fld Z h xa Y1 "elementData" Y7 (.ref xf) → Fld Z h xa Y1 "size" "I" (.int (2 : Int32)) → Fld Z h xa Y8 "modCount" "I" (.int xm) → Arv Z h xf xk (.object Y6) (10 : Int32) [(.ref xe0), (.ref xe1), .null, .null, .null, .null, .null, .null, .null, .null] .null → Exa Z h xe0 Y2 → Fld Z h xe0 Y2 "position" "I" (.int xi0) → Fld Z h xe0 Y2 "deleteCount" "I" (.int xd0) → Fld Z h xe0 Y2 "insertion" Y13 (.ref xs0) → Fld Z h xe0 Y2 Y12 "I" (.int xn0) → Exa Z h xe1 Y2 → Fld Z h xe1 Y2 "position" "I" (.int xi1) → Fld Z h xe1 Y2 "deleteCount" "I" (.int xd1) → Fld Z h xe1 Y2 "insertion" Y13 (.ref xs1) → Fld Z h xe1 Y2 Y12 "I" (.int xn1) → oS Z h xs0 xb0 xk0 xn0 xu0 xw0 → oS Z h xs1 xb1 xk1 xn1 xu1 xw1 → Exa Z h nt5 Y5 → Fld Z h nt5 Y5 "cursor" "I" (.int (2 : Int32)) → Fld Z h nt5 Y5 "lastRet" "I" (.int (1 : Int32)) → Fld Z h nt5 Y5 Y19 "I" (.int xm) → Fld Z h nt5 Y5 "this$0" Y14 (.ref xa) → Exa Z h xt Y3 → Fld Z h xt Y3 "buffer" "[I" (.ref nb_1) → Fld Z h xt Y3 "gapStart" "I" (.int gi_40) → Fld Z h xt Y3 "gapEnd" "I" (.int nge_1) → Fld Z h xt Y3 "journal" Y18 .null → Arv Z h nb_1 nk_1 .int nN_1 vl_40 (.int (0 : Int32)) → oWk p.tables e below (oDn s below (Q_rAp_2 Z xt xb xN xg xe xv xkb xa xf xk xm xe0 xi0 xd0 xs0 xn0 xe1 xi1 xd1 xs1 xn1 xb0 xk0 xu0 xw0 xb1 xk1 xu1 xw1 xfm xz h0) ({ frames := 5, cells := 3, slots := 260, locals := 114 } : Room).cells ({ frames := 5, cells := 3, slots := 260, locals := 114 } : Room).slots) T' (mkF m 94 #[rv xt, rv xa, rv nt5, rv xe1, rv xs1, iv xi_40, sl_40] []) := by
            intro d
            induction d with
            | zero =>
              intro xi_40 gi_40 sl_40 vl_40 hi40 hj40 hg40 hs40 T LJ h X e0 K E_xa F_elementData_xa F_size_xa F_modCount_xa V_xf E_xe0 F_position_xe0 F_deleteCount_xe0 F_insertion_xe0 F_insertionLength_xe0 E_xe1 F_position_xe1 F_deleteCount_xe1 F_insertion_xe1 F_insertionLength_xe1 U_xs0 U_xs1 E_nt5 F_cursor_nt5 F_lastRet_nt5 F_expectedModCount_nt5 F_this_0_nt5 E_xt F_buffer_xt F_gapStart_xt F_gapEnd_xt F_journal_xt V_nb_1
              have X : Stand p l e _ _ m _ below meth c T LJ _ _ := X
              refine oWk.st (fun _ kt => zJ X hx hby d38_94 rfl rfl (zB X hx hby d38_96 rfl rfl rfl kt)) ?_
              have Oh := K.old O0 (allS og_xt (allS og_xb all0))
              obtain ⟨T, L42, X, e0, K, st⟩ := (cs44 hw).pure X hx hZ hown e0 K (A := [(.ref xs1)]) ⟨rfl, _, _, rfl, U_xs1.exa⟩ (rSLn l Z a0 hw [] xs1 xb1 xk1 xn1 xu1 xw1 xz h Oh S_Z hz U_xs1) (W := 1) (by decide) hml (Ls := #[rv xt, rv xa, rv nt5, rv xe1, rv xs1, iv xi_40, sl_40]) rfl (rest := [(.int xi_40)]) rfl rfl hby d38_98
              refine oWk.st (fun _ kt => st _ (zY X hx hby d38_101 rfl rfl (flt (ar61 ht hNc hp0 hp1 hn0 hn1 hge13 ha0 hb0 hf0 hd0 hi22 hj22 hg22 hge31 ha1 hb1 hf1 hd1 hi40 hj40 hg40)).2.1 (pc' := 144) rfl (zG X hx hby d38_144 rfl (pc' := 16) rfl (zA X hx hby d38_16 rfl rfl rfl kt)))) ?_
              obtain ⟨cq44, kq44, q44a, q44b, q44c⟩ := isOf hZ e0 E_nt5
              obtain ⟨_, _, ⟨T, L44, k44, n44⟩, -, X, ⟨Lc44, hQ, l44, y44, z44⟩, st⟩ := X.interfaceBack hx (xi := yy51) (y := yy38) hown (mvT hZ (oW hw 284 rfl)) (mvT hZ (oW hw 285 rfl)) (mvT hZ (oW hw 286 rfl)) (mvT hZ (oW hw 287 rfl)) (mvT hZ (oW hw 288 rfl)) (mvT hZ (oW hw 289 rfl)) (mvT hZ (oW hw 290 rfl)) (mvT hZ (oW hw 291 rfl)) (by decide) (backOf (W := 0) (rHas_2_2 l Z a0 hw [] nt5 xa h Oh E_nt5 F_cursor_nt5 F_this_0_nt5 E_xa F_size_xa) hZ (oW hw 292 rfl) (oW hw 271 rfl) (by decide) (by decide)) q44a q44b q44c (g := (mkF m 17 #[rv xt, rv xa, rv nt5, rv xe1, rv xs1, iv xi_40, sl_40] [(.ref nt5)])) rfl (by rw [hml]; rfl) (Steps.refl _) (argsL := []) (rest := []) (lenOf pd_3 rfl) rfl (Nat.le_of_eq rfl) (hb hby d38_17) (fun _ _ => ⟨rfl, e0, (by decide : 3 + 0 ≤ _), (by decide : 260 + 0 ≤ _)⟩)
              dsimp only [Pt.U, Pt.locs, Pt.cells, Pt.slots] at X l44 y44 z44 st hQ
              subst l44 y44 z44
              obtain ⟨rfl, e0, K43⟩ := hQ
              have K := K.call K43 all0
              rw [e0] at K
              refine oWk.st (fun _ kt => st.trans (zF X hx hby d38_22 rfl rfl ((if0 _ _).trans (teq (by decide)).1) (pc' := 147) rfl (zA X hx hby d38_147 rfl rfl rfl kt))) ?_
              obtain ⟨T, X, e0, st⟩ := getF X hx hZ hown (host := "") (Or.inl (oW hw 320 rfl)) Via.refl e0 F_journal_xt (g := (mkF m 148 #[rv xt, rv xa, rv nt5, rv xe1, rv xs1, iv xi_40, sl_40] [(.ref xt)])) rfl rfl (hb hby d38_148)
              refine oWk.to (mkF m 189 #[rv xt, rv xa, rv nt5, rv xe1, rv xs1, iv xi_40, sl_40] []) (fun _ kt => st _ (XS.ifnullYes X.here hx rfl (pc0 := 151) (pc' := 189) rfl (hb hby d38_151) rfl (by decide) (by decide) kt)) ?_
              exact oRetV X hx hlk hret (hb hby d38_189) (by rw [e0]; exact ⟨nb_1, nN_1, gi_40, nge_1, vl_40, nk_1, rfl, K, E_xt, F_buffer_xt, F_gapStart_xt, F_gapEnd_xt, F_journal_xt, V_nb_1, (hgb1), ((ar62 ht hNc hp0 hp1 hn0 hn1 hge13 ha0 hb0 hf0 hd0 hi22 hj22 hg22 hge31 ha1 hb1 hf1 hd1 hi40 hj40 hg40)), ((ar63 ht hNc hp0 hp1 hn0 hn1 hge13 ha0 hb0 hf0 hd0 hi22 hj22 hg22 hge31 ha1 hb1 hf1 hd1 hi40 hj40 hg40))⟩) (by decide) (by decide)
            | succ d ih =>
              intro xi_40 gi_40 sl_40 vl_40 hi40 hj40 hg40 hs40 T LJ h X e0 K E_xa F_elementData_xa F_size_xa F_modCount_xa V_xf E_xe0 F_position_xe0 F_deleteCount_xe0 F_insertion_xe0 F_insertionLength_xe0 E_xe1 F_position_xe1 F_deleteCount_xe1 F_insertion_xe1 F_insertionLength_xe1 U_xs0 U_xs1 E_nt5 F_cursor_nt5 F_lastRet_nt5 F_expectedModCount_nt5 F_this_0_nt5 E_xt F_buffer_xt F_gapStart_xt F_gapEnd_xt F_journal_xt V_nb_1
              have X : Stand p l e _ _ m _ below meth c T LJ _ _ := X
              refine oWk.st (fun _ kt => zJ X hx hby d38_94 rfl rfl (zB X hx hby d38_96 rfl rfl rfl kt)) ?_
              have Oh := K.old O0 (allS og_xt (allS og_xb all0))
              obtain ⟨T, L46, X, e0, K, st⟩ := (cs44 hw).pure X hx hZ hown e0 K (A := [(.ref xs1)]) ⟨rfl, _, _, rfl, U_xs1.exa⟩ (rSLn l Z a0 hw [] xs1 xb1 xk1 xn1 xu1 xw1 xz h Oh S_Z hz U_xs1) (W := 1) (by decide) hml (Ls := #[rv xt, rv xa, rv nt5, rv xe1, rv xs1, iv xi_40, sl_40]) rfl (rest := [(.int xi_40)]) rfl rfl hby d38_98
              refine oWk.st (fun _ kt => st _ (zN X hx hby d38_101 rfl rfl (tlt (ar64 ht hNc hp0 hp1 hn0 hn1 hge13 ha0 hb0 hf0 hd0 hi22 hj22 hg22 hge31 ha1 hb1 hf1 hd1 hi40 hj40 hg40)).2.1 (zB X hx hby d38_104 rfl rfl rfl (zJ X hx hby d38_106 rfl rfl kt)))) ?_
              obtain ⟨_, T, hq, Lc48, X, e0, hQ, st⟩ := (cs45 hw).run X hx hZ hown e0 (A := [(.ref xs1), (.int xi_40)]) ⟨rfl, _, _, rfl, U_xs1.exa⟩ (rSCa l Z a0 hw [] xs1 xb1 xk1 xn1 xu1 xw1 xi_40 xfm xz h Oh S_Z hz S_A S_H S_L S_F hcat (ar66 ht hNc hp0 hp1 hn0 hn1 hge13 ha0 hb0 hf0 hd0 hi22 hj22 hg22 hge31 ha1 hb1 hf1 hd1 hi40 hj40 hg40) U_xs1) (W := 0) (by decide) hml (Ls := #[rv xt, rv xa, rv nt5, rv xe1, rv xs1, iv xi_40, sl_40]) rfl (rest := []) rfl rfl hby d38_108
              obtain ⟨ncp47, rfl, e1, K47, hcc47⟩ := hQ
              rw [e1] at e0 K47
              have K := K.call K47 all0
              refine oWk.st (fun _ kt => st _ (zS X hx hby d38_111 rfl rfl (l' := #[rv xt, rv xa, rv nt5, rv xe1, rv xs1, iv xi_40, iv ncp47]) (by rcases hs40 with rfl | ⟨_, rfl⟩ <;> rfl) (zA X hx hby d38_113 rfl rfl rfl kt))) ?_
              obtain ⟨T, X, e0, st⟩ := getF X hx hZ hown (host := "") (Or.inl (oW hw 196 rfl)) Via.refl e0 F_buffer_xt (g := (mkF m 114 #[rv xt, rv xa, rv nt5, rv xe1, rv xs1, iv xi_40, iv ncp47] [(.ref xt)])) rfl rfl (hb hby d38_114)
              refine oWk.st (fun _ kt => st _ (zA X hx hby d38_117 rfl rfl rfl (zD X hx hby d38_118 rfl rfl rfl kt))) ?_
              obtain ⟨T, X, e0, st⟩ := getF X hx hZ hown (host := "") (Or.inl (oW hw 205 rfl)) Via.refl e0 F_gapStart_xt (g := (mkF m 119 #[rv xt, rv xa, rv nt5, rv xe1, rv xs1, iv xi_40, iv ncp47] [(.ref xt), (.ref xt), (.ref nb_1)])) rfl rfl (hb hby d38_119)
              refine oWk.st (fun _ kt => st _ (XS.dupX1 X.here hx rfl (hb hby d38_122) rfl rfl rfl (zK X hx hby d38_123 rfl (XS.iadd X.here hx rfl (hb hby d38_124) rfl kt)))) ?_
              obtain ⟨T, h, X, e0, W49, st⟩ := putF X hx hZ hown (host := "") (Or.inl (oW hw 205 rfl)) Via.refl e0 F_gapStart_xt E_xt (Or.inl (oW hw 206 rfl)) (oW hw 189 rfl) (ty := .int) (by decide) rfl rfl (g := (mkF m 125 #[rv xt, rv xa, rv nt5, rv xe1, rv xs1, iv xi_40, iv ncp47] [(.int (gi_40 + (1 : Int32))), (.ref xt), (.int gi_40), (.ref nb_1)])) rfl rfl (hb hby d38_125)
              have K := K.wr W49 (Or.inl (List.mem_of_getElem? (i := 0) rfl))
              have F_gapStart_xt := F_gapStart_xt.same W49
              refine oWk.st (fun _ kt => st _ (zJ X hx hby d38_128 rfl rfl kt)) ?_
              have V_nb_1 := (V_nb_1.other W49 (Ne.symm ne_xt_nb_1))
              obtain ⟨cl50, Ar50, q50, Sz50, Nn50, Hs50, Ft50⟩ := id V_nb_1
              have hin50 : ¬ (gi_40 < 0 ∨ cl50.slots.size ≤ (gi_40).toNatClampNeg) := inb_of Sz50 (ar65 ht hNc hp0 hp1 hn0 hn1 hge13 ha0 hb0 hf0 hd0 hi22 hj22 hg22 hge31 ha1 hb1 hf1 hd1 hi40 hj40 hg40)
              obtain ⟨T, h, X, e0, W50, st⟩ := stI X hx hZ e0 Ar50 (j := gi_40) hin50 (g := (mkF m 130 #[rv xt, rv xa, rv nt5, rv xe1, rv xs1, iv xi_40, iv ncp47] [(.int ncp47), (.int gi_40), (.ref nb_1)])) rfl rfl (hb hby d38_130)
              have K := K.wr W50 (oIn hgb1)
              obtain ⟨xv50, V_nb_1⟩ := oSetH V_nb_1 W50 rfl
              refine oWk.st (fun _ kt => st _ (zJ X hx hby d38_131 rfl rfl (zJ X hx hby d38_133 rfl rfl kt))) ?_
              have Oh := K.old O0 (allS og_xt (allS og_xb all0))
              obtain ⟨T, L52, X, e0, K, st⟩ := (cs46 hw).pure X hx hZ hown e0 K (A := [(.int ncp47)]) rfl (rSCh l Z a0 hw [] ncp47 xw1 h Oh hcc47) (W := 1) (by decide) hml (Ls := #[rv xt, rv xa, rv nt5, rv xe1, rv xs1, iv xi_40, iv ncp47]) rfl (rest := [(.int xi_40)]) rfl rfl hby d38_135
              refine oWk.to (mkF m 94 #[rv xt, rv xa, rv nt5, rv xe1, rv xs1, iv (xi_40 + xw1), iv ncp47] []) (fun _ kt => st _ (XS.iadd X.here hx rfl (hb hby d38_138) rfl (zS X hx hby d38_139 rfl rfl (l' := #[rv xt, rv xa, rv nt5, rv xe1, rv xs1, iv (xi_40 + xw1), iv ncp47]) rfl (zG X hx hby d38_141 rfl (pc' := 94) rfl kt)))) ?_
              have E_xa := ((E_xa.wr W49).wr W50)
              have F_elementData_xa := ((F_elementData_xa.other W49 (Or.inl ne_xa_xt)).other W50 (Or.inl ne_xa_nb_1))
              have F_size_xa := ((F_size_xa.other W49 (Or.inl ne_xa_xt)).other W50 (Or.inl ne_xa_nb_1))
              have F_modCount_xa := ((F_modCount_xa.other W49 (Or.inl ne_xa_xt)).other W50 (Or.inl ne_xa_nb_1))
              have V_xf := ((V_xf.other W49 ne_xf_xt).other W50 ne_xf_nb_1)
              have E_xe0 := ((E_xe0.wr W49).wr W50)
              have F_position_xe0 := ((F_position_xe0.other W49 (Or.inl ne_xe0_xt)).other W50 (Or.inl ne_xe0_nb_1))
              have F_deleteCount_xe0 := ((F_deleteCount_xe0.other W49 (Or.inl ne_xe0_xt)).other W50 (Or.inl ne_xe0_nb_1))
              have F_insertion_xe0 := ((F_insertion_xe0.other W49 (Or.inl ne_xe0_xt)).other W50 (Or.inl ne_xe0_nb_1))
              have F_insertionLength_xe0 := ((F_insertionLength_xe0.other W49 (Or.inl ne_xe0_xt)).other W50 (Or.inl ne_xe0_nb_1))
              have E_xe1 := ((E_xe1.wr W49).wr W50)
              have F_position_xe1 := ((F_position_xe1.other W49 (Or.inl ne_xe1_xt)).other W50 (Or.inl ne_xe1_nb_1))
              have F_deleteCount_xe1 := ((F_deleteCount_xe1.other W49 (Or.inl ne_xe1_xt)).other W50 (Or.inl ne_xe1_nb_1))
              have F_insertion_xe1 := ((F_insertion_xe1.other W49 (Or.inl ne_xe1_xt)).other W50 (Or.inl ne_xe1_nb_1))
              have F_insertionLength_xe1 := ((F_insertionLength_xe1.other W49 (Or.inl ne_xe1_xt)).other W50 (Or.inl ne_xe1_nb_1))
              have U_xs0 := ((U_xs0.wr W49 ne_xs0_xt ne_xb0_xt).wr W50 ne_xs0_nb_1 ne_xb0_nb_1)
              have U_xs1 := ((U_xs1.wr W49 ne_xs1_xt ne_xb1_xt).wr W50 ne_xs1_nb_1 ne_xb1_nb_1)
              have E_nt5 := ((E_nt5.wr W49).wr W50)
              have F_cursor_nt5 := ((F_cursor_nt5.other W49 (Or.inl (Ne.symm ne_xt_nt5))).other W50 (Or.inl ne_nt5_nb_1))
              have F_lastRet_nt5 := ((F_lastRet_nt5.other W49 (Or.inl (Ne.symm ne_xt_nt5))).other W50 (Or.inl ne_nt5_nb_1))
              have F_expectedModCount_nt5 := ((F_expectedModCount_nt5.other W49 (Or.inl (Ne.symm ne_xt_nt5))).other W50 (Or.inl ne_nt5_nb_1))
              have F_this_0_nt5 := ((F_this_0_nt5.other W49 (Or.inl (Ne.symm ne_xt_nt5))).other W50 (Or.inl ne_nt5_nb_1))
              have E_xt := ((E_xt.wr W49).wr W50)
              have F_buffer_xt := ((F_buffer_xt.other W49 (Or.inr (slot_ne (Or.inl (oW hw 197 rfl)) (Or.inl (oW hw 206 rfl)) (by decide) (t := (.array .int)) (t' := .int) (by decide) (by decide)))).other W50 (Or.inl ne_xt_nb_1))
              have F_gapStart_xt := (F_gapStart_xt.other W50 (Or.inl ne_xt_nb_1))
              have F_gapEnd_xt := ((F_gapEnd_xt.other W49 (Or.inr (slot_ne (Or.inl (oW hw 199 rfl)) (Or.inl (oW hw 206 rfl)) (by decide) (t := .int) (t' := .int) (by decide) (by decide)))).other W50 (Or.inl ne_xt_nb_1))
              have F_journal_xt := ((F_journal_xt.other W49 (Or.inr (slot_ne (Or.inl (oW hw 321 rfl)) (Or.inl (oW hw 206 rfl)) (by decide) (t := (.object Y17)) (t' := .int) (by decide) (by decide)))).other W50 (Or.inl ne_xt_nb_1))
              exact ih (xi_40 + xw1) (gi_40 + (1 : Int32)) (iv ncp47) xv50 ((ar67 ht hNc hp0 hp1 hn0 hn1 hge13 ha0 hb0 hf0 hd0 hi22 hj22 hg22 hge31 ha1 hb1 hf1 hd1 hi40 hj40 hg40)) ((ar68 ht hNc hp0 hp1 hn0 hn1 hge13 ha0 hb0 hf0 hd0 hi22 hj22 hg22 hge31 ha1 hb1 hf1 hd1 hi40 hj40 hg40)) ((ar69 ht hNc hp0 hp1 hn0 hn1 hge13 ha0 hb0 hf0 hd0 hi22 hj22 hg22 hge31 ha1 hb1 hf1 hd1 hi40 hj40 hg40)) (Or.inr ⟨_, rfl⟩) T _ h X e0 K E_xa F_elementData_xa F_size_xa F_modCount_xa V_xf E_xe0 F_position_xe0 F_deleteCount_xe0 F_insertion_xe0 F_insertionLength_xe0 E_xe1 F_position_xe1 F_deleteCount_xe1 F_insertion_xe1 F_insertionLength_xe1 U_xs0 U_xs1 E_nt5 F_cursor_nt5 F_lastRet_nt5 F_expectedModCount_nt5 F_this_0_nt5 E_xt F_buffer_xt F_gapStart_xt F_gapEnd_xt F_journal_xt V_nb_1
          exact J94 xn1.toInt.toNat (0 : Int32) xi1 (sl_22) vb_1 ((ar58 ht hNc hp0 hp1 hn0 hn1 hge13 ha0 hb0 hf0 hd0 hi22 hj22 hg22 hge31 ha1 hb1 hf1 hd1)) ((ar59 ht hNc hp0 hp1 hn0 hn1 hge13 ha0 hb0 hf0 hd0 hi22 hj22 hg22 hge31 ha1 hb1 hf1 hd1)) ((ar60 ht hNc hp0 hp1 hn0 hn1 hge13 ha0 hb0 hf0 hd0 hi22 hj22 hg22 hge31 ha1 hb1 hf1 hd1)) (hs22) T _ h X e0 K E_xa F_elementData_xa F_size_xa F_modCount_xa V_xf E_xe0 F_position_xe0 F_deleteCount_xe0 F_insertion_xe0 F_insertionLength_xe0 E_xe1 F_position_xe1 F_deleteCount_xe1 F_insertion_xe1 F_insertionLength_xe1 U_xs0 U_xs1 E_nt5 F_cursor_nt5 F_lastRet_nt5 F_expectedModCount_nt5 F_this_0_nt5 E_xt F_buffer_xt F_gapStart_xt F_gapEnd_xt F_journal_xt V_nb_1
        by_cases hq1 : ((nge31 + xd1) - xi1) < xn1
        · refine oWk.to (mkF m 72 #[rv xt, rv xa, rv nt5, rv xe1, rv xs0, iv xi_22, sl_22] []) (fun _ kt => zN X hx hby d38_69 rfl rfl (tlt hq1).2.2.2 kt) ?_
          refine oWk.st (fun _ kt => zA X hx hby d38_72 rfl rfl rfl (zA X hx hby d38_73 rfl rfl rfl kt)) ?_
          obtain ⟨T, L54, X, e0, K, st⟩ := (cs40 hw).pure X hx hZ hown e0 K (A := [(.ref xt)]) ⟨rfl, _, _, rfl, E_xt⟩ (rTL l Z a0 hw [] xt nb_0 nN_0 xi1 (nge31 + xd1) nv31 nk_0 h Oh E_xt F_buffer_xt F_gapStart_xt F_gapEnd_xt F_journal_xt V_nb_0) (W := 1) (by decide) hml (Ls := #[rv xt, rv xa, rv nt5, rv xe1, rv xs0, iv xi_22, sl_22]) rfl (rest := [(.ref xt)]) rfl rfl hby d38_74
          refine oWk.st (fun _ kt => st _ (zA X hx hby d38_77 rfl rfl rfl kt)) ?_
          obtain ⟨T, L56, X, e0, K, st⟩ := (cs39 hw).pure X hx hZ hown e0 K (A := [(.ref xe1)]) ⟨rfl, _, _, rfl, E_xe1⟩ (rGinsertionLength l Z a0 hw [] xe1 xn1 h Oh F_insertionLength_xe1) (W := 2) (by decide) hml (Ls := #[rv xt, rv xa, rv nt5, rv xe1, rv xs0, iv xi_22, sl_22]) rfl (rest := [(.int (nN_0 - ((nge31 + xd1) - xi1))), (.ref xt)]) rfl rfl hby d38_78
          refine oWk.st (fun _ kt => st _ (XS.iadd X.here hx rfl (hb hby d38_81) rfl kt)) ?_
          have lt_xt := E_xt.lt
          have lt_xa := E_xa.lt
          have lt_xf := V_xf.lt
          have lt_xe0 := E_xe0.lt
          have lt_xe1 := E_xe1.lt
          have lt_xs0 := U_xs0.lt
          have lt_xb0 := U_xs0.sb.lt
          have lt_xs1 := U_xs1.lt
          have lt_xb1 := U_xs1.sb.lt
          have lt_nt5 := E_nt5.lt
          have lt_nb_0 := V_nb_0.lt
          obtain ⟨_, T, h, Lc58, X, e0, hQ, st⟩ := (cs47 hw).run X hx hZ hown e0 (A := [(.ref xt), (.int ((nN_0 - ((nge31 + xd1) - xi1)) + xn1))]) ⟨rfl, _, _, rfl, E_xt⟩ (rGW l Z a0 hw [] xt nb_0 nN_0 xi1 (nge31 + xd1) nv31 nk_0 ((nN_0 - ((nge31 + xd1) - xi1)) + xn1) h Oh og_xt ne_xt_nb_0 (ar70 ht hNc hp0 hp1 hn0 hn1 hge13 ha0 hb0 hf0 hd0 hi22 hj22 hg22 hge31 hq1) (ar71 ht hNc hp0 hp1 hn0 hn1 hge13 ha0 hb0 hf0 hd0 hi22 hj22 hg22 hge31 hq1) (ar72 ht hNc hp0 hp1 hn0 hn1 hge13 ha0 hb0 hf0 hd0 hi22 hj22 hg22 hge31 hq1) E_xt F_buffer_xt F_gapStart_xt F_gapEnd_xt F_journal_xt V_nb_0) (W := 0) (by decide) hml (Ls := #[rv xt, rv xa, rv nt5, rv xe1, rv xs0, iv xi_22, sl_22]) rfl (rest := []) rfl rfl hby d38_82
          obtain ⟨nb57, nN57, nge57, nv57, nk57, rfl, K57, gn_nb57, E_xt, F_buffer_xt, F_gapStart_xt, F_gapEnd_xt, F_journal_xt, V_nb57, hnN57, hg257⟩ := hQ
          have ge_nb57 := Nat.le_trans K.le gn_nb57
          have ne_xt_nb57 : xt ≠ nb57 := Nat.ne_of_lt (Nat.lt_of_lt_of_le lt_xt gn_nb57)
          have ne_xa_nb57 : xa ≠ nb57 := Nat.ne_of_lt (Nat.lt_of_lt_of_le lt_xa gn_nb57)
          have ne_xf_nb57 : xf ≠ nb57 := Nat.ne_of_lt (Nat.lt_of_lt_of_le lt_xf gn_nb57)
          have ne_xe0_nb57 : xe0 ≠ nb57 := Nat.ne_of_lt (Nat.lt_of_lt_of_le lt_xe0 gn_nb57)
          have ne_xe1_nb57 : xe1 ≠ nb57 := Nat.ne_of_lt (Nat.lt_of_lt_of_le lt_xe1 gn_nb57)
          have ne_xs0_nb57 : xs0 ≠ nb57 := Nat.ne_of_lt (Nat.lt_of_lt_of_le lt_xs0 gn_nb57)
          have ne_xb0_nb57 : xb0 ≠ nb57 := Nat.ne_of_lt (Nat.lt_of_lt_of_le lt_xb0 gn_nb57)
          have ne_xs1_nb57 : xs1 ≠ nb57 := Nat.ne_of_lt (Nat.lt_of_lt_of_le lt_xs1 gn_nb57)
          have ne_xb1_nb57 : xb1 ≠ nb57 := Nat.ne_of_lt (Nat.lt_of_lt_of_le lt_xb1 gn_nb57)
          have ne_nt5_nb57 : nt5 ≠ nb57 := Nat.ne_of_lt (Nat.lt_of_lt_of_le lt_nt5 gn_nb57)
          have ne_nb_0_nb57 : nb_0 ≠ nb57 := Nat.ne_of_lt (Nat.lt_of_lt_of_le lt_nb_0 gn_nb57)
          have K := K.call K57 (allS (Or.inl (List.mem_of_getElem? (i := 0) rfl)) all0)
          refine oWk.to (mkF m 85 #[rv xt, rv xa, rv nt5, rv xe1, rv xs0, iv xi_22, sl_22] []) (fun _ kt => st _ kt) ?_
          have E_xa := (E_xa.keep K57.1)
          have F_elementData_xa := (F_elementData_xa.keep K57.1 (ninS ne_xa_xt nin0))
          have F_size_xa := (F_size_xa.keep K57.1 (ninS ne_xa_xt nin0))
          have F_modCount_xa := (F_modCount_xa.keep K57.1 (ninS ne_xa_xt nin0))
          have V_xf := (V_xf.keep K57.1 (ninS ne_xf_xt nin0))
          have E_xe0 := (E_xe0.keep K57.1)
          have F_position_xe0 := (F_position_xe0.keep K57.1 (ninS ne_xe0_xt nin0))
          have F_deleteCount_xe0 := (F_deleteCount_xe0.keep K57.1 (ninS ne_xe0_xt nin0))
          have F_insertion_xe0 := (F_insertion_xe0.keep K57.1 (ninS ne_xe0_xt nin0))
          have F_insertionLength_xe0 := (F_insertionLength_xe0.keep K57.1 (ninS ne_xe0_xt nin0))
          have E_xe1 := (E_xe1.keep K57.1)
          have F_position_xe1 := (F_position_xe1.keep K57.1 (ninS ne_xe1_xt nin0))
          have F_deleteCount_xe1 := (F_deleteCount_xe1.keep K57.1 (ninS ne_xe1_xt nin0))
          have F_insertion_xe1 := (F_insertion_xe1.keep K57.1 (ninS ne_xe1_xt nin0))
          have F_insertionLength_xe1 := (F_insertionLength_xe1.keep K57.1 (ninS ne_xe1_xt nin0))
          have U_xs0 := (U_xs0.keep K57.1 (ninS ne_xs0_xt nin0) (ninS ne_xb0_xt nin0))
          have U_xs1 := (U_xs1.keep K57.1 (ninS ne_xs1_xt nin0) (ninS ne_xb1_xt nin0))
          have E_nt5 := (E_nt5.keep K57.1)
          have F_cursor_nt5 := (F_cursor_nt5.keep K57.1 (ninS (Ne.symm ne_xt_nt5) nin0))
          have F_lastRet_nt5 := (F_lastRet_nt5.keep K57.1 (ninS (Ne.symm ne_xt_nt5) nin0))
          have F_expectedModCount_nt5 := (F_expectedModCount_nt5.keep K57.1 (ninS (Ne.symm ne_xt_nt5) nin0))
          have F_this_0_nt5 := (F_this_0_nt5.keep K57.1 (ninS (Ne.symm ne_xt_nt5) nin0))
          exact J85 nb57 nN57 nge57 nv57 nk57 (Or.inr ge_nb57) (ne_xt_nb57) (ne_xa_nb57) (ne_xf_nb57) (ne_xe0_nb57) (ne_xe1_nb57) (ne_xs0_nb57) (ne_xb0_nb57) (ne_xs1_nb57) (ne_xb1_nb57) (ne_nt5_nb57) ((ar73 ht hNc hp0 hp1 hn0 hn1 hge13 ha0 hb0 hf0 hd0 hi22 hj22 hg22 hge31 hq1 hnN57 hg257)) ((ar74 ht hNc hp0 hp1 hn0 hn1 hge13 ha0 hb0 hf0 hd0 hi22 hj22 hg22 hge31 hq1 hnN57 hg257)) ((ar75 ht hNc hp0 hp1 hn0 hn1 hge13 ha0 hb0 hf0 hd0 hi22 hj22 hg22 hge31 hq1 hnN57 hg257)) ((ar76 ht hNc hp0 hp1 hn0 hn1 hge13 ha0 hb0 hf0 hd0 hi22 hj22 hg22 hge31 hq1 hnN57 hg257)) T _ h (oStG.of X (by decide) (by decide)) e0 K E_xa F_elementData_xa F_size_xa F_modCount_xa V_xf E_xe0 F_position_xe0 F_deleteCount_xe0 F_insertion_xe0 F_insertionLength_xe0 E_xe1 F_position_xe1 F_deleteCount_xe1 F_insertion_xe1 F_insertionLength_xe1 U_xs0 U_xs1 E_nt5 F_cursor_nt5 F_lastRet_nt5 F_expectedModCount_nt5 F_this_0_nt5 E_xt F_buffer_xt F_gapStart_xt F_gapEnd_xt F_journal_xt V_nb57
        · refine oWk.to (mkF m 85 #[rv xt, rv xa, rv nt5, rv xe1, rv xs0, iv xi_22, sl_22] []) (fun _ kt => zY X hx hby d38_69 rfl rfl (flt hq1).2.2.2 (pc' := 85) rfl kt) ?_
          exact J85 nb_0 nN_0 (nge31 + xd1) nv31 nk_0 (hgb0) (ne_xt_nb_0) (ne_xa_nb_0) (ne_xf_nb_0) (ne_xe0_nb_0) (ne_xe1_nb_0) (ne_xs0_nb_0) (ne_xb0_nb_0) (ne_xs1_nb_0) (ne_xb1_nb_0) (ne_nt5_nb_0) ((ar77 ht hNc hp0 hp1 hn0 hn1 hge13 ha0 hb0 hf0 hd0 hi22 hj22 hg22 hge31 hq1)) (rfl) ((ar78 ht hNc hp0 hp1 hn0 hn1 hge13 ha0 hb0 hf0 hd0 hi22 hj22 hg22 hge31 hq1)) (Or.inl rfl) T _ h (oStG.of X (by decide) (by decide)) e0 K E_xa F_elementData_xa F_size_xa F_modCount_xa V_xf E_xe0 F_position_xe0 F_deleteCount_xe0 F_insertion_xe0 F_insertionLength_xe0 E_xe1 F_position_xe1 F_deleteCount_xe1 F_insertion_xe1 F_insertionLength_xe1 U_xs0 U_xs1 E_nt5 F_cursor_nt5 F_lastRet_nt5 F_expectedModCount_nt5 F_this_0_nt5 E_xt F_buffer_xt F_gapStart_xt F_gapEnd_xt F_journal_xt V_nb_0
      | succ d ih =>
        intro xi_22 gi_22 sl_22 vl_22 hi22 hj22 hg22 hs22 T LJ h X e0 K E_xa F_elementData_xa F_size_xa F_modCount_xa V_xf E_xe0 F_position_xe0 F_deleteCount_xe0 F_insertion_xe0 F_insertionLength_xe0 E_xe1 F_position_xe1 F_deleteCount_xe1 F_insertion_xe1 F_insertionLength_xe1 U_xs0 U_xs1 E_nt5 F_cursor_nt5 F_lastRet_nt5 F_expectedModCount_nt5 F_this_0_nt5 E_xt F_buffer_xt F_gapStart_xt F_gapEnd_xt F_journal_xt V_nb_0
        have X : Stand p l e _ _ m _ below meth c T LJ _ _ := X
        refine oWk.st (fun _ kt => zJ X hx hby d38_94 rfl rfl (zB X hx hby d38_96 rfl rfl rfl kt)) ?_
        have Oh := K.old O0 (allS og_xt (allS og_xb all0))
        obtain ⟨T, L60, X, e0, K, st⟩ := (cs44 hw).pure X hx hZ hown e0 K (A := [(.ref xs0)]) ⟨rfl, _, _, rfl, U_xs0.exa⟩ (rSLn l Z a0 hw [] xs0 xb0 xk0 xn0 xu0 xw0 xz h Oh S_Z hz U_xs0) (W := 1) (by decide) hml (Ls := #[rv xt, rv xa, rv nt5, rv xe0, rv xs0, iv xi_22, sl_22]) rfl (rest := [(.int xi_22)]) rfl rfl hby d38_98
        refine oWk.st (fun _ kt => st _ (zN X hx hby d38_101 rfl rfl (tlt (ar79 ht hNc hp0 hn0 hge13 ha0 hb0 hf0 hd0 hi22 hj22 hg22)).2.1 (zB X hx hby d38_104 rfl rfl rfl (zJ X hx hby d38_106 rfl rfl kt)))) ?_
        obtain ⟨_, T, hq, Lc62, X, e0, hQ, st⟩ := (cs45 hw).run X hx hZ hown e0 (A := [(.ref xs0), (.int xi_22)]) ⟨rfl, _, _, rfl, U_xs0.exa⟩ (rSCa l Z a0 hw [] xs0 xb0 xk0 xn0 xu0 xw0 xi_22 xfm xz h Oh S_Z hz S_A S_H S_L S_F hcat (ar81 ht hNc hp0 hn0 hge13 ha0 hb0 hf0 hd0 hi22 hj22 hg22) U_xs0) (W := 0) (by decide) hml (Ls := #[rv xt, rv xa, rv nt5, rv xe0, rv xs0, iv xi_22, sl_22]) rfl (rest := []) rfl rfl hby d38_108
        obtain ⟨ncp61, rfl, e1, K61, hcc61⟩ := hQ
        rw [e1] at e0 K61
        have K := K.call K61 all0
        refine oWk.st (fun _ kt => st _ (zS X hx hby d38_111 rfl rfl (l' := #[rv xt, rv xa, rv nt5, rv xe0, rv xs0, iv xi_22, iv ncp61]) (by rcases hs22 with rfl | ⟨_, rfl⟩ <;> rfl) (zA X hx hby d38_113 rfl rfl rfl kt))) ?_
        obtain ⟨T, X, e0, st⟩ := getF X hx hZ hown (host := "") (Or.inl (oW hw 196 rfl)) Via.refl e0 F_buffer_xt (g := (mkF m 114 #[rv xt, rv xa, rv nt5, rv xe0, rv xs0, iv xi_22, iv ncp61] [(.ref xt)])) rfl rfl (hb hby d38_114)
        refine oWk.st (fun _ kt => st _ (zA X hx hby d38_117 rfl rfl rfl (zD X hx hby d38_118 rfl rfl rfl kt))) ?_
        obtain ⟨T, X, e0, st⟩ := getF X hx hZ hown (host := "") (Or.inl (oW hw 205 rfl)) Via.refl e0 F_gapStart_xt (g := (mkF m 119 #[rv xt, rv xa, rv nt5, rv xe0, rv xs0, iv xi_22, iv ncp61] [(.ref xt), (.ref xt), (.ref nb_0)])) rfl rfl (hb hby d38_119)
        refine oWk.st (fun _ kt => st _ (XS.dupX1 X.here hx rfl (hb hby d38_122) rfl rfl rfl (zK X hx hby d38_123 rfl (XS.iadd X.here hx rfl (hb hby d38_124) rfl kt)))) ?_
        obtain ⟨T, h, X, e0, W63, st⟩ := putF X hx hZ hown (host := "") (Or.inl (oW hw 205 rfl)) Via.refl e0 F_gapStart_xt E_xt (Or.inl (oW hw 206 rfl)) (oW hw 189 rfl) (ty := .int) (by decide) rfl rfl (g := (mkF m 125 #[rv xt, rv xa, rv nt5, rv xe0, rv xs0, iv xi_22, iv ncp61] [(.int (gi_22 + (1 : Int32))), (.ref xt), (.int gi_22), (.ref nb_0)])) rfl rfl (hb hby d38_125)
        have K := K.wr W63 (Or.inl (List.mem_of_getElem? (i := 0) rfl))
        have F_gapStart_xt := F_gapStart_xt.same W63
        refine oWk.st (fun _ kt => st _ (zJ X hx hby d38_128 rfl rfl kt)) ?_
        have V_nb_0 := (V_nb_0.other W63 (Ne.symm ne_xt_nb_0))
        obtain ⟨cl64, Ar64, q64, Sz64, Nn64, Hs64, Ft64⟩ := id V_nb_0
        have hin64 : ¬ (gi_22 < 0 ∨ cl64.slots.size ≤ (gi_22).toNatClampNeg) := inb_of Sz64 (ar80 ht hNc hp0 hn0 hge13 ha0 hb0 hf0 hd0 hi22 hj22 hg22)
        obtain ⟨T, h, X, e0, W64, st⟩ := stI X hx hZ e0 Ar64 (j := gi_22) hin64 (g := (mkF m 130 #[rv xt, rv xa, rv nt5, rv xe0, rv xs0, iv xi_22, iv ncp61] [(.int ncp61), (.int gi_22), (.ref nb_0)])) rfl rfl (hb hby d38_130)
        have K := K.wr W64 (oIn hgb0)
        obtain ⟨xv64, V_nb_0⟩ := oSetH V_nb_0 W64 rfl
        refine oWk.st (fun _ kt => st _ (zJ X hx hby d38_131 rfl rfl (zJ X hx hby d38_133 rfl rfl kt))) ?_
        have Oh := K.old O0 (allS og_xt (allS og_xb all0))
        obtain ⟨T, L66, X, e0, K, st⟩ := (cs46 hw).pure X hx hZ hown e0 K (A := [(.int ncp61)]) rfl (rSCh l Z a0 hw [] ncp61 xw0 h Oh hcc61) (W := 1) (by decide) hml (Ls := #[rv xt, rv xa, rv nt5, rv xe0, rv xs0, iv xi_22, iv ncp61]) rfl (rest := [(.int xi_22)]) rfl rfl hby d38_135
        refine oWk.to (mkF m 94 #[rv xt, rv xa, rv nt5, rv xe0, rv xs0, iv (xi_22 + xw0), iv ncp61] []) (fun _ kt => st _ (XS.iadd X.here hx rfl (hb hby d38_138) rfl (zS X hx hby d38_139 rfl rfl (l' := #[rv xt, rv xa, rv nt5, rv xe0, rv xs0, iv (xi_22 + xw0), iv ncp61]) rfl (zG X hx hby d38_141 rfl (pc' := 94) rfl kt)))) ?_
        have E_xa := ((E_xa.wr W63).wr W64)
        have F_elementData_xa := ((F_elementData_xa.other W63 (Or.inl ne_xa_xt)).other W64 (Or.inl ne_xa_nb_0))
        have F_size_xa := ((F_size_xa.other W63 (Or.inl ne_xa_xt)).other W64 (Or.inl ne_xa_nb_0))
        have F_modCount_xa := ((F_modCount_xa.other W63 (Or.inl ne_xa_xt)).other W64 (Or.inl ne_xa_nb_0))
        have V_xf := ((V_xf.other W63 ne_xf_xt).other W64 ne_xf_nb_0)
        have E_xe0 := ((E_xe0.wr W63).wr W64)
        have F_position_xe0 := ((F_position_xe0.other W63 (Or.inl ne_xe0_xt)).other W64 (Or.inl ne_xe0_nb_0))
        have F_deleteCount_xe0 := ((F_deleteCount_xe0.other W63 (Or.inl ne_xe0_xt)).other W64 (Or.inl ne_xe0_nb_0))
        have F_insertion_xe0 := ((F_insertion_xe0.other W63 (Or.inl ne_xe0_xt)).other W64 (Or.inl ne_xe0_nb_0))
        have F_insertionLength_xe0 := ((F_insertionLength_xe0.other W63 (Or.inl ne_xe0_xt)).other W64 (Or.inl ne_xe0_nb_0))
        have E_xe1 := ((E_xe1.wr W63).wr W64)
        have F_position_xe1 := ((F_position_xe1.other W63 (Or.inl ne_xe1_xt)).other W64 (Or.inl ne_xe1_nb_0))
        have F_deleteCount_xe1 := ((F_deleteCount_xe1.other W63 (Or.inl ne_xe1_xt)).other W64 (Or.inl ne_xe1_nb_0))
        have F_insertion_xe1 := ((F_insertion_xe1.other W63 (Or.inl ne_xe1_xt)).other W64 (Or.inl ne_xe1_nb_0))
        have F_insertionLength_xe1 := ((F_insertionLength_xe1.other W63 (Or.inl ne_xe1_xt)).other W64 (Or.inl ne_xe1_nb_0))
        have U_xs0 := ((U_xs0.wr W63 ne_xs0_xt ne_xb0_xt).wr W64 ne_xs0_nb_0 ne_xb0_nb_0)
        have U_xs1 := ((U_xs1.wr W63 ne_xs1_xt ne_xb1_xt).wr W64 ne_xs1_nb_0 ne_xb1_nb_0)
        have E_nt5 := ((E_nt5.wr W63).wr W64)
        have F_cursor_nt5 := ((F_cursor_nt5.other W63 (Or.inl (Ne.symm ne_xt_nt5))).other W64 (Or.inl ne_nt5_nb_0))
        have F_lastRet_nt5 := ((F_lastRet_nt5.other W63 (Or.inl (Ne.symm ne_xt_nt5))).other W64 (Or.inl ne_nt5_nb_0))
        have F_expectedModCount_nt5 := ((F_expectedModCount_nt5.other W63 (Or.inl (Ne.symm ne_xt_nt5))).other W64 (Or.inl ne_nt5_nb_0))
        have F_this_0_nt5 := ((F_this_0_nt5.other W63 (Or.inl (Ne.symm ne_xt_nt5))).other W64 (Or.inl ne_nt5_nb_0))
        have E_xt := ((E_xt.wr W63).wr W64)
        have F_buffer_xt := ((F_buffer_xt.other W63 (Or.inr (slot_ne (Or.inl (oW hw 197 rfl)) (Or.inl (oW hw 206 rfl)) (by decide) (t := (.array .int)) (t' := .int) (by decide) (by decide)))).other W64 (Or.inl ne_xt_nb_0))
        have F_gapStart_xt := (F_gapStart_xt.other W64 (Or.inl ne_xt_nb_0))
        have F_gapEnd_xt := ((F_gapEnd_xt.other W63 (Or.inr (slot_ne (Or.inl (oW hw 199 rfl)) (Or.inl (oW hw 206 rfl)) (by decide) (t := .int) (t' := .int) (by decide) (by decide)))).other W64 (Or.inl ne_xt_nb_0))
        have F_journal_xt := ((F_journal_xt.other W63 (Or.inr (slot_ne (Or.inl (oW hw 321 rfl)) (Or.inl (oW hw 206 rfl)) (by decide) (t := (.object Y17)) (t' := .int) (by decide) (by decide)))).other W64 (Or.inl ne_xt_nb_0))
        exact ih (xi_22 + xw0) (gi_22 + (1 : Int32)) (iv ncp61) xv64 ((ar82 ht hNc hp0 hn0 hge13 ha0 hb0 hf0 hd0 hi22 hj22 hg22)) ((ar83 ht hNc hp0 hn0 hge13 ha0 hb0 hf0 hd0 hi22 hj22 hg22)) ((ar84 ht hNc hp0 hn0 hge13 ha0 hb0 hf0 hd0 hi22 hj22 hg22)) (Or.inr ⟨_, rfl⟩) T _ h X e0 K E_xa F_elementData_xa F_size_xa F_modCount_xa V_xf E_xe0 F_position_xe0 F_deleteCount_xe0 F_insertion_xe0 F_insertionLength_xe0 E_xe1 F_position_xe1 F_deleteCount_xe1 F_insertion_xe1 F_insertionLength_xe1 U_xs0 U_xs1 E_nt5 F_cursor_nt5 F_lastRet_nt5 F_expectedModCount_nt5 F_this_0_nt5 E_xt F_buffer_xt F_gapStart_xt F_gapEnd_xt F_journal_xt V_nb_0
    exact J94 xn0.toInt.toNat (0 : Int32) xi0 (uu) vb_0 ((ar52 ht hNc hp0 hn0 hge13 ha0 hb0 hf0 hd0)) ((ar53 ht hNc hp0 hn0 hge13 ha0 hb0 hf0 hd0)) ((ar54 ht hNc hp0 hn0 hge13 ha0 hb0 hf0 hd0)) (Or.inl rfl) T _ h X e0 K E_xa F_elementData_xa F_size_xa F_modCount_xa V_xf E_xe0 F_position_xe0 F_deleteCount_xe0 F_insertion_xe0 F_insertionLength_xe0 E_xe1 F_position_xe1 F_deleteCount_xe1 F_insertion_xe1 F_insertionLength_xe1 U_xs0 U_xs1 E_nt5 F_cursor_nt5 F_lastRet_nt5 F_expectedModCount_nt5 F_this_0_nt5 E_xt F_buffer_xt F_gapStart_xt F_gapEnd_xt F_journal_xt V_nb_0
  by_cases hq0 : ((nge13 + xd0) - xi0) < xn0
  · refine oWk.to (mkF m 72 #[rv xt, rv xa, rv nt5, rv xe0, uu, uu, uu] []) (fun _ kt => zN X hx hby d38_69 rfl rfl (tlt hq0).2.2.2 kt) ?_
    refine oWk.st (fun _ kt => zA X hx hby d38_72 rfl rfl rfl (zA X hx hby d38_73 rfl rfl rfl kt)) ?_
    obtain ⟨T, L68, X, e0, K, st⟩ := (cs40 hw).pure X hx hZ hown e0 K (A := [(.ref xt)]) ⟨rfl, _, _, rfl, E_xt⟩ (rTL l Z a0 hw [] xt xb xN xi0 (nge13 + xd0) nv13 xkb h Oh E_xt F_buffer_xt F_gapStart_xt F_gapEnd_xt F_journal_xt V_xb) (W := 1) (by decide) hml (Ls := #[rv xt, rv xa, rv nt5, rv xe0, uu, uu, uu]) rfl (rest := [(.ref xt)]) rfl rfl hby d38_74
    refine oWk.st (fun _ kt => st _ (zA X hx hby d38_77 rfl rfl rfl kt)) ?_
    obtain ⟨T, L70, X, e0, K, st⟩ := (cs39 hw).pure X hx hZ hown e0 K (A := [(.ref xe0)]) ⟨rfl, _, _, rfl, E_xe0⟩ (rGinsertionLength l Z a0 hw [] xe0 xn0 h Oh F_insertionLength_xe0) (W := 2) (by decide) hml (Ls := #[rv xt, rv xa, rv nt5, rv xe0, uu, uu, uu]) rfl (rest := [(.int (xN - ((nge13 + xd0) - xi0))), (.ref xt)]) rfl rfl hby d38_78
    refine oWk.st (fun _ kt => st _ (XS.iadd X.here hx rfl (hb hby d38_81) rfl kt)) ?_
    have lt_xt := E_xt.lt
    have lt_xb := V_xb.lt
    have lt_xa := E_xa.lt
    have lt_xf := V_xf.lt
    have lt_xe0 := E_xe0.lt
    have lt_xe1 := E_xe1.lt
    have lt_xs0 := U_xs0.lt
    have lt_xb0 := U_xs0.sb.lt
    have lt_xs1 := U_xs1.lt
    have lt_xb1 := U_xs1.sb.lt
    have lt_nt5 := E_nt5.lt
    obtain ⟨_, T, h, Lc72, X, e0, hQ, st⟩ := (cs47 hw).run X hx hZ hown e0 (A := [(.ref xt), (.int ((xN - ((nge13 + xd0) - xi0)) + xn0))]) ⟨rfl, _, _, rfl, E_xt⟩ (rGW l Z a0 hw [] xt xb xN xi0 (nge13 + xd0) nv13 xkb ((xN - ((nge13 + xd0) - xi0)) + xn0) h Oh og_xt ne_xt_xb (ar85 ht hNc hp0 hn0 hge13 hq0) (ar86 ht hNc hp0 hn0 hge13 hq0) (ar87 ht hNc hp0 hn0 hge13 hq0) E_xt F_buffer_xt F_gapStart_xt F_gapEnd_xt F_journal_xt V_xb) (W := 0) (by decide) hml (Ls := #[rv xt, rv xa, rv nt5, rv xe0, uu, uu, uu]) rfl (rest := []) rfl rfl hby d38_82
    obtain ⟨nb71, nN71, nge71, nv71, nk71, rfl, K71, gn_nb71, E_xt, F_buffer_xt, F_gapStart_xt, F_gapEnd_xt, F_journal_xt, V_nb71, hnN71, hg271⟩ := hQ
    have ge_nb71 := Nat.le_trans K.le gn_nb71
    have ne_xt_nb71 : xt ≠ nb71 := Nat.ne_of_lt (Nat.lt_of_lt_of_le lt_xt gn_nb71)
    have ne_xb_nb71 : xb ≠ nb71 := Nat.ne_of_lt (Nat.lt_of_lt_of_le lt_xb gn_nb71)
    have ne_xa_nb71 : xa ≠ nb71 := Nat.ne_of_lt (Nat.lt_of_lt_of_le lt_xa gn_nb71)
    have ne_xf_nb71 : xf ≠ nb71 := Nat.ne_of_lt (Nat.lt_of_lt_of_le lt_xf gn_nb71)
    have ne_xe0_nb71 : xe0 ≠ nb71 := Nat.ne_of_lt (Nat.lt_of_lt_of_le lt_xe0 gn_nb71)
    have ne_xe1_nb71 : xe1 ≠ nb71 := Nat.ne_of_lt (Nat.lt_of_lt_of_le lt_xe1 gn_nb71)
    have ne_xs0_nb71 : xs0 ≠ nb71 := Nat.ne_of_lt (Nat.lt_of_lt_of_le lt_xs0 gn_nb71)
    have ne_xb0_nb71 : xb0 ≠ nb71 := Nat.ne_of_lt (Nat.lt_of_lt_of_le lt_xb0 gn_nb71)
    have ne_xs1_nb71 : xs1 ≠ nb71 := Nat.ne_of_lt (Nat.lt_of_lt_of_le lt_xs1 gn_nb71)
    have ne_xb1_nb71 : xb1 ≠ nb71 := Nat.ne_of_lt (Nat.lt_of_lt_of_le lt_xb1 gn_nb71)
    have ne_nt5_nb71 : nt5 ≠ nb71 := Nat.ne_of_lt (Nat.lt_of_lt_of_le lt_nt5 gn_nb71)
    have K := K.call K71 (allS (Or.inl (List.mem_of_getElem? (i := 0) rfl)) all0)
    refine oWk.to (mkF m 85 #[rv xt, rv xa, rv nt5, rv xe0, uu, uu, uu] []) (fun _ kt => st _ kt) ?_
    have E_xa := (E_xa.keep K71.1)
    have F_elementData_xa := (F_elementData_xa.keep K71.1 (ninS ne_xa_xt nin0))
    have F_size_xa := (F_size_xa.keep K71.1 (ninS ne_xa_xt nin0))
    have F_modCount_xa := (F_modCount_xa.keep K71.1 (ninS ne_xa_xt nin0))
    have V_xf := (V_xf.keep K71.1 (ninS ne_xf_xt nin0))
    have E_xe0 := (E_xe0.keep K71.1)
    have F_position_xe0 := (F_position_xe0.keep K71.1 (ninS ne_xe0_xt nin0))
    have F_deleteCount_xe0 := (F_deleteCount_xe0.keep K71.1 (ninS ne_xe0_xt nin0))
    have F_insertion_xe0 := (F_insertion_xe0.keep K71.1 (ninS ne_xe0_xt nin0))
    have F_insertionLength_xe0 := (F_insertionLength_xe0.keep K71.1 (ninS ne_xe0_xt nin0))
    have E_xe1 := (E_xe1.keep K71.1)
    have F_position_xe1 := (F_position_xe1.keep K71.1 (ninS ne_xe1_xt nin0))
    have F_deleteCount_xe1 := (F_deleteCount_xe1.keep K71.1 (ninS ne_xe1_xt nin0))
    have F_insertion_xe1 := (F_insertion_xe1.keep K71.1 (ninS ne_xe1_xt nin0))
    have F_insertionLength_xe1 := (F_insertionLength_xe1.keep K71.1 (ninS ne_xe1_xt nin0))
    have U_xs0 := (U_xs0.keep K71.1 (ninS ne_xs0_xt nin0) (ninS ne_xb0_xt nin0))
    have U_xs1 := (U_xs1.keep K71.1 (ninS ne_xs1_xt nin0) (ninS ne_xb1_xt nin0))
    have E_nt5 := (E_nt5.keep K71.1)
    have F_cursor_nt5 := (F_cursor_nt5.keep K71.1 (ninS (Ne.symm ne_xt_nt5) nin0))
    have F_lastRet_nt5 := (F_lastRet_nt5.keep K71.1 (ninS (Ne.symm ne_xt_nt5) nin0))
    have F_expectedModCount_nt5 := (F_expectedModCount_nt5.keep K71.1 (ninS (Ne.symm ne_xt_nt5) nin0))
    have F_this_0_nt5 := (F_this_0_nt5.keep K71.1 (ninS (Ne.symm ne_xt_nt5) nin0))
    exact J85 nb71 nN71 nge71 nv71 nk71 (Or.inr ge_nb71) (ne_xt_nb71) (ne_xa_nb71) (ne_xf_nb71) (ne_xe0_nb71) (ne_xe1_nb71) (ne_xs0_nb71) (ne_xb0_nb71) (ne_xs1_nb71) (ne_xb1_nb71) (ne_nt5_nb71) ((ar88 ht hNc hp0 hn0 hge13 hq0 hnN71 hg271)) ((ar89 ht hNc hp0 hn0 hge13 hq0 hnN71 hg271)) ((ar90 ht hNc hp0 hn0 hge13 hq0 hnN71 hg271)) ((ar91 ht hNc hp0 hn0 hge13 hq0 hnN71 hg271)) T _ h (oStG.of X (by decide) (by decide)) e0 K E_xa F_elementData_xa F_size_xa F_modCount_xa V_xf E_xe0 F_position_xe0 F_deleteCount_xe0 F_insertion_xe0 F_insertionLength_xe0 E_xe1 F_position_xe1 F_deleteCount_xe1 F_insertion_xe1 F_insertionLength_xe1 U_xs0 U_xs1 E_nt5 F_cursor_nt5 F_lastRet_nt5 F_expectedModCount_nt5 F_this_0_nt5 E_xt F_buffer_xt F_gapStart_xt F_gapEnd_xt F_journal_xt V_nb71
  · refine oWk.to (mkF m 85 #[rv xt, rv xa, rv nt5, rv xe0, uu, uu, uu] []) (fun _ kt => zY X hx hby d38_69 rfl rfl (flt hq0).2.2.2 (pc' := 85) rfl kt) ?_
    exact J85 xb xN (nge13 + xd0) nv13 xkb (Or.inl rfl) (ne_xt_xb) (ne_xa_xb) (ne_xf_xb) (ne_xe0_xb) (ne_xe1_xb) (ne_xs0_xb) (ne_xb0_xb) (ne_xs1_xb) (ne_xb1_xb) ((Ne.symm ne_xb_nt5)) ((ar92 ht hNc hp0 hn0 hge13 hq0)) (rfl) ((ar93 ht hNc hp0 hn0 hge13 hq0)) (Or.inl rfl) T _ h (oStG.of X (by decide) (by decide)) e0 K E_xa F_elementData_xa F_size_xa F_modCount_xa V_xf E_xe0 F_position_xe0 F_deleteCount_xe0 F_insertion_xe0 F_insertionLength_xe0 E_xe1 F_position_xe1 F_deleteCount_xe1 F_insertion_xe1 F_insertionLength_xe1 U_xs0 U_xs1 E_nt5 F_cursor_nt5 F_lastRet_nt5 F_expectedModCount_nt5 F_this_0_nt5 E_xt F_buffer_xt F_gapStart_xt F_gapEnd_xt F_journal_xt V_xb
theorem pn_11 : plainName "com/example/wakati/wakati/TextLengthPinLaw" = true := by first | (simp [plainName, overriddenIn]; done) | decide +kernel
abbrev yy53 : MethodName := ⟨"com/example/wakati/wakati/TextLengthPinLaw", "len", "(I)I"⟩
theorem d16_0 : decode method_2_code 0 = .ok (.iload_n 0, 1) := by decide +kernel
theorem d16_1 : decode method_2_code 1 = .ok (.ifCond .ne 5, 3) := by decide +kernel
theorem d16_4 : decode method_2_code 4 = .ok (.iconst 0, 1) := by decide +kernel
theorem d16_5 : decode method_2_code 5 = .ok (.ireturn, 1) := by decide +kernel
theorem d16_6 : decode method_2_code 6 = .ok (.iload_n 0, 1) := by decide +kernel
theorem d16_7 : decode method_2_code 7 = .ok (.iconst 2, 1) := by decide +kernel
theorem d16_8 : decode method_2_code 8 = .ok (.if_icmp .ne 6, 3) := by decide +kernel
theorem d16_11 : decode method_2_code 11 = .ok (.bipush 20, 2) := by decide +kernel
theorem d16_13 : decode method_2_code 13 = .ok (.ireturn, 1) := by decide +kernel
theorem d16_14 : decode method_2_code 14 = .ok (.iconst 1, 1) := by decide +kernel
theorem d16_15 : decode method_2_code 15 = .ok (.ireturn, 1) := by decide +kernel
theorem rLenK (l : Launch) (Z : State) (a0 : Array Value) (hw : oHW a0 Z) (ws : List Jvm.Cond) (xi xn : Int32) (h0 : Heap) (O0 : Ext Z.heap h0) (hn : oLenK xi = xn) :
    oCon l Z yy53 method_2_code 1 (some .int) ws ({ frames := 0, cells := 0, slots := 0, locals := 0 } : Room) #[(.int xi)] h0 (oPq (some (.int xn)) h0) := by
  refine oCon.of (plainFor_of_name pn_11) ?_
  intro p e s m below meth c T X hx hby hml hown hnm hret hlk hZ e0
  have hml : c.maxLocals = 1 := hml
  have K : oKp h0 h0 [] [] := oKp.nil _ _
  refine oWk.cast (g' := (mkF m 0 #[iv xi] [])) (by first | rfl | (simp [entryFrame, mkF, argsToLocals, Value.category]; done)) ?_
  refine oWk.to (mkF m 1 #[iv xi] [(.int xi)]) (fun _ kt => zI X hx hby d16_0 rfl rfl kt) ?_
  by_cases hc1 : xi = (0 : Int32)
  · refine oWk.to (mkF m 4 #[iv xi] []) (fun _ kt => zH X hx hby d16_1 rfl rfl ((if0 _ _).trans (teq hc1).2) kt) ?_
    refine oWk.to (mkF m 5 #[iv xi] [(.int 0)]) (fun _ kt => zK X hx hby d16_4 rfl kt) ?_
    exact oRetI X hx hlk hret (hb hby d16_5) (by rw [e0]; exact ⟨(congrArg (fun z => some (Value.int z)) (show (0 : Int32) = xn by rw [← hn]; simp [oLenK, hc1])), rfl, K⟩) (by decide) (by decide)
  · refine oWk.to (mkF m 6 #[iv xi] []) (fun _ kt => zF X hx hby d16_1 rfl rfl ((if0 _ _).trans (feq hc1).2) (pc' := 6) rfl kt) ?_
    refine oWk.to (mkF m 8 #[iv xi] [(.int 2), (.int xi)]) (fun _ kt => zI X hx hby d16_6 rfl rfl (zK X hx hby d16_7 rfl kt)) ?_
    by_cases hc8 : xi = (2 : Int32)
    · refine oWk.to (mkF m 11 #[iv xi] []) (fun _ kt => zN X hx hby d16_8 rfl rfl (teq hc8).2 kt) ?_
      refine oWk.to (mkF m 13 #[iv xi] [(.int 20)]) (fun _ kt => zL X hx hby d16_11 rfl kt) ?_
      exact oRetI X hx hlk hret (hb hby d16_13) (by rw [e0]; exact ⟨(congrArg (fun z => some (Value.int z)) (show (20 : Int32) = xn by rw [← hn]; simp [oLenK, hc1, hc8])), rfl, K⟩) (by decide) (by decide)
    · refine oWk.to (mkF m 14 #[iv xi] []) (fun _ kt => zY X hx hby d16_8 rfl rfl (feq hc8).2 (pc' := 14) rfl kt) ?_
      refine oWk.to (mkF m 15 #[iv xi] [(.int 1)]) (fun _ kt => zK X hx hby d16_14 rfl kt) ?_
      exact oRetI X hx hlk hret (hb hby d16_15) (by rw [e0]; exact ⟨(congrArg (fun z => some (Value.int z)) (show (1 : Int32) = xn by rw [← hn]; simp [oLenK, hc1, hc8])), rfl, K⟩) (by decide) (by decide)
abbrev yy54 : MethodName := ⟨"com/example/wakati/wakati/TextLengthPinLaw", "pick", "(ILjava/lang/String;Ljava/lang/String;Ljava/lang/String;Ljava/lang/String;)Ljava/lang/String;"⟩
theorem d20_0 : decode method_3_code 0 = .ok (.iload_n 0, 1) := by decide +kernel
theorem d20_1 : decode method_3_code 1 = .ok (.ifCond .ne 5, 3) := by decide +kernel
theorem d20_4 : decode method_3_code 4 = .ok (.aload_n 1, 1) := by decide +kernel
theorem d20_5 : decode method_3_code 5 = .ok (.areturn, 1) := by decide +kernel
theorem d20_6 : decode method_3_code 6 = .ok (.iload_n 0, 1) := by decide +kernel
theorem d20_7 : decode method_3_code 7 = .ok (.iconst 1, 1) := by decide +kernel
theorem d20_8 : decode method_3_code 8 = .ok (.if_icmp .ne 5, 3) := by decide +kernel
theorem d20_11 : decode method_3_code 11 = .ok (.aload_n 2, 1) := by decide +kernel
theorem d20_12 : decode method_3_code 12 = .ok (.areturn, 1) := by decide +kernel
theorem d20_13 : decode method_3_code 13 = .ok (.iload_n 0, 1) := by decide +kernel
theorem d20_14 : decode method_3_code 14 = .ok (.iconst 2, 1) := by decide +kernel
theorem d20_15 : decode method_3_code 15 = .ok (.if_icmp .ne 5, 3) := by decide +kernel
theorem d20_18 : decode method_3_code 18 = .ok (.aload_n 3, 1) := by decide +kernel
theorem d20_19 : decode method_3_code 19 = .ok (.areturn, 1) := by decide +kernel
theorem d20_20 : decode method_3_code 20 = .ok (.aload 4, 2) := by decide +kernel
theorem d20_22 : decode method_3_code 22 = .ok (.areturn, 1) := by decide +kernel
theorem rPick (l : Launch) (Z : State) (a0 : Array Value) (hw : oHW a0 Z) (ws : List Jvm.Cond) (xi : Int32) (x0 x1 x2 x3 xq : Addr) (h0 : Heap) (O0 : Ext Z.heap h0) (hq : oPick xi x0 x1 x2 x3 = xq) :
    oCon l Z yy54 method_3_code 5 (some (.object Y0)) ws ({ frames := 0, cells := 0, slots := 0, locals := 0 } : Room) #[(.int xi), (.ref x0), (.ref x1), (.ref x2), (.ref x3)] h0 (oPq (some (.ref xq)) h0) := by
  refine oCon.of (plainFor_of_name pn_11) ?_
  intro p e s m below meth c T X hx hby hml hown hnm hret hlk hZ e0
  have hml : c.maxLocals = 5 := hml
  have K : oKp h0 h0 [] [] := oKp.nil _ _
  refine oWk.cast (g' := (mkF m 0 #[iv xi, rv x0, rv x1, rv x2, rv x3] [])) (by first | rfl | (simp [entryFrame, mkF, argsToLocals, Value.category]; done)) ?_
  refine oWk.to (mkF m 1 #[iv xi, rv x0, rv x1, rv x2, rv x3] [(.int xi)]) (fun _ kt => zI X hx hby d20_0 rfl rfl kt) ?_
  by_cases hc1 : xi = (0 : Int32)
  · refine oWk.to (mkF m 4 #[iv xi, rv x0, rv x1, rv x2, rv x3] []) (fun _ kt => zH X hx hby d20_1 rfl rfl ((if0 _ _).trans (teq hc1).2) kt) ?_
    refine oWk.to (mkF m 5 #[iv xi, rv x0, rv x1, rv x2, rv x3] [(.ref x0)]) (fun _ kt => zA X hx hby d20_4 rfl rfl rfl kt) ?_
    exact oRetA X hx hlk hret rfl rfl (hb hby d20_5) (by rw [e0]; exact ⟨(congrArg (fun z => some (Value.ref z)) (show x0 = xq by rw [← hq]; simp [oPick, hc1])), rfl, K⟩) (by decide) (by decide)
  · refine oWk.to (mkF m 6 #[iv xi, rv x0, rv x1, rv x2, rv x3] []) (fun _ kt => zF X hx hby d20_1 rfl rfl ((if0 _ _).trans (feq hc1).2) (pc' := 6) rfl kt) ?_
    refine oWk.to (mkF m 8 #[iv xi, rv x0, rv x1, rv x2, rv x3] [(.int 1), (.int xi)]) (fun _ kt => zI X hx hby d20_6 rfl rfl (zK X hx hby d20_7 rfl kt)) ?_
    by_cases hc8 : xi = (1 : Int32)
    · refine oWk.to (mkF m 11 #[iv xi, rv x0, rv x1, rv x2, rv x3] []) (fun _ kt => zN X hx hby d20_8 rfl rfl (teq hc8).2 kt) ?_
      refine oWk.to (mkF m 12 #[iv xi, rv x0, rv x1, rv x2, rv x3] [(.ref x1)]) (fun _ kt => zA X hx hby d20_11 rfl rfl rfl kt) ?_
      exact oRetA X hx hlk hret rfl rfl (hb hby d20_12) (by rw [e0]; exact ⟨(congrArg (fun z => some (Value.ref z)) (show x1 = xq by rw [← hq]; simp [oPick, hc1, hc8])), rfl, K⟩) (by decide) (by decide)
    · refine oWk.to (mkF m 13 #[iv xi, rv x0, rv x1, rv x2, rv x3] []) (fun _ kt => zY X hx hby d20_8 rfl rfl (feq hc8).2 (pc' := 13) rfl kt) ?_
      refine oWk.to (mkF m 15 #[iv xi, rv x0, rv x1, rv x2, rv x3] [(.int 2), (.int xi)]) (fun _ kt => zI X hx hby d20_13 rfl rfl (zK X hx hby d20_14 rfl kt)) ?_
      by_cases hc15 : xi = (2 : Int32)
      · refine oWk.to (mkF m 18 #[iv xi, rv x0, rv x1, rv x2, rv x3] []) (fun _ kt => zN X hx hby d20_15 rfl rfl (teq hc15).2 kt) ?_
        refine oWk.to (mkF m 19 #[iv xi, rv x0, rv x1, rv x2, rv x3] [(.ref x2)]) (fun _ kt => zA X hx hby d20_18 rfl rfl rfl kt) ?_
        exact oRetA X hx hlk hret rfl rfl (hb hby d20_19) (by rw [e0]; exact ⟨(congrArg (fun z => some (Value.ref z)) (show x2 = xq by rw [← hq]; simp [oPick, hc1, hc8, hc15])), rfl, K⟩) (by decide) (by decide)
      · refine oWk.to (mkF m 20 #[iv xi, rv x0, rv x1, rv x2, rv x3] []) (fun _ kt => zY X hx hby d20_15 rfl rfl (feq hc15).2 (pc' := 20) rfl kt) ?_
        refine oWk.to (mkF m 22 #[iv xi, rv x0, rv x1, rv x2, rv x3] [(.ref x3)]) (fun _ kt => zB X hx hby d20_20 rfl rfl rfl kt) ?_
        exact oRetA X hx hlk hret rfl rfl (hb hby d20_22) (by rw [e0]; exact ⟨(congrArg (fun z => some (Value.ref z)) (show x3 = xq by rw [← hq]; simp [oPick, hc1, hc8, hc15])), rfl, K⟩) (by decide) (by decide)
def Q_rC5H (Z : State) (xa xd : Addr) (xk xl : ClassId) (xv xy : List Value) (h0 : Heap) (v : Option Value) (h : Heap) (L : List Loc) : Prop := ∃ (nv : List Value), v = some (.int (20 : Int32)) ∧ oKp h0 h [xd] L ∧ (Arv Z h xd xl .byte (20 : Int32) nv (.int (0 : Int32)))
abbrev yy55 : MethodName := ⟨"java/lang/StringUTF16", "compress", "([CI[BII)I"⟩
theorem d9_0 : decode b12_ 0 = .ok (.iconst 0, 1) := by decide +kernel
theorem d9_1 : decode b12_ 1 = .ok (.istore 5, 2) := by decide +kernel
theorem d9_3 : decode b12_ 3 = .ok (.iload 5, 2) := by decide +kernel
theorem d9_5 : decode b12_ 5 = .ok (.iload 4, 2) := by decide +kernel
theorem d9_7 : decode b12_ 7 = .ok (.if_icmp .ge 37, 3) := by decide +kernel
theorem d9_44 : decode b12_ 44 = .ok (.iload 4, 2) := by decide +kernel
theorem d9_46 : decode b12_ 46 = .ok (.ireturn, 1) := by decide +kernel
theorem d9_10 : decode b12_ 10 = .ok (.aload_n 0, 1) := by decide +kernel
theorem d9_11 : decode b12_ 11 = .ok (.iload_n 1, 1) := by decide +kernel
theorem d9_12 : decode b12_ 12 = .ok (.caload, 1) := by decide +kernel
theorem d9_13 : decode b12_ 13 = .ok (.istore 6, 2) := by decide +kernel
theorem d9_15 : decode b12_ 15 = .ok (.iload 6, 2) := by decide +kernel
theorem d9_17 : decode b12_ 17 = .ok (.sipush 255, 3) := by decide +kernel
theorem d9_20 : decode b12_ 20 = .ok (.if_icmp .le 6, 3) := by decide +kernel
theorem d9_26 : decode b12_ 26 = .ok (.aload_n 2, 1) := by decide +kernel
theorem d9_27 : decode b12_ 27 = .ok (.iload_n 3, 1) := by decide +kernel
theorem d9_28 : decode b12_ 28 = .ok (.iload 6, 2) := by decide +kernel
theorem d9_30 : decode b12_ 30 = .ok (.i2b, 1) := by decide +kernel
theorem d9_31 : decode b12_ 31 = .ok (.bastore, 1) := by decide +kernel
theorem d9_32 : decode b12_ 32 = .ok (.iinc 1 1, 3) := by decide +kernel
theorem d9_35 : decode b12_ 35 = .ok (.iinc 3 1, 3) := by decide +kernel
theorem d9_38 : decode b12_ 38 = .ok (.iinc 5 1, 3) := by decide +kernel
theorem d9_41 : decode b12_ 41 = .ok (.goto (-38), 3) := by decide +kernel
theorem rC5H (l : Launch) (Z : State) (a0 : Array Value) (hw : oHW a0 Z) (ws : List Jvm.Cond) (xa xd : Addr) (xk xl : ClassId) (xv xy : List Value) (h0 : Heap) (O0 : Ext Z.heap h0) (og_xd : Z.heap.size ≤ xd) (ne_xa_xd : xa ≠ xd) (hcs : ∀ k, oCs (xv.getD k (.int (0 : Int32)))) (V_xa : Arv Z h0 xa xk .char (20 : Int32) xv (.int (0 : Int32))) (V_xd : Arv Z h0 xd xl .byte (20 : Int32) xy (.int (0 : Int32))) :
    oCon l Z yy55 b12_ 7 (some .int) ws ({ frames := 0, cells := 0, slots := 0, locals := 0 } : Room) #[(.ref xa), (.int (0 : Int32)), (.ref xd), (.int (0 : Int32)), (.int (20 : Int32))] h0 (Q_rC5H Z xa xd xk xl xv xy h0) := by
  refine oCon.of (plainFor_of_name pn_6) ?_
  intro p e s m below meth c T X hx hby hml hown hnm hret hlk hZ e0
  have hml : c.maxLocals = 7 := hml
  have K : oKp h0 h0 [xd] [] := oKp.nil _ _
  refine oWk.cast (g' := (mkF m 0 #[rv xa, iv 0, rv xd, iv 0, iv 20, uu, uu] [])) (by first | rfl | (simp [entryFrame, mkF, argsToLocals, Value.category]; done)) ?_
  refine oWk.to (mkF m 3 #[rv xa, iv 0, rv xd, iv 0, iv 20, iv 0, uu] []) (fun _ kt => zK X hx hby d9_0 rfl (zS X hx hby d9_1 rfl rfl (l' := #[rv xa, iv 0, rv xd, iv 0, iv 20, iv 0, uu]) rfl kt)) ?_
  have J3 : ∀ (d : Nat) (xi : Int32) (sl : Slot) (vl : List Value), (xi.toInt + d = (20 : Int32).toInt) → (0 ≤ xi.toInt) → (sl = uu ∨ ∃ x, sl = iv x) → ∀ (T' : State) (L' : List Loc) (h : Heap), oStd X T' L' → T'.heap = h → oKp h0 h [xd] L' → Arv Z h xa xk .char (20 : Int32) xv (.int (0 : Int32)) → Arv Z h xd xl .byte (20 : Int32) vl (.int (0 : Int32)) → oWk p.tables e below (oDn s below (Q_rC5H Z xa xd xk xl xv xy h0) ({ frames := 0, cells := 0, slots := 0, locals := 0 } : Room).cells ({ frames := 0, cells := 0, slots := 0, locals := 0 } : Room).slots) T' (mkF m 3 #[rv xa, iv xi, rv xd, iv xi, iv 20, iv xi, sl] []) := by
    intro d
    induction d with
    | zero =>
      intro xi sl vl hi hj hsl T LJ h X e0 K V_xa V_xd
      have X : Stand p l e _ _ m _ below meth c T LJ _ _ := X
      refine oWk.to (mkF m 46 #[rv xa, iv xi, rv xd, iv xi, iv 20, iv xi, sl] [(.int 20)]) (fun _ kt => zJ X hx hby d9_3 rfl rfl (zJ X hx hby d9_5 rfl rfl (zY X hx hby d9_7 rfl rfl (flt (ar94 hi hj)).2.1 (pc' := 44) rfl (zJ X hx hby d9_44 rfl rfl kt)))) ?_
      exact oRetI X hx hlk hret (hb hby d9_46) (by rw [e0]; exact ⟨vl, rfl, K, V_xd⟩) (by decide) (by decide)
    | succ d ih =>
      intro xi sl vl hi hj hsl T LJ h X e0 K V_xa V_xd
      have X : Stand p l e _ _ m _ below meth c T LJ _ _ := X
      obtain ⟨cv, hcv, hle⟩ := hcs xi.toNatClampNeg
      refine oWk.to (mkF m 15 #[rv xa, iv xi, rv xd, iv xi, iv 20, iv xi, iv cv] []) (fun _ kt => zJ X hx hby d9_3 rfl rfl (zJ X hx hby d9_5 rfl rfl (zN X hx hby d9_7 rfl rfl (tlt (ar95 hi hj)).2.1 (zA X hx hby d9_10 rfl rfl rfl (zI X hx hby d9_11 rfl rfl (oLdC X hx hZ e0 V_xa xi (.int cv) (ar96 hi hj) hcv hby d9_12 rfl rfl (zS X hx hby d9_13 rfl rfl (l' := #[rv xa, iv xi, rv xd, iv xi, iv 20, iv xi, iv cv]) (by rcases hsl with rfl | ⟨_, rfl⟩ <;> rfl) kt))))))) ?_
      refine oWk.to (mkF m 31 #[rv xa, iv xi, rv xd, iv xi, iv 20, iv xi, iv cv] [(ib cv), (.int xi), (.ref xd)]) (fun _ kt => zJ X hx hby d9_15 rfl rfl (zM X hx hby d9_17 rfl (zY X hx hby d9_20 rfl rfl (flt hle).2.2.2 (pc' := 26) rfl (zA X hx hby d9_26 rfl rfl rfl (zI X hx hby d9_27 rfl rfl (zJ X hx hby d9_28 rfl rfl (XS.i2b X.here hx rfl (hb hby d9_30) rfl kt))))))) ?_
      obtain ⟨cl2, Ar2, q2, Sz2, Nn2, Hs2, Ft2⟩ := id V_xd
      have hin2 : ¬ (xi < 0 ∨ cl2.slots.size ≤ (xi).toNatClampNeg) := inb_of Sz2 (ar96 hi hj)
      obtain ⟨T, h, X, e0, W2, st⟩ := stB X hx hZ e0 Ar2 (j := xi) hin2 (g := (mkF m 31 #[rv xa, iv xi, rv xd, iv xi, iv 20, iv xi, iv cv] [(ib cv), (.int xi), (.ref xd)])) rfl rfl (hb hby d9_31)
      have K := K.wr W2 (Or.inl (List.mem_of_getElem? (i := 0) rfl))
      obtain ⟨xv2, V_xd⟩ := oSetH V_xd W2 (fits_nar_byte _)
      refine oWk.to (mkF m 3 #[rv xa, iv (xi + (1 : Int32)), rv xd, iv (xi + (1 : Int32)), iv 20, iv (xi + (1 : Int32)), iv cv] []) (fun _ kt => st _ (zC X hx hby d9_32 rfl rfl (l' := #[rv xa, iv (xi + (1 : Int32)), rv xd, iv xi, iv 20, iv xi, iv cv]) rfl (zC X hx hby d9_35 rfl rfl (l' := #[rv xa, iv (xi + (1 : Int32)), rv xd, iv (xi + (1 : Int32)), iv 20, iv xi, iv cv]) rfl (zC X hx hby d9_38 rfl rfl (l' := #[rv xa, iv (xi + (1 : Int32)), rv xd, iv (xi + (1 : Int32)), iv 20, iv (xi + (1 : Int32)), iv cv]) rfl (zG X hx hby d9_41 rfl (pc' := 3) rfl kt))))) ?_
      have V_xa := (V_xa.other W2 ne_xa_xd)
      exact ih (xi + (1 : Int32)) (iv cv) xv2 ((ar97 hi hj)) ((ar98 hi hj)) (Or.inr ⟨_, rfl⟩) T _ h X e0 K V_xa V_xd
  exact J3 20 (0 : Int32) (uu) xy (by decide) (by decide) (Or.inl rfl) T _ h0 X e0 K V_xa V_xd
def Q_rC3H (Z : State) (xa : Addr) (xk : ClassId) (xv : List Value) (h0 : Heap) (v : Option Value) (h : Heap) (L : List Loc) : Prop := ∃ (nb : Addr) (nk : ClassId) (nv : List Value), v = some (.ref nb) ∧ oKp h0 h [] L ∧ (h0.size ≤ nb) ∧ (Arv Z h nb nk .byte (20 : Int32) nv (.int (0 : Int32)))
abbrev yy56 : MethodName := ⟨"java/lang/StringUTF16", "compress", "([CII)[B"⟩
theorem d8_0 : decode b11_ 0 = .ok (.iload_n 2, 1) := by decide +kernel
theorem d8_1 : decode b11_ 1 = .ok (.newarray .byte, 2) := by decide +kernel
theorem d8_3 : decode b11_ 3 = .ok (.astore_n 3, 1) := by decide +kernel
theorem d8_4 : decode b11_ 4 = .ok (.aload_n 0, 1) := by decide +kernel
theorem d8_5 : decode b11_ 5 = .ok (.iload_n 1, 1) := by decide +kernel
theorem d8_6 : decode b11_ 6 = .ok (.aload_n 3, 1) := by decide +kernel
theorem d8_7 : decode b11_ 7 = .ok (.iconst 0, 1) := by decide +kernel
theorem d8_8 : decode b11_ 8 = .ok (.iload_n 2, 1) := by decide +kernel
theorem d8_9 : decode b11_ 9 = .ok (.invokestatic 115, 3) := by decide +kernel
theorem pd_28 : parseMethodDescriptor "([CI[BII)I" = some ⟨[(.array .char), .int, (.array .byte), .int, .int], some .int⟩ := by decide +kernel
theorem cs48 {a0 : Array Value} {Z : State} (hw : oHW a0 Z) : oCall Z Y4 (.invokestatic 115) yy55 b12_ 7 (some .int) (oRs 5) := oCall.stat (oW hw 41 rfl) (oW hw 42 rfl) (oW hw 39 rfl) (oW hw 43 rfl) (by decide) pd_28
theorem d8_12 : decode b11_ 12 = .ok (.istore 4, 2) := by decide +kernel
theorem d8_14 : decode b11_ 14 = .ok (.iload 4, 2) := by decide +kernel
theorem d8_16 : decode b11_ 16 = .ok (.iload_n 2, 1) := by decide +kernel
theorem d8_17 : decode b11_ 17 = .ok (.if_icmp .eq 40, 3) := by decide +kernel
theorem d8_57 : decode b11_ 57 = .ok (.aload_n 3, 1) := by decide +kernel
theorem d8_58 : decode b11_ 58 = .ok (.areturn, 1) := by decide +kernel
theorem rC3H (l : Launch) (Z : State) (a0 : Array Value) (hw : oHW a0 Z) (ws : List Jvm.Cond) (xa : Addr) (xk : ClassId) (xv : List Value) (h0 : Heap) (O0 : Ext Z.heap h0) (hcs : ∀ k, oCs (xv.getD k (.int (0 : Int32)))) (V_xa : Arv Z h0 xa xk .char (20 : Int32) xv (.int (0 : Int32))) :
    oCon l Z yy56 b11_ 6 (some (.array .byte)) ws ({ frames := 1, cells := 1, slots := 20, locals := 18 } : Room) #[(.ref xa), (.int (0 : Int32)), (.int (20 : Int32))] h0 (Q_rC3H Z xa xk xv h0) := by
  refine oCon.of (plainFor_of_name pn_6) ?_
  intro p e s m below meth c T X hx hby hml hown hnm hret hlk hZ e0
  have hml : c.maxLocals = 6 := hml
  have K : oKp h0 h0 [] [] := oKp.nil _ _
  refine oWk.cast (g' := (mkF m 0 #[rv xa, iv 0, iv 20, uu, uu, uu] [])) (by first | rfl | (simp [entryFrame, mkF, argsToLocals, Value.category]; done)) ?_
  refine oWk.st (fun _ kt => zI X hx hby d8_0 rfl rfl kt) ?_
  obtain ⟨o1, g1⟩ : ∃ z, z = h0.size := ⟨_, rfl⟩
  have ne_xa_o1 : xa ≠ o1 := Nat.ne_of_lt (Nat.lt_of_lt_of_le V_xa.lt (Nat.le_of_eq g1.symm))
  have ge_o1 : h0.size ≤ o1 := Nat.le_trans K.le (Nat.le_of_eq g1.symm)
  obtain ⟨T, h, k1, X, e0, E1, A1, st⟩ := newP X hx hZ (oW hw 15 rfl) e0 (g := (mkF m 1 #[rv xa, iv 0, iv 20, uu, uu, uu] [(.int 20)])) rfl (hb hby d8_1) rfl (by decide) (cap := 20) (by decide) (by decide) (by decide) (by decide)
  rw [← g1] at A1 st
  have K := K.ext E1
  have V_o1 : Arv Z h o1 k1 .byte (20 : Int32) [] (.int (0 : Int32)) := Arv.new A1 (by decide)
  refine oWk.to (mkF m 9 #[rv xa, iv 0, iv 20, rv o1, uu, uu] [(.int 20), (.int 0), (.ref o1), (.int 0), (.ref xa)]) (fun _ kt => st _ (zTn X hx hby d8_3 rfl rfl rfl (l' := #[rv xa, iv 0, iv 20, rv o1, uu, uu]) rfl (zA X hx hby d8_4 rfl rfl rfl (zI X hx hby d8_5 rfl rfl (zA X hx hby d8_6 rfl rfl rfl (zK X hx hby d8_7 rfl (zI X hx hby d8_8 rfl rfl kt))))))) ?_
  have V_xa := (V_xa.ext E1)
  have Oh := K.old O0 all0
  obtain ⟨_, T, h, Lc3, X, e0, hQ, st⟩ := (cs48 hw).run X hx hZ hown e0 (A := [(.ref xa), (.int (0 : Int32)), (.ref o1), (.int (0 : Int32)), (.int (20 : Int32))]) rfl (rC5H l Z a0 hw [] xa o1 xk k1 xv [] h Oh (Nat.le_trans O0.1 ge_o1) ne_xa_o1 hcs V_xa V_o1) (W := 0) (by decide) hml (Ls := #[rv xa, iv 0, iv 20, rv o1, uu, uu]) rfl (rest := []) rfl rfl hby d8_9
  obtain ⟨nv2, rfl, K2, V_o1⟩ := hQ
  have K := K.call K2 (allS (Or.inr ge_o1) all0)
  refine oWk.to (mkF m 58 #[rv xa, iv 0, iv 20, rv o1, iv 20, uu] [(.ref o1)]) (fun _ kt => st _ (zS X hx hby d8_12 rfl rfl (l' := #[rv xa, iv 0, iv 20, rv o1, iv 20, uu]) rfl (zJ X hx hby d8_14 rfl rfl (zI X hx hby d8_16 rfl rfl (zY X hx hby d8_17 rfl rfl (teq (by decide)).1 (pc' := 57) rfl (zA X hx hby d8_57 rfl rfl rfl kt)))))) ?_
  exact oRetA X hx hlk hret rfl rfl (hb hby d8_58) (by rw [e0]; exact ⟨o1, k1, nv2, rfl, K, ge_o1, V_o1⟩) (by decide) (by decide)
abbrev yy57 : MethodName := ⟨"java/lang/StringUTF16", "coderFromArrayLen", "([BI)B"⟩
theorem d10_0 : decode b37_ 0 = .ok (.iload_n 1, 1) := by decide +kernel
theorem d10_1 : decode b37_ 1 = .ok (.aload_n 0, 1) := by decide +kernel
theorem d10_2 : decode b37_ 2 = .ok (.arraylength, 1) := by decide +kernel
theorem d10_3 : decode b37_ 3 = .ok (.isub, 1) := by decide +kernel
theorem d10_4 : decode b37_ 4 = .ok (.bipush 31, 2) := by decide +kernel
theorem d10_6 : decode b37_ 6 = .ok (.iushr, 1) := by decide +kernel
theorem d10_7 : decode b37_ 7 = .ok (.i2b, 1) := by decide +kernel
theorem d10_8 : decode b37_ 8 = .ok (.ireturn, 1) := by decide +kernel
theorem rCoH (l : Launch) (Z : State) (a0 : Array Value) (hw : oHW a0 Z) (ws : List Jvm.Cond) (xb : Addr) (xk : ClassId) (xv : List Value) (h0 : Heap) (O0 : Ext Z.heap h0) (V_xb : Arv Z h0 xb xk .byte (20 : Int32) xv (.int (0 : Int32))) :
    oCon l Z yy57 b37_ 2 (some .byte) ws ({ frames := 0, cells := 0, slots := 0, locals := 0 } : Room) #[(.ref xb), (.int (20 : Int32))] h0 (oPq (some (.int (0 : Int32))) h0) := by
  refine oCon.of (plainFor_of_name pn_6) ?_
  intro p e s m below meth c T X hx hby hml hown hnm hret hlk hZ e0
  have hml : c.maxLocals = 2 := hml
  have K : oKp h0 h0 [] [] := oKp.nil _ _
  refine oWk.cast (g' := (mkF m 0 #[rv xb, iv 20] [])) (by first | rfl | (simp [entryFrame, mkF, argsToLocals, Value.category]; done)) ?_
  refine oWk.to (mkF m 8 #[rv xb, iv 20] [(.int 0)]) (fun _ kt => zI X hx hby d10_0 rfl rfl (zA X hx hby d10_1 rfl rfl rfl (oAl X hx hZ e0 V_xb hby d10_2 rfl rfl (XS.isub X.here hx rfl (hb hby d10_3) rfl (zL X hx hby d10_4 rfl (XS.iushr X.here hx rfl (hb hby d10_6) rfl (XS.i2b X.here hx rfl (hb hby d10_7) rfl kt))))))) ?_
  exact oRetN X hx hlk hret (Or.inl rfl) rfl (hb hby d10_8) (by rw [e0]; exact ⟨rfl, rfl, K⟩) (by decide) (by decide)
def Q_rI4H (Z : State) (xs xa : Addr) (xk : ClassId) (xz : Int32) (xu xy : Value) (xv : List Value) (h0 : Heap) (v : Option Value) (h : Heap) (L : List Loc) : Prop := ∃ (nb : Addr) (nk : ClassId) (nv : List Value), v = none ∧ oKp h0 h [xs] L ∧ (Exa Z h xs Y0) ∧ (Fld Z h xs Y0 "coder" "B" (.int (0 : Int32))) ∧ (Fld Z h xs Y0 "value" "[B" (.ref nb)) ∧ (h0.size ≤ nb) ∧ (Arv Z h nb nk .byte (20 : Int32) nv (.int (0 : Int32)))
abbrev yy58 : MethodName := ⟨"java/lang/String", "<init>", "([CIILjava/lang/Void;)V"⟩
theorem d2_0 : decode b8_ 0 = .ok (.aload_n 0, 1) := by decide +kernel
theorem d2_1 : decode b8_ 1 = .ok (.invokespecial 1, 3) := by decide +kernel
theorem d2_4 : decode b8_ 4 = .ok (.iload_n 3, 1) := by decide +kernel
theorem d2_5 : decode b8_ 5 = .ok (.ifCond .ne 22, 3) := by decide +kernel
theorem d2_27 : decode b8_ 27 = .ok (.getstatic 38, 3) := by decide +kernel
theorem d2_30 : decode b8_ 30 = .ok (.ifCond .eq 28, 3) := by decide +kernel
theorem d2_33 : decode b8_ 33 = .ok (.aload_n 1, 1) := by decide +kernel
theorem d2_34 : decode b8_ 34 = .ok (.iload_n 2, 1) := by decide +kernel
theorem d2_35 : decode b8_ 35 = .ok (.iload_n 3, 1) := by decide +kernel
theorem d2_36 : decode b8_ 36 = .ok (.invokestatic 177, 3) := by decide +kernel
theorem pd_29 : parseMethodDescriptor "([CII)[B" = some ⟨[(.array .char), .int, .int], some (.array .byte)⟩ := by decide +kernel
theorem cs49 {a0 : Array Value} {Z : State} (hw : oHW a0 Z) : oCall Z Y0 (.invokestatic 177) yy56 b11_ 6 (some (.array .byte)) (oRs 3) := oCall.stat (oW hw 37 rfl) (oW hw 38 rfl) (oW hw 39 rfl) (oW hw 40 rfl) (by decide) pd_29
theorem d2_39 : decode b8_ 39 = .ok (.astore 5, 2) := by decide +kernel
theorem d2_41 : decode b8_ 41 = .ok (.aload_n 0, 1) := by decide +kernel
theorem d2_42 : decode b8_ 42 = .ok (.aload 5, 2) := by decide +kernel
theorem d2_44 : decode b8_ 44 = .ok (.iload_n 3, 1) := by decide +kernel
theorem d2_45 : decode b8_ 45 = .ok (.invokestatic 47, 3) := by decide +kernel
theorem pd_30 : parseMethodDescriptor "([BI)B" = some ⟨[(.array .byte), .int], some .byte⟩ := by decide +kernel
theorem cs50 {a0 : Array Value} {Z : State} (hw : oHW a0 Z) : oCall Z Y0 (.invokestatic 47) yy57 b37_ 2 (some .byte) (oRs 2) := oCall.stat (oW hw 44 rfl) (oW hw 45 rfl) (oW hw 39 rfl) (oW hw 46 rfl) (by decide) pd_30
theorem d2_48 : decode b8_ 48 = .ok (.putfield 15, 3) := by decide +kernel
theorem d2_51 : decode b8_ 51 = .ok (.aload_n 0, 1) := by decide +kernel
theorem d2_52 : decode b8_ 52 = .ok (.aload 5, 2) := by decide +kernel
theorem d2_54 : decode b8_ 54 = .ok (.putfield 9, 3) := by decide +kernel
theorem d2_57 : decode b8_ 57 = .ok (.return_, 1) := by decide +kernel
theorem rI4H (l : Launch) (Z : State) (a0 : Array Value) (hw : oHW a0 Z) (ws : List Jvm.Cond) (xs xa : Addr) (xk : ClassId) (xz : Int32) (xu xy : Value) (xv : List Value) (h0 : Heap) (O0 : Ext Z.heap h0) (S_Z : Sta Z Z.heap Y0 Y9 "Z" (.int xz)) (hz : ¬ xz = (0 : Int32)) (og_xs : Z.heap.size ≤ xs) (E_xs : Exa Z h0 xs Y0) (F_value_xs : Fld Z h0 xs Y0 "value" "[B" xu) (F_coder_xs : Fld Z h0 xs Y0 "coder" "B" xy) (hcs : ∀ k, oCs (xv.getD k (.int (0 : Int32)))) (V_xa : Arv Z h0 xa xk .char (20 : Int32) xv (.int (0 : Int32))) :
    oCon l Z yy58 b8_ 6 none ws ({ frames := 2, cells := 1, slots := 20, locals := 35 } : Room) #[(.ref xs), (.ref xa), (.int (0 : Int32)), (.int (20 : Int32)), .null] h0 (Q_rI4H Z xs xa xk xz xu xy xv h0) := by
  refine oCon.of (plainFor_of_name pn_0) ?_
  intro p e s m below meth c T X hx hby hml hown hnm hret hlk hZ e0
  have hml : c.maxLocals = 6 := hml
  have K : oKp h0 h0 [xs] [] := oKp.nil _ _
  refine oWk.cast (g' := (mkF m 0 #[rv xs, rv xa, iv 0, iv 20, .val .null, uu] [])) (by first | rfl | (simp [entryFrame, mkF, argsToLocals, Value.category]; done)) ?_
  refine oWk.st (fun _ kt => zA X hx hby d2_0 rfl rfl rfl kt) ?_
  obtain ⟨T, X, e0, st⟩ := initO X hx hZ hown (oW hw 11 rfl) (oW hw 12 rfl) (oW hw 13 rfl) e0 (g := (mkF m 1 #[rv xs, rv xa, iv 0, iv 20, .val .null, uu] [(.ref xs)])) rfl (by rw [hml]; rfl) rfl (hb hby d2_1) (by decide) (W := 0) (Nat.le_of_eq rfl) (by decide)
  refine oWk.st (fun _ kt => st _ (zI X hx hby d2_4 rfl rfl (zF X hx hby d2_5 rfl rfl ((if0 _ _).trans (feq (by decide)).2) (pc' := 27) rfl kt))) ?_
  have Oh := K.old O0 (allS og_xs all0)
  obtain ⟨T, X, e0, st⟩ := getS2 X hx hZ hown (host := "") (Or.inl (oW hw 25 rfl)) Via.refl e0 (S_Z.ext Oh) (g := (mkF m 27 #[rv xs, rv xa, iv 0, iv 20, .val .null, uu] [])) rfl (hb hby d2_27)
  refine oWk.st (fun _ kt => st _ (zH X hx hby d2_30 rfl rfl ((if0 _ _).trans (feq hz).1) (zA X hx hby d2_33 rfl rfl rfl (zI X hx hby d2_34 rfl rfl (zI X hx hby d2_35 rfl rfl kt))))) ?_
  have lt_xs := E_xs.lt
  have lt_xa := V_xa.lt
  obtain ⟨_, T, h, Lc2, X, e0, hQ, st⟩ := (cs49 hw).run X hx hZ hown e0 (A := [(.ref xa), (.int (0 : Int32)), (.int (20 : Int32))]) rfl (rC3H l Z a0 hw [] xa xk xv h0 Oh hcs V_xa) (W := 0) (by decide) hml (Ls := #[rv xs, rv xa, iv 0, iv 20, .val .null, uu]) rfl (rest := []) rfl rfl hby d2_36
  obtain ⟨nb1, nk1, nv1, rfl, K1, gn_nb1, V_nb1⟩ := hQ
  have ge_nb1 := Nat.le_trans K.le gn_nb1
  have ne_xs_nb1 : xs ≠ nb1 := Nat.ne_of_lt (Nat.lt_of_lt_of_le lt_xs gn_nb1)
  have ne_xa_nb1 : xa ≠ nb1 := Nat.ne_of_lt (Nat.lt_of_lt_of_le lt_xa gn_nb1)
  have K := K.call K1 all0
  refine oWk.st (fun _ kt => st _ (zT X hx hby d2_39 rfl rfl rfl (l' := #[rv xs, rv xa, iv 0, iv 20, .val .null, rv nb1]) rfl (zA X hx hby d2_41 rfl rfl rfl (zB X hx hby d2_42 rfl rfl rfl (zI X hx hby d2_44 rfl rfl kt))))) ?_
  have Oh := K.old O0 (allS og_xs all0)
  obtain ⟨T, L4, X, e0, K, st⟩ := (cs50 hw).pure X hx hZ hown e0 K (A := [(.ref nb1), (.int (20 : Int32))]) rfl (rCoH l Z a0 hw [] nb1 nk1 nv1 h Oh V_nb1) (W := 1) (by decide) hml (Ls := #[rv xs, rv xa, iv 0, iv 20, .val .null, rv nb1]) rfl (rest := [(.ref xs)]) rfl rfl hby d2_45
  refine oWk.st (fun _ kt => st _ kt) ?_
  have E_xs := (E_xs.keep K1.1)
  have F_coder_xs := (F_coder_xs.keep K1.1 nin0)
  obtain ⟨T, h, X, e0, W5, st⟩ := putFN X hx hZ hown (oW hw 21 rfl) Via.refl e0 F_coder_xs E_xs (Or.inr ⟨(oW hw 17 rfl), rfl, hnm⟩) (oW hw 1 rfl) (ty := .byte) (v' := .int (0 : Int32)) (by decide) rfl (by decide) (g := (mkF m 48 #[rv xs, rv xa, iv 0, iv 20, .val .null, rv nb1] [(.int 0), (.ref xs)])) rfl rfl (hb hby d2_48)
  have K := K.wr W5 (Or.inl (List.mem_of_getElem? (i := 0) rfl))
  have F_coder_xs := F_coder_xs.same W5
  refine oWk.st (fun _ kt => st _ (zA X hx hby d2_51 rfl rfl rfl (zB X hx hby d2_52 rfl rfl rfl kt))) ?_
  have E_xs := (E_xs.wr W5)
  have F_value_xs := ((F_value_xs.keep K1.1 nin0).other W5 (Or.inr (slot_ne (Or.inr (oW hw 16 rfl)) (Or.inr (oW hw 17 rfl)) (by decide) (t := (.array .byte)) (t' := .byte) (by decide) (by decide))))
  obtain ⟨T, h, X, e0, W6, st⟩ := putF X hx hZ hown (host := "") (Or.inl (oW hw 20 rfl)) Via.refl e0 F_value_xs E_xs (Or.inr ⟨(oW hw 16 rfl), rfl, hnm⟩) (oW hw 1 rfl) (ty := (.array .byte)) (by decide) rfl rfl (g := (mkF m 54 #[rv xs, rv xa, iv 0, iv 20, .val .null, rv nb1] [(.ref nb1), (.ref xs)])) rfl rfl (hb hby d2_54)
  have K := K.wr W6 (Or.inl (List.mem_of_getElem? (i := 0) rfl))
  have F_value_xs := F_value_xs.same W6
  refine oWk.to (mkF m 57 #[rv xs, rv xa, iv 0, iv 20, .val .null, rv nb1] []) (fun _ kt => st _ kt) ?_
  have E_xs := (E_xs.wr W6)
  have F_coder_xs := (F_coder_xs.other W6 (Or.inr (slot_ne (Or.inr (oW hw 17 rfl)) (Or.inr (oW hw 16 rfl)) (by decide) (t := .byte) (t' := (.array .byte)) (by decide) (by decide))))
  have V_nb1 := ((V_nb1.other W5 (Ne.symm ne_xs_nb1)).other W6 (Ne.symm ne_xs_nb1))
  exact oRetV X hx hlk hret (hb hby d2_57) (by rw [e0]; exact ⟨nb1, nk1, nv1, rfl, K, E_xs, F_coder_xs, F_value_xs, ge_nb1, V_nb1⟩) (by decide) (by decide)
def Q_rI1H (Z : State) (xs xa : Addr) (xk : ClassId) (xz : Int32) (xu xy : Value) (xv : List Value) (h0 : Heap) (v : Option Value) (h : Heap) (L : List Loc) : Prop := ∃ (nb : Addr) (nk : ClassId) (nv : List Value), v = none ∧ oKp h0 h [xs] L ∧ (Exa Z h xs Y0) ∧ (Fld Z h xs Y0 "coder" "B" (.int (0 : Int32))) ∧ (Fld Z h xs Y0 "value" "[B" (.ref nb)) ∧ (h0.size ≤ nb) ∧ (Arv Z h nb nk .byte (20 : Int32) nv (.int (0 : Int32)))
abbrev yy59 : MethodName := ⟨"java/lang/String", "<init>", "([C)V"⟩
theorem d1_0 : decode b33_ 0 = .ok (.aload_n 0, 1) := by decide +kernel
theorem d1_1 : decode b33_ 1 = .ok (.aload_n 1, 1) := by decide +kernel
theorem d1_2 : decode b33_ 2 = .ok (.iconst 0, 1) := by decide +kernel
theorem d1_3 : decode b33_ 3 = .ok (.aload_n 1, 1) := by decide +kernel
theorem d1_4 : decode b33_ 4 = .ok (.arraylength, 1) := by decide +kernel
theorem d1_5 : decode b33_ 5 = .ok (.aconst_null, 1) := by decide +kernel
theorem d1_6 : decode b33_ 6 = .ok (.invokespecial 27, 3) := by decide +kernel
theorem pd_31 : parseMethodDescriptor "([CIILjava/lang/Void;)V" = some ⟨[(.array .char), .int, .int, (.object "java/lang/Void")], none⟩ := by decide +kernel
theorem cs51 {a0 : Array Value} {Z : State} (hw : oHW a0 Z) : oCall Z Y0 (.invokespecial 27) yy58 b8_ 6 none (oRi 4) := oCall.init rfl (oW hw 7 rfl) (oW hw 8 rfl) (oW hw 2 rfl) (oW hw 10 rfl) (by decide) pd_31
theorem d1_9 : decode b33_ 9 = .ok (.return_, 1) := by decide +kernel
theorem rI1H (l : Launch) (Z : State) (a0 : Array Value) (hw : oHW a0 Z) (ws : List Jvm.Cond) (xs xa : Addr) (xk : ClassId) (xz : Int32) (xu xy : Value) (xv : List Value) (h0 : Heap) (O0 : Ext Z.heap h0) (S_Z : Sta Z Z.heap Y0 Y9 "Z" (.int xz)) (hz : ¬ xz = (0 : Int32)) (og_xs : Z.heap.size ≤ xs) (E_xs : Exa Z h0 xs Y0) (F_value_xs : Fld Z h0 xs Y0 "value" "[B" xu) (F_coder_xs : Fld Z h0 xs Y0 "coder" "B" xy) (hcs : ∀ k, oCs (xv.getD k (.int (0 : Int32)))) (V_xa : Arv Z h0 xa xk .char (20 : Int32) xv (.int (0 : Int32))) :
    oCon l Z yy59 b33_ 2 none ws ({ frames := 3, cells := 1, slots := 20, locals := 52 } : Room) #[(.ref xs), (.ref xa)] h0 (Q_rI1H Z xs xa xk xz xu xy xv h0) := by
  refine oCon.of (plainFor_of_name pn_0) ?_
  intro p e s m below meth c T X hx hby hml hown hnm hret hlk hZ e0
  have hml : c.maxLocals = 2 := hml
  have K : oKp h0 h0 [xs] [] := oKp.nil _ _
  refine oWk.cast (g' := (mkF m 0 #[rv xs, rv xa] [])) (by first | rfl | (simp [entryFrame, mkF, argsToLocals, Value.category]; done)) ?_
  refine oWk.st (fun _ kt => zA X hx hby d1_0 rfl rfl rfl (zA X hx hby d1_1 rfl rfl rfl (zK X hx hby d1_2 rfl (zA X hx hby d1_3 rfl rfl rfl (oAl X hx hZ e0 V_xa hby d1_4 rfl rfl (XS.aconstNull X.here hx rfl (hb hby d1_5) kt)))))) ?_
  have lt_xs := E_xs.lt
  have lt_xa := V_xa.lt
  have Oh := K.old O0 (allS og_xs all0)
  obtain ⟨_, T, h, Lc3, X, e0, hQ, st⟩ := (cs51 hw).run X hx hZ hown e0 (A := [(.ref xs), (.ref xa), (.int (0 : Int32)), (.int (20 : Int32)), .null]) ⟨rfl, _, _, rfl⟩ (rI4H l Z a0 hw [] xs xa xk xz xu xy xv h0 Oh S_Z hz og_xs E_xs F_value_xs F_coder_xs hcs V_xa) (W := 0) (by decide) hml (Ls := #[rv xs, rv xa]) rfl (rest := []) rfl rfl hby d1_6
  obtain ⟨nb2, nk2, nv2, rfl, K2, E_xs, F_coder_xs, F_value_xs, gn_nb2, V_nb2⟩ := hQ
  have ge_nb2 := Nat.le_trans K.le gn_nb2
  have ne_xs_nb2 : xs ≠ nb2 := Nat.ne_of_lt (Nat.lt_of_lt_of_le lt_xs gn_nb2)
  have ne_xa_nb2 : xa ≠ nb2 := Nat.ne_of_lt (Nat.lt_of_lt_of_le lt_xa gn_nb2)
  have K := K.call K2 (allS (Or.inl (List.mem_of_getElem? (i := 0) rfl)) all0)
  refine oWk.to (mkF m 9 #[rv xs, rv xa] []) (fun _ kt => st _ kt) ?_
  exact oRetV X hx hlk hret (hb hby d1_9) (by rw [e0]; exact ⟨nb2, nk2, nv2, rfl, K, E_xs, F_coder_xs, F_value_xs, ge_nb2, V_nb2⟩) (by decide) (by decide)
def Q_rI4_0 (Z : State) (xs xa : Addr) (xu xv : Value) (h0 : Heap) (v : Option Value) (h : Heap) (L : List Loc) : Prop := ∃ (nb : Addr) (nk : ClassId), v = none ∧ oKp h0 h [xs] L ∧ (Exa Z h xs Y0) ∧ (Fld Z h xs Y0 "coder" "B" (.int (0 : Int32))) ∧ (Fld Z h xs Y0 "value" "[B" (.ref nb)) ∧ (Arv Z h nb nk .byte (0 : Int32) [] (.int (0 : Int32)))
theorem d2_8 : decode b8_ 8 = .ok (.aload_n 0, 1) := by decide +kernel
theorem d2_9 : decode b8_ 9 = .ok (.ldc 7, 2) := by decide +kernel
theorem d2_11 : decode b8_ 11 = .ok (.getfield 9, 3) := by decide +kernel
theorem d2_14 : decode b8_ 14 = .ok (.putfield 9, 3) := by decide +kernel
theorem d2_17 : decode b8_ 17 = .ok (.aload_n 0, 1) := by decide +kernel
theorem d2_18 : decode b8_ 18 = .ok (.ldc 7, 2) := by decide +kernel
theorem d2_20 : decode b8_ 20 = .ok (.getfield 15, 3) := by decide +kernel
theorem d2_23 : decode b8_ 23 = .ok (.putfield 15, 3) := by decide +kernel
theorem d2_26 : decode b8_ 26 = .ok (.return_, 1) := by decide +kernel
theorem rI4_0 (l : Launch) (Z : State) (a0 : Array Value) (hw : oHW a0 Z) (ws : List Jvm.Cond) (xs xa : Addr) (xu xv : Value) (h0 : Heap) (O0 : Ext Z.heap h0) (og_xs : Z.heap.size ≤ xs) (E_xs : Exa Z h0 xs Y0) (F_value_xs : Fld Z h0 xs Y0 "value" "[B" xu) (F_coder_xs : Fld Z h0 xs Y0 "coder" "B" xv) :
    oConH l Z oEL yy58 b8_ 6 none ws ({ frames := 1, cells := 4, slots := 8, locals := 12 } : Room) #[(.ref xs), (.ref xa), (.int (0 : Int32)), (.int (0 : Int32)), .null] h0 [xs] (Q_rI4_0 Z xs xa xu xv h0) := by
  refine oConH.of (plainFor_of_name pn_0) ?_
  intro p e s m below meth c T vm X hx hby hml hown hnm hret hlk hZ e0 B hsf
  have sf_xs := hsf xs (List.mem_of_getElem? (i := 0) rfl)
  have hml : c.maxLocals = 6 := hml
  have K : oKp h0 h0 [xs] [] := oKp.nil _ _
  refine oWk.cast (g' := (mkF m 0 #[rv xs, rv xa, iv 0, iv 0, .val .null, uu] [])) (by first | rfl | (simp [entryFrame, mkF, argsToLocals, Value.category]; done)) ?_
  refine oWk.st (fun _ kt => zA X hx hby d2_0 rfl rfl rfl kt) ?_
  obtain ⟨T, X, e0, st⟩ := initO X hx hZ hown (oW hw 11 rfl) (oW hw 12 rfl) (oW hw 13 rfl) e0 (g := (mkF m 1 #[rv xs, rv xa, iv 0, iv 0, .val .null, uu] [(.ref xs)])) rfl (by rw [hml]; rfl) rfl (hb hby d2_1) (by decide) (W := 0) (Nat.le_of_eq rfl) (by decide)
  refine oWk.st (fun _ kt => st _ (zI X hx hby d2_4 rfl rfl (zH X hx hby d2_5 rfl rfl ((if0 _ _).trans (teq (by decide)).2) (zA X hx hby d2_8 rfl rfl rfl kt)))) ?_
  obtain ⟨lt1, T, h, lt1b, lt1k, X, e2, E1, hZ, hown, B, C, E_lt1, F_coder_lt1, F_value_lt1, V_lt1b, hne, st⟩ := oLdcR X hx hZ hown (oW hw 14 rfl) (oSA hw) e0 (oELw hw) (List.mem_of_getElem? (i := 0) rfl) B (vs := []) (z := 0) oTx0 (by decide) rfl (g := (mkF m 9 #[rv xs, rv xa, iv 0, iv 0, .val .null, uu] [(.ref xs)])) rfl (hb hby d2_9) (n := 0) (by decide) (by decide) (by decide) (by decide)
  have sf_xs := C.safe E_xs.lt sf_xs
  have e0 := e2
  have K := K.ext E1
  have ne_xs_lt1 := (hne _ sf_xs).1
  have ne_xs_lt1b := (hne _ sf_xs).2
  refine oWk.st (fun _ kt => st _ kt) ?_
  obtain ⟨T, X, e0, st⟩ := getF X hx hZ hown (host := "") (Or.inl (oW hw 20 rfl)) Via.refl e0 F_value_lt1 (g := (mkF m 11 #[rv xs, rv xa, iv 0, iv 0, .val .null, uu] [(.ref lt1), (.ref xs)])) rfl rfl (hb hby d2_11)
  refine oWk.st (fun _ kt => st _ kt) ?_
  have E_xs := (E_xs.ext E1)
  have F_value_xs := (F_value_xs.ext E1)
  obtain ⟨T, h, X, e0, W2, st⟩ := putF X hx hZ hown (host := "") (Or.inl (oW hw 20 rfl)) Via.refl e0 F_value_xs E_xs (Or.inr ⟨(oW hw 16 rfl), rfl, hnm⟩) (oW hw 1 rfl) (ty := (.array .byte)) (by decide) rfl rfl (g := (mkF m 14 #[rv xs, rv xa, iv 0, iv 0, .val .null, uu] [(.ref lt1b), (.ref xs)])) rfl rfl (hb hby d2_14)
  have K := K.wr W2 (Or.inl (List.mem_of_getElem? (i := 0) rfl))
  have sw : Safe Z oEL _ _ xs := sf_xs
  have sf_xs := Safe.wr W2 sw B.2.1 sf_xs
  have B := B.wr W2 sw
  have F_value_xs := F_value_xs.same W2
  refine oWk.st (fun _ kt => st _ (zA X hx hby d2_17 rfl rfl rfl kt)) ?_
  have E_xs := (E_xs.wr W2)
  obtain ⟨lt3, T, h, lt3b, lt3k, X, e2, E3, hZ, hown, B, C, E_lt3, F_coder_lt3, F_value_lt3, V_lt3b, hne, st⟩ := oLdcR X hx hZ hown (oW hw 14 rfl) (oSA hw) e0 (oELw hw) (List.mem_of_getElem? (i := 0) rfl) B (vs := []) (z := 0) oTx0 (by decide) rfl (g := (mkF m 18 #[rv xs, rv xa, iv 0, iv 0, .val .null, uu] [(.ref xs)])) rfl (hb hby d2_18) (n := 0) (by decide) (by decide) (by decide) (by decide)
  have sf_xs := C.safe E_xs.lt sf_xs
  have e0 := e2
  have K := K.ext E3
  have ne_xs_lt3 := (hne _ sf_xs).1
  have ne_xs_lt3b := (hne _ sf_xs).2
  refine oWk.st (fun _ kt => st _ kt) ?_
  obtain ⟨T, X, e0, st⟩ := getF X hx hZ hown (host := "") (Or.inl (oW hw 21 rfl)) Via.refl e0 F_coder_lt3 (g := (mkF m 20 #[rv xs, rv xa, iv 0, iv 0, .val .null, uu] [(.ref lt3), (.ref xs)])) rfl rfl (hb hby d2_20)
  refine oWk.st (fun _ kt => st _ kt) ?_
  have E_xs := (E_xs.ext E3)
  have F_coder_xs := (((F_coder_xs.ext E1).other W2 (Or.inr (slot_ne (Or.inr (oW hw 17 rfl)) (Or.inr (oW hw 16 rfl)) (by decide) (t := .byte) (t' := (.array .byte)) (by decide) (by decide)))).ext E3)
  obtain ⟨T, h, X, e0, W4, st⟩ := putFN X hx hZ hown (oW hw 21 rfl) Via.refl e0 F_coder_xs E_xs (Or.inr ⟨(oW hw 17 rfl), rfl, hnm⟩) (oW hw 1 rfl) (ty := .byte) (v' := .int (0 : Int32)) (by decide) rfl (by decide) (g := (mkF m 23 #[rv xs, rv xa, iv 0, iv 0, .val .null, uu] [(.int 0), (.ref xs)])) rfl rfl (hb hby d2_23)
  have K := K.wr W4 (Or.inl (List.mem_of_getElem? (i := 0) rfl))
  have sw : Safe Z oEL _ _ xs := sf_xs
  have sf_xs := Safe.wr W4 sw B.2.1 sf_xs
  have B := B.wr W4 sw
  have F_coder_xs := F_coder_xs.same W4
  refine oWk.to (mkF m 26 #[rv xs, rv xa, iv 0, iv 0, .val .null, uu] []) (fun _ kt => st _ kt) ?_
  have E_xs := (E_xs.wr W4)
  have F_value_xs := ((F_value_xs.ext E3).other W4 (Or.inr (slot_ne (Or.inr (oW hw 16 rfl)) (Or.inr (oW hw 17 rfl)) (by decide) (t := (.array .byte)) (t' := .byte) (by decide) (by decide))))
  have V_lt1b := (((V_lt1b.other W2 (Ne.symm ne_xs_lt1b)).ext E3).other W4 (Ne.symm ne_xs_lt1b))
  exact oRetHV X hx hlk hZ (oELw hw) e0 B hret (hb hby d2_26) (by rw [e0]; exact ⟨lt1b, lt1k, rfl, K, E_xs, F_coder_xs, F_value_xs, V_lt1b⟩) (by decide) (by decide)
def Q_rI1_0 (Z : State) (xs xa : Addr) (xk : ClassId) (xu xv : Value) (h0 : Heap) (v : Option Value) (h : Heap) (L : List Loc) : Prop := ∃ (nb : Addr) (nk : ClassId), v = none ∧ oKp h0 h [xs] L ∧ (Exa Z h xs Y0) ∧ (Fld Z h xs Y0 "coder" "B" (.int (0 : Int32))) ∧ (Fld Z h xs Y0 "value" "[B" (.ref nb)) ∧ (Arv Z h nb nk .byte (0 : Int32) [] (.int (0 : Int32)))
theorem rI1_0 (l : Launch) (Z : State) (a0 : Array Value) (hw : oHW a0 Z) (ws : List Jvm.Cond) (xs xa : Addr) (xk : ClassId) (xu xv : Value) (h0 : Heap) (O0 : Ext Z.heap h0) (og_xs : Z.heap.size ≤ xs) (E_xs : Exa Z h0 xs Y0) (F_value_xs : Fld Z h0 xs Y0 "value" "[B" xu) (F_coder_xs : Fld Z h0 xs Y0 "coder" "B" xv) (V_xa : Arv Z h0 xa xk .char (0 : Int32) [] (.int (0 : Int32))) :
    oConH l Z oEL yy59 b33_ 2 none ws ({ frames := 2, cells := 4, slots := 8, locals := 29 } : Room) #[(.ref xs), (.ref xa)] h0 [xs] (Q_rI1_0 Z xs xa xk xu xv h0) := by
  refine oConH.of (plainFor_of_name pn_0) ?_
  intro p e s m below meth c T vm X hx hby hml hown hnm hret hlk hZ e0 B hsf
  have sf_xs := hsf xs (List.mem_of_getElem? (i := 0) rfl)
  have hml : c.maxLocals = 2 := hml
  have K : oKp h0 h0 [xs] [] := oKp.nil _ _
  refine oWk.cast (g' := (mkF m 0 #[rv xs, rv xa] [])) (by first | rfl | (simp [entryFrame, mkF, argsToLocals, Value.category]; done)) ?_
  refine oWk.st (fun _ kt => zA X hx hby d1_0 rfl rfl rfl (zA X hx hby d1_1 rfl rfl rfl (zK X hx hby d1_2 rfl (zA X hx hby d1_3 rfl rfl rfl (oAl X hx hZ e0 V_xa hby d1_4 rfl rfl (XS.aconstNull X.here hx rfl (hb hby d1_5) kt)))))) ?_
  have Oh := K.old O0 (allS og_xs all0)
  obtain ⟨_, _, ⟨T, L3, k3, n3⟩, -, X, hS, hgr, ⟨Lc3, hQ, l3, y3, z3, C⟩, st⟩ := X.specialBackS hx (y := yy58) rfl hown (mvT hZ (oW hw 7 rfl)) (mvT hZ (oW hw 8 rfl)) (mvT hZ (oW hw 10 rfl)) (by decide) (oBackH (W := 0) (rI4_0 l Z a0 hw [] xs xa xu xv h0 Oh og_xs E_xs F_value_xs F_coder_xs) hZ (oW hw 10 rfl) (oW hw 2 rfl) (by decide) (by decide) (oELw hw) B.2.1 (allS ⟨E_xs.lt, sf_xs⟩ all0)) (g := (mkF m 6 #[rv xs, rv xa] [.null, (.int 0), (.int 0), (.ref xa), (.ref xs)])) rfl (by rw [hml]; rfl) (Steps.refl _) (a := xs) (argsL := [(.ref xa), (.int (0 : Int32)), (.int (0 : Int32)), .null]) (rest := []) (lenOf pd_31 rfl) rfl (Nat.le_of_eq rfl) (hb hby d1_6) (fun _ _ => ⟨rfl, e0, (by decide : 0 + 4 ≤ _), (by decide : 0 + 8 ≤ _)⟩)
  dsimp only [Pt.U, Pt.locs, Pt.cells, Pt.slots] at X l3 y3 z3 st hQ C hS hgr
  subst l3 y3 z3
  have X : Stand p l e _ (s.setVm T.vm) m _ below meth c T _ _ _ := X
  obtain ⟨h, e2⟩ : ∃ z, T.heap = z := ⟨_, rfl⟩
  have B := B.call e0 hS hgr C e2
  obtain ⟨hZ, hown⟩ := oWide hZ hown hS
  rw [e2] at hQ C
  have sf_xs := C.safe E_xs.lt sf_xs
  have e0 := e2
  obtain ⟨nb2, nk2, rfl, K2, E_xs, F_coder_xs, F_value_xs, V_nb2⟩ := hQ
  have K := K.call K2 (allS (Or.inl (List.mem_of_getElem? (i := 0) rfl)) all0)
  refine oWk.to (mkF m 9 #[rv xs, rv xa] []) (fun _ kt => st.trans kt) ?_
  exact oRetHV X hx hlk hZ (oELw hw) e0 B hret (hb hby d1_9) (by rw [e0]; exact ⟨nb2, nk2, rfl, K, E_xs, F_coder_xs, F_value_xs, V_nb2⟩) (by decide) (by decide)
def Q_rC5U_2_0 (Z : State) (xa xd : Addr) (xk xl : ClassId) (xc0 xc1 : Int32) (h0 : Heap) (v : Option Value) (h : Heap) (L : List Loc) : Prop := v = some (.int (0 : Int32)) ∧ oKp h0 h [xd] L
theorem d9_23 : decode b12_ 23 = .ok (.iload 5, 2) := by decide +kernel
theorem d9_25 : decode b12_ 25 = .ok (.ireturn, 1) := by decide +kernel
theorem rC5U_2_0 (l : Launch) (Z : State) (a0 : Array Value) (hw : oHW a0 Z) (ws : List Jvm.Cond) (xa xd : Addr) (xk xl : ClassId) (xc0 xc1 : Int32) (h0 : Heap) (O0 : Ext Z.heap h0) (og_xd : Z.heap.size ≤ xd) (ne_xa_xd : xa ≠ xd) (V_xa : Arv Z h0 xa xk .char (2 : Int32) [(.int xc0), (.int xc1)] (.int (0 : Int32))) (V_xd : Arv Z h0 xd xl .byte (2 : Int32) [(.int (0 : Int32)), (.int (0 : Int32))] (.int (0 : Int32))) (hgt : (255 : Int32) < xc0) :
    oCon l Z yy55 b12_ 7 (some .int) ws ({ frames := 0, cells := 0, slots := 0, locals := 0 } : Room) #[(.ref xa), (.int (0 : Int32)), (.ref xd), (.int (0 : Int32)), (.int (2 : Int32))] h0 (Q_rC5U_2_0 Z xa xd xk xl xc0 xc1 h0) := by
  refine oCon.of (plainFor_of_name pn_6) ?_
  intro p e s m below meth c T X hx hby hml hown hnm hret hlk hZ e0
  have hml : c.maxLocals = 7 := hml
  have K : oKp h0 h0 [xd] [] := oKp.nil _ _
  refine oWk.cast (g' := (mkF m 0 #[rv xa, iv 0, rv xd, iv 0, iv 2, uu, uu] [])) (by first | rfl | (simp [entryFrame, mkF, argsToLocals, Value.category]; done)) ?_
  refine oWk.to (mkF m 12 #[rv xa, iv 0, rv xd, iv 0, iv 2, iv 0, uu] [(.int 0), (.ref xa)]) (fun _ kt => zK X hx hby d9_0 rfl (zS X hx hby d9_1 rfl rfl (l' := #[rv xa, iv 0, rv xd, iv 0, iv 2, iv 0, uu]) rfl (zJ X hx hby d9_3 rfl rfl (zJ X hx hby d9_5 rfl rfl (zN X hx hby d9_7 rfl rfl (tlt (by decide)).2.1 (zA X hx hby d9_10 rfl rfl rfl (zI X hx hby d9_11 rfl rfl kt))))))) ?_
  refine oWk.to (mkF m 20 #[rv xa, iv 0, rv xd, iv 0, iv 2, iv 0, iv xc0] [(.int 255), (.int xc0)]) (fun _ kt => oLdC X hx hZ e0 V_xa (0 : Int32) (.int xc0) ⟨by decide, by decide⟩ rfl hby d9_12 rfl rfl (zS X hx hby d9_13 rfl rfl (l' := #[rv xa, iv 0, rv xd, iv 0, iv 2, iv 0, iv xc0]) rfl (zJ X hx hby d9_15 rfl rfl (zM X hx hby d9_17 rfl kt)))) ?_
  refine oWk.to (mkF m 25 #[rv xa, iv 0, rv xd, iv 0, iv 2, iv 0, iv xc0] [(.int 0)]) (fun _ kt => zN X hx hby d9_20 rfl rfl (tlt hgt).2.2.2 (zJ X hx hby d9_23 rfl rfl kt)) ?_
  exact oRetI X hx hlk hret (hb hby d9_25) (by rw [e0]; exact ⟨rfl, K⟩) (by decide) (by decide)
def Q_rC5U_2_1 (Z : State) (xa xd : Addr) (xk xl : ClassId) (xc0 xc1 : Int32) (h0 : Heap) (v : Option Value) (h : Heap) (L : List Loc) : Prop := v = some (.int (1 : Int32)) ∧ oKp h0 h [xd] L
theorem rC5U_2_1 (l : Launch) (Z : State) (a0 : Array Value) (hw : oHW a0 Z) (ws : List Jvm.Cond) (xa xd : Addr) (xk xl : ClassId) (xc0 xc1 : Int32) (h0 : Heap) (O0 : Ext Z.heap h0) (og_xd : Z.heap.size ≤ xd) (ne_xa_xd : xa ≠ xd) (V_xa : Arv Z h0 xa xk .char (2 : Int32) [(.int xc0), (.int xc1)] (.int (0 : Int32))) (V_xd : Arv Z h0 xd xl .byte (2 : Int32) [(.int (0 : Int32)), (.int (0 : Int32))] (.int (0 : Int32))) (hle0 : ¬ (255 : Int32) < xc0) (hgt : (255 : Int32) < xc1) :
    oCon l Z yy55 b12_ 7 (some .int) ws ({ frames := 0, cells := 0, slots := 0, locals := 0 } : Room) #[(.ref xa), (.int (0 : Int32)), (.ref xd), (.int (0 : Int32)), (.int (2 : Int32))] h0 (Q_rC5U_2_1 Z xa xd xk xl xc0 xc1 h0) := by
  refine oCon.of (plainFor_of_name pn_6) ?_
  intro p e s m below meth c T X hx hby hml hown hnm hret hlk hZ e0
  have hml : c.maxLocals = 7 := hml
  have K : oKp h0 h0 [xd] [] := oKp.nil _ _
  refine oWk.cast (g' := (mkF m 0 #[rv xa, iv 0, rv xd, iv 0, iv 2, uu, uu] [])) (by first | rfl | (simp [entryFrame, mkF, argsToLocals, Value.category]; done)) ?_
  refine oWk.to (mkF m 12 #[rv xa, iv 0, rv xd, iv 0, iv 2, iv 0, uu] [(.int 0), (.ref xa)]) (fun _ kt => zK X hx hby d9_0 rfl (zS X hx hby d9_1 rfl rfl (l' := #[rv xa, iv 0, rv xd, iv 0, iv 2, iv 0, uu]) rfl (zJ X hx hby d9_3 rfl rfl (zJ X hx hby d9_5 rfl rfl (zN X hx hby d9_7 rfl rfl (tlt (by decide)).2.1 (zA X hx hby d9_10 rfl rfl rfl (zI X hx hby d9_11 rfl rfl kt))))))) ?_
  refine oWk.to (mkF m 20 #[rv xa, iv 0, rv xd, iv 0, iv 2, iv 0, iv xc0] [(.int 255), (.int xc0)]) (fun _ kt => oLdC X hx hZ e0 V_xa (0 : Int32) (.int xc0) ⟨by decide, by decide⟩ rfl hby d9_12 rfl rfl (zS X hx hby d9_13 rfl rfl (l' := #[rv xa, iv 0, rv xd, iv 0, iv 2, iv 0, iv xc0]) rfl (zJ X hx hby d9_15 rfl rfl (zM X hx hby d9_17 rfl kt)))) ?_
  refine oWk.to (mkF m 31 #[rv xa, iv 0, rv xd, iv 0, iv 2, iv 0, iv xc0] [(ib xc0), (.int 0), (.ref xd)]) (fun _ kt => zY X hx hby d9_20 rfl rfl (flt hle0).2.2.2 (pc' := 26) rfl (zA X hx hby d9_26 rfl rfl rfl (zI X hx hby d9_27 rfl rfl (zJ X hx hby d9_28 rfl rfl (XS.i2b X.here hx rfl (hb hby d9_30) rfl kt))))) ?_
  obtain ⟨cl2, Ar2, q2, Sz2, Nn2, Hs2, Ft2⟩ := id V_xd
  have hin2 : ¬ ((0 : Int32) < 0 ∨ cl2.slots.size ≤ ((0 : Int32)).toNatClampNeg) := inb_of Sz2 ⟨by decide, by decide⟩
  obtain ⟨T, h, X, e0, W2, st⟩ := stB X hx hZ e0 Ar2 (j := (0 : Int32)) hin2 (g := (mkF m 31 #[rv xa, iv 0, rv xd, iv 0, iv 2, iv 0, iv xc0] [(ib xc0), (.int 0), (.ref xd)])) rfl rfl (hb hby d9_31)
  have K := K.wr W2 (Or.inl (List.mem_of_getElem? (i := 0) rfl))
  have V_xd := Arv.set Ar2 q2 Sz2 Nn2 Hs2 Ft2 (fits_nar_byte _) W2 0 rfl (Nat.le_of_ble_eq_true rfl)
  rw [oB8 xc0] at V_xd
  replace V_xd : Arv Z h xd xl .byte (2 : Int32) [(ib xc0), (.int (0 : Int32))] (.int (0 : Int32)) := V_xd
  refine oWk.to (mkF m 7 #[rv xa, iv 1, rv xd, iv 1, iv 2, iv 1, iv xc0] [(.int 2), (.int 1)]) (fun _ kt => st _ (zC X hx hby d9_32 rfl rfl (l' := #[rv xa, iv ((0 : Int32) + (1 : Int32)), rv xd, iv 0, iv 2, iv 0, iv xc0]) rfl (zC X hx hby d9_35 rfl rfl (l' := #[rv xa, iv 1, rv xd, iv ((0 : Int32) + (1 : Int32)), iv 2, iv 0, iv xc0]) rfl (zC X hx hby d9_38 rfl rfl (l' := #[rv xa, iv 1, rv xd, iv 1, iv 2, iv ((0 : Int32) + (1 : Int32)), iv xc0]) rfl (zG X hx hby d9_41 rfl (pc' := 3) rfl (zJ X hx hby d9_3 rfl rfl (zJ X hx hby d9_5 rfl rfl kt))))))) ?_
  refine oWk.st (fun _ kt => zN X hx hby d9_7 rfl rfl (tlt (by decide)).2.1 (zA X hx hby d9_10 rfl rfl rfl (zI X hx hby d9_11 rfl rfl kt))) ?_
  have V_xa := (V_xa.other W2 ne_xa_xd)
  refine oWk.to (mkF m 20 #[rv xa, iv 1, rv xd, iv 1, iv 2, iv 1, iv xc1] [(.int 255), (.int xc1)]) (fun _ kt => oLdC X hx hZ e0 V_xa (1 : Int32) (.int xc1) ⟨by decide, by decide⟩ rfl hby d9_12 rfl rfl (zS X hx hby d9_13 rfl rfl (l' := #[rv xa, iv 1, rv xd, iv 1, iv 2, iv 1, iv xc1]) rfl (zJ X hx hby d9_15 rfl rfl (zM X hx hby d9_17 rfl kt)))) ?_
  refine oWk.to (mkF m 25 #[rv xa, iv 1, rv xd, iv 1, iv 2, iv 1, iv xc1] [(.int 1)]) (fun _ kt => zN X hx hby d9_20 rfl rfl (tlt hgt).2.2.2 (zJ X hx hby d9_23 rfl rfl kt)) ?_
  exact oRetI X hx hlk hret (hb hby d9_25) (by rw [e0]; exact ⟨rfl, K⟩) (by decide) (by decide)
abbrev yy60 : MethodName := ⟨"java/lang/StringUTF16", "newBytesLength", "(I)I"⟩
theorem d13_0 : decode b38_ 0 = .ok (.iload_n 0, 1) := by decide +kernel
theorem d13_1 : decode b38_ 1 = .ok (.ifCond .ge 11, 3) := by decide +kernel
theorem d13_12 : decode b38_ 12 = .ok (.iload_n 0, 1) := by decide +kernel
theorem d13_13 : decode b38_ 13 = .ok (.ldc 20, 2) := by decide +kernel
theorem d13_15 : decode b38_ 15 = .ok (.if_icmp .lt 40, 3) := by decide +kernel
theorem d13_55 : decode b38_ 55 = .ok (.iload_n 0, 1) := by decide +kernel
theorem d13_56 : decode b38_ 56 = .ok (.iconst 1, 1) := by decide +kernel
theorem d13_57 : decode b38_ 57 = .ok (.ishl, 1) := by decide +kernel
theorem d13_58 : decode b38_ 58 = .ok (.ireturn, 1) := by decide +kernel
theorem rNBL_2 (l : Launch) (Z : State) (a0 : Array Value) (hw : oHW a0 Z) (ws : List Jvm.Cond)  (h0 : Heap) (O0 : Ext Z.heap h0)  :
    oCon l Z yy60 b38_ 1 (some .int) ws ({ frames := 0, cells := 0, slots := 0, locals := 0 } : Room) #[(.int (2 : Int32))] h0 (oPq (some (.int (4 : Int32))) h0) := by
  refine oCon.of (plainFor_of_name pn_6) ?_
  intro p e s m below meth c T X hx hby hml hown hnm hret hlk hZ e0
  have hml : c.maxLocals = 1 := hml
  have K : oKp h0 h0 [] [] := oKp.nil _ _
  refine oWk.cast (g' := (mkF m 0 #[iv 2] [])) (by first | rfl | (simp [entryFrame, mkF, argsToLocals, Value.category]; done)) ?_
  refine oWk.st (fun _ kt => zI X hx hby d13_0 rfl rfl (zF X hx hby d13_1 rfl rfl ((if0 _ _).trans (flt (by decide)).2.1) (pc' := 12) rfl (zI X hx hby d13_12 rfl rfl kt))) ?_
  refine oWk.to (mkF m 58 #[iv 2] [(.int 4)]) (fun _ kt => X.ldcI hx hown (mvT hZ (oW hw 58 rfl)) rfl (hb hby d13_13) (zY X hx hby d13_15 rfl rfl (tlt (by decide)).1 (pc' := 55) rfl (zI X hx hby d13_55 rfl rfl (zK X hx hby d13_56 rfl (XS.ishl X.here hx rfl (hb hby d13_57) rfl kt))))) ?_
  exact oRetI X hx hlk hret (hb hby d13_58) (by rw [e0]; exact ⟨rfl, rfl, K⟩) (by decide) (by decide)
def Q_rNBF_2 (Z : State)  (h0 : Heap) (v : Option Value) (h : Heap) (L : List Loc) : Prop := ∃ (nb : Addr) (nk : ClassId), v = some (.ref nb) ∧ oKp h0 h [] L ∧ (h0.size ≤ nb) ∧ (Arv Z h nb nk .byte (4 : Int32) [(.int (0 : Int32)), (.int (0 : Int32)), (.int (0 : Int32)), (.int (0 : Int32))] (.int (0 : Int32)))
abbrev yy61 : MethodName := ⟨"java/lang/StringUTF16", "newBytesFor", "(I)[B"⟩
theorem d12_0 : decode b61_ 0 = .ok (.iload_n 0, 1) := by decide +kernel
theorem d12_1 : decode b61_ 1 = .ok (.invokestatic 11, 3) := by decide +kernel
theorem cs52 {a0 : Array Value} {Z : State} (hw : oHW a0 Z) : oCall Z Y4 (.invokestatic 11) yy60 b38_ 1 (some .int) (oRs 1) := oCall.stat (oW hw 55 rfl) (oW hw 56 rfl) (oW hw 39 rfl) (oW hw 57 rfl) (by decide) pd_27
theorem d12_4 : decode b61_ 4 = .ok (.newarray .byte, 2) := by decide +kernel
theorem d12_6 : decode b61_ 6 = .ok (.areturn, 1) := by decide +kernel
theorem rNBF_2 (l : Launch) (Z : State) (a0 : Array Value) (hw : oHW a0 Z) (ws : List Jvm.Cond)  (h0 : Heap) (O0 : Ext Z.heap h0)  :
    oCon l Z yy61 b61_ 1 (some (.array .byte)) ws ({ frames := 1, cells := 1, slots := 4, locals := 12 } : Room) #[(.int (2 : Int32))] h0 (Q_rNBF_2 Z  h0) := by
  refine oCon.of (plainFor_of_name pn_6) ?_
  intro p e s m below meth c T X hx hby hml hown hnm hret hlk hZ e0
  have hml : c.maxLocals = 1 := hml
  have K : oKp h0 h0 [] [] := oKp.nil _ _
  refine oWk.cast (g' := (mkF m 0 #[iv 2] [])) (by first | rfl | (simp [entryFrame, mkF, argsToLocals, Value.category]; done)) ?_
  refine oWk.st (fun _ kt => zI X hx hby d12_0 rfl rfl kt) ?_
  have Oh := K.old O0 all0
  obtain ⟨T, L2, X, e0, K, st⟩ := (cs52 hw).pure X hx hZ hown e0 K (A := [(.int (2 : Int32))]) rfl (rNBL_2 l Z a0 hw []  h0 Oh ) (W := 0) (by decide) hml (Ls := #[iv 2]) rfl (rest := []) rfl rfl hby d12_1
  refine oWk.st (fun _ kt => st _ kt) ?_
  obtain ⟨o3, g3⟩ : ∃ z, z = h0.size := ⟨_, rfl⟩
  have ge_o3 : h0.size ≤ o3 := Nat.le_trans K.le (Nat.le_of_eq g3.symm)
  obtain ⟨T, h, k3, X, e0, E3, A3, st⟩ := newP X hx hZ (oW hw 15 rfl) e0 (g := (mkF m 4 #[iv 2] [(.int 4)])) rfl (hb hby d12_4) rfl (by decide) (cap := 4) (by decide) (by decide) (by decide) (by decide)
  rw [← g3] at A3 st
  have K := K.ext E3
  have V_o3 : Arv Z h o3 k3 .byte (4 : Int32) [(.int (0 : Int32)), (.int (0 : Int32)), (.int (0 : Int32)), (.int (0 : Int32))] (.int (0 : Int32)) := (Arv.new A3 (by decide)).pad (pad_rep [] (.int (0 : Int32)) 4)
  refine oWk.to (mkF m 6 #[iv 2] [(.ref o3)]) (fun _ kt => st _ kt) ?_
  exact oRetA X hx hlk hret rfl rfl (hb hby d12_6) (by rw [e0]; exact ⟨o3, k3, rfl, K, ge_o3, V_o3⟩) (by decide) (by decide)
def Q_rPut_2_0 (Z : State) (xb : Addr) (xk : ClassId) (xp xy0 xy1 xy2 xy3 : Int32) (h0 : Heap) (v : Option Value) (h : Heap) (L : List Loc) : Prop := v = none ∧ oKp h0 h [xb] L ∧ (Arv Z h xb xk .byte (4 : Int32) [(iu0 xp), (iu8 xp), (.int xy2), (.int xy3)] (.int (0 : Int32)))
abbrev yy62 : MethodName := ⟨"java/lang/StringUTF16", "putChar", "([BII)V"⟩
theorem d14_0 : decode b14_ 0 = .ok (.getstatic 44, 3) := by decide +kernel
theorem d14_3 : decode b14_ 3 = .ok (.ifCond .ne 25, 3) := by decide +kernel
theorem d14_28 : decode b14_ 28 = .ok (.iload_n 1, 1) := by decide +kernel
theorem d14_29 : decode b14_ 29 = .ok (.iconst 1, 1) := by decide +kernel
theorem d14_30 : decode b14_ 30 = .ok (.ishl, 1) := by decide +kernel
theorem d14_31 : decode b14_ 31 = .ok (.istore_n 1, 1) := by decide +kernel
theorem d14_32 : decode b14_ 32 = .ok (.aload_n 0, 1) := by decide +kernel
theorem d14_33 : decode b14_ 33 = .ok (.iload_n 1, 1) := by decide +kernel
theorem d14_34 : decode b14_ 34 = .ok (.iinc 1 1, 3) := by decide +kernel
theorem d14_37 : decode b14_ 37 = .ok (.iload_n 2, 1) := by decide +kernel
theorem d14_38 : decode b14_ 38 = .ok (.getstatic 59, 3) := by decide +kernel
theorem d14_41 : decode b14_ 41 = .ok (.ishr, 1) := by decide +kernel
theorem d14_42 : decode b14_ 42 = .ok (.i2b, 1) := by decide +kernel
theorem d14_43 : decode b14_ 43 = .ok (.bastore, 1) := by decide +kernel
theorem d14_44 : decode b14_ 44 = .ok (.aload_n 0, 1) := by decide +kernel
theorem d14_45 : decode b14_ 45 = .ok (.iload_n 1, 1) := by decide +kernel
theorem d14_46 : decode b14_ 46 = .ok (.iload_n 2, 1) := by decide +kernel
theorem d14_47 : decode b14_ 47 = .ok (.getstatic 63, 3) := by decide +kernel
theorem d14_50 : decode b14_ 50 = .ok (.ishr, 1) := by decide +kernel
theorem d14_51 : decode b14_ 51 = .ok (.i2b, 1) := by decide +kernel
theorem d14_52 : decode b14_ 52 = .ok (.bastore, 1) := by decide +kernel
theorem d14_53 : decode b14_ 53 = .ok (.return_, 1) := by decide +kernel
theorem rPut_2_0 (l : Launch) (Z : State) (a0 : Array Value) (hw : oHW a0 Z) (ws : List Jvm.Cond) (xb : Addr) (xk : ClassId) (xp xy0 xy1 xy2 xy3 : Int32) (h0 : Heap) (O0 : Ext Z.heap h0) (S_A : Sta Z Z.heap Y4 Y10 "Z" (.int (1 : Int32))) (S_H : Sta Z Z.heap Y4 "HI_BYTE_SHIFT" "I" (.int (0 : Int32))) (S_L : Sta Z Z.heap Y4 "LO_BYTE_SHIFT" "I" (.int (8 : Int32))) (og_xb : Z.heap.size ≤ xb) (V_xb : Arv Z h0 xb xk .byte (4 : Int32) [(.int xy0), (.int xy1), (.int xy2), (.int xy3)] (.int (0 : Int32))) :
    oCon l Z yy62 b14_ 3 none ws ({ frames := 0, cells := 0, slots := 0, locals := 0 } : Room) #[(.ref xb), (.int (0 : Int32)), (.int xp)] h0 (Q_rPut_2_0 Z xb xk xp xy0 xy1 xy2 xy3 h0) := by
  refine oCon.of (plainFor_of_name pn_6) ?_
  intro p e s m below meth c T X hx hby hml hown hnm hret hlk hZ e0
  have hml : c.maxLocals = 3 := hml
  have K : oKp h0 h0 [xb] [] := oKp.nil _ _
  refine oWk.cast (g' := (mkF m 0 #[rv xb, iv 0, iv xp] [])) (by first | rfl | (simp [entryFrame, mkF, argsToLocals, Value.category]; done)) ?_
  have Oh := K.old O0 (allS og_xb all0)
  obtain ⟨T, X, e0, st⟩ := getS2 X hx hZ hown (host := "") (Or.inl (oW hw 62 rfl)) Via.refl e0 (S_A.ext Oh) (g := (mkF m 0 #[rv xb, iv 0, iv xp] [])) rfl (hb hby d14_0)
  refine oWk.to (mkF m 33 #[rv xb, iv 0, iv xp] [(.ref xb)]) (fun _ kt => st _ (zF X hx hby d14_3 rfl rfl ((if0 _ _).trans (feq (by decide)).2) (pc' := 28) rfl (zI X hx hby d14_28 rfl rfl (zK X hx hby d14_29 rfl (XS.ishl X.here hx rfl (hb hby d14_30) rfl (zSn X hx hby d14_31 rfl rfl (l' := #[rv xb, iv 0, iv xp]) rfl (zA X hx hby d14_32 rfl rfl rfl kt))))))) ?_
  refine oWk.st (fun _ kt => zI X hx hby d14_33 rfl rfl (zC X hx hby d14_34 rfl rfl (l' := #[rv xb, iv ((0 : Int32) + (1 : Int32)), iv xp]) rfl (zI X hx hby d14_37 rfl rfl kt))) ?_
  obtain ⟨T, X, e0, st⟩ := getS2 X hx hZ hown (host := "") (Or.inl (oW hw 63 rfl)) Via.refl e0 (S_H.ext Oh) (g := (mkF m 38 #[rv xb, iv 1, iv xp] [(.int xp), (.int 0), (.ref xb)])) rfl (hb hby d14_38)
  refine oWk.st (fun _ kt => st _ (XS.ishr X.here hx rfl (hb hby d14_41) rfl (XS.i2b X.here hx rfl (hb hby d14_42) rfl kt))) ?_
  obtain ⟨cl1, Ar1, q1, Sz1, Nn1, Hs1, Ft1⟩ := id V_xb
  have hin1 : ¬ ((0 : Int32) < 0 ∨ cl1.slots.size ≤ ((0 : Int32)).toNatClampNeg) := inb_of Sz1 ⟨by decide, by decide⟩
  obtain ⟨T, h, X, e0, W1, st⟩ := stB X hx hZ e0 Ar1 (j := (0 : Int32)) hin1 (g := (mkF m 43 #[rv xb, iv 1, iv xp] [(iu0 xp), (.int 0), (.ref xb)])) rfl rfl (hb hby d14_43)
  have K := K.wr W1 (Or.inl (List.mem_of_getElem? (i := 0) rfl))
  have V_xb := Arv.set Ar1 q1 Sz1 Nn1 Hs1 Ft1 (fits_nar_byte _) W1 0 rfl (Nat.le_of_ble_eq_true rfl)
  rw [oB8 (xp >>> ((0 : Int32) &&& 31))] at V_xb
  replace V_xb : Arv Z h xb xk .byte (4 : Int32) [(iu0 xp), (.int xy1), (.int xy2), (.int xy3)] (.int (0 : Int32)) := V_xb
  refine oWk.st (fun _ kt => st _ (zA X hx hby d14_44 rfl rfl rfl (zI X hx hby d14_45 rfl rfl (zI X hx hby d14_46 rfl rfl kt)))) ?_
  have Oh := K.old O0 (allS og_xb all0)
  obtain ⟨T, X, e0, st⟩ := getS2 X hx hZ hown (host := "") (Or.inl (oW hw 64 rfl)) Via.refl e0 (S_L.ext Oh) (g := (mkF m 47 #[rv xb, iv 1, iv xp] [(.int xp), (.int 1), (.ref xb)])) rfl (hb hby d14_47)
  refine oWk.st (fun _ kt => st _ (XS.ishr X.here hx rfl (hb hby d14_50) rfl (XS.i2b X.here hx rfl (hb hby d14_51) rfl kt))) ?_
  obtain ⟨cl2, Ar2, q2, Sz2, Nn2, Hs2, Ft2⟩ := id V_xb
  have hin2 : ¬ ((1 : Int32) < 0 ∨ cl2.slots.size ≤ ((1 : Int32)).toNatClampNeg) := inb_of Sz2 ⟨by decide, by decide⟩
  obtain ⟨T, h, X, e0, W2, st⟩ := stB X hx hZ e0 Ar2 (j := (1 : Int32)) hin2 (g := (mkF m 52 #[rv xb, iv 1, iv xp] [(iu8 xp), (.int 1), (.ref xb)])) rfl rfl (hb hby d14_52)
  have K := K.wr W2 (Or.inl (List.mem_of_getElem? (i := 0) rfl))
  have V_xb := Arv.set Ar2 q2 Sz2 Nn2 Hs2 Ft2 (fits_nar_byte _) W2 1 rfl (Nat.le_of_ble_eq_true rfl)
  rw [oB8 (xp >>> ((8 : Int32) &&& 31))] at V_xb
  replace V_xb : Arv Z h xb xk .byte (4 : Int32) [(iu0 xp), (iu8 xp), (.int xy2), (.int xy3)] (.int (0 : Int32)) := V_xb
  refine oWk.to (mkF m 53 #[rv xb, iv 1, iv xp] []) (fun _ kt => st _ kt) ?_
  exact oRetV X hx hlk hret (hb hby d14_53) (by rw [e0]; exact ⟨rfl, K, V_xb⟩) (by decide) (by decide)
def Q_rPut_2_1 (Z : State) (xb : Addr) (xk : ClassId) (xp xy0 xy1 xy2 xy3 : Int32) (h0 : Heap) (v : Option Value) (h : Heap) (L : List Loc) : Prop := v = none ∧ oKp h0 h [xb] L ∧ (Arv Z h xb xk .byte (4 : Int32) [(.int xy0), (.int xy1), (iu0 xp), (iu8 xp)] (.int (0 : Int32)))
theorem rPut_2_1 (l : Launch) (Z : State) (a0 : Array Value) (hw : oHW a0 Z) (ws : List Jvm.Cond) (xb : Addr) (xk : ClassId) (xp xy0 xy1 xy2 xy3 : Int32) (h0 : Heap) (O0 : Ext Z.heap h0) (S_A : Sta Z Z.heap Y4 Y10 "Z" (.int (1 : Int32))) (S_H : Sta Z Z.heap Y4 "HI_BYTE_SHIFT" "I" (.int (0 : Int32))) (S_L : Sta Z Z.heap Y4 "LO_BYTE_SHIFT" "I" (.int (8 : Int32))) (og_xb : Z.heap.size ≤ xb) (V_xb : Arv Z h0 xb xk .byte (4 : Int32) [(.int xy0), (.int xy1), (.int xy2), (.int xy3)] (.int (0 : Int32))) :
    oCon l Z yy62 b14_ 3 none ws ({ frames := 0, cells := 0, slots := 0, locals := 0 } : Room) #[(.ref xb), (.int (1 : Int32)), (.int xp)] h0 (Q_rPut_2_1 Z xb xk xp xy0 xy1 xy2 xy3 h0) := by
  refine oCon.of (plainFor_of_name pn_6) ?_
  intro p e s m below meth c T X hx hby hml hown hnm hret hlk hZ e0
  have hml : c.maxLocals = 3 := hml
  have K : oKp h0 h0 [xb] [] := oKp.nil _ _
  refine oWk.cast (g' := (mkF m 0 #[rv xb, iv 1, iv xp] [])) (by first | rfl | (simp [entryFrame, mkF, argsToLocals, Value.category]; done)) ?_
  have Oh := K.old O0 (allS og_xb all0)
  obtain ⟨T, X, e0, st⟩ := getS2 X hx hZ hown (host := "") (Or.inl (oW hw 62 rfl)) Via.refl e0 (S_A.ext Oh) (g := (mkF m 0 #[rv xb, iv 1, iv xp] [])) rfl (hb hby d14_0)
  refine oWk.to (mkF m 33 #[rv xb, iv 2, iv xp] [(.ref xb)]) (fun _ kt => st _ (zF X hx hby d14_3 rfl rfl ((if0 _ _).trans (feq (by decide)).2) (pc' := 28) rfl (zI X hx hby d14_28 rfl rfl (zK X hx hby d14_29 rfl (XS.ishl X.here hx rfl (hb hby d14_30) rfl (zSn X hx hby d14_31 rfl rfl (l' := #[rv xb, iv 2, iv xp]) rfl (zA X hx hby d14_32 rfl rfl rfl kt))))))) ?_
  refine oWk.st (fun _ kt => zI X hx hby d14_33 rfl rfl (zC X hx hby d14_34 rfl rfl (l' := #[rv xb, iv ((2 : Int32) + (1 : Int32)), iv xp]) rfl (zI X hx hby d14_37 rfl rfl kt))) ?_
  obtain ⟨T, X, e0, st⟩ := getS2 X hx hZ hown (host := "") (Or.inl (oW hw 63 rfl)) Via.refl e0 (S_H.ext Oh) (g := (mkF m 38 #[rv xb, iv 3, iv xp] [(.int xp), (.int 2), (.ref xb)])) rfl (hb hby d14_38)
  refine oWk.st (fun _ kt => st _ (XS.ishr X.here hx rfl (hb hby d14_41) rfl (XS.i2b X.here hx rfl (hb hby d14_42) rfl kt))) ?_
  obtain ⟨cl1, Ar1, q1, Sz1, Nn1, Hs1, Ft1⟩ := id V_xb
  have hin1 : ¬ ((2 : Int32) < 0 ∨ cl1.slots.size ≤ ((2 : Int32)).toNatClampNeg) := inb_of Sz1 ⟨by decide, by decide⟩
  obtain ⟨T, h, X, e0, W1, st⟩ := stB X hx hZ e0 Ar1 (j := (2 : Int32)) hin1 (g := (mkF m 43 #[rv xb, iv 3, iv xp] [(iu0 xp), (.int 2), (.ref xb)])) rfl rfl (hb hby d14_43)
  have K := K.wr W1 (Or.inl (List.mem_of_getElem? (i := 0) rfl))
  have V_xb := Arv.set Ar1 q1 Sz1 Nn1 Hs1 Ft1 (fits_nar_byte _) W1 2 rfl (Nat.le_of_ble_eq_true rfl)
  rw [oB8 (xp >>> ((0 : Int32) &&& 31))] at V_xb
  replace V_xb : Arv Z h xb xk .byte (4 : Int32) [(.int xy0), (.int xy1), (iu0 xp), (.int xy3)] (.int (0 : Int32)) := V_xb
  refine oWk.st (fun _ kt => st _ (zA X hx hby d14_44 rfl rfl rfl (zI X hx hby d14_45 rfl rfl (zI X hx hby d14_46 rfl rfl kt)))) ?_
  have Oh := K.old O0 (allS og_xb all0)
  obtain ⟨T, X, e0, st⟩ := getS2 X hx hZ hown (host := "") (Or.inl (oW hw 64 rfl)) Via.refl e0 (S_L.ext Oh) (g := (mkF m 47 #[rv xb, iv 3, iv xp] [(.int xp), (.int 3), (.ref xb)])) rfl (hb hby d14_47)
  refine oWk.st (fun _ kt => st _ (XS.ishr X.here hx rfl (hb hby d14_50) rfl (XS.i2b X.here hx rfl (hb hby d14_51) rfl kt))) ?_
  obtain ⟨cl2, Ar2, q2, Sz2, Nn2, Hs2, Ft2⟩ := id V_xb
  have hin2 : ¬ ((3 : Int32) < 0 ∨ cl2.slots.size ≤ ((3 : Int32)).toNatClampNeg) := inb_of Sz2 ⟨by decide, by decide⟩
  obtain ⟨T, h, X, e0, W2, st⟩ := stB X hx hZ e0 Ar2 (j := (3 : Int32)) hin2 (g := (mkF m 52 #[rv xb, iv 3, iv xp] [(iu8 xp), (.int 3), (.ref xb)])) rfl rfl (hb hby d14_52)
  have K := K.wr W2 (Or.inl (List.mem_of_getElem? (i := 0) rfl))
  have V_xb := Arv.set Ar2 q2 Sz2 Nn2 Hs2 Ft2 (fits_nar_byte _) W2 3 rfl (Nat.le_of_ble_eq_true rfl)
  rw [oB8 (xp >>> ((8 : Int32) &&& 31))] at V_xb
  replace V_xb : Arv Z h xb xk .byte (4 : Int32) [(.int xy0), (.int xy1), (iu0 xp), (iu8 xp)] (.int (0 : Int32)) := V_xb
  refine oWk.to (mkF m 53 #[rv xb, iv 3, iv xp] []) (fun _ kt => st _ kt) ?_
  exact oRetV X hx hlk hret (hb hby d14_53) (by rw [e0]; exact ⟨rfl, K, V_xb⟩) (by decide) (by decide)
def Q_rTBU_2 (Z : State) (xa : Addr) (xk : ClassId) (xc0 xc1 : Int32) (h0 : Heap) (v : Option Value) (h : Heap) (L : List Loc) : Prop := ∃ (nb : Addr) (nk : ClassId), v = some (.ref nb) ∧ oKp h0 h [] L ∧ (h0.size ≤ nb) ∧ (Arv Z h nb nk .byte (4 : Int32) [(iu0 xc0), (iu8 xc0), (iu0 xc1), (iu8 xc1)] (.int (0 : Int32)))
abbrev yy63 : MethodName := ⟨"java/lang/StringUTF16", "toBytes", "([CII)[B"⟩
theorem d11_0 : decode b16_ 0 = .ok (.iload_n 2, 1) := by decide +kernel
theorem d11_1 : decode b16_ 1 = .ok (.invokestatic 107, 3) := by decide +kernel
theorem pd_32 : parseMethodDescriptor "(I)[B" = some ⟨[.int], some (.array .byte)⟩ := by decide +kernel
theorem cs53 {a0 : Array Value} {Z : State} (hw : oHW a0 Z) : oCall Z Y4 (.invokestatic 107) yy61 b61_ 1 (some (.array .byte)) (oRs 1) := oCall.stat (oW hw 52 rfl) (oW hw 53 rfl) (oW hw 39 rfl) (oW hw 54 rfl) (by decide) pd_32
theorem d11_4 : decode b16_ 4 = .ok (.astore_n 3, 1) := by decide +kernel
theorem d11_5 : decode b16_ 5 = .ok (.iconst 0, 1) := by decide +kernel
theorem d11_6 : decode b16_ 6 = .ok (.istore 4, 2) := by decide +kernel
theorem d11_8 : decode b16_ 8 = .ok (.iload 4, 2) := by decide +kernel
theorem d11_10 : decode b16_ 10 = .ok (.iload_n 2, 1) := by decide +kernel
theorem d11_11 : decode b16_ 11 = .ok (.if_icmp .ge 21, 3) := by decide +kernel
theorem d11_14 : decode b16_ 14 = .ok (.aload_n 3, 1) := by decide +kernel
theorem d11_15 : decode b16_ 15 = .ok (.iload 4, 2) := by decide +kernel
theorem d11_17 : decode b16_ 17 = .ok (.aload_n 0, 1) := by decide +kernel
theorem d11_18 : decode b16_ 18 = .ok (.iload_n 1, 1) := by decide +kernel
theorem d11_19 : decode b16_ 19 = .ok (.caload, 1) := by decide +kernel
theorem d11_20 : decode b16_ 20 = .ok (.invokestatic 111, 3) := by decide +kernel
theorem pd_33 : parseMethodDescriptor "([BII)V" = some ⟨[(.array .byte), .int, .int], none⟩ := by decide +kernel
theorem cs54 {a0 : Array Value} {Z : State} (hw : oHW a0 Z) : oCall Z Y4 (.invokestatic 111) yy62 b14_ 3 none (oRs 3) := oCall.stat (oW hw 59 rfl) (oW hw 60 rfl) (oW hw 39 rfl) (oW hw 61 rfl) (by decide) pd_33
theorem d11_23 : decode b16_ 23 = .ok (.iinc 1 1, 3) := by decide +kernel
theorem d11_26 : decode b16_ 26 = .ok (.iinc 4 1, 3) := by decide +kernel
theorem d11_29 : decode b16_ 29 = .ok (.goto (-21), 3) := by decide +kernel
theorem d11_32 : decode b16_ 32 = .ok (.aload_n 3, 1) := by decide +kernel
theorem d11_33 : decode b16_ 33 = .ok (.areturn, 1) := by decide +kernel
theorem rTBU_2 (l : Launch) (Z : State) (a0 : Array Value) (hw : oHW a0 Z) (ws : List Jvm.Cond) (xa : Addr) (xk : ClassId) (xc0 xc1 : Int32) (h0 : Heap) (O0 : Ext Z.heap h0) (S_A : Sta Z Z.heap Y4 Y10 "Z" (.int (1 : Int32))) (S_H : Sta Z Z.heap Y4 "HI_BYTE_SHIFT" "I" (.int (0 : Int32))) (S_L : Sta Z Z.heap Y4 "LO_BYTE_SHIFT" "I" (.int (8 : Int32))) (V_xa : Arv Z h0 xa xk .char (2 : Int32) [(.int xc0), (.int xc1)] (.int (0 : Int32))) :
    oCon l Z yy63 b16_ 5 (some (.array .byte)) ws ({ frames := 2, cells := 1, slots := 4, locals := 24 } : Room) #[(.ref xa), (.int (0 : Int32)), (.int (2 : Int32))] h0 (Q_rTBU_2 Z xa xk xc0 xc1 h0) := by
  refine oCon.of (plainFor_of_name pn_6) ?_
  intro p e s m below meth c T X hx hby hml hown hnm hret hlk hZ e0
  have hml : c.maxLocals = 5 := hml
  have K : oKp h0 h0 [] [] := oKp.nil _ _
  refine oWk.cast (g' := (mkF m 0 #[rv xa, iv 0, iv 2, uu, uu] [])) (by first | rfl | (simp [entryFrame, mkF, argsToLocals, Value.category]; done)) ?_
  refine oWk.st (fun _ kt => zI X hx hby d11_0 rfl rfl kt) ?_
  have lt_xa := V_xa.lt
  have Oh := K.old O0 all0
  obtain ⟨_, T, h, Lc2, X, e0, hQ, st⟩ := (cs53 hw).run X hx hZ hown e0 (A := [(.int (2 : Int32))]) rfl (rNBF_2 l Z a0 hw []  h0 Oh ) (W := 0) (by decide) hml (Ls := #[rv xa, iv 0, iv 2, uu, uu]) rfl (rest := []) rfl rfl hby d11_1
  obtain ⟨nb1, nk1, rfl, K1, gn_nb1, V_nb1⟩ := hQ
  have ge_nb1 := Nat.le_trans K.le gn_nb1
  have ne_xa_nb1 : xa ≠ nb1 := Nat.ne_of_lt (Nat.lt_of_lt_of_le lt_xa gn_nb1)
  have K := K.call K1 all0
  refine oWk.to (mkF m 14 #[rv xa, iv 0, iv 2, rv nb1, iv 0] []) (fun _ kt => st _ (zTn X hx hby d11_4 rfl rfl rfl (l' := #[rv xa, iv 0, iv 2, rv nb1, uu]) rfl (zK X hx hby d11_5 rfl (zS X hx hby d11_6 rfl rfl (l' := #[rv xa, iv 0, iv 2, rv nb1, iv 0]) rfl (zJ X hx hby d11_8 rfl rfl (zI X hx hby d11_10 rfl rfl (zN X hx hby d11_11 rfl rfl (tlt (by decide)).2.1 kt))))))) ?_
  refine oWk.st (fun _ kt => zA X hx hby d11_14 rfl rfl rfl (zJ X hx hby d11_15 rfl rfl (zA X hx hby d11_17 rfl rfl rfl (zI X hx hby d11_18 rfl rfl kt)))) ?_
  have V_xa := (V_xa.keep K1.1 nin0)
  refine oWk.st (fun _ kt => oLdC X hx hZ e0 V_xa (0 : Int32) (.int xc0) ⟨by decide, by decide⟩ rfl hby d11_19 rfl rfl kt) ?_
  have Oh := K.old O0 all0
  obtain ⟨_, T, h, Lc5, X, e0, hQ, st⟩ := (cs54 hw).run X hx hZ hown e0 (A := [(.ref nb1), (.int (0 : Int32)), (.int xc0)]) rfl (rPut_2_0 l Z a0 hw [] nb1 nk1 xc0 (0 : Int32) (0 : Int32) (0 : Int32) (0 : Int32) h Oh S_A S_H S_L (Nat.le_trans O0.1 ge_nb1) V_nb1) (W := 0) (by decide) hml (Ls := #[rv xa, iv 0, iv 2, rv nb1, iv 0]) rfl (rest := []) rfl rfl hby d11_20
  obtain ⟨rfl, K4, V_nb1⟩ := hQ
  have K := K.call K4 (allS (Or.inr ge_nb1) all0)
  refine oWk.to (mkF m 14 #[rv xa, iv 1, iv 2, rv nb1, iv 1] []) (fun _ kt => st _ (zC X hx hby d11_23 rfl rfl (l' := #[rv xa, iv ((0 : Int32) + (1 : Int32)), iv 2, rv nb1, iv 0]) rfl (zC X hx hby d11_26 rfl rfl (l' := #[rv xa, iv 1, iv 2, rv nb1, iv ((0 : Int32) + (1 : Int32))]) rfl (zG X hx hby d11_29 rfl (pc' := 8) rfl (zJ X hx hby d11_8 rfl rfl (zI X hx hby d11_10 rfl rfl (zN X hx hby d11_11 rfl rfl (tlt (by decide)).2.1 kt))))))) ?_
  refine oWk.st (fun _ kt => zA X hx hby d11_14 rfl rfl rfl (zJ X hx hby d11_15 rfl rfl (zA X hx hby d11_17 rfl rfl rfl (zI X hx hby d11_18 rfl rfl kt)))) ?_
  have V_xa := (V_xa.keep K4.1 (ninS ne_xa_nb1 nin0))
  refine oWk.st (fun _ kt => oLdC X hx hZ e0 V_xa (1 : Int32) (.int xc1) ⟨by decide, by decide⟩ rfl hby d11_19 rfl rfl kt) ?_
  have Oh := K.old O0 all0
  obtain ⟨_, T, h, Lc8, X, e0, hQ, st⟩ := (cs54 hw).run X hx hZ hown e0 (A := [(.ref nb1), (.int (1 : Int32)), (.int xc1)]) rfl (rPut_2_1 l Z a0 hw [] nb1 nk1 xc1 ((xc0 >>> ((0 : Int32) &&& 31)).toInt8.toInt32) ((xc0 >>> ((8 : Int32) &&& 31)).toInt8.toInt32) (0 : Int32) (0 : Int32) h Oh S_A S_H S_L (Nat.le_trans O0.1 ge_nb1) V_nb1) (W := 0) (by decide) hml (Ls := #[rv xa, iv 1, iv 2, rv nb1, iv 1]) rfl (rest := []) rfl rfl hby d11_20
  obtain ⟨rfl, K7, V_nb1⟩ := hQ
  have K := K.call K7 (allS (Or.inr ge_nb1) all0)
  refine oWk.to (mkF m 32 #[rv xa, iv 2, iv 2, rv nb1, iv 2] []) (fun _ kt => st _ (zC X hx hby d11_23 rfl rfl (l' := #[rv xa, iv ((1 : Int32) + (1 : Int32)), iv 2, rv nb1, iv 1]) rfl (zC X hx hby d11_26 rfl rfl (l' := #[rv xa, iv 2, iv 2, rv nb1, iv ((1 : Int32) + (1 : Int32))]) rfl (zG X hx hby d11_29 rfl (pc' := 8) rfl (zJ X hx hby d11_8 rfl rfl (zI X hx hby d11_10 rfl rfl (zY X hx hby d11_11 rfl rfl (flt (by decide)).2.1 (pc' := 32) rfl kt))))))) ?_
  refine oWk.to (mkF m 33 #[rv xa, iv 2, iv 2, rv nb1, iv 2] [(.ref nb1)]) (fun _ kt => zA X hx hby d11_32 rfl rfl rfl kt) ?_
  exact oRetA X hx hlk hret rfl rfl (hb hby d11_33) (by rw [e0]; exact ⟨nb1, nk1, rfl, K, ge_nb1, V_nb1⟩) (by decide) (by decide)
def Q_rC3U_2 (Z : State) (xa : Addr) (xk : ClassId) (xc0 xc1 : Int32) (h0 : Heap) (v : Option Value) (h : Heap) (L : List Loc) : Prop := ∃ (nb : Addr) (nk : ClassId), v = some (.ref nb) ∧ oKp h0 h [] L ∧ (h0.size ≤ nb) ∧ (Arv Z h nb nk .byte (4 : Int32) [(iu0 xc0), (iu8 xc0), (iu0 xc1), (iu8 xc1)] (.int (0 : Int32)))
theorem d8_20 : decode b11_ 20 = .ok (.aload_n 0, 1) := by decide +kernel
theorem d8_21 : decode b11_ 21 = .ok (.iload_n 1, 1) := by decide +kernel
theorem d8_22 : decode b11_ 22 = .ok (.iload_n 2, 1) := by decide +kernel
theorem d8_23 : decode b11_ 23 = .ok (.invokestatic 119, 3) := by decide +kernel
theorem cs55 {a0 : Array Value} {Z : State} (hw : oHW a0 Z) : oCall Z Y4 (.invokestatic 119) yy63 b16_ 5 (some (.array .byte)) (oRs 3) := oCall.stat (oW hw 49 rfl) (oW hw 50 rfl) (oW hw 39 rfl) (oW hw 51 rfl) (by decide) pd_29
theorem d8_26 : decode b11_ 26 = .ok (.astore 5, 2) := by decide +kernel
theorem d8_28 : decode b11_ 28 = .ok (.aload 5, 2) := by decide +kernel
theorem d8_30 : decode b11_ 30 = .ok (.iload 4, 2) := by decide +kernel
theorem d8_32 : decode b11_ 32 = .ok (.invokestatic 71, 3) := by decide +kernel
theorem d8_35 : decode b11_ 35 = .ok (.sipush 255, 3) := by decide +kernel
theorem d8_38 : decode b11_ 38 = .ok (.if_icmp .gt 16, 3) := by decide +kernel
theorem d8_54 : decode b11_ 54 = .ok (.aload 5, 2) := by decide +kernel
theorem d8_56 : decode b11_ 56 = .ok (.areturn, 1) := by decide +kernel
theorem rC3U_2 (l : Launch) (Z : State) (a0 : Array Value) (hw : oHW a0 Z) (ws : List Jvm.Cond) (xa : Addr) (xk : ClassId) (xc0 xc1 : Int32) (h0 : Heap) (O0 : Ext Z.heap h0) (S_A : Sta Z Z.heap Y4 Y10 "Z" (.int (1 : Int32))) (S_H : Sta Z Z.heap Y4 "HI_BYTE_SHIFT" "I" (.int (0 : Int32))) (S_L : Sta Z Z.heap Y4 "LO_BYTE_SHIFT" "I" (.int (8 : Int32))) (V_xa : Arv Z h0 xa xk .char (2 : Int32) [(.int xc0), (.int xc1)] (.int (0 : Int32))) (hr0 : 0 ≤ xc0.toInt ∧ xc0.toInt < 65536) (hr1 : 0 ≤ xc1.toInt ∧ xc1.toInt < 65536) (hU : ((255 : Int32) < xc0) ∨ (¬ (255 : Int32) < xc0 ∧ (255 : Int32) < xc1)) :
    oCon l Z yy56 b11_ 6 (some (.array .byte)) ws ({ frames := 3, cells := 2, slots := 6, locals := 40 } : Room) #[(.ref xa), (.int (0 : Int32)), (.int (2 : Int32))] h0 (Q_rC3U_2 Z xa xk xc0 xc1 h0) := by
  refine oCon.of (plainFor_of_name pn_6) ?_
  intro p e s m below meth c T X hx hby hml hown hnm hret hlk hZ e0
  have hml : c.maxLocals = 6 := hml
  have K : oKp h0 h0 [] [] := oKp.nil _ _
  refine oWk.cast (g' := (mkF m 0 #[rv xa, iv 0, iv 2, uu, uu, uu] [])) (by first | rfl | (simp [entryFrame, mkF, argsToLocals, Value.category]; done)) ?_
  rcases hU with hgt | ⟨hle0, hgt⟩
  · show oWk _ _ _ _ T (mkF m 0 #[rv xa, iv 0, iv 2, uu, uu, uu] [])
    refine oWk.st (fun _ kt => zI X hx hby d8_0 rfl rfl kt) ?_
    obtain ⟨o1, g1⟩ : ∃ z, z = h0.size := ⟨_, rfl⟩
    have ne_xa_o1 : xa ≠ o1 := Nat.ne_of_lt (Nat.lt_of_lt_of_le V_xa.lt (Nat.le_of_eq g1.symm))
    have ge_o1 : h0.size ≤ o1 := Nat.le_trans K.le (Nat.le_of_eq g1.symm)
    obtain ⟨T, h, k1, X, e0, E1, A1, st⟩ := newP X hx hZ (oW hw 15 rfl) e0 (g := (mkF m 1 #[rv xa, iv 0, iv 2, uu, uu, uu] [(.int 2)])) rfl (hb hby d8_1) rfl (by decide) (cap := 2) (by decide) (by decide) (by decide) (by decide)
    rw [← g1] at A1 st
    have K := K.ext E1
    have V_o1 : Arv Z h o1 k1 .byte (2 : Int32) [(.int (0 : Int32)), (.int (0 : Int32))] (.int (0 : Int32)) := (Arv.new A1 (by decide)).pad (pad_rep [] (.int (0 : Int32)) 2)
    refine oWk.to (mkF m 9 #[rv xa, iv 0, iv 2, rv o1, uu, uu] [(.int 2), (.int 0), (.ref o1), (.int 0), (.ref xa)]) (fun _ kt => st _ (zTn X hx hby d8_3 rfl rfl rfl (l' := #[rv xa, iv 0, iv 2, rv o1, uu, uu]) rfl (zA X hx hby d8_4 rfl rfl rfl (zI X hx hby d8_5 rfl rfl (zA X hx hby d8_6 rfl rfl rfl (zK X hx hby d8_7 rfl (zI X hx hby d8_8 rfl rfl kt))))))) ?_
    have V_xa := (V_xa.ext E1)
    have Oh := K.old O0 all0
    obtain ⟨_, T, h, Lc3, X, e0, hQ, st⟩ := (cs48 hw).run X hx hZ hown e0 (A := [(.ref xa), (.int (0 : Int32)), (.ref o1), (.int (0 : Int32)), (.int (2 : Int32))]) rfl (rC5U_2_0 l Z a0 hw [] xa o1 xk k1 xc0 xc1 h Oh (Nat.le_trans O0.1 ge_o1) ne_xa_o1 V_xa V_o1 hgt) (W := 0) (by decide) hml (Ls := #[rv xa, iv 0, iv 2, rv o1, uu, uu]) rfl (rest := []) rfl rfl hby d8_9
    obtain ⟨rfl, K2⟩ := hQ
    have K := K.call K2 (allS (Or.inr ge_o1) all0)
    refine oWk.to (mkF m 22 #[rv xa, iv 0, iv 2, rv o1, iv 0, uu] [(.int 0), (.ref xa)]) (fun _ kt => st _ (zS X hx hby d8_12 rfl rfl (l' := #[rv xa, iv 0, iv 2, rv o1, iv 0, uu]) rfl (zJ X hx hby d8_14 rfl rfl (zI X hx hby d8_16 rfl rfl (zN X hx hby d8_17 rfl rfl (feq (by decide)).1 (zA X hx hby d8_20 rfl rfl rfl (zI X hx hby d8_21 rfl rfl kt))))))) ?_
    refine oWk.st (fun _ kt => zI X hx hby d8_22 rfl rfl kt) ?_
    have V_xa := (V_xa.keep K2.1 (ninS ne_xa_o1 nin0))
    have lt_xa := V_xa.lt
    have Oh := K.old O0 all0
    obtain ⟨_, T, h, Lc5, X, e0, hQ, st⟩ := (cs55 hw).run X hx hZ hown e0 (A := [(.ref xa), (.int (0 : Int32)), (.int (2 : Int32))]) rfl (rTBU_2 l Z a0 hw [] xa xk xc0 xc1 h Oh S_A S_H S_L V_xa) (W := 0) (by decide) hml (Ls := #[rv xa, iv 0, iv 2, rv o1, iv 0, uu]) rfl (rest := []) rfl rfl hby d8_23
    obtain ⟨nb4, nk4, rfl, K4, gn_nb4, V_nb4⟩ := hQ
    have ge_nb4 := Nat.le_trans K.le gn_nb4
    have ne_xa_nb4 : xa ≠ nb4 := Nat.ne_of_lt (Nat.lt_of_lt_of_le lt_xa gn_nb4)
    have K := K.call K4 all0
    refine oWk.st (fun _ kt => st _ (zT X hx hby d8_26 rfl rfl rfl (l' := #[rv xa, iv 0, iv 2, rv o1, iv 0, rv nb4]) rfl (zB X hx hby d8_28 rfl rfl rfl (zJ X hx hby d8_30 rfl rfl kt)))) ?_
    have Oh := K.old O0 all0
    obtain ⟨T, L7, X, e0, K, st⟩ := (cs17 hw).pure X hx hZ hown e0 K (A := [(.ref nb4), (.int (0 : Int32))]) rfl (rGC_2_0 l Z a0 hw [] nb4 nk4 xc0 xc1 h Oh S_A S_H S_L hr0 V_nb4) (W := 0) (by decide) hml (Ls := #[rv xa, iv 0, iv 2, rv o1, iv 0, rv nb4]) rfl (rest := []) rfl rfl hby d8_32
    refine oWk.to (mkF m 56 #[rv xa, iv 0, iv 2, rv o1, iv 0, rv nb4] [(.ref nb4)]) (fun _ kt => st _ (zM X hx hby d8_35 rfl (zY X hx hby d8_38 rfl rfl (tlt hgt).2.2.1 (pc' := 54) rfl (zB X hx hby d8_54 rfl rfl rfl kt)))) ?_
    exact oRetA X hx hlk hret rfl rfl (hb hby d8_56) (by rw [e0]; exact ⟨nb4, nk4, rfl, K, ge_nb4, V_nb4⟩) (by decide) (by decide)
  · show oWk _ _ _ _ T (mkF m 0 #[rv xa, iv 0, iv 2, uu, uu, uu] [])
    refine oWk.st (fun _ kt => zI X hx hby d8_0 rfl rfl kt) ?_
    obtain ⟨o8, g8⟩ : ∃ z, z = h0.size := ⟨_, rfl⟩
    have ne_xa_o8 : xa ≠ o8 := Nat.ne_of_lt (Nat.lt_of_lt_of_le V_xa.lt (Nat.le_of_eq g8.symm))
    have ge_o8 : h0.size ≤ o8 := Nat.le_trans K.le (Nat.le_of_eq g8.symm)
    obtain ⟨T, h, k8, X, e0, E8, A8, st⟩ := newP X hx hZ (oW hw 15 rfl) e0 (g := (mkF m 1 #[rv xa, iv 0, iv 2, uu, uu, uu] [(.int 2)])) rfl (hb hby d8_1) rfl (by decide) (cap := 2) (by decide) (by decide) (by decide) (by decide)
    rw [← g8] at A8 st
    have K := K.ext E8
    have V_o8 : Arv Z h o8 k8 .byte (2 : Int32) [(.int (0 : Int32)), (.int (0 : Int32))] (.int (0 : Int32)) := (Arv.new A8 (by decide)).pad (pad_rep [] (.int (0 : Int32)) 2)
    refine oWk.to (mkF m 9 #[rv xa, iv 0, iv 2, rv o8, uu, uu] [(.int 2), (.int 0), (.ref o8), (.int 0), (.ref xa)]) (fun _ kt => st _ (zTn X hx hby d8_3 rfl rfl rfl (l' := #[rv xa, iv 0, iv 2, rv o8, uu, uu]) rfl (zA X hx hby d8_4 rfl rfl rfl (zI X hx hby d8_5 rfl rfl (zA X hx hby d8_6 rfl rfl rfl (zK X hx hby d8_7 rfl (zI X hx hby d8_8 rfl rfl kt))))))) ?_
    have V_xa := (V_xa.ext E8)
    have Oh := K.old O0 all0
    obtain ⟨_, T, h, Lc10, X, e0, hQ, st⟩ := (cs48 hw).run X hx hZ hown e0 (A := [(.ref xa), (.int (0 : Int32)), (.ref o8), (.int (0 : Int32)), (.int (2 : Int32))]) rfl (rC5U_2_1 l Z a0 hw [] xa o8 xk k8 xc0 xc1 h Oh (Nat.le_trans O0.1 ge_o8) ne_xa_o8 V_xa V_o8 hle0 hgt) (W := 0) (by decide) hml (Ls := #[rv xa, iv 0, iv 2, rv o8, uu, uu]) rfl (rest := []) rfl rfl hby d8_9
    obtain ⟨rfl, K9⟩ := hQ
    have K := K.call K9 (allS (Or.inr ge_o8) all0)
    refine oWk.to (mkF m 22 #[rv xa, iv 0, iv 2, rv o8, iv 1, uu] [(.int 0), (.ref xa)]) (fun _ kt => st _ (zS X hx hby d8_12 rfl rfl (l' := #[rv xa, iv 0, iv 2, rv o8, iv 1, uu]) rfl (zJ X hx hby d8_14 rfl rfl (zI X hx hby d8_16 rfl rfl (zN X hx hby d8_17 rfl rfl (feq (by decide)).1 (zA X hx hby d8_20 rfl rfl rfl (zI X hx hby d8_21 rfl rfl kt))))))) ?_
    refine oWk.st (fun _ kt => zI X hx hby d8_22 rfl rfl kt) ?_
    have V_xa := (V_xa.keep K9.1 (ninS ne_xa_o8 nin0))
    have lt_xa := V_xa.lt
    have Oh := K.old O0 all0
    obtain ⟨_, T, h, Lc12, X, e0, hQ, st⟩ := (cs55 hw).run X hx hZ hown e0 (A := [(.ref xa), (.int (0 : Int32)), (.int (2 : Int32))]) rfl (rTBU_2 l Z a0 hw [] xa xk xc0 xc1 h Oh S_A S_H S_L V_xa) (W := 0) (by decide) hml (Ls := #[rv xa, iv 0, iv 2, rv o8, iv 1, uu]) rfl (rest := []) rfl rfl hby d8_23
    obtain ⟨nb11, nk11, rfl, K11, gn_nb11, V_nb11⟩ := hQ
    have ge_nb11 := Nat.le_trans K.le gn_nb11
    have ne_xa_nb11 : xa ≠ nb11 := Nat.ne_of_lt (Nat.lt_of_lt_of_le lt_xa gn_nb11)
    have K := K.call K11 all0
    refine oWk.st (fun _ kt => st _ (zT X hx hby d8_26 rfl rfl rfl (l' := #[rv xa, iv 0, iv 2, rv o8, iv 1, rv nb11]) rfl (zB X hx hby d8_28 rfl rfl rfl (zJ X hx hby d8_30 rfl rfl kt)))) ?_
    have Oh := K.old O0 all0
    obtain ⟨T, L14, X, e0, K, st⟩ := (cs17 hw).pure X hx hZ hown e0 K (A := [(.ref nb11), (.int (1 : Int32))]) rfl (rGC_2_1 l Z a0 hw [] nb11 nk11 xc0 xc1 h Oh S_A S_H S_L hr1 V_nb11) (W := 0) (by decide) hml (Ls := #[rv xa, iv 0, iv 2, rv o8, iv 1, rv nb11]) rfl (rest := []) rfl rfl hby d8_32
    refine oWk.to (mkF m 56 #[rv xa, iv 0, iv 2, rv o8, iv 1, rv nb11] [(.ref nb11)]) (fun _ kt => st _ (zM X hx hby d8_35 rfl (zY X hx hby d8_38 rfl rfl (tlt hgt).2.2.1 (pc' := 54) rfl (zB X hx hby d8_54 rfl rfl rfl kt)))) ?_
    exact oRetA X hx hlk hret rfl rfl (hb hby d8_56) (by rw [e0]; exact ⟨nb11, nk11, rfl, K, ge_nb11, V_nb11⟩) (by decide) (by decide)
theorem rCoU_2 (l : Launch) (Z : State) (a0 : Array Value) (hw : oHW a0 Z) (ws : List Jvm.Cond) (xb : Addr) (xk : ClassId) (xc0 xc1 : Int32) (h0 : Heap) (O0 : Ext Z.heap h0) (V_xb : Arv Z h0 xb xk .byte (4 : Int32) [(iu0 xc0), (iu8 xc0), (iu0 xc1), (iu8 xc1)] (.int (0 : Int32))) :
    oCon l Z yy57 b37_ 2 (some .byte) ws ({ frames := 0, cells := 0, slots := 0, locals := 0 } : Room) #[(.ref xb), (.int (2 : Int32))] h0 (oPq (some (.int (1 : Int32))) h0) := by
  refine oCon.of (plainFor_of_name pn_6) ?_
  intro p e s m below meth c T X hx hby hml hown hnm hret hlk hZ e0
  have hml : c.maxLocals = 2 := hml
  have K : oKp h0 h0 [] [] := oKp.nil _ _
  refine oWk.cast (g' := (mkF m 0 #[rv xb, iv 2] [])) (by first | rfl | (simp [entryFrame, mkF, argsToLocals, Value.category]; done)) ?_
  refine oWk.to (mkF m 8 #[rv xb, iv 2] [(.int 1)]) (fun _ kt => zI X hx hby d10_0 rfl rfl (zA X hx hby d10_1 rfl rfl rfl (oAl X hx hZ e0 V_xb hby d10_2 rfl rfl (XS.isub X.here hx rfl (hb hby d10_3) rfl (zL X hx hby d10_4 rfl (XS.iushr X.here hx rfl (hb hby d10_6) rfl (XS.i2b X.here hx rfl (hb hby d10_7) rfl kt))))))) ?_
  exact oRetN X hx hlk hret (Or.inl rfl) rfl (hb hby d10_8) (by rw [e0]; exact ⟨rfl, rfl, K⟩) (by decide) (by decide)
def Q_rI4U_2 (Z : State) (xs xa : Addr) (xk : ClassId) (xz : Int32) (xu xv : Value) (xc0 xc1 : Int32) (h0 : Heap) (v : Option Value) (h : Heap) (L : List Loc) : Prop := ∃ (nb : Addr) (nk : ClassId), v = none ∧ oKp h0 h [xs] L ∧ (Exa Z h xs Y0) ∧ (Fld Z h xs Y0 "coder" "B" (.int (1 : Int32))) ∧ (Fld Z h xs Y0 "value" "[B" (.ref nb)) ∧ (h0.size ≤ nb) ∧ (Arv Z h nb nk .byte (4 : Int32) [(iu0 xc0), (iu8 xc0), (iu0 xc1), (iu8 xc1)] (.int (0 : Int32)))
theorem rI4U_2 (l : Launch) (Z : State) (a0 : Array Value) (hw : oHW a0 Z) (ws : List Jvm.Cond) (xs xa : Addr) (xk : ClassId) (xz : Int32) (xu xv : Value) (xc0 xc1 : Int32) (h0 : Heap) (O0 : Ext Z.heap h0) (S_Z : Sta Z Z.heap Y0 Y9 "Z" (.int xz)) (hz : ¬ xz = (0 : Int32)) (S_A : Sta Z Z.heap Y4 Y10 "Z" (.int (1 : Int32))) (S_H : Sta Z Z.heap Y4 "HI_BYTE_SHIFT" "I" (.int (0 : Int32))) (S_L : Sta Z Z.heap Y4 "LO_BYTE_SHIFT" "I" (.int (8 : Int32))) (og_xs : Z.heap.size ≤ xs) (E_xs : Exa Z h0 xs Y0) (F_value_xs : Fld Z h0 xs Y0 "value" "[B" xu) (F_coder_xs : Fld Z h0 xs Y0 "coder" "B" xv) (V_xa : Arv Z h0 xa xk .char (2 : Int32) [(.int xc0), (.int xc1)] (.int (0 : Int32))) (hr0 : 0 ≤ xc0.toInt ∧ xc0.toInt < 65536) (hr1 : 0 ≤ xc1.toInt ∧ xc1.toInt < 65536) (hU : ((255 : Int32) < xc0) ∨ (¬ (255 : Int32) < xc0 ∧ (255 : Int32) < xc1)) :
    oCon l Z yy58 b8_ 6 none ws ({ frames := 4, cells := 2, slots := 6, locals := 57 } : Room) #[(.ref xs), (.ref xa), (.int (0 : Int32)), (.int (2 : Int32)), .null] h0 (Q_rI4U_2 Z xs xa xk xz xu xv xc0 xc1 h0) := by
  refine oCon.of (plainFor_of_name pn_0) ?_
  intro p e s m below meth c T X hx hby hml hown hnm hret hlk hZ e0
  have hml : c.maxLocals = 6 := hml
  have K : oKp h0 h0 [xs] [] := oKp.nil _ _
  refine oWk.cast (g' := (mkF m 0 #[rv xs, rv xa, iv 0, iv 2, .val .null, uu] [])) (by first | rfl | (simp [entryFrame, mkF, argsToLocals, Value.category]; done)) ?_
  refine oWk.st (fun _ kt => zA X hx hby d2_0 rfl rfl rfl kt) ?_
  obtain ⟨T, X, e0, st⟩ := initO X hx hZ hown (oW hw 11 rfl) (oW hw 12 rfl) (oW hw 13 rfl) e0 (g := (mkF m 1 #[rv xs, rv xa, iv 0, iv 2, .val .null, uu] [(.ref xs)])) rfl (by rw [hml]; rfl) rfl (hb hby d2_1) (by decide) (W := 0) (Nat.le_of_eq rfl) (by decide)
  refine oWk.st (fun _ kt => st _ (zI X hx hby d2_4 rfl rfl (zF X hx hby d2_5 rfl rfl ((if0 _ _).trans (feq (by decide)).2) (pc' := 27) rfl kt))) ?_
  have Oh := K.old O0 (allS og_xs all0)
  obtain ⟨T, X, e0, st⟩ := getS2 X hx hZ hown (host := "") (Or.inl (oW hw 25 rfl)) Via.refl e0 (S_Z.ext Oh) (g := (mkF m 27 #[rv xs, rv xa, iv 0, iv 2, .val .null, uu] [])) rfl (hb hby d2_27)
  refine oWk.st (fun _ kt => st _ (zH X hx hby d2_30 rfl rfl ((if0 _ _).trans (feq hz).1) (zA X hx hby d2_33 rfl rfl rfl (zI X hx hby d2_34 rfl rfl (zI X hx hby d2_35 rfl rfl kt))))) ?_
  have lt_xs := E_xs.lt
  have lt_xa := V_xa.lt
  obtain ⟨_, T, h, Lc2, X, e0, hQ, st⟩ := (cs49 hw).run X hx hZ hown e0 (A := [(.ref xa), (.int (0 : Int32)), (.int (2 : Int32))]) rfl (rC3U_2 l Z a0 hw [] xa xk xc0 xc1 h0 Oh S_A S_H S_L V_xa hr0 hr1 hU) (W := 0) (by decide) hml (Ls := #[rv xs, rv xa, iv 0, iv 2, .val .null, uu]) rfl (rest := []) rfl rfl hby d2_36
  obtain ⟨nb1, nk1, rfl, K1, gn_nb1, V_nb1⟩ := hQ
  have ge_nb1 := Nat.le_trans K.le gn_nb1
  have ne_xs_nb1 : xs ≠ nb1 := Nat.ne_of_lt (Nat.lt_of_lt_of_le lt_xs gn_nb1)
  have ne_xa_nb1 : xa ≠ nb1 := Nat.ne_of_lt (Nat.lt_of_lt_of_le lt_xa gn_nb1)
  have K := K.call K1 all0
  refine oWk.st (fun _ kt => st _ (zT X hx hby d2_39 rfl rfl rfl (l' := #[rv xs, rv xa, iv 0, iv 2, .val .null, rv nb1]) rfl (zA X hx hby d2_41 rfl rfl rfl (zB X hx hby d2_42 rfl rfl rfl (zI X hx hby d2_44 rfl rfl kt))))) ?_
  have Oh := K.old O0 (allS og_xs all0)
  obtain ⟨T, L4, X, e0, K, st⟩ := (cs50 hw).pure X hx hZ hown e0 K (A := [(.ref nb1), (.int (2 : Int32))]) rfl (rCoU_2 l Z a0 hw [] nb1 nk1 xc0 xc1 h Oh V_nb1) (W := 1) (by decide) hml (Ls := #[rv xs, rv xa, iv 0, iv 2, .val .null, rv nb1]) rfl (rest := [(.ref xs)]) rfl rfl hby d2_45
  refine oWk.st (fun _ kt => st _ kt) ?_
  have E_xs := (E_xs.keep K1.1)
  have F_coder_xs := (F_coder_xs.keep K1.1 nin0)
  obtain ⟨T, h, X, e0, W5, st⟩ := putFN X hx hZ hown (oW hw 21 rfl) Via.refl e0 F_coder_xs E_xs (Or.inr ⟨(oW hw 17 rfl), rfl, hnm⟩) (oW hw 1 rfl) (ty := .byte) (v' := .int (1 : Int32)) (by decide) rfl (by decide) (g := (mkF m 48 #[rv xs, rv xa, iv 0, iv 2, .val .null, rv nb1] [(.int 1), (.ref xs)])) rfl rfl (hb hby d2_48)
  have K := K.wr W5 (Or.inl (List.mem_of_getElem? (i := 0) rfl))
  have F_coder_xs := F_coder_xs.same W5
  refine oWk.st (fun _ kt => st _ (zA X hx hby d2_51 rfl rfl rfl (zB X hx hby d2_52 rfl rfl rfl kt))) ?_
  have E_xs := (E_xs.wr W5)
  have F_value_xs := ((F_value_xs.keep K1.1 nin0).other W5 (Or.inr (slot_ne (Or.inr (oW hw 16 rfl)) (Or.inr (oW hw 17 rfl)) (by decide) (t := (.array .byte)) (t' := .byte) (by decide) (by decide))))
  obtain ⟨T, h, X, e0, W6, st⟩ := putF X hx hZ hown (host := "") (Or.inl (oW hw 20 rfl)) Via.refl e0 F_value_xs E_xs (Or.inr ⟨(oW hw 16 rfl), rfl, hnm⟩) (oW hw 1 rfl) (ty := (.array .byte)) (by decide) rfl rfl (g := (mkF m 54 #[rv xs, rv xa, iv 0, iv 2, .val .null, rv nb1] [(.ref nb1), (.ref xs)])) rfl rfl (hb hby d2_54)
  have K := K.wr W6 (Or.inl (List.mem_of_getElem? (i := 0) rfl))
  have F_value_xs := F_value_xs.same W6
  refine oWk.to (mkF m 57 #[rv xs, rv xa, iv 0, iv 2, .val .null, rv nb1] []) (fun _ kt => st _ kt) ?_
  have E_xs := (E_xs.wr W6)
  have F_coder_xs := (F_coder_xs.other W6 (Or.inr (slot_ne (Or.inr (oW hw 17 rfl)) (Or.inr (oW hw 16 rfl)) (by decide) (t := .byte) (t' := (.array .byte)) (by decide) (by decide))))
  have V_nb1 := ((V_nb1.other W5 (Ne.symm ne_xs_nb1)).other W6 (Ne.symm ne_xs_nb1))
  exact oRetV X hx hlk hret (hb hby d2_57) (by rw [e0]; exact ⟨nb1, nk1, rfl, K, E_xs, F_coder_xs, F_value_xs, ge_nb1, V_nb1⟩) (by decide) (by decide)
def Q_rI1U_2 (Z : State) (xs xa : Addr) (xk : ClassId) (xz : Int32) (xu xv : Value) (xc0 xc1 : Int32) (h0 : Heap) (v : Option Value) (h : Heap) (L : List Loc) : Prop := ∃ (nb : Addr) (nk : ClassId), v = none ∧ oKp h0 h [xs] L ∧ (Exa Z h xs Y0) ∧ (Fld Z h xs Y0 "coder" "B" (.int (1 : Int32))) ∧ (Fld Z h xs Y0 "value" "[B" (.ref nb)) ∧ (h0.size ≤ nb) ∧ (Arv Z h nb nk .byte (4 : Int32) [(iu0 xc0), (iu8 xc0), (iu0 xc1), (iu8 xc1)] (.int (0 : Int32)))
theorem rI1U_2 (l : Launch) (Z : State) (a0 : Array Value) (hw : oHW a0 Z) (ws : List Jvm.Cond) (xs xa : Addr) (xk : ClassId) (xz : Int32) (xu xv : Value) (xc0 xc1 : Int32) (h0 : Heap) (O0 : Ext Z.heap h0) (S_Z : Sta Z Z.heap Y0 Y9 "Z" (.int xz)) (hz : ¬ xz = (0 : Int32)) (S_A : Sta Z Z.heap Y4 Y10 "Z" (.int (1 : Int32))) (S_H : Sta Z Z.heap Y4 "HI_BYTE_SHIFT" "I" (.int (0 : Int32))) (S_L : Sta Z Z.heap Y4 "LO_BYTE_SHIFT" "I" (.int (8 : Int32))) (og_xs : Z.heap.size ≤ xs) (E_xs : Exa Z h0 xs Y0) (F_value_xs : Fld Z h0 xs Y0 "value" "[B" xu) (F_coder_xs : Fld Z h0 xs Y0 "coder" "B" xv) (V_xa : Arv Z h0 xa xk .char (2 : Int32) [(.int xc0), (.int xc1)] (.int (0 : Int32))) (hr0 : 0 ≤ xc0.toInt ∧ xc0.toInt < 65536) (hr1 : 0 ≤ xc1.toInt ∧ xc1.toInt < 65536) (hU : ((255 : Int32) < xc0) ∨ (¬ (255 : Int32) < xc0 ∧ (255 : Int32) < xc1)) :
    oCon l Z yy59 b33_ 2 none ws ({ frames := 5, cells := 2, slots := 6, locals := 74 } : Room) #[(.ref xs), (.ref xa)] h0 (Q_rI1U_2 Z xs xa xk xz xu xv xc0 xc1 h0) := by
  refine oCon.of (plainFor_of_name pn_0) ?_
  intro p e s m below meth c T X hx hby hml hown hnm hret hlk hZ e0
  have hml : c.maxLocals = 2 := hml
  have K : oKp h0 h0 [xs] [] := oKp.nil _ _
  refine oWk.cast (g' := (mkF m 0 #[rv xs, rv xa] [])) (by first | rfl | (simp [entryFrame, mkF, argsToLocals, Value.category]; done)) ?_
  refine oWk.st (fun _ kt => zA X hx hby d1_0 rfl rfl rfl (zA X hx hby d1_1 rfl rfl rfl (zK X hx hby d1_2 rfl (zA X hx hby d1_3 rfl rfl rfl (oAl X hx hZ e0 V_xa hby d1_4 rfl rfl (XS.aconstNull X.here hx rfl (hb hby d1_5) kt)))))) ?_
  have lt_xs := E_xs.lt
  have lt_xa := V_xa.lt
  have Oh := K.old O0 (allS og_xs all0)
  obtain ⟨_, T, h, Lc3, X, e0, hQ, st⟩ := (cs51 hw).run X hx hZ hown e0 (A := [(.ref xs), (.ref xa), (.int (0 : Int32)), (.int (2 : Int32)), .null]) ⟨rfl, _, _, rfl⟩ (rI4U_2 l Z a0 hw [] xs xa xk xz xu xv xc0 xc1 h0 Oh S_Z hz S_A S_H S_L og_xs E_xs F_value_xs F_coder_xs V_xa hr0 hr1 hU) (W := 0) (by decide) hml (Ls := #[rv xs, rv xa]) rfl (rest := []) rfl rfl hby d1_6
  obtain ⟨nb2, nk2, rfl, K2, E_xs, F_coder_xs, F_value_xs, gn_nb2, V_nb2⟩ := hQ
  have ge_nb2 := Nat.le_trans K.le gn_nb2
  have ne_xs_nb2 : xs ≠ nb2 := Nat.ne_of_lt (Nat.lt_of_lt_of_le lt_xs gn_nb2)
  have ne_xa_nb2 : xa ≠ nb2 := Nat.ne_of_lt (Nat.lt_of_lt_of_le lt_xa gn_nb2)
  have K := K.call K2 (allS (Or.inl (List.mem_of_getElem? (i := 0) rfl)) all0)
  refine oWk.to (mkF m 9 #[rv xs, rv xa] []) (fun _ kt => st _ kt) ?_
  exact oRetV X hx hlk hret (hb hby d1_9) (by rw [e0]; exact ⟨nb2, nk2, rfl, K, E_xs, F_coder_xs, F_value_xs, ge_nb2, V_nb2⟩) (by decide) (by decide)
abbrev yy64 : MethodName := ⟨"java/lang/StringLatin1", "canEncode", "(C)Z"⟩
theorem d5_0 : decode b53_ 0 = .ok (.iload_n 0, 1) := by decide +kernel
theorem d5_1 : decode b53_ 1 = .ok (.sipush 255, 3) := by decide +kernel
theorem d5_4 : decode b53_ 4 = .ok (.if_icmp .gt 7, 3) := by decide +kernel
theorem d5_7 : decode b53_ 7 = .ok (.iconst 1, 1) := by decide +kernel
theorem d5_8 : decode b53_ 8 = .ok (.goto 4, 3) := by decide +kernel
theorem d5_12 : decode b53_ 12 = .ok (.ireturn, 1) := by decide +kernel
theorem rCan (l : Launch) (Z : State) (a0 : Array Value) (hw : oHW a0 Z) (ws : List Jvm.Cond) (xp : Int32) (h0 : Heap) (O0 : Ext Z.heap h0) (hle : ¬ (255 : Int32) < xp) :
    oCon l Z yy64 b53_ 1 (some .boolean) ws ({ frames := 0, cells := 0, slots := 0, locals := 0 } : Room) #[(.int xp)] h0 (oPq (some (.int (1 : Int32))) h0) := by
  refine oCon.of (plainFor_of_name pn_2) ?_
  intro p e s m below meth c T X hx hby hml hown hnm hret hlk hZ e0
  have hml : c.maxLocals = 1 := hml
  have K : oKp h0 h0 [] [] := oKp.nil _ _
  refine oWk.cast (g' := (mkF m 0 #[iv xp] [])) (by first | rfl | (simp [entryFrame, mkF, argsToLocals, Value.category]; done)) ?_
  refine oWk.to (mkF m 12 #[iv xp] [(.int 1)]) (fun _ kt => zI X hx hby d5_0 rfl rfl (zM X hx hby d5_1 rfl (zN X hx hby d5_4 rfl rfl (flt hle).2.2.1 (zK X hx hby d5_7 rfl (zG X hx hby d5_8 rfl (pc' := 12) rfl kt))))) ?_
  exact oRetZ X hx hlk hret (hb hby d5_12) (Or.inr rfl) (by rw [e0]; exact ⟨rfl, rfl, K⟩) (by decide) (by decide)
def Q_rToB (Z : State) (xp : Int32) (h0 : Heap) (v : Option Value) (h : Heap) (L : List Loc) : Prop := ∃ (nb : Addr) (nk : ClassId), v = some (.ref nb) ∧ oKp h0 h [] L ∧ (h0.size ≤ nb) ∧ (Arv Z h nb nk .byte (1 : Int32) [(ib xp)] (.int (0 : Int32)))
abbrev yy65 : MethodName := ⟨"java/lang/StringLatin1", "toBytes", "(C)[B"⟩
theorem d6_0 : decode b44_ 0 = .ok (.iconst 1, 1) := by decide +kernel
theorem d6_1 : decode b44_ 1 = .ok (.newarray .byte, 2) := by decide +kernel
theorem d6_3 : decode b44_ 3 = .ok (.dup, 1) := by decide +kernel
theorem d6_4 : decode b44_ 4 = .ok (.iconst 0, 1) := by decide +kernel
theorem d6_5 : decode b44_ 5 = .ok (.iload_n 0, 1) := by decide +kernel
theorem d6_6 : decode b44_ 6 = .ok (.i2b, 1) := by decide +kernel
theorem d6_7 : decode b44_ 7 = .ok (.bastore, 1) := by decide +kernel
theorem d6_8 : decode b44_ 8 = .ok (.areturn, 1) := by decide +kernel
theorem rToB (l : Launch) (Z : State) (a0 : Array Value) (hw : oHW a0 Z) (ws : List Jvm.Cond) (xp : Int32) (h0 : Heap) (O0 : Ext Z.heap h0)  :
    oCon l Z yy65 b44_ 1 (some (.array .byte)) ws ({ frames := 0, cells := 1, slots := 1, locals := 0 } : Room) #[(.int xp)] h0 (Q_rToB Z xp h0) := by
  refine oCon.of (plainFor_of_name pn_2) ?_
  intro p e s m below meth c T X hx hby hml hown hnm hret hlk hZ e0
  have hml : c.maxLocals = 1 := hml
  have K : oKp h0 h0 [] [] := oKp.nil _ _
  refine oWk.cast (g' := (mkF m 0 #[iv xp] [])) (by first | rfl | (simp [entryFrame, mkF, argsToLocals, Value.category]; done)) ?_
  refine oWk.st (fun _ kt => zK X hx hby d6_0 rfl kt) ?_
  obtain ⟨o1, g1⟩ : ∃ z, z = h0.size := ⟨_, rfl⟩
  have ge_o1 : h0.size ≤ o1 := Nat.le_trans K.le (Nat.le_of_eq g1.symm)
  obtain ⟨T, h, k1, X, e0, E1, A1, st⟩ := newP X hx hZ (oW hw 15 rfl) e0 (g := (mkF m 1 #[iv xp] [(.int 1)])) rfl (hb hby d6_1) rfl (by decide) (cap := 1) (by decide) (by decide) (by decide) (by decide)
  rw [← g1] at A1 st
  have K := K.ext E1
  have V_o1 : Arv Z h o1 k1 .byte (1 : Int32) [(.int (0 : Int32))] (.int (0 : Int32)) := (Arv.new A1 (by decide)).pad (pad_rep [] (.int (0 : Int32)) 1)
  refine oWk.st (fun _ kt => st _ (zD X hx hby d6_3 rfl rfl rfl (zK X hx hby d6_4 rfl (zI X hx hby d6_5 rfl rfl (XS.i2b X.here hx rfl (hb hby d6_6) rfl kt))))) ?_
  obtain ⟨cl2, Ar2, q2, Sz2, Nn2, Hs2, Ft2⟩ := id V_o1
  have hin2 : ¬ ((0 : Int32) < 0 ∨ cl2.slots.size ≤ ((0 : Int32)).toNatClampNeg) := inb_of Sz2 ⟨by decide, by decide⟩
  obtain ⟨T, h, X, e0, W2, st⟩ := stB X hx hZ e0 Ar2 (j := (0 : Int32)) hin2 (g := (mkF m 7 #[iv xp] [(ib xp), (.int 0), (.ref o1), (.ref o1)])) rfl rfl (hb hby d6_7)
  have K := K.wr W2 (Or.inr ge_o1)
  have V_o1 := Arv.set Ar2 q2 Sz2 Nn2 Hs2 Ft2 (fits_nar_byte _) W2 0 rfl (Nat.le_of_ble_eq_true rfl)
  rw [oB8 xp] at V_o1
  replace V_o1 : Arv Z h o1 k1 .byte (1 : Int32) [(ib xp)] (.int (0 : Int32)) := V_o1
  refine oWk.to (mkF m 8 #[iv xp] [(.ref o1)]) (fun _ kt => st _ kt) ?_
  exact oRetA X hx hlk hret rfl rfl (hb hby d6_8) (by rw [e0]; exact ⟨o1, k1, rfl, K, ge_o1, V_o1⟩) (by decide) (by decide)
def Q_rSIn (Z : State) (xa xb : Addr) (xu xv : Value) (h0 : Heap) (v : Option Value) (h : Heap) (L : List Loc) : Prop := v = none ∧ oKp h0 h [xa] L ∧ (Exa Z h xa Y0) ∧ (Fld Z h xa Y0 "value" "[B" (.ref xb)) ∧ (Fld Z h xa Y0 "coder" "B" (.int (0 : Int32)))
abbrev yy66 : MethodName := ⟨"java/lang/String", "<init>", "([BB)V"⟩
theorem d7_0 : decode b39_ 0 = .ok (.aload_n 0, 1) := by decide +kernel
theorem d7_1 : decode b39_ 1 = .ok (.invokespecial 1, 3) := by decide +kernel
theorem d7_4 : decode b39_ 4 = .ok (.aload_n 0, 1) := by decide +kernel
theorem d7_5 : decode b39_ 5 = .ok (.aload_n 1, 1) := by decide +kernel
theorem d7_6 : decode b39_ 6 = .ok (.putfield 9, 3) := by decide +kernel
theorem d7_9 : decode b39_ 9 = .ok (.aload_n 0, 1) := by decide +kernel
theorem d7_10 : decode b39_ 10 = .ok (.iload_n 2, 1) := by decide +kernel
theorem d7_11 : decode b39_ 11 = .ok (.putfield 15, 3) := by decide +kernel
theorem d7_14 : decode b39_ 14 = .ok (.return_, 1) := by decide +kernel
theorem rSIn (l : Launch) (Z : State) (a0 : Array Value) (hw : oHW a0 Z) (ws : List Jvm.Cond) (xa xb : Addr) (xu xv : Value) (h0 : Heap) (O0 : Ext Z.heap h0) (og_xa : Z.heap.size ≤ xa) (E_xa : Exa Z h0 xa Y0) (F_value_xa : Fld Z h0 xa Y0 "value" "[B" xu) (F_coder_xa : Fld Z h0 xa Y0 "coder" "B" xv) :
    oCon l Z yy66 b39_ 3 none ws ({ frames := 1, cells := 0, slots := 0, locals := 12 } : Room) #[(.ref xa), (.ref xb), (.int (0 : Int32))] h0 (Q_rSIn Z xa xb xu xv h0) := by
  refine oCon.of (plainFor_of_name pn_0) ?_
  intro p e s m below meth c T X hx hby hml hown hnm hret hlk hZ e0
  have hml : c.maxLocals = 3 := hml
  have K : oKp h0 h0 [xa] [] := oKp.nil _ _
  refine oWk.cast (g' := (mkF m 0 #[rv xa, rv xb, iv 0] [])) (by first | rfl | (simp [entryFrame, mkF, argsToLocals, Value.category]; done)) ?_
  refine oWk.st (fun _ kt => zA X hx hby d7_0 rfl rfl rfl kt) ?_
  obtain ⟨T, X, e0, st⟩ := initO X hx hZ hown (oW hw 11 rfl) (oW hw 12 rfl) (oW hw 13 rfl) e0 (g := (mkF m 1 #[rv xa, rv xb, iv 0] [(.ref xa)])) rfl (by rw [hml]; rfl) rfl (hb hby d7_1) (by decide) (W := 0) (Nat.le_of_eq rfl) (by decide)
  refine oWk.st (fun _ kt => st _ (zA X hx hby d7_4 rfl rfl rfl (zA X hx hby d7_5 rfl rfl rfl kt))) ?_
  obtain ⟨T, h, X, e0, W1, st⟩ := putF X hx hZ hown (host := "") (Or.inl (oW hw 20 rfl)) Via.refl e0 F_value_xa E_xa (Or.inr ⟨(oW hw 16 rfl), rfl, hnm⟩) (oW hw 1 rfl) (ty := (.array .byte)) (by decide) rfl rfl (g := (mkF m 6 #[rv xa, rv xb, iv 0] [(.ref xb), (.ref xa)])) rfl rfl (hb hby d7_6)
  have K := K.wr W1 (Or.inl (List.mem_of_getElem? (i := 0) rfl))
  have F_value_xa := F_value_xa.same W1
  refine oWk.st (fun _ kt => st _ (zA X hx hby d7_9 rfl rfl rfl (zI X hx hby d7_10 rfl rfl kt))) ?_
  have E_xa := (E_xa.wr W1)
  have F_coder_xa := (F_coder_xa.other W1 (Or.inr (slot_ne (Or.inr (oW hw 17 rfl)) (Or.inr (oW hw 16 rfl)) (by decide) (t := .byte) (t' := (.array .byte)) (by decide) (by decide))))
  obtain ⟨T, h, X, e0, W2, st⟩ := putFN X hx hZ hown (oW hw 21 rfl) Via.refl e0 F_coder_xa E_xa (Or.inr ⟨(oW hw 17 rfl), rfl, hnm⟩) (oW hw 1 rfl) (ty := .byte) (v' := .int (0 : Int32)) (by decide) rfl (by decide) (g := (mkF m 11 #[rv xa, rv xb, iv 0] [(.int 0), (.ref xa)])) rfl rfl (hb hby d7_11)
  have K := K.wr W2 (Or.inl (List.mem_of_getElem? (i := 0) rfl))
  have F_coder_xa := F_coder_xa.same W2
  refine oWk.to (mkF m 14 #[rv xa, rv xb, iv 0] []) (fun _ kt => st _ kt) ?_
  have E_xa := (E_xa.wr W2)
  have F_value_xa := (F_value_xa.other W2 (Or.inr (slot_ne (Or.inr (oW hw 16 rfl)) (Or.inr (oW hw 17 rfl)) (by decide) (t := (.array .byte)) (t' := .byte) (by decide) (by decide))))
  exact oRetV X hx hlk hret (hb hby d7_14) (by rw [e0]; exact ⟨rfl, K, E_xa, F_value_xa, F_coder_xa⟩) (by decide) (by decide)
def Q_rVal (Z : State) (xp xz : Int32) (h0 : Heap) (v : Option Value) (h : Heap) (L : List Loc) : Prop := ∃ (nr : Addr) (nb : Addr) (nk : ClassId), v = some (.ref nr) ∧ oKp h0 h [] L ∧ (h0.size ≤ nr) ∧ (h0.size ≤ nb) ∧ (Exa Z h nr Y0) ∧ (Fld Z h nr Y0 "value" "[B" (.ref nb)) ∧ (Fld Z h nr Y0 "coder" "B" (.int (0 : Int32))) ∧ (Arv Z h nb nk .byte (1 : Int32) [(ib xp)] (.int (0 : Int32))) ∧ (nr ≠ nb)
abbrev yy67 : MethodName := ⟨"java/lang/String", "valueOf", "(C)Ljava/lang/String;"⟩
theorem d4_0 : decode b26_ 0 = .ok (.getstatic 38, 3) := by decide +kernel
theorem d4_3 : decode b26_ 3 = .ok (.ifCond .eq 23, 3) := by decide +kernel
theorem d4_6 : decode b26_ 6 = .ok (.iload_n 0, 1) := by decide +kernel
theorem d4_7 : decode b26_ 7 = .ok (.invokestatic 1015, 3) := by decide +kernel
theorem cs56 {a0 : Array Value} {Z : State} (hw : oHW a0 Z) : oCall Z Y0 (.invokestatic 1015) yy64 b53_ 1 (some .boolean) (oRs 1) := oCall.stat (oW hw 26 rfl) (oW hw 27 rfl) (oW hw 28 rfl) (oW hw 29 rfl) (by decide) pd_8
theorem d4_10 : decode b26_ 10 = .ok (.ifCond .eq 16, 3) := by decide +kernel
theorem d4_13 : decode b26_ 13 = .ok (.new 10, 3) := by decide +kernel
theorem d4_16 : decode b26_ 16 = .ok (.dup, 1) := by decide +kernel
theorem d4_17 : decode b26_ 17 = .ok (.iload_n 0, 1) := by decide +kernel
theorem d4_18 : decode b26_ 18 = .ok (.invokestatic 1018, 3) := by decide +kernel
theorem pd_34 : parseMethodDescriptor "(C)[B" = some ⟨[.char], some (.array .byte)⟩ := by decide +kernel
theorem cs57 {a0 : Array Value} {Z : State} (hw : oHW a0 Z) : oCall Z Y0 (.invokestatic 1018) yy65 b44_ 1 (some (.array .byte)) (oRs 1) := oCall.stat (oW hw 31 rfl) (oW hw 32 rfl) (oW hw 28 rfl) (oW hw 33 rfl) (by decide) pd_34
theorem d4_21 : decode b26_ 21 = .ok (.iconst 0, 1) := by decide +kernel
theorem d4_22 : decode b26_ 22 = .ok (.invokespecial 209, 3) := by decide +kernel
theorem pd_35 : parseMethodDescriptor "([BB)V" = some ⟨[(.array .byte), .byte], none⟩ := by decide +kernel
theorem cs58 {a0 : Array Value} {Z : State} (hw : oHW a0 Z) : oCall Z Y0 (.invokespecial 209) yy66 b39_ 3 none (oRi 2) := oCall.init rfl (oW hw 34 rfl) (oW hw 35 rfl) (oW hw 2 rfl) (oW hw 36 rfl) (by decide) pd_35
theorem d4_25 : decode b26_ 25 = .ok (.areturn, 1) := by decide +kernel
theorem rVal (l : Launch) (Z : State) (a0 : Array Value) (hw : oHW a0 Z) (ws : List Jvm.Cond) (xp xz : Int32) (h0 : Heap) (O0 : Ext Z.heap h0) (S_Z : Sta Z Z.heap Y0 Y9 "Z" (.int xz)) (hz : ¬ xz = (0 : Int32)) (hle : ¬ (255 : Int32) < xp) :
    oCon l Z yy67 b26_ 1 (some (.object Y0)) ws ({ frames := 2, cells := 2, slots := 5, locals := 27 } : Room) #[(.int xp)] h0 (Q_rVal Z xp xz h0) := by
  refine oCon.of (plainFor_of_name pn_0) ?_
  intro p e s m below meth c T X hx hby hml hown hnm hret hlk hZ e0
  have hml : c.maxLocals = 1 := hml
  have K : oKp h0 h0 [] [] := oKp.nil _ _
  refine oWk.cast (g' := (mkF m 0 #[iv xp] [])) (by first | rfl | (simp [entryFrame, mkF, argsToLocals, Value.category]; done)) ?_
  have Oh := K.old O0 all0
  obtain ⟨T, X, e0, st⟩ := getS2 X hx hZ hown (host := "") (Or.inl (oW hw 25 rfl)) Via.refl e0 (S_Z.ext Oh) (g := (mkF m 0 #[iv xp] [])) rfl (hb hby d4_0)
  refine oWk.st (fun _ kt => st _ (zH X hx hby d4_3 rfl rfl ((if0 _ _).trans (feq hz).1) (zI X hx hby d4_6 rfl rfl kt))) ?_
  obtain ⟨T, L2, X, e0, K, st⟩ := (cs56 hw).pure X hx hZ hown e0 K (A := [(.int xp)]) rfl (rCan l Z a0 hw [] xp h0 Oh hle) (W := 0) (by decide) hml (Ls := #[iv xp]) rfl (rest := []) rfl rfl hby d4_7
  refine oWk.st (fun _ kt => st _ (zH X hx hby d4_10 rfl rfl ((if0 _ _).trans (feq (by decide)).1) kt)) ?_
  obtain ⟨o3, g3⟩ : ∃ z, z = h0.size := ⟨_, rfl⟩
  have ge_o3 : h0.size ≤ o3 := Nat.le_trans K.le (Nat.le_of_eq g3.symm)
  obtain ⟨T, h, X, e0, E3, A3, D3, -, st⟩ := newO X hx hZ hown (oW hw 30 rfl) (oW hw 1 rfl) (oW hw 2 rfl) e0 (g := (mkF m 13 #[iv xp] [])) rfl (hb hby d4_13) (by decide) (by decide)
  rw [← g3] at A3 D3 st
  have K := K.ext E3
  have E_o3 := A3
  have F_value_o3 : Fld Z h o3 Y0 "value" "[B" .null := D3 (Or.inr (oW hw 16 rfl)) (ty := (.array .byte)) (by decide)
  have F_coder_o3 : Fld Z h o3 Y0 "coder" "B" (.int (0 : Int32)) := D3 (Or.inr (oW hw 17 rfl)) (ty := .byte) (by decide)
  refine oWk.st (fun _ kt => st _ (zD X hx hby d4_16 rfl rfl rfl (zI X hx hby d4_17 rfl rfl kt))) ?_
  have lt_o3 := E_o3.lt
  have Oh := K.old O0 all0
  obtain ⟨_, T, h, Lc5, X, e0, hQ, st⟩ := (cs57 hw).run X hx hZ hown e0 (A := [(.int xp)]) rfl (rToB l Z a0 hw [] xp h Oh ) (W := 2) (by decide) hml (Ls := #[iv xp]) rfl (rest := [(.ref o3), (.ref o3)]) rfl rfl hby d4_18
  obtain ⟨nb4, nk4, rfl, K4, gn_nb4, V_nb4⟩ := hQ
  have ge_nb4 := Nat.le_trans K.le gn_nb4
  have ne_o3_nb4 : o3 ≠ nb4 := Nat.ne_of_lt (Nat.lt_of_lt_of_le lt_o3 gn_nb4)
  have K := K.call K4 all0
  refine oWk.st (fun _ kt => st _ (zK X hx hby d4_21 rfl kt)) ?_
  have E_o3 := (E_o3.keep K4.1)
  have F_value_o3 := (F_value_o3.keep K4.1 nin0)
  have F_coder_o3 := (F_coder_o3.keep K4.1 nin0)
  have Oh := K.old O0 all0
  obtain ⟨_, T, h, Lc7, X, e0, hQ, st⟩ := (cs58 hw).run X hx hZ hown e0 (A := [(.ref o3), (.ref nb4), (.int (0 : Int32))]) ⟨rfl, _, _, rfl⟩ (rSIn l Z a0 hw [] o3 nb4 .null (.int (0 : Int32)) h Oh (Nat.le_trans O0.1 ge_o3) E_o3 F_value_o3 F_coder_o3) (W := 1) (by decide) hml (Ls := #[iv xp]) rfl (rest := [(.ref o3)]) rfl rfl hby d4_22
  obtain ⟨rfl, K6, E_o3, F_value_o3, F_coder_o3⟩ := hQ
  have K := K.call K6 (allS (Or.inr ge_o3) all0)
  refine oWk.to (mkF m 25 #[iv xp] [(.ref o3)]) (fun _ kt => st _ kt) ?_
  have V_nb4 := (V_nb4.keep K6.1 (ninS (Ne.symm ne_o3_nb4) nin0))
  exact oRetA X hx hlk hret rfl rfl (hb hby d4_25) (by rw [e0]; exact ⟨o3, nb4, nk4, rfl, K, ge_o3, ge_nb4, E_o3, F_value_o3, F_coder_o3, V_nb4, (ne_o3_nb4)⟩) (by decide) (by decide)
theorem pn_12 : plainName "java/util/AbstractCollection" = true := by first | (simp [plainName, overriddenIn]; done) | decide +kernel
abbrev yy68 : MethodName := ⟨"java/util/AbstractCollection", "<init>", "()V"⟩
theorem d19_0 : decode b66_ 0 = .ok (.aload_n 0, 1) := by decide +kernel
theorem d19_1 : decode b66_ 1 = .ok (.invokespecial 1, 3) := by decide +kernel
theorem d19_4 : decode b66_ 4 = .ok (.return_, 1) := by decide +kernel
theorem rABC (l : Launch) (Z : State) (a0 : Array Value) (hw : oHW a0 Z) (ws : List Jvm.Cond) (xa : Addr) (h0 : Heap) (O0 : Ext Z.heap h0)  :
    oCon l Z yy68 b66_ 1 none ws ({ frames := 1, cells := 0, slots := 0, locals := 12 } : Room) #[(.ref xa)] h0 (oPq none h0) := by
  refine oCon.of (plainFor_of_name pn_12) ?_
  intro p e s m below meth c T X hx hby hml hown hnm hret hlk hZ e0
  have hml : c.maxLocals = 1 := hml
  have K : oKp h0 h0 [] [] := oKp.nil _ _
  refine oWk.cast (g' := (mkF m 0 #[rv xa] [])) (by first | rfl | (simp [entryFrame, mkF, argsToLocals, Value.category]; done)) ?_
  refine oWk.st (fun _ kt => zA X hx hby d19_0 rfl rfl rfl kt) ?_
  obtain ⟨T, X, e0, st⟩ := initO X hx hZ hown (oW hw 91 rfl) (oW hw 12 rfl) (oW hw 13 rfl) e0 (g := (mkF m 1 #[rv xa] [(.ref xa)])) rfl (by rw [hml]; rfl) rfl (hb hby d19_1) (by decide) (W := 0) (Nat.le_of_eq rfl) (by decide)
  refine oWk.to (mkF m 4 #[rv xa] []) (fun _ kt => st _ kt) ?_
  exact oRetV X hx hlk hret (hb hby d19_4) (by rw [e0]; exact ⟨rfl, rfl, K⟩) (by decide) (by decide)
def Q_rABL (Z : State) (xa : Addr) (xm xe : Value) (xn : Int32) (h0 : Heap) (v : Option Value) (h : Heap) (L : List Loc) : Prop := v = none ∧ oKp h0 h [xa] L ∧ (Exa Z h xa Y1) ∧ (Fld Z h xa Y8 "modCount" "I" (.int (0 : Int32))) ∧ (Fld Z h xa Y1 "elementData" Y7 xe) ∧ (Fld Z h xa Y1 "size" "I" (.int xn))
theorem pn_13 : plainName "java/util/AbstractList" = true := by first | (simp [plainName, overriddenIn]; done) | decide +kernel
abbrev yy69 : MethodName := ⟨"java/util/AbstractList", "<init>", "()V"⟩
theorem d18_0 : decode b54_ 0 = .ok (.aload_n 0, 1) := by decide +kernel
theorem d18_1 : decode b54_ 1 = .ok (.invokespecial 1, 3) := by decide +kernel
theorem cs59 {a0 : Array Value} {Z : State} (hw : oHW a0 Z) : oCall Z Y8 (.invokespecial 1) yy68 b66_ 1 none (oRi 0) := oCall.init rfl (oW hw 85 rfl) (oW hw 86 rfl) (oW hw 89 rfl) (oW hw 90 rfl) (by decide) pd_21
theorem d18_4 : decode b54_ 4 = .ok (.aload_n 0, 1) := by decide +kernel
theorem d18_5 : decode b54_ 5 = .ok (.iconst 0, 1) := by decide +kernel
theorem d18_6 : decode b54_ 6 = .ok (.putfield 7, 3) := by decide +kernel
theorem d18_9 : decode b54_ 9 = .ok (.return_, 1) := by decide +kernel
theorem rABL (l : Launch) (Z : State) (a0 : Array Value) (hw : oHW a0 Z) (ws : List Jvm.Cond) (xa : Addr) (xm xe : Value) (xn : Int32) (h0 : Heap) (O0 : Ext Z.heap h0) (og_xa : Z.heap.size ≤ xa) (E_xa : Exa Z h0 xa Y1) (F_modCount_xa : Fld Z h0 xa Y8 "modCount" "I" xm) (F_elementData_xa : Fld Z h0 xa Y1 "elementData" Y7 xe) (F_size_xa : Fld Z h0 xa Y1 "size" "I" (.int xn)) :
    oCon l Z yy69 b54_ 1 none ws ({ frames := 2, cells := 0, slots := 0, locals := 24 } : Room) #[(.ref xa)] h0 (Q_rABL Z xa xm xe xn h0) := by
  refine oCon.of (plainFor_of_name pn_13) ?_
  intro p e s m below meth c T X hx hby hml hown hnm hret hlk hZ e0
  have hml : c.maxLocals = 1 := hml
  have K : oKp h0 h0 [xa] [] := oKp.nil _ _
  refine oWk.cast (g' := (mkF m 0 #[rv xa] [])) (by first | rfl | (simp [entryFrame, mkF, argsToLocals, Value.category]; done)) ?_
  refine oWk.st (fun _ kt => zA X hx hby d18_0 rfl rfl rfl kt) ?_
  have Oh := K.old O0 (allS og_xa all0)
  obtain ⟨T, L2, X, e0, K, st⟩ := (cs59 hw).pure X hx hZ hown e0 K (A := [(.ref xa)]) ⟨rfl, _, _, rfl⟩ (rABC l Z a0 hw [] xa h0 Oh ) (W := 0) (by decide) hml (Ls := #[rv xa]) rfl (rest := []) rfl rfl hby d18_1
  refine oWk.st (fun _ kt => st _ (zA X hx hby d18_4 rfl rfl rfl (zK X hx hby d18_5 rfl kt))) ?_
  obtain ⟨T, h, X, e0, W3, st⟩ := putF X hx hZ hown (host := "") (Or.inl (oW hw 92 rfl)) Via.refl e0 F_modCount_xa E_xa (Or.inl (oW hw 93 rfl)) (oW hw 74 rfl) (ty := .int) (by decide) rfl rfl (g := (mkF m 6 #[rv xa] [(.int 0), (.ref xa)])) rfl rfl (hb hby d18_6)
  have K := K.wr W3 (Or.inl (List.mem_of_getElem? (i := 0) rfl))
  have F_modCount_xa := F_modCount_xa.same W3
  refine oWk.to (mkF m 9 #[rv xa] []) (fun _ kt => st _ kt) ?_
  have E_xa := (E_xa.wr W3)
  have F_elementData_xa := (F_elementData_xa.other W3 (Or.inr (slot_ne (Or.inl (oW hw 96 rfl)) (Or.inl (oW hw 93 rfl)) (by decide) (t := (.array (.object Y6))) (t' := .int) (by decide) (by decide))))
  have F_size_xa := (F_size_xa.other W3 (Or.inr (slot_ne (Or.inl (oW hw 165 rfl)) (Or.inl (oW hw 93 rfl)) (by decide) (t := .int) (t' := .int) (by decide) (by decide))))
  exact oRetV X hx hlk hret (hb hby d18_9) (by rw [e0]; exact ⟨rfl, K, E_xa, F_modCount_xa, F_elementData_xa, F_size_xa⟩) (by decide) (by decide)
def Q_rAL (Z : State) (xa xd : Addr) (xm xe : Value) (h0 : Heap) (v : Option Value) (h : Heap) (L : List Loc) : Prop := v = none ∧ oKp h0 h [xa] L ∧ (Exa Z h xa Y1) ∧ (Fld Z h xa Y1 "elementData" Y7 (.ref xd)) ∧ (Fld Z h xa Y1 "size" "I" (.int (0 : Int32))) ∧ (Fld Z h xa Y8 "modCount" "I" (.int (0 : Int32)))
abbrev yy70 : MethodName := ⟨"java/util/ArrayList", "<init>", "()V"⟩
theorem d17_0 : decode b55_ 0 = .ok (.aload_n 0, 1) := by decide +kernel
theorem d17_1 : decode b55_ 1 = .ok (.invokespecial 1, 3) := by decide +kernel
theorem cs60 {a0 : Array Value} {Z : State} (hw : oHW a0 Z) : oCall Z Y1 (.invokespecial 1) yy69 b54_ 1 none (oRi 0) := oCall.init rfl (oW hw 79 rfl) (oW hw 80 rfl) (oW hw 83 rfl) (oW hw 84 rfl) (by decide) pd_21
theorem d17_4 : decode b55_ 4 = .ok (.aload_n 0, 1) := by decide +kernel
theorem d17_5 : decode b55_ 5 = .ok (.getstatic 39, 3) := by decide +kernel
theorem d17_8 : decode b55_ 8 = .ok (.putfield 9, 3) := by decide +kernel
theorem d17_11 : decode b55_ 11 = .ok (.return_, 1) := by decide +kernel
theorem rAL (l : Launch) (Z : State) (a0 : Array Value) (hw : oHW a0 Z) (ws : List Jvm.Cond) (xa xd : Addr) (xm xe : Value) (h0 : Heap) (O0 : Ext Z.heap h0) (S_D : Sta Z Z.heap Y1 Y24 Y7 (.ref xd)) (og_xa : Z.heap.size ≤ xa) (E_xa : Exa Z h0 xa Y1) (F_elementData_xa : Fld Z h0 xa Y1 "elementData" Y7 xe) (F_size_xa : Fld Z h0 xa Y1 "size" "I" (.int (0 : Int32))) (F_modCount_xa : Fld Z h0 xa Y8 "modCount" "I" xm) :
    oCon l Z yy70 b55_ 1 none ws ({ frames := 3, cells := 0, slots := 0, locals := 36 } : Room) #[(.ref xa)] h0 (Q_rAL Z xa xd xm xe h0) := by
  refine oCon.of (plainFor_of_name pn_8) ?_
  intro p e s m below meth c T X hx hby hml hown hnm hret hlk hZ e0
  have hml : c.maxLocals = 1 := hml
  have K : oKp h0 h0 [xa] [] := oKp.nil _ _
  refine oWk.cast (g' := (mkF m 0 #[rv xa] [])) (by first | rfl | (simp [entryFrame, mkF, argsToLocals, Value.category]; done)) ?_
  refine oWk.st (fun _ kt => zA X hx hby d17_0 rfl rfl rfl kt) ?_
  have Oh := K.old O0 (allS og_xa all0)
  obtain ⟨_, T, h, Lc2, X, e0, hQ, st⟩ := (cs60 hw).run X hx hZ hown e0 (A := [(.ref xa)]) ⟨rfl, _, _, rfl⟩ (rABL l Z a0 hw [] xa xm xe (0 : Int32) h0 Oh og_xa E_xa F_modCount_xa F_elementData_xa F_size_xa) (W := 0) (by decide) hml (Ls := #[rv xa]) rfl (rest := []) rfl rfl hby d17_1
  obtain ⟨rfl, K1, E_xa, F_modCount_xa, F_elementData_xa, F_size_xa⟩ := hQ
  have K := K.call K1 (allS (Or.inl (List.mem_of_getElem? (i := 0) rfl)) all0)
  refine oWk.st (fun _ kt => st _ (zA X hx hby d17_4 rfl rfl rfl kt)) ?_
  have Oh := K.old O0 (allS og_xa all0)
  obtain ⟨T, X, e0, st⟩ := getS2 X hx hZ hown (host := "") (Or.inl (oW hw 94 rfl)) Via.refl e0 (S_D.ext Oh) (g := (mkF m 5 #[rv xa] [(.ref xa)])) rfl (hb hby d17_5)
  refine oWk.st (fun _ kt => st _ kt) ?_
  obtain ⟨T, h, X, e0, W3, st⟩ := putF X hx hZ hown (host := "") (Or.inl (oW hw 95 rfl)) Via.refl e0 F_elementData_xa E_xa (Or.inl (oW hw 96 rfl)) (oW hw 74 rfl) (ty := (.array (.object Y6))) (by decide) rfl rfl (g := (mkF m 8 #[rv xa] [(.ref xd), (.ref xa)])) rfl rfl (hb hby d17_8)
  have K := K.wr W3 (Or.inl (List.mem_of_getElem? (i := 0) rfl))
  have F_elementData_xa := F_elementData_xa.same W3
  refine oWk.to (mkF m 11 #[rv xa] []) (fun _ kt => st _ kt) ?_
  have E_xa := (E_xa.wr W3)
  have F_size_xa := (F_size_xa.other W3 (Or.inr (slot_ne (Or.inl (oW hw 165 rfl)) (Or.inl (oW hw 96 rfl)) (by decide) (t := .int) (t' := (.array (.object Y6))) (by decide) (by decide))))
  have F_modCount_xa := (F_modCount_xa.other W3 (Or.inr (slot_ne (Or.inl (oW hw 93 rfl)) (Or.inl (oW hw 96 rfl)) (by decide) (t := .int) (t' := (.array (.object Y6))) (by decide) (by decide))))
  exact oRetV X hx hlk hret (hb hby d17_11) (by rw [e0]; exact ⟨rfl, K, E_xa, F_elementData_xa, F_size_xa, F_modCount_xa⟩) (by decide) (by decide)
theorem rMax (l : Launch) (Z : State) (a0 : Array Value) (hw : oHW a0 Z) (ws : List Jvm.Cond)  (h0 : Heap) (O0 : Ext Z.heap h0)  :
    oCon l Z yy44 b36_ 2 (some .int) ws ({ frames := 0, cells := 0, slots := 0, locals := 0 } : Room) #[(.int (10 : Int32)), (.int (1 : Int32))] h0 (oPq (some (.int (10 : Int32))) h0) := by
  refine oCon.of (Jvm.Free.JP.mathPlain rfl (by decide +kernel)) ?_
  intro p e s m below meth c T X hx hby hml hown hnm hret hlk hZ e0
  have hml : c.maxLocals = 2 := hml
  have K : oKp h0 h0 [] [] := oKp.nil _ _
  refine oWk.cast (g' := (mkF m 0 #[iv 10, iv 1] [])) (by first | rfl | (simp [entryFrame, mkF, argsToLocals, Value.category]; done)) ?_
  refine oWk.to (mkF m 10 #[iv 10, iv 1] [(.int 10)]) (fun _ kt => zI X hx hby d35_0 rfl rfl (zI X hx hby d35_1 rfl rfl (zN X hx hby d35_2 rfl rfl (flt (by decide)).1 (zI X hx hby d35_5 rfl rfl (zG X hx hby d35_6 rfl (pc' := 10) rfl kt))))) ?_
  exact oRetI X hx hlk hret (hb hby d35_10) (by rw [e0]; exact ⟨rfl, rfl, K⟩) (by decide) (by decide)
def Q_rGr1 (Z : State) (xa xd : Addr) (xk : ClassId) (xm : Int32) (h0 : Heap) (v : Option Value) (h : Heap) (L : List Loc) : Prop := ∃ (nd : Addr) (nk : ClassId), v = some (.ref nd) ∧ oKp h0 h [xa] L ∧ (Exa Z h xa Y1) ∧ (Fld Z h xa Y1 "elementData" Y7 (.ref nd)) ∧ (Fld Z h xa Y1 "size" "I" (.int (0 : Int32))) ∧ (Fld Z h xa Y8 "modCount" "I" (.int xm)) ∧ (h0.size ≤ nd) ∧ (Exa Z h nd Y7) ∧ (Arv Z h nd nk (.object Y6) (10 : Int32) [.null, .null, .null, .null, .null, .null, .null, .null, .null, .null] .null) ∧ (Ovr Z nk Y6)
abbrev yy71 : MethodName := ⟨"java/util/ArrayList", "grow", "(I)[Ljava/lang/Object;"⟩
theorem d34_0 : decode b17_ 0 = .ok (.aload_n 0, 1) := by decide +kernel
theorem d34_1 : decode b17_ 1 = .ok (.getfield 9, 3) := by decide +kernel
theorem d34_4 : decode b17_ 4 = .ok (.arraylength, 1) := by decide +kernel
theorem d34_5 : decode b17_ 5 = .ok (.istore_n 2, 1) := by decide +kernel
theorem d34_6 : decode b17_ 6 = .ok (.iload_n 2, 1) := by decide +kernel
theorem d34_7 : decode b17_ 7 = .ok (.ifCond .gt 13, 3) := by decide +kernel
theorem d34_10 : decode b17_ 10 = .ok (.aload_n 0, 1) := by decide +kernel
theorem d34_11 : decode b17_ 11 = .ok (.getfield 9, 3) := by decide +kernel
theorem d34_14 : decode b17_ 14 = .ok (.getstatic 39, 3) := by decide +kernel
theorem d34_17 : decode b17_ 17 = .ok (.if_acmp .eq 28, 3) := by decide +kernel
theorem d34_45 : decode b17_ 45 = .ok (.aload_n 0, 1) := by decide +kernel
theorem d34_46 : decode b17_ 46 = .ok (.bipush 10, 2) := by decide +kernel
theorem d34_48 : decode b17_ 48 = .ok (.iload_n 1, 1) := by decide +kernel
theorem d34_49 : decode b17_ 49 = .ok (.invokestatic 79, 3) := by decide +kernel
theorem cs61 {a0 : Array Value} {Z : State} (hw : oHW a0 Z) : oCall Z Y1 (.invokestatic 79) yy44 b36_ 2 (some .int) (oRs 2) := oCall.stat (oW hw 181 rfl) (oW hw 182 rfl) (oW hw 183 rfl) (oW hw 184 rfl) (by decide) pd_18
theorem d34_52 : decode b17_ 52 = .ok (.anewarray 7, 3) := by decide +kernel
theorem d34_55 : decode b17_ 55 = .ok (.dup_x1, 1) := by decide +kernel
theorem d34_56 : decode b17_ 56 = .ok (.putfield 9, 3) := by decide +kernel
theorem d34_59 : decode b17_ 59 = .ok (.areturn, 1) := by decide +kernel
theorem rGr1 (l : Launch) (Z : State) (a0 : Array Value) (hw : oHW a0 Z) (ws : List Jvm.Cond) (xa xd : Addr) (xk : ClassId) (xm : Int32) (h0 : Heap) (O0 : Ext Z.heap h0) (S_D : Sta Z Z.heap Y1 Y24 Y7 (.ref xd)) (og_xa : Z.heap.size ≤ xa) (E_xa : Exa Z h0 xa Y1) (F_elementData_xa : Fld Z h0 xa Y1 "elementData" Y7 (.ref xd)) (F_size_xa : Fld Z h0 xa Y1 "size" "I" (.int (0 : Int32))) (F_modCount_xa : Fld Z h0 xa Y8 "modCount" "I" (.int xm)) (V_xd : Arv Z h0 xd xk (.object Y6) (0 : Int32) [] .null) :
    oCon l Z yy71 b17_ 4 (some (.array (.object Y6))) ws ({ frames := 1, cells := 1, slots := 10, locals := 14 } : Room) #[(.ref xa), (.int (1 : Int32))] h0 (Q_rGr1 Z xa xd xk xm h0) := by
  refine oCon.of (plainFor_of_name pn_8) ?_
  intro p e s m below meth c T X hx hby hml hown hnm hret hlk hZ e0
  have hml : c.maxLocals = 4 := hml
  have K : oKp h0 h0 [xa] [] := oKp.nil _ _
  refine oWk.cast (g' := (mkF m 0 #[rv xa, iv 1, uu, uu] [])) (by first | rfl | (simp [entryFrame, mkF, argsToLocals, Value.category]; done)) ?_
  refine oWk.st (fun _ kt => zA X hx hby d34_0 rfl rfl rfl kt) ?_
  obtain ⟨T, X, e0, st⟩ := getF X hx hZ hown (host := "") (Or.inl (oW hw 95 rfl)) Via.refl e0 F_elementData_xa (g := (mkF m 1 #[rv xa, iv 1, uu, uu] [(.ref xa)])) rfl rfl (hb hby d34_1)
  refine oWk.st (fun _ kt => st _ (oAl X hx hZ e0 V_xd hby d34_4 rfl rfl (zSn X hx hby d34_5 rfl rfl (l' := #[rv xa, iv 1, iv 0, uu]) rfl (zI X hx hby d34_6 rfl rfl (zH X hx hby d34_7 rfl rfl ((if0 _ _).trans (flt (by decide)).2.2.1) (zA X hx hby d34_10 rfl rfl rfl kt)))))) ?_
  obtain ⟨T, X, e0, st⟩ := getF X hx hZ hown (host := "") (Or.inl (oW hw 95 rfl)) Via.refl e0 F_elementData_xa (g := (mkF m 11 #[rv xa, iv 1, iv 0, uu] [(.ref xa)])) rfl rfl (hb hby d34_11)
  refine oWk.st (fun _ kt => st _ kt) ?_
  have Oh := K.old O0 (allS og_xa all0)
  obtain ⟨T, X, e0, st⟩ := getS2 X hx hZ hown (host := "") (Or.inl (oW hw 94 rfl)) Via.refl e0 (S_D.ext Oh) (g := (mkF m 14 #[rv xa, iv 1, iv 0, uu] [(.ref xd)])) rfl (hb hby d34_14)
  refine oWk.st (fun _ kt => st _ kt) ?_
  refine oWk.to (mkF m 45 #[rv xa, iv 1, iv 0, uu] []) (fun _ kt => Jvm.RoadKit.acmp (g := (mkF m 17 #[rv xa, iv 1, iv 0, uu] [(.ref xd), (.ref xd)])) X hx rfl rfl rfl (pc0 := 17) (pc' := 45) (same := true) rfl (hb hby d34_17) rfl (decide_eq_true rfl) (by decide) (by decide) kt) ?_
  refine oWk.st (fun _ kt => zA X hx hby d34_45 rfl rfl rfl (zL X hx hby d34_46 rfl (zI X hx hby d34_48 rfl rfl kt))) ?_
  obtain ⟨T, L3, X, e0, K, st⟩ := (cs61 hw).pure X hx hZ hown e0 K (A := [(.int (10 : Int32)), (.int (1 : Int32))]) rfl (rMax l Z a0 hw []  h0 Oh ) (W := 1) (by decide) hml (Ls := #[rv xa, iv 1, iv 0, uu]) rfl (rest := [(.ref xa)]) rfl rfl hby d34_49
  refine oWk.st (fun _ kt => st _ kt) ?_
  obtain ⟨o4, g4⟩ : ∃ z, z = h0.size := ⟨_, rfl⟩
  have ne_xa_o4 : xa ≠ o4 := Nat.ne_of_lt (Nat.lt_of_lt_of_le E_xa.lt (Nat.le_of_eq g4.symm))
  have ne_xd_o4 : xd ≠ o4 := Nat.ne_of_lt (Nat.lt_of_lt_of_le V_xd.lt (Nat.le_of_eq g4.symm))
  have ge_o4 : h0.size ≤ o4 := Nat.le_trans K.le (Nat.le_of_eq g4.symm)
  obtain ⟨T, h, k4, X, e0, E4, A4, E_o4, O4, st⟩ := newRE X hx hZ hown (oW hw 185 rfl) (oW hw 186 rfl) e0 (g := (mkF m 52 #[rv xa, iv 1, iv 0, uu] [(.int 10), (.ref xa)])) rfl (hb hby d34_52) rfl (by decide) (cap := 10) (by decide) (by decide) (by decide) (by decide) (ad := Y7) (by decide)
  rw [← g4] at A4 E_o4 st
  have K := K.ext E4
  have V_o4 : Arv Z h o4 k4 (.object Y6) (10 : Int32) [.null, .null, .null, .null, .null, .null, .null, .null, .null, .null] .null := (Arv.new A4 (by decide)).pad (pad_rep [] .null 10)
  refine oWk.st (fun _ kt => st _ (XS.dupX1 X.here hx rfl (hb hby d34_55) rfl rfl rfl kt)) ?_
  have E_xa := (E_xa.ext E4)
  have F_elementData_xa := (F_elementData_xa.ext E4)
  obtain ⟨T, h, X, e0, W5, st⟩ := putF X hx hZ hown (host := "") (Or.inl (oW hw 95 rfl)) Via.refl e0 F_elementData_xa E_xa (Or.inl (oW hw 96 rfl)) (oW hw 74 rfl) (ty := (.array (.object Y6))) (by decide) rfl rfl (g := (mkF m 56 #[rv xa, iv 1, iv 0, uu] [(.ref o4), (.ref xa), (.ref o4)])) rfl rfl (hb hby d34_56)
  have K := K.wr W5 (Or.inl (List.mem_of_getElem? (i := 0) rfl))
  have F_elementData_xa := F_elementData_xa.same W5
  refine oWk.to (mkF m 59 #[rv xa, iv 1, iv 0, uu] [(.ref o4)]) (fun _ kt => st _ kt) ?_
  have E_xa := (E_xa.wr W5)
  have F_size_xa := ((F_size_xa.ext E4).other W5 (Or.inr (slot_ne (Or.inl (oW hw 165 rfl)) (Or.inl (oW hw 96 rfl)) (by decide) (t := .int) (t' := (.array (.object Y6))) (by decide) (by decide))))
  have F_modCount_xa := ((F_modCount_xa.ext E4).other W5 (Or.inr (slot_ne (Or.inl (oW hw 93 rfl)) (Or.inl (oW hw 96 rfl)) (by decide) (t := .int) (t' := (.array (.object Y6))) (by decide) (by decide))))
  have E_o4 := (E_o4.wr W5)
  have V_o4 := (V_o4.other W5 (Ne.symm ne_xa_o4))
  exact oRetA X hx hlk hret rfl rfl (hb hby d34_59) (by rw [e0]; exact ⟨o4, k4, rfl, K, E_xa, F_elementData_xa, F_size_xa, F_modCount_xa, ge_o4, E_o4, V_o4, O4⟩) (by decide) (by decide)
def Q_rGr0 (Z : State) (xa xd : Addr) (xk : ClassId) (xm : Int32) (h0 : Heap) (v : Option Value) (h : Heap) (L : List Loc) : Prop := ∃ (nd : Addr) (nk : ClassId), v = some (.ref nd) ∧ oKp h0 h [xa] L ∧ (Exa Z h xa Y1) ∧ (Fld Z h xa Y1 "elementData" Y7 (.ref nd)) ∧ (Fld Z h xa Y1 "size" "I" (.int (0 : Int32))) ∧ (Fld Z h xa Y8 "modCount" "I" (.int xm)) ∧ (h0.size ≤ nd) ∧ (Exa Z h nd Y7) ∧ (Arv Z h nd nk (.object Y6) (10 : Int32) [.null, .null, .null, .null, .null, .null, .null, .null, .null, .null] .null) ∧ (Ovr Z nk Y6)
abbrev yy72 : MethodName := ⟨"java/util/ArrayList", "grow", "()[Ljava/lang/Object;"⟩
theorem d33_0 : decode b48_ 0 = .ok (.aload_n 0, 1) := by decide +kernel
theorem d33_1 : decode b48_ 1 = .ok (.aload_n 0, 1) := by decide +kernel
theorem d33_2 : decode b48_ 2 = .ok (.getfield 48, 3) := by decide +kernel
theorem d33_5 : decode b48_ 5 = .ok (.iconst 1, 1) := by decide +kernel
theorem d33_6 : decode b48_ 6 = .ok (.iadd, 1) := by decide +kernel
theorem d33_7 : decode b48_ 7 = .ok (.invokevirtual 69, 3) := by decide +kernel
theorem pd_36 : parseMethodDescriptor "(I)[Ljava/lang/Object;" = some ⟨[.int], some (.array (.object "java/lang/Object"))⟩ := by decide +kernel
theorem cs62 {a0 : Array Value} {Z : State} (hw : oHW a0 Z) : oCall Z Y1 (.invokevirtual 69) yy71 b17_ 4 (some (.array (.object Y6))) (oRv Z 1 Y1) := oCall.priv (oW hw 176 rfl) (oW hw 177 rfl) (oW hw 179 rfl) (oW hw 178 rfl) (oW hw 75 rfl) (oW hw 180 rfl) (by decide) pd_36 _
theorem d33_10 : decode b48_ 10 = .ok (.areturn, 1) := by decide +kernel
theorem rGr0 (l : Launch) (Z : State) (a0 : Array Value) (hw : oHW a0 Z) (ws : List Jvm.Cond) (xa xd : Addr) (xk : ClassId) (xm : Int32) (h0 : Heap) (O0 : Ext Z.heap h0) (S_D : Sta Z Z.heap Y1 Y24 Y7 (.ref xd)) (og_xa : Z.heap.size ≤ xa) (E_xa : Exa Z h0 xa Y1) (F_elementData_xa : Fld Z h0 xa Y1 "elementData" Y7 (.ref xd)) (F_size_xa : Fld Z h0 xa Y1 "size" "I" (.int (0 : Int32))) (F_modCount_xa : Fld Z h0 xa Y8 "modCount" "I" (.int xm)) (V_xd : Arv Z h0 xd xk (.object Y6) (0 : Int32) [] .null) :
    oCon l Z yy72 b48_ 1 (some (.array (.object Y6))) ws ({ frames := 2, cells := 1, slots := 10, locals := 29 } : Room) #[(.ref xa)] h0 (Q_rGr0 Z xa xd xk xm h0) := by
  refine oCon.of (plainFor_of_name pn_8) ?_
  intro p e s m below meth c T X hx hby hml hown hnm hret hlk hZ e0
  have hml : c.maxLocals = 1 := hml
  have K : oKp h0 h0 [xa] [] := oKp.nil _ _
  refine oWk.cast (g' := (mkF m 0 #[rv xa] [])) (by first | rfl | (simp [entryFrame, mkF, argsToLocals, Value.category]; done)) ?_
  refine oWk.st (fun _ kt => zA X hx hby d33_0 rfl rfl rfl (zA X hx hby d33_1 rfl rfl rfl kt)) ?_
  obtain ⟨T, X, e0, st⟩ := getF X hx hZ hown (host := "") (Or.inl (oW hw 164 rfl)) Via.refl e0 F_size_xa (g := (mkF m 2 #[rv xa] [(.ref xa), (.ref xa)])) rfl rfl (hb hby d33_2)
  refine oWk.st (fun _ kt => st _ (zK X hx hby d33_5 rfl (XS.iadd X.here hx rfl (hb hby d33_6) rfl kt))) ?_
  have lt_xa := E_xa.lt
  have lt_xd := V_xd.lt
  have Oh := K.old O0 (allS og_xa all0)
  obtain ⟨_, T, h, Lc2, X, e0, hQ, st⟩ := (cs62 hw).run X hx hZ hown e0 (A := [(.ref xa), (.int (1 : Int32))]) ⟨rfl, _, _, rfl, E_xa⟩ (rGr1 l Z a0 hw [] xa xd xk xm h0 Oh S_D og_xa E_xa F_elementData_xa F_size_xa F_modCount_xa V_xd) (W := 0) (by decide) hml (Ls := #[rv xa]) rfl (rest := []) rfl rfl hby d33_7
  obtain ⟨nd1, nk1, rfl, K1, E_xa, F_elementData_xa, F_size_xa, F_modCount_xa, gn_nd1, E_nd1, V_nd1, ov_nk1⟩ := hQ
  have ge_nd1 := Nat.le_trans K.le gn_nd1
  have ne_xa_nd1 : xa ≠ nd1 := Nat.ne_of_lt (Nat.lt_of_lt_of_le lt_xa gn_nd1)
  have ne_xd_nd1 : xd ≠ nd1 := Nat.ne_of_lt (Nat.lt_of_lt_of_le lt_xd gn_nd1)
  have K := K.call K1 (allS (Or.inl (List.mem_of_getElem? (i := 0) rfl)) all0)
  refine oWk.to (mkF m 10 #[rv xa] [(.ref nd1)]) (fun _ kt => st _ kt) ?_
  exact oRetA X hx hlk hret rfl rfl (hb hby d33_10) (by rw [e0]; exact ⟨nd1, nk1, rfl, K, E_xa, F_elementData_xa, F_size_xa, F_modCount_xa, ge_nd1, E_nd1, V_nd1, ov_nk1⟩) (by decide) (by decide)
def Q_rA3_0 (Z : State) (xa xx xd : Addr) (xk : ClassId) (xm : Int32) (h0 : Heap) (v : Option Value) (h : Heap) (L : List Loc) : Prop := ∃ (nd : Addr) (nk : ClassId), v = none ∧ oKp h0 h [xa] L ∧ (Exa Z h xa Y1) ∧ (Fld Z h xa Y1 "elementData" Y7 (.ref nd)) ∧ (Fld Z h xa Y1 "size" "I" (.int (1 : Int32))) ∧ (Fld Z h xa Y8 "modCount" "I" (.int xm)) ∧ (h0.size ≤ nd) ∧ (Exa Z h nd Y7) ∧ (Arv Z h nd nk (.object Y6) (10 : Int32) [(.ref xx), .null, .null, .null, .null, .null, .null, .null, .null, .null] .null) ∧ (Ovr Z nk Y6)
abbrev yy73 : MethodName := ⟨"java/util/ArrayList", "add", "(Ljava/lang/Object;[Ljava/lang/Object;I)V"⟩
theorem d32_0 : decode b18_ 0 = .ok (.iload_n 3, 1) := by decide +kernel
theorem d32_1 : decode b18_ 1 = .ok (.aload_n 2, 1) := by decide +kernel
theorem d32_2 : decode b18_ 2 = .ok (.arraylength, 1) := by decide +kernel
theorem d32_3 : decode b18_ 3 = .ok (.if_icmp .ne 8, 3) := by decide +kernel
theorem d32_6 : decode b18_ 6 = .ok (.aload_n 0, 1) := by decide +kernel
theorem d32_7 : decode b18_ 7 = .ok (.invokevirtual 129, 3) := by decide +kernel
theorem pd_37 : parseMethodDescriptor "()[Ljava/lang/Object;" = some ⟨[], some (.array (.object "java/lang/Object"))⟩ := by decide +kernel
theorem cs63 {a0 : Array Value} {Z : State} (hw : oHW a0 Z) : oCall Z Y1 (.invokevirtual 129) yy72 b48_ 1 (some (.array (.object Y6))) (oRv Z 0 Y1) := oCall.priv (oW hw 171 rfl) (oW hw 172 rfl) (oW hw 174 rfl) (oW hw 173 rfl) (oW hw 75 rfl) (oW hw 175 rfl) (by decide) pd_37 _
theorem d32_10 : decode b18_ 10 = .ok (.astore_n 2, 1) := by decide +kernel
theorem d32_11 : decode b18_ 11 = .ok (.aload_n 2, 1) := by decide +kernel
theorem d32_12 : decode b18_ 12 = .ok (.iload_n 3, 1) := by decide +kernel
theorem d32_13 : decode b18_ 13 = .ok (.aload_n 1, 1) := by decide +kernel
theorem d32_14 : decode b18_ 14 = .ok (.aastore, 1) := by decide +kernel
theorem d32_15 : decode b18_ 15 = .ok (.aload_n 0, 1) := by decide +kernel
theorem d32_16 : decode b18_ 16 = .ok (.iload_n 3, 1) := by decide +kernel
theorem d32_17 : decode b18_ 17 = .ok (.iconst 1, 1) := by decide +kernel
theorem d32_18 : decode b18_ 18 = .ok (.iadd, 1) := by decide +kernel
theorem d32_19 : decode b18_ 19 = .ok (.putfield 48, 3) := by decide +kernel
theorem d32_22 : decode b18_ 22 = .ok (.return_, 1) := by decide +kernel
theorem rA3_0 (l : Launch) (Z : State) (a0 : Array Value) (hw : oHW a0 Z) (ws : List Jvm.Cond) (xa xx xd : Addr) (xk : ClassId) (xm : Int32) (h0 : Heap) (O0 : Ext Z.heap h0) (S_D : Sta Z Z.heap Y1 Y24 Y7 (.ref xd)) (og_xa : Z.heap.size ≤ xa) (E_xa : Exa Z h0 xa Y1) (F_elementData_xa : Fld Z h0 xa Y1 "elementData" Y7 (.ref xd)) (F_size_xa : Fld Z h0 xa Y1 "size" "I" (.int (0 : Int32))) (F_modCount_xa : Fld Z h0 xa Y8 "modCount" "I" (.int xm)) (V_xd : Arv Z h0 xd xk (.object Y6) (0 : Int32) [] .null) (I_xx : Ins Z h0 xx Y6 true) (ne_xa_xx : xa ≠ xx) :
    oCon l Z yy73 b18_ 4 none ws ({ frames := 3, cells := 1, slots := 10, locals := 41 } : Room) #[(.ref xa), (.ref xx), (.ref xd), (.int (0 : Int32))] h0 (Q_rA3_0 Z xa xx xd xk xm h0) := by
  refine oCon.of (plainFor_of_name pn_8) ?_
  intro p e s m below meth c T X hx hby hml hown hnm hret hlk hZ e0
  have hml : c.maxLocals = 4 := hml
  have K : oKp h0 h0 [xa] [] := oKp.nil _ _
  refine oWk.cast (g' := (mkF m 0 #[rv xa, rv xx, rv xd, iv 0] [])) (by first | rfl | (simp [entryFrame, mkF, argsToLocals, Value.category]; done)) ?_
  refine oWk.st (fun _ kt => zI X hx hby d32_0 rfl rfl (zA X hx hby d32_1 rfl rfl rfl (oAl X hx hZ e0 V_xd hby d32_2 rfl rfl (zN X hx hby d32_3 rfl rfl (teq (by decide)).2 (zA X hx hby d32_6 rfl rfl rfl kt))))) ?_
  have lt_xa := E_xa.lt
  have lt_xd := V_xd.lt
  have Oh := K.old O0 (allS og_xa all0)
  obtain ⟨_, T, h, Lc3, X, e0, hQ, st⟩ := (cs63 hw).run X hx hZ hown e0 (A := [(.ref xa)]) ⟨rfl, _, _, rfl, E_xa⟩ (rGr0 l Z a0 hw [] xa xd xk xm h0 Oh S_D og_xa E_xa F_elementData_xa F_size_xa F_modCount_xa V_xd) (W := 0) (by decide) hml (Ls := #[rv xa, rv xx, rv xd, iv 0]) rfl (rest := []) rfl rfl hby d32_7
  obtain ⟨nd2, nk2, rfl, K2, E_xa, F_elementData_xa, F_size_xa, F_modCount_xa, gn_nd2, E_nd2, V_nd2, ov_nk2⟩ := hQ
  have ge_nd2 := Nat.le_trans K.le gn_nd2
  have ne_xa_nd2 : xa ≠ nd2 := Nat.ne_of_lt (Nat.lt_of_lt_of_le lt_xa gn_nd2)
  have ne_xd_nd2 : xd ≠ nd2 := Nat.ne_of_lt (Nat.lt_of_lt_of_le lt_xd gn_nd2)
  have K := K.call K2 (allS (Or.inl (List.mem_of_getElem? (i := 0) rfl)) all0)
  refine oWk.st (fun _ kt => st _ (zTn X hx hby d32_10 rfl rfl rfl (l' := #[rv xa, rv xx, rv nd2, iv 0]) rfl (zA X hx hby d32_11 rfl rfl rfl (zI X hx hby d32_12 rfl rfl (zA X hx hby d32_13 rfl rfl rfl kt))))) ?_
  have I_xx := (oInsKeep I_xx K2.1)
  obtain ⟨cl4, Ar4, q4, Sz4, Nn4, Hs4, Ft4⟩ := id V_nd2
  have hin4 : ¬ ((0 : Int32) < 0 ∨ cl4.slots.size ≤ ((0 : Int32)).toNatClampNeg) := inb_of Sz4 ⟨by decide, by decide⟩
  obtain ⟨T, h, X, e0, W4, st⟩ := stR X hx hZ e0 Ar4 (j := (0 : Int32)) hin4 rfl (Sto.ofV Ar4 q4 ov_nk2 I_xx) (g := (mkF m 14 #[rv xa, rv xx, rv nd2, iv 0] [(.ref xx), (.int 0), (.ref nd2)])) rfl rfl (hb hby d32_14)
  have K := K.wr W4 (Or.inr ge_nd2)
  have V_nd2 : Arv Z h nd2 nk2 (.object Y6) (10 : Int32) [(.ref xx), .null, .null, .null, .null, .null, .null, .null, .null, .null] .null := Arv.set Ar4 q4 Sz4 Nn4 Hs4 Ft4 rfl W4 0 rfl (Nat.le_of_ble_eq_true rfl)
  refine oWk.st (fun _ kt => st _ (zA X hx hby d32_15 rfl rfl rfl (zI X hx hby d32_16 rfl rfl (zK X hx hby d32_17 rfl (XS.iadd X.here hx rfl (hb hby d32_18) rfl kt))))) ?_
  have E_xa := (E_xa.wr W4)
  have F_size_xa := (F_size_xa.other W4 (Or.inl ne_xa_nd2))
  obtain ⟨T, h, X, e0, W5, st⟩ := putF X hx hZ hown (host := "") (Or.inl (oW hw 164 rfl)) Via.refl e0 F_size_xa E_xa (Or.inl (oW hw 165 rfl)) (oW hw 74 rfl) (ty := .int) (by decide) rfl rfl (g := (mkF m 19 #[rv xa, rv xx, rv nd2, iv 0] [(.int 1), (.ref xa)])) rfl rfl (hb hby d32_19)
  have K := K.wr W5 (Or.inl (List.mem_of_getElem? (i := 0) rfl))
  have F_size_xa := F_size_xa.same W5
  refine oWk.to (mkF m 22 #[rv xa, rv xx, rv nd2, iv 0] []) (fun _ kt => st _ kt) ?_
  have E_xa := (E_xa.wr W5)
  have F_elementData_xa := ((F_elementData_xa.other W4 (Or.inl ne_xa_nd2)).other W5 (Or.inr (slot_ne (Or.inl (oW hw 96 rfl)) (Or.inl (oW hw 165 rfl)) (by decide) (t := (.array (.object Y6))) (t' := .int) (by decide) (by decide))))
  have F_modCount_xa := ((F_modCount_xa.other W4 (Or.inl ne_xa_nd2)).other W5 (Or.inr (slot_ne (Or.inl (oW hw 93 rfl)) (Or.inl (oW hw 165 rfl)) (by decide) (t := .int) (t' := .int) (by decide) (by decide))))
  have E_nd2 := ((E_nd2.wr W4).wr W5)
  have V_nd2 := (V_nd2.other W5 (Ne.symm ne_xa_nd2))
  exact oRetV X hx hlk hret (hb hby d32_22) (by rw [e0]; exact ⟨nd2, nk2, rfl, K, E_xa, F_elementData_xa, F_size_xa, F_modCount_xa, ge_nd2, E_nd2, V_nd2, ov_nk2⟩) (by decide) (by decide)
def Q_rAd_0 (Z : State) (xa xx xd : Addr) (xk : ClassId) (xm : Int32) (h0 : Heap) (v : Option Value) (h : Heap) (L : List Loc) : Prop := ∃ (nd : Addr) (nk : ClassId), v = some (.int (1 : Int32)) ∧ oKp h0 h [xa] L ∧ (Exa Z h xa Y1) ∧ (Fld Z h xa Y1 "elementData" Y7 (.ref nd)) ∧ (Fld Z h xa Y1 "size" "I" (.int (1 : Int32))) ∧ (Fld Z h xa Y8 "modCount" "I" (.int (xm + (1 : Int32)))) ∧ (h0.size ≤ nd) ∧ (Exa Z h nd Y7) ∧ (Arv Z h nd nk (.object Y6) (10 : Int32) [(.ref xx), .null, .null, .null, .null, .null, .null, .null, .null, .null] .null) ∧ (Ovr Z nk Y6)
abbrev yy74 : MethodName := ⟨"java/util/ArrayList", "add", "(Ljava/lang/Object;)Z"⟩
theorem d31_0 : decode b19_ 0 = .ok (.aload_n 0, 1) := by decide +kernel
theorem d31_1 : decode b19_ 1 = .ok (.dup, 1) := by decide +kernel
theorem d31_2 : decode b19_ 2 = .ok (.getfield 63, 3) := by decide +kernel
theorem d31_5 : decode b19_ 5 = .ok (.iconst 1, 1) := by decide +kernel
theorem d31_6 : decode b19_ 6 = .ok (.iadd, 1) := by decide +kernel
theorem d31_7 : decode b19_ 7 = .ok (.putfield 63, 3) := by decide +kernel
theorem d31_10 : decode b19_ 10 = .ok (.aload_n 0, 1) := by decide +kernel
theorem d31_11 : decode b19_ 11 = .ok (.aload_n 1, 1) := by decide +kernel
theorem d31_12 : decode b19_ 12 = .ok (.aload_n 0, 1) := by decide +kernel
theorem d31_13 : decode b19_ 13 = .ok (.getfield 9, 3) := by decide +kernel
theorem d31_16 : decode b19_ 16 = .ok (.aload_n 0, 1) := by decide +kernel
theorem d31_17 : decode b19_ 17 = .ok (.getfield 48, 3) := by decide +kernel
theorem d31_20 : decode b19_ 20 = .ok (.invokevirtual 131, 3) := by decide +kernel
theorem pd_38 : parseMethodDescriptor "(Ljava/lang/Object;[Ljava/lang/Object;I)V" = some ⟨[(.object "java/lang/Object"), (.array (.object "java/lang/Object")), .int], none⟩ := by decide +kernel
theorem cs64 {a0 : Array Value} {Z : State} (hw : oHW a0 Z) : oCall Z Y1 (.invokevirtual 131) yy73 b18_ 4 none (oRv Z 3 Y1) := oCall.priv (oW hw 166 rfl) (oW hw 167 rfl) (oW hw 169 rfl) (oW hw 168 rfl) (oW hw 75 rfl) (oW hw 170 rfl) (by decide) pd_38 _
theorem d31_23 : decode b19_ 23 = .ok (.iconst 1, 1) := by decide +kernel
theorem d31_24 : decode b19_ 24 = .ok (.ireturn, 1) := by decide +kernel
theorem rAd_0 (l : Launch) (Z : State) (a0 : Array Value) (hw : oHW a0 Z) (ws : List Jvm.Cond) (xa xx xd : Addr) (xk : ClassId) (xm : Int32) (h0 : Heap) (O0 : Ext Z.heap h0) (S_D : Sta Z Z.heap Y1 Y24 Y7 (.ref xd)) (og_xa : Z.heap.size ≤ xa) (E_xa : Exa Z h0 xa Y1) (F_elementData_xa : Fld Z h0 xa Y1 "elementData" Y7 (.ref xd)) (F_size_xa : Fld Z h0 xa Y1 "size" "I" (.int (0 : Int32))) (F_modCount_xa : Fld Z h0 xa Y8 "modCount" "I" (.int xm)) (V_xd : Arv Z h0 xd xk (.object Y6) (0 : Int32) [] .null) (I_xx : Ins Z h0 xx Y6 true) (ne_xa_xx : xa ≠ xx) (ne_xa_xd : xa ≠ xd) :
    oCon l Z yy74 b19_ 2 (some .boolean) ws ({ frames := 4, cells := 1, slots := 10, locals := 56 } : Room) #[(.ref xa), (.ref xx)] h0 (Q_rAd_0 Z xa xx xd xk xm h0) := by
  refine oCon.of (plainFor_of_name pn_8) ?_
  intro p e s m below meth c T X hx hby hml hown hnm hret hlk hZ e0
  have hml : c.maxLocals = 2 := hml
  have K : oKp h0 h0 [xa] [] := oKp.nil _ _
  refine oWk.cast (g' := (mkF m 0 #[rv xa, rv xx] [])) (by first | rfl | (simp [entryFrame, mkF, argsToLocals, Value.category]; done)) ?_
  refine oWk.st (fun _ kt => zA X hx hby d31_0 rfl rfl rfl (zD X hx hby d31_1 rfl rfl rfl kt)) ?_
  obtain ⟨T, X, e0, st⟩ := getF X hx hZ hown (host := "") (Or.inl (oW hw 162 rfl)) (Via.of (oW hw 163 rfl)) e0 F_modCount_xa (g := (mkF m 2 #[rv xa, rv xx] [(.ref xa), (.ref xa)])) rfl rfl (hb hby d31_2)
  refine oWk.st (fun _ kt => st _ (zK X hx hby d31_5 rfl (XS.iadd X.here hx rfl (hb hby d31_6) rfl kt))) ?_
  obtain ⟨T, h, X, e0, W1, st⟩ := putF X hx hZ hown (host := "") (Or.inl (oW hw 162 rfl)) (Via.of (oW hw 163 rfl)) e0 F_modCount_xa E_xa (Or.inl (oW hw 93 rfl)) (oW hw 74 rfl) (ty := .int) (by decide) rfl rfl (g := (mkF m 7 #[rv xa, rv xx] [(.int (xm + (1 : Int32))), (.ref xa)])) rfl rfl (hb hby d31_7)
  have K := K.wr W1 (Or.inl (List.mem_of_getElem? (i := 0) rfl))
  have F_modCount_xa := F_modCount_xa.same W1
  refine oWk.st (fun _ kt => st _ (zA X hx hby d31_10 rfl rfl rfl (zA X hx hby d31_11 rfl rfl rfl (zA X hx hby d31_12 rfl rfl rfl kt)))) ?_
  have F_elementData_xa := (F_elementData_xa.other W1 (Or.inr (slot_ne (Or.inl (oW hw 96 rfl)) (Or.inl (oW hw 93 rfl)) (by decide) (t := (.array (.object Y6))) (t' := .int) (by decide) (by decide))))
  obtain ⟨T, X, e0, st⟩ := getF X hx hZ hown (host := "") (Or.inl (oW hw 95 rfl)) Via.refl e0 F_elementData_xa (g := (mkF m 13 #[rv xa, rv xx] [(.ref xa), (.ref xx), (.ref xa)])) rfl rfl (hb hby d31_13)
  refine oWk.st (fun _ kt => st _ (zA X hx hby d31_16 rfl rfl rfl kt)) ?_
  have F_size_xa := (F_size_xa.other W1 (Or.inr (slot_ne (Or.inl (oW hw 165 rfl)) (Or.inl (oW hw 93 rfl)) (by decide) (t := .int) (t' := .int) (by decide) (by decide))))
  obtain ⟨T, X, e0, st⟩ := getF X hx hZ hown (host := "") (Or.inl (oW hw 164 rfl)) Via.refl e0 F_size_xa (g := (mkF m 17 #[rv xa, rv xx] [(.ref xa), (.ref xd), (.ref xx), (.ref xa)])) rfl rfl (hb hby d31_17)
  refine oWk.st (fun _ kt => st _ kt) ?_
  have E_xa := (E_xa.wr W1)
  have V_xd := (V_xd.other W1 (Ne.symm ne_xa_xd))
  have I_xx := (I_xx.wr W1)
  have lt_xa := E_xa.lt
  have lt_xd := V_xd.lt
  have Oh := K.old O0 (allS og_xa all0)
  obtain ⟨_, T, h, Lc3, X, e0, hQ, st⟩ := (cs64 hw).run X hx hZ hown e0 (A := [(.ref xa), (.ref xx), (.ref xd), (.int (0 : Int32))]) ⟨rfl, _, _, rfl, E_xa⟩ (rA3_0 l Z a0 hw [] xa xx xd xk (xm + (1 : Int32)) h Oh S_D og_xa E_xa F_elementData_xa F_size_xa F_modCount_xa V_xd I_xx ne_xa_xx) (W := 0) (by decide) hml (Ls := #[rv xa, rv xx]) rfl (rest := []) rfl rfl hby d31_20
  obtain ⟨nd2, nk2, rfl, K2, E_xa, F_elementData_xa, F_size_xa, F_modCount_xa, gn_nd2, E_nd2, V_nd2, ov_nk2⟩ := hQ
  have ge_nd2 := Nat.le_trans K.le gn_nd2
  have ne_xa_nd2 : xa ≠ nd2 := Nat.ne_of_lt (Nat.lt_of_lt_of_le lt_xa gn_nd2)
  have ne_xd_nd2 : xd ≠ nd2 := Nat.ne_of_lt (Nat.lt_of_lt_of_le lt_xd gn_nd2)
  have K := K.call K2 (allS (Or.inl (List.mem_of_getElem? (i := 0) rfl)) all0)
  refine oWk.to (mkF m 24 #[rv xa, rv xx] [(.int 1)]) (fun _ kt => st _ (zK X hx hby d31_23 rfl kt)) ?_
  exact oRetZ X hx hlk hret (hb hby d31_24) (Or.inr rfl) (by rw [e0]; exact ⟨nd2, nk2, rfl, K, E_xa, F_elementData_xa, F_size_xa, F_modCount_xa, ge_nd2, E_nd2, V_nd2, ov_nk2⟩) (by decide) (by decide)
def Q_rA3_1 (Z : State) (xa xx xf : Addr) (xk : ClassId) (xm : Int32) (xe0 : Addr) (h0 : Heap) (v : Option Value) (h : Heap) (L : List Loc) : Prop := v = none ∧ oKp h0 h [xa, xf] L ∧ (Exa Z h xa Y1) ∧ (Fld Z h xa Y1 "elementData" Y7 (.ref xf)) ∧ (Fld Z h xa Y1 "size" "I" (.int (2 : Int32))) ∧ (Fld Z h xa Y8 "modCount" "I" (.int xm)) ∧ (Exa Z h xf Y7) ∧ (Arv Z h xf xk (.object Y6) (10 : Int32) [(.ref xe0), (.ref xx), .null, .null, .null, .null, .null, .null, .null, .null] .null)
theorem rA3_1 (l : Launch) (Z : State) (a0 : Array Value) (hw : oHW a0 Z) (ws : List Jvm.Cond) (xa xx xf : Addr) (xk : ClassId) (xm : Int32) (xe0 : Addr) (h0 : Heap) (O0 : Ext Z.heap h0) (og_xa : Z.heap.size ≤ xa) (og_xf : Z.heap.size ≤ xf) (ne_xa_xf : xa ≠ xf) (E_xa : Exa Z h0 xa Y1) (F_elementData_xa : Fld Z h0 xa Y1 "elementData" Y7 (.ref xf)) (F_size_xa : Fld Z h0 xa Y1 "size" "I" (.int (1 : Int32))) (F_modCount_xa : Fld Z h0 xa Y8 "modCount" "I" (.int xm)) (E_xf : Exa Z h0 xf Y7) (V_xf : Arv Z h0 xf xk (.object Y6) (10 : Int32) [(.ref xe0), .null, .null, .null, .null, .null, .null, .null, .null, .null] .null) (ov_xk : Ovr Z xk Y6) (I_xx : Ins Z h0 xx Y6 true) :
    oCon l Z yy73 b18_ 4 none ws ({ frames := 0, cells := 0, slots := 0, locals := 0 } : Room) #[(.ref xa), (.ref xx), (.ref xf), (.int (1 : Int32))] h0 (Q_rA3_1 Z xa xx xf xk xm xe0 h0) := by
  refine oCon.of (plainFor_of_name pn_8) ?_
  intro p e s m below meth c T X hx hby hml hown hnm hret hlk hZ e0
  have hml : c.maxLocals = 4 := hml
  have K : oKp h0 h0 [xa, xf] [] := oKp.nil _ _
  refine oWk.cast (g' := (mkF m 0 #[rv xa, rv xx, rv xf, iv 1] [])) (by first | rfl | (simp [entryFrame, mkF, argsToLocals, Value.category]; done)) ?_
  refine oWk.to (mkF m 14 #[rv xa, rv xx, rv xf, iv 1] [(.ref xx), (.int 1), (.ref xf)]) (fun _ kt => zI X hx hby d32_0 rfl rfl (zA X hx hby d32_1 rfl rfl rfl (oAl X hx hZ e0 V_xf hby d32_2 rfl rfl (zY X hx hby d32_3 rfl rfl (feq (by decide)).2 (pc' := 11) rfl (zA X hx hby d32_11 rfl rfl rfl (zI X hx hby d32_12 rfl rfl (zA X hx hby d32_13 rfl rfl rfl kt))))))) ?_
  obtain ⟨cl2, Ar2, q2, Sz2, Nn2, Hs2, Ft2⟩ := id V_xf
  have hin2 : ¬ ((1 : Int32) < 0 ∨ cl2.slots.size ≤ ((1 : Int32)).toNatClampNeg) := inb_of Sz2 ⟨by decide, by decide⟩
  obtain ⟨T, h, X, e0, W2, st⟩ := stR X hx hZ e0 Ar2 (j := (1 : Int32)) hin2 rfl (Sto.ofV Ar2 q2 ov_xk I_xx) (g := (mkF m 14 #[rv xa, rv xx, rv xf, iv 1] [(.ref xx), (.int 1), (.ref xf)])) rfl rfl (hb hby d32_14)
  have K := K.wr W2 (Or.inl (List.mem_of_getElem? (i := 1) rfl))
  have V_xf : Arv Z h xf xk (.object Y6) (10 : Int32) [(.ref xe0), (.ref xx), .null, .null, .null, .null, .null, .null, .null, .null] .null := Arv.set Ar2 q2 Sz2 Nn2 Hs2 Ft2 rfl W2 1 rfl (Nat.le_of_ble_eq_true rfl)
  refine oWk.st (fun _ kt => st _ (zA X hx hby d32_15 rfl rfl rfl (zI X hx hby d32_16 rfl rfl (zK X hx hby d32_17 rfl (XS.iadd X.here hx rfl (hb hby d32_18) rfl kt))))) ?_
  have E_xa := (E_xa.wr W2)
  have F_size_xa := (F_size_xa.other W2 (Or.inl ne_xa_xf))
  obtain ⟨T, h, X, e0, W3, st⟩ := putF X hx hZ hown (host := "") (Or.inl (oW hw 164 rfl)) Via.refl e0 F_size_xa E_xa (Or.inl (oW hw 165 rfl)) (oW hw 74 rfl) (ty := .int) (by decide) rfl rfl (g := (mkF m 19 #[rv xa, rv xx, rv xf, iv 1] [(.int 2), (.ref xa)])) rfl rfl (hb hby d32_19)
  have K := K.wr W3 (Or.inl (List.mem_of_getElem? (i := 0) rfl))
  have F_size_xa := F_size_xa.same W3
  refine oWk.to (mkF m 22 #[rv xa, rv xx, rv xf, iv 1] []) (fun _ kt => st _ kt) ?_
  have E_xa := (E_xa.wr W3)
  have F_elementData_xa := ((F_elementData_xa.other W2 (Or.inl ne_xa_xf)).other W3 (Or.inr (slot_ne (Or.inl (oW hw 96 rfl)) (Or.inl (oW hw 165 rfl)) (by decide) (t := (.array (.object Y6))) (t' := .int) (by decide) (by decide))))
  have F_modCount_xa := ((F_modCount_xa.other W2 (Or.inl ne_xa_xf)).other W3 (Or.inr (slot_ne (Or.inl (oW hw 93 rfl)) (Or.inl (oW hw 165 rfl)) (by decide) (t := .int) (t' := .int) (by decide) (by decide))))
  have E_xf := ((E_xf.wr W2).wr W3)
  have V_xf := (V_xf.other W3 (Ne.symm ne_xa_xf))
  exact oRetV X hx hlk hret (hb hby d32_22) (by rw [e0]; exact ⟨rfl, K, E_xa, F_elementData_xa, F_size_xa, F_modCount_xa, E_xf, V_xf⟩) (by decide) (by decide)
def Q_rAd_1 (Z : State) (xa xx xf : Addr) (xk : ClassId) (xm : Int32) (xe0 : Addr) (h0 : Heap) (v : Option Value) (h : Heap) (L : List Loc) : Prop := v = some (.int (1 : Int32)) ∧ oKp h0 h [xa, xf] L ∧ (Exa Z h xa Y1) ∧ (Fld Z h xa Y1 "elementData" Y7 (.ref xf)) ∧ (Fld Z h xa Y1 "size" "I" (.int (2 : Int32))) ∧ (Fld Z h xa Y8 "modCount" "I" (.int (xm + (1 : Int32)))) ∧ (Exa Z h xf Y7) ∧ (Arv Z h xf xk (.object Y6) (10 : Int32) [(.ref xe0), (.ref xx), .null, .null, .null, .null, .null, .null, .null, .null] .null)
theorem rAd_1 (l : Launch) (Z : State) (a0 : Array Value) (hw : oHW a0 Z) (ws : List Jvm.Cond) (xa xx xf : Addr) (xk : ClassId) (xm : Int32) (xe0 : Addr) (h0 : Heap) (O0 : Ext Z.heap h0) (og_xa : Z.heap.size ≤ xa) (og_xf : Z.heap.size ≤ xf) (ne_xa_xf : xa ≠ xf) (E_xa : Exa Z h0 xa Y1) (F_elementData_xa : Fld Z h0 xa Y1 "elementData" Y7 (.ref xf)) (F_size_xa : Fld Z h0 xa Y1 "size" "I" (.int (1 : Int32))) (F_modCount_xa : Fld Z h0 xa Y8 "modCount" "I" (.int xm)) (E_xf : Exa Z h0 xf Y7) (V_xf : Arv Z h0 xf xk (.object Y6) (10 : Int32) [(.ref xe0), .null, .null, .null, .null, .null, .null, .null, .null, .null] .null) (ov_xk : Ovr Z xk Y6) (I_xx : Ins Z h0 xx Y6 true) :
    oCon l Z yy74 b19_ 2 (some .boolean) ws ({ frames := 1, cells := 0, slots := 0, locals := 15 } : Room) #[(.ref xa), (.ref xx)] h0 (Q_rAd_1 Z xa xx xf xk xm xe0 h0) := by
  refine oCon.of (plainFor_of_name pn_8) ?_
  intro p e s m below meth c T X hx hby hml hown hnm hret hlk hZ e0
  have hml : c.maxLocals = 2 := hml
  have K : oKp h0 h0 [xa, xf] [] := oKp.nil _ _
  refine oWk.cast (g' := (mkF m 0 #[rv xa, rv xx] [])) (by first | rfl | (simp [entryFrame, mkF, argsToLocals, Value.category]; done)) ?_
  refine oWk.st (fun _ kt => zA X hx hby d31_0 rfl rfl rfl (zD X hx hby d31_1 rfl rfl rfl kt)) ?_
  obtain ⟨T, X, e0, st⟩ := getF X hx hZ hown (host := "") (Or.inl (oW hw 162 rfl)) (Via.of (oW hw 163 rfl)) e0 F_modCount_xa (g := (mkF m 2 #[rv xa, rv xx] [(.ref xa), (.ref xa)])) rfl rfl (hb hby d31_2)
  refine oWk.st (fun _ kt => st _ (zK X hx hby d31_5 rfl (XS.iadd X.here hx rfl (hb hby d31_6) rfl kt))) ?_
  obtain ⟨T, h, X, e0, W1, st⟩ := putF X hx hZ hown (host := "") (Or.inl (oW hw 162 rfl)) (Via.of (oW hw 163 rfl)) e0 F_modCount_xa E_xa (Or.inl (oW hw 93 rfl)) (oW hw 74 rfl) (ty := .int) (by decide) rfl rfl (g := (mkF m 7 #[rv xa, rv xx] [(.int (xm + (1 : Int32))), (.ref xa)])) rfl rfl (hb hby d31_7)
  have K := K.wr W1 (Or.inl (List.mem_of_getElem? (i := 0) rfl))
  have F_modCount_xa := F_modCount_xa.same W1
  refine oWk.st (fun _ kt => st _ (zA X hx hby d31_10 rfl rfl rfl (zA X hx hby d31_11 rfl rfl rfl (zA X hx hby d31_12 rfl rfl rfl kt)))) ?_
  have F_elementData_xa := (F_elementData_xa.other W1 (Or.inr (slot_ne (Or.inl (oW hw 96 rfl)) (Or.inl (oW hw 93 rfl)) (by decide) (t := (.array (.object Y6))) (t' := .int) (by decide) (by decide))))
  obtain ⟨T, X, e0, st⟩ := getF X hx hZ hown (host := "") (Or.inl (oW hw 95 rfl)) Via.refl e0 F_elementData_xa (g := (mkF m 13 #[rv xa, rv xx] [(.ref xa), (.ref xx), (.ref xa)])) rfl rfl (hb hby d31_13)
  refine oWk.st (fun _ kt => st _ (zA X hx hby d31_16 rfl rfl rfl kt)) ?_
  have F_size_xa := (F_size_xa.other W1 (Or.inr (slot_ne (Or.inl (oW hw 165 rfl)) (Or.inl (oW hw 93 rfl)) (by decide) (t := .int) (t' := .int) (by decide) (by decide))))
  obtain ⟨T, X, e0, st⟩ := getF X hx hZ hown (host := "") (Or.inl (oW hw 164 rfl)) Via.refl e0 F_size_xa (g := (mkF m 17 #[rv xa, rv xx] [(.ref xa), (.ref xf), (.ref xx), (.ref xa)])) rfl rfl (hb hby d31_17)
  refine oWk.st (fun _ kt => st _ kt) ?_
  have E_xa := (E_xa.wr W1)
  have E_xf := (E_xf.wr W1)
  have V_xf := (V_xf.other W1 (Ne.symm ne_xa_xf))
  have I_xx := (I_xx.wr W1)
  have Oh := K.old O0 (allS og_xa (allS og_xf all0))
  obtain ⟨_, T, h, Lc3, X, e0, hQ, st⟩ := (cs64 hw).run X hx hZ hown e0 (A := [(.ref xa), (.ref xx), (.ref xf), (.int (1 : Int32))]) ⟨rfl, _, _, rfl, E_xa⟩ (rA3_1 l Z a0 hw [] xa xx xf xk (xm + (1 : Int32)) xe0 h Oh og_xa og_xf ne_xa_xf E_xa F_elementData_xa F_size_xa F_modCount_xa E_xf V_xf ov_xk I_xx) (W := 0) (by decide) hml (Ls := #[rv xa, rv xx]) rfl (rest := []) rfl rfl hby d31_20
  obtain ⟨rfl, K2, E_xa, F_elementData_xa, F_size_xa, F_modCount_xa, E_xf, V_xf⟩ := hQ
  have K := K.call K2 (allS (Or.inl (List.mem_of_getElem? (i := 0) rfl)) (allS (Or.inl (List.mem_of_getElem? (i := 1) rfl)) all0))
  refine oWk.to (mkF m 24 #[rv xa, rv xx] [(.int 1)]) (fun _ kt => st _ (zK X hx hby d31_23 rfl kt)) ?_
  exact oRetZ X hx hlk hret (hb hby d31_24) (Or.inr rfl) (by rw [e0]; exact ⟨rfl, K, E_xa, F_elementData_xa, F_size_xa, F_modCount_xa, E_xf, V_xf⟩) (by decide) (by decide)
def Q_rLaw (Z : State) (p0 p1 p2 p3 p4 p5 : Int32) (xd : Addr) (xk : ClassId) (xfm : Value) (xz : Int32) (h0 : Heap) (v : Option Value) (h : Heap) (L : List Loc) : Prop := v = some (.int (1 : Int32)) ∧ Fr h0.size L
theorem pd_39 : parseMethodDescriptor "([C)V" = some ⟨[(.array .char)], none⟩ := by decide +kernel
theorem pd_40 : parseMethodDescriptor "(C)Ljava/lang/String;" = some ⟨[.char], some (.object "java/lang/String")⟩ := by decide +kernel
theorem cs65 {a0 : Array Value} {Z : State} (hw : oHW a0 Z) : oCall Z Y20 (.invokestatic 12) yy67 b26_ 1 (some (.object Y0)) (oRs 1) := oCall.stat (oW hw 22 rfl) (oW hw 23 rfl) (oW hw 2 rfl) (oW hw 24 rfl) (by decide) pd_40
theorem cs66 {a0 : Array Value} {Z : State} (hw : oHW a0 Z) : oCall Z Y20 (.invokespecial 9) yy59 b33_ 2 none (oRi 1) := oCall.init rfl (oW hw 4 rfl) (oW hw 5 rfl) (oW hw 2 rfl) (oW hw 6 rfl) (by decide) pd_39
theorem cs67 {a0 : Array Value} {Z : State} (hw : oHW a0 Z) : oCall Z Y20 (.invokestatic 18) yy53 method_2_code 1 (some .int) (oRs 1) := oCall.stat (oW hw 68 rfl) (oW hw 69 rfl) (oW hw 70 rfl) (oW hw 71 rfl) (by decide) pd_27
theorem cs68 {a0 : Array Value} {Z : State} (hw : oHW a0 Z) : oCall Z Y20 (.invokespecial 27) yy70 b55_ 1 none (oRi 0) := oCall.init rfl (oW hw 76 rfl) (oW hw 77 rfl) (oW hw 75 rfl) (oW hw 78 rfl) (by decide) pd_21
theorem pd_41 : parseMethodDescriptor "(ILjava/lang/String;Ljava/lang/String;Ljava/lang/String;Ljava/lang/String;)Ljava/lang/String;" = some ⟨[.int, (.object "java/lang/String"), (.object "java/lang/String"), (.object "java/lang/String"), (.object "java/lang/String")], some (.object "java/lang/String")⟩ := by decide +kernel
theorem cs69 {a0 : Array Value} {Z : State} (hw : oHW a0 Z) : oCall Z Y20 (.invokestatic 30) yy54 method_3_code 5 (some (.object Y0)) (oRs 5) := oCall.stat (oW hw 100 rfl) (oW hw 101 rfl) (oW hw 70 rfl) (oW hw 102 rfl) (by decide) pd_41
theorem pd_42 : parseMethodDescriptor "(IILjava/lang/String;)V" = some ⟨[.int, .int, (.object "java/lang/String")], none⟩ := by decide +kernel
theorem pd_43 : parseMethodDescriptor "(Ljava/lang/Object;)Z" = some ⟨[(.object "java/lang/Object")], some .boolean⟩ := by decide +kernel
theorem cs70 {a0 : Array Value} {Z : State} (hw : oHW a0 Z) : oCall Z Y20 (.invokevirtual 37) yy74 b19_ 2 (some .boolean) (oRv Z 1 Y1) := oCall.virt (oW hw 157 rfl) (oW hw 158 rfl) (fun _ hZ => notFace_of_selects (args := #[]) (mvT hZ (oW hw 160 rfl))) (oW hw 160 rfl) (oW hw 159 rfl) (oW hw 75 rfl) (oW hw 161 rfl) (by decide) pd_43
theorem cs71 {a0 : Array Value} {Z : State} (hw : oHW a0 Z) : oCall Z Y20 (.invokespecial 43) yy41 b25_ 1 none (oRi 0) := oCall.init rfl (oW hw 191 rfl) (oW hw 192 rfl) (oW hw 190 rfl) (oW hw 193 rfl) (by decide) pd_21
theorem cs72 {a0 : Array Value} {Z : State} (hw : oHW a0 Z) : oCall Z Y20 (.invokevirtual 44) yy42 b28_ 1 (some .int) (oRv Z 0 Y3) := oCall.virt (oW hw 200 rfl) (oW hw 201 rfl) (fun _ hZ => notFace_of_selects (args := #[]) (mvT hZ (oW hw 203 rfl))) (oW hw 203 rfl) (oW hw 202 rfl) (oW hw 190 rfl) (oW hw 204 rfl) (by decide) pd_6
theorem pd_44 : parseMethodDescriptor "(Ljava/util/List;)V" = some ⟨[(.object "java/util/List")], none⟩ := by decide +kernel
theorem cs73 {a0 : Array Value} {Z : State} (hw : oHW a0 Z) : oCall Z Y20 (.invokevirtual 48) yy49 b0_ 7 none (oRv Z 1 Y3) := oCall.virt (oW hw 207 rfl) (oW hw 208 rfl) (fun _ hZ => notFace_of_selects (args := #[]) (mvT hZ (oW hw 210 rfl))) (oW hw 210 rfl) (oW hw 209 rfl) (oW hw 190 rfl) (oW hw 211 rfl) (by decide) pd_44
theorem rLaw (l : Launch) (Z : State) (a0 : Array Value) (hw : oHW a0 Z) (ws : List Jvm.Cond) (p0 p1 p2 p3 p4 p5 : Int32) (xd : Addr) (xk : ClassId) (xfm : Value) (xz : Int32) (h0 : Heap) (O0 : Ext Z.heap h0) (S_D : Sta Z Z.heap Y1 Y24 Y7 (.ref xd)) (V_xd : Arv Z h0 xd xk (.object Y6) (0 : Int32) [] .null) (S_Z : Sta Z Z.heap Y0 Y9 "Z" (.int xz)) (hz : ¬ xz = (0 : Int32)) (S_A : Sta Z Z.heap Y4 Y10 "Z" (.int (1 : Int32))) (S_H : Sta Z Z.heap Y4 "HI_BYTE_SHIFT" "I" (.int (0 : Int32))) (S_L : Sta Z Z.heap Y4 "LO_BYTE_SHIFT" "I" (.int (8 : Int32))) (S_F : Sta Z Z.heap Y11 Y15 Y16 xfm) (hcat : xfm.category = 1) :
    oConH l Z oEL x code maxLocals ret ws room_1 #[(.int p0), (.int p1), (.int p2), (.int p3), (.int p4), (.int p5)] h0 [] (Q_rLaw Z p0 p1 p2 p3 p4 p5 xd xk xfm xz h0) := by
  refine oConH.of (plainFor_of_name pn_11) ?_
  intro p e s m below meth c T vm X hx hby hml hown hnm hret hlk hZ e0 B hsf
  have hml : c.maxLocals = 28 := hml
  have K : oKp h0 h0 [] [] := oKp.nil _ _
  refine oWk.cast (g' := (mkF m 0 #[iv p0, iv p1, iv p2, iv p3, iv p4, iv p5, uu, uu, uu, uu, uu, uu, uu, uu, uu, uu, uu, uu, uu, uu, uu, uu, uu, uu, uu, uu, uu, uu] [])) (by simp [entryFrame, mkF, argsToLocals, Value.category, maxLocals]) ?_
  obtain ⟨s0, g1⟩ : ∃ z, z = h0.size := ⟨_, rfl⟩
  have ne_xd_s0 : xd ≠ s0 := Nat.ne_of_lt (Nat.lt_of_lt_of_le V_xd.lt (Nat.le_of_eq g1.symm))
  have ge_s0 : h0.size ≤ s0 := Nat.le_trans K.le (Nat.le_of_eq g1.symm)
  have sf_s0 := B.new (Nat.le_of_eq g1.symm)
  obtain ⟨T, h, X, e0, E1, A1, D1, -, st⟩ := newO X hx hZ hown (oW hw 0 rfl) (oW hw 1 rfl) (oW hw 2 rfl) e0 (g := (mkF m 0 #[iv p0, iv p1, iv p2, iv p3, iv p4, iv p5, uu, uu, uu, uu, uu, uu, uu, uu, uu, uu, uu, uu, uu, uu, uu, uu, uu, uu, uu, uu, uu, uu] [])) rfl (hb hby at_0) (by decide) (by decide)
  rw [← g1] at A1 D1 st
  have K := K.ext E1
  have sf_s0 := Safe.ext E1 B.2.1 sf_s0
  have B := B.ext E1
  have E_s0 := A1
  have F_value_s0 : Fld Z h s0 Y0 "value" "[B" .null := D1 (Or.inr (oW hw 16 rfl)) (ty := (.array .byte)) (by decide)
  have F_coder_s0 : Fld Z h s0 Y0 "coder" "B" (.int (0 : Int32)) := D1 (Or.inr (oW hw 17 rfl)) (ty := .byte) (by decide)
  refine oWk.st (fun _ kt => st _ (zD X hx hby at_3 rfl rfl rfl (zK X hx hby at_4 rfl kt))) ?_
  obtain ⟨ca, g2⟩ : ∃ z, z = h.size := ⟨_, rfl⟩
  have V_xd := (V_xd.ext E1)
  have ne_xd_ca : xd ≠ ca := Nat.ne_of_lt (Nat.lt_of_lt_of_le V_xd.lt (Nat.le_of_eq g2.symm))
  have ne_s0_ca : s0 ≠ ca := Nat.ne_of_lt (Nat.lt_of_lt_of_le E_s0.lt (Nat.le_of_eq g2.symm))
  have ge_ca : h0.size ≤ ca := Nat.le_trans K.le (Nat.le_of_eq g2.symm)
  have sf_ca := B.new (Nat.le_of_eq g2.symm)
  obtain ⟨T, h, k2, X, e0, E2, A2, st⟩ := newP X hx hZ (oW hw 3 rfl) e0 (g := (mkF m 5 #[iv p0, iv p1, iv p2, iv p3, iv p4, iv p5, uu, uu, uu, uu, uu, uu, uu, uu, uu, uu, uu, uu, uu, uu, uu, uu, uu, uu, uu, uu, uu, uu] [(.int 0), (.ref s0), (.ref s0)])) rfl (hb hby at_5) rfl (by decide) (cap := 0) (by decide) (by decide) (by decide) (by decide)
  rw [← g2] at A2 st
  have K := K.ext E2
  have sf_s0 := Safe.ext E2 B.2.1 sf_s0
  have sf_ca := Safe.ext E2 B.2.1 sf_ca
  have B := B.ext E2
  have V_ca : Arv Z h ca k2 .char (0 : Int32) [] (.int (0 : Int32)) := (Arv.new A2 (by decide)).pad (pad_rep [] (.int (0 : Int32)) 0)
  refine oWk.st (fun _ kt => st _ kt) ?_
  have E_s0 := (E_s0.ext E2)
  have F_value_s0 := (F_value_s0.ext E2)
  have F_coder_s0 := (F_coder_s0.ext E2)
  have Oh := K.old O0 all0
  obtain ⟨_, _, ⟨T, L4, k4, n4⟩, -, X, hS, hgr, ⟨Lc4, hQ, l4, y4, z4, C⟩, st⟩ := X.specialBackS hx (y := yy59) rfl hown (mvT hZ (oW hw 4 rfl)) (mvT hZ (oW hw 5 rfl)) (mvT hZ (oW hw 6 rfl)) (by decide) (oBackH (W := 1) (rI1_0 l Z a0 hw [] s0 ca k2 .null (.int (0 : Int32)) h Oh (Nat.le_trans O0.1 ge_s0) E_s0 F_value_s0 F_coder_s0 V_ca) hZ (oW hw 6 rfl) (oW hw 2 rfl) (by decide) (by decide) (oELw hw) B.2.1 (allS ⟨E_s0.lt, sf_s0⟩ all0)) (g := (mkF m 7 #[iv p0, iv p1, iv p2, iv p3, iv p4, iv p5, uu, uu, uu, uu, uu, uu, uu, uu, uu, uu, uu, uu, uu, uu, uu, uu, uu, uu, uu, uu, uu, uu] [(.ref ca), (.ref s0), (.ref s0)])) rfl (by rw [hml]; rfl) (Steps.refl _) (a := s0) (argsL := [(.ref ca)]) (rest := [(.ref s0)]) (lenOf pd_39 rfl) rfl (Nat.le_of_eq rfl) (hb hby at_7) (fun _ _ => ⟨rfl, e0, (by decide : 2 + 4 ≤ _), (by decide : 4 + 8 ≤ _)⟩)
  dsimp only [Pt.U, Pt.locs, Pt.cells, Pt.slots] at X l4 y4 z4 st hQ C hS hgr
  subst l4 y4 z4
  have X : Stand p l e _ (s.setVm T.vm) m _ below meth c T _ _ _ := X
  obtain ⟨h, e2⟩ : ∃ z, T.heap = z := ⟨_, rfl⟩
  have B := B.call e0 hS hgr C e2
  obtain ⟨hZ, hown⟩ := oWide hZ hown hS
  rw [e2] at hQ C
  have sf_s0 := C.safe E_s0.lt sf_s0
  have sf_ca := C.safe V_ca.lt sf_ca
  have e0 := e2
  obtain ⟨s0b, s0k, rfl, K3, E_s0, F_coder_s0, F_value_s0, V_s0b⟩ := hQ
  have K := K.call K3 (allS (Or.inr ge_s0) all0)
  refine oWk.to (mkF m 12 #[iv p0, iv p1, iv p2, iv p3, iv p4, iv p5, rv s0, uu, uu, uu, uu, uu, uu, uu, uu, uu, uu, uu, uu, uu, uu, uu, uu, uu, uu, uu, uu, uu] []) (fun _ kt => st.trans (zT X hx hby at_10 rfl rfl rfl (l' := #[iv p0, iv p1, iv p2, iv p3, iv p4, iv p5, rv s0, uu, uu, uu, uu, uu, uu, uu, uu, uu, uu, uu, uu, uu, uu, uu, uu, uu, uu, uu, uu, uu]) rfl kt)) ?_
  refine oWk.to (mkF m 18 #[iv p0, iv p1, iv p2, iv p3, iv p4, iv p5, rv s0, uu, uu, uu, uu, uu, uu, uu, uu, uu, uu, uu, uu, uu, uu, uu, uu, uu, uu, uu, uu, uu] [(.int ((p1 &&& (255 : Int32)).toUInt32.toUInt16.toUInt32.toInt32))]) (fun _ kt => zI X hx hby at_12 rfl rfl (zM X hx hby at_13 rfl (XS.iand X.here hx rfl (hb hby at_16) rfl (XS.i2c X.here hx rfl (hb hby at_17) rfl kt)))) ?_
  rw [oChr (oM255 _)]
  show oWk _ _ _ _ T (mkF m 18 #[iv p0, iv p1, iv p2, iv p3, iv p4, iv p5, rv s0, uu, uu, uu, uu, uu, uu, uu, uu, uu, uu, uu, uu, uu, uu, uu, uu, uu, uu, uu, uu, uu] [(.int (p1 &&& (255 : Int32)))])
  have r_c1_ := oM255 p1
  generalize hg_c1_ : (p1 &&& (255 : Int32)) = c1_ at *
  show oWk _ _ _ _ T (mkF m 18 #[iv p0, iv p1, iv p2, iv p3, iv p4, iv p5, rv s0, uu, uu, uu, uu, uu, uu, uu, uu, uu, uu, uu, uu, uu, uu, uu, uu, uu, uu, uu, uu, uu] [(.int c1_)])
  have V_xd := ((V_xd.ext E2).keep K3.1 (ninS ne_xd_s0 nin0))
  have lt_xd := V_xd.lt
  have lt_s0 := E_s0.lt
  have lt_s0b := V_s0b.lt
  have Oh := K.old O0 all0
  obtain ⟨_, T, h, Lc6, X, e0, hQ, st⟩ := (cs65 hw).run X hx hZ hown e0 (A := [(.int c1_)]) rfl (rVal l Z a0 hw [] c1_ xz h Oh S_Z hz (oLe255 r_c1_)) (W := 0) (by decide) hml (Ls := #[iv p0, iv p1, iv p2, iv p3, iv p4, iv p5, rv s0, uu, uu, uu, uu, uu, uu, uu, uu, uu, uu, uu, uu, uu, uu, uu, uu, uu, uu, uu, uu, uu]) rfl (rest := []) rfl rfl hby at_18
  obtain ⟨s1, s1b, s1k, rfl, K5, gn_s1, gn_s1b, E_s1, F_value_s1, F_coder_s1, V_s1b, hnn5⟩ := hQ
  have ge_s1 := Nat.le_trans K.le gn_s1
  have sf_s1 := B.new gn_s1
  have ne_xd_s1 : xd ≠ s1 := Nat.ne_of_lt (Nat.lt_of_lt_of_le lt_xd gn_s1)
  have ne_s0_s1 : s0 ≠ s1 := Nat.ne_of_lt (Nat.lt_of_lt_of_le lt_s0 gn_s1)
  have ne_s0b_s1 : s0b ≠ s1 := Nat.ne_of_lt (Nat.lt_of_lt_of_le lt_s0b gn_s1)
  have ge_s1b := Nat.le_trans K.le gn_s1b
  have sf_s1b := B.new gn_s1b
  have ne_xd_s1b : xd ≠ s1b := Nat.ne_of_lt (Nat.lt_of_lt_of_le lt_xd gn_s1b)
  have ne_s0_s1b : s0 ≠ s1b := Nat.ne_of_lt (Nat.lt_of_lt_of_le lt_s0 gn_s1b)
  have ne_s0b_s1b : s0b ≠ s1b := Nat.ne_of_lt (Nat.lt_of_lt_of_le lt_s0b gn_s1b)
  have K := K.call K5 all0
  have sf_s1 := Safe.keep K5.1 sf0 B.2.1 sf_s1
  have sf_s1b := Safe.keep K5.1 sf0 B.2.1 sf_s1b
  have B := B.keep K5.1 sf0
  refine oWk.to (mkF m 23 #[iv p0, iv p1, iv p2, iv p3, iv p4, iv p5, rv s0, rv s1, uu, uu, uu, uu, uu, uu, uu, uu, uu, uu, uu, uu, uu, uu, uu, uu, uu, uu, uu, uu] []) (fun _ kt => st _ (zT X hx hby at_21 rfl rfl rfl (l' := #[iv p0, iv p1, iv p2, iv p3, iv p4, iv p5, rv s0, rv s1, uu, uu, uu, uu, uu, uu, uu, uu, uu, uu, uu, uu, uu, uu, uu, uu, uu, uu, uu, uu]) rfl kt)) ?_
  refine oWk.st (fun _ kt => zL X hx hby at_23 rfl kt) ?_
  obtain ⟨cb, g7⟩ : ∃ z, z = h.size := ⟨_, rfl⟩
  have V_xd := (V_xd.keep K5.1 nin0)
  have ne_xd_cb : xd ≠ cb := Nat.ne_of_lt (Nat.lt_of_lt_of_le V_xd.lt (Nat.le_of_eq g7.symm))
  have E_s0 := (E_s0.keep K5.1)
  have ne_s0_cb : s0 ≠ cb := Nat.ne_of_lt (Nat.lt_of_lt_of_le E_s0.lt (Nat.le_of_eq g7.symm))
  have V_s0b := (V_s0b.keep K5.1 nin0)
  have ne_s0b_cb : s0b ≠ cb := Nat.ne_of_lt (Nat.lt_of_lt_of_le V_s0b.lt (Nat.le_of_eq g7.symm))
  have ne_s1_cb : s1 ≠ cb := Nat.ne_of_lt (Nat.lt_of_lt_of_le E_s1.lt (Nat.le_of_eq g7.symm))
  have ne_s1b_cb : s1b ≠ cb := Nat.ne_of_lt (Nat.lt_of_lt_of_le V_s1b.lt (Nat.le_of_eq g7.symm))
  have ge_cb : h0.size ≤ cb := Nat.le_trans K.le (Nat.le_of_eq g7.symm)
  have sf_cb := B.new (Nat.le_of_eq g7.symm)
  obtain ⟨T, h, k7, X, e0, E7, A7, st⟩ := newP X hx hZ (oW hw 3 rfl) e0 (g := (mkF m 25 #[iv p0, iv p1, iv p2, iv p3, iv p4, iv p5, rv s0, rv s1, uu, uu, uu, uu, uu, uu, uu, uu, uu, uu, uu, uu, uu, uu, uu, uu, uu, uu, uu, uu] [(.int 20)])) rfl (hb hby at_25) rfl (by decide) (cap := 20) (by decide) (by decide) (by decide) (by decide)
  rw [← g7] at A7 st
  have K := K.ext E7
  have sf_cb := Safe.ext E7 B.2.1 sf_cb
  have B := B.ext E7
  have V_cb : Arv Z h cb k7 .char (20 : Int32) [(.int (0 : Int32)), (.int (0 : Int32)), (.int (0 : Int32)), (.int (0 : Int32)), (.int (0 : Int32)), (.int (0 : Int32)), (.int (0 : Int32)), (.int (0 : Int32)), (.int (0 : Int32)), (.int (0 : Int32)), (.int (0 : Int32)), (.int (0 : Int32)), (.int (0 : Int32)), (.int (0 : Int32)), (.int (0 : Int32)), (.int (0 : Int32)), (.int (0 : Int32)), (.int (0 : Int32)), (.int (0 : Int32)), (.int (0 : Int32))] (.int (0 : Int32)) := (Arv.new A7 (by decide)).pad (pad_rep [] (.int (0 : Int32)) 20)
  refine oWk.to (mkF m 36 #[iv p0, iv p1, iv p2, iv p3, iv p4, iv p5, rv s0, rv s1, rv cb, uu, uu, uu, uu, uu, uu, uu, uu, uu, uu, uu, uu, uu, uu, uu, uu, uu, uu, uu] [(.int ((p1.toUInt32 >>> ((8 : Int32) &&& 31).toUInt32).toInt32)), (.int 0), (.ref cb)]) (fun _ kt => st _ (zT X hx hby at_27 rfl rfl rfl (l' := #[iv p0, iv p1, iv p2, iv p3, iv p4, iv p5, rv s0, rv s1, rv cb, uu, uu, uu, uu, uu, uu, uu, uu, uu, uu, uu, uu, uu, uu, uu, uu, uu, uu, uu]) rfl (zB X hx hby at_29 rfl rfl rfl (zK X hx hby at_31 rfl (zI X hx hby at_32 rfl rfl (zL X hx hby at_33 rfl (XS.iushr X.here hx rfl (hb hby at_35) rfl kt))))))) ?_
  refine oWk.to (mkF m 41 #[iv p0, iv p1, iv p2, iv p3, iv p4, iv p5, rv s0, rv s1, rv cb, uu, uu, uu, uu, uu, uu, uu, uu, uu, uu, uu, uu, uu, uu, uu, uu, uu, uu, uu] [(.int ((((p1.toUInt32 >>> ((8 : Int32) &&& 31).toUInt32).toInt32) &&& (255 : Int32)).toUInt32.toUInt16.toUInt32.toInt32)), (.int 0), (.ref cb)]) (fun _ kt => zM X hx hby at_36 rfl (XS.iand X.here hx rfl (hb hby at_39) rfl (XS.i2c X.here hx rfl (hb hby at_40) rfl kt))) ?_
  rw [oChr (oM255 _)]
  show oWk _ _ _ _ T (mkF m 41 #[iv p0, iv p1, iv p2, iv p3, iv p4, iv p5, rv s0, rv s1, rv cb, uu, uu, uu, uu, uu, uu, uu, uu, uu, uu, uu, uu, uu, uu, uu, uu, uu, uu, uu] [(.int (((p1.toUInt32 >>> ((8 : Int32) &&& 31).toUInt32).toInt32) &&& (255 : Int32))), (.int 0), (.ref cb)])
  have r_c2_ := oM255 ((p1.toUInt32 >>> ((8 : Int32) &&& 31).toUInt32).toInt32)
  generalize hg_c2_ : (((p1.toUInt32 >>> ((8 : Int32) &&& 31).toUInt32).toInt32) &&& (255 : Int32)) = c2_ at *
  show oWk _ _ _ _ T (mkF m 41 #[iv p0, iv p1, iv p2, iv p3, iv p4, iv p5, rv s0, rv s1, rv cb, uu, uu, uu, uu, uu, uu, uu, uu, uu, uu, uu, uu, uu, uu, uu, uu, uu, uu, uu] [(.int c2_), (.int 0), (.ref cb)])
  obtain ⟨cl8, Ar8, q8, Sz8, Nn8, Hs8, Ft8⟩ := id V_cb
  have hin8 : ¬ ((0 : Int32) < 0 ∨ cl8.slots.size ≤ ((0 : Int32)).toNatClampNeg) := inb_of Sz8 ⟨by decide, by decide⟩
  obtain ⟨T, h, X, e0, W8, st⟩ := stC X hx hZ e0 Ar8 (j := (0 : Int32)) hin8 (g := (mkF m 41 #[iv p0, iv p1, iv p2, iv p3, iv p4, iv p5, rv s0, rv s1, rv cb, uu, uu, uu, uu, uu, uu, uu, uu, uu, uu, uu, uu, uu, uu, uu, uu, uu, uu, uu] [(.int c2_), (.int 0), (.ref cb)])) rfl rfl (hb hby at_41)
  have K := K.wr W8 (Or.inr ge_cb)
  have sw : Safe Z oEL _ _ cb := sf_cb
  have sf_cb := Safe.wr W8 sw B.2.1 sf_cb
  have B := B.wr W8 sw
  have V_cb := Arv.set Ar8 q8 Sz8 Nn8 Hs8 Ft8 (fits_nar_char _) W8 0 rfl (Nat.le_of_ble_eq_true rfl)
  rw [show nar .char c2_ = c2_ from oChr r_c2_] at V_cb
  replace V_cb : Arv Z h cb k7 .char (20 : Int32) [(.int c2_), (.int (0 : Int32)), (.int (0 : Int32)), (.int (0 : Int32)), (.int (0 : Int32)), (.int (0 : Int32)), (.int (0 : Int32)), (.int (0 : Int32)), (.int (0 : Int32)), (.int (0 : Int32)), (.int (0 : Int32)), (.int (0 : Int32)), (.int (0 : Int32)), (.int (0 : Int32)), (.int (0 : Int32)), (.int (0 : Int32)), (.int (0 : Int32)), (.int (0 : Int32)), (.int (0 : Int32)), (.int (0 : Int32))] (.int (0 : Int32)) := V_cb
  refine oWk.to (mkF m 53 #[iv p0, iv p1, iv p2, iv p3, iv p4, iv p5, rv s0, rv s1, rv cb, uu, uu, uu, uu, uu, uu, uu, uu, uu, uu, uu, uu, uu, uu, uu, uu, uu, uu, uu] [(.int 255), (.int ((p1.toUInt32 >>> ((16 : Int32) &&& 31).toUInt32).toInt32)), (.int 19), (.ref cb)]) (fun _ kt => st _ (zB X hx hby at_42 rfl rfl rfl (zL X hx hby at_44 rfl (zI X hx hby at_46 rfl rfl (zL X hx hby at_47 rfl (XS.iushr X.here hx rfl (hb hby at_49) rfl (zM X hx hby at_50 rfl kt))))))) ?_
  refine oWk.to (mkF m 55 #[iv p0, iv p1, iv p2, iv p3, iv p4, iv p5, rv s0, rv s1, rv cb, uu, uu, uu, uu, uu, uu, uu, uu, uu, uu, uu, uu, uu, uu, uu, uu, uu, uu, uu] [(.int ((((p1.toUInt32 >>> ((16 : Int32) &&& 31).toUInt32).toInt32) &&& (255 : Int32)).toUInt32.toUInt16.toUInt32.toInt32)), (.int 19), (.ref cb)]) (fun _ kt => XS.iand X.here hx rfl (hb hby at_53) rfl (XS.i2c X.here hx rfl (hb hby at_54) rfl kt)) ?_
  rw [oChr (oM255 _)]
  show oWk _ _ _ _ T (mkF m 55 #[iv p0, iv p1, iv p2, iv p3, iv p4, iv p5, rv s0, rv s1, rv cb, uu, uu, uu, uu, uu, uu, uu, uu, uu, uu, uu, uu, uu, uu, uu, uu, uu, uu, uu] [(.int (((p1.toUInt32 >>> ((16 : Int32) &&& 31).toUInt32).toInt32) &&& (255 : Int32))), (.int 19), (.ref cb)])
  have r_c3_ := oM255 ((p1.toUInt32 >>> ((16 : Int32) &&& 31).toUInt32).toInt32)
  generalize hg_c3_ : (((p1.toUInt32 >>> ((16 : Int32) &&& 31).toUInt32).toInt32) &&& (255 : Int32)) = c3_ at *
  show oWk _ _ _ _ T (mkF m 55 #[iv p0, iv p1, iv p2, iv p3, iv p4, iv p5, rv s0, rv s1, rv cb, uu, uu, uu, uu, uu, uu, uu, uu, uu, uu, uu, uu, uu, uu, uu, uu, uu, uu, uu] [(.int c3_), (.int 19), (.ref cb)])
  obtain ⟨cl9, Ar9, q9, Sz9, Nn9, Hs9, Ft9⟩ := id V_cb
  have hin9 : ¬ ((19 : Int32) < 0 ∨ cl9.slots.size ≤ ((19 : Int32)).toNatClampNeg) := inb_of Sz9 ⟨by decide, by decide⟩
  obtain ⟨T, h, X, e0, W9, st⟩ := stC X hx hZ e0 Ar9 (j := (19 : Int32)) hin9 (g := (mkF m 55 #[iv p0, iv p1, iv p2, iv p3, iv p4, iv p5, rv s0, rv s1, rv cb, uu, uu, uu, uu, uu, uu, uu, uu, uu, uu, uu, uu, uu, uu, uu, uu, uu, uu, uu] [(.int c3_), (.int 19), (.ref cb)])) rfl rfl (hb hby at_55)
  have K := K.wr W9 (Or.inr ge_cb)
  have sw : Safe Z oEL _ _ cb := sf_cb
  have sf_cb := Safe.wr W9 sw B.2.1 sf_cb
  have B := B.wr W9 sw
  have V_cb := Arv.set Ar9 q9 Sz9 Nn9 Hs9 Ft9 (fits_nar_char _) W9 19 rfl (Nat.le_of_ble_eq_true rfl)
  rw [show nar .char c3_ = c3_ from oChr r_c3_] at V_cb
  replace V_cb : Arv Z h cb k7 .char (20 : Int32) [(.int c2_), (.int (0 : Int32)), (.int (0 : Int32)), (.int (0 : Int32)), (.int (0 : Int32)), (.int (0 : Int32)), (.int (0 : Int32)), (.int (0 : Int32)), (.int (0 : Int32)), (.int (0 : Int32)), (.int (0 : Int32)), (.int (0 : Int32)), (.int (0 : Int32)), (.int (0 : Int32)), (.int (0 : Int32)), (.int (0 : Int32)), (.int (0 : Int32)), (.int (0 : Int32)), (.int (0 : Int32)), (.int c3_)] (.int (0 : Int32)) := V_cb
  refine oWk.st (fun _ kt => st _ kt) ?_
  obtain ⟨s2, g10⟩ : ∃ z, z = h.size := ⟨_, rfl⟩
  have V_xd := (((V_xd.ext E7).other W8 ne_xd_cb).other W9 ne_xd_cb)
  have ne_xd_s2 : xd ≠ s2 := Nat.ne_of_lt (Nat.lt_of_lt_of_le V_xd.lt (Nat.le_of_eq g10.symm))
  have E_s0 := (((E_s0.ext E7).wr W8).wr W9)
  have ne_s0_s2 : s0 ≠ s2 := Nat.ne_of_lt (Nat.lt_of_lt_of_le E_s0.lt (Nat.le_of_eq g10.symm))
  have V_s0b := (((V_s0b.ext E7).other W8 ne_s0b_cb).other W9 ne_s0b_cb)
  have ne_s0b_s2 : s0b ≠ s2 := Nat.ne_of_lt (Nat.lt_of_lt_of_le V_s0b.lt (Nat.le_of_eq g10.symm))
  have E_s1 := (((E_s1.ext E7).wr W8).wr W9)
  have ne_s1_s2 : s1 ≠ s2 := Nat.ne_of_lt (Nat.lt_of_lt_of_le E_s1.lt (Nat.le_of_eq g10.symm))
  have V_s1b := (((V_s1b.ext E7).other W8 ne_s1b_cb).other W9 ne_s1b_cb)
  have ne_s1b_s2 : s1b ≠ s2 := Nat.ne_of_lt (Nat.lt_of_lt_of_le V_s1b.lt (Nat.le_of_eq g10.symm))
  have ne_cb_s2 : cb ≠ s2 := Nat.ne_of_lt (Nat.lt_of_lt_of_le V_cb.lt (Nat.le_of_eq g10.symm))
  have ge_s2 : h0.size ≤ s2 := Nat.le_trans K.le (Nat.le_of_eq g10.symm)
  have sf_s2 := B.new (Nat.le_of_eq g10.symm)
  obtain ⟨T, h, X, e0, E10, A10, D10, -, st⟩ := newO X hx hZ hown (oW hw 0 rfl) (oW hw 1 rfl) (oW hw 2 rfl) e0 (g := (mkF m 56 #[iv p0, iv p1, iv p2, iv p3, iv p4, iv p5, rv s0, rv s1, rv cb, uu, uu, uu, uu, uu, uu, uu, uu, uu, uu, uu, uu, uu, uu, uu, uu, uu, uu, uu] [])) rfl (hb hby at_56) (by decide) (by decide)
  rw [← g10] at A10 D10 st
  have K := K.ext E10
  have sf_cb := Safe.ext E10 B.2.1 sf_cb
  have sf_s2 := Safe.ext E10 B.2.1 sf_s2
  have B := B.ext E10
  have E_s2 := A10
  have F_value_s2 : Fld Z h s2 Y0 "value" "[B" .null := D10 (Or.inr (oW hw 16 rfl)) (ty := (.array .byte)) (by decide)
  have F_coder_s2 : Fld Z h s2 Y0 "coder" "B" (.int (0 : Int32)) := D10 (Or.inr (oW hw 17 rfl)) (ty := .byte) (by decide)
  refine oWk.st (fun _ kt => st _ (zD X hx hby at_59 rfl rfl rfl (zB X hx hby at_60 rfl rfl rfl kt))) ?_
  have V_cb := (V_cb.ext E10)
  have V_xd := (V_xd.ext E10)
  have lt_xd := V_xd.lt
  have E_s0 := (E_s0.ext E10)
  have lt_s0 := E_s0.lt
  have V_s0b := (V_s0b.ext E10)
  have lt_s0b := V_s0b.lt
  have E_s1 := (E_s1.ext E10)
  have lt_s1 := E_s1.lt
  have V_s1b := (V_s1b.ext E10)
  have lt_s1b := V_s1b.lt
  have lt_cb := V_cb.lt
  have lt_s2 := E_s2.lt
  have Oh := K.old O0 all0
  obtain ⟨_, T, h, Lc12, X, e0, hQ, st⟩ := (cs66 hw).run X hx hZ hown e0 (A := [(.ref s2), (.ref cb)]) ⟨rfl, _, _, rfl⟩ (rI1H l Z a0 hw [] s2 cb k7 xz .null (.int (0 : Int32)) [(.int c2_), (.int (0 : Int32)), (.int (0 : Int32)), (.int (0 : Int32)), (.int (0 : Int32)), (.int (0 : Int32)), (.int (0 : Int32)), (.int (0 : Int32)), (.int (0 : Int32)), (.int (0 : Int32)), (.int (0 : Int32)), (.int (0 : Int32)), (.int (0 : Int32)), (.int (0 : Int32)), (.int (0 : Int32)), (.int (0 : Int32)), (.int (0 : Int32)), (.int (0 : Int32)), (.int (0 : Int32)), (.int c3_)] h Oh S_Z hz (Nat.le_trans O0.1 ge_s2) E_s2 F_value_s2 F_coder_s2 (oHcs (oCsC ⟨_, rfl, oLe255 r_c2_⟩ (oCsC oCs0 (oCsC oCs0 (oCsC oCs0 (oCsC oCs0 (oCsC oCs0 (oCsC oCs0 (oCsC oCs0 (oCsC oCs0 (oCsC oCs0 (oCsC oCs0 (oCsC oCs0 (oCsC oCs0 (oCsC oCs0 (oCsC oCs0 (oCsC oCs0 (oCsC oCs0 (oCsC oCs0 (oCsC oCs0 (oCsC ⟨_, rfl, oLe255 r_c3_⟩ oCsN))))))))))))))))))))) V_cb) (W := 1) (by decide) hml (Ls := #[iv p0, iv p1, iv p2, iv p3, iv p4, iv p5, rv s0, rv s1, rv cb, uu, uu, uu, uu, uu, uu, uu, uu, uu, uu, uu, uu, uu, uu, uu, uu, uu, uu, uu]) rfl (rest := [(.ref s2)]) rfl rfl hby at_62
  obtain ⟨s2b, s2k, s2v, rfl, K11, E_s2, F_coder_s2, F_value_s2, gn_s2b, V_s2b⟩ := hQ
  have ge_s2b := Nat.le_trans K.le gn_s2b
  have sf_s2b := B.new gn_s2b
  have ne_xd_s2b : xd ≠ s2b := Nat.ne_of_lt (Nat.lt_of_lt_of_le lt_xd gn_s2b)
  have ne_s0_s2b : s0 ≠ s2b := Nat.ne_of_lt (Nat.lt_of_lt_of_le lt_s0 gn_s2b)
  have ne_s0b_s2b : s0b ≠ s2b := Nat.ne_of_lt (Nat.lt_of_lt_of_le lt_s0b gn_s2b)
  have ne_s1_s2b : s1 ≠ s2b := Nat.ne_of_lt (Nat.lt_of_lt_of_le lt_s1 gn_s2b)
  have ne_s1b_s2b : s1b ≠ s2b := Nat.ne_of_lt (Nat.lt_of_lt_of_le lt_s1b gn_s2b)
  have ne_cb_s2b : cb ≠ s2b := Nat.ne_of_lt (Nat.lt_of_lt_of_le lt_cb gn_s2b)
  have ne_s2_s2b : s2 ≠ s2b := Nat.ne_of_lt (Nat.lt_of_lt_of_le lt_s2 gn_s2b)
  have K := K.call K11 (allS (Or.inr ge_s2) all0)
  have sw : ∀ x ∈ ([s2] : List Addr), Safe Z oEL _ _ x := (sfS sf_s2 sf0)
  have sf_cb := Safe.keep K11.1 sw B.2.1 sf_cb
  have sf_s2 := Safe.keep K11.1 sw B.2.1 sf_s2
  have sf_s2b := Safe.keep K11.1 sw B.2.1 sf_s2b
  have B := B.keep K11.1 sw
  refine oWk.to (mkF m 67 #[iv p0, iv p1, iv p2, iv p3, iv p4, iv p5, rv s0, rv s1, rv cb, rv s2, uu, uu, uu, uu, uu, uu, uu, uu, uu, uu, uu, uu, uu, uu, uu, uu, uu, uu] []) (fun _ kt => st _ (zT X hx hby at_65 rfl rfl rfl (l' := #[iv p0, iv p1, iv p2, iv p3, iv p4, iv p5, rv s0, rv s1, rv cb, rv s2, uu, uu, uu, uu, uu, uu, uu, uu, uu, uu, uu, uu, uu, uu, uu, uu, uu, uu]) rfl kt)) ?_
  refine oWk.st (fun _ kt => zK X hx hby at_67 rfl kt) ?_
  obtain ⟨cd, g13⟩ : ∃ z, z = h.size := ⟨_, rfl⟩
  have V_xd := (V_xd.keep K11.1 (ninS ne_xd_s2 nin0))
  have ne_xd_cd : xd ≠ cd := Nat.ne_of_lt (Nat.lt_of_lt_of_le V_xd.lt (Nat.le_of_eq g13.symm))
  have E_s0 := (E_s0.keep K11.1)
  have ne_s0_cd : s0 ≠ cd := Nat.ne_of_lt (Nat.lt_of_lt_of_le E_s0.lt (Nat.le_of_eq g13.symm))
  have V_s0b := (V_s0b.keep K11.1 (ninS ne_s0b_s2 nin0))
  have ne_s0b_cd : s0b ≠ cd := Nat.ne_of_lt (Nat.lt_of_lt_of_le V_s0b.lt (Nat.le_of_eq g13.symm))
  have E_s1 := (E_s1.keep K11.1)
  have ne_s1_cd : s1 ≠ cd := Nat.ne_of_lt (Nat.lt_of_lt_of_le E_s1.lt (Nat.le_of_eq g13.symm))
  have V_s1b := (V_s1b.keep K11.1 (ninS ne_s1b_s2 nin0))
  have ne_s1b_cd : s1b ≠ cd := Nat.ne_of_lt (Nat.lt_of_lt_of_le V_s1b.lt (Nat.le_of_eq g13.symm))
  have ne_s2_cd : s2 ≠ cd := Nat.ne_of_lt (Nat.lt_of_lt_of_le E_s2.lt (Nat.le_of_eq g13.symm))
  have ne_s2b_cd : s2b ≠ cd := Nat.ne_of_lt (Nat.lt_of_lt_of_le V_s2b.lt (Nat.le_of_eq g13.symm))
  have ge_cd : h0.size ≤ cd := Nat.le_trans K.le (Nat.le_of_eq g13.symm)
  have sf_cd := B.new (Nat.le_of_eq g13.symm)
  obtain ⟨T, h, k13, X, e0, E13, A13, st⟩ := newP X hx hZ (oW hw 3 rfl) e0 (g := (mkF m 68 #[iv p0, iv p1, iv p2, iv p3, iv p4, iv p5, rv s0, rv s1, rv cb, rv s2, uu, uu, uu, uu, uu, uu, uu, uu, uu, uu, uu, uu, uu, uu, uu, uu, uu, uu] [(.int 2)])) rfl (hb hby at_68) rfl (by decide) (cap := 2) (by decide) (by decide) (by decide) (by decide)
  rw [← g13] at A13 st
  have K := K.ext E13
  have sf_cd := Safe.ext E13 B.2.1 sf_cd
  have B := B.ext E13
  have V_cd : Arv Z h cd k13 .char (2 : Int32) [(.int (0 : Int32)), (.int (0 : Int32))] (.int (0 : Int32)) := (Arv.new A13 (by decide)).pad (pad_rep [] (.int (0 : Int32)) 2)
  refine oWk.st (fun _ kt => st _ (zT X hx hby at_70 rfl rfl rfl (l' := #[iv p0, iv p1, iv p2, iv p3, iv p4, iv p5, rv s0, rv s1, rv cb, rv s2, rv cd, uu, uu, uu, uu, uu, uu, uu, uu, uu, uu, uu, uu, uu, uu, uu, uu, uu]) rfl (zB X hx hby at_72 rfl rfl rfl (zK X hx hby at_74 rfl kt)))) ?_
  refine oWk.st (fun _ kt => X.ldcI hx hown (mvT hZ (oW hw 47 rfl)) rfl (hb hby at_75) kt) ?_
  obtain ⟨cl14, Ar14, q14, Sz14, Nn14, Hs14, Ft14⟩ := id V_cd
  have hin14 : ¬ ((0 : Int32) < 0 ∨ cl14.slots.size ≤ ((0 : Int32)).toNatClampNeg) := inb_of Sz14 ⟨by decide, by decide⟩
  obtain ⟨T, h, X, e0, W14, st⟩ := stC X hx hZ e0 Ar14 (j := (0 : Int32)) hin14 (g := (mkF m 77 #[iv p0, iv p1, iv p2, iv p3, iv p4, iv p5, rv s0, rv s1, rv cb, rv s2, rv cd, uu, uu, uu, uu, uu, uu, uu, uu, uu, uu, uu, uu, uu, uu, uu, uu, uu] [(.int 55357), (.int 0), (.ref cd)])) rfl rfl (hb hby at_77)
  have K := K.wr W14 (Or.inr ge_cd)
  have sw : Safe Z oEL _ _ cd := sf_cd
  have sf_cd := Safe.wr W14 sw B.2.1 sf_cd
  have B := B.wr W14 sw
  have V_cd := Arv.set Ar14 q14 Sz14 Nn14 Hs14 Ft14 (fits_nar_char _) W14 0 rfl (Nat.le_of_ble_eq_true rfl)
  rw [show nar .char (55357 : Int32) = oH from by decide] at V_cd
  replace V_cd : Arv Z h cd k13 .char (2 : Int32) [(.int oH), (.int (0 : Int32))] (.int (0 : Int32)) := V_cd
  refine oWk.st (fun _ kt => st _ (zB X hx hby at_78 rfl rfl rfl (zK X hx hby at_80 rfl kt))) ?_
  refine oWk.st (fun _ kt => X.ldcI hx hown (mvT hZ (oW hw 48 rfl)) rfl (hb hby at_81) kt) ?_
  obtain ⟨cl15, Ar15, q15, Sz15, Nn15, Hs15, Ft15⟩ := id V_cd
  have hin15 : ¬ ((1 : Int32) < 0 ∨ cl15.slots.size ≤ ((1 : Int32)).toNatClampNeg) := inb_of Sz15 ⟨by decide, by decide⟩
  obtain ⟨T, h, X, e0, W15, st⟩ := stC X hx hZ e0 Ar15 (j := (1 : Int32)) hin15 (g := (mkF m 83 #[iv p0, iv p1, iv p2, iv p3, iv p4, iv p5, rv s0, rv s1, rv cb, rv s2, rv cd, uu, uu, uu, uu, uu, uu, uu, uu, uu, uu, uu, uu, uu, uu, uu, uu, uu] [(.int 56832), (.int 1), (.ref cd)])) rfl rfl (hb hby at_83)
  have K := K.wr W15 (Or.inr ge_cd)
  have sw : Safe Z oEL _ _ cd := sf_cd
  have sf_cd := Safe.wr W15 sw B.2.1 sf_cd
  have B := B.wr W15 sw
  have V_cd := Arv.set Ar15 q15 Sz15 Nn15 Hs15 Ft15 (fits_nar_char _) W15 1 rfl (Nat.le_of_ble_eq_true rfl)
  rw [show nar .char (56832 : Int32) = oL from by decide] at V_cd
  replace V_cd : Arv Z h cd k13 .char (2 : Int32) [(.int oH), (.int oL)] (.int (0 : Int32)) := V_cd
  refine oWk.st (fun _ kt => st _ kt) ?_
  obtain ⟨s3, g16⟩ : ∃ z, z = h.size := ⟨_, rfl⟩
  have V_xd := (((V_xd.ext E13).other W14 ne_xd_cd).other W15 ne_xd_cd)
  have ne_xd_s3 : xd ≠ s3 := Nat.ne_of_lt (Nat.lt_of_lt_of_le V_xd.lt (Nat.le_of_eq g16.symm))
  have E_s0 := (((E_s0.ext E13).wr W14).wr W15)
  have ne_s0_s3 : s0 ≠ s3 := Nat.ne_of_lt (Nat.lt_of_lt_of_le E_s0.lt (Nat.le_of_eq g16.symm))
  have V_s0b := (((V_s0b.ext E13).other W14 ne_s0b_cd).other W15 ne_s0b_cd)
  have ne_s0b_s3 : s0b ≠ s3 := Nat.ne_of_lt (Nat.lt_of_lt_of_le V_s0b.lt (Nat.le_of_eq g16.symm))
  have E_s1 := (((E_s1.ext E13).wr W14).wr W15)
  have ne_s1_s3 : s1 ≠ s3 := Nat.ne_of_lt (Nat.lt_of_lt_of_le E_s1.lt (Nat.le_of_eq g16.symm))
  have V_s1b := (((V_s1b.ext E13).other W14 ne_s1b_cd).other W15 ne_s1b_cd)
  have ne_s1b_s3 : s1b ≠ s3 := Nat.ne_of_lt (Nat.lt_of_lt_of_le V_s1b.lt (Nat.le_of_eq g16.symm))
  have E_s2 := (((E_s2.ext E13).wr W14).wr W15)
  have ne_s2_s3 : s2 ≠ s3 := Nat.ne_of_lt (Nat.lt_of_lt_of_le E_s2.lt (Nat.le_of_eq g16.symm))
  have V_s2b := (((V_s2b.ext E13).other W14 ne_s2b_cd).other W15 ne_s2b_cd)
  have ne_s2b_s3 : s2b ≠ s3 := Nat.ne_of_lt (Nat.lt_of_lt_of_le V_s2b.lt (Nat.le_of_eq g16.symm))
  have ne_cd_s3 : cd ≠ s3 := Nat.ne_of_lt (Nat.lt_of_lt_of_le V_cd.lt (Nat.le_of_eq g16.symm))
  have ge_s3 : h0.size ≤ s3 := Nat.le_trans K.le (Nat.le_of_eq g16.symm)
  have sf_s3 := B.new (Nat.le_of_eq g16.symm)
  obtain ⟨T, h, X, e0, E16, A16, D16, -, st⟩ := newO X hx hZ hown (oW hw 0 rfl) (oW hw 1 rfl) (oW hw 2 rfl) e0 (g := (mkF m 84 #[iv p0, iv p1, iv p2, iv p3, iv p4, iv p5, rv s0, rv s1, rv cb, rv s2, rv cd, uu, uu, uu, uu, uu, uu, uu, uu, uu, uu, uu, uu, uu, uu, uu, uu, uu] [])) rfl (hb hby at_84) (by decide) (by decide)
  rw [← g16] at A16 D16 st
  have K := K.ext E16
  have sf_cd := Safe.ext E16 B.2.1 sf_cd
  have sf_s3 := Safe.ext E16 B.2.1 sf_s3
  have B := B.ext E16
  have E_s3 := A16
  have F_value_s3 : Fld Z h s3 Y0 "value" "[B" .null := D16 (Or.inr (oW hw 16 rfl)) (ty := (.array .byte)) (by decide)
  have F_coder_s3 : Fld Z h s3 Y0 "coder" "B" (.int (0 : Int32)) := D16 (Or.inr (oW hw 17 rfl)) (ty := .byte) (by decide)
  refine oWk.st (fun _ kt => st _ (zD X hx hby at_87 rfl rfl rfl (zB X hx hby at_88 rfl rfl rfl kt))) ?_
  have V_cd := (V_cd.ext E16)
  have V_xd := (V_xd.ext E16)
  have lt_xd := V_xd.lt
  have E_s0 := (E_s0.ext E16)
  have lt_s0 := E_s0.lt
  have V_s0b := (V_s0b.ext E16)
  have lt_s0b := V_s0b.lt
  have E_s1 := (E_s1.ext E16)
  have lt_s1 := E_s1.lt
  have V_s1b := (V_s1b.ext E16)
  have lt_s1b := V_s1b.lt
  have E_s2 := (E_s2.ext E16)
  have lt_s2 := E_s2.lt
  have V_s2b := (V_s2b.ext E16)
  have lt_s2b := V_s2b.lt
  have lt_cd := V_cd.lt
  have lt_s3 := E_s3.lt
  have Oh := K.old O0 all0
  obtain ⟨_, T, h, Lc18, X, e0, hQ, st⟩ := (cs66 hw).run X hx hZ hown e0 (A := [(.ref s3), (.ref cd)]) ⟨rfl, _, _, rfl⟩ (rI1U_2 l Z a0 hw [] s3 cd k13 xz .null (.int (0 : Int32)) oH oL h Oh S_Z hz S_A S_H S_L (Nat.le_trans O0.1 ge_s3) E_s3 F_value_s3 F_coder_s3 V_cd (by decide) (by decide) (Or.inl (by decide))) (W := 1) (by decide) hml (Ls := #[iv p0, iv p1, iv p2, iv p3, iv p4, iv p5, rv s0, rv s1, rv cb, rv s2, rv cd, uu, uu, uu, uu, uu, uu, uu, uu, uu, uu, uu, uu, uu, uu, uu, uu, uu]) rfl (rest := [(.ref s3)]) rfl rfl hby at_90
  obtain ⟨s3b, s3k, rfl, K17, E_s3, F_coder_s3, F_value_s3, gn_s3b, V_s3b⟩ := hQ
  have ge_s3b := Nat.le_trans K.le gn_s3b
  have sf_s3b := B.new gn_s3b
  have ne_xd_s3b : xd ≠ s3b := Nat.ne_of_lt (Nat.lt_of_lt_of_le lt_xd gn_s3b)
  have ne_s0_s3b : s0 ≠ s3b := Nat.ne_of_lt (Nat.lt_of_lt_of_le lt_s0 gn_s3b)
  have ne_s0b_s3b : s0b ≠ s3b := Nat.ne_of_lt (Nat.lt_of_lt_of_le lt_s0b gn_s3b)
  have ne_s1_s3b : s1 ≠ s3b := Nat.ne_of_lt (Nat.lt_of_lt_of_le lt_s1 gn_s3b)
  have ne_s1b_s3b : s1b ≠ s3b := Nat.ne_of_lt (Nat.lt_of_lt_of_le lt_s1b gn_s3b)
  have ne_s2_s3b : s2 ≠ s3b := Nat.ne_of_lt (Nat.lt_of_lt_of_le lt_s2 gn_s3b)
  have ne_s2b_s3b : s2b ≠ s3b := Nat.ne_of_lt (Nat.lt_of_lt_of_le lt_s2b gn_s3b)
  have ne_cd_s3b : cd ≠ s3b := Nat.ne_of_lt (Nat.lt_of_lt_of_le lt_cd gn_s3b)
  have ne_s3_s3b : s3 ≠ s3b := Nat.ne_of_lt (Nat.lt_of_lt_of_le lt_s3 gn_s3b)
  have K := K.call K17 (allS (Or.inr ge_s3) all0)
  have sw : ∀ x ∈ ([s3] : List Addr), Safe Z oEL _ _ x := (sfS sf_s3 sf0)
  have sf_cd := Safe.keep K17.1 sw B.2.1 sf_cd
  have sf_s3 := Safe.keep K17.1 sw B.2.1 sf_s3
  have sf_s3b := Safe.keep K17.1 sw B.2.1 sf_s3b
  have B := B.keep K17.1 sw
  refine oWk.to (mkF m 98 #[iv p0, iv p1, iv p2, iv p3, iv p4, iv p5, rv s0, rv s1, rv cb, rv s2, rv cd, rv s3, uu, uu, uu, uu, uu, uu, uu, uu, uu, uu, uu, uu, uu, uu, uu, uu] [(.int (p0 &&& (3 : Int32)))]) (fun _ kt => st _ (zT X hx hby at_93 rfl rfl rfl (l' := #[iv p0, iv p1, iv p2, iv p3, iv p4, iv p5, rv s0, rv s1, rv cb, rv s2, rv cd, rv s3, uu, uu, uu, uu, uu, uu, uu, uu, uu, uu, uu, uu, uu, uu, uu, uu]) rfl (zI X hx hby at_95 rfl rfl (zK X hx hby at_96 rfl (XS.iand X.here hx rfl (hb hby at_97) rfl kt))))) ?_
  generalize hke1 : (p0 &&& (3 : Int32)) = k1
  show oWk _ _ _ _ T (mkF m 98 #[iv p0, iv p1, iv p2, iv p3, iv p4, iv p5, rv s0, rv s1, rv cb, rv s2, rv cd, rv s3, uu, uu, uu, uu, uu, uu, uu, uu, uu, uu, uu, uu, uu, uu, uu, uu] [(.int k1)])
  have hk1 := oM3 p0
  rw [hke1] at hk1
  refine oWk.to (mkF m 105 #[iv p0, iv p1, iv p2, iv p3, iv p4, iv p5, rv s0, rv s1, rv cb, rv s2, rv cd, rv s3, iv k1, uu, uu, uu, uu, uu, uu, uu, uu, uu, uu, uu, uu, uu, uu, uu] [(.int (((p0.toUInt32 >>> ((2 : Int32) &&& 31).toUInt32).toInt32) &&& (3 : Int32)))]) (fun _ kt => zS X hx hby at_98 rfl rfl (l' := #[iv p0, iv p1, iv p2, iv p3, iv p4, iv p5, rv s0, rv s1, rv cb, rv s2, rv cd, rv s3, iv k1, uu, uu, uu, uu, uu, uu, uu, uu, uu, uu, uu, uu, uu, uu, uu]) rfl (zI X hx hby at_100 rfl rfl (zK X hx hby at_101 rfl (XS.iushr X.here hx rfl (hb hby at_102) rfl (zK X hx hby at_103 rfl (XS.iand X.here hx rfl (hb hby at_104) rfl kt)))))) ?_
  generalize hke2 : (((p0.toUInt32 >>> ((2 : Int32) &&& 31).toUInt32).toInt32) &&& (3 : Int32)) = k2
  show oWk _ _ _ _ T (mkF m 105 #[iv p0, iv p1, iv p2, iv p3, iv p4, iv p5, rv s0, rv s1, rv cb, rv s2, rv cd, rv s3, iv k1, uu, uu, uu, uu, uu, uu, uu, uu, uu, uu, uu, uu, uu, uu, uu] [(.int k2)])
  have hk2 := oM3 ((p0.toUInt32 >>> ((2 : Int32) &&& 31).toUInt32).toInt32)
  rw [hke2] at hk2
  refine oWk.to (mkF m 112 #[iv p0, iv p1, iv p2, iv p3, iv p4, iv p5, rv s0, rv s1, rv cb, rv s2, rv cd, rv s3, iv k1, iv k2, uu, uu, uu, uu, uu, uu, uu, uu, uu, uu, uu, uu, uu, uu] [(.int (((p0.toUInt32 >>> ((4 : Int32) &&& 31).toUInt32).toInt32) &&& (3 : Int32)))]) (fun _ kt => zS X hx hby at_105 rfl rfl (l' := #[iv p0, iv p1, iv p2, iv p3, iv p4, iv p5, rv s0, rv s1, rv cb, rv s2, rv cd, rv s3, iv k1, iv k2, uu, uu, uu, uu, uu, uu, uu, uu, uu, uu, uu, uu, uu, uu]) rfl (zI X hx hby at_107 rfl rfl (zK X hx hby at_108 rfl (XS.iushr X.here hx rfl (hb hby at_109) rfl (zK X hx hby at_110 rfl (XS.iand X.here hx rfl (hb hby at_111) rfl kt)))))) ?_
  generalize hke3 : (((p0.toUInt32 >>> ((4 : Int32) &&& 31).toUInt32).toInt32) &&& (3 : Int32)) = k3
  show oWk _ _ _ _ T (mkF m 112 #[iv p0, iv p1, iv p2, iv p3, iv p4, iv p5, rv s0, rv s1, rv cb, rv s2, rv cd, rv s3, iv k1, iv k2, uu, uu, uu, uu, uu, uu, uu, uu, uu, uu, uu, uu, uu, uu] [(.int k3)])
  have hk3 := oM3 ((p0.toUInt32 >>> ((4 : Int32) &&& 31).toUInt32).toInt32)
  rw [hke3] at hk3
  refine oWk.to (mkF m 114 #[iv p0, iv p1, iv p2, iv p3, iv p4, iv p5, rv s0, rv s1, rv cb, rv s2, rv cd, rv s3, iv k1, iv k2, iv k3, uu, uu, uu, uu, uu, uu, uu, uu, uu, uu, uu, uu, uu] []) (fun _ kt => zS X hx hby at_112 rfl rfl (l' := #[iv p0, iv p1, iv p2, iv p3, iv p4, iv p5, rv s0, rv s1, rv cb, rv s2, rv cd, rv s3, iv k1, iv k2, iv k3, uu, uu, uu, uu, uu, uu, uu, uu, uu, uu, uu, uu, uu]) rfl kt) ?_
  have E_s0 := (E_s0.keep K17.1)
  have F_value_s0 := (((((((((((F_value_s0.keep K5.1 nin0).ext E7).other W8 (Or.inl ne_s0_cb)).other W9 (Or.inl ne_s0_cb)).ext E10).keep K11.1 (ninS ne_s0_s2 nin0)).ext E13).other W14 (Or.inl ne_s0_cd)).other W15 (Or.inl ne_s0_cd)).ext E16).keep K17.1 (ninS ne_s0_s3 nin0))
  have F_coder_s0 := (((((((((((F_coder_s0.keep K5.1 nin0).ext E7).other W8 (Or.inl ne_s0_cb)).other W9 (Or.inl ne_s0_cb)).ext E10).keep K11.1 (ninS ne_s0_s2 nin0)).ext E13).other W14 (Or.inl ne_s0_cd)).other W15 (Or.inl ne_s0_cd)).ext E16).keep K17.1 (ninS ne_s0_s3 nin0))
  have V_s0b := (V_s0b.keep K17.1 (ninS ne_s0b_s3 nin0))
  have U_s0 : oS Z h s0 s0b s0k 0 0 1 := ⟨E_s0, F_value_s0, Or.inl ⟨rfl, rfl, by decide, F_coder_s0, _, V_s0b⟩⟩
  have E_s1 := (E_s1.keep K17.1)
  have F_value_s1 := ((((((((((F_value_s1.ext E7).other W8 (Or.inl ne_s1_cb)).other W9 (Or.inl ne_s1_cb)).ext E10).keep K11.1 (ninS ne_s1_s2 nin0)).ext E13).other W14 (Or.inl ne_s1_cd)).other W15 (Or.inl ne_s1_cd)).ext E16).keep K17.1 (ninS ne_s1_s3 nin0))
  have F_coder_s1 := ((((((((((F_coder_s1.ext E7).other W8 (Or.inl ne_s1_cb)).other W9 (Or.inl ne_s1_cb)).ext E10).keep K11.1 (ninS ne_s1_s2 nin0)).ext E13).other W14 (Or.inl ne_s1_cd)).other W15 (Or.inl ne_s1_cd)).ext E16).keep K17.1 (ninS ne_s1_s3 nin0))
  have V_s1b := (V_s1b.keep K17.1 (ninS ne_s1b_s3 nin0))
  have U_s1 : oS Z h s1 s1b s1k 1 1 1 := ⟨E_s1, F_value_s1, Or.inl ⟨rfl, rfl, by decide, F_coder_s1, _, V_s1b⟩⟩
  have E_s2 := (E_s2.keep K17.1)
  have F_value_s2 := (((((F_value_s2.ext E13).other W14 (Or.inl ne_s2_cd)).other W15 (Or.inl ne_s2_cd)).ext E16).keep K17.1 (ninS ne_s2_s3 nin0))
  have F_coder_s2 := (((((F_coder_s2.ext E13).other W14 (Or.inl ne_s2_cd)).other W15 (Or.inl ne_s2_cd)).ext E16).keep K17.1 (ninS ne_s2_s3 nin0))
  have V_s2b := (V_s2b.keep K17.1 (ninS ne_s2b_s3 nin0))
  have U_s2 : oS Z h s2 s2b s2k 20 20 1 := ⟨E_s2, F_value_s2, Or.inl ⟨rfl, rfl, by decide, F_coder_s2, _, V_s2b⟩⟩
  have U_s3 : oS Z h s3 s3b s3k 1 2 2 := ⟨E_s3, F_value_s3, Or.inr ⟨rfl, rfl, rfl, F_coder_s3, V_s3b⟩⟩
  obtain ⟨q1, b1, kk1, n1, u1, w1, hq1, hn1, U_q1, hm1⟩ := oPk hk1 U_s0 U_s1 U_s2 U_s3
  obtain ⟨q2, b2, kk2, n2, u2, w2, hq2, hn2, U_q2, hm2⟩ := oPk hk2 U_s0 U_s1 U_s2 U_s3
  obtain ⟨q3, b3, kk3, n3, u3, w3, hq3, hn3, U_q3, hm3⟩ := oPk hk3 U_s0 U_s1 U_s2 U_s3
  refine oWk.st (fun _ kt => zJ X hx hby at_114 rfl rfl kt) ?_
  have Oh := K.old O0 all0
  obtain ⟨T, L20, X, e0, K, st⟩ := (cs67 hw).pure X hx hZ hown e0 K (A := [(.int k1)]) rfl (rLenK l Z a0 hw [] k1 n1 h Oh hn1) (W := 0) (by decide) hml (Ls := #[iv p0, iv p1, iv p2, iv p3, iv p4, iv p5, rv s0, rv s1, rv cb, rv s2, rv cd, rv s3, iv k1, iv k2, iv k3, uu, uu, uu, uu, uu, uu, uu, uu, uu, uu, uu, uu, uu]) rfl (rest := []) rfl rfl hby at_116
  refine oWk.st (fun _ kt => st _ (zS X hx hby at_119 rfl rfl (l' := #[iv p0, iv p1, iv p2, iv p3, iv p4, iv p5, rv s0, rv s1, rv cb, rv s2, rv cd, rv s3, iv k1, iv k2, iv k3, iv n1, uu, uu, uu, uu, uu, uu, uu, uu, uu, uu, uu, uu]) rfl (zI X hx hby at_121 rfl rfl kt))) ?_
  refine oWk.to (mkF m 129 #[iv p0, iv p1, iv p2, iv p3, iv p4, iv p5, rv s0, rv s1, rv cb, rv s2, rv cd, rv s3, iv k1, iv k2, iv k3, iv n1, uu, uu, uu, uu, uu, uu, uu, uu, uu, uu, uu, uu] [(.int (n1 + (1 : Int32))), (.int (p2 &&& (2147483647 : Int32)))]) (fun _ kt => X.ldcI hx hown (mvT hZ (oW hw 72 rfl)) rfl (hb hby at_122) (XS.iand X.here hx rfl (hb hby at_124) rfl (zJ X hx hby at_125 rfl rfl (zK X hx hby at_127 rfl (XS.iadd X.here hx rfl (hb hby at_128) rfl kt))))) ?_
  have hb_pp2 := (ar99 hm1 hm2 hm3)
  refine oWk.to (mkF m 130 #[iv p0, iv p1, iv p2, iv p3, iv p4, iv p5, rv s0, rv s1, rv cb, rv s2, rv cd, rv s3, iv k1, iv k2, iv k3, iv n1, uu, uu, uu, uu, uu, uu, uu, uu, uu, uu, uu, uu] [(.int ((p2 &&& (2147483647 : Int32)) % (n1 + (1 : Int32))))]) (fun _ kt => iremM X hx rfl (hb hby at_129) rfl (oNz hb_pp2) kt) ?_
  generalize he_pp2 : ((p2 &&& (2147483647 : Int32)) % (n1 + (1 : Int32))) = pp2
  show oWk _ _ _ _ T (mkF m 130 #[iv p0, iv p1, iv p2, iv p3, iv p4, iv p5, rv s0, rv s1, rv cb, rv s2, rv cd, rv s3, iv k1, iv k2, iv k3, iv n1, uu, uu, uu, uu, uu, uu, uu, uu, uu, uu, uu, uu] [(.int pp2)])
  have h_pp2 := oRm (x := p2) (n := n1) hb_pp2
  rw [he_pp2] at h_pp2
  refine oWk.st (fun _ kt => zS X hx hby at_130 rfl rfl (l' := #[iv p0, iv p1, iv p2, iv p3, iv p4, iv p5, rv s0, rv s1, rv cb, rv s2, rv cd, rv s3, iv k1, iv k2, iv k3, iv n1, iv pp2, uu, uu, uu, uu, uu, uu, uu, uu, uu, uu, uu]) rfl (zI X hx hby at_132 rfl rfl kt)) ?_
  refine oWk.to (mkF m 143 #[iv p0, iv p1, iv p2, iv p3, iv p4, iv p5, rv s0, rv s1, rv cb, rv s2, rv cd, rv s3, iv k1, iv k2, iv k3, iv n1, iv pp2, uu, uu, uu, uu, uu, uu, uu, uu, uu, uu, uu] [(.int ((n1 - pp2) + (1 : Int32))), (.int (p3 &&& (2147483647 : Int32)))]) (fun _ kt => X.ldcI hx hown (mvT hZ (oW hw 72 rfl)) rfl (hb hby at_133) (XS.iand X.here hx rfl (hb hby at_135) rfl (zJ X hx hby at_136 rfl rfl (zJ X hx hby at_138 rfl rfl (XS.isub X.here hx rfl (hb hby at_140) rfl (zK X hx hby at_141 rfl (XS.iadd X.here hx rfl (hb hby at_142) rfl kt))))))) ?_
  have hb_dd2 := (ar100 hm1 hm2 hm3 h_pp2)
  refine oWk.to (mkF m 144 #[iv p0, iv p1, iv p2, iv p3, iv p4, iv p5, rv s0, rv s1, rv cb, rv s2, rv cd, rv s3, iv k1, iv k2, iv k3, iv n1, iv pp2, uu, uu, uu, uu, uu, uu, uu, uu, uu, uu, uu] [(.int ((p3 &&& (2147483647 : Int32)) % ((n1 - pp2) + (1 : Int32))))]) (fun _ kt => iremM X hx rfl (hb hby at_143) rfl (oNz hb_dd2) kt) ?_
  generalize he_dd2 : ((p3 &&& (2147483647 : Int32)) % ((n1 - pp2) + (1 : Int32))) = dd2
  show oWk _ _ _ _ T (mkF m 144 #[iv p0, iv p1, iv p2, iv p3, iv p4, iv p5, rv s0, rv s1, rv cb, rv s2, rv cd, rv s3, iv k1, iv k2, iv k3, iv n1, iv pp2, uu, uu, uu, uu, uu, uu, uu, uu, uu, uu, uu] [(.int dd2)])
  have h_dd2 := oRm (x := p3) (n := (n1 - pp2)) hb_dd2
  rw [he_dd2] at h_dd2
  refine oWk.st (fun _ kt => zS X hx hby at_144 rfl rfl (l' := #[iv p0, iv p1, iv p2, iv p3, iv p4, iv p5, rv s0, rv s1, rv cb, rv s2, rv cd, rv s3, iv k1, iv k2, iv k3, iv n1, iv pp2, iv dd2, uu, uu, uu, uu, uu, uu, uu, uu, uu, uu]) rfl (zJ X hx hby at_146 rfl rfl (zJ X hx hby at_148 rfl rfl (XS.isub X.here hx rfl (hb hby at_150) rfl (zJ X hx hby at_151 rfl rfl kt))))) ?_
  obtain ⟨T, L22, X, e0, K, st⟩ := (cs67 hw).pure X hx hZ hown e0 K (A := [(.int k2)]) rfl (rLenK l Z a0 hw [] k2 n2 h Oh hn2) (W := 1) (by decide) hml (Ls := #[iv p0, iv p1, iv p2, iv p3, iv p4, iv p5, rv s0, rv s1, rv cb, rv s2, rv cd, rv s3, iv k1, iv k2, iv k3, iv n1, iv pp2, iv dd2, uu, uu, uu, uu, uu, uu, uu, uu, uu, uu]) rfl (rest := [(.int (n1 - dd2))]) rfl rfl hby at_153
  refine oWk.to (mkF m 157 #[iv p0, iv p1, iv p2, iv p3, iv p4, iv p5, rv s0, rv s1, rv cb, rv s2, rv cd, rv s3, iv k1, iv k2, iv k3, iv n1, iv pp2, iv dd2, uu, uu, uu, uu, uu, uu, uu, uu, uu, uu] [(.int ((n1 - dd2) + n2))]) (fun _ kt => st _ (XS.iadd X.here hx rfl (hb hby at_156) rfl kt)) ?_
  generalize he_ll2 : ((n1 - dd2) + n2) = ll2
  show oWk _ _ _ _ T (mkF m 157 #[iv p0, iv p1, iv p2, iv p3, iv p4, iv p5, rv s0, rv s1, rv cb, rv s2, rv cd, rv s3, iv k1, iv k2, iv k3, iv n1, iv pp2, iv dd2, uu, uu, uu, uu, uu, uu, uu, uu, uu, uu] [(.int ll2)])
  have h_ll2 := (ar101 hm1 hm2 hm3 h_pp2 h_dd2)
  rw [he_ll2] at h_ll2
  refine oWk.st (fun _ kt => zS X hx hby at_157 rfl rfl (l' := #[iv p0, iv p1, iv p2, iv p3, iv p4, iv p5, rv s0, rv s1, rv cb, rv s2, rv cd, rv s3, iv k1, iv k2, iv k3, iv n1, iv pp2, iv dd2, iv ll2, uu, uu, uu, uu, uu, uu, uu, uu, uu]) rfl (zJ X hx hby at_159 rfl rfl kt)) ?_
  refine oWk.to (mkF m 168 #[iv p0, iv p1, iv p2, iv p3, iv p4, iv p5, rv s0, rv s1, rv cb, rv s2, rv cd, rv s3, iv k1, iv k2, iv k3, iv n1, iv pp2, iv dd2, iv ll2, uu, uu, uu, uu, uu, uu, uu, uu, uu] [(.int (ll2 + (1 : Int32))), (.int (p4 &&& (2147483647 : Int32)))]) (fun _ kt => X.ldcI hx hown (mvT hZ (oW hw 72 rfl)) rfl (hb hby at_161) (XS.iand X.here hx rfl (hb hby at_163) rfl (zJ X hx hby at_164 rfl rfl (zK X hx hby at_166 rfl (XS.iadd X.here hx rfl (hb hby at_167) rfl kt))))) ?_
  have hb_pp3 := (ar102 hm1 hm2 hm3 h_pp2 h_dd2 h_ll2)
  refine oWk.to (mkF m 169 #[iv p0, iv p1, iv p2, iv p3, iv p4, iv p5, rv s0, rv s1, rv cb, rv s2, rv cd, rv s3, iv k1, iv k2, iv k3, iv n1, iv pp2, iv dd2, iv ll2, uu, uu, uu, uu, uu, uu, uu, uu, uu] [(.int ((p4 &&& (2147483647 : Int32)) % (ll2 + (1 : Int32))))]) (fun _ kt => iremM X hx rfl (hb hby at_168) rfl (oNz hb_pp3) kt) ?_
  generalize he_pp3 : ((p4 &&& (2147483647 : Int32)) % (ll2 + (1 : Int32))) = pp3
  show oWk _ _ _ _ T (mkF m 169 #[iv p0, iv p1, iv p2, iv p3, iv p4, iv p5, rv s0, rv s1, rv cb, rv s2, rv cd, rv s3, iv k1, iv k2, iv k3, iv n1, iv pp2, iv dd2, iv ll2, uu, uu, uu, uu, uu, uu, uu, uu, uu] [(.int pp3)])
  have h_pp3 := oRm (x := p4) (n := ll2) hb_pp3
  rw [he_pp3] at h_pp3
  refine oWk.st (fun _ kt => zS X hx hby at_169 rfl rfl (l' := #[iv p0, iv p1, iv p2, iv p3, iv p4, iv p5, rv s0, rv s1, rv cb, rv s2, rv cd, rv s3, iv k1, iv k2, iv k3, iv n1, iv pp2, iv dd2, iv ll2, iv pp3, uu, uu, uu, uu, uu, uu, uu, uu]) rfl (zJ X hx hby at_171 rfl rfl kt)) ?_
  refine oWk.to (mkF m 183 #[iv p0, iv p1, iv p2, iv p3, iv p4, iv p5, rv s0, rv s1, rv cb, rv s2, rv cd, rv s3, iv k1, iv k2, iv k3, iv n1, iv pp2, iv dd2, iv ll2, iv pp3, uu, uu, uu, uu, uu, uu, uu, uu] [(.int ((ll2 - pp3) + (1 : Int32))), (.int (p5 &&& (2147483647 : Int32)))]) (fun _ kt => X.ldcI hx hown (mvT hZ (oW hw 72 rfl)) rfl (hb hby at_173) (XS.iand X.here hx rfl (hb hby at_175) rfl (zJ X hx hby at_176 rfl rfl (zJ X hx hby at_178 rfl rfl (XS.isub X.here hx rfl (hb hby at_180) rfl (zK X hx hby at_181 rfl (XS.iadd X.here hx rfl (hb hby at_182) rfl kt))))))) ?_
  have hb_dd3 := (ar103 hm1 hm2 hm3 h_pp2 h_dd2 h_ll2 h_pp3)
  refine oWk.to (mkF m 184 #[iv p0, iv p1, iv p2, iv p3, iv p4, iv p5, rv s0, rv s1, rv cb, rv s2, rv cd, rv s3, iv k1, iv k2, iv k3, iv n1, iv pp2, iv dd2, iv ll2, iv pp3, uu, uu, uu, uu, uu, uu, uu, uu] [(.int ((p5 &&& (2147483647 : Int32)) % ((ll2 - pp3) + (1 : Int32))))]) (fun _ kt => iremM X hx rfl (hb hby at_183) rfl (oNz hb_dd3) kt) ?_
  generalize he_dd3 : ((p5 &&& (2147483647 : Int32)) % ((ll2 - pp3) + (1 : Int32))) = dd3
  show oWk _ _ _ _ T (mkF m 184 #[iv p0, iv p1, iv p2, iv p3, iv p4, iv p5, rv s0, rv s1, rv cb, rv s2, rv cd, rv s3, iv k1, iv k2, iv k3, iv n1, iv pp2, iv dd2, iv ll2, iv pp3, uu, uu, uu, uu, uu, uu, uu, uu] [(.int dd3)])
  have h_dd3 := oRm (x := p5) (n := (ll2 - pp3)) hb_dd3
  rw [he_dd3] at h_dd3
  refine oWk.st (fun _ kt => zS X hx hby at_184 rfl rfl (l' := #[iv p0, iv p1, iv p2, iv p3, iv p4, iv p5, rv s0, rv s1, rv cb, rv s2, rv cd, rv s3, iv k1, iv k2, iv k3, iv n1, iv pp2, iv dd2, iv ll2, iv pp3, iv dd3, uu, uu, uu, uu, uu, uu, uu]) rfl (zJ X hx hby at_186 rfl rfl (zJ X hx hby at_188 rfl rfl (XS.isub X.here hx rfl (hb hby at_190) rfl (zJ X hx hby at_191 rfl rfl kt))))) ?_
  obtain ⟨T, L24, X, e0, K, st⟩ := (cs67 hw).pure X hx hZ hown e0 K (A := [(.int k3)]) rfl (rLenK l Z a0 hw [] k3 n3 h Oh hn3) (W := 1) (by decide) hml (Ls := #[iv p0, iv p1, iv p2, iv p3, iv p4, iv p5, rv s0, rv s1, rv cb, rv s2, rv cd, rv s3, iv k1, iv k2, iv k3, iv n1, iv pp2, iv dd2, iv ll2, iv pp3, iv dd3, uu, uu, uu, uu, uu, uu, uu]) rfl (rest := [(.int (ll2 - dd3))]) rfl rfl hby at_193
  refine oWk.to (mkF m 197 #[iv p0, iv p1, iv p2, iv p3, iv p4, iv p5, rv s0, rv s1, rv cb, rv s2, rv cd, rv s3, iv k1, iv k2, iv k3, iv n1, iv pp2, iv dd2, iv ll2, iv pp3, iv dd3, uu, uu, uu, uu, uu, uu, uu] [(.int ((ll2 - dd3) + n3))]) (fun _ kt => st _ (XS.iadd X.here hx rfl (hb hby at_196) rfl kt)) ?_
  generalize he_ll3 : ((ll2 - dd3) + n3) = ll3
  show oWk _ _ _ _ T (mkF m 197 #[iv p0, iv p1, iv p2, iv p3, iv p4, iv p5, rv s0, rv s1, rv cb, rv s2, rv cd, rv s3, iv k1, iv k2, iv k3, iv n1, iv pp2, iv dd2, iv ll2, iv pp3, iv dd3, uu, uu, uu, uu, uu, uu, uu] [(.int ll3)])
  have h_ll3 := (ar104 hm1 hm2 hm3 h_pp2 h_dd2 h_ll2 h_pp3 h_dd3)
  rw [he_ll3] at h_ll3
  refine oWk.st (fun _ kt => zS X hx hby at_197 rfl rfl (l' := #[iv p0, iv p1, iv p2, iv p3, iv p4, iv p5, rv s0, rv s1, rv cb, rv s2, rv cd, rv s3, iv k1, iv k2, iv k3, iv n1, iv pp2, iv dd2, iv ll2, iv pp3, iv dd3, iv ll3, uu, uu, uu, uu, uu, uu]) rfl kt) ?_
  obtain ⟨t1, g25⟩ : ∃ z, z = h.size := ⟨_, rfl⟩
  have V_xd := (V_xd.keep K17.1 (ninS ne_xd_s3 nin0))
  have ne_xd_t1 : xd ≠ t1 := Nat.ne_of_lt (Nat.lt_of_lt_of_le V_xd.lt (Nat.le_of_eq g25.symm))
  have ne_q1_t1 : q1 ≠ t1 := Nat.ne_of_lt (Nat.lt_of_lt_of_le U_q1.lt (Nat.le_of_eq g25.symm))
  have ne_b1_t1 : b1 ≠ t1 := Nat.ne_of_lt (Nat.lt_of_lt_of_le U_q1.sb.lt (Nat.le_of_eq g25.symm))
  have ne_q2_t1 : q2 ≠ t1 := Nat.ne_of_lt (Nat.lt_of_lt_of_le U_q2.lt (Nat.le_of_eq g25.symm))
  have ne_b2_t1 : b2 ≠ t1 := Nat.ne_of_lt (Nat.lt_of_lt_of_le U_q2.sb.lt (Nat.le_of_eq g25.symm))
  have ne_q3_t1 : q3 ≠ t1 := Nat.ne_of_lt (Nat.lt_of_lt_of_le U_q3.lt (Nat.le_of_eq g25.symm))
  have ne_b3_t1 : b3 ≠ t1 := Nat.ne_of_lt (Nat.lt_of_lt_of_le U_q3.sb.lt (Nat.le_of_eq g25.symm))
  have ge_t1 : h0.size ≤ t1 := Nat.le_trans K.le (Nat.le_of_eq g25.symm)
  have sf_t1 := B.new (Nat.le_of_eq g25.symm)
  obtain ⟨T, h, X, e0, E25, A25, D25, -, st⟩ := newO X hx hZ hown (oW hw 73 rfl) (oW hw 74 rfl) (oW hw 75 rfl) e0 (g := (mkF m 199 #[iv p0, iv p1, iv p2, iv p3, iv p4, iv p5, rv s0, rv s1, rv cb, rv s2, rv cd, rv s3, iv k1, iv k2, iv k3, iv n1, iv pp2, iv dd2, iv ll2, iv pp3, iv dd3, iv ll3, uu, uu, uu, uu, uu, uu] [])) rfl (hb hby at_199) (by decide) (by decide)
  rw [← g25] at A25 D25 st
  have K := K.ext E25
  have sf_t1 := Safe.ext E25 B.2.1 sf_t1
  have B := B.ext E25
  have E_t1 := A25
  have F_modCount_t1 : Fld Z h t1 Y8 "modCount" "I" (.int (0 : Int32)) := D25 (Or.inl (oW hw 93 rfl)) (ty := .int) (by decide)
  have F_elementData_t1 : Fld Z h t1 Y1 "elementData" Y7 .null := D25 (Or.inl (oW hw 96 rfl)) (ty := (.array (.object Y6))) (by decide)
  have F_size_t1 : Fld Z h t1 Y1 "size" "I" (.int (0 : Int32)) := D25 (Or.inl (oW hw 165 rfl)) (ty := .int) (by decide)
  refine oWk.st (fun _ kt => st _ (zD X hx hby at_202 rfl rfl rfl kt)) ?_
  have Oh := K.old O0 all0
  obtain ⟨_, T, h, Lc27, X, e0, hQ, st⟩ := (cs68 hw).run X hx hZ hown e0 (A := [(.ref t1)]) ⟨rfl, _, _, rfl⟩ (rAL l Z a0 hw [] t1 xd (.int (0 : Int32)) .null h Oh S_D (Nat.le_trans O0.1 ge_t1) E_t1 F_elementData_t1 F_size_t1 F_modCount_t1) (W := 1) (by decide) hml (Ls := #[iv p0, iv p1, iv p2, iv p3, iv p4, iv p5, rv s0, rv s1, rv cb, rv s2, rv cd, rv s3, iv k1, iv k2, iv k3, iv n1, iv pp2, iv dd2, iv ll2, iv pp3, iv dd3, iv ll3, uu, uu, uu, uu, uu, uu]) rfl (rest := [(.ref t1)]) rfl rfl hby at_203
  obtain ⟨rfl, K26, E_t1, F_elementData_t1, F_size_t1, F_modCount_t1⟩ := hQ
  have K := K.call K26 (allS (Or.inr ge_t1) all0)
  have sw : ∀ x ∈ ([t1] : List Addr), Safe Z oEL _ _ x := (sfS sf_t1 sf0)
  have sf_t1 := Safe.keep K26.1 sw B.2.1 sf_t1
  have B := B.keep K26.1 sw
  refine oWk.st (fun _ kt => st _ (zT X hx hby at_206 rfl rfl rfl (l' := #[iv p0, iv p1, iv p2, iv p3, iv p4, iv p5, rv s0, rv s1, rv cb, rv s2, rv cd, rv s3, iv k1, iv k2, iv k3, iv n1, iv pp2, iv dd2, iv ll2, iv pp3, iv dd3, iv ll3, rv t1, uu, uu, uu, uu, uu]) rfl (zB X hx hby at_208 rfl rfl rfl kt))) ?_
  obtain ⟨pa1, g28⟩ : ∃ z, z = h.size := ⟨_, rfl⟩
  have V_xd := ((V_xd.ext E25).keep K26.1 (ninS ne_xd_t1 nin0))
  have ne_xd_pa1 : xd ≠ pa1 := Nat.ne_of_lt (Nat.lt_of_lt_of_le V_xd.lt (Nat.le_of_eq g28.symm))
  have U_q1 := ((U_q1.ext E25).keep K26.1 (ninS ne_q1_t1 nin0) (ninS ne_b1_t1 nin0))
  have ne_q1_pa1 : q1 ≠ pa1 := Nat.ne_of_lt (Nat.lt_of_lt_of_le U_q1.lt (Nat.le_of_eq g28.symm))
  have ne_b1_pa1 : b1 ≠ pa1 := Nat.ne_of_lt (Nat.lt_of_lt_of_le U_q1.sb.lt (Nat.le_of_eq g28.symm))
  have U_q2 := ((U_q2.ext E25).keep K26.1 (ninS ne_q2_t1 nin0) (ninS ne_b2_t1 nin0))
  have ne_q2_pa1 : q2 ≠ pa1 := Nat.ne_of_lt (Nat.lt_of_lt_of_le U_q2.lt (Nat.le_of_eq g28.symm))
  have ne_b2_pa1 : b2 ≠ pa1 := Nat.ne_of_lt (Nat.lt_of_lt_of_le U_q2.sb.lt (Nat.le_of_eq g28.symm))
  have U_q3 := ((U_q3.ext E25).keep K26.1 (ninS ne_q3_t1 nin0) (ninS ne_b3_t1 nin0))
  have ne_q3_pa1 : q3 ≠ pa1 := Nat.ne_of_lt (Nat.lt_of_lt_of_le U_q3.lt (Nat.le_of_eq g28.symm))
  have ne_b3_pa1 : b3 ≠ pa1 := Nat.ne_of_lt (Nat.lt_of_lt_of_le U_q3.sb.lt (Nat.le_of_eq g28.symm))
  have ne_t1_pa1 : t1 ≠ pa1 := Nat.ne_of_lt (Nat.lt_of_lt_of_le E_t1.lt (Nat.le_of_eq g28.symm))
  have ge_pa1 : h0.size ≤ pa1 := Nat.le_trans K.le (Nat.le_of_eq g28.symm)
  have sf_pa1 := B.new (Nat.le_of_eq g28.symm)
  obtain ⟨T, h, X, e0, E28, A28, D28, -, st⟩ := newO X hx hZ hown (oW hw 97 rfl) (oW hw 98 rfl) (oW hw 99 rfl) e0 (g := (mkF m 210 #[iv p0, iv p1, iv p2, iv p3, iv p4, iv p5, rv s0, rv s1, rv cb, rv s2, rv cd, rv s3, iv k1, iv k2, iv k3, iv n1, iv pp2, iv dd2, iv ll2, iv pp3, iv dd3, iv ll3, rv t1, uu, uu, uu, uu, uu] [(.ref t1)])) rfl (hb hby at_210) (by decide) (by decide)
  rw [← g28] at A28 D28 st
  have K := K.ext E28
  have sf_t1 := Safe.ext E28 B.2.1 sf_t1
  have sf_pa1 := Safe.ext E28 B.2.1 sf_pa1
  have B := B.ext E28
  have E_pa1 := A28
  have F_position_pa1 : Fld Z h pa1 Y2 "position" "I" (.int (0 : Int32)) := D28 (Or.inr (oW hw 131 rfl)) (ty := .int) (by decide)
  have F_deleteCount_pa1 : Fld Z h pa1 Y2 "deleteCount" "I" (.int (0 : Int32)) := D28 (Or.inr (oW hw 133 rfl)) (ty := .int) (by decide)
  have F_insertion_pa1 : Fld Z h pa1 Y2 "insertion" Y13 .null := D28 (Or.inr (oW hw 135 rfl)) (ty := (.object Y0)) (by decide)
  have F_insertionLength_pa1 : Fld Z h pa1 Y2 Y12 "I" (.int (0 : Int32)) := D28 (Or.inr (oW hw 156 rfl)) (ty := .int) (by decide)
  refine oWk.to (mkF m 222 #[iv p0, iv p1, iv p2, iv p3, iv p4, iv p5, rv s0, rv s1, rv cb, rv s2, rv cd, rv s3, iv k1, iv k2, iv k3, iv n1, iv pp2, iv dd2, iv ll2, iv pp3, iv dd3, iv ll3, rv t1, uu, uu, uu, uu, uu] [(.ref s1), (.ref s0), (.int k1), (.int 0), (.int 0), (.ref pa1), (.ref pa1), (.ref t1)]) (fun _ kt => st _ (zD X hx hby at_213 rfl rfl rfl (zK X hx hby at_214 rfl (zK X hx hby at_215 rfl (zJ X hx hby at_216 rfl rfl (zB X hx hby at_218 rfl rfl rfl (zB X hx hby at_220 rfl rfl rfl kt))))))) ?_
  refine oWk.st (fun _ kt => zB X hx hby at_222 rfl rfl rfl (zB X hx hby at_224 rfl rfl rfl kt)) ?_
  have Oh := K.old O0 all0
  obtain ⟨T, L30, X, e0, K, st⟩ := (cs69 hw).pure X hx hZ hown e0 K (A := [(.int k1), (.ref s0), (.ref s1), (.ref s2), (.ref s3)]) rfl (rPick l Z a0 hw [] k1 s0 s1 s2 s3 q1 h Oh hq1) (W := 5) (by decide) hml (Ls := #[iv p0, iv p1, iv p2, iv p3, iv p4, iv p5, rv s0, rv s1, rv cb, rv s2, rv cd, rv s3, iv k1, iv k2, iv k3, iv n1, iv pp2, iv dd2, iv ll2, iv pp3, iv dd3, iv ll3, rv t1, uu, uu, uu, uu, uu]) rfl (rest := [(.int (0 : Int32)), (.int (0 : Int32)), (.ref pa1), (.ref pa1), (.ref t1)]) rfl rfl hby at_226
  refine oWk.st (fun _ kt => st _ kt) ?_
  have U_q1 := (U_q1.ext E28)
  have E_t1 := (E_t1.ext E28)
  obtain ⟨_, _, ⟨T, L32, k32, n32⟩, -, X, hS, hgr, ⟨Lc32, hQ, l32, y32, z32, C⟩, st⟩ := X.specialBackS hx (y := yy27) rfl hown (mvT hZ (oW hw 103 rfl)) (mvT hZ (oW hw 104 rfl)) (mvT hZ (oW hw 105 rfl)) (by decide) (oBackH (W := 2) (rPI l Z a0 hw [] pa1 (0 : Int32) (0 : Int32) (.int (0 : Int32)) (.int (0 : Int32)) .null (.int (0 : Int32)) q1 b1 kk1 n1 u1 w1 xfm xz h Oh S_Z hz S_A S_H S_L S_F hcat (Nat.le_trans O0.1 ge_pa1) E_pa1 F_position_pa1 F_deleteCount_pa1 F_insertion_pa1 F_insertionLength_pa1 U_q1 ne_q1_pa1 ne_b1_pa1 (by decide) (by decide)) hZ (oW hw 105 rfl) (oW hw 99 rfl) (by decide) (by decide) (oELw hw) B.2.1 (allS ⟨E_pa1.lt, sf_pa1⟩ all0)) (g := (mkF m 229 #[iv p0, iv p1, iv p2, iv p3, iv p4, iv p5, rv s0, rv s1, rv cb, rv s2, rv cd, rv s3, iv k1, iv k2, iv k3, iv n1, iv pp2, iv dd2, iv ll2, iv pp3, iv dd3, iv ll3, rv t1, uu, uu, uu, uu, uu] [(.ref q1), (.int 0), (.int 0), (.ref pa1), (.ref pa1), (.ref t1)])) rfl (by rw [hml]; rfl) (Steps.refl _) (a := pa1) (argsL := [(.int (0 : Int32)), (.int (0 : Int32)), (.ref q1)]) (rest := [(.ref pa1), (.ref t1)]) (lenOf pd_42 rfl) rfl (Nat.le_of_eq rfl) (hb hby at_229) (fun _ _ => ⟨rfl, e0, (by decide : 17 + 4 ≤ _), (by decide : 80 + 112 ≤ _)⟩)
  dsimp only [Pt.U, Pt.locs, Pt.cells, Pt.slots] at X l32 y32 z32 st hQ C hS hgr
  subst l32 y32 z32
  have X : Stand p l e _ (s.setVm T.vm) m _ below meth c T _ _ _ := X
  obtain ⟨h, e2⟩ : ∃ z, T.heap = z := ⟨_, rfl⟩
  have B := B.call e0 hS hgr C e2
  obtain ⟨hZ, hown⟩ := oWide hZ hown hS
  rw [e2] at hQ C
  have sf_t1 := C.safe E_t1.lt sf_t1
  have sf_pa1 := C.safe E_pa1.lt sf_pa1
  have e0 := e2
  obtain ⟨rfl, K31, E_pa1, F_position_pa1, F_deleteCount_pa1, F_insertion_pa1, F_insertionLength_pa1⟩ := hQ
  have K := K.call K31 (allS (Or.inr ge_pa1) all0)
  refine oWk.to (mkF m 232 #[iv p0, iv p1, iv p2, iv p3, iv p4, iv p5, rv s0, rv s1, rv cb, rv s2, rv cd, rv s3, iv k1, iv k2, iv k3, iv n1, iv pp2, iv dd2, iv ll2, iv pp3, iv dd3, iv ll3, rv t1, uu, uu, uu, uu, uu] [(.ref pa1), (.ref t1)]) (fun _ kt => st.trans kt) ?_
  have E_t1 := (E_t1.keep K31.1)
  have F_elementData_t1 := ((F_elementData_t1.ext E28).keep K31.1 (ninS ne_t1_pa1 nin0))
  have F_size_t1 := ((F_size_t1.ext E28).keep K31.1 (ninS ne_t1_pa1 nin0))
  have F_modCount_t1 := ((F_modCount_t1.ext E28).keep K31.1 (ninS ne_t1_pa1 nin0))
  have V_xd := ((V_xd.ext E28).keep K31.1 (ninS ne_xd_pa1 nin0))
  have lt_xd := V_xd.lt
  have U_q1 := (U_q1.keep K31.1 (ninS ne_q1_pa1 nin0) (ninS ne_b1_pa1 nin0))
  have lt_q1 := U_q1.lt
  have lt_b1 := U_q1.sb.lt
  have U_q2 := ((U_q2.ext E28).keep K31.1 (ninS ne_q2_pa1 nin0) (ninS ne_b2_pa1 nin0))
  have lt_q2 := U_q2.lt
  have lt_b2 := U_q2.sb.lt
  have U_q3 := ((U_q3.ext E28).keep K31.1 (ninS ne_q3_pa1 nin0) (ninS ne_b3_pa1 nin0))
  have lt_q3 := U_q3.lt
  have lt_b3 := U_q3.sb.lt
  have lt_t1 := E_t1.lt
  have lt_pa1 := E_pa1.lt
  have Oh := K.old O0 all0
  obtain ⟨_, T, h, Lc34, X, e0, hQ, st⟩ := (cs70 hw).run X hx hZ hown e0 (A := [(.ref t1), (.ref pa1)]) ⟨rfl, _, _, rfl, E_t1⟩ (rAd_0 l Z a0 hw [] t1 pa1 xd xk (0 : Int32) h Oh S_D (Nat.le_trans O0.1 ge_t1) E_t1 F_elementData_t1 F_size_t1 F_modCount_t1 V_xd (Ins.of_exa E_pa1 (oW hw 187 rfl)) ne_t1_pa1 (Ne.symm ne_xd_t1)) (W := 0) (by decide) hml (Ls := #[iv p0, iv p1, iv p2, iv p3, iv p4, iv p5, rv s0, rv s1, rv cb, rv s2, rv cd, rv s3, iv k1, iv k2, iv k3, iv n1, iv pp2, iv dd2, iv ll2, iv pp3, iv dd3, iv ll3, rv t1, uu, uu, uu, uu, uu]) rfl (rest := []) rfl rfl hby at_232
  obtain ⟨ad1, ak1, rfl, K33, E_t1, F_elementData_t1, F_size_t1, F_modCount_t1, gn_ad1, E_ad1, V_ad1, ov_ak1⟩ := hQ
  have ge_ad1 := Nat.le_trans K.le gn_ad1
  have sf_ad1 := B.new gn_ad1
  have ne_xd_ad1 : xd ≠ ad1 := Nat.ne_of_lt (Nat.lt_of_lt_of_le lt_xd gn_ad1)
  have ne_q1_ad1 : q1 ≠ ad1 := Nat.ne_of_lt (Nat.lt_of_lt_of_le lt_q1 gn_ad1)
  have ne_b1_ad1 : b1 ≠ ad1 := Nat.ne_of_lt (Nat.lt_of_lt_of_le lt_b1 gn_ad1)
  have ne_q2_ad1 : q2 ≠ ad1 := Nat.ne_of_lt (Nat.lt_of_lt_of_le lt_q2 gn_ad1)
  have ne_b2_ad1 : b2 ≠ ad1 := Nat.ne_of_lt (Nat.lt_of_lt_of_le lt_b2 gn_ad1)
  have ne_q3_ad1 : q3 ≠ ad1 := Nat.ne_of_lt (Nat.lt_of_lt_of_le lt_q3 gn_ad1)
  have ne_b3_ad1 : b3 ≠ ad1 := Nat.ne_of_lt (Nat.lt_of_lt_of_le lt_b3 gn_ad1)
  have ne_t1_ad1 : t1 ≠ ad1 := Nat.ne_of_lt (Nat.lt_of_lt_of_le lt_t1 gn_ad1)
  have ne_pa1_ad1 : pa1 ≠ ad1 := Nat.ne_of_lt (Nat.lt_of_lt_of_le lt_pa1 gn_ad1)
  have K := K.call K33 (allS (Or.inr ge_t1) all0)
  have sw : ∀ x ∈ ([t1] : List Addr), Safe Z oEL _ _ x := (sfS sf_t1 sf0)
  have sf_t1 := Safe.keep K33.1 sw B.2.1 sf_t1
  have sf_ad1 := Safe.keep K33.1 sw B.2.1 sf_ad1
  have B := B.keep K33.1 sw
  refine oWk.to (mkF m 236 #[iv p0, iv p1, iv p2, iv p3, iv p4, iv p5, rv s0, rv s1, rv cb, rv s2, rv cd, rv s3, iv k1, iv k2, iv k3, iv n1, iv pp2, iv dd2, iv ll2, iv pp3, iv dd3, iv ll3, rv t1, uu, uu, uu, uu, uu] []) (fun _ kt => st _ (XS.pop X.here hx rfl (hb hby at_235) rfl rfl kt)) ?_
  obtain ⟨t2, g35⟩ : ∃ z, z = h.size := ⟨_, rfl⟩
  have V_xd := (V_xd.keep K33.1 (ninS ne_xd_t1 nin0))
  have ne_xd_t2 : xd ≠ t2 := Nat.ne_of_lt (Nat.lt_of_lt_of_le V_xd.lt (Nat.le_of_eq g35.symm))
  have U_q1 := (U_q1.keep K33.1 (ninS ne_q1_t1 nin0) (ninS ne_b1_t1 nin0))
  have ne_q1_t2 : q1 ≠ t2 := Nat.ne_of_lt (Nat.lt_of_lt_of_le U_q1.lt (Nat.le_of_eq g35.symm))
  have ne_b1_t2 : b1 ≠ t2 := Nat.ne_of_lt (Nat.lt_of_lt_of_le U_q1.sb.lt (Nat.le_of_eq g35.symm))
  have U_q2 := (U_q2.keep K33.1 (ninS ne_q2_t1 nin0) (ninS ne_b2_t1 nin0))
  have ne_q2_t2 : q2 ≠ t2 := Nat.ne_of_lt (Nat.lt_of_lt_of_le U_q2.lt (Nat.le_of_eq g35.symm))
  have ne_b2_t2 : b2 ≠ t2 := Nat.ne_of_lt (Nat.lt_of_lt_of_le U_q2.sb.lt (Nat.le_of_eq g35.symm))
  have U_q3 := (U_q3.keep K33.1 (ninS ne_q3_t1 nin0) (ninS ne_b3_t1 nin0))
  have ne_q3_t2 : q3 ≠ t2 := Nat.ne_of_lt (Nat.lt_of_lt_of_le U_q3.lt (Nat.le_of_eq g35.symm))
  have ne_b3_t2 : b3 ≠ t2 := Nat.ne_of_lt (Nat.lt_of_lt_of_le U_q3.sb.lt (Nat.le_of_eq g35.symm))
  have ne_t1_t2 : t1 ≠ t2 := Nat.ne_of_lt (Nat.lt_of_lt_of_le E_t1.lt (Nat.le_of_eq g35.symm))
  have E_pa1 := (E_pa1.keep K33.1)
  have ne_pa1_t2 : pa1 ≠ t2 := Nat.ne_of_lt (Nat.lt_of_lt_of_le E_pa1.lt (Nat.le_of_eq g35.symm))
  have ne_ad1_t2 : ad1 ≠ t2 := Nat.ne_of_lt (Nat.lt_of_lt_of_le E_ad1.lt (Nat.le_of_eq g35.symm))
  have ge_t2 : h0.size ≤ t2 := Nat.le_trans K.le (Nat.le_of_eq g35.symm)
  have sf_t2 := B.new (Nat.le_of_eq g35.symm)
  obtain ⟨T, h, X, e0, E35, A35, D35, -, st⟩ := newO X hx hZ hown (oW hw 73 rfl) (oW hw 74 rfl) (oW hw 75 rfl) e0 (g := (mkF m 236 #[iv p0, iv p1, iv p2, iv p3, iv p4, iv p5, rv s0, rv s1, rv cb, rv s2, rv cd, rv s3, iv k1, iv k2, iv k3, iv n1, iv pp2, iv dd2, iv ll2, iv pp3, iv dd3, iv ll3, rv t1, uu, uu, uu, uu, uu] [])) rfl (hb hby at_236) (by decide) (by decide)
  rw [← g35] at A35 D35 st
  have K := K.ext E35
  have sf_t2 := Safe.ext E35 B.2.1 sf_t2
  have B := B.ext E35
  have E_t2 := A35
  have F_modCount_t2 : Fld Z h t2 Y8 "modCount" "I" (.int (0 : Int32)) := D35 (Or.inl (oW hw 93 rfl)) (ty := .int) (by decide)
  have F_elementData_t2 : Fld Z h t2 Y1 "elementData" Y7 .null := D35 (Or.inl (oW hw 96 rfl)) (ty := (.array (.object Y6))) (by decide)
  have F_size_t2 : Fld Z h t2 Y1 "size" "I" (.int (0 : Int32)) := D35 (Or.inl (oW hw 165 rfl)) (ty := .int) (by decide)
  refine oWk.st (fun _ kt => st _ (zD X hx hby at_239 rfl rfl rfl kt)) ?_
  have Oh := K.old O0 all0
  obtain ⟨_, T, h, Lc37, X, e0, hQ, st⟩ := (cs68 hw).run X hx hZ hown e0 (A := [(.ref t2)]) ⟨rfl, _, _, rfl⟩ (rAL l Z a0 hw [] t2 xd (.int (0 : Int32)) .null h Oh S_D (Nat.le_trans O0.1 ge_t2) E_t2 F_elementData_t2 F_size_t2 F_modCount_t2) (W := 1) (by decide) hml (Ls := #[iv p0, iv p1, iv p2, iv p3, iv p4, iv p5, rv s0, rv s1, rv cb, rv s2, rv cd, rv s3, iv k1, iv k2, iv k3, iv n1, iv pp2, iv dd2, iv ll2, iv pp3, iv dd3, iv ll3, rv t1, uu, uu, uu, uu, uu]) rfl (rest := [(.ref t2)]) rfl rfl hby at_240
  obtain ⟨rfl, K36, E_t2, F_elementData_t2, F_size_t2, F_modCount_t2⟩ := hQ
  have K := K.call K36 (allS (Or.inr ge_t2) all0)
  have sw : ∀ x ∈ ([t2] : List Addr), Safe Z oEL _ _ x := (sfS sf_t2 sf0)
  have sf_t2 := Safe.keep K36.1 sw B.2.1 sf_t2
  have B := B.keep K36.1 sw
  refine oWk.st (fun _ kt => st _ (zT X hx hby at_243 rfl rfl rfl (l' := #[iv p0, iv p1, iv p2, iv p3, iv p4, iv p5, rv s0, rv s1, rv cb, rv s2, rv cd, rv s3, iv k1, iv k2, iv k3, iv n1, iv pp2, iv dd2, iv ll2, iv pp3, iv dd3, iv ll3, rv t1, rv t2, uu, uu, uu, uu]) rfl (zB X hx hby at_245 rfl rfl rfl kt))) ?_
  obtain ⟨pa2, g38⟩ : ∃ z, z = h.size := ⟨_, rfl⟩
  have V_xd := ((V_xd.ext E35).keep K36.1 (ninS ne_xd_t2 nin0))
  have ne_xd_pa2 : xd ≠ pa2 := Nat.ne_of_lt (Nat.lt_of_lt_of_le V_xd.lt (Nat.le_of_eq g38.symm))
  have U_q1 := ((U_q1.ext E35).keep K36.1 (ninS ne_q1_t2 nin0) (ninS ne_b1_t2 nin0))
  have ne_q1_pa2 : q1 ≠ pa2 := Nat.ne_of_lt (Nat.lt_of_lt_of_le U_q1.lt (Nat.le_of_eq g38.symm))
  have ne_b1_pa2 : b1 ≠ pa2 := Nat.ne_of_lt (Nat.lt_of_lt_of_le U_q1.sb.lt (Nat.le_of_eq g38.symm))
  have U_q2 := ((U_q2.ext E35).keep K36.1 (ninS ne_q2_t2 nin0) (ninS ne_b2_t2 nin0))
  have ne_q2_pa2 : q2 ≠ pa2 := Nat.ne_of_lt (Nat.lt_of_lt_of_le U_q2.lt (Nat.le_of_eq g38.symm))
  have ne_b2_pa2 : b2 ≠ pa2 := Nat.ne_of_lt (Nat.lt_of_lt_of_le U_q2.sb.lt (Nat.le_of_eq g38.symm))
  have U_q3 := ((U_q3.ext E35).keep K36.1 (ninS ne_q3_t2 nin0) (ninS ne_b3_t2 nin0))
  have ne_q3_pa2 : q3 ≠ pa2 := Nat.ne_of_lt (Nat.lt_of_lt_of_le U_q3.lt (Nat.le_of_eq g38.symm))
  have ne_b3_pa2 : b3 ≠ pa2 := Nat.ne_of_lt (Nat.lt_of_lt_of_le U_q3.sb.lt (Nat.le_of_eq g38.symm))
  have E_t1 := ((E_t1.ext E35).keep K36.1)
  have ne_t1_pa2 : t1 ≠ pa2 := Nat.ne_of_lt (Nat.lt_of_lt_of_le E_t1.lt (Nat.le_of_eq g38.symm))
  have E_pa1 := ((E_pa1.ext E35).keep K36.1)
  have ne_pa1_pa2 : pa1 ≠ pa2 := Nat.ne_of_lt (Nat.lt_of_lt_of_le E_pa1.lt (Nat.le_of_eq g38.symm))
  have E_ad1 := ((E_ad1.ext E35).keep K36.1)
  have ne_ad1_pa2 : ad1 ≠ pa2 := Nat.ne_of_lt (Nat.lt_of_lt_of_le E_ad1.lt (Nat.le_of_eq g38.symm))
  have ne_t2_pa2 : t2 ≠ pa2 := Nat.ne_of_lt (Nat.lt_of_lt_of_le E_t2.lt (Nat.le_of_eq g38.symm))
  have ge_pa2 : h0.size ≤ pa2 := Nat.le_trans K.le (Nat.le_of_eq g38.symm)
  have sf_pa2 := B.new (Nat.le_of_eq g38.symm)
  obtain ⟨T, h, X, e0, E38, A38, D38, -, st⟩ := newO X hx hZ hown (oW hw 97 rfl) (oW hw 98 rfl) (oW hw 99 rfl) e0 (g := (mkF m 247 #[iv p0, iv p1, iv p2, iv p3, iv p4, iv p5, rv s0, rv s1, rv cb, rv s2, rv cd, rv s3, iv k1, iv k2, iv k3, iv n1, iv pp2, iv dd2, iv ll2, iv pp3, iv dd3, iv ll3, rv t1, rv t2, uu, uu, uu, uu] [(.ref t2)])) rfl (hb hby at_247) (by decide) (by decide)
  rw [← g38] at A38 D38 st
  have K := K.ext E38
  have sf_t2 := Safe.ext E38 B.2.1 sf_t2
  have sf_pa2 := Safe.ext E38 B.2.1 sf_pa2
  have B := B.ext E38
  have E_pa2 := A38
  have F_position_pa2 : Fld Z h pa2 Y2 "position" "I" (.int (0 : Int32)) := D38 (Or.inr (oW hw 131 rfl)) (ty := .int) (by decide)
  have F_deleteCount_pa2 : Fld Z h pa2 Y2 "deleteCount" "I" (.int (0 : Int32)) := D38 (Or.inr (oW hw 133 rfl)) (ty := .int) (by decide)
  have F_insertion_pa2 : Fld Z h pa2 Y2 "insertion" Y13 .null := D38 (Or.inr (oW hw 135 rfl)) (ty := (.object Y0)) (by decide)
  have F_insertionLength_pa2 : Fld Z h pa2 Y2 Y12 "I" (.int (0 : Int32)) := D38 (Or.inr (oW hw 156 rfl)) (ty := .int) (by decide)
  refine oWk.to (mkF m 261 #[iv p0, iv p1, iv p2, iv p3, iv p4, iv p5, rv s0, rv s1, rv cb, rv s2, rv cd, rv s3, iv k1, iv k2, iv k3, iv n1, iv pp2, iv dd2, iv ll2, iv pp3, iv dd3, iv ll3, rv t1, rv t2, uu, uu, uu, uu] [(.ref s1), (.ref s0), (.int k2), (.int dd2), (.int pp2), (.ref pa2), (.ref pa2), (.ref t2)]) (fun _ kt => st _ (zD X hx hby at_250 rfl rfl rfl (zJ X hx hby at_251 rfl rfl (zJ X hx hby at_253 rfl rfl (zJ X hx hby at_255 rfl rfl (zB X hx hby at_257 rfl rfl rfl (zB X hx hby at_259 rfl rfl rfl kt))))))) ?_
  refine oWk.st (fun _ kt => zB X hx hby at_261 rfl rfl rfl (zB X hx hby at_263 rfl rfl rfl kt)) ?_
  have Oh := K.old O0 all0
  obtain ⟨T, L40, X, e0, K, st⟩ := (cs69 hw).pure X hx hZ hown e0 K (A := [(.int k2), (.ref s0), (.ref s1), (.ref s2), (.ref s3)]) rfl (rPick l Z a0 hw [] k2 s0 s1 s2 s3 q2 h Oh hq2) (W := 5) (by decide) hml (Ls := #[iv p0, iv p1, iv p2, iv p3, iv p4, iv p5, rv s0, rv s1, rv cb, rv s2, rv cd, rv s3, iv k1, iv k2, iv k3, iv n1, iv pp2, iv dd2, iv ll2, iv pp3, iv dd3, iv ll3, rv t1, rv t2, uu, uu, uu, uu]) rfl (rest := [(.int dd2), (.int pp2), (.ref pa2), (.ref pa2), (.ref t2)]) rfl rfl hby at_265
  refine oWk.st (fun _ kt => st _ kt) ?_
  have U_q2 := (U_q2.ext E38)
  have E_t2 := (E_t2.ext E38)
  obtain ⟨_, _, ⟨T, L42, k42, n42⟩, -, X, hS, hgr, ⟨Lc42, hQ, l42, y42, z42, C⟩, st⟩ := X.specialBackS hx (y := yy27) rfl hown (mvT hZ (oW hw 103 rfl)) (mvT hZ (oW hw 104 rfl)) (mvT hZ (oW hw 105 rfl)) (by decide) (oBackH (W := 2) (rPI l Z a0 hw [] pa2 pp2 dd2 (.int (0 : Int32)) (.int (0 : Int32)) .null (.int (0 : Int32)) q2 b2 kk2 n2 u2 w2 xfm xz h Oh S_Z hz S_A S_H S_L S_F hcat (Nat.le_trans O0.1 ge_pa2) E_pa2 F_position_pa2 F_deleteCount_pa2 F_insertion_pa2 F_insertionLength_pa2 U_q2 ne_q2_pa2 ne_b2_pa2 (ar105 hm1 hm2 hm3 h_pp2 h_dd2 h_ll2 h_pp3 h_dd3 h_ll3) (ar106 hm1 hm2 hm3 h_pp2 h_dd2 h_ll2 h_pp3 h_dd3 h_ll3)) hZ (oW hw 105 rfl) (oW hw 99 rfl) (by decide) (by decide) (oELw hw) B.2.1 (allS ⟨E_pa2.lt, sf_pa2⟩ all0)) (g := (mkF m 268 #[iv p0, iv p1, iv p2, iv p3, iv p4, iv p5, rv s0, rv s1, rv cb, rv s2, rv cd, rv s3, iv k1, iv k2, iv k3, iv n1, iv pp2, iv dd2, iv ll2, iv pp3, iv dd3, iv ll3, rv t1, rv t2, uu, uu, uu, uu] [(.ref q2), (.int dd2), (.int pp2), (.ref pa2), (.ref pa2), (.ref t2)])) rfl (by rw [hml]; rfl) (Steps.refl _) (a := pa2) (argsL := [(.int pp2), (.int dd2), (.ref q2)]) (rest := [(.ref pa2), (.ref t2)]) (lenOf pd_42 rfl) rfl (Nat.le_of_eq rfl) (hb hby at_268) (fun _ _ => ⟨rfl, e0, (by decide : 24 + 4 ≤ _), (by decide : 209 + 112 ≤ _)⟩)
  dsimp only [Pt.U, Pt.locs, Pt.cells, Pt.slots] at X l42 y42 z42 st hQ C hS hgr
  subst l42 y42 z42
  have X : Stand p l e _ (s.setVm T.vm) m _ below meth c T _ _ _ := X
  obtain ⟨h, e2⟩ : ∃ z, T.heap = z := ⟨_, rfl⟩
  have B := B.call e0 hS hgr C e2
  obtain ⟨hZ, hown⟩ := oWide hZ hown hS
  rw [e2] at hQ C
  have sf_t2 := C.safe E_t2.lt sf_t2
  have sf_pa2 := C.safe E_pa2.lt sf_pa2
  have e0 := e2
  obtain ⟨rfl, K41, E_pa2, F_position_pa2, F_deleteCount_pa2, F_insertion_pa2, F_insertionLength_pa2⟩ := hQ
  have K := K.call K41 (allS (Or.inr ge_pa2) all0)
  refine oWk.to (mkF m 271 #[iv p0, iv p1, iv p2, iv p3, iv p4, iv p5, rv s0, rv s1, rv cb, rv s2, rv cd, rv s3, iv k1, iv k2, iv k3, iv n1, iv pp2, iv dd2, iv ll2, iv pp3, iv dd3, iv ll3, rv t1, rv t2, uu, uu, uu, uu] [(.ref pa2), (.ref t2)]) (fun _ kt => st.trans kt) ?_
  have E_t2 := (E_t2.keep K41.1)
  have F_elementData_t2 := ((F_elementData_t2.ext E38).keep K41.1 (ninS ne_t2_pa2 nin0))
  have F_size_t2 := ((F_size_t2.ext E38).keep K41.1 (ninS ne_t2_pa2 nin0))
  have F_modCount_t2 := ((F_modCount_t2.ext E38).keep K41.1 (ninS ne_t2_pa2 nin0))
  have V_xd := ((V_xd.ext E38).keep K41.1 (ninS ne_xd_pa2 nin0))
  have lt_xd := V_xd.lt
  have U_q1 := ((U_q1.ext E38).keep K41.1 (ninS ne_q1_pa2 nin0) (ninS ne_b1_pa2 nin0))
  have lt_q1 := U_q1.lt
  have lt_b1 := U_q1.sb.lt
  have U_q2 := (U_q2.keep K41.1 (ninS ne_q2_pa2 nin0) (ninS ne_b2_pa2 nin0))
  have lt_q2 := U_q2.lt
  have lt_b2 := U_q2.sb.lt
  have U_q3 := ((U_q3.ext E38).keep K41.1 (ninS ne_q3_pa2 nin0) (ninS ne_b3_pa2 nin0))
  have lt_q3 := U_q3.lt
  have lt_b3 := U_q3.sb.lt
  have E_t1 := ((E_t1.ext E38).keep K41.1)
  have lt_t1 := E_t1.lt
  have E_pa1 := ((E_pa1.ext E38).keep K41.1)
  have lt_pa1 := E_pa1.lt
  have E_ad1 := ((E_ad1.ext E38).keep K41.1)
  have lt_ad1 := E_ad1.lt
  have lt_t2 := E_t2.lt
  have lt_pa2 := E_pa2.lt
  have Oh := K.old O0 all0
  obtain ⟨_, T, h, Lc44, X, e0, hQ, st⟩ := (cs70 hw).run X hx hZ hown e0 (A := [(.ref t2), (.ref pa2)]) ⟨rfl, _, _, rfl, E_t2⟩ (rAd_0 l Z a0 hw [] t2 pa2 xd xk (0 : Int32) h Oh S_D (Nat.le_trans O0.1 ge_t2) E_t2 F_elementData_t2 F_size_t2 F_modCount_t2 V_xd (Ins.of_exa E_pa2 (oW hw 187 rfl)) ne_t2_pa2 (Ne.symm ne_xd_t2)) (W := 0) (by decide) hml (Ls := #[iv p0, iv p1, iv p2, iv p3, iv p4, iv p5, rv s0, rv s1, rv cb, rv s2, rv cd, rv s3, iv k1, iv k2, iv k3, iv n1, iv pp2, iv dd2, iv ll2, iv pp3, iv dd3, iv ll3, rv t1, rv t2, uu, uu, uu, uu]) rfl (rest := []) rfl rfl hby at_271
  obtain ⟨ad2, ak2, rfl, K43, E_t2, F_elementData_t2, F_size_t2, F_modCount_t2, gn_ad2, E_ad2, V_ad2, ov_ak2⟩ := hQ
  have ge_ad2 := Nat.le_trans K.le gn_ad2
  have sf_ad2 := B.new gn_ad2
  have ne_xd_ad2 : xd ≠ ad2 := Nat.ne_of_lt (Nat.lt_of_lt_of_le lt_xd gn_ad2)
  have ne_q1_ad2 : q1 ≠ ad2 := Nat.ne_of_lt (Nat.lt_of_lt_of_le lt_q1 gn_ad2)
  have ne_b1_ad2 : b1 ≠ ad2 := Nat.ne_of_lt (Nat.lt_of_lt_of_le lt_b1 gn_ad2)
  have ne_q2_ad2 : q2 ≠ ad2 := Nat.ne_of_lt (Nat.lt_of_lt_of_le lt_q2 gn_ad2)
  have ne_b2_ad2 : b2 ≠ ad2 := Nat.ne_of_lt (Nat.lt_of_lt_of_le lt_b2 gn_ad2)
  have ne_q3_ad2 : q3 ≠ ad2 := Nat.ne_of_lt (Nat.lt_of_lt_of_le lt_q3 gn_ad2)
  have ne_b3_ad2 : b3 ≠ ad2 := Nat.ne_of_lt (Nat.lt_of_lt_of_le lt_b3 gn_ad2)
  have ne_t1_ad2 : t1 ≠ ad2 := Nat.ne_of_lt (Nat.lt_of_lt_of_le lt_t1 gn_ad2)
  have ne_pa1_ad2 : pa1 ≠ ad2 := Nat.ne_of_lt (Nat.lt_of_lt_of_le lt_pa1 gn_ad2)
  have ne_ad1_ad2 : ad1 ≠ ad2 := Nat.ne_of_lt (Nat.lt_of_lt_of_le lt_ad1 gn_ad2)
  have ne_t2_ad2 : t2 ≠ ad2 := Nat.ne_of_lt (Nat.lt_of_lt_of_le lt_t2 gn_ad2)
  have ne_pa2_ad2 : pa2 ≠ ad2 := Nat.ne_of_lt (Nat.lt_of_lt_of_le lt_pa2 gn_ad2)
  have K := K.call K43 (allS (Or.inr ge_t2) all0)
  have sw : ∀ x ∈ ([t2] : List Addr), Safe Z oEL _ _ x := (sfS sf_t2 sf0)
  have sf_t2 := Safe.keep K43.1 sw B.2.1 sf_t2
  have sf_ad2 := Safe.keep K43.1 sw B.2.1 sf_ad2
  have B := B.keep K43.1 sw
  refine oWk.st (fun _ kt => st _ (XS.pop X.here hx rfl (hb hby at_274) rfl rfl (zB X hx hby at_275 rfl rfl rfl kt))) ?_
  obtain ⟨pa3, g45⟩ : ∃ z, z = h.size := ⟨_, rfl⟩
  have V_xd := (V_xd.keep K43.1 (ninS ne_xd_t2 nin0))
  have ne_xd_pa3 : xd ≠ pa3 := Nat.ne_of_lt (Nat.lt_of_lt_of_le V_xd.lt (Nat.le_of_eq g45.symm))
  have U_q1 := (U_q1.keep K43.1 (ninS ne_q1_t2 nin0) (ninS ne_b1_t2 nin0))
  have ne_q1_pa3 : q1 ≠ pa3 := Nat.ne_of_lt (Nat.lt_of_lt_of_le U_q1.lt (Nat.le_of_eq g45.symm))
  have ne_b1_pa3 : b1 ≠ pa3 := Nat.ne_of_lt (Nat.lt_of_lt_of_le U_q1.sb.lt (Nat.le_of_eq g45.symm))
  have U_q2 := (U_q2.keep K43.1 (ninS ne_q2_t2 nin0) (ninS ne_b2_t2 nin0))
  have ne_q2_pa3 : q2 ≠ pa3 := Nat.ne_of_lt (Nat.lt_of_lt_of_le U_q2.lt (Nat.le_of_eq g45.symm))
  have ne_b2_pa3 : b2 ≠ pa3 := Nat.ne_of_lt (Nat.lt_of_lt_of_le U_q2.sb.lt (Nat.le_of_eq g45.symm))
  have U_q3 := (U_q3.keep K43.1 (ninS ne_q3_t2 nin0) (ninS ne_b3_t2 nin0))
  have ne_q3_pa3 : q3 ≠ pa3 := Nat.ne_of_lt (Nat.lt_of_lt_of_le U_q3.lt (Nat.le_of_eq g45.symm))
  have ne_b3_pa3 : b3 ≠ pa3 := Nat.ne_of_lt (Nat.lt_of_lt_of_le U_q3.sb.lt (Nat.le_of_eq g45.symm))
  have E_t1 := (E_t1.keep K43.1)
  have ne_t1_pa3 : t1 ≠ pa3 := Nat.ne_of_lt (Nat.lt_of_lt_of_le E_t1.lt (Nat.le_of_eq g45.symm))
  have E_pa1 := (E_pa1.keep K43.1)
  have ne_pa1_pa3 : pa1 ≠ pa3 := Nat.ne_of_lt (Nat.lt_of_lt_of_le E_pa1.lt (Nat.le_of_eq g45.symm))
  have E_ad1 := (E_ad1.keep K43.1)
  have ne_ad1_pa3 : ad1 ≠ pa3 := Nat.ne_of_lt (Nat.lt_of_lt_of_le E_ad1.lt (Nat.le_of_eq g45.symm))
  have ne_t2_pa3 : t2 ≠ pa3 := Nat.ne_of_lt (Nat.lt_of_lt_of_le E_t2.lt (Nat.le_of_eq g45.symm))
  have E_pa2 := (E_pa2.keep K43.1)
  have ne_pa2_pa3 : pa2 ≠ pa3 := Nat.ne_of_lt (Nat.lt_of_lt_of_le E_pa2.lt (Nat.le_of_eq g45.symm))
  have ne_ad2_pa3 : ad2 ≠ pa3 := Nat.ne_of_lt (Nat.lt_of_lt_of_le E_ad2.lt (Nat.le_of_eq g45.symm))
  have ge_pa3 : h0.size ≤ pa3 := Nat.le_trans K.le (Nat.le_of_eq g45.symm)
  have sf_pa3 := B.new (Nat.le_of_eq g45.symm)
  obtain ⟨T, h, X, e0, E45, A45, D45, -, st⟩ := newO X hx hZ hown (oW hw 97 rfl) (oW hw 98 rfl) (oW hw 99 rfl) e0 (g := (mkF m 277 #[iv p0, iv p1, iv p2, iv p3, iv p4, iv p5, rv s0, rv s1, rv cb, rv s2, rv cd, rv s3, iv k1, iv k2, iv k3, iv n1, iv pp2, iv dd2, iv ll2, iv pp3, iv dd3, iv ll3, rv t1, rv t2, uu, uu, uu, uu] [(.ref t2)])) rfl (hb hby at_277) (by decide) (by decide)
  rw [← g45] at A45 D45 st
  have K := K.ext E45
  have sf_t2 := Safe.ext E45 B.2.1 sf_t2
  have sf_ad2 := Safe.ext E45 B.2.1 sf_ad2
  have sf_pa3 := Safe.ext E45 B.2.1 sf_pa3
  have B := B.ext E45
  have E_pa3 := A45
  have F_position_pa3 : Fld Z h pa3 Y2 "position" "I" (.int (0 : Int32)) := D45 (Or.inr (oW hw 131 rfl)) (ty := .int) (by decide)
  have F_deleteCount_pa3 : Fld Z h pa3 Y2 "deleteCount" "I" (.int (0 : Int32)) := D45 (Or.inr (oW hw 133 rfl)) (ty := .int) (by decide)
  have F_insertion_pa3 : Fld Z h pa3 Y2 "insertion" Y13 .null := D45 (Or.inr (oW hw 135 rfl)) (ty := (.object Y0)) (by decide)
  have F_insertionLength_pa3 : Fld Z h pa3 Y2 Y12 "I" (.int (0 : Int32)) := D45 (Or.inr (oW hw 156 rfl)) (ty := .int) (by decide)
  refine oWk.to (mkF m 291 #[iv p0, iv p1, iv p2, iv p3, iv p4, iv p5, rv s0, rv s1, rv cb, rv s2, rv cd, rv s3, iv k1, iv k2, iv k3, iv n1, iv pp2, iv dd2, iv ll2, iv pp3, iv dd3, iv ll3, rv t1, rv t2, uu, uu, uu, uu] [(.ref s1), (.ref s0), (.int k3), (.int dd3), (.int pp3), (.ref pa3), (.ref pa3), (.ref t2)]) (fun _ kt => st _ (zD X hx hby at_280 rfl rfl rfl (zJ X hx hby at_281 rfl rfl (zJ X hx hby at_283 rfl rfl (zJ X hx hby at_285 rfl rfl (zB X hx hby at_287 rfl rfl rfl (zB X hx hby at_289 rfl rfl rfl kt))))))) ?_
  refine oWk.st (fun _ kt => zB X hx hby at_291 rfl rfl rfl (zB X hx hby at_293 rfl rfl rfl kt)) ?_
  have Oh := K.old O0 all0
  obtain ⟨T, L47, X, e0, K, st⟩ := (cs69 hw).pure X hx hZ hown e0 K (A := [(.int k3), (.ref s0), (.ref s1), (.ref s2), (.ref s3)]) rfl (rPick l Z a0 hw [] k3 s0 s1 s2 s3 q3 h Oh hq3) (W := 5) (by decide) hml (Ls := #[iv p0, iv p1, iv p2, iv p3, iv p4, iv p5, rv s0, rv s1, rv cb, rv s2, rv cd, rv s3, iv k1, iv k2, iv k3, iv n1, iv pp2, iv dd2, iv ll2, iv pp3, iv dd3, iv ll3, rv t1, rv t2, uu, uu, uu, uu]) rfl (rest := [(.int dd3), (.int pp3), (.ref pa3), (.ref pa3), (.ref t2)]) rfl rfl hby at_295
  refine oWk.st (fun _ kt => st _ kt) ?_
  have U_q3 := (U_q3.ext E45)
  have E_t2 := (E_t2.ext E45)
  have E_ad2 := (E_ad2.ext E45)
  obtain ⟨_, _, ⟨T, L49, k49, n49⟩, -, X, hS, hgr, ⟨Lc49, hQ, l49, y49, z49, C⟩, st⟩ := X.specialBackS hx (y := yy27) rfl hown (mvT hZ (oW hw 103 rfl)) (mvT hZ (oW hw 104 rfl)) (mvT hZ (oW hw 105 rfl)) (by decide) (oBackH (W := 2) (rPI l Z a0 hw [] pa3 pp3 dd3 (.int (0 : Int32)) (.int (0 : Int32)) .null (.int (0 : Int32)) q3 b3 kk3 n3 u3 w3 xfm xz h Oh S_Z hz S_A S_H S_L S_F hcat (Nat.le_trans O0.1 ge_pa3) E_pa3 F_position_pa3 F_deleteCount_pa3 F_insertion_pa3 F_insertionLength_pa3 U_q3 ne_q3_pa3 ne_b3_pa3 (ar107 hm1 hm2 hm3 h_pp2 h_dd2 h_ll2 h_pp3 h_dd3 h_ll3) (ar108 hm1 hm2 hm3 h_pp2 h_dd2 h_ll2 h_pp3 h_dd3 h_ll3)) hZ (oW hw 105 rfl) (oW hw 99 rfl) (by decide) (by decide) (oELw hw) B.2.1 (allS ⟨E_pa3.lt, sf_pa3⟩ all0)) (g := (mkF m 298 #[iv p0, iv p1, iv p2, iv p3, iv p4, iv p5, rv s0, rv s1, rv cb, rv s2, rv cd, rv s3, iv k1, iv k2, iv k3, iv n1, iv pp2, iv dd2, iv ll2, iv pp3, iv dd3, iv ll3, rv t1, rv t2, uu, uu, uu, uu] [(.ref q3), (.int dd3), (.int pp3), (.ref pa3), (.ref pa3), (.ref t2)])) rfl (by rw [hml]; rfl) (Steps.refl _) (a := pa3) (argsL := [(.int pp3), (.int dd3), (.ref q3)]) (rest := [(.ref pa3), (.ref t2)]) (lenOf pd_42 rfl) rfl (Nat.le_of_eq rfl) (hb hby at_298) (fun _ _ => ⟨rfl, e0, (by decide : 30 + 4 ≤ _), (by decide : 335 + 112 ≤ _)⟩)
  dsimp only [Pt.U, Pt.locs, Pt.cells, Pt.slots] at X l49 y49 z49 st hQ C hS hgr
  subst l49 y49 z49
  have X : Stand p l e _ (s.setVm T.vm) m _ below meth c T _ _ _ := X
  obtain ⟨h, e2⟩ : ∃ z, T.heap = z := ⟨_, rfl⟩
  have B := B.call e0 hS hgr C e2
  obtain ⟨hZ, hown⟩ := oWide hZ hown hS
  rw [e2] at hQ C
  have sf_t2 := C.safe E_t2.lt sf_t2
  have sf_ad2 := C.safe E_ad2.lt sf_ad2
  have sf_pa3 := C.safe E_pa3.lt sf_pa3
  have e0 := e2
  obtain ⟨rfl, K48, E_pa3, F_position_pa3, F_deleteCount_pa3, F_insertion_pa3, F_insertionLength_pa3⟩ := hQ
  have K := K.call K48 (allS (Or.inr ge_pa3) all0)
  refine oWk.to (mkF m 301 #[iv p0, iv p1, iv p2, iv p3, iv p4, iv p5, rv s0, rv s1, rv cb, rv s2, rv cd, rv s3, iv k1, iv k2, iv k3, iv n1, iv pp2, iv dd2, iv ll2, iv pp3, iv dd3, iv ll3, rv t1, rv t2, uu, uu, uu, uu] [(.ref pa3), (.ref t2)]) (fun _ kt => st.trans kt) ?_
  have E_t2 := (E_t2.keep K48.1)
  have F_elementData_t2 := ((F_elementData_t2.ext E45).keep K48.1 (ninS ne_t2_pa3 nin0))
  have F_size_t2 := ((F_size_t2.ext E45).keep K48.1 (ninS ne_t2_pa3 nin0))
  have F_modCount_t2 := ((F_modCount_t2.ext E45).keep K48.1 (ninS ne_t2_pa3 nin0))
  have E_ad2 := (E_ad2.keep K48.1)
  have V_ad2 := ((V_ad2.ext E45).keep K48.1 (ninS ne_ad2_pa3 nin0))
  have Oh := K.old O0 all0
  obtain ⟨_, T, h, Lc51, X, e0, hQ, st⟩ := (cs70 hw).run X hx hZ hown e0 (A := [(.ref t2), (.ref pa3)]) ⟨rfl, _, _, rfl, E_t2⟩ (rAd_1 l Z a0 hw [] t2 pa3 ad2 ak2 ((0 : Int32) + (1 : Int32)) pa2 h Oh (Nat.le_trans O0.1 ge_t2) (Nat.le_trans O0.1 ge_ad2) ne_t2_ad2 E_t2 F_elementData_t2 F_size_t2 F_modCount_t2 E_ad2 V_ad2 ov_ak2 (Ins.of_exa E_pa3 (oW hw 187 rfl))) (W := 0) (by decide) hml (Ls := #[iv p0, iv p1, iv p2, iv p3, iv p4, iv p5, rv s0, rv s1, rv cb, rv s2, rv cd, rv s3, iv k1, iv k2, iv k3, iv n1, iv pp2, iv dd2, iv ll2, iv pp3, iv dd3, iv ll3, rv t1, rv t2, uu, uu, uu, uu]) rfl (rest := []) rfl rfl hby at_301
  obtain ⟨rfl, K50, E_t2, F_elementData_t2, F_size_t2, F_modCount_t2, E_ad2, V_ad2⟩ := hQ
  have K := K.call K50 (allS (Or.inr ge_t2) (allS (Or.inr ge_ad2) all0))
  have sw : ∀ x ∈ ([t2, ad2] : List Addr), Safe Z oEL _ _ x := (sfS sf_t2 (sfS sf_ad2 sf0))
  have sf_t2 := Safe.keep K50.1 sw B.2.1 sf_t2
  have sf_ad2 := Safe.keep K50.1 sw B.2.1 sf_ad2
  have B := B.keep K50.1 sw
  refine oWk.to (mkF m 305 #[iv p0, iv p1, iv p2, iv p3, iv p4, iv p5, rv s0, rv s1, rv cb, rv s2, rv cd, rv s3, iv k1, iv k2, iv k3, iv n1, iv pp2, iv dd2, iv ll2, iv pp3, iv dd3, iv ll3, rv t1, rv t2, uu, uu, uu, uu] []) (fun _ kt => st _ (XS.pop X.here hx rfl (hb hby at_304) rfl rfl kt)) ?_
  obtain ⟨tt, g52⟩ : ∃ z, z = h.size := ⟨_, rfl⟩
  have V_xd := (((V_xd.ext E45).keep K48.1 (ninS ne_xd_pa3 nin0)).keep K50.1 (ninS ne_xd_t2 (ninS ne_xd_ad2 nin0)))
  have ne_xd_tt : xd ≠ tt := Nat.ne_of_lt (Nat.lt_of_lt_of_le V_xd.lt (Nat.le_of_eq g52.symm))
  have U_q1 := (((U_q1.ext E45).keep K48.1 (ninS ne_q1_pa3 nin0) (ninS ne_b1_pa3 nin0)).keep K50.1 (ninS ne_q1_t2 (ninS ne_q1_ad2 nin0)) (ninS ne_b1_t2 (ninS ne_b1_ad2 nin0)))
  have ne_q1_tt : q1 ≠ tt := Nat.ne_of_lt (Nat.lt_of_lt_of_le U_q1.lt (Nat.le_of_eq g52.symm))
  have ne_b1_tt : b1 ≠ tt := Nat.ne_of_lt (Nat.lt_of_lt_of_le U_q1.sb.lt (Nat.le_of_eq g52.symm))
  have U_q2 := (((U_q2.ext E45).keep K48.1 (ninS ne_q2_pa3 nin0) (ninS ne_b2_pa3 nin0)).keep K50.1 (ninS ne_q2_t2 (ninS ne_q2_ad2 nin0)) (ninS ne_b2_t2 (ninS ne_b2_ad2 nin0)))
  have ne_q2_tt : q2 ≠ tt := Nat.ne_of_lt (Nat.lt_of_lt_of_le U_q2.lt (Nat.le_of_eq g52.symm))
  have ne_b2_tt : b2 ≠ tt := Nat.ne_of_lt (Nat.lt_of_lt_of_le U_q2.sb.lt (Nat.le_of_eq g52.symm))
  have U_q3 := ((U_q3.keep K48.1 (ninS ne_q3_pa3 nin0) (ninS ne_b3_pa3 nin0)).keep K50.1 (ninS ne_q3_t2 (ninS ne_q3_ad2 nin0)) (ninS ne_b3_t2 (ninS ne_b3_ad2 nin0)))
  have ne_q3_tt : q3 ≠ tt := Nat.ne_of_lt (Nat.lt_of_lt_of_le U_q3.lt (Nat.le_of_eq g52.symm))
  have ne_b3_tt : b3 ≠ tt := Nat.ne_of_lt (Nat.lt_of_lt_of_le U_q3.sb.lt (Nat.le_of_eq g52.symm))
  have E_t1 := (((E_t1.ext E45).keep K48.1).keep K50.1)
  have ne_t1_tt : t1 ≠ tt := Nat.ne_of_lt (Nat.lt_of_lt_of_le E_t1.lt (Nat.le_of_eq g52.symm))
  have E_pa1 := (((E_pa1.ext E45).keep K48.1).keep K50.1)
  have ne_pa1_tt : pa1 ≠ tt := Nat.ne_of_lt (Nat.lt_of_lt_of_le E_pa1.lt (Nat.le_of_eq g52.symm))
  have E_ad1 := (((E_ad1.ext E45).keep K48.1).keep K50.1)
  have ne_ad1_tt : ad1 ≠ tt := Nat.ne_of_lt (Nat.lt_of_lt_of_le E_ad1.lt (Nat.le_of_eq g52.symm))
  have ne_t2_tt : t2 ≠ tt := Nat.ne_of_lt (Nat.lt_of_lt_of_le E_t2.lt (Nat.le_of_eq g52.symm))
  have E_pa2 := (((E_pa2.ext E45).keep K48.1).keep K50.1)
  have ne_pa2_tt : pa2 ≠ tt := Nat.ne_of_lt (Nat.lt_of_lt_of_le E_pa2.lt (Nat.le_of_eq g52.symm))
  have ne_ad2_tt : ad2 ≠ tt := Nat.ne_of_lt (Nat.lt_of_lt_of_le E_ad2.lt (Nat.le_of_eq g52.symm))
  have E_pa3 := (E_pa3.keep K50.1)
  have ne_pa3_tt : pa3 ≠ tt := Nat.ne_of_lt (Nat.lt_of_lt_of_le E_pa3.lt (Nat.le_of_eq g52.symm))
  have ge_tt : h0.size ≤ tt := Nat.le_trans K.le (Nat.le_of_eq g52.symm)
  have sf_tt := B.new (Nat.le_of_eq g52.symm)
  obtain ⟨T, h, X, e0, E52, A52, D52, -, st⟩ := newO X hx hZ hown (oW hw 188 rfl) (oW hw 189 rfl) (oW hw 190 rfl) e0 (g := (mkF m 305 #[iv p0, iv p1, iv p2, iv p3, iv p4, iv p5, rv s0, rv s1, rv cb, rv s2, rv cd, rv s3, iv k1, iv k2, iv k3, iv n1, iv pp2, iv dd2, iv ll2, iv pp3, iv dd3, iv ll3, rv t1, rv t2, uu, uu, uu, uu] [])) rfl (hb hby at_305) (by decide) (by decide)
  rw [← g52] at A52 D52 st
  have K := K.ext E52
  have sf_tt := Safe.ext E52 B.2.1 sf_tt
  have B := B.ext E52
  have E_tt := A52
  have F_buffer_tt : Fld Z h tt Y3 "buffer" "[I" .null := D52 (Or.inl (oW hw 197 rfl)) (ty := (.array .int)) (by decide)
  have F_gapEnd_tt : Fld Z h tt Y3 "gapEnd" "I" (.int (0 : Int32)) := D52 (Or.inl (oW hw 199 rfl)) (ty := .int) (by decide)
  have F_gapStart_tt : Fld Z h tt Y3 "gapStart" "I" (.int (0 : Int32)) := D52 (Or.inl (oW hw 206 rfl)) (ty := .int) (by decide)
  have F_journal_tt : Fld Z h tt Y3 "journal" Y18 .null := D52 (Or.inl (oW hw 321 rfl)) (ty := (.object Y17)) (by decide)
  refine oWk.st (fun _ kt => st _ (zD X hx hby at_308 rfl rfl rfl kt)) ?_
  have V_xd := (V_xd.ext E52)
  have lt_xd := V_xd.lt
  have U_q1 := (U_q1.ext E52)
  have lt_q1 := U_q1.lt
  have lt_b1 := U_q1.sb.lt
  have U_q2 := (U_q2.ext E52)
  have lt_q2 := U_q2.lt
  have lt_b2 := U_q2.sb.lt
  have U_q3 := (U_q3.ext E52)
  have lt_q3 := U_q3.lt
  have lt_b3 := U_q3.sb.lt
  have E_t1 := (E_t1.ext E52)
  have lt_t1 := E_t1.lt
  have E_pa1 := (E_pa1.ext E52)
  have lt_pa1 := E_pa1.lt
  have E_ad1 := (E_ad1.ext E52)
  have lt_ad1 := E_ad1.lt
  have E_t2 := (E_t2.ext E52)
  have lt_t2 := E_t2.lt
  have E_pa2 := (E_pa2.ext E52)
  have lt_pa2 := E_pa2.lt
  have E_ad2 := (E_ad2.ext E52)
  have lt_ad2 := E_ad2.lt
  have E_pa3 := (E_pa3.ext E52)
  have lt_pa3 := E_pa3.lt
  have lt_tt := E_tt.lt
  have Oh := K.old O0 all0
  obtain ⟨_, T, h, Lc54, X, e0, hQ, st⟩ := (cs71 hw).run X hx hZ hown e0 (A := [(.ref tt)]) ⟨rfl, _, _, rfl⟩ (rTI l Z a0 hw [] tt .null h Oh (Nat.le_trans O0.1 ge_tt) E_tt F_buffer_tt F_gapStart_tt F_gapEnd_tt F_journal_tt) (W := 1) (by decide) hml (Ls := #[iv p0, iv p1, iv p2, iv p3, iv p4, iv p5, rv s0, rv s1, rv cb, rv s2, rv cd, rv s3, iv k1, iv k2, iv k3, iv n1, iv pp2, iv dd2, iv ll2, iv pp3, iv dd3, iv ll3, rv t1, rv t2, uu, uu, uu, uu]) rfl (rest := [(.ref tt)]) rfl rfl hby at_309
  obtain ⟨tb, tk, rfl, K53, gn_tb, E_tt, F_buffer_tt, F_gapStart_tt, F_gapEnd_tt, F_journal_tt, V_tb⟩ := hQ
  have ge_tb := Nat.le_trans K.le gn_tb
  have sf_tb := B.new gn_tb
  have ne_xd_tb : xd ≠ tb := Nat.ne_of_lt (Nat.lt_of_lt_of_le lt_xd gn_tb)
  have ne_q1_tb : q1 ≠ tb := Nat.ne_of_lt (Nat.lt_of_lt_of_le lt_q1 gn_tb)
  have ne_b1_tb : b1 ≠ tb := Nat.ne_of_lt (Nat.lt_of_lt_of_le lt_b1 gn_tb)
  have ne_q2_tb : q2 ≠ tb := Nat.ne_of_lt (Nat.lt_of_lt_of_le lt_q2 gn_tb)
  have ne_b2_tb : b2 ≠ tb := Nat.ne_of_lt (Nat.lt_of_lt_of_le lt_b2 gn_tb)
  have ne_q3_tb : q3 ≠ tb := Nat.ne_of_lt (Nat.lt_of_lt_of_le lt_q3 gn_tb)
  have ne_b3_tb : b3 ≠ tb := Nat.ne_of_lt (Nat.lt_of_lt_of_le lt_b3 gn_tb)
  have ne_t1_tb : t1 ≠ tb := Nat.ne_of_lt (Nat.lt_of_lt_of_le lt_t1 gn_tb)
  have ne_pa1_tb : pa1 ≠ tb := Nat.ne_of_lt (Nat.lt_of_lt_of_le lt_pa1 gn_tb)
  have ne_ad1_tb : ad1 ≠ tb := Nat.ne_of_lt (Nat.lt_of_lt_of_le lt_ad1 gn_tb)
  have ne_t2_tb : t2 ≠ tb := Nat.ne_of_lt (Nat.lt_of_lt_of_le lt_t2 gn_tb)
  have ne_pa2_tb : pa2 ≠ tb := Nat.ne_of_lt (Nat.lt_of_lt_of_le lt_pa2 gn_tb)
  have ne_ad2_tb : ad2 ≠ tb := Nat.ne_of_lt (Nat.lt_of_lt_of_le lt_ad2 gn_tb)
  have ne_pa3_tb : pa3 ≠ tb := Nat.ne_of_lt (Nat.lt_of_lt_of_le lt_pa3 gn_tb)
  have ne_tt_tb : tt ≠ tb := Nat.ne_of_lt (Nat.lt_of_lt_of_le lt_tt gn_tb)
  have K := K.call K53 (allS (Or.inr ge_tt) all0)
  have sw : ∀ x ∈ ([tt] : List Addr), Safe Z oEL _ _ x := (sfS sf_tt sf0)
  have sf_tt := Safe.keep K53.1 sw B.2.1 sf_tt
  have sf_tb := Safe.keep K53.1 sw B.2.1 sf_tb
  have B := B.keep K53.1 sw
  refine oWk.st (fun _ kt => st _ (zT X hx hby at_312 rfl rfl rfl (l' := #[iv p0, iv p1, iv p2, iv p3, iv p4, iv p5, rv s0, rv s1, rv cb, rv s2, rv cd, rv s3, iv k1, iv k2, iv k3, iv n1, iv pp2, iv dd2, iv ll2, iv pp3, iv dd3, iv ll3, rv t1, rv t2, rv tt, uu, uu, uu]) rfl (zB X hx hby at_314 rfl rfl rfl kt))) ?_
  have Oh := K.old O0 all0
  obtain ⟨T, L56, X, e0, K, st⟩ := (cs72 hw).pure X hx hZ hown e0 K (A := [(.ref tt)]) ⟨rfl, _, _, rfl, E_tt⟩ (rTL l Z a0 hw [] tt tb (16 : Int32) (0 : Int32) (16 : Int32) [] tk h Oh E_tt F_buffer_tt F_gapStart_tt F_gapEnd_tt F_journal_tt V_tb) (W := 0) (by decide) hml (Ls := #[iv p0, iv p1, iv p2, iv p3, iv p4, iv p5, rv s0, rv s1, rv cb, rv s2, rv cd, rv s3, iv k1, iv k2, iv k3, iv n1, iv pp2, iv dd2, iv ll2, iv pp3, iv dd3, iv ll3, rv t1, rv t2, rv tt, uu, uu, uu]) rfl (rest := []) rfl rfl hby at_316
  refine oWk.to (mkF m 333 #[iv p0, iv p1, iv p2, iv p3, iv p4, iv p5, rv s0, rv s1, rv cb, rv s2, rv cd, rv s3, iv k1, iv k2, iv k3, iv n1, iv pp2, iv dd2, iv ll2, iv pp3, iv dd3, iv ll3, rv t1, rv t2, rv tt, iv 1, uu, uu] [(.ref t1), (.ref tt)]) (fun _ kt => st _ (zH X hx hby at_319 rfl rfl ((if0 _ _).trans (teq (by decide)).2) (zK X hx hby at_322 rfl (zG X hx hby at_323 rfl (pc' := 327) rfl (zS X hx hby at_327 rfl rfl (l' := #[iv p0, iv p1, iv p2, iv p3, iv p4, iv p5, rv s0, rv s1, rv cb, rv s2, rv cd, rv s3, iv k1, iv k2, iv k3, iv n1, iv pp2, iv dd2, iv ll2, iv pp3, iv dd3, iv ll3, rv t1, rv t2, rv tt, iv 1, uu, uu]) rfl (zB X hx hby at_329 rfl rfl rfl (zB X hx hby at_331 rfl rfl rfl kt))))))) ?_
  have lb_tt := E_tt.lt
  have E_t2 := (E_t2.keep K53.1)
  have lb_t2 := E_t2.lt
  have E_ad2 := (E_ad2.keep K53.1)
  have lb_ad2 := E_ad2.lt
  have E_pa2 := (E_pa2.keep K53.1)
  have lb_pa2 := E_pa2.lt
  have E_pa3 := (E_pa3.keep K53.1)
  have lb_pa3 := E_pa3.lt
  have U_q2 := (U_q2.keep K53.1 (ninS ne_q2_tt nin0) (ninS ne_b2_tt nin0))
  have lb_q2 := U_q2.lt
  have lb_b2 := U_q2.sb.lt
  have U_q3 := (U_q3.keep K53.1 (ninS ne_q3_tt nin0) (ninS ne_b3_tt nin0))
  have lb_q3 := U_q3.lt
  have lb_b3 := U_q3.sb.lt
  have kl0 := K.le
  have E_t1 := (E_t1.keep K53.1)
  have F_elementData_t1 := ((((((((((F_elementData_t1.ext E35).keep K36.1 (ninS ne_t1_t2 nin0)).ext E38).keep K41.1 (ninS ne_t1_pa2 nin0)).keep K43.1 (ninS ne_t1_t2 nin0)).ext E45).keep K48.1 (ninS ne_t1_pa3 nin0)).keep K50.1 (ninS ne_t1_t2 (ninS ne_t1_ad2 nin0))).ext E52).keep K53.1 (ninS ne_t1_tt nin0))
  have F_size_t1 := ((((((((((F_size_t1.ext E35).keep K36.1 (ninS ne_t1_t2 nin0)).ext E38).keep K41.1 (ninS ne_t1_pa2 nin0)).keep K43.1 (ninS ne_t1_t2 nin0)).ext E45).keep K48.1 (ninS ne_t1_pa3 nin0)).keep K50.1 (ninS ne_t1_t2 (ninS ne_t1_ad2 nin0))).ext E52).keep K53.1 (ninS ne_t1_tt nin0))
  have F_modCount_t1 := ((((((((((F_modCount_t1.ext E35).keep K36.1 (ninS ne_t1_t2 nin0)).ext E38).keep K41.1 (ninS ne_t1_pa2 nin0)).keep K43.1 (ninS ne_t1_t2 nin0)).ext E45).keep K48.1 (ninS ne_t1_pa3 nin0)).keep K50.1 (ninS ne_t1_t2 (ninS ne_t1_ad2 nin0))).ext E52).keep K53.1 (ninS ne_t1_tt nin0))
  have V_ad1 := ((((((((((V_ad1.ext E35).keep K36.1 (ninS ne_ad1_t2 nin0)).ext E38).keep K41.1 (ninS ne_ad1_pa2 nin0)).keep K43.1 (ninS ne_ad1_t2 nin0)).ext E45).keep K48.1 (ninS ne_ad1_pa3 nin0)).keep K50.1 (ninS ne_ad1_t2 (ninS ne_ad1_ad2 nin0))).ext E52).keep K53.1 (ninS ne_ad1_tt nin0))
  have E_pa1 := (E_pa1.keep K53.1)
  have F_position_pa1 := (((((((((((F_position_pa1.keep K33.1 (ninS (Ne.symm ne_t1_pa1) nin0)).ext E35).keep K36.1 (ninS ne_pa1_t2 nin0)).ext E38).keep K41.1 (ninS ne_pa1_pa2 nin0)).keep K43.1 (ninS ne_pa1_t2 nin0)).ext E45).keep K48.1 (ninS ne_pa1_pa3 nin0)).keep K50.1 (ninS ne_pa1_t2 (ninS ne_pa1_ad2 nin0))).ext E52).keep K53.1 (ninS ne_pa1_tt nin0))
  have F_deleteCount_pa1 := (((((((((((F_deleteCount_pa1.keep K33.1 (ninS (Ne.symm ne_t1_pa1) nin0)).ext E35).keep K36.1 (ninS ne_pa1_t2 nin0)).ext E38).keep K41.1 (ninS ne_pa1_pa2 nin0)).keep K43.1 (ninS ne_pa1_t2 nin0)).ext E45).keep K48.1 (ninS ne_pa1_pa3 nin0)).keep K50.1 (ninS ne_pa1_t2 (ninS ne_pa1_ad2 nin0))).ext E52).keep K53.1 (ninS ne_pa1_tt nin0))
  have F_insertion_pa1 := (((((((((((F_insertion_pa1.keep K33.1 (ninS (Ne.symm ne_t1_pa1) nin0)).ext E35).keep K36.1 (ninS ne_pa1_t2 nin0)).ext E38).keep K41.1 (ninS ne_pa1_pa2 nin0)).keep K43.1 (ninS ne_pa1_t2 nin0)).ext E45).keep K48.1 (ninS ne_pa1_pa3 nin0)).keep K50.1 (ninS ne_pa1_t2 (ninS ne_pa1_ad2 nin0))).ext E52).keep K53.1 (ninS ne_pa1_tt nin0))
  have F_insertionLength_pa1 := (((((((((((F_insertionLength_pa1.keep K33.1 (ninS (Ne.symm ne_t1_pa1) nin0)).ext E35).keep K36.1 (ninS ne_pa1_t2 nin0)).ext E38).keep K41.1 (ninS ne_pa1_pa2 nin0)).keep K43.1 (ninS ne_pa1_t2 nin0)).ext E45).keep K48.1 (ninS ne_pa1_pa3 nin0)).keep K50.1 (ninS ne_pa1_t2 (ninS ne_pa1_ad2 nin0))).ext E52).keep K53.1 (ninS ne_pa1_tt nin0))
  have U_q1 := (U_q1.keep K53.1 (ninS ne_q1_tt nin0) (ninS ne_b1_tt nin0))
  obtain ⟨_, T, h, Lc58, X, e0, hQ, st⟩ := (cs73 hw).run X hx hZ hown e0 (A := [(.ref tt), (.ref t1)]) ⟨rfl, _, _, rfl, E_tt⟩ (rAp_1 l Z a0 hw [] tt tb (16 : Int32) (0 : Int32) (16 : Int32) [] tk t1 ad1 ak1 ((0 : Int32) + (1 : Int32)) pa1 (0 : Int32) (0 : Int32) q1 n1 b1 kk1 u1 w1 xfm xz h Oh S_Z hz S_A S_H S_L S_F hcat (Nat.le_trans O0.1 ge_tt) (Nat.le_trans O0.1 ge_tb) ne_tt_tb ne_t1_tt ne_t1_tb ne_ad1_tt ne_ad1_tb ne_pa1_tt ne_pa1_tb ne_q1_tt ne_q1_tb ne_b1_tt ne_b1_tb (by decide) (by decide) (by decide) hm1 E_tt F_buffer_tt F_gapStart_tt F_gapEnd_tt F_journal_tt V_tb E_t1 F_elementData_t1 F_size_t1 F_modCount_t1 V_ad1 E_pa1 F_position_pa1 F_deleteCount_pa1 F_insertion_pa1 F_insertionLength_pa1 U_q1) (W := 0) (by decide) hml (Ls := #[iv p0, iv p1, iv p2, iv p3, iv p4, iv p5, rv s0, rv s1, rv cb, rv s2, rv cd, rv s3, iv k1, iv k2, iv k3, iv n1, iv pp2, iv dd2, iv ll2, iv pp3, iv dd3, iv ll3, rv t1, rv t2, rv tt, iv 1, uu, uu]) rfl (rest := []) rfl rfl hby at_333
  obtain ⟨bb, N1, g1, e1, v1, kb1, rfl, K57, E_tt, F_buffer_tt, F_gapStart_tt, F_gapEnd_tt, F_journal_tt, V_bb, hnb57, hnt57, hln57, hnc57⟩ := hQ
  have ge_bb := oNg hnb57 ge_tb kl0
  have sf_bb := oSfE hnb57 sf_tb
  have K := K.call K57 (allS (Or.inr ge_tt) (allS (Or.inr ge_tb) all0))
  have sw : ∀ x ∈ ([tt, tb] : List Addr), Safe Z oEL _ _ x := (sfS sf_tt (sfS sf_tb sf0))
  have sf_tt := Safe.keep K57.1 sw B.2.1 sf_tt
  have sf_tb := Safe.keep K57.1 sw B.2.1 sf_tb
  have sf_bb := Safe.keep K57.1 sw B.2.1 sf_bb
  have B := B.keep K57.1 sw
  have ne_tt_bb := oNx hnb57 lb_tt ne_tt_tb
  have ne_t2_bb := oNx hnb57 lb_t2 ne_t2_tb
  have ne_ad2_bb := oNx hnb57 lb_ad2 ne_ad2_tb
  have ne_pa2_bb := oNx hnb57 lb_pa2 ne_pa2_tb
  have ne_pa3_bb := oNx hnb57 lb_pa3 ne_pa3_tb
  have ne_q2_bb := oNx hnb57 lb_q2 ne_q2_tb
  have ne_b2_bb := oNx hnb57 lb_b2 ne_b2_tb
  have ne_q3_bb := oNx hnb57 lb_q3 ne_q3_tb
  have ne_b3_bb := oNx hnb57 lb_b3 ne_b3_tb
  refine oWk.st (fun _ kt => st _ (zB X hx hby at_336 rfl rfl rfl kt)) ?_
  have Oh := K.old O0 all0
  obtain ⟨T, L60, X, e0, K, st⟩ := (cs72 hw).pure X hx hZ hown e0 K (A := [(.ref tt)]) ⟨rfl, _, _, rfl, E_tt⟩ (rTL l Z a0 hw [] tt bb N1 g1 e1 v1 kb1 h Oh E_tt F_buffer_tt F_gapStart_tt F_gapEnd_tt F_journal_tt V_bb) (W := 0) (by decide) hml (Ls := #[iv p0, iv p1, iv p2, iv p3, iv p4, iv p5, rv s0, rv s1, rv cb, rv s2, rv cd, rv s3, iv k1, iv k2, iv k3, iv n1, iv pp2, iv dd2, iv ll2, iv pp3, iv dd3, iv ll3, rv t1, rv t2, rv tt, iv 1, uu, uu]) rfl (rest := []) rfl rfl hby at_338
  refine oWk.to (mkF m 343 #[iv p0, iv p1, iv p2, iv p3, iv p4, iv p5, rv s0, rv s1, rv cb, rv s2, rv cd, rv s3, iv k1, iv k2, iv k3, iv n1, iv pp2, iv dd2, iv ll2, iv pp3, iv dd3, iv ll3, rv t1, rv t2, rv tt, iv 1, uu, uu] [(.int n1), (.int (N1 - (e1 - g1)))]) (fun _ kt => st _ (zJ X hx hby at_341 rfl rfl kt)) ?_
  refine oWk.st (fun _ kt => zN X hx hby at_343 rfl rfl (teq (ar109 hm1 hm2 hm3 h_pp2 h_dd2 h_ll2 h_pp3 h_dd3 h_ll3 hnt57 hln57 hnc57)).2 (zK X hx hby at_346 rfl (zG X hx hby at_347 rfl (pc' := 351) rfl (zS X hx hby at_351 rfl rfl (l' := #[iv p0, iv p1, iv p2, iv p3, iv p4, iv p5, rv s0, rv s1, rv cb, rv s2, rv cd, rv s3, iv k1, iv k2, iv k3, iv n1, iv pp2, iv dd2, iv ll2, iv pp3, iv dd3, iv ll3, rv t1, rv t2, rv tt, iv 1, iv 1, uu]) rfl (zB X hx hby at_353 rfl rfl rfl (zB X hx hby at_355 rfl rfl rfl kt)))))) ?_
  have E_t2 := (E_t2.keep K57.1)
  have F_elementData_t2 := (((F_elementData_t2.ext E52).keep K53.1 (ninS ne_t2_tt nin0)).keep K57.1 (ninS ne_t2_tt (ninS ne_t2_tb nin0)))
  have F_size_t2 := (((F_size_t2.ext E52).keep K53.1 (ninS ne_t2_tt nin0)).keep K57.1 (ninS ne_t2_tt (ninS ne_t2_tb nin0)))
  have F_modCount_t2 := (((F_modCount_t2.ext E52).keep K53.1 (ninS ne_t2_tt nin0)).keep K57.1 (ninS ne_t2_tt (ninS ne_t2_tb nin0)))
  have V_ad2 := (((V_ad2.ext E52).keep K53.1 (ninS ne_ad2_tt nin0)).keep K57.1 (ninS ne_ad2_tt (ninS ne_ad2_tb nin0)))
  have E_pa2 := (E_pa2.keep K57.1)
  have F_position_pa2 := (((((((F_position_pa2.keep K43.1 (ninS (Ne.symm ne_t2_pa2) nin0)).ext E45).keep K48.1 (ninS ne_pa2_pa3 nin0)).keep K50.1 (ninS (Ne.symm ne_t2_pa2) (ninS ne_pa2_ad2 nin0))).ext E52).keep K53.1 (ninS ne_pa2_tt nin0)).keep K57.1 (ninS ne_pa2_tt (ninS ne_pa2_tb nin0)))
  have F_deleteCount_pa2 := (((((((F_deleteCount_pa2.keep K43.1 (ninS (Ne.symm ne_t2_pa2) nin0)).ext E45).keep K48.1 (ninS ne_pa2_pa3 nin0)).keep K50.1 (ninS (Ne.symm ne_t2_pa2) (ninS ne_pa2_ad2 nin0))).ext E52).keep K53.1 (ninS ne_pa2_tt nin0)).keep K57.1 (ninS ne_pa2_tt (ninS ne_pa2_tb nin0)))
  have F_insertion_pa2 := (((((((F_insertion_pa2.keep K43.1 (ninS (Ne.symm ne_t2_pa2) nin0)).ext E45).keep K48.1 (ninS ne_pa2_pa3 nin0)).keep K50.1 (ninS (Ne.symm ne_t2_pa2) (ninS ne_pa2_ad2 nin0))).ext E52).keep K53.1 (ninS ne_pa2_tt nin0)).keep K57.1 (ninS ne_pa2_tt (ninS ne_pa2_tb nin0)))
  have F_insertionLength_pa2 := (((((((F_insertionLength_pa2.keep K43.1 (ninS (Ne.symm ne_t2_pa2) nin0)).ext E45).keep K48.1 (ninS ne_pa2_pa3 nin0)).keep K50.1 (ninS (Ne.symm ne_t2_pa2) (ninS ne_pa2_ad2 nin0))).ext E52).keep K53.1 (ninS ne_pa2_tt nin0)).keep K57.1 (ninS ne_pa2_tt (ninS ne_pa2_tb nin0)))
  have E_pa3 := (E_pa3.keep K57.1)
  have F_position_pa3 := ((((F_position_pa3.keep K50.1 (ninS (Ne.symm ne_t2_pa3) (ninS (Ne.symm ne_ad2_pa3) nin0))).ext E52).keep K53.1 (ninS ne_pa3_tt nin0)).keep K57.1 (ninS ne_pa3_tt (ninS ne_pa3_tb nin0)))
  have F_deleteCount_pa3 := ((((F_deleteCount_pa3.keep K50.1 (ninS (Ne.symm ne_t2_pa3) (ninS (Ne.symm ne_ad2_pa3) nin0))).ext E52).keep K53.1 (ninS ne_pa3_tt nin0)).keep K57.1 (ninS ne_pa3_tt (ninS ne_pa3_tb nin0)))
  have F_insertion_pa3 := ((((F_insertion_pa3.keep K50.1 (ninS (Ne.symm ne_t2_pa3) (ninS (Ne.symm ne_ad2_pa3) nin0))).ext E52).keep K53.1 (ninS ne_pa3_tt nin0)).keep K57.1 (ninS ne_pa3_tt (ninS ne_pa3_tb nin0)))
  have F_insertionLength_pa3 := ((((F_insertionLength_pa3.keep K50.1 (ninS (Ne.symm ne_t2_pa3) (ninS (Ne.symm ne_ad2_pa3) nin0))).ext E52).keep K53.1 (ninS ne_pa3_tt nin0)).keep K57.1 (ninS ne_pa3_tt (ninS ne_pa3_tb nin0)))
  have U_q2 := (U_q2.keep K57.1 (ninS ne_q2_tt (ninS ne_q2_tb nin0)) (ninS ne_b2_tt (ninS ne_b2_tb nin0)))
  have U_q3 := (U_q3.keep K57.1 (ninS ne_q3_tt (ninS ne_q3_tb nin0)) (ninS ne_b3_tt (ninS ne_b3_tb nin0)))
  obtain ⟨_, T, h, Lc62, X, e0, hQ, st⟩ := (cs73 hw).run X hx hZ hown e0 (A := [(.ref tt), (.ref t2)]) ⟨rfl, _, _, rfl, E_tt⟩ (rAp_2 l Z a0 hw [] tt bb N1 g1 e1 v1 kb1 t2 ad2 ak2 (((0 : Int32) + (1 : Int32)) + (1 : Int32)) pa2 pp2 dd2 q2 n2 pa3 pp3 dd3 q3 n3 b2 kk2 u2 w2 b3 kk3 u3 w3 xfm xz h Oh S_Z hz S_A S_H S_L S_F hcat (Nat.le_trans O0.1 ge_tt) (Nat.le_trans O0.1 ge_bb) ne_tt_bb ne_t2_tt ne_t2_bb ne_ad2_tt ne_ad2_bb ne_pa2_tt ne_pa2_bb ne_q2_tt ne_q2_bb ne_b2_tt ne_b2_bb ne_pa3_tt ne_pa3_bb ne_q3_tt ne_q3_bb ne_b3_tt ne_b3_bb (ar110 hm1 hm2 hm3 h_pp2 h_dd2 h_ll2 h_pp3 h_dd3 h_ll3 hnt57 hln57 hnc57) (ar111 hm1 hm2 hm3 h_pp2 h_dd2 h_ll2 h_pp3 h_dd3 h_ll3 hnt57 hln57 hnc57) (ar112 hm1 hm2 hm3 h_pp2 h_dd2 h_ll2 h_pp3 h_dd3 h_ll3 hnt57 hln57 hnc57) (ar113 hm1 hm2 hm3 h_pp2 h_dd2 h_ll2 h_pp3 h_dd3 h_ll3 hnt57 hln57 hnc57) hm2 hm3 E_tt F_buffer_tt F_gapStart_tt F_gapEnd_tt F_journal_tt V_bb E_t2 F_elementData_t2 F_size_t2 F_modCount_t2 V_ad2 E_pa2 F_position_pa2 F_deleteCount_pa2 F_insertion_pa2 F_insertionLength_pa2 E_pa3 F_position_pa3 F_deleteCount_pa3 F_insertion_pa3 F_insertionLength_pa3 U_q2 U_q3) (W := 0) (by decide) hml (Ls := #[iv p0, iv p1, iv p2, iv p3, iv p4, iv p5, rv s0, rv s1, rv cb, rv s2, rv cd, rv s3, iv k1, iv k2, iv k3, iv n1, iv pp2, iv dd2, iv ll2, iv pp3, iv dd3, iv ll3, rv t1, rv t2, rv tt, iv 1, iv 1, uu]) rfl (rest := []) rfl rfl hby at_357
  obtain ⟨bc, N2, g2, e2, v2, kb2, rfl, K61, E_tt, F_buffer_tt, F_gapStart_tt, F_gapEnd_tt, F_journal_tt, V_bc, hnb61, hnt61, hln61⟩ := hQ
  have sf_bc := oSfE hnb61 sf_bb
  have K := K.call K61 (allS (Or.inr ge_tt) (allS (Or.inr ge_bb) all0))
  have sw : ∀ x ∈ ([tt, bb] : List Addr), Safe Z oEL _ _ x := (sfS sf_tt (sfS sf_bb sf0))
  have sf_tt := Safe.keep K61.1 sw B.2.1 sf_tt
  have sf_tb := Safe.keep K61.1 sw B.2.1 sf_tb
  have sf_bb := Safe.keep K61.1 sw B.2.1 sf_bb
  have sf_bc := Safe.keep K61.1 sw B.2.1 sf_bc
  have B := B.keep K61.1 sw
  refine oWk.st (fun _ kt => st _ (zB X hx hby at_360 rfl rfl rfl kt)) ?_
  have Oh := K.old O0 all0
  obtain ⟨T, L64, X, e0, K, st⟩ := (cs72 hw).pure X hx hZ hown e0 K (A := [(.ref tt)]) ⟨rfl, _, _, rfl, E_tt⟩ (rTL l Z a0 hw [] tt bc N2 g2 e2 v2 kb2 h Oh E_tt F_buffer_tt F_gapStart_tt F_gapEnd_tt F_journal_tt V_bc) (W := 0) (by decide) hml (Ls := #[iv p0, iv p1, iv p2, iv p3, iv p4, iv p5, rv s0, rv s1, rv cb, rv s2, rv cd, rv s3, iv k1, iv k2, iv k3, iv n1, iv pp2, iv dd2, iv ll2, iv pp3, iv dd3, iv ll3, rv t1, rv t2, rv tt, iv 1, iv 1, uu]) rfl (rest := []) rfl rfl hby at_362
  refine oWk.to (mkF m 367 #[iv p0, iv p1, iv p2, iv p3, iv p4, iv p5, rv s0, rv s1, rv cb, rv s2, rv cd, rv s3, iv k1, iv k2, iv k3, iv n1, iv pp2, iv dd2, iv ll2, iv pp3, iv dd3, iv ll3, rv t1, rv t2, rv tt, iv 1, iv 1, uu] [(.int ll3), (.int (N2 - (e2 - g2)))]) (fun _ kt => st _ (zJ X hx hby at_365 rfl rfl kt)) ?_
  refine oWk.to (mkF m 384 #[iv p0, iv p1, iv p2, iv p3, iv p4, iv p5, rv s0, rv s1, rv cb, rv s2, rv cd, rv s3, iv k1, iv k2, iv k3, iv n1, iv pp2, iv dd2, iv ll2, iv pp3, iv dd3, iv ll3, rv t1, rv t2, rv tt, iv 1, iv 1, iv 1] [(.int 1)]) (fun _ kt => zN X hx hby at_367 rfl rfl (teq (ar114 hm1 hm2 hm3 h_pp2 h_dd2 h_ll2 h_pp3 h_dd3 h_ll3 hnt57 hln57 hnc57 hln61 hnt61)).2 (zK X hx hby at_370 rfl (zG X hx hby at_371 rfl (pc' := 375) rfl (zS X hx hby at_375 rfl rfl (l' := #[iv p0, iv p1, iv p2, iv p3, iv p4, iv p5, rv s0, rv s1, rv cb, rv s2, rv cd, rv s3, iv k1, iv k2, iv k3, iv n1, iv pp2, iv dd2, iv ll2, iv pp3, iv dd3, iv ll3, rv t1, rv t2, rv tt, iv 1, iv 1, iv 1]) rfl (zJ X hx hby at_377 rfl rfl (zH X hx hby at_379 rfl rfl ((if0 _ _).trans (feq (by decide)).1) (zJ X hx hby at_382 rfl rfl kt))))))) ?_
  refine oWk.to (mkF m 397 #[iv p0, iv p1, iv p2, iv p3, iv p4, iv p5, rv s0, rv s1, rv cb, rv s2, rv cd, rv s3, iv k1, iv k2, iv k3, iv n1, iv pp2, iv dd2, iv ll2, iv pp3, iv dd3, iv ll3, rv t1, rv t2, rv tt, iv 1, iv 1, iv 1] [(.int 1)]) (fun _ kt => zH X hx hby at_384 rfl rfl ((if0 _ _).trans (feq (by decide)).1) (zJ X hx hby at_387 rfl rfl (zH X hx hby at_389 rfl rfl ((if0 _ _).trans (feq (by decide)).1) (zK X hx hby at_392 rfl (zG X hx hby at_393 rfl (pc' := 397) rfl kt))))) ?_
  exact oRetH X hx hlk hZ (oELw hw) e0 B hret (oNar01 (Or.inr rfl)) (Or.inl ⟨rfl, Or.inr (Or.inl rfl), _, rfl⟩) (hb hby at_397) (by rw [e0]; exact ⟨rfl, K.fr⟩) (by decide) (by decide)
theorem comes_1 {Post : Tables → Env → Array Value → State → Outcome → State → Prop} (hpost : ∀ tb e args s v u, (limb_1_1.after args s (.returned v) u = true ∧ limb_1_2.after args s (.returned v) u = true ∧ True) → ReturnedEndW s (.returned v) u (Jvm.fieldLocs frame_1_writes args s ++ Jvm.arrayLocs frame_1_arrays args s ++ Jvm.staticLocs frame_1_statics s) 64 3648 → Post tb e args s (.returned v) u) :
    ArmFor flags0 classFile x code maxLocals ret World_1 tables_1 room_1 Calls_1 rest_1 Pre_1 Post := by
  intro l hfl _ _ p e ha hc hk s m args below hf hA hF happ hP
  obtain ⟨hcalls, hrest, hpre⟩ := hP
  obtain ⟨-, -, -, hnamed, -, -, -, hat⟩ := (Spec.applies_iff hf).mp happ
  obtain ⟨hg, hn⟩ := and_e (Cond.before_iff.mp (show (Jvm.Cond.and given_1 narrow_1).before args s = true from hpre))
  obtain ⟨n1, n2⟩ := and_e hg
  obtain ⟨n3, n4⟩ := and_e n2
  obtain ⟨n5, n6⟩ := and_e n4
  obtain ⟨n7, n8⟩ := and_e n6
  obtain ⟨n9, n10⟩ := and_e n8
  obtain ⟨n11, n12⟩ := and_e n10
  obtain ⟨w0, w1, w2, w3, w4, w5, rfl⟩ : ∃ w0 w1 w2 w3 w4 w5 : Value, args = #[w0, w1, w2, w3, w4, w5] := by
    have hs : args.size = 6 := by simpa [Cond.value, given_1] using n1
    obtain ⟨L⟩ := args
    match L, hs with
    | [w0, w1, w2, w3, w4, w5], _ => exact ⟨w0, w1, w2, w3, w4, w5, rfl⟩
  have hw := fun d (hd : d ∈ tables_1) => atoms_spec (ws := Jvm.Cond.code x code maxLocals ret :: tables_1) hat d (List.mem_cons_of_mem _ hd)
  have hfit : Fit s := fun {y c} hc i hi => by
    obtain ⟨ha, rfl⟩ := Array.getElem?_eq_some_iff.mp hc
    have q := List.all_eq_true.mp ((Array.all_eq_true_iff_forall_mem.mp hF) _ (Array.getElem_mem ha)) i (List.mem_range.mpr hi)
    simpa [Array.getElem?_eq_getElem hi] using q
  obtain ⟨hsets, hown0⟩ := atoms_of _ (rest_1_c_eq ▸ (show rest_1_c.before _ s = true from hrest))
  have hr0 := Cond.before_iff.mp hown0
  obtain ⟨i0, ei0⟩ := is_v n3
  obtain rfl : w0 = (.int i0) := Option.some.inj ei0
  obtain ⟨i1, ei1⟩ := is_v n5
  obtain rfl : w1 = (.int i1) := Option.some.inj ei1
  obtain ⟨i2, ei2⟩ := is_v n7
  obtain rfl : w2 = (.int i2) := Option.some.inj ei2
  obtain ⟨i3, ei3⟩ := is_v n9
  obtain rfl : w3 = (.int i3) := Option.some.inj ei3
  obtain ⟨i4, ei4⟩ := is_v n11
  obtain rfl : w4 = (.int i4) := Option.some.inj ei4
  obtain ⟨i5, ei5⟩ := is_v n12
  obtain rfl : w5 = (.int i5) := Option.some.inj ei5
  -- hn: (Jvm.Cond.tt)
  obtain ⟨xz, vz⟩ := is_v (Cond.before_iff.mp (hsets _ (List.mem_of_getElem? (i := 1) rfl)))
  have S_Z := Sta.start vz (Or.inl (hsets _ (List.mem_of_getElem? (i := 0) rfl)))
  have hz : ¬ xz = (0 : Int32) := oNot0 vz (Cond.before_iff.mp (hsets _ (List.mem_of_getElem? (i := 2) rfl)))
  obtain ⟨xfm, vfm, hfm⟩ := isR_v (Cond.before_iff.mp (hsets _ (List.mem_of_getElem? (i := 8) rfl)))
  have S_F := Sta.start vfm (Or.inl (hsets _ (List.mem_of_getElem? (i := 7) rfl)))
  have hcat := oCat hfm
  have SA := Sta.start (oStI (Cond.before_iff.mp (hsets _ (List.mem_of_getElem? (i := 12) rfl)))) (Or.inl (hsets _ (List.mem_of_getElem? (i := 11) rfl)))
  have SH := Sta.start (oStI (Cond.before_iff.mp (hsets _ (List.mem_of_getElem? (i := 15) rfl)))) (Or.inl (hsets _ (List.mem_of_getElem? (i := 14) rfl)))
  have SL := Sta.start (oStI (Cond.before_iff.mp (hsets _ (List.mem_of_getElem? (i := 18) rfl)))) (Or.inl (hsets _ (List.mem_of_getElem? (i := 17) rfl)))
  obtain ⟨xd, vd⟩ := exa_v (Cond.before_iff.mp (hsets _ (List.mem_of_getElem? (i := 26) rfl)))
  have S_D := Sta.start vd (Or.inr ⟨(oW hw 75 rfl), (hsets _ (List.mem_of_getElem? (i := 21) rfl))⟩)
  obtain ⟨xk, V_D⟩ := oArr0 (dv := .null) hfit vd (Cond.before_iff.mp (hsets _ (List.mem_of_getElem? (i := 25) rfl))) (Cond.before_iff.mp (hsets _ (List.mem_of_getElem? (i := 27) rfl)))
  obtain ⟨n, o, h1, h2, h3, _, L, rfl, ⟨rfl, N⟩, -, hq⟩ := rLaw l s _ hw tables_1 i0 i1 i2 i3 i4 i5 xd xk xfm xz s.heap (oExtRefl _) S_D V_D S_Z hz SA SH SL S_F hcat p e ha hc hk s m _ below hf ((Spec.applies_iff_loose hf).mp happ).1 ⟨rfl, State.Warmed39.refl s, rfl, (CHv.start (oELw hw) (fun q hq => by rcases List.mem_singleton.mp hq with rfl; exact hcalls.1 _ (List.mem_of_getElem? (i := 2) rfl)) (hsets _ (List.mem_of_getElem? (i := 2) rfl)) (oW hw 15 rfl) (oW hw 1 rfl)), (fun _ q => nomatch q)⟩ trivial
  refine ⟨n, _, h1, h2, h3, hpost _ _ _ _ _ _ ⟨Cond.after_iff.mpr rfl, Cond.after_iff.mpr (eq_i res_at (Term.int_eval (1)) rfl), trivial⟩ ⟨hq.1, hq.2.1, hq.2.2.1, (hq.2.2.2.sift fun y hy => Or.inr (N y hy)).mono (by decide) (by decide)⟩⟩
theorem main_1_1 : Claimed_1_1 := comes_1 fun _ _ _ _ _ _ h hF => ⟨h.1, hF⟩
theorem main_1_2 : Claimed_1_2 := comes_1 fun _ _ _ _ _ _ h hF => ⟨h.2.1, hF⟩
end Jvm.Pilot.@@N@@
namespace Jvm.Pilot.@@N@@
open Jvm Jvm.ClassFile Sem Op Lib Jvm.Free Jvm.Stand Jvm.Pilot.@@N@@.Jvm.D
/-! MADE BY PROGRAM (witnessworld.py) out of the Statement's table words and the real class files: 37 classes; the members and pool entries that the words name. The judged class is class 1, her method 3. -/
namespace start1
open Jvm.ClassFile
def u (s : String) : CpInfo := .utf8 (stringToUtf16 s)
/-- a pool by its gaps: so many unusable entries, then the entry; so many at the end -/
def gap : Nat → List CpInfo → List CpInfo
  | 0, r => r
  | n + 1, r => .unusable :: gap n r
def poolList (es : List (Nat × CpInfo)) (last : Nat) : List CpInfo := es.foldr (fun e r => gap e.1 (e.2 :: r)) (gap last [])
def pool (es : List (Nat × CpInfo)) (last : Nat) : Array CpInfo := ⟨poolList es last⟩
def fileOf (pool : Array CpInfo) (this : Nat) (attrs : Array Attribute := #[]) (ms : Array MethodInfo := #[]) (fl : Nat := 33) (sup : Nat := 0) (ifs : Array Nat := #[]) (fds : Array FieldInfo := #[]) : ClassFile where
  minorVersion := 0
  majorVersion := 65
  constantPool := pool
  accessFlags := fl
  thisClass := this
  superClass := sup
  interfaces := ifs
  fields := fds
  methods := ms
  attributes := attrs
def plain (name : String) (sup : Option ClassId) : Class where
  name := name
  kind := .ordinary
  loader := none
  accessFlags := 33
  super := sup
  interfaces := #[]
  cf := none
  fields := #[]
  methods := #[]
  instanceTypes := #[]
  staticTypes := #[]
  resolved := #[]
  callSites := []
  init := .initialized
  statics := none
  mirror := none

def pool0 : Array CpInfo := pool [(5, u "<init>"), (0, u "()V"), (1, .class_ 10), (1, u "java/lang/Object")] 113

def k0c0 : Code := ⟨0, 1, object_method_1_code, #[], #[]⟩
def k0m0 : Method := { name := "<init>", desc := "()V", sig := ⟨[], none⟩, accessFlags := 1, code := some k0c0 }
/-- java/lang/Object -/
def k0 : Class := { plain "java/lang/Object" none with
  accessFlags := 33
  interfaces := #[]
  cf := some (fileOf pool0 8 #[] #[⟨1, 5, 6, #[]⟩] 33 0 #[] #[])
  fields := #[]
  methods := #[k0m0]
  instanceTypes := #[]
  staticTypes := #[]
  resolved := Array.replicate 124 none
  statics := none }

def pool1 : Array CpInfo := pool [(2, .class_ 4), (0, .nameAndType 5 6), (0, u "java/lang/Object"), (0, u "<init>"), (0, u "()V"), (0, .class_ 8), (0, u "java/lang/String"), (0, .methodref 7 10), (0, .nameAndType 5 11), (0, u "([C)V"), (0, .methodref 7 13), (0, .nameAndType 14 15), (0, u "valueOf"), (0, u "(C)Ljava/lang/String;"), (0, .integer 55357), (0, .integer 56832), (0, .methodref 19 20), (0, .class_ 21), (0, .nameAndType 22 23), (0, u "com/example/wakati/wakati/TextLengthPinLaw"), (0, u "len"), (0, u "(I)I"), (0, .integer 2147483647), (0, .class_ 26), (0, u "java/util/ArrayList"), (0, .methodref 25 3), (0, .class_ 29), (0, u "com/example/wakati/wakati/Patch"), (0, .methodref 19 31), (0, .nameAndType 32 33), (0, u "pick"), (0, u "(ILjava/lang/String;Ljava/lang/String;Ljava/lang/String;Ljava/lang/String;)Ljava/lang/String;"), (0, .methodref 28 35), (0, .nameAndType 5 36), (0, u "(IILjava/lang/String;)V"), (0, .methodref 25 38), (0, .nameAndType 39 40), (0, u "add"), (0, u "(Ljava/lang/Object;)Z"), (0, .class_ 42), (0, u "com/example/wakati/wakati/Text"), (0, .methodref 41 3), (0, .methodref 41 45), (0, .nameAndType 46 47), (0, u "length"), (0, u "()I"), (0, .methodref 41 49), (0, .nameAndType 50 51), (0, u "apply"), (0, u "(Ljava/util/List;)V"), (3, u "law"), (0, u "(IIIIII)Z")] 4

def k1m0 : Method := { name := "<init>", desc := "()V", sig := ⟨[], none⟩, accessFlags := 1, code := none }
def k1c1 : Code := ⟨2, 1, method_2_code, #[], #[]⟩
def k1m1 : Method := { name := "len", desc := "(I)I", sig := ⟨[.int], some .int⟩, accessFlags := 10, code := some k1c1 }
def k1c2 : Code := ⟨2, 5, method_3_code, #[], #[]⟩
def k1m2 : Method := { name := "pick", desc := "(ILjava/lang/String;Ljava/lang/String;Ljava/lang/String;Ljava/lang/String;)Ljava/lang/String;", sig := ⟨[.int, (.object "java/lang/String"), (.object "java/lang/String"), (.object "java/lang/String"), (.object "java/lang/String")], some (.object "java/lang/String")⟩, accessFlags := 10, code := some k1c2 }
def k1c3 : Code := ⟨10, 28, code, #[], #[]⟩
def k1m3 : Method := { name := "law", desc := "(IIIIII)Z", sig := ⟨[.int, .int, .int, .int, .int, .int], some .boolean⟩, accessFlags := 9, code := some k1c3 }
/-- com/example/wakati/wakati/TextLengthPinLaw -/
def k1 : Class := { plain "com/example/wakati/wakati/TextLengthPinLaw" (some 0) with
  accessFlags := 49
  interfaces := #[]
  cf := some (fileOf pool1 19 #[] #[⟨1, 5, 6, #[]⟩, ⟨10, 22, 23, #[]⟩, ⟨10, 32, 33, #[]⟩, ⟨9, 55, 56, #[]⟩] 49 2 #[] #[])
  fields := #[]
  methods := #[k1m0, k1m1, k1m2, k1m3]
  instanceTypes := #[]
  staticTypes := #[]
  resolved := Array.replicate 61 none
  statics := none }

def pool2 : Array CpInfo := pool [(1, .class_ 2), (0, u "java/io/Serializable"), (0, .class_ 4), (0, u "java/lang/Object")] 2

/-- java/io/Serializable -/
def k2 : Class := { plain "java/io/Serializable" (some 0) with
  accessFlags := 1537
  interfaces := #[]
  cf := some (fileOf pool2 1 #[] #[] 1537 3 #[] #[])
  fields := #[]
  methods := #[]
  instanceTypes := #[]
  staticTypes := #[]
  resolved := Array.replicate 7 none
  statics := none }

def pool3 : Array CpInfo := pool [(1, .class_ 2), (0, u "java/lang/Comparable"), (0, .class_ 4), (0, u "java/lang/Object")] 7

/-- java/lang/Comparable -/
def k3 : Class := { plain "java/lang/Comparable" (some 0) with
  accessFlags := 1537
  interfaces := #[]
  cf := some (fileOf pool3 1 #[] #[] 1537 3 #[] #[])
  fields := #[]
  methods := #[]
  instanceTypes := #[]
  staticTypes := #[]
  resolved := Array.replicate 12 none
  statics := none }

def pool4 : Array CpInfo := pool [(2, .class_ 4), (1, u "java/lang/CharSequence"), (42, .class_ 48), (0, u "java/lang/CharSequence$1CodePointIterator"), (10, .class_ 60), (0, u "java/lang/CharSequence$1CharIterator"), (5, .class_ 67), (0, u "java/lang/Object")] 63

/-- java/lang/CharSequence -/
def k4 : Class := { plain "java/lang/CharSequence" (some 0) with
  accessFlags := 1537
  interfaces := #[]
  cf := some (fileOf pool4 2 #[.nestMembers #[47, 59]] #[] 1537 66 #[] #[])
  fields := #[]
  methods := #[]
  instanceTypes := #[]
  staticTypes := #[]
  resolved := Array.replicate 131 none
  statics := none }

def pool5 : Array CpInfo := pool [(1, .class_ 2), (0, u "java/lang/constant/Constable"), (0, .class_ 4), (0, u "java/lang/Object")] 6

/-- java/lang/constant/Constable -/
def k5 : Class := { plain "java/lang/constant/Constable" (some 0) with
  accessFlags := 1537
  interfaces := #[]
  cf := some (fileOf pool5 1 #[] #[] 1537 3 #[] #[])
  fields := #[]
  methods := #[]
  instanceTypes := #[]
  staticTypes := #[]
  resolved := Array.replicate 11 none
  statics := none }

def pool6 : Array CpInfo := pool [(1, .class_ 2), (0, u "java/lang/constant/ConstantDesc"), (0, .class_ 4), (0, u "java/lang/Object")] 32

/-- java/lang/constant/ConstantDesc -/
def k6 : Class := { plain "java/lang/constant/ConstantDesc" (some 0) with
  accessFlags := 1537
  interfaces := #[]
  cf := some (fileOf pool6 1 #[] #[] 1537 3 #[] #[])
  fields := #[]
  methods := #[]
  instanceTypes := #[]
  staticTypes := #[]
  resolved := Array.replicate 37 none
  statics := none }

def pool7 : Array CpInfo := pool [(1, .methodref 2 3), (0, .class_ 4), (0, .nameAndType 5 6), (0, u "java/lang/Object"), (0, u "<init>"), (0, u "()V"), (0, .string 8), (0, u ""), (0, .fieldref 10 11), (0, .class_ 12), (0, .nameAndType 13 14), (0, u "java/lang/String"), (0, u "value"), (0, u "[B"), (0, .fieldref 10 16), (0, .nameAndType 17 18), (0, u "coder"), (0, u "B"), (2, u "hash"), (0, u "I"), (2, u "hashIsZero"), (0, u "Z"), (0, .methodref 10 28), (0, .nameAndType 5 29), (0, u "([CIILjava/lang/Void;)V"), (7, u "(III)I"), (0, .fieldref 10 39), (0, .nameAndType 40 26), (0, u "COMPACT_STRINGS"), (1, .class_ 44), (1, u "java/lang/StringUTF16"), (0, u "compress"), (1, .methodref 42 48), (0, .nameAndType 49 50), (0, u "coderFromArrayLen"), (0, u "([BI)B"), (2, u "toBytes"), (25, .class_ 81), (1, u "java/util/Objects"), (15, u "([BII)I"), (9, .class_ 109), (1, u "java/lang/StringLatin1"), (32, u "()Z"), (34, .methodref 42 178), (0, .nameAndType 45 179), (0, u "([CII)[B"), (29, .methodref 10 210), (0, .nameAndType 5 211), (0, u "([BB)V"), (122, u "()I"), (0, .methodref 10 336), (0, .nameAndType 17 337), (0, u "()B"), (25, u "([BI)C"), (5, u "(C)Z"), (21, u "(II)V"), (35, u "(I)C"), (64, .methodref 10 493), (0, .nameAndType 494 142), (0, u "isLatin1"), (0, .methodref 107 496), (0, .nameAndType 497 363), (0, u "charAt"), (0, .methodref 42 496), (0, .methodref 10 500), (0, .nameAndType 501 391), (0, u "checkIndex"), (0, .methodref 42 503), (0, .nameAndType 504 97), (0, u "codePointAt"), (0, .methodref 10 506), (0, .nameAndType 507 334), (0, u "length"), (3, .methodref 79 512), (0, .nameAndType 513 37), (0, u "checkFromToIndex"), (0, .methodref 42 515), (0, .nameAndType 516 97), (0, u "codePointCount"), (58, .class_ 576), (0, u "java/lang/CharSequence"), (22, u "CASE_INSENSITIVE_ORDER"), (0, u "Ljava/util/Comparator;"), (35, u "(II)I"), (128, u "(I)I"), (16, u "valueOf"), (0, u "(C)Ljava/lang/String;"), (226, u "([C)V"), (4, .methodref 107 1016), (0, .nameAndType 1017 369), (0, u "canEncode"), (0, .methodref 107 1019), (0, .nameAndType 53 1020), (0, u "(C)[B"), (32, .fieldref 1054 1055), (0, .class_ 1056), (0, .nameAndType 1057 1058), (0, u "jdk/internal/util/Preconditions"), (0, u "SIOOBE_FORMATTER"), (0, u "Ljava/util/function/BiFunction;"), (0, .methodref 1054 1060), (0, .nameAndType 501 1061), (0, u "(IILjava/util/function/BiFunction;)I"), (39, u "serialPersistentFields"), (0, u "[Ljava/io/ObjectStreamField;"), (0, .class_ 1104), (0, u "java/lang/String$CaseInsensitiveComparator"), (1, .class_ 1107), (0, u "java/io/Serializable"), (0, .class_ 1109), (0, u "java/lang/Comparable"), (0, .class_ 1111), (0, u "java/lang/constant/Constable"), (0, .class_ 1113), (0, u "java/lang/constant/ConstantDesc"), (2, u "serialVersionUID"), (0, u "J"), (3, u "REPL"), (0, u "C"), (2, u "LATIN1"), (1, u "UTF16")] 323

def k7m0 : Method := { name := "<init>", desc := "()V", sig := ⟨[], none⟩, accessFlags := 1, code := none }
def k7c1 : Code := ⟨5, 2, jdk_42_method_3_code, #[], #[]⟩
def k7m1 : Method := { name := "<init>", desc := "([C)V", sig := ⟨[(.array .char)], none⟩, accessFlags := 1, code := some k7c1 }
def k7c2 : Code := ⟨2, 1, jdk_42_method_54_code, #[], #[]⟩
def k7m2 : Method := { name := "length", desc := "()I", sig := ⟨[], some .int⟩, accessFlags := 1, code := some k7c2 }
def k7c3 : Code := ⟨2, 2, jdk_42_method_56_code, #[], #[]⟩
def k7m3 : Method := { name := "charAt", desc := "(I)C", sig := ⟨[.int], some .char⟩, accessFlags := 1, code := some k7c3 }
def k7c4 : Code := ⟨3, 3, jdk_42_method_57_code, #[], #[]⟩
def k7m4 : Method := { name := "codePointAt", desc := "(I)I", sig := ⟨[.int], some .int⟩, accessFlags := 1, code := some k7c4 }
def k7c5 : Code := ⟨3, 3, jdk_42_method_59_code, #[], #[]⟩
def k7m5 : Method := { name := "codePointCount", desc := "(II)I", sig := ⟨[.int, .int], some .int⟩, accessFlags := 1, code := some k7c5 }
def k7c6 : Code := ⟨4, 1, jdk_42_method_139_code, #[], #[]⟩
def k7m6 : Method := { name := "valueOf", desc := "(C)Ljava/lang/String;", sig := ⟨[.char], some (.object "java/lang/String")⟩, accessFlags := 9, code := some k7c6 }
def k7c7 : Code := ⟨4, 6, jdk_42_method_149_code, #[], #[]⟩
def k7m7 : Method := { name := "<init>", desc := "([CIILjava/lang/Void;)V", sig := ⟨[(.array .char), .int, .int, (.object "java/lang/Void")], none⟩, accessFlags := 2, code := some k7c7 }
def k7c8 : Code := ⟨2, 3, jdk_42_method_151_code, #[], #[]⟩
def k7m8 : Method := { name := "<init>", desc := "([BB)V", sig := ⟨[(.array .byte), .byte], none⟩, accessFlags := 0, code := some k7c8 }
def k7c9 : Code := ⟨1, 1, jdk_42_method_152_code, #[], #[]⟩
def k7m9 : Method := { name := "coder", desc := "()B", sig := ⟨[], some .byte⟩, accessFlags := 0, code := some k7c9 }
def k7c10 : Code := ⟨1, 1, jdk_42_method_154_code, #[], #[]⟩
def k7m10 : Method := { name := "isLatin1", desc := "()Z", sig := ⟨[], some .boolean⟩, accessFlags := 0, code := some k7c10 }
def k7c11 : Code := ⟨3, 2, jdk_42_method_155_code, #[], #[]⟩
def k7m11 : Method := { name := "checkIndex", desc := "(II)V", sig := ⟨[.int, .int], none⟩, accessFlags := 8, code := some k7c11 }
/-- java/lang/String -/
def k7 : Class := { plain "java/lang/String" (some 0) with
  accessFlags := 49
  interfaces := #[2, 3, 4, 5, 6]
  cf := some (fileOf pool7 10 #[.nestMembers #[1103]] #[⟨1, 5, 6, #[]⟩, ⟨1, 5, 1010, #[]⟩, ⟨1, 507, 334, #[]⟩, ⟨1, 497, 427, #[]⟩, ⟨1, 504, 765, #[]⟩, ⟨1, 516, 636, #[]⟩, ⟨9, 782, 783, #[]⟩, ⟨2, 5, 29, #[]⟩, ⟨0, 5, 211, #[]⟩, ⟨0, 17, 337, #[]⟩, ⟨0, 494, 142, #[]⟩, ⟨8, 501, 391, #[]⟩] 49 2 #[1106, 1108, 575, 1110, 1112] #[⟨18, 13, 14, #[]⟩, ⟨18, 17, 18, #[]⟩, ⟨2, 21, 22, #[]⟩, ⟨2, 25, 26, #[]⟩, ⟨26, 1116, 1117, #[]⟩, ⟨24, 40, 26, #[]⟩, ⟨26, 1101, 1102, #[]⟩, ⟨26, 1121, 1122, #[]⟩, ⟨25, 599, 600, #[]⟩, ⟨24, 1125, 18, #[]⟩, ⟨24, 1127, 18, #[]⟩])
  fields := #[⟨"value", (.array .byte), 18, 0, 0⟩, ⟨"coder", .byte, 18, 1, 0⟩, ⟨"hash", .int, 2, 2, 0⟩, ⟨"hashIsZero", .boolean, 2, 3, 0⟩, ⟨"serialVersionUID", .long, 26, 0, 0⟩, ⟨"COMPACT_STRINGS", .boolean, 24, 1, 0⟩, ⟨"serialPersistentFields", (.array (.object "java/io/ObjectStreamField")), 26, 2, 0⟩, ⟨"REPL", .char, 26, 3, 0⟩, ⟨"CASE_INSENSITIVE_ORDER", (.object "java/util/Comparator"), 25, 4, 0⟩, ⟨"LATIN1", .byte, 24, 5, 0⟩, ⟨"UTF16", .byte, 24, 6, 0⟩]
  methods := #[k7m0, k7m1, k7m2, k7m3, k7m4, k7m5, k7m6, k7m7, k7m8, k7m9, k7m10, k7m11]
  instanceTypes := #[(.array .byte), .byte, .int, .boolean]
  staticTypes := #[.long, .boolean, (.array (.object "java/io/ObjectStreamField")), .char, (.object "java/util/Comparator"), .byte, .byte]
  resolved := Array.replicate 1451 none
  statics := some 0 }

def pool8 : Array CpInfo := pool [(1, .class_ 2), (0, u "java/lang/String"), (1, .class_ 6), (1, u "java/lang/Object"), (0, u "<init>"), (0, u "()V"), (0, .methodref 1 10), (0, .nameAndType 11 12), (0, u "checkIndex"), (0, u "(II)V"), (1, .class_ 16), (1, u "java/lang/StringLatin1"), (36, u "([BI)C"), (36, u "canEncode"), (14, u "(C)Z"), (15, u "$assertionsDisabled"), (0, u "Z"), (98, .class_ 223), (1, u "java/lang/StringLatin1$LinesSpliterator"), (28, u "charAt"), (127, u "toBytes"), (1, u "(C)[B"), (7, .class_ 391), (0, u "java/lang/StringLatin1$CharsSpliterator")] 3

def k8m0 : Method := { name := "<init>", desc := "()V", sig := ⟨[], none⟩, accessFlags := 0, code := none }
def k8c1 : Code := ⟨2, 2, jdk_43_method_2_code, #[], #[]⟩
def k8m1 : Method := { name := "charAt", desc := "([BI)C", sig := ⟨[(.array .byte), .int], some .char⟩, accessFlags := 9, code := some k8c1 }
def k8c2 : Code := ⟨2, 1, jdk_43_method_3_code, #[], #[]⟩
def k8m2 : Method := { name := "canEncode", desc := "(C)Z", sig := ⟨[.char], some .boolean⟩, accessFlags := 9, code := some k8c2 }
def k8c3 : Code := ⟨4, 1, jdk_43_method_46_code, #[], #[]⟩
def k8m3 : Method := { name := "toBytes", desc := "(C)[B", sig := ⟨[.char], some (.array .byte)⟩, accessFlags := 9, code := some k8c3 }
/-- java/lang/StringLatin1 -/
def k8 : Class := { plain "java/lang/StringLatin1" (some 0) with
  accessFlags := 48
  interfaces := #[]
  cf := some (fileOf pool8 14 #[.nestMembers #[390, 221]] #[⟨0, 7, 8, #[]⟩, ⟨9, 252, 53, #[]⟩, ⟨9, 90, 105, #[]⟩, ⟨9, 380, 382, #[]⟩] 48 4 #[] #[⟨4120, 121, 122, #[]⟩])
  fields := #[⟨"$assertionsDisabled", .boolean, 4120, 0, 0⟩]
  methods := #[k8m0, k8m1, k8m2, k8m3]
  instanceTypes := #[]
  staticTypes := #[.boolean]
  resolved := Array.replicate 395 none
  statics := none }

def pool9 : Array CpInfo := pool [(3, .class_ 4), (0, u "java/lang/String"), (1, .class_ 8), (1, u "java/lang/Object"), (0, u "<init>"), (0, u "()V"), (0, .methodref 12 13), (0, .class_ 14), (0, .nameAndType 15 16), (0, u "java/lang/StringUTF16"), (0, u "newBytesLength"), (0, u "(I)I"), (3, .integer 1073741823), (23, .fieldref 12 45), (0, .nameAndType 46 47), (0, u "$assertionsDisabled"), (0, u "Z"), (0, .methodref 12 49), (0, .nameAndType 50 51), (0, u "length"), (0, u "([B)I"), (7, .fieldref 12 60), (0, .nameAndType 61 62), (0, u "HI_BYTE_SHIFT"), (0, u "I"), (0, .fieldref 12 64), (0, .nameAndType 65 62), (0, u "LO_BYTE_SHIFT"), (1, .methodref 12 68), (0, .nameAndType 69 70), (0, u "checkIndex"), (0, u "(I[B)V"), (0, .methodref 12 72), (0, .nameAndType 73 74), (0, u "getChar"), (0, u "([BI)C"), (0, .methodref 76 77), (0, .class_ 78), (0, .nameAndType 79 80), (0, u "java/lang/Character"), (0, u "isHighSurrogate"), (0, u "(C)Z"), (0, .methodref 76 82), (0, .nameAndType 83 80), (0, u "isLowSurrogate"), (0, .methodref 76 85), (0, .nameAndType 86 87), (0, u "toCodePoint"), (0, u "(CC)I"), (0, .methodref 12 89), (0, .nameAndType 90 91), (0, u "codePointAt"), (0, u "([BIIZ)I"), (8, .methodref 12 101), (0, .nameAndType 102 91), (0, u "codePointCount"), (4, .methodref 12 108), (0, .nameAndType 109 110), (0, u "newBytesFor"), (0, u "(I)[B"), (0, .methodref 12 112), (0, .nameAndType 113 114), (0, u "putChar"), (0, u "([BII)V"), (0, .methodref 12 116), (0, .nameAndType 117 118), (0, u "compress"), (0, u "([CI[BII)I"), (0, .methodref 12 120), (0, .nameAndType 121 122), (0, u "toBytes"), (0, u "([CII)[B"), (127, u "([BII)I"), (10, u "coderFromArrayLen"), (0, u "([BI)B"), (106, .class_ 371), (1, u "java/lang/StringUTF16$LinesSpliterator"), (20, u "charAt"), (21, .methodref 3 415), (0, .nameAndType 69 416), (0, u "(II)V"), (13, u "MAX_LENGTH"), (196, .class_ 628), (0, u "java/lang/StringUTF16$CodePointsSpliterator"), (0, .class_ 630), (0, u "java/lang/StringUTF16$CharsSpliterator")] 4

def k9m0 : Method := { name := "<init>", desc := "()V", sig := ⟨[], none⟩, accessFlags := 0, code := none }
def k9c1 : Code := ⟨1, 1, jdk_52_method_2_code, #[], #[]⟩
def k9m1 : Method := { name := "newBytesFor", desc := "(I)[B", sig := ⟨[.int], some (.array .byte)⟩, accessFlags := 9, code := some k9c1 }
def k9c2 : Code := ⟨4, 1, jdk_52_method_3_code, #[], #[]⟩
def k9m2 : Method := { name := "newBytesLength", desc := "(I)I", sig := ⟨[.int], some .int⟩, accessFlags := 9, code := some k9c2 }
def k9c3 : Code := ⟨4, 3, jdk_52_method_4_code, #[], #[]⟩
def k9m3 : Method := { name := "putChar", desc := "([BII)V", sig := ⟨[(.array .byte), .int, .int], none⟩, accessFlags := 8, code := some k9c3 }
def k9c4 : Code := ⟨3, 2, jdk_52_method_5_code, #[], #[]⟩
def k9m4 : Method := { name := "getChar", desc := "([BI)C", sig := ⟨[(.array .byte), .int], some .char⟩, accessFlags := 8, code := some k9c4 }
def k9c5 : Code := ⟨2, 1, jdk_52_method_6_code, #[], #[]⟩
def k9m5 : Method := { name := "length", desc := "([B)I", sig := ⟨[(.array .byte)], some .int⟩, accessFlags := 9, code := some k9c5 }
def k9c6 : Code := ⟨2, 6, jdk_52_method_7_code, #[], #[]⟩
def k9m6 : Method := { name := "codePointAt", desc := "([BIIZ)I", sig := ⟨[(.array .byte), .int, .int, .boolean], some .int⟩, accessFlags := 10, code := some k9c6 }
def k9c7 : Code := ⟨4, 3, jdk_52_method_8_code, #[], #[]⟩
def k9m7 : Method := { name := "codePointAt", desc := "([BII)I", sig := ⟨[(.array .byte), .int, .int], some .int⟩, accessFlags := 9, code := some k9c7 }
def k9c8 : Code := ⟨3, 6, jdk_52_method_11_code, #[], #[]⟩
def k9m8 : Method := { name := "codePointCount", desc := "([BIIZ)I", sig := ⟨[(.array .byte), .int, .int, .boolean], some .int⟩, accessFlags := 10, code := some k9c8 }
def k9c9 : Code := ⟨4, 3, jdk_52_method_12_code, #[], #[]⟩
def k9m9 : Method := { name := "codePointCount", desc := "([BII)I", sig := ⟨[(.array .byte), .int, .int], some .int⟩, accessFlags := 9, code := some k9c9 }
def k9c10 : Code := ⟨4, 5, jdk_52_method_14_code, #[], #[]⟩
def k9m10 : Method := { name := "toBytes", desc := "([CII)[B", sig := ⟨[(.array .char), .int, .int], some (.array .byte)⟩, accessFlags := 9, code := some k9c10 }
def k9c11 : Code := ⟨2, 2, jdk_52_method_15_code, #[], #[]⟩
def k9m11 : Method := { name := "coderFromArrayLen", desc := "([BI)B", sig := ⟨[(.array .byte), .int], some .byte⟩, accessFlags := 8, code := some k9c11 }
def k9c12 : Code := ⟨5, 6, jdk_52_method_16_code, #[], #[]⟩
def k9m12 : Method := { name := "compress", desc := "([CII)[B", sig := ⟨[(.array .char), .int, .int], some (.array .byte)⟩, accessFlags := 9, code := some k9c12 }
def k9c13 : Code := ⟨3, 7, jdk_52_method_21_code, #[], #[]⟩
def k9m13 : Method := { name := "compress", desc := "([CI[BII)I", sig := ⟨[(.array .char), .int, (.array .byte), .int, .int], some .int⟩, accessFlags := 9, code := some k9c13 }
def k9c14 : Code := ⟨2, 2, jdk_52_method_83_code, #[], #[]⟩
def k9m14 : Method := { name := "charAt", desc := "([BI)C", sig := ⟨[(.array .byte), .int], some .char⟩, accessFlags := 9, code := some k9c14 }
def k9c15 : Code := ⟨2, 2, jdk_52_method_91_code, #[], #[]⟩
def k9m15 : Method := { name := "checkIndex", desc := "(I[B)V", sig := ⟨[.int, (.array .byte)], none⟩, accessFlags := 9, code := some k9c15 }
/-- java/lang/StringUTF16 -/
def k9 : Class := { plain "java/lang/StringUTF16" (some 0) with
  accessFlags := 48
  interfaces := #[]
  cf := some (fileOf pool9 12 #[.nestMembers #[627, 629, 369]] #[⟨0, 9, 10, #[]⟩, ⟨9, 109, 110, #[]⟩, ⟨9, 15, 16, #[]⟩, ⟨8, 113, 114, #[]⟩, ⟨8, 73, 74, #[]⟩, ⟨9, 50, 51, #[]⟩, ⟨10, 90, 91, #[]⟩, ⟨9, 90, 250, #[]⟩, ⟨10, 102, 91, #[]⟩, ⟨9, 102, 250, #[]⟩, ⟨9, 121, 122, #[]⟩, ⟨8, 261, 262, #[]⟩, ⟨9, 117, 122, #[]⟩, ⟨9, 117, 118, #[]⟩, ⟨9, 392, 74, #[]⟩, ⟨9, 69, 70, #[]⟩] 48 6 #[] #[⟨26, 61, 62, #[]⟩, ⟨26, 65, 62, #[]⟩, ⟨24, 430, 62, #[]⟩, ⟨4120, 46, 47, #[]⟩])
  fields := #[⟨"HI_BYTE_SHIFT", .int, 26, 0, 0⟩, ⟨"LO_BYTE_SHIFT", .int, 26, 1, 0⟩, ⟨"MAX_LENGTH", .int, 24, 2, 0⟩, ⟨"$assertionsDisabled", .boolean, 4120, 3, 0⟩]
  methods := #[k9m0, k9m1, k9m2, k9m3, k9m4, k9m5, k9m6, k9m7, k9m8, k9m9, k9m10, k9m11, k9m12, k9m13, k9m14, k9m15]
  instanceTypes := #[]
  staticTypes := #[.int, .int, .int, .boolean]
  resolved := Array.replicate 635 none
  statics := some 1 }

def pool10 : Array CpInfo := pool [(8, .class_ 10), (1, u "java/lang/Iterable"), (24, .class_ 36), (0, u "java/lang/Object")] 25

/-- java/lang/Iterable -/
def k10 : Class := { plain "java/lang/Iterable" (some 0) with
  accessFlags := 1537
  interfaces := #[]
  cf := some (fileOf pool10 8 #[] #[] 1537 35 #[] #[])
  fields := #[]
  methods := #[]
  instanceTypes := #[]
  staticTypes := #[]
  resolved := Array.replicate 62 none
  statics := none }

def pool11 : Array CpInfo := pool [(10, .class_ 12), (1, u "java/util/Collection"), (47, .class_ 61), (0, u "java/lang/Object"), (0, .class_ 63), (0, u "java/lang/Iterable")] 51

/-- java/util/Collection -/
def k11 : Class := { plain "java/util/Collection" (some 0) with
  accessFlags := 1537
  interfaces := #[10]
  cf := some (fileOf pool11 10 #[] #[] 1537 60 #[62] #[])
  fields := #[]
  methods := #[]
  instanceTypes := #[]
  staticTypes := #[]
  resolved := Array.replicate 115 none
  statics := none }

def pool12 : Array CpInfo := pool [(1, .methodref 2 3), (0, .class_ 4), (0, .nameAndType 5 6), (0, u "java/lang/Object"), (0, u "<init>"), (0, u "()V"), (1, .class_ 10), (1, u "java/util/AbstractCollection"), (66, .class_ 78), (0, u "java/util/Collection")] 81

def k12c0 : Code := ⟨1, 1, jdk_22_method_1_code, #[], #[]⟩
def k12m0 : Method := { name := "<init>", desc := "()V", sig := ⟨[], none⟩, accessFlags := 4, code := some k12c0 }
/-- java/util/AbstractCollection -/
def k12 : Class := { plain "java/util/AbstractCollection" (some 0) with
  accessFlags := 1057
  interfaces := #[11]
  cf := some (fileOf pool12 8 #[] #[⟨4, 5, 6, #[]⟩] 1057 2 #[77] #[])
  fields := #[]
  methods := #[k12m0]
  instanceTypes := #[]
  staticTypes := #[]
  resolved := Array.replicate 160 none
  statics := none }

def pool13 : Array CpInfo := pool [(8, .class_ 10), (1, u "java/util/SequencedCollection"), (15, .class_ 27), (0, u "java/lang/Object"), (0, .class_ 29), (0, u "java/util/Collection")] 27

/-- java/util/SequencedCollection -/
def k13 : Class := { plain "java/util/SequencedCollection" (some 0) with
  accessFlags := 1537
  interfaces := #[11]
  cf := some (fileOf pool13 8 #[] #[] 1537 26 #[28] #[])
  fields := #[]
  methods := #[]
  instanceTypes := #[]
  staticTypes := #[]
  resolved := Array.replicate 57 none
  statics := none }

def pool14 : Array CpInfo := pool [(8, .class_ 10), (1, u "java/util/List"), (64, u "get"), (0, u "(I)Ljava/lang/Object;"), (2, u "size"), (0, u "()I"), (22, .class_ 104), (0, u "java/lang/Object"), (15, .class_ 121), (0, u "java/util/SequencedCollection"), (1, u "iterator"), (0, u "()Ljava/util/Iterator;")] 126

def k14m0 : Method := { name := "size", desc := "()I", sig := ⟨[], some .int⟩, accessFlags := 1025, code := none }
def k14m1 : Method := { name := "iterator", desc := "()Ljava/util/Iterator;", sig := ⟨[], some (.object "java/util/Iterator")⟩, accessFlags := 1025, code := none }
def k14m2 : Method := { name := "get", desc := "(I)Ljava/lang/Object;", sig := ⟨[.int], some (.object "java/lang/Object")⟩, accessFlags := 1025, code := none }
/-- java/util/List -/
def k14 : Class := { plain "java/util/List" (some 0) with
  accessFlags := 1537
  interfaces := #[13]
  cf := some (fileOf pool14 8 #[] #[⟨1025, 79, 80, #[]⟩, ⟨1025, 123, 124, #[]⟩, ⟨1025, 75, 76, #[]⟩] 1537 103 #[120] #[])
  fields := #[]
  methods := #[k14m0, k14m1, k14m2]
  instanceTypes := #[]
  staticTypes := #[]
  resolved := Array.replicate 251 none
  statics := none }

def pool15 : Array CpInfo := pool [(1, .methodref 2 3), (0, .class_ 4), (0, .nameAndType 5 6), (0, u "java/util/AbstractCollection"), (0, u "<init>"), (0, u "()V"), (0, .fieldref 8 9), (0, .class_ 10), (0, .nameAndType 11 12), (0, u "java/util/AbstractList"), (0, u "modCount"), (0, u "I"), (64, .class_ 78), (0, u "java/util/AbstractList$Itr"), (3, .class_ 83), (0, u "java/util/AbstractList$ListItr"), (9, .class_ 94), (0, u "java/util/AbstractList$RandomAccessSubList"), (3, .class_ 99), (0, u "java/util/AbstractList$SubList"), (33, .class_ 134), (0, u "java/util/List"), (73, .class_ 209), (0, u "java/util/AbstractList$SubList$1"), (0, .class_ 211), (0, u "java/util/AbstractList$RandomAccessSpliterator")] 6

def k15c0 : Code := ⟨2, 1, jdk_39_method_1_code, #[], #[]⟩
def k15m0 : Method := { name := "<init>", desc := "()V", sig := ⟨[], none⟩, accessFlags := 4, code := some k15c0 }
/-- java/util/AbstractList -/
def k15 : Class := { plain "java/util/AbstractList" (some 12) with
  accessFlags := 1057
  interfaces := #[14]
  cf := some (fileOf pool15 8 #[.nestMembers #[93, 98, 208, 210, 82, 77]] #[⟨4, 5, 6, #[]⟩] 1057 2 #[133] #[⟨132, 11, 12, #[]⟩])
  fields := #[⟨"modCount", .int, 132, 0, 0⟩]
  methods := #[k15m0]
  instanceTypes := #[.int]
  staticTypes := #[]
  resolved := Array.replicate 218 none
  statics := none }

def pool16 : Array CpInfo := pool [(1, .class_ 2), (0, u "java/util/RandomAccess"), (0, .class_ 4), (0, u "java/lang/Object")] 2

/-- java/util/RandomAccess -/
def k16 : Class := { plain "java/util/RandomAccess" (some 0) with
  accessFlags := 1537
  interfaces := #[]
  cf := some (fileOf pool16 1 #[] #[] 1537 3 #[] #[])
  fields := #[]
  methods := #[]
  instanceTypes := #[]
  staticTypes := #[]
  resolved := Array.replicate 7 none
  statics := none }

def pool17 : Array CpInfo := pool [(1, .class_ 2), (0, u "java/lang/Cloneable"), (0, .class_ 4), (0, u "java/lang/Object")] 2

/-- java/lang/Cloneable -/
def k17 : Class := { plain "java/lang/Cloneable" (some 0) with
  accessFlags := 1537
  interfaces := #[]
  cf := some (fileOf pool17 1 #[] #[] 1537 3 #[] #[])
  fields := #[]
  methods := #[]
  instanceTypes := #[]
  staticTypes := #[]
  resolved := Array.replicate 7 none
  statics := none }

def pool18 : Array CpInfo := pool [(1, .methodref 2 3), (0, .class_ 4), (0, .nameAndType 5 6), (0, u "java/util/AbstractList"), (0, u "<init>"), (0, u "()V"), (0, .class_ 8), (0, u "java/lang/Object"), (0, .fieldref 10 11), (0, .class_ 12), (0, .nameAndType 13 14), (0, u "java/util/ArrayList"), (0, u "elementData"), (0, u "[Ljava/lang/Object;"), (2, u "EMPTY_ELEMENTDATA"), (21, .fieldref 10 40), (0, .nameAndType 41 14), (0, u "DEFAULTCAPACITY_EMPTY_ELEMENTDATA"), (5, u "()[Ljava/lang/Object;"), (0, .fieldref 10 49), (0, .nameAndType 50 51), (0, u "size"), (0, u "I"), (11, .fieldref 10 64), (0, .nameAndType 65 51), (0, u "modCount"), (3, .methodref 10 70), (0, .nameAndType 71 72), (0, u "grow"), (0, u "(I)[Ljava/lang/Object;"), (6, .methodref 80 81), (0, .class_ 82), (0, .nameAndType 83 84), (0, u "java/lang/Math"), (0, u "max"), (0, u "(II)I"), (11, u "(Ljava/lang/Object;)Z"), (21, .methodref 119 120), (0, .class_ 121), (0, .nameAndType 122 84), (0, u "java/util/Objects"), (0, u "checkIndex"), (0, .methodref 10 124), (0, .nameAndType 13 125), (0, u "(I)Ljava/lang/Object;"), (3, .methodref 10 130), (0, .nameAndType 71 47), (0, .methodref 10 132), (0, .nameAndType 133 134), (0, u "add"), (0, u "(Ljava/lang/Object;[Ljava/lang/Object;I)V"), (13, .class_ 149), (0, u "java/util/List"), (16, u "iterator"), (0, u "()Ljava/util/Iterator;"), (18, u "()I"), (75, .class_ 263), (0, u "java/util/ArrayList$ListItr"), (3, .class_ 268), (0, u "java/util/ArrayList$Itr"), (0, .methodref 267 270), (0, .nameAndType 5 271), (0, u "(Ljava/util/ArrayList;)V"), (4, .class_ 277), (0, u "java/util/ArrayList$SubList"), (12, .class_ 291), (0, u "java/util/ArrayList$ArrayListSpliterator"), (37, .class_ 330), (0, u "java/util/RandomAccess"), (0, .class_ 332), (0, u "java/lang/Cloneable"), (0, .class_ 334), (0, u "java/io/Serializable"), (0, u "serialVersionUID"), (0, u "J"), (3, u "DEFAULT_CAPACITY"), (40, u "get"), (118, .class_ 501), (0, u "java/util/ArrayList$SubList$2"), (0, .class_ 503), (0, u "java/util/ArrayList$SubList$1")] 5

def k18c0 : Code := ⟨2, 1, jdk_38_method_2_code, #[], #[]⟩
def k18m0 : Method := { name := "<init>", desc := "()V", sig := ⟨[], none⟩, accessFlags := 1, code := some k18c0 }
def k18c1 : Code := ⟨4, 4, jdk_38_method_6_code, #[], #[]⟩
def k18m1 : Method := { name := "grow", desc := "(I)[Ljava/lang/Object;", sig := ⟨[.int], some (.array (.object "java/lang/Object"))⟩, accessFlags := 2, code := some k18c1 }
def k18c2 : Code := ⟨3, 1, jdk_38_method_7_code, #[], #[]⟩
def k18m2 : Method := { name := "grow", desc := "()[Ljava/lang/Object;", sig := ⟨[], some (.array (.object "java/lang/Object"))⟩, accessFlags := 2, code := some k18c2 }
def k18c3 : Code := ⟨1, 1, jdk_38_method_8_code, #[], #[]⟩
def k18m3 : Method := { name := "size", desc := "()I", sig := ⟨[], some .int⟩, accessFlags := 1, code := some k18c3 }
def k18c4 : Code := ⟨2, 2, jdk_38_method_18_code, #[], #[]⟩
def k18m4 : Method := { name := "elementData", desc := "(I)Ljava/lang/Object;", sig := ⟨[.int], some (.object "java/lang/Object")⟩, accessFlags := 0, code := some k18c4 }
def k18c5 : Code := ⟨2, 2, jdk_38_method_20_code, #[], #[]⟩
def k18m5 : Method := { name := "get", desc := "(I)Ljava/lang/Object;", sig := ⟨[.int], some (.object "java/lang/Object")⟩, accessFlags := 1, code := some k18c5 }
def k18c6 : Code := ⟨3, 4, jdk_38_method_24_code, #[], #[]⟩
def k18m6 : Method := { name := "add", desc := "(Ljava/lang/Object;[Ljava/lang/Object;I)V", sig := ⟨[(.object "java/lang/Object"), (.array (.object "java/lang/Object")), .int], none⟩, accessFlags := 2, code := some k18c6 }
def k18c7 : Code := ⟨4, 2, jdk_38_method_25_code, #[], #[]⟩
def k18m7 : Method := { name := "add", desc := "(Ljava/lang/Object;)Z", sig := ⟨[(.object "java/lang/Object")], some .boolean⟩, accessFlags := 1, code := some k18c7 }
def k18c8 : Code := ⟨3, 1, jdk_38_method_55_code, #[], #[]⟩
def k18m8 : Method := { name := "iterator", desc := "()Ljava/util/Iterator;", sig := ⟨[], some (.object "java/util/Iterator")⟩, accessFlags := 1, code := some k18c8 }
/-- java/util/ArrayList -/
def k18 : Class := { plain "java/util/ArrayList" (some 15) with
  accessFlags := 33
  interfaces := #[14, 16, 17, 2]
  cf := some (fileOf pool18 10 #[.nestMembers #[290, 276, 500, 502, 262, 267]] #[⟨1, 5, 6, #[]⟩, ⟨2, 71, 72, #[]⟩, ⟨2, 71, 47, #[]⟩, ⟨1, 50, 186, #[]⟩, ⟨0, 13, 125, #[]⟩, ⟨1, 381, 125, #[]⟩, ⟨2, 133, 134, #[]⟩, ⟨1, 133, 96, #[]⟩, ⟨1, 166, 167, #[]⟩] 33 2 #[148, 329, 331, 333] #[⟨26, 335, 336, #[]⟩, ⟨26, 340, 51, #[]⟩, ⟨26, 17, 14, #[]⟩, ⟨26, 41, 14, #[]⟩, ⟨128, 13, 14, #[]⟩, ⟨2, 50, 51, #[]⟩])
  fields := #[⟨"serialVersionUID", .long, 26, 0, 0⟩, ⟨"DEFAULT_CAPACITY", .int, 26, 1, 0⟩, ⟨"EMPTY_ELEMENTDATA", (.array (.object "java/lang/Object")), 26, 2, 0⟩, ⟨"DEFAULTCAPACITY_EMPTY_ELEMENTDATA", (.array (.object "java/lang/Object")), 26, 3, 0⟩, ⟨"elementData", (.array (.object "java/lang/Object")), 128, 1, 0⟩, ⟨"size", .int, 2, 2, 0⟩]
  methods := #[k18m0, k18m1, k18m2, k18m3, k18m4, k18m5, k18m6, k18m7, k18m8]
  instanceTypes := #[.int, (.array (.object "java/lang/Object")), .int]
  staticTypes := #[.long, .int, (.array (.object "java/lang/Object")), (.array (.object "java/lang/Object"))]
  resolved := Array.replicate 509 none
  statics := some 2 }

def pool19 : Array CpInfo := pool [(1, .methodref 2 3), (0, .class_ 4), (0, .nameAndType 5 6), (0, u "java/lang/Object"), (0, u "<init>"), (0, u "()V"), (0, .string 8), (0, u "insertion is null"), (0, .methodref 10 11), (0, .class_ 12), (0, .nameAndType 13 14), (0, u "java/util/Objects"), (0, u "requireNonNull"), (0, u "(Ljava/lang/Object;Ljava/lang/String;)Ljava/lang/Object;"), (10, .string 26), (0, u "insertion"), (0, .methodref 28 29), (0, .class_ 30), (0, .nameAndType 31 32), (0, u "com/example/wakati/wakati/Surrogates"), (0, u "checkPaired"), (0, u "(Ljava/lang/String;Ljava/lang/String;)V"), (0, .fieldref 34 35), (0, .class_ 36), (0, .nameAndType 37 38), (0, u "com/example/wakati/wakati/Patch"), (0, u "position"), (0, u "I"), (0, .fieldref 34 40), (0, .nameAndType 41 38), (0, u "deleteCount"), (0, .fieldref 34 43), (0, .nameAndType 26 44), (0, u "Ljava/lang/String;"), (0, .methodref 46 47), (0, .class_ 48), (0, .nameAndType 49 50), (0, u "java/lang/String"), (0, u "length"), (0, u "()I"), (0, .methodref 46 52), (0, .nameAndType 53 54), (0, u "codePointCount"), (0, u "(II)I"), (0, .fieldref 34 56), (0, .nameAndType 57 38), (0, u "insertionLength"), (17, u "(IILjava/lang/String;)V"), (3, u "()Ljava/lang/String;")] 23

def k19c0 : Code := ⟨4, 4, prog_10_method_1_code, #[], #[]⟩
def k19m0 : Method := { name := "<init>", desc := "(IILjava/lang/String;)V", sig := ⟨[.int, .int, (.object "java/lang/String")], none⟩, accessFlags := 1, code := some k19c0 }
def k19c1 : Code := ⟨1, 1, prog_10_method_2_code, #[], #[]⟩
def k19m1 : Method := { name := "position", desc := "()I", sig := ⟨[], some .int⟩, accessFlags := 1, code := some k19c1 }
def k19c2 : Code := ⟨1, 1, prog_10_method_3_code, #[], #[]⟩
def k19m2 : Method := { name := "deleteCount", desc := "()I", sig := ⟨[], some .int⟩, accessFlags := 1, code := some k19c2 }
def k19c3 : Code := ⟨1, 1, prog_10_method_4_code, #[], #[]⟩
def k19m3 : Method := { name := "insertion", desc := "()Ljava/lang/String;", sig := ⟨[], some (.object "java/lang/String")⟩, accessFlags := 1, code := some k19c3 }
def k19c4 : Code := ⟨1, 1, prog_10_method_5_code, #[], #[]⟩
def k19m4 : Method := { name := "insertionLength", desc := "()I", sig := ⟨[], some .int⟩, accessFlags := 1, code := some k19c4 }
/-- com/example/wakati/wakati/Patch -/
def k19 : Class := { plain "com/example/wakati/wakati/Patch" (some 0) with
  accessFlags := 49
  interfaces := #[]
  cf := some (fileOf pool19 34 #[] #[⟨1, 5, 75, #[]⟩, ⟨1, 37, 50, #[]⟩, ⟨1, 41, 50, #[]⟩, ⟨1, 26, 79, #[]⟩, ⟨1, 57, 50, #[]⟩] 49 2 #[] #[⟨18, 37, 38, #[]⟩, ⟨18, 41, 38, #[]⟩, ⟨18, 26, 44, #[]⟩, ⟨18, 57, 38, #[]⟩])
  fields := #[⟨"position", .int, 18, 0, 0⟩, ⟨"deleteCount", .int, 18, 1, 0⟩, ⟨"insertion", (.object "java/lang/String"), 18, 2, 0⟩, ⟨"insertionLength", .int, 18, 3, 0⟩]
  methods := #[k19m0, k19m1, k19m2, k19m3, k19m4]
  instanceTypes := #[.int, .int, (.object "java/lang/String"), .int]
  staticTypes := #[]
  resolved := Array.replicate 103 none
  statics := none }

def pool20 : Array CpInfo := pool [(2, .class_ 4), (1, u "java/lang/Object"), (0, u "<init>"), (0, u "()V"), (35, .class_ 44), (1, u "java/util/Objects"), (0, u "requireNonNull"), (48, u "(Ljava/lang/Object;Ljava/lang/String;)Ljava/lang/Object;"), (10, .methodref 106 107), (0, .class_ 108), (0, .nameAndType 109 110), (0, u "jdk/internal/util/Preconditions"), (0, u "checkIndex"), (0, u "(IILjava/util/function/BiFunction;)I"), (0, .methodref 106 112), (0, .nameAndType 113 114), (0, u "checkFromToIndex"), (0, u "(IIILjava/util/function/BiFunction;)I"), (56, u "(II)I"), (3, u "(III)I")] 8

def k20m0 : Method := { name := "<init>", desc := "()V", sig := ⟨[], none⟩, accessFlags := 2, code := none }
def k20c1 : Code := ⟨3, 2, jdk_31_method_11_code, #[], #[]⟩
def k20m1 : Method := { name := "requireNonNull", desc := "(Ljava/lang/Object;Ljava/lang/String;)Ljava/lang/Object;", sig := ⟨[(.object "java/lang/Object"), (.object "java/lang/String")], some (.object "java/lang/Object")⟩, accessFlags := 9, code := some k20c1 }
def k20c2 : Code := ⟨3, 2, jdk_31_method_17_code, #[], #[]⟩
def k20m2 : Method := { name := "checkIndex", desc := "(II)I", sig := ⟨[.int, .int], some .int⟩, accessFlags := 9, code := some k20c2 }
def k20c3 : Code := ⟨4, 3, jdk_31_method_18_code, #[], #[]⟩
def k20m3 : Method := { name := "checkFromToIndex", desc := "(III)I", sig := ⟨[.int, .int, .int], some .int⟩, accessFlags := 9, code := some k20c3 }
/-- java/util/Objects -/
def k20 : Class := { plain "java/util/Objects" (some 0) with
  accessFlags := 49
  interfaces := #[]
  cf := some (fileOf pool20 42 #[] #[⟨2, 5, 6, #[]⟩, ⟨9, 45, 94, #[]⟩, ⟨9, 109, 171, #[]⟩, ⟨9, 113, 175, #[]⟩] 49 2 #[] #[])
  fields := #[]
  methods := #[k20m0, k20m1, k20m2, k20m3]
  instanceTypes := #[]
  staticTypes := #[]
  resolved := Array.replicate 184 none
  statics := none }

def pool21 : Array CpInfo := pool [(2, .class_ 4), (1, u "java/lang/Object"), (0, u "<init>"), (0, u "()V"), (0, .methodref 8 9), (0, .class_ 10), (0, .nameAndType 11 12), (0, u "com/example/wakati/wakati/Surrogates"), (0, u "findLone"), (0, u "(Ljava/lang/String;)I"), (10, .methodref 24 25), (0, .class_ 26), (0, .nameAndType 27 28), (0, u "java/lang/String"), (0, u "charAt"), (0, u "(I)C"), (13, .methodref 24 43), (0, .nameAndType 44 45), (0, u "length"), (0, u "()I"), (0, .methodref 47 48), (0, .class_ 49), (0, .nameAndType 50 51), (0, u "java/lang/Character"), (0, u "isHighSurrogate"), (0, u "(C)Z"), (0, .methodref 47 53), (0, .nameAndType 54 51), (0, u "isLowSurrogate"), (0, .methodref 47 56), (0, .nameAndType 57 51), (0, u "isSurrogate"), (2, u "checkPaired"), (0, u "(Ljava/lang/String;Ljava/lang/String;)V")] 3

def k21m0 : Method := { name := "<init>", desc := "()V", sig := ⟨[], none⟩, accessFlags := 2, code := none }
def k21c1 : Code := ⟨9, 3, prog_12_method_2_code, #[], #[]⟩
def k21m1 : Method := { name := "checkPaired", desc := "(Ljava/lang/String;Ljava/lang/String;)V", sig := ⟨[(.object "java/lang/String"), (.object "java/lang/String")], none⟩, accessFlags := 8, code := some k21c1 }
def k21c2 : Code := ⟨3, 3, prog_12_method_3_code, #[], #[]⟩
def k21m2 : Method := { name := "findLone", desc := "(Ljava/lang/String;)I", sig := ⟨[(.object "java/lang/String")], some .int⟩, accessFlags := 10, code := some k21c2 }
/-- com/example/wakati/wakati/Surrogates -/
def k21 : Class := { plain "com/example/wakati/wakati/Surrogates" (some 0) with
  accessFlags := 48
  interfaces := #[]
  cf := some (fileOf pool21 8 #[] #[⟨2, 5, 6, #[]⟩, ⟨8, 60, 61, #[]⟩, ⟨10, 11, 12, #[]⟩] 48 2 #[] #[])
  fields := #[]
  methods := #[k21m0, k21m1, k21m2]
  instanceTypes := #[]
  staticTypes := #[]
  resolved := Array.replicate 65 none
  statics := none }

def pool22 : Array CpInfo := pool [(2, .class_ 4), (1, u "java/lang/Object"), (0, u "<init>"), (0, u "()V"), (17, .class_ 26), (1, u "jdk/internal/util/Preconditions"), (6, u "checkIndex"), (13, u "checkFromToIndex"), (7, .class_ 56), (0, u "jdk/internal/util/Preconditions$4"), (57, .class_ 115), (0, u "jdk/internal/util/Preconditions$1"), (7, u "SIOOBE_FORMATTER"), (0, u "Ljava/util/function/BiFunction;"), (0, .class_ 126), (0, u "jdk/internal/util/Preconditions$2"), (3, u "AIOOBE_FORMATTER"), (0, .class_ 132), (0, u "jdk/internal/util/Preconditions$3"), (3, u "IOOBE_FORMATTER"), (41, u "(IILjava/util/function/BiFunction;)I"), (4, u "(IIILjava/util/function/BiFunction;)I")] 10

def k22m0 : Method := { name := "<init>", desc := "()V", sig := ⟨[], none⟩, accessFlags := 1, code := none }
def k22c1 : Code := ⟨3, 3, jdk_41_method_11_code, #[], #[]⟩
def k22m1 : Method := { name := "checkIndex", desc := "(IILjava/util/function/BiFunction;)I", sig := ⟨[.int, .int, (.object "java/util/function/BiFunction")], some .int⟩, accessFlags := 9, code := some k22c1 }
def k22c2 : Code := ⟨4, 4, jdk_41_method_12_code, #[], #[]⟩
def k22m2 : Method := { name := "checkFromToIndex", desc := "(IIILjava/util/function/BiFunction;)I", sig := ⟨[.int, .int, .int, (.object "java/util/function/BiFunction")], some .int⟩, accessFlags := 9, code := some k22c2 }
/-- jdk/internal/util/Preconditions -/
def k22 : Class := { plain "jdk/internal/util/Preconditions" (some 0) with
  accessFlags := 33
  interfaces := #[]
  cf := some (fileOf pool22 24 #[.nestMembers #[55, 131, 125, 114]] #[⟨1, 5, 6, #[]⟩, ⟨9, 33, 178, #[]⟩, ⟨9, 47, 183, #[]⟩] 33 2 #[] #[⟨25, 123, 124, #[]⟩, ⟨25, 130, 124, #[]⟩, ⟨25, 136, 124, #[]⟩])
  fields := #[⟨"SIOOBE_FORMATTER", (.object "java/util/function/BiFunction"), 25, 0, 0⟩, ⟨"AIOOBE_FORMATTER", (.object "java/util/function/BiFunction"), 25, 1, 0⟩, ⟨"IOOBE_FORMATTER", (.object "java/util/function/BiFunction"), 25, 2, 0⟩]
  methods := #[k22m0, k22m1, k22m2]
  instanceTypes := #[]
  staticTypes := #[(.object "java/util/function/BiFunction"), (.object "java/util/function/BiFunction"), (.object "java/util/function/BiFunction")]
  resolved := Array.replicate 194 none
  statics := some 3 }

def pool23 : Array CpInfo := pool [(1, .class_ 2), (0, u "java/lang/Math"), (1, .class_ 6), (1, u "java/lang/Object"), (0, u "<init>"), (0, u "()V"), (89, .class_ 100), (1, u "java/lang/Math$RandomNumberGeneratorHolder"), (71, u "negativeZeroFloatBits"), (0, u "J"), (2, u "negativeZeroDoubleBits"), (21, u "max"), (46, u "$assertionsDisabled"), (0, u "Z"), (88, u "(II)I"), (2, u "twoToTheDoubleScaleDown"), (0, u "D"), (4, u "twoToTheDoubleScaleUp"), (9, u "E"), (3, u "PI"), (2, u "TAU"), (2, u "DEGREES_TO_RADIANS"), (0, u "RADIANS_TO_DEGREES")] 94

def k23m0 : Method := { name := "<init>", desc := "()V", sig := ⟨[], none⟩, accessFlags := 2, code := none }
def k23c1 : Code := ⟨2, 2, jdk_29_method_65_code, #[], #[]⟩
def k23m1 : Method := { name := "max", desc := "(II)I", sig := ⟨[.int, .int], some .int⟩, accessFlags := 9, code := some k23c1 }
/-- java/lang/Math -/
def k23 : Class := { plain "java/lang/Math" (some 0) with
  accessFlags := 49
  interfaces := #[]
  cf := some (fileOf pool23 1 #[.nestMembers #[98]] #[⟨2, 7, 8, #[]⟩, ⟨9, 198, 335, #[]⟩] 49 4 #[] #[⟨25, 354, 339, #[]⟩, ⟨25, 358, 339, #[]⟩, ⟨25, 361, 339, #[]⟩, ⟨26, 364, 339, #[]⟩, ⟨26, 365, 339, #[]⟩, ⟨26, 172, 173, #[]⟩, ⟨26, 176, 173, #[]⟩, ⟨8, 344, 339, #[]⟩, ⟨8, 338, 339, #[]⟩, ⟨4120, 245, 246, #[]⟩])
  fields := #[⟨"E", .double, 25, 0, 0⟩, ⟨"PI", .double, 25, 1, 0⟩, ⟨"TAU", .double, 25, 2, 0⟩, ⟨"DEGREES_TO_RADIANS", .double, 26, 3, 0⟩, ⟨"RADIANS_TO_DEGREES", .double, 26, 4, 0⟩, ⟨"negativeZeroFloatBits", .long, 26, 5, 0⟩, ⟨"negativeZeroDoubleBits", .long, 26, 6, 0⟩, ⟨"twoToTheDoubleScaleUp", .double, 8, 7, 0⟩, ⟨"twoToTheDoubleScaleDown", .double, 8, 8, 0⟩, ⟨"$assertionsDisabled", .boolean, 4120, 9, 0⟩]
  methods := #[k23m0, k23m1]
  instanceTypes := #[]
  staticTypes := #[.double, .double, .double, .double, .double, .long, .long, .double, .double, .boolean]
  resolved := Array.replicate 460 none
  statics := none }

def pool24 : Array CpInfo := pool [(1, .methodref 2 3), (0, .class_ 4), (0, .nameAndType 5 6), (0, u "java/lang/Object"), (0, u "<init>"), (0, u "()V"), (0, .class_ 8), (0, u "com/example/wakati/wakati/Text"), (0, .fieldref 7 10), (0, .nameAndType 11 12), (0, u "buffer"), (0, u "[I"), (0, .fieldref 7 14), (0, .nameAndType 15 16), (0, u "gapEnd"), (0, u "I"), (1, .class_ 19), (0, u "com/example/wakati/wakati/Patch"), (4, .class_ 26), (1, u "java/util/List"), (4, u "apply"), (0, u "(Ljava/util/List;)V"), (0, .fieldref 7 34), (0, .nameAndType 35 16), (0, u "gapStart"), (0, .interfaceMethodref 24 37), (0, .nameAndType 38 39), (0, u "size"), (0, u "()I"), (0, .interfaceMethodref 24 41), (0, .nameAndType 42 43), (0, u "get"), (0, u "(I)Ljava/lang/Object;"), (0, .methodref 18 45), (0, .nameAndType 46 39), (0, u "deleteCount"), (0, .methodref 18 48), (0, .nameAndType 49 39), (0, u "position"), (9, .methodref 18 60), (0, .nameAndType 61 39), (0, u "insertionLength"), (0, .methodref 7 63), (0, .nameAndType 64 39), (0, u "length"), (0, .methodref 7 66), (0, .nameAndType 67 68), (0, u "lengthAfter"), (0, u "(ILjava/util/List;)I"), (0, .interfaceMethodref 24 70), (0, .nameAndType 71 72), (0, u "iterator"), (0, u "()Ljava/util/Iterator;"), (0, .interfaceMethodref 74 75), (0, .class_ 76), (0, .nameAndType 77 78), (0, u "java/util/Iterator"), (0, u "hasNext"), (0, u "()Z"), (0, .interfaceMethodref 74 80), (0, .nameAndType 81 82), (0, u "next"), (0, u "()Ljava/lang/Object;"), (0, .methodref 7 84), (0, .nameAndType 85 86), (0, u "moveGapTo"), (0, u "(I)V"), (0, .methodref 7 88), (0, .nameAndType 89 86), (0, u "grow"), (0, .methodref 18 91), (0, .nameAndType 92 93), (0, u "insertion"), (0, u "()Ljava/lang/String;"), (0, .methodref 95 63), (0, .class_ 96), (0, u "java/lang/String"), (0, .methodref 95 98), (0, .nameAndType 99 100), (0, u "codePointAt"), (0, u "(I)I"), (0, .methodref 102 103), (0, .class_ 104), (0, .nameAndType 105 100), (0, u "java/lang/Character"), (0, u "charCount"), (0, .fieldref 7 107), (0, .nameAndType 108 109), (0, u "journal"), (0, u "Lcom/example/wakati/wakati/Text$Journal;"), (1, .class_ 113), (1, u "com/example/wakati/wakati/Text$Journal"), (4, u "J"), (0, .long 64), (2, .class_ 124), (1, u "java/lang/Math"), (0, u "max"), (5, .class_ 132), (0, u "com/example/wakati/wakati/Text$Frozen"), (7, .methodref 141 142), (0, .class_ 143), (0, .nameAndType 144 145), (0, u "java/lang/System"), (0, u "arraycopy"), (0, u "(Ljava/lang/Object;ILjava/lang/Object;II)V"), (0, .methodref 122 147), (0, .nameAndType 125 148), (0, u "(II)I"), (12, u "INITIAL_CAPACITY"), (2, u "JOURNAL_MIN_WEIGHT"), (11, .class_ 177), (0, u "com/example/wakati/wakati/Text$Entry")] 18

def k24c0 : Code := ⟨2, 1, prog_13_method_1_code, #[], #[]⟩
def k24m0 : Method := { name := "<init>", desc := "()V", sig := ⟨[], none⟩, accessFlags := 1, code := some k24c0 }
def k24c1 : Code := ⟨3, 1, prog_13_method_3_code, #[], #[]⟩
def k24m1 : Method := { name := "length", desc := "()I", sig := ⟨[], some .int⟩, accessFlags := 1, code := some k24c1 }
def k24c2 : Code := ⟨7, 5, prog_13_method_4_code, #[], #[]⟩
def k24m2 : Method := { name := "lengthAfter", desc := "(ILjava/util/List;)I", sig := ⟨[.int, (.object "java/util/List")], some .int⟩, accessFlags := 9, code := some k24c2 }
def k24c3 : Code := ⟨6, 7, prog_13_method_5_code, #[], #[]⟩
def k24m3 : Method := { name := "apply", desc := "(Ljava/util/List;)V", sig := ⟨[(.object "java/util/List")], none⟩, accessFlags := 1, code := some k24c3 }
def k24c4 : Code := ⟨5, 3, prog_13_method_7_code, #[], #[]⟩
def k24m4 : Method := { name := "moveGapTo", desc := "(I)V", sig := ⟨[.int], none⟩, accessFlags := 2, code := some k24c4 }
def k24c5 : Code := ⟨5, 4, prog_13_method_8_code, #[], #[]⟩
def k24m5 : Method := { name := "grow", desc := "(I)V", sig := ⟨[.int], none⟩, accessFlags := 2, code := some k24c5 }
/-- com/example/wakati/wakati/Text -/
def k24 : Class := { plain "com/example/wakati/wakati/Text" (some 0) with
  accessFlags := 49
  interfaces := #[]
  cf := some (fileOf pool24 7 #[.nestMembers #[176, 111, 131]] #[⟨1, 5, 6, #[]⟩, ⟨1, 64, 39, #[]⟩, ⟨9, 67, 68, #[]⟩, ⟨1, 31, 32, #[]⟩, ⟨2, 85, 86, #[]⟩, ⟨2, 89, 86, #[]⟩] 49 2 #[] #[⟨26, 161, 16, #[]⟩, ⟨26, 164, 118, #[]⟩, ⟨2, 11, 12, #[]⟩, ⟨2, 35, 16, #[]⟩, ⟨2, 15, 16, #[]⟩, ⟨2, 108, 109, #[]⟩])
  fields := #[⟨"INITIAL_CAPACITY", .int, 26, 0, 0⟩, ⟨"JOURNAL_MIN_WEIGHT", .long, 26, 1, 0⟩, ⟨"buffer", (.array .int), 2, 0, 0⟩, ⟨"gapStart", .int, 2, 1, 0⟩, ⟨"gapEnd", .int, 2, 2, 0⟩, ⟨"journal", (.object "com/example/wakati/wakati/Text$Journal"), 2, 3, 0⟩]
  methods := #[k24m0, k24m1, k24m2, k24m3, k24m4, k24m5]
  instanceTypes := #[(.array .int), .int, .int, (.object "com/example/wakati/wakati/Text$Journal")]
  staticTypes := #[.int, .long]
  resolved := Array.replicate 196 none
  statics := none }

def pool25 : Array CpInfo := pool [(16, .class_ 18), (1, u "java/util/Iterator"), (0, u "hasNext"), (0, u "()Z"), (2, u "next"), (0, u "()Ljava/lang/Object;"), (6, .class_ 32), (0, u "java/lang/Object")] 20

def k25m0 : Method := { name := "hasNext", desc := "()Z", sig := ⟨[], some .boolean⟩, accessFlags := 1025, code := none }
def k25m1 : Method := { name := "next", desc := "()Ljava/lang/Object;", sig := ⟨[], some (.object "java/lang/Object")⟩, accessFlags := 1025, code := none }
/-- java/util/Iterator -/
def k25 : Class := { plain "java/util/Iterator" (some 0) with
  accessFlags := 1537
  interfaces := #[]
  cf := some (fileOf pool25 16 #[] #[⟨1025, 19, 20, #[]⟩, ⟨1025, 23, 24, #[]⟩] 1537 31 #[] #[])
  fields := #[]
  methods := #[k25m0, k25m1]
  instanceTypes := #[]
  staticTypes := #[]
  resolved := Array.replicate 53 none
  statics := none }

def pool26 : Array CpInfo := pool [(1, .fieldref 2 3), (0, .class_ 4), (0, .nameAndType 5 6), (0, u "java/util/ArrayList$Itr"), (0, u "this$0"), (0, u "Ljava/util/ArrayList;"), (0, .methodref 8 9), (0, .class_ 10), (0, .nameAndType 11 12), (0, u "java/lang/Object"), (0, u "<init>"), (0, u "()V"), (0, .fieldref 2 14), (0, .nameAndType 15 16), (0, u "lastRet"), (0, u "I"), (0, .fieldref 18 19), (0, .class_ 20), (0, .nameAndType 21 16), (0, u "java/util/ArrayList"), (0, u "modCount"), (0, .fieldref 2 23), (0, .nameAndType 24 16), (0, u "expectedModCount"), (0, .fieldref 2 26), (0, .nameAndType 27 16), (0, u "cursor"), (0, .fieldref 18 29), (0, .nameAndType 30 16), (0, u "size"), (0, .methodref 2 32), (0, .nameAndType 33 12), (0, u "checkForComodification"), (3, .fieldref 18 38), (0, .nameAndType 39 40), (0, u "elementData"), (0, u "[Ljava/lang/Object;"), (28, .class_ 70), (0, u "java/util/Iterator"), (0, u "(Ljava/util/ArrayList;)V"), (8, u "hasNext"), (0, u "()Z"), (1, u "next"), (0, u "()Ljava/lang/Object;")] 19

def k26c0 : Code := ⟨2, 2, jdk_49_method_1_code, #[], #[]⟩
def k26m0 : Method := { name := "<init>", desc := "(Ljava/util/ArrayList;)V", sig := ⟨[(.object "java/util/ArrayList")], none⟩, accessFlags := 0, code := some k26c0 }
def k26c1 : Code := ⟨2, 1, jdk_49_method_2_code, #[], #[]⟩
def k26m1 : Method := { name := "hasNext", desc := "()Z", sig := ⟨[], some .boolean⟩, accessFlags := 1, code := some k26c1 }
def k26c2 : Code := ⟨4, 3, jdk_49_method_3_code, #[], #[]⟩
def k26m2 : Method := { name := "next", desc := "()Ljava/lang/Object;", sig := ⟨[], some (.object "java/lang/Object")⟩, accessFlags := 1, code := some k26c2 }
def k26c3 : Code := ⟨2, 1, jdk_49_method_6_code, #[], #[]⟩
def k26m3 : Method := { name := "checkForComodification", desc := "()V", sig := ⟨[], none⟩, accessFlags := 16, code := some k26c3 }
/-- java/util/ArrayList$Itr -/
def k26 : Class := { plain "java/util/ArrayList$Itr" (some 0) with
  accessFlags := 32
  interfaces := #[25]
  cf := some (fileOf pool26 2 #[.nestHost 18] #[⟨0, 11, 71, #[]⟩, ⟨1, 80, 81, #[]⟩, ⟨1, 83, 84, #[]⟩, ⟨16, 33, 12, #[]⟩] 32 8 #[69] #[⟨0, 27, 16, #[]⟩, ⟨0, 15, 16, #[]⟩, ⟨0, 24, 16, #[]⟩, ⟨4112, 5, 6, #[]⟩])
  fields := #[⟨"cursor", .int, 0, 0, 0⟩, ⟨"lastRet", .int, 0, 1, 0⟩, ⟨"expectedModCount", .int, 0, 2, 0⟩, ⟨"this$0", (.object "java/util/ArrayList"), 4112, 3, 0⟩]
  methods := #[k26m0, k26m1, k26m2, k26m3]
  instanceTypes := #[.int, .int, .int, (.object "java/util/ArrayList")]
  staticTypes := #[]
  resolved := Array.replicate 104 none
  statics := none }

def pool27 : Array CpInfo := pool [(1, .class_ 2), (0, u "java/lang/Character"), (18, u "value"), (0, u "C"), (19, .class_ 44), (1, u "java/lang/Object"), (3, .class_ 50), (1, u "java/lang/Character$CharacterCache"), (22, .integer 65536), (1, .integer 55296), (0, .integer 56320), (0, .integer 57344), (2, u "isHighSurrogate"), (0, u "(C)Z"), (2, u "isLowSurrogate"), (0, .integer 4238353408), (12, u "toCodePoint"), (0, u "(CC)I"), (74, u "(I)I"), (109, u "$assertionsDisabled"), (0, u "Z"), (21, .class_ 309), (1, u "java/lang/Character$UnicodeBlock"), (73, u "TYPE"), (0, u "Ljava/lang/Class;"), (0, .class_ 386), (0, u "java/io/Serializable"), (0, .class_ 388), (0, u "java/lang/Comparable"), (0, .class_ 390), (0, u "java/lang/constant/Constable"), (0, u "MIN_RADIX"), (0, u "I"), (2, u "MAX_RADIX"), (1, u "MIN_VALUE"), (1, u "MAX_VALUE"), (3, u "UNASSIGNED"), (0, u "B"), (0, u "UPPERCASE_LETTER"), (1, u "LOWERCASE_LETTER"), (0, u "TITLECASE_LETTER"), (1, u "MODIFIER_LETTER"), (1, u "OTHER_LETTER"), (1, u "NON_SPACING_MARK"), (1, u "ENCLOSING_MARK"), (1, u "COMBINING_SPACING_MARK"), (1, u "DECIMAL_DIGIT_NUMBER"), (1, u "LETTER_NUMBER"), (1, u "OTHER_NUMBER"), (1, u "SPACE_SEPARATOR"), (1, u "LINE_SEPARATOR"), (1, u "PARAGRAPH_SEPARATOR"), (1, u "CONTROL"), (1, u "FORMAT"), (1, u "PRIVATE_USE"), (1, u "SURROGATE"), (1, u "DASH_PUNCTUATION"), (1, u "START_PUNCTUATION"), (1, u "END_PUNCTUATION"), (1, u "CONNECTOR_PUNCTUATION"), (1, u "OTHER_PUNCTUATION"), (1, u "MATH_SYMBOL"), (1, u "CURRENCY_SYMBOL"), (1, u "MODIFIER_SYMBOL"), (1, u "OTHER_SYMBOL"), (1, u "INITIAL_QUOTE_PUNCTUATION"), (1, u "FINAL_QUOTE_PUNCTUATION"), (1, u "ERROR"), (1, u "DIRECTIONALITY_UNDEFINED"), (0, u "DIRECTIONALITY_LEFT_TO_RIGHT"), (0, u "DIRECTIONALITY_RIGHT_TO_LEFT"), (0, u "DIRECTIONALITY_RIGHT_TO_LEFT_ARABIC"), (0, u "DIRECTIONALITY_EUROPEAN_NUMBER"), (0, u "DIRECTIONALITY_EUROPEAN_NUMBER_SEPARATOR"), (0, u "DIRECTIONALITY_EUROPEAN_NUMBER_TERMINATOR"), (0, u "DIRECTIONALITY_ARABIC_NUMBER"), (0, u "DIRECTIONALITY_COMMON_NUMBER_SEPARATOR"), (0, u "DIRECTIONALITY_NONSPACING_MARK"), (0, u "DIRECTIONALITY_BOUNDARY_NEUTRAL"), (0, u "DIRECTIONALITY_PARAGRAPH_SEPARATOR"), (0, u "DIRECTIONALITY_SEGMENT_SEPARATOR"), (0, u "DIRECTIONALITY_WHITESPACE"), (0, u "DIRECTIONALITY_OTHER_NEUTRALS"), (0, u "DIRECTIONALITY_LEFT_TO_RIGHT_EMBEDDING"), (0, u "DIRECTIONALITY_LEFT_TO_RIGHT_OVERRIDE"), (0, u "DIRECTIONALITY_RIGHT_TO_LEFT_EMBEDDING"), (0, u "DIRECTIONALITY_RIGHT_TO_LEFT_OVERRIDE"), (1, u "DIRECTIONALITY_POP_DIRECTIONAL_FORMAT"), (0, u "DIRECTIONALITY_LEFT_TO_RIGHT_ISOLATE"), (0, u "DIRECTIONALITY_RIGHT_TO_LEFT_ISOLATE"), (0, u "DIRECTIONALITY_FIRST_STRONG_ISOLATE"), (0, u "DIRECTIONALITY_POP_DIRECTIONAL_ISOLATE"), (0, u "MIN_HIGH_SURROGATE"), (0, u "MAX_HIGH_SURROGATE"), (1, u "MIN_LOW_SURROGATE"), (0, u "MAX_LOW_SURROGATE"), (1, u "MIN_SURROGATE"), (0, u "MAX_SURROGATE"), (0, u "MIN_SUPPLEMENTARY_CODE_POINT"), (0, u "MIN_CODE_POINT"), (0, u "MAX_CODE_POINT"), (1, u "serialVersionUID"), (0, u "J"), (2, u "SIZE"), (0, u "BYTES"), (24, u "isSurrogate"), (4, u "charCount"), (58, .class_ 596), (0, u "java/lang/Character$UnicodeScript"), (0, .class_ 598), (0, u "java/lang/Character$Subset")] 5

def k27c0 : Code := ⟨2, 1, jdk_89_method_14_code, #[], #[]⟩
def k27m0 : Method := { name := "isHighSurrogate", desc := "(C)Z", sig := ⟨[.char], some .boolean⟩, accessFlags := 9, code := some k27c0 }
def k27c1 : Code := ⟨2, 1, jdk_89_method_15_code, #[], #[]⟩
def k27m1 : Method := { name := "isLowSurrogate", desc := "(C)Z", sig := ⟨[.char], some .boolean⟩, accessFlags := 9, code := some k27c1 }
def k27c2 : Code := ⟨2, 1, jdk_89_method_16_code, #[], #[]⟩
def k27m2 : Method := { name := "isSurrogate", desc := "(C)Z", sig := ⟨[.char], some .boolean⟩, accessFlags := 9, code := some k27c2 }
def k27c3 : Code := ⟨2, 1, jdk_89_method_18_code, #[], #[]⟩
def k27m3 : Method := { name := "charCount", desc := "(I)I", sig := ⟨[.int], some .int⟩, accessFlags := 9, code := some k27c3 }
def k27c4 : Code := ⟨2, 2, jdk_89_method_19_code, #[], #[]⟩
def k27m4 : Method := { name := "toCodePoint", desc := "(CC)I", sig := ⟨[.char, .char], some .int⟩, accessFlags := 9, code := some k27c4 }
/-- java/lang/Character -/
def k27 : Class := { plain "java/lang/Character" (some 0) with
  accessFlags := 49
  interfaces := #[2, 3, 5]
  cf := some (fileOf pool27 1 #[.nestMembers #[48, 595, 307, 597]] #[⟨9, 80, 81, #[]⟩, ⟨9, 84, 81, #[]⟩, ⟨9, 531, 81, #[]⟩, ⟨9, 536, 174, #[]⟩, ⟨9, 98, 99, #[]⟩] 49 42 #[385, 387, 389] #[⟨25, 391, 392, #[]⟩, ⟨25, 395, 392, #[]⟩, ⟨25, 397, 22, #[]⟩, ⟨25, 399, 22, #[]⟩, ⟨25, 383, 384, #[]⟩, ⟨25, 403, 404, #[]⟩, ⟨25, 405, 404, #[]⟩, ⟨25, 407, 404, #[]⟩, ⟨25, 408, 404, #[]⟩, ⟨25, 410, 404, #[]⟩, ⟨25, 412, 404, #[]⟩, ⟨25, 414, 404, #[]⟩, ⟨25, 416, 404, #[]⟩, ⟨25, 418, 404, #[]⟩, ⟨25, 420, 404, #[]⟩, ⟨25, 422, 404, #[]⟩, ⟨25, 424, 404, #[]⟩, ⟨25, 426, 404, #[]⟩, ⟨25, 428, 404, #[]⟩, ⟨25, 430, 404, #[]⟩, ⟨25, 432, 404, #[]⟩, ⟨25, 434, 404, #[]⟩, ⟨25, 436, 404, #[]⟩, ⟨25, 438, 404, #[]⟩, ⟨25, 440, 404, #[]⟩, ⟨25, 442, 404, #[]⟩, ⟨25, 444, 404, #[]⟩, ⟨25, 446, 404, #[]⟩, ⟨25, 448, 404, #[]⟩, ⟨25, 450, 404, #[]⟩, ⟨25, 452, 404, #[]⟩, ⟨25, 454, 404, #[]⟩, ⟨25, 456, 404, #[]⟩, ⟨25, 458, 404, #[]⟩, ⟨25, 460, 404, #[]⟩, ⟨24, 462, 392, #[]⟩, ⟨25, 464, 404, #[]⟩, ⟨25, 465, 404, #[]⟩, ⟨25, 466, 404, #[]⟩, ⟨25, 467, 404, #[]⟩, ⟨25, 468, 404, #[]⟩, ⟨25, 469, 404, #[]⟩, ⟨25, 470, 404, #[]⟩, ⟨25, 471, 404, #[]⟩, ⟨25, 472, 404, #[]⟩, ⟨25, 473, 404, #[]⟩, ⟨25, 474, 404, #[]⟩, ⟨25, 475, 404, #[]⟩, ⟨25, 476, 404, #[]⟩, ⟨25, 477, 404, #[]⟩, ⟨25, 478, 404, #[]⟩, ⟨25, 479, 404, #[]⟩, ⟨25, 480, 404, #[]⟩, ⟨25, 481, 404, #[]⟩, ⟨25, 482, 404, #[]⟩, ⟨25, 484, 404, #[]⟩, ⟨25, 485, 404, #[]⟩, ⟨25, 486, 404, #[]⟩, ⟨25, 487, 404, #[]⟩, ⟨25, 488, 404, #[]⟩, ⟨25, 489, 22, #[]⟩, ⟨25, 490, 22, #[]⟩, ⟨25, 492, 22, #[]⟩, ⟨25, 493, 22, #[]⟩, ⟨25, 495, 22, #[]⟩, ⟨25, 496, 22, #[]⟩, ⟨25, 497, 392, #[]⟩, ⟨25, 498, 392, #[]⟩, ⟨25, 499, 392, #[]⟩, ⟨18, 21, 22, #[]⟩, ⟨26, 501, 502, #[]⟩, ⟨25, 505, 392, #[]⟩, ⟨25, 506, 392, #[]⟩, ⟨4120, 284, 285, #[]⟩])
  fields := #[⟨"MIN_RADIX", .int, 25, 0, 0⟩, ⟨"MAX_RADIX", .int, 25, 1, 0⟩, ⟨"MIN_VALUE", .char, 25, 2, 0⟩, ⟨"MAX_VALUE", .char, 25, 3, 0⟩, ⟨"TYPE", (.object "java/lang/Class"), 25, 4, 0⟩, ⟨"UNASSIGNED", .byte, 25, 5, 0⟩, ⟨"UPPERCASE_LETTER", .byte, 25, 6, 0⟩, ⟨"LOWERCASE_LETTER", .byte, 25, 7, 0⟩, ⟨"TITLECASE_LETTER", .byte, 25, 8, 0⟩, ⟨"MODIFIER_LETTER", .byte, 25, 9, 0⟩, ⟨"OTHER_LETTER", .byte, 25, 10, 0⟩, ⟨"NON_SPACING_MARK", .byte, 25, 11, 0⟩, ⟨"ENCLOSING_MARK", .byte, 25, 12, 0⟩, ⟨"COMBINING_SPACING_MARK", .byte, 25, 13, 0⟩, ⟨"DECIMAL_DIGIT_NUMBER", .byte, 25, 14, 0⟩, ⟨"LETTER_NUMBER", .byte, 25, 15, 0⟩, ⟨"OTHER_NUMBER", .byte, 25, 16, 0⟩, ⟨"SPACE_SEPARATOR", .byte, 25, 17, 0⟩, ⟨"LINE_SEPARATOR", .byte, 25, 18, 0⟩, ⟨"PARAGRAPH_SEPARATOR", .byte, 25, 19, 0⟩, ⟨"CONTROL", .byte, 25, 20, 0⟩, ⟨"FORMAT", .byte, 25, 21, 0⟩, ⟨"PRIVATE_USE", .byte, 25, 22, 0⟩, ⟨"SURROGATE", .byte, 25, 23, 0⟩, ⟨"DASH_PUNCTUATION", .byte, 25, 24, 0⟩, ⟨"START_PUNCTUATION", .byte, 25, 25, 0⟩, ⟨"END_PUNCTUATION", .byte, 25, 26, 0⟩, ⟨"CONNECTOR_PUNCTUATION", .byte, 25, 27, 0⟩, ⟨"OTHER_PUNCTUATION", .byte, 25, 28, 0⟩, ⟨"MATH_SYMBOL", .byte, 25, 29, 0⟩, ⟨"CURRENCY_SYMBOL", .byte, 25, 30, 0⟩, ⟨"MODIFIER_SYMBOL", .byte, 25, 31, 0⟩, ⟨"OTHER_SYMBOL", .byte, 25, 32, 0⟩, ⟨"INITIAL_QUOTE_PUNCTUATION", .byte, 25, 33, 0⟩, ⟨"FINAL_QUOTE_PUNCTUATION", .byte, 25, 34, 0⟩, ⟨"ERROR", .int, 24, 35, 0⟩, ⟨"DIRECTIONALITY_UNDEFINED", .byte, 25, 36, 0⟩, ⟨"DIRECTIONALITY_LEFT_TO_RIGHT", .byte, 25, 37, 0⟩, ⟨"DIRECTIONALITY_RIGHT_TO_LEFT", .byte, 25, 38, 0⟩, ⟨"DIRECTIONALITY_RIGHT_TO_LEFT_ARABIC", .byte, 25, 39, 0⟩, ⟨"DIRECTIONALITY_EUROPEAN_NUMBER", .byte, 25, 40, 0⟩, ⟨"DIRECTIONALITY_EUROPEAN_NUMBER_SEPARATOR", .byte, 25, 41, 0⟩, ⟨"DIRECTIONALITY_EUROPEAN_NUMBER_TERMINATOR", .byte, 25, 42, 0⟩, ⟨"DIRECTIONALITY_ARABIC_NUMBER", .byte, 25, 43, 0⟩, ⟨"DIRECTIONALITY_COMMON_NUMBER_SEPARATOR", .byte, 25, 44, 0⟩, ⟨"DIRECTIONALITY_NONSPACING_MARK", .byte, 25, 45, 0⟩, ⟨"DIRECTIONALITY_BOUNDARY_NEUTRAL", .byte, 25, 46, 0⟩, ⟨"DIRECTIONALITY_PARAGRAPH_SEPARATOR", .byte, 25, 47, 0⟩, ⟨"DIRECTIONALITY_SEGMENT_SEPARATOR", .byte, 25, 48, 0⟩, ⟨"DIRECTIONALITY_WHITESPACE", .byte, 25, 49, 0⟩, ⟨"DIRECTIONALITY_OTHER_NEUTRALS", .byte, 25, 50, 0⟩, ⟨"DIRECTIONALITY_LEFT_TO_RIGHT_EMBEDDING", .byte, 25, 51, 0⟩, ⟨"DIRECTIONALITY_LEFT_TO_RIGHT_OVERRIDE", .byte, 25, 52, 0⟩, ⟨"DIRECTIONALITY_RIGHT_TO_LEFT_EMBEDDING", .byte, 25, 53, 0⟩, ⟨"DIRECTIONALITY_RIGHT_TO_LEFT_OVERRIDE", .byte, 25, 54, 0⟩, ⟨"DIRECTIONALITY_POP_DIRECTIONAL_FORMAT", .byte, 25, 55, 0⟩, ⟨"DIRECTIONALITY_LEFT_TO_RIGHT_ISOLATE", .byte, 25, 56, 0⟩, ⟨"DIRECTIONALITY_RIGHT_TO_LEFT_ISOLATE", .byte, 25, 57, 0⟩, ⟨"DIRECTIONALITY_FIRST_STRONG_ISOLATE", .byte, 25, 58, 0⟩, ⟨"DIRECTIONALITY_POP_DIRECTIONAL_ISOLATE", .byte, 25, 59, 0⟩, ⟨"MIN_HIGH_SURROGATE", .char, 25, 60, 0⟩, ⟨"MAX_HIGH_SURROGATE", .char, 25, 61, 0⟩, ⟨"MIN_LOW_SURROGATE", .char, 25, 62, 0⟩, ⟨"MAX_LOW_SURROGATE", .char, 25, 63, 0⟩, ⟨"MIN_SURROGATE", .char, 25, 64, 0⟩, ⟨"MAX_SURROGATE", .char, 25, 65, 0⟩, ⟨"MIN_SUPPLEMENTARY_CODE_POINT", .int, 25, 66, 0⟩, ⟨"MIN_CODE_POINT", .int, 25, 67, 0⟩, ⟨"MAX_CODE_POINT", .int, 25, 68, 0⟩, ⟨"value", .char, 18, 0, 0⟩, ⟨"serialVersionUID", .long, 26, 69, 0⟩, ⟨"SIZE", .int, 25, 70, 0⟩, ⟨"BYTES", .int, 25, 71, 0⟩, ⟨"$assertionsDisabled", .boolean, 4120, 72, 0⟩]
  methods := #[k27m0, k27m1, k27m2, k27m3, k27m4]
  instanceTypes := #[.char]
  staticTypes := #[.int, .int, .char, .char, (.object "java/lang/Class"), .byte, .byte, .byte, .byte, .byte, .byte, .byte, .byte, .byte, .byte, .byte, .byte, .byte, .byte, .byte, .byte, .byte, .byte, .byte, .byte, .byte, .byte, .byte, .byte, .byte, .byte, .byte, .byte, .byte, .byte, .int, .byte, .byte, .byte, .byte, .byte, .byte, .byte, .byte, .byte, .byte, .byte, .byte, .byte, .byte, .byte, .byte, .byte, .byte, .byte, .byte, .byte, .byte, .byte, .byte, .char, .char, .char, .char, .char, .char, .int, .int, .int, .long, .int, .int, .boolean]
  resolved := Array.replicate 604 none
  statics := none }

def pool28 : Array CpInfo := pool [(2, .class_ 4), (1, u "java/lang/Object"), (0, u "<init>"), (0, u "()V"), (1, .class_ 10), (1, u "java/lang/System"), (0, u "allowSecurityManager"), (0, u "I"), (16, u "cons"), (0, u "Ljava/io/Console;"), (77, .class_ 110), (1, u "java/lang/System$CallersHolder"), (43, u "initialErrStream"), (0, u "Ljava/io/PrintStream;"), (19, u "security"), (0, u "Ljava/lang/SecurityManager;"), (31, .class_ 209), (0, u "java/lang/System$1"), (7, u "props"), (0, u "Ljava/util/Properties;"), (2, u "lineSeparator"), (0, u "Ljava/lang/String;"), (96, .class_ 321), (1, u "java/lang/System$LoggerFinder"), (5, .class_ 328), (0, u "java/lang/System$Logger"), (67, u "err"), (2, u "out"), (91, u "notSupportedJnuEncoding"), (15, u "in"), (17, u "initialIn"), (0, u "Ljava/io/InputStream;"), (35, u "bootLayer"), (0, u "Ljava/lang/ModuleLayer;"), (99, .class_ 664), (0, u "java/lang/System$2"), (9, u "NEVER"), (2, u "MAYBE"), (49, u "arraycopy"), (0, u "(Ljava/lang/Object;ILjava/lang/Object;II)V"), (72, .class_ 802), (0, u "java/lang/System$Logger$Level")] 31

def k28m0 : Method := { name := "<init>", desc := "()V", sig := ⟨[], none⟩, accessFlags := 2, code := none }
def k28m1 : Method := { name := "arraycopy", desc := "(Ljava/lang/Object;ILjava/lang/Object;II)V", sig := ⟨[(.object "java/lang/Object"), .int, (.object "java/lang/Object"), .int, .int], none⟩, accessFlags := 265, code := none }
/-- java/lang/System -/
def k28 : Class := { plain "java/lang/System" (some 0) with
  accessFlags := 49
  interfaces := #[]
  cf := some (fileOf pool28 8 #[.nestMembers #[319, 327, 801, 108, 663, 208]] #[⟨2, 5, 6, #[]⟩, ⟨265, 727, 728, #[]⟩] 49 2 #[] #[⟨25, 507, 526, #[]⟩, ⟨25, 399, 155, #[]⟩, ⟨25, 396, 155, #[]⟩, ⟨10, 525, 526, #[]⟩, ⟨26, 674, 12, #[]⟩, ⟨26, 677, 12, #[]⟩, ⟨10, 11, 12, #[]⟩, ⟨74, 175, 176, #[]⟩, ⟨10, 491, 222, #[]⟩, ⟨74, 29, 30, #[]⟩, ⟨74, 154, 155, #[]⟩, ⟨10, 217, 218, #[]⟩, ⟨10, 221, 222, #[]⟩, ⟨8, 562, 563, #[]⟩])
  fields := #[⟨"in", (.object "java/io/InputStream"), 25, 0, 0⟩, ⟨"out", (.object "java/io/PrintStream"), 25, 1, 0⟩, ⟨"err", (.object "java/io/PrintStream"), 25, 2, 0⟩, ⟨"initialIn", (.object "java/io/InputStream"), 10, 3, 0⟩, ⟨"NEVER", .int, 26, 4, 0⟩, ⟨"MAYBE", .int, 26, 5, 0⟩, ⟨"allowSecurityManager", .int, 10, 6, 0⟩, ⟨"security", (.object "java/lang/SecurityManager"), 74, 7, 0⟩, ⟨"notSupportedJnuEncoding", (.object "java/lang/String"), 10, 8, 0⟩, ⟨"cons", (.object "java/io/Console"), 74, 9, 0⟩, ⟨"initialErrStream", (.object "java/io/PrintStream"), 74, 10, 0⟩, ⟨"props", (.object "java/util/Properties"), 10, 11, 0⟩, ⟨"lineSeparator", (.object "java/lang/String"), 10, 12, 0⟩, ⟨"bootLayer", (.object "java/lang/ModuleLayer"), 8, 13, 0⟩]
  methods := #[k28m0, k28m1]
  instanceTypes := #[]
  staticTypes := #[(.object "java/io/InputStream"), (.object "java/io/PrintStream"), (.object "java/io/PrintStream"), (.object "java/io/InputStream"), .int, .int, .int, (.object "java/lang/SecurityManager"), (.object "java/lang/String"), (.object "java/io/Console"), (.object "java/io/PrintStream"), (.object "java/util/Properties"), (.object "java/lang/String"), (.object "java/lang/ModuleLayer")]
  resolved := Array.replicate 834 none
  statics := none }

def pool29 : Array CpInfo := pool [(9, u "<init>"), (6, .class_ 18), (1, u "java/lang/Object"), (0, u "()V"), (1, .class_ 23), (1, u "jdk/internal/util/ArraysSupport"), (0, u "LOG2_ARRAY_LONG_INDEX_SCALE"), (0, u "I"), (2, u "U"), (0, u "Ljdk/internal/misc/Unsafe;"), (8, u "BIG_ENDIAN"), (0, u "Z"), (8, u "LOG2_BYTE_BIT_SIZE"), (4, u "LOG2_ARRAY_INT_INDEX_SCALE"), (54, u "JLA"), (0, u "Ljdk/internal/access/JavaLangAccess;"), (11, u "LOG2_ARRAY_BOOLEAN_INDEX_SCALE"), (9, u "LOG2_ARRAY_BYTE_INDEX_SCALE"), (5, u "LOG2_ARRAY_CHAR_INDEX_SCALE"), (5, u "LOG2_ARRAY_SHORT_INDEX_SCALE"), (18, u "LOG2_ARRAY_FLOAT_INDEX_SCALE"), (24, u "LOG2_ARRAY_DOUBLE_INDEX_SCALE"), (89, u "T_BOOLEAN"), (2, u "T_CHAR"), (1, u "T_FLOAT"), (1, u "T_DOUBLE"), (1, u "T_BYTE"), (1, u "T_SHORT"), (1, u "T_INT"), (1, u "T_LONG"), (1, u "SOFT_MAX_ARRAY_LENGTH")] 83

def k29m0 : Method := { name := "<init>", desc := "()V", sig := ⟨[], none⟩, accessFlags := 2, code := none }
/-- jdk/internal/util/ArraysSupport -/
def k29 : Class := { plain "jdk/internal/util/ArraysSupport" (some 0) with
  accessFlags := 33
  interfaces := #[]
  cf := some (fileOf pool29 21 #[] #[⟨2, 9, 19, #[]⟩] 33 16 #[] #[⟨24, 28, 29, #[]⟩, ⟨26, 38, 39, #[]⟩, ⟨25, 121, 25, #[]⟩, ⟨25, 131, 25, #[]⟩, ⟨25, 137, 25, #[]⟩, ⟨25, 143, 25, #[]⟩, ⟨25, 53, 25, #[]⟩, ⟨25, 24, 25, #[]⟩, ⟨25, 162, 25, #[]⟩, ⟨25, 187, 25, #[]⟩, ⟨26, 48, 25, #[]⟩, ⟨25, 277, 25, #[]⟩, ⟨25, 280, 25, #[]⟩, ⟨25, 282, 25, #[]⟩, ⟨25, 284, 25, #[]⟩, ⟨25, 286, 25, #[]⟩, ⟨25, 288, 25, #[]⟩, ⟨25, 290, 25, #[]⟩, ⟨25, 292, 25, #[]⟩, ⟨26, 108, 109, #[]⟩, ⟨25, 294, 25, #[]⟩])
  fields := #[⟨"U", (.object "jdk/internal/misc/Unsafe"), 24, 0, 0⟩, ⟨"BIG_ENDIAN", .boolean, 26, 1, 0⟩, ⟨"LOG2_ARRAY_BOOLEAN_INDEX_SCALE", .int, 25, 2, 0⟩, ⟨"LOG2_ARRAY_BYTE_INDEX_SCALE", .int, 25, 3, 0⟩, ⟨"LOG2_ARRAY_CHAR_INDEX_SCALE", .int, 25, 4, 0⟩, ⟨"LOG2_ARRAY_SHORT_INDEX_SCALE", .int, 25, 5, 0⟩, ⟨"LOG2_ARRAY_INT_INDEX_SCALE", .int, 25, 6, 0⟩, ⟨"LOG2_ARRAY_LONG_INDEX_SCALE", .int, 25, 7, 0⟩, ⟨"LOG2_ARRAY_FLOAT_INDEX_SCALE", .int, 25, 8, 0⟩, ⟨"LOG2_ARRAY_DOUBLE_INDEX_SCALE", .int, 25, 9, 0⟩, ⟨"LOG2_BYTE_BIT_SIZE", .int, 26, 10, 0⟩, ⟨"T_BOOLEAN", .int, 25, 11, 0⟩, ⟨"T_CHAR", .int, 25, 12, 0⟩, ⟨"T_FLOAT", .int, 25, 13, 0⟩, ⟨"T_DOUBLE", .int, 25, 14, 0⟩, ⟨"T_BYTE", .int, 25, 15, 0⟩, ⟨"T_SHORT", .int, 25, 16, 0⟩, ⟨"T_INT", .int, 25, 17, 0⟩, ⟨"T_LONG", .int, 25, 18, 0⟩, ⟨"JLA", (.object "jdk/internal/access/JavaLangAccess"), 26, 19, 0⟩, ⟨"SOFT_MAX_ARRAY_LENGTH", .int, 25, 20, 0⟩]
  methods := #[k29m0]
  instanceTypes := #[]
  staticTypes := #[(.object "jdk/internal/misc/Unsafe"), .boolean, .int, .int, .int, .int, .int, .int, .int, .int, .int, .int, .int, .int, .int, .int, .int, .int, .int, (.object "jdk/internal/access/JavaLangAccess"), .int]
  resolved := Array.replicate 378 none
  statics := none }

/-- the primitive byte -/
def k30 : Class := { plain "byte" none with kind := .primitive 'B', accessFlags := 0x411 }
/-- [B -/
def k31 : Class := { plain "[B" (some 0) with kind := .array 30 .byte, interfaces := #[17, 2], accessFlags := 1041 }

/-- the primitive char -/
def k32 : Class := { plain "char" none with kind := .primitive 'C', accessFlags := 0x411 }
/-- [C -/
def k33 : Class := { plain "[C" (some 0) with kind := .array 32 .char, interfaces := #[17, 2], accessFlags := 1041 }

/-- the primitive int -/
def k34 : Class := { plain "int" none with kind := .primitive 'I', accessFlags := 0x411 }
/-- [I -/
def k35 : Class := { plain "[I" (some 0) with kind := .array 34 .int, interfaces := #[17, 2], accessFlags := 1041 }

/-- [Ljava/lang/Object; -/
def k36 : Class := { plain "[Ljava/lang/Object;" (some 0) with kind := .array 0 (.object "java/lang/Object"), interfaces := #[17, 2], accessFlags := 1041 }

def heap : Heap := #[{ cls := 7, slots := #[.long 0, .int 1, .null, .int 0, .null, .int 0, .int 0], vm := .statics 7 },
  { cls := 9, slots := #[.int 0, .int 8, .int 0, .int 1], vm := .statics 9 },
  { cls := 18, slots := #[.long 0, .int 0, .ref 4, .ref 5], vm := .statics 18 },
  { cls := 22, slots := #[.null, .null, .null], vm := .statics 22 },
  { cls := 36, slots := #[], vm := .none },
  { cls := 36, slots := #[], vm := .none }]
def classes : Array Class := #[k0, k1, k2, k3, k4, k5, k6, k7, k8, k9, k10, k11, k12, k13, k14, k15, k16, k17, k18, k19, k20, k21, k22, k23, k24, k25, k26, k27, k28, k29, k30, k31, k32, k33, k34, k35, k36]
def interned : List (Array UInt16 × Addr) := []
def slotsUsed : Nat := 18
def theMethod : MethodId := ⟨1, 3⟩
def args0 : Array Value := #[.int 27, .int 65, .int 5, .int 15, .int 2, .int 7]
def aboutOver (below : List Frame) : State where
  vm := { classes := classes, interned := interned.toArray }
  heap := heap
  slotsUsed := slotsUsed
  threads := #[{ frames := .invoking theMethod args0 :: below }]
def below0 : List Frame := [.native { method := ⟨0, 0⟩, args := #[] }]
def about1 : State := aboutOver below0
def p0 : Program := .bare "" "" ""
def e0 : Env := launch0.env 0 0 0
theorem w_frames : about1.frames = Frame.invoking theMethod args0 :: below0 := rfl
set_option maxRecDepth 65536 in
theorem w_args : argsFit about1.vm theMethod args0 = true := by decide +kernel
set_option maxRecDepth 65536 in
theorem w_heap : heapFits about1 = true := by decide +kernel
set_option maxRecDepth 65536 in
theorem w_runnable : about1.curStatus? = some .runnable := by decide +kernel
set_option maxRecDepth 65536 in
theorem w_alone : about1.alone = true := by decide +kernel
set_option maxRecDepth 65536 in
theorem w_named : about1.methodNamed? x = some theMethod := by decide +kernel
set_option maxRecDepth 65536 in
theorem w_hears : about1.hears theMethod below0 = true := by decide +kernel
set_option maxRecDepth 65536 in
theorem w_ripe : about1.ripe theMethod args0 below0 = true := by decide +kernel
theorem w_running : about1.status = .running := rfl
set_option maxRecDepth 65536 in
theorem w_room : about1.hasRoom e0.platform room_1 = true :=
  launch0.hasRoom_least _ room_1 (by decide +kernel) (by decide +kernel) (by decide +kernel) (by decide +kernel) (by decide +kernel) (by decide +kernel)
theorem allAtoms_all (ts : List Jvm.Cond) (a : Array Jvm.Value) (st : Jvm.State) : (allAtoms ts).before a st = ts.all (fun c => c.before a st) := by
  induction ts with
  | nil => rfl
  | cons c t ih =>
    show (Jvm.Cond.and c (allAtoms t)).before a st = _
    rw [Jvm.Cond.before_and, ih, List.all_cons]
def words1 : List Jvm.Cond := Jvm.Cond.code x code maxLocals ret :: tables_1
/-- a 'code' word, met by the world's own term for the bytes: nothing is compared byte by byte -/
theorem code_word {y : MethodName} {bytes : ByteArray} {mx : Nat} {rt : Option FieldType} {a : Array Value} {s : State} {m : MethodId} {meth : Method} {c : Code} (h1 : s.methodNamed? y = some m) (h2 : s.vm.method? m = some meth) (h3 : meth.code = some c) (h4 : c.code = bytes)
    (h5 : (c.maxLocals == mx && c.exceptionTable.isEmpty && decide (c.maxStack ≤ mostOperands) && decide (meth.sig.returnType = rt) && !meth.locks && decide (parseMethodDescriptor y.desc = some meth.sig)) = true) : (Jvm.Cond.code y bytes mx rt).before a s = true := by
  simp only [Bool.and_eq_true, beq_iff_eq, Bool.not_eq_true', decide_eq_true_eq] at h5
  obtain ⟨⟨⟨⟨⟨g1, g2⟩, g3⟩, g4⟩, g5⟩, g6⟩ := h5
  simp [Cond.before, Cond.holds, Cond.value, h1, h2, h3, h4, g1, g2, g3, g4, g5, g6]
def isCode : Jvm.Cond → Bool
  | .code _ _ _ _ => true
  | _ => false
theorem all_split {L : List Jvm.Cond} {P : Jvm.Cond → Bool} (h1 : L.all (fun c => isCode c || P c) = true) (h2 : ∀ c ∈ L.filter isCode, P c = true) : L.all P = true := by
  refine List.all_eq_true.mpr fun c hc => ?_
  have h := List.all_eq_true.mp h1 c hc
  rcases Bool.eq_false_or_eq_true (isCode c) with hi | hi
  · exact h2 c (List.mem_filter.mpr ⟨hc, hi⟩)
  · simpa [hi] using h
set_option maxRecDepth 65536 in
theorem w_c0 : (Jvm.Cond.code x code maxLocals ret).before args0 about1 = true := code_word (m := ⟨1, 3⟩) (meth := k1m3) (c := k1c3) (by decide +kernel) rfl rfl rfl (by decide +kernel)
set_option maxRecDepth 65536 in
theorem w_c1 : (Jvm.Cond.code ({ cls := "java/lang/String", name := "<init>", desc := "([C)V" } : Jvm.MethodName) jdk_42_method_3_code (2 : Nat) (Option.none : Option Jvm.ClassFile.FieldType)).before args0 about1 = true := code_word (m := ⟨7, 1⟩) (meth := k7m1) (c := k7c1) (by decide +kernel) rfl rfl rfl (by decide +kernel)
set_option maxRecDepth 65536 in
theorem w_c2 : (Jvm.Cond.code ({ cls := "java/lang/String", name := "<init>", desc := "([CIILjava/lang/Void;)V" } : Jvm.MethodName) jdk_42_method_149_code (6 : Nat) (Option.none : Option Jvm.ClassFile.FieldType)).before args0 about1 = true := code_word (m := ⟨7, 7⟩) (meth := k7m7) (c := k7c7) (by decide +kernel) rfl rfl rfl (by decide +kernel)
set_option maxRecDepth 65536 in
theorem w_c3 : (Jvm.Cond.code ({ cls := "java/lang/Object", name := "<init>", desc := "()V" } : Jvm.MethodName) object_method_1_code (1 : Nat) (Option.none : Option Jvm.ClassFile.FieldType)).before args0 about1 = true := code_word (m := ⟨0, 0⟩) (meth := k0m0) (c := k0c0) (by decide +kernel) rfl rfl rfl (by decide +kernel)
set_option maxRecDepth 65536 in
theorem w_c4 : (Jvm.Cond.code ({ cls := "java/lang/String", name := "valueOf", desc := "(C)Ljava/lang/String;" } : Jvm.MethodName) jdk_42_method_139_code (1 : Nat) (Option.some (Jvm.ClassFile.FieldType.object "java/lang/String"))).before args0 about1 = true := code_word (m := ⟨7, 6⟩) (meth := k7m6) (c := k7c6) (by decide +kernel) rfl rfl rfl (by decide +kernel)
set_option maxRecDepth 65536 in
theorem w_c5 : (Jvm.Cond.code ({ cls := "java/lang/StringLatin1", name := "canEncode", desc := "(C)Z" } : Jvm.MethodName) jdk_43_method_3_code (1 : Nat) (Option.some Jvm.ClassFile.FieldType.boolean)).before args0 about1 = true := code_word (m := ⟨8, 2⟩) (meth := k8m2) (c := k8c2) (by decide +kernel) rfl rfl rfl (by decide +kernel)
set_option maxRecDepth 65536 in
theorem w_c6 : (Jvm.Cond.code ({ cls := "java/lang/StringLatin1", name := "toBytes", desc := "(C)[B" } : Jvm.MethodName) jdk_43_method_46_code (1 : Nat) (Option.some (Jvm.ClassFile.FieldType.array Jvm.ClassFile.FieldType.byte))).before args0 about1 = true := code_word (m := ⟨8, 3⟩) (meth := k8m3) (c := k8c3) (by decide +kernel) rfl rfl rfl (by decide +kernel)
set_option maxRecDepth 65536 in
theorem w_c7 : (Jvm.Cond.code ({ cls := "java/lang/String", name := "<init>", desc := "([BB)V" } : Jvm.MethodName) jdk_42_method_151_code (3 : Nat) (Option.none : Option Jvm.ClassFile.FieldType)).before args0 about1 = true := code_word (m := ⟨7, 8⟩) (meth := k7m8) (c := k7c8) (by decide +kernel) rfl rfl rfl (by decide +kernel)
set_option maxRecDepth 65536 in
theorem w_c8 : (Jvm.Cond.code ({ cls := "java/lang/StringUTF16", name := "compress", desc := "([CII)[B" } : Jvm.MethodName) jdk_52_method_16_code (6 : Nat) (Option.some (Jvm.ClassFile.FieldType.array Jvm.ClassFile.FieldType.byte))).before args0 about1 = true := code_word (m := ⟨9, 12⟩) (meth := k9m12) (c := k9c12) (by decide +kernel) rfl rfl rfl (by decide +kernel)
set_option maxRecDepth 65536 in
theorem w_c9 : (Jvm.Cond.code ({ cls := "java/lang/StringUTF16", name := "compress", desc := "([CI[BII)I" } : Jvm.MethodName) jdk_52_method_21_code (7 : Nat) (Option.some Jvm.ClassFile.FieldType.int)).before args0 about1 = true := code_word (m := ⟨9, 13⟩) (meth := k9m13) (c := k9c13) (by decide +kernel) rfl rfl rfl (by decide +kernel)
set_option maxRecDepth 65536 in
theorem w_c10 : (Jvm.Cond.code ({ cls := "java/lang/StringUTF16", name := "coderFromArrayLen", desc := "([BI)B" } : Jvm.MethodName) jdk_52_method_15_code (2 : Nat) (Option.some Jvm.ClassFile.FieldType.byte)).before args0 about1 = true := code_word (m := ⟨9, 11⟩) (meth := k9m11) (c := k9c11) (by decide +kernel) rfl rfl rfl (by decide +kernel)
set_option maxRecDepth 65536 in
theorem w_c11 : (Jvm.Cond.code ({ cls := "java/lang/StringUTF16", name := "toBytes", desc := "([CII)[B" } : Jvm.MethodName) jdk_52_method_14_code (5 : Nat) (Option.some (Jvm.ClassFile.FieldType.array Jvm.ClassFile.FieldType.byte))).before args0 about1 = true := code_word (m := ⟨9, 10⟩) (meth := k9m10) (c := k9c10) (by decide +kernel) rfl rfl rfl (by decide +kernel)
set_option maxRecDepth 65536 in
theorem w_c12 : (Jvm.Cond.code ({ cls := "java/lang/StringUTF16", name := "newBytesFor", desc := "(I)[B" } : Jvm.MethodName) jdk_52_method_2_code (1 : Nat) (Option.some (Jvm.ClassFile.FieldType.array Jvm.ClassFile.FieldType.byte))).before args0 about1 = true := code_word (m := ⟨9, 1⟩) (meth := k9m1) (c := k9c1) (by decide +kernel) rfl rfl rfl (by decide +kernel)
set_option maxRecDepth 65536 in
theorem w_c13 : (Jvm.Cond.code ({ cls := "java/lang/StringUTF16", name := "newBytesLength", desc := "(I)I" } : Jvm.MethodName) jdk_52_method_3_code (1 : Nat) (Option.some Jvm.ClassFile.FieldType.int)).before args0 about1 = true := code_word (m := ⟨9, 2⟩) (meth := k9m2) (c := k9c2) (by decide +kernel) rfl rfl rfl (by decide +kernel)
set_option maxRecDepth 65536 in
theorem w_c14 : (Jvm.Cond.code ({ cls := "java/lang/StringUTF16", name := "putChar", desc := "([BII)V" } : Jvm.MethodName) jdk_52_method_4_code (3 : Nat) (Option.none : Option Jvm.ClassFile.FieldType)).before args0 about1 = true := code_word (m := ⟨9, 3⟩) (meth := k9m3) (c := k9c3) (by decide +kernel) rfl rfl rfl (by decide +kernel)
set_option maxRecDepth 65536 in
theorem w_c15 : (Jvm.Cond.code ({ cls := "java/lang/StringUTF16", name := "getChar", desc := "([BI)C" } : Jvm.MethodName) jdk_52_method_5_code (2 : Nat) (Option.some Jvm.ClassFile.FieldType.char)).before args0 about1 = true := code_word (m := ⟨9, 4⟩) (meth := k9m4) (c := k9c4) (by decide +kernel) rfl rfl rfl (by decide +kernel)
set_option maxRecDepth 65536 in
theorem w_c16 : (Jvm.Cond.code ({ cls := "com/example/wakati/wakati/TextLengthPinLaw", name := "len", desc := "(I)I" } : Jvm.MethodName) method_2_code (1 : Nat) (Option.some Jvm.ClassFile.FieldType.int)).before args0 about1 = true := code_word (m := ⟨1, 1⟩) (meth := k1m1) (c := k1c1) (by decide +kernel) rfl rfl rfl (by decide +kernel)
set_option maxRecDepth 65536 in
theorem w_c17 : (Jvm.Cond.code ({ cls := "java/util/ArrayList", name := "<init>", desc := "()V" } : Jvm.MethodName) jdk_38_method_2_code (1 : Nat) (Option.none : Option Jvm.ClassFile.FieldType)).before args0 about1 = true := code_word (m := ⟨18, 0⟩) (meth := k18m0) (c := k18c0) (by decide +kernel) rfl rfl rfl (by decide +kernel)
set_option maxRecDepth 65536 in
theorem w_c18 : (Jvm.Cond.code ({ cls := "java/util/AbstractList", name := "<init>", desc := "()V" } : Jvm.MethodName) jdk_39_method_1_code (1 : Nat) (Option.none : Option Jvm.ClassFile.FieldType)).before args0 about1 = true := code_word (m := ⟨15, 0⟩) (meth := k15m0) (c := k15c0) (by decide +kernel) rfl rfl rfl (by decide +kernel)
set_option maxRecDepth 65536 in
theorem w_c19 : (Jvm.Cond.code ({ cls := "java/util/AbstractCollection", name := "<init>", desc := "()V" } : Jvm.MethodName) jdk_22_method_1_code (1 : Nat) (Option.none : Option Jvm.ClassFile.FieldType)).before args0 about1 = true := code_word (m := ⟨12, 0⟩) (meth := k12m0) (c := k12c0) (by decide +kernel) rfl rfl rfl (by decide +kernel)
set_option maxRecDepth 65536 in
theorem w_c20 : (Jvm.Cond.code ({ cls := "com/example/wakati/wakati/TextLengthPinLaw", name := "pick", desc := "(ILjava/lang/String;Ljava/lang/String;Ljava/lang/String;Ljava/lang/String;)Ljava/lang/String;" } : Jvm.MethodName) method_3_code (5 : Nat) (Option.some (Jvm.ClassFile.FieldType.object "java/lang/String"))).before args0 about1 = true := code_word (m := ⟨1, 2⟩) (meth := k1m2) (c := k1c2) (by decide +kernel) rfl rfl rfl (by decide +kernel)
set_option maxRecDepth 65536 in
theorem w_c21 : (Jvm.Cond.code ({ cls := "com/example/wakati/wakati/Patch", name := "<init>", desc := "(IILjava/lang/String;)V" } : Jvm.MethodName) prog_10_method_1_code (4 : Nat) (Option.none : Option Jvm.ClassFile.FieldType)).before args0 about1 = true := code_word (m := ⟨19, 0⟩) (meth := k19m0) (c := k19c0) (by decide +kernel) rfl rfl rfl (by decide +kernel)
set_option maxRecDepth 65536 in
theorem w_c22 : (Jvm.Cond.code ({ cls := "java/util/Objects", name := "requireNonNull", desc := "(Ljava/lang/Object;Ljava/lang/String;)Ljava/lang/Object;" } : Jvm.MethodName) jdk_31_method_11_code (2 : Nat) (Option.some (Jvm.ClassFile.FieldType.object "java/lang/Object"))).before args0 about1 = true := code_word (m := ⟨20, 1⟩) (meth := k20m1) (c := k20c1) (by decide +kernel) rfl rfl rfl (by decide +kernel)
set_option maxRecDepth 65536 in
theorem w_c23 : (Jvm.Cond.code ({ cls := "com/example/wakati/wakati/Surrogates", name := "checkPaired", desc := "(Ljava/lang/String;Ljava/lang/String;)V" } : Jvm.MethodName) prog_12_method_2_code (3 : Nat) (Option.none : Option Jvm.ClassFile.FieldType)).before args0 about1 = true := code_word (m := ⟨21, 1⟩) (meth := k21m1) (c := k21c1) (by decide +kernel) rfl rfl rfl (by decide +kernel)
set_option maxRecDepth 65536 in
theorem w_c24 : (Jvm.Cond.code ({ cls := "com/example/wakati/wakati/Surrogates", name := "findLone", desc := "(Ljava/lang/String;)I" } : Jvm.MethodName) prog_12_method_3_code (3 : Nat) (Option.some Jvm.ClassFile.FieldType.int)).before args0 about1 = true := code_word (m := ⟨21, 2⟩) (meth := k21m2) (c := k21c2) (by decide +kernel) rfl rfl rfl (by decide +kernel)
set_option maxRecDepth 65536 in
theorem w_c25 : (Jvm.Cond.code ({ cls := "java/lang/String", name := "length", desc := "()I" } : Jvm.MethodName) jdk_42_method_54_code (1 : Nat) (Option.some Jvm.ClassFile.FieldType.int)).before args0 about1 = true := code_word (m := ⟨7, 2⟩) (meth := k7m2) (c := k7c2) (by decide +kernel) rfl rfl rfl (by decide +kernel)
set_option maxRecDepth 65536 in
theorem w_c26 : (Jvm.Cond.code ({ cls := "java/lang/String", name := "coder", desc := "()B" } : Jvm.MethodName) jdk_42_method_152_code (1 : Nat) (Option.some Jvm.ClassFile.FieldType.byte)).before args0 about1 = true := code_word (m := ⟨7, 9⟩) (meth := k7m9) (c := k7c9) (by decide +kernel) rfl rfl rfl (by decide +kernel)
set_option maxRecDepth 65536 in
theorem w_c27 : (Jvm.Cond.code ({ cls := "java/lang/String", name := "codePointCount", desc := "(II)I" } : Jvm.MethodName) jdk_42_method_59_code (3 : Nat) (Option.some Jvm.ClassFile.FieldType.int)).before args0 about1 = true := code_word (m := ⟨7, 5⟩) (meth := k7m5) (c := k7c5) (by decide +kernel) rfl rfl rfl (by decide +kernel)
set_option maxRecDepth 65536 in
theorem w_c28 : (Jvm.Cond.code ({ cls := "java/util/Objects", name := "checkFromToIndex", desc := "(III)I" } : Jvm.MethodName) jdk_31_method_18_code (3 : Nat) (Option.some Jvm.ClassFile.FieldType.int)).before args0 about1 = true := code_word (m := ⟨20, 3⟩) (meth := k20m3) (c := k20c3) (by decide +kernel) rfl rfl rfl (by decide +kernel)
set_option maxRecDepth 65536 in
theorem w_c29 : (Jvm.Cond.code ({ cls := "jdk/internal/util/Preconditions", name := "checkFromToIndex", desc := "(IIILjava/util/function/BiFunction;)I" } : Jvm.MethodName) jdk_41_method_12_code (4 : Nat) (Option.some Jvm.ClassFile.FieldType.int)).before args0 about1 = true := code_word (m := ⟨22, 2⟩) (meth := k22m2) (c := k22c2) (by decide +kernel) rfl rfl rfl (by decide +kernel)
set_option maxRecDepth 65536 in
theorem w_c30 : (Jvm.Cond.code ({ cls := "java/lang/String", name := "isLatin1", desc := "()Z" } : Jvm.MethodName) jdk_42_method_154_code (1 : Nat) (Option.some Jvm.ClassFile.FieldType.boolean)).before args0 about1 = true := code_word (m := ⟨7, 10⟩) (meth := k7m10) (c := k7c10) (by decide +kernel) rfl rfl rfl (by decide +kernel)
set_option maxRecDepth 65536 in
theorem w_c31 : (Jvm.Cond.code ({ cls := "java/util/ArrayList", name := "add", desc := "(Ljava/lang/Object;)Z" } : Jvm.MethodName) jdk_38_method_25_code (2 : Nat) (Option.some Jvm.ClassFile.FieldType.boolean)).before args0 about1 = true := code_word (m := ⟨18, 7⟩) (meth := k18m7) (c := k18c7) (by decide +kernel) rfl rfl rfl (by decide +kernel)
set_option maxRecDepth 65536 in
theorem w_c32 : (Jvm.Cond.code ({ cls := "java/util/ArrayList", name := "add", desc := "(Ljava/lang/Object;[Ljava/lang/Object;I)V" } : Jvm.MethodName) jdk_38_method_24_code (4 : Nat) (Option.none : Option Jvm.ClassFile.FieldType)).before args0 about1 = true := code_word (m := ⟨18, 6⟩) (meth := k18m6) (c := k18c6) (by decide +kernel) rfl rfl rfl (by decide +kernel)
set_option maxRecDepth 65536 in
theorem w_c33 : (Jvm.Cond.code ({ cls := "java/util/ArrayList", name := "grow", desc := "()[Ljava/lang/Object;" } : Jvm.MethodName) jdk_38_method_7_code (1 : Nat) (Option.some (Jvm.ClassFile.FieldType.array (Jvm.ClassFile.FieldType.object "java/lang/Object")))).before args0 about1 = true := code_word (m := ⟨18, 2⟩) (meth := k18m2) (c := k18c2) (by decide +kernel) rfl rfl rfl (by decide +kernel)
set_option maxRecDepth 65536 in
theorem w_c34 : (Jvm.Cond.code ({ cls := "java/util/ArrayList", name := "grow", desc := "(I)[Ljava/lang/Object;" } : Jvm.MethodName) jdk_38_method_6_code (4 : Nat) (Option.some (Jvm.ClassFile.FieldType.array (Jvm.ClassFile.FieldType.object "java/lang/Object")))).before args0 about1 = true := code_word (m := ⟨18, 1⟩) (meth := k18m1) (c := k18c1) (by decide +kernel) rfl rfl rfl (by decide +kernel)
set_option maxRecDepth 65536 in
theorem w_c35 : (Jvm.Cond.code ({ cls := "java/lang/Math", name := "max", desc := "(II)I" } : Jvm.MethodName) jdk_29_method_65_code (2 : Nat) (Option.some Jvm.ClassFile.FieldType.int)).before args0 about1 = true := code_word (m := ⟨23, 1⟩) (meth := k23m1) (c := k23c1) (by decide +kernel) rfl rfl rfl (by decide +kernel)
set_option maxRecDepth 65536 in
theorem w_c36 : (Jvm.Cond.code ({ cls := "com/example/wakati/wakati/Text", name := "<init>", desc := "()V" } : Jvm.MethodName) prog_13_method_1_code (1 : Nat) (Option.none : Option Jvm.ClassFile.FieldType)).before args0 about1 = true := code_word (m := ⟨24, 0⟩) (meth := k24m0) (c := k24c0) (by decide +kernel) rfl rfl rfl (by decide +kernel)
set_option maxRecDepth 65536 in
theorem w_c37 : (Jvm.Cond.code ({ cls := "com/example/wakati/wakati/Text", name := "length", desc := "()I" } : Jvm.MethodName) prog_13_method_3_code (1 : Nat) (Option.some Jvm.ClassFile.FieldType.int)).before args0 about1 = true := code_word (m := ⟨24, 1⟩) (meth := k24m1) (c := k24c1) (by decide +kernel) rfl rfl rfl (by decide +kernel)
set_option maxRecDepth 65536 in
theorem w_c38 : (Jvm.Cond.code ({ cls := "com/example/wakati/wakati/Text", name := "apply", desc := "(Ljava/util/List;)V" } : Jvm.MethodName) prog_13_method_5_code (7 : Nat) (Option.none : Option Jvm.ClassFile.FieldType)).before args0 about1 = true := code_word (m := ⟨24, 3⟩) (meth := k24m3) (c := k24c3) (by decide +kernel) rfl rfl rfl (by decide +kernel)
set_option maxRecDepth 65536 in
theorem w_c39 : (Jvm.Cond.code ({ cls := "com/example/wakati/wakati/Text", name := "lengthAfter", desc := "(ILjava/util/List;)I" } : Jvm.MethodName) prog_13_method_4_code (5 : Nat) (Option.some Jvm.ClassFile.FieldType.int)).before args0 about1 = true := code_word (m := ⟨24, 2⟩) (meth := k24m2) (c := k24c2) (by decide +kernel) rfl rfl rfl (by decide +kernel)
set_option maxRecDepth 65536 in
theorem w_c40 : (Jvm.Cond.code ({ cls := "java/util/ArrayList", name := "size", desc := "()I" } : Jvm.MethodName) jdk_38_method_8_code (1 : Nat) (Option.some Jvm.ClassFile.FieldType.int)).before args0 about1 = true := code_word (m := ⟨18, 3⟩) (meth := k18m3) (c := k18c3) (by decide +kernel) rfl rfl rfl (by decide +kernel)
set_option maxRecDepth 65536 in
theorem w_c41 : (Jvm.Cond.code ({ cls := "java/util/ArrayList", name := "get", desc := "(I)Ljava/lang/Object;" } : Jvm.MethodName) jdk_38_method_20_code (2 : Nat) (Option.some (Jvm.ClassFile.FieldType.object "java/lang/Object"))).before args0 about1 = true := code_word (m := ⟨18, 5⟩) (meth := k18m5) (c := k18c5) (by decide +kernel) rfl rfl rfl (by decide +kernel)
set_option maxRecDepth 65536 in
theorem w_c42 : (Jvm.Cond.code ({ cls := "java/util/Objects", name := "checkIndex", desc := "(II)I" } : Jvm.MethodName) jdk_31_method_17_code (2 : Nat) (Option.some Jvm.ClassFile.FieldType.int)).before args0 about1 = true := code_word (m := ⟨20, 2⟩) (meth := k20m2) (c := k20c2) (by decide +kernel) rfl rfl rfl (by decide +kernel)
set_option maxRecDepth 65536 in
theorem w_c43 : (Jvm.Cond.code ({ cls := "jdk/internal/util/Preconditions", name := "checkIndex", desc := "(IILjava/util/function/BiFunction;)I" } : Jvm.MethodName) jdk_41_method_11_code (3 : Nat) (Option.some Jvm.ClassFile.FieldType.int)).before args0 about1 = true := code_word (m := ⟨22, 1⟩) (meth := k22m1) (c := k22c1) (by decide +kernel) rfl rfl rfl (by decide +kernel)
set_option maxRecDepth 65536 in
theorem w_c44 : (Jvm.Cond.code ({ cls := "java/util/ArrayList", name := "elementData", desc := "(I)Ljava/lang/Object;" } : Jvm.MethodName) jdk_38_method_18_code (2 : Nat) (Option.some (Jvm.ClassFile.FieldType.object "java/lang/Object"))).before args0 about1 = true := code_word (m := ⟨18, 4⟩) (meth := k18m4) (c := k18c4) (by decide +kernel) rfl rfl rfl (by decide +kernel)
set_option maxRecDepth 65536 in
theorem w_c45 : (Jvm.Cond.code ({ cls := "com/example/wakati/wakati/Patch", name := "deleteCount", desc := "()I" } : Jvm.MethodName) prog_10_method_3_code (1 : Nat) (Option.some Jvm.ClassFile.FieldType.int)).before args0 about1 = true := code_word (m := ⟨19, 2⟩) (meth := k19m2) (c := k19c2) (by decide +kernel) rfl rfl rfl (by decide +kernel)
set_option maxRecDepth 65536 in
theorem w_c46 : (Jvm.Cond.code ({ cls := "com/example/wakati/wakati/Patch", name := "position", desc := "()I" } : Jvm.MethodName) prog_10_method_2_code (1 : Nat) (Option.some Jvm.ClassFile.FieldType.int)).before args0 about1 = true := code_word (m := ⟨19, 1⟩) (meth := k19m1) (c := k19c1) (by decide +kernel) rfl rfl rfl (by decide +kernel)
set_option maxRecDepth 65536 in
theorem w_c47 : (Jvm.Cond.code ({ cls := "com/example/wakati/wakati/Patch", name := "insertionLength", desc := "()I" } : Jvm.MethodName) prog_10_method_5_code (1 : Nat) (Option.some Jvm.ClassFile.FieldType.int)).before args0 about1 = true := code_word (m := ⟨19, 4⟩) (meth := k19m4) (c := k19c4) (by decide +kernel) rfl rfl rfl (by decide +kernel)
set_option maxRecDepth 65536 in
theorem w_c48 : (Jvm.Cond.code ({ cls := "java/util/ArrayList", name := "iterator", desc := "()Ljava/util/Iterator;" } : Jvm.MethodName) jdk_38_method_55_code (1 : Nat) (Option.some (Jvm.ClassFile.FieldType.object "java/util/Iterator"))).before args0 about1 = true := code_word (m := ⟨18, 8⟩) (meth := k18m8) (c := k18c8) (by decide +kernel) rfl rfl rfl (by decide +kernel)
set_option maxRecDepth 65536 in
theorem w_c49 : (Jvm.Cond.code ({ cls := "java/util/ArrayList$Itr", name := "<init>", desc := "(Ljava/util/ArrayList;)V" } : Jvm.MethodName) jdk_49_method_1_code (2 : Nat) (Option.none : Option Jvm.ClassFile.FieldType)).before args0 about1 = true := code_word (m := ⟨26, 0⟩) (meth := k26m0) (c := k26c0) (by decide +kernel) rfl rfl rfl (by decide +kernel)
set_option maxRecDepth 65536 in
theorem w_c50 : (Jvm.Cond.code ({ cls := "java/util/ArrayList$Itr", name := "hasNext", desc := "()Z" } : Jvm.MethodName) jdk_49_method_2_code (1 : Nat) (Option.some Jvm.ClassFile.FieldType.boolean)).before args0 about1 = true := code_word (m := ⟨26, 1⟩) (meth := k26m1) (c := k26c1) (by decide +kernel) rfl rfl rfl (by decide +kernel)
set_option maxRecDepth 65536 in
theorem w_c51 : (Jvm.Cond.code ({ cls := "java/util/ArrayList$Itr", name := "next", desc := "()Ljava/lang/Object;" } : Jvm.MethodName) jdk_49_method_3_code (3 : Nat) (Option.some (Jvm.ClassFile.FieldType.object "java/lang/Object"))).before args0 about1 = true := code_word (m := ⟨26, 2⟩) (meth := k26m2) (c := k26c2) (by decide +kernel) rfl rfl rfl (by decide +kernel)
set_option maxRecDepth 65536 in
theorem w_c52 : (Jvm.Cond.code ({ cls := "java/util/ArrayList$Itr", name := "checkForComodification", desc := "()V" } : Jvm.MethodName) jdk_49_method_6_code (1 : Nat) (Option.none : Option Jvm.ClassFile.FieldType)).before args0 about1 = true := code_word (m := ⟨26, 3⟩) (meth := k26m3) (c := k26c3) (by decide +kernel) rfl rfl rfl (by decide +kernel)
set_option maxRecDepth 65536 in
theorem w_c53 : (Jvm.Cond.code ({ cls := "com/example/wakati/wakati/Text", name := "moveGapTo", desc := "(I)V" } : Jvm.MethodName) prog_13_method_7_code (3 : Nat) (Option.none : Option Jvm.ClassFile.FieldType)).before args0 about1 = true := code_word (m := ⟨24, 4⟩) (meth := k24m4) (c := k24c4) (by decide +kernel) rfl rfl rfl (by decide +kernel)
set_option maxRecDepth 65536 in
theorem w_c54 : (Jvm.Cond.code ({ cls := "com/example/wakati/wakati/Patch", name := "insertion", desc := "()Ljava/lang/String;" } : Jvm.MethodName) prog_10_method_4_code (1 : Nat) (Option.some (Jvm.ClassFile.FieldType.object "java/lang/String"))).before args0 about1 = true := code_word (m := ⟨19, 3⟩) (meth := k19m3) (c := k19c3) (by decide +kernel) rfl rfl rfl (by decide +kernel)
set_option maxRecDepth 65536 in
theorem w_c55 : (Jvm.Cond.code ({ cls := "java/lang/String", name := "charAt", desc := "(I)C" } : Jvm.MethodName) jdk_42_method_56_code (2 : Nat) (Option.some Jvm.ClassFile.FieldType.char)).before args0 about1 = true := code_word (m := ⟨7, 3⟩) (meth := k7m3) (c := k7c3) (by decide +kernel) rfl rfl rfl (by decide +kernel)
set_option maxRecDepth 65536 in
theorem w_c56 : (Jvm.Cond.code ({ cls := "java/lang/StringLatin1", name := "charAt", desc := "([BI)C" } : Jvm.MethodName) jdk_43_method_2_code (2 : Nat) (Option.some Jvm.ClassFile.FieldType.char)).before args0 about1 = true := code_word (m := ⟨8, 1⟩) (meth := k8m1) (c := k8c1) (by decide +kernel) rfl rfl rfl (by decide +kernel)
set_option maxRecDepth 65536 in
theorem w_c57 : (Jvm.Cond.code ({ cls := "java/lang/String", name := "checkIndex", desc := "(II)V" } : Jvm.MethodName) jdk_42_method_155_code (2 : Nat) (Option.none : Option Jvm.ClassFile.FieldType)).before args0 about1 = true := code_word (m := ⟨7, 11⟩) (meth := k7m11) (c := k7c11) (by decide +kernel) rfl rfl rfl (by decide +kernel)
set_option maxRecDepth 65536 in
theorem w_c58 : (Jvm.Cond.code ({ cls := "java/lang/Character", name := "isHighSurrogate", desc := "(C)Z" } : Jvm.MethodName) jdk_89_method_14_code (1 : Nat) (Option.some Jvm.ClassFile.FieldType.boolean)).before args0 about1 = true := code_word (m := ⟨27, 0⟩) (meth := k27m0) (c := k27c0) (by decide +kernel) rfl rfl rfl (by decide +kernel)
set_option maxRecDepth 65536 in
theorem w_c59 : (Jvm.Cond.code ({ cls := "java/lang/Character", name := "isSurrogate", desc := "(C)Z" } : Jvm.MethodName) jdk_89_method_16_code (1 : Nat) (Option.some Jvm.ClassFile.FieldType.boolean)).before args0 about1 = true := code_word (m := ⟨27, 2⟩) (meth := k27m2) (c := k27c2) (by decide +kernel) rfl rfl rfl (by decide +kernel)
set_option maxRecDepth 65536 in
theorem w_c60 : (Jvm.Cond.code ({ cls := "java/lang/String", name := "codePointAt", desc := "(I)I" } : Jvm.MethodName) jdk_42_method_57_code (3 : Nat) (Option.some Jvm.ClassFile.FieldType.int)).before args0 about1 = true := code_word (m := ⟨7, 4⟩) (meth := k7m4) (c := k7c4) (by decide +kernel) rfl rfl rfl (by decide +kernel)
set_option maxRecDepth 65536 in
theorem w_c61 : (Jvm.Cond.code ({ cls := "java/lang/Character", name := "charCount", desc := "(I)I" } : Jvm.MethodName) jdk_89_method_18_code (1 : Nat) (Option.some Jvm.ClassFile.FieldType.int)).before args0 about1 = true := code_word (m := ⟨27, 3⟩) (meth := k27m3) (c := k27c3) (by decide +kernel) rfl rfl rfl (by decide +kernel)
set_option maxRecDepth 65536 in
theorem w_c62 : (Jvm.Cond.code ({ cls := "java/lang/StringUTF16", name := "charAt", desc := "([BI)C" } : Jvm.MethodName) jdk_52_method_83_code (2 : Nat) (Option.some Jvm.ClassFile.FieldType.char)).before args0 about1 = true := code_word (m := ⟨9, 14⟩) (meth := k9m14) (c := k9c14) (by decide +kernel) rfl rfl rfl (by decide +kernel)
set_option maxRecDepth 65536 in
theorem w_c63 : (Jvm.Cond.code ({ cls := "java/lang/StringUTF16", name := "checkIndex", desc := "(I[B)V" } : Jvm.MethodName) jdk_52_method_91_code (2 : Nat) (Option.none : Option Jvm.ClassFile.FieldType)).before args0 about1 = true := code_word (m := ⟨9, 15⟩) (meth := k9m15) (c := k9c15) (by decide +kernel) rfl rfl rfl (by decide +kernel)
set_option maxRecDepth 65536 in
theorem w_c64 : (Jvm.Cond.code ({ cls := "java/lang/StringUTF16", name := "length", desc := "([B)I" } : Jvm.MethodName) jdk_52_method_6_code (1 : Nat) (Option.some Jvm.ClassFile.FieldType.int)).before args0 about1 = true := code_word (m := ⟨9, 5⟩) (meth := k9m5) (c := k9c5) (by decide +kernel) rfl rfl rfl (by decide +kernel)
set_option maxRecDepth 65536 in
theorem w_c65 : (Jvm.Cond.code ({ cls := "java/lang/Character", name := "isLowSurrogate", desc := "(C)Z" } : Jvm.MethodName) jdk_89_method_15_code (1 : Nat) (Option.some Jvm.ClassFile.FieldType.boolean)).before args0 about1 = true := code_word (m := ⟨27, 1⟩) (meth := k27m1) (c := k27c1) (by decide +kernel) rfl rfl rfl (by decide +kernel)
set_option maxRecDepth 65536 in
theorem w_c66 : (Jvm.Cond.code ({ cls := "java/lang/StringUTF16", name := "codePointCount", desc := "([BII)I" } : Jvm.MethodName) jdk_52_method_12_code (3 : Nat) (Option.some Jvm.ClassFile.FieldType.int)).before args0 about1 = true := code_word (m := ⟨9, 9⟩) (meth := k9m9) (c := k9c9) (by decide +kernel) rfl rfl rfl (by decide +kernel)
set_option maxRecDepth 65536 in
theorem w_c67 : (Jvm.Cond.code ({ cls := "java/lang/StringUTF16", name := "codePointCount", desc := "([BIIZ)I" } : Jvm.MethodName) jdk_52_method_11_code (6 : Nat) (Option.some Jvm.ClassFile.FieldType.int)).before args0 about1 = true := code_word (m := ⟨9, 8⟩) (meth := k9m8) (c := k9c8) (by decide +kernel) rfl rfl rfl (by decide +kernel)
set_option maxRecDepth 65536 in
theorem w_c68 : (Jvm.Cond.code ({ cls := "java/lang/StringUTF16", name := "codePointAt", desc := "([BII)I" } : Jvm.MethodName) jdk_52_method_8_code (3 : Nat) (Option.some Jvm.ClassFile.FieldType.int)).before args0 about1 = true := code_word (m := ⟨9, 7⟩) (meth := k9m7) (c := k9c7) (by decide +kernel) rfl rfl rfl (by decide +kernel)
set_option maxRecDepth 65536 in
theorem w_c69 : (Jvm.Cond.code ({ cls := "java/lang/StringUTF16", name := "codePointAt", desc := "([BIIZ)I" } : Jvm.MethodName) jdk_52_method_7_code (6 : Nat) (Option.some Jvm.ClassFile.FieldType.int)).before args0 about1 = true := code_word (m := ⟨9, 6⟩) (meth := k9m6) (c := k9c6) (by decide +kernel) rfl rfl rfl (by decide +kernel)
set_option maxRecDepth 65536 in
theorem w_c70 : (Jvm.Cond.code ({ cls := "java/lang/Character", name := "toCodePoint", desc := "(CC)I" } : Jvm.MethodName) jdk_89_method_19_code (2 : Nat) (Option.some Jvm.ClassFile.FieldType.int)).before args0 about1 = true := code_word (m := ⟨27, 4⟩) (meth := k27m4) (c := k27c4) (by decide +kernel) rfl rfl rfl (by decide +kernel)
set_option maxRecDepth 65536 in
theorem w_c71 : (Jvm.Cond.code ({ cls := "com/example/wakati/wakati/Text", name := "grow", desc := "(I)V" } : Jvm.MethodName) prog_13_method_8_code (4 : Nat) (Option.none : Option Jvm.ClassFile.FieldType)).before args0 about1 = true := code_word (m := ⟨24, 5⟩) (meth := k24m5) (c := k24c5) (by decide +kernel) rfl rfl rfl (by decide +kernel)
def codes1 : List Jvm.Cond := [Jvm.Cond.code x code maxLocals ret, Jvm.Cond.code ({ cls := "java/lang/String", name := "<init>", desc := "([C)V" } : Jvm.MethodName) jdk_42_method_3_code (2 : Nat) (Option.none : Option Jvm.ClassFile.FieldType), Jvm.Cond.code ({ cls := "java/lang/String", name := "<init>", desc := "([CIILjava/lang/Void;)V" } : Jvm.MethodName) jdk_42_method_149_code (6 : Nat) (Option.none : Option Jvm.ClassFile.FieldType), Jvm.Cond.code ({ cls := "java/lang/Object", name := "<init>", desc := "()V" } : Jvm.MethodName) object_method_1_code (1 : Nat) (Option.none : Option Jvm.ClassFile.FieldType), Jvm.Cond.code ({ cls := "java/lang/String", name := "valueOf", desc := "(C)Ljava/lang/String;" } : Jvm.MethodName) jdk_42_method_139_code (1 : Nat) (Option.some (Jvm.ClassFile.FieldType.object "java/lang/String")), Jvm.Cond.code ({ cls := "java/lang/StringLatin1", name := "canEncode", desc := "(C)Z" } : Jvm.MethodName) jdk_43_method_3_code (1 : Nat) (Option.some Jvm.ClassFile.FieldType.boolean), Jvm.Cond.code ({ cls := "java/lang/StringLatin1", name := "toBytes", desc := "(C)[B" } : Jvm.MethodName) jdk_43_method_46_code (1 : Nat) (Option.some (Jvm.ClassFile.FieldType.array Jvm.ClassFile.FieldType.byte)), Jvm.Cond.code ({ cls := "java/lang/String", name := "<init>", desc := "([BB)V" } : Jvm.MethodName) jdk_42_method_151_code (3 : Nat) (Option.none : Option Jvm.ClassFile.FieldType), Jvm.Cond.code ({ cls := "java/lang/StringUTF16", name := "compress", desc := "([CII)[B" } : Jvm.MethodName) jdk_52_method_16_code (6 : Nat) (Option.some (Jvm.ClassFile.FieldType.array Jvm.ClassFile.FieldType.byte)), Jvm.Cond.code ({ cls := "java/lang/StringUTF16", name := "compress", desc := "([CI[BII)I" } : Jvm.MethodName) jdk_52_method_21_code (7 : Nat) (Option.some Jvm.ClassFile.FieldType.int), Jvm.Cond.code ({ cls := "java/lang/StringUTF16", name := "coderFromArrayLen", desc := "([BI)B" } : Jvm.MethodName) jdk_52_method_15_code (2 : Nat) (Option.some Jvm.ClassFile.FieldType.byte), Jvm.Cond.code ({ cls := "java/lang/StringUTF16", name := "toBytes", desc := "([CII)[B" } : Jvm.MethodName) jdk_52_method_14_code (5 : Nat) (Option.some (Jvm.ClassFile.FieldType.array Jvm.ClassFile.FieldType.byte)), Jvm.Cond.code ({ cls := "java/lang/StringUTF16", name := "newBytesFor", desc := "(I)[B" } : Jvm.MethodName) jdk_52_method_2_code (1 : Nat) (Option.some (Jvm.ClassFile.FieldType.array Jvm.ClassFile.FieldType.byte)), Jvm.Cond.code ({ cls := "java/lang/StringUTF16", name := "newBytesLength", desc := "(I)I" } : Jvm.MethodName) jdk_52_method_3_code (1 : Nat) (Option.some Jvm.ClassFile.FieldType.int), Jvm.Cond.code ({ cls := "java/lang/StringUTF16", name := "putChar", desc := "([BII)V" } : Jvm.MethodName) jdk_52_method_4_code (3 : Nat) (Option.none : Option Jvm.ClassFile.FieldType), Jvm.Cond.code ({ cls := "java/lang/StringUTF16", name := "getChar", desc := "([BI)C" } : Jvm.MethodName) jdk_52_method_5_code (2 : Nat) (Option.some Jvm.ClassFile.FieldType.char), Jvm.Cond.code ({ cls := "com/example/wakati/wakati/TextLengthPinLaw", name := "len", desc := "(I)I" } : Jvm.MethodName) method_2_code (1 : Nat) (Option.some Jvm.ClassFile.FieldType.int), Jvm.Cond.code ({ cls := "java/util/ArrayList", name := "<init>", desc := "()V" } : Jvm.MethodName) jdk_38_method_2_code (1 : Nat) (Option.none : Option Jvm.ClassFile.FieldType), Jvm.Cond.code ({ cls := "java/util/AbstractList", name := "<init>", desc := "()V" } : Jvm.MethodName) jdk_39_method_1_code (1 : Nat) (Option.none : Option Jvm.ClassFile.FieldType), Jvm.Cond.code ({ cls := "java/util/AbstractCollection", name := "<init>", desc := "()V" } : Jvm.MethodName) jdk_22_method_1_code (1 : Nat) (Option.none : Option Jvm.ClassFile.FieldType), Jvm.Cond.code ({ cls := "com/example/wakati/wakati/TextLengthPinLaw", name := "pick", desc := "(ILjava/lang/String;Ljava/lang/String;Ljava/lang/String;Ljava/lang/String;)Ljava/lang/String;" } : Jvm.MethodName) method_3_code (5 : Nat) (Option.some (Jvm.ClassFile.FieldType.object "java/lang/String")), Jvm.Cond.code ({ cls := "com/example/wakati/wakati/Patch", name := "<init>", desc := "(IILjava/lang/String;)V" } : Jvm.MethodName) prog_10_method_1_code (4 : Nat) (Option.none : Option Jvm.ClassFile.FieldType), Jvm.Cond.code ({ cls := "java/util/Objects", name := "requireNonNull", desc := "(Ljava/lang/Object;Ljava/lang/String;)Ljava/lang/Object;" } : Jvm.MethodName) jdk_31_method_11_code (2 : Nat) (Option.some (Jvm.ClassFile.FieldType.object "java/lang/Object")), Jvm.Cond.code ({ cls := "com/example/wakati/wakati/Surrogates", name := "checkPaired", desc := "(Ljava/lang/String;Ljava/lang/String;)V" } : Jvm.MethodName) prog_12_method_2_code (3 : Nat) (Option.none : Option Jvm.ClassFile.FieldType), Jvm.Cond.code ({ cls := "com/example/wakati/wakati/Surrogates", name := "findLone", desc := "(Ljava/lang/String;)I" } : Jvm.MethodName) prog_12_method_3_code (3 : Nat) (Option.some Jvm.ClassFile.FieldType.int), Jvm.Cond.code ({ cls := "java/lang/String", name := "length", desc := "()I" } : Jvm.MethodName) jdk_42_method_54_code (1 : Nat) (Option.some Jvm.ClassFile.FieldType.int), Jvm.Cond.code ({ cls := "java/lang/String", name := "coder", desc := "()B" } : Jvm.MethodName) jdk_42_method_152_code (1 : Nat) (Option.some Jvm.ClassFile.FieldType.byte), Jvm.Cond.code ({ cls := "java/lang/String", name := "codePointCount", desc := "(II)I" } : Jvm.MethodName) jdk_42_method_59_code (3 : Nat) (Option.some Jvm.ClassFile.FieldType.int), Jvm.Cond.code ({ cls := "java/util/Objects", name := "checkFromToIndex", desc := "(III)I" } : Jvm.MethodName) jdk_31_method_18_code (3 : Nat) (Option.some Jvm.ClassFile.FieldType.int), Jvm.Cond.code ({ cls := "jdk/internal/util/Preconditions", name := "checkFromToIndex", desc := "(IIILjava/util/function/BiFunction;)I" } : Jvm.MethodName) jdk_41_method_12_code (4 : Nat) (Option.some Jvm.ClassFile.FieldType.int), Jvm.Cond.code ({ cls := "java/lang/String", name := "isLatin1", desc := "()Z" } : Jvm.MethodName) jdk_42_method_154_code (1 : Nat) (Option.some Jvm.ClassFile.FieldType.boolean), Jvm.Cond.code ({ cls := "java/util/ArrayList", name := "add", desc := "(Ljava/lang/Object;)Z" } : Jvm.MethodName) jdk_38_method_25_code (2 : Nat) (Option.some Jvm.ClassFile.FieldType.boolean), Jvm.Cond.code ({ cls := "java/util/ArrayList", name := "add", desc := "(Ljava/lang/Object;[Ljava/lang/Object;I)V" } : Jvm.MethodName) jdk_38_method_24_code (4 : Nat) (Option.none : Option Jvm.ClassFile.FieldType), Jvm.Cond.code ({ cls := "java/util/ArrayList", name := "grow", desc := "()[Ljava/lang/Object;" } : Jvm.MethodName) jdk_38_method_7_code (1 : Nat) (Option.some (Jvm.ClassFile.FieldType.array (Jvm.ClassFile.FieldType.object "java/lang/Object"))), Jvm.Cond.code ({ cls := "java/util/ArrayList", name := "grow", desc := "(I)[Ljava/lang/Object;" } : Jvm.MethodName) jdk_38_method_6_code (4 : Nat) (Option.some (Jvm.ClassFile.FieldType.array (Jvm.ClassFile.FieldType.object "java/lang/Object"))), Jvm.Cond.code ({ cls := "java/lang/Math", name := "max", desc := "(II)I" } : Jvm.MethodName) jdk_29_method_65_code (2 : Nat) (Option.some Jvm.ClassFile.FieldType.int), Jvm.Cond.code ({ cls := "com/example/wakati/wakati/Text", name := "<init>", desc := "()V" } : Jvm.MethodName) prog_13_method_1_code (1 : Nat) (Option.none : Option Jvm.ClassFile.FieldType), Jvm.Cond.code ({ cls := "com/example/wakati/wakati/Text", name := "length", desc := "()I" } : Jvm.MethodName) prog_13_method_3_code (1 : Nat) (Option.some Jvm.ClassFile.FieldType.int), Jvm.Cond.code ({ cls := "com/example/wakati/wakati/Text", name := "apply", desc := "(Ljava/util/List;)V" } : Jvm.MethodName) prog_13_method_5_code (7 : Nat) (Option.none : Option Jvm.ClassFile.FieldType), Jvm.Cond.code ({ cls := "com/example/wakati/wakati/Text", name := "lengthAfter", desc := "(ILjava/util/List;)I" } : Jvm.MethodName) prog_13_method_4_code (5 : Nat) (Option.some Jvm.ClassFile.FieldType.int), Jvm.Cond.code ({ cls := "java/util/ArrayList", name := "size", desc := "()I" } : Jvm.MethodName) jdk_38_method_8_code (1 : Nat) (Option.some Jvm.ClassFile.FieldType.int), Jvm.Cond.code ({ cls := "java/util/ArrayList", name := "get", desc := "(I)Ljava/lang/Object;" } : Jvm.MethodName) jdk_38_method_20_code (2 : Nat) (Option.some (Jvm.ClassFile.FieldType.object "java/lang/Object")), Jvm.Cond.code ({ cls := "java/util/Objects", name := "checkIndex", desc := "(II)I" } : Jvm.MethodName) jdk_31_method_17_code (2 : Nat) (Option.some Jvm.ClassFile.FieldType.int), Jvm.Cond.code ({ cls := "jdk/internal/util/Preconditions", name := "checkIndex", desc := "(IILjava/util/function/BiFunction;)I" } : Jvm.MethodName) jdk_41_method_11_code (3 : Nat) (Option.some Jvm.ClassFile.FieldType.int), Jvm.Cond.code ({ cls := "java/util/ArrayList", name := "elementData", desc := "(I)Ljava/lang/Object;" } : Jvm.MethodName) jdk_38_method_18_code (2 : Nat) (Option.some (Jvm.ClassFile.FieldType.object "java/lang/Object")), Jvm.Cond.code ({ cls := "com/example/wakati/wakati/Patch", name := "deleteCount", desc := "()I" } : Jvm.MethodName) prog_10_method_3_code (1 : Nat) (Option.some Jvm.ClassFile.FieldType.int), Jvm.Cond.code ({ cls := "com/example/wakati/wakati/Patch", name := "position", desc := "()I" } : Jvm.MethodName) prog_10_method_2_code (1 : Nat) (Option.some Jvm.ClassFile.FieldType.int), Jvm.Cond.code ({ cls := "com/example/wakati/wakati/Patch", name := "insertionLength", desc := "()I" } : Jvm.MethodName) prog_10_method_5_code (1 : Nat) (Option.some Jvm.ClassFile.FieldType.int), Jvm.Cond.code ({ cls := "java/util/ArrayList", name := "iterator", desc := "()Ljava/util/Iterator;" } : Jvm.MethodName) jdk_38_method_55_code (1 : Nat) (Option.some (Jvm.ClassFile.FieldType.object "java/util/Iterator")), Jvm.Cond.code ({ cls := "java/util/ArrayList$Itr", name := "<init>", desc := "(Ljava/util/ArrayList;)V" } : Jvm.MethodName) jdk_49_method_1_code (2 : Nat) (Option.none : Option Jvm.ClassFile.FieldType), Jvm.Cond.code ({ cls := "java/util/ArrayList$Itr", name := "hasNext", desc := "()Z" } : Jvm.MethodName) jdk_49_method_2_code (1 : Nat) (Option.some Jvm.ClassFile.FieldType.boolean), Jvm.Cond.code ({ cls := "java/util/ArrayList$Itr", name := "next", desc := "()Ljava/lang/Object;" } : Jvm.MethodName) jdk_49_method_3_code (3 : Nat) (Option.some (Jvm.ClassFile.FieldType.object "java/lang/Object")), Jvm.Cond.code ({ cls := "java/util/ArrayList$Itr", name := "checkForComodification", desc := "()V" } : Jvm.MethodName) jdk_49_method_6_code (1 : Nat) (Option.none : Option Jvm.ClassFile.FieldType), Jvm.Cond.code ({ cls := "com/example/wakati/wakati/Text", name := "moveGapTo", desc := "(I)V" } : Jvm.MethodName) prog_13_method_7_code (3 : Nat) (Option.none : Option Jvm.ClassFile.FieldType), Jvm.Cond.code ({ cls := "com/example/wakati/wakati/Patch", name := "insertion", desc := "()Ljava/lang/String;" } : Jvm.MethodName) prog_10_method_4_code (1 : Nat) (Option.some (Jvm.ClassFile.FieldType.object "java/lang/String")), Jvm.Cond.code ({ cls := "java/lang/String", name := "charAt", desc := "(I)C" } : Jvm.MethodName) jdk_42_method_56_code (2 : Nat) (Option.some Jvm.ClassFile.FieldType.char), Jvm.Cond.code ({ cls := "java/lang/StringLatin1", name := "charAt", desc := "([BI)C" } : Jvm.MethodName) jdk_43_method_2_code (2 : Nat) (Option.some Jvm.ClassFile.FieldType.char), Jvm.Cond.code ({ cls := "java/lang/String", name := "checkIndex", desc := "(II)V" } : Jvm.MethodName) jdk_42_method_155_code (2 : Nat) (Option.none : Option Jvm.ClassFile.FieldType), Jvm.Cond.code ({ cls := "java/lang/Character", name := "isHighSurrogate", desc := "(C)Z" } : Jvm.MethodName) jdk_89_method_14_code (1 : Nat) (Option.some Jvm.ClassFile.FieldType.boolean), Jvm.Cond.code ({ cls := "java/lang/Character", name := "isSurrogate", desc := "(C)Z" } : Jvm.MethodName) jdk_89_method_16_code (1 : Nat) (Option.some Jvm.ClassFile.FieldType.boolean), Jvm.Cond.code ({ cls := "java/lang/String", name := "codePointAt", desc := "(I)I" } : Jvm.MethodName) jdk_42_method_57_code (3 : Nat) (Option.some Jvm.ClassFile.FieldType.int), Jvm.Cond.code ({ cls := "java/lang/Character", name := "charCount", desc := "(I)I" } : Jvm.MethodName) jdk_89_method_18_code (1 : Nat) (Option.some Jvm.ClassFile.FieldType.int), Jvm.Cond.code ({ cls := "java/lang/StringUTF16", name := "charAt", desc := "([BI)C" } : Jvm.MethodName) jdk_52_method_83_code (2 : Nat) (Option.some Jvm.ClassFile.FieldType.char), Jvm.Cond.code ({ cls := "java/lang/StringUTF16", name := "checkIndex", desc := "(I[B)V" } : Jvm.MethodName) jdk_52_method_91_code (2 : Nat) (Option.none : Option Jvm.ClassFile.FieldType), Jvm.Cond.code ({ cls := "java/lang/StringUTF16", name := "length", desc := "([B)I" } : Jvm.MethodName) jdk_52_method_6_code (1 : Nat) (Option.some Jvm.ClassFile.FieldType.int), Jvm.Cond.code ({ cls := "java/lang/Character", name := "isLowSurrogate", desc := "(C)Z" } : Jvm.MethodName) jdk_89_method_15_code (1 : Nat) (Option.some Jvm.ClassFile.FieldType.boolean), Jvm.Cond.code ({ cls := "java/lang/StringUTF16", name := "codePointCount", desc := "([BII)I" } : Jvm.MethodName) jdk_52_method_12_code (3 : Nat) (Option.some Jvm.ClassFile.FieldType.int), Jvm.Cond.code ({ cls := "java/lang/StringUTF16", name := "codePointCount", desc := "([BIIZ)I" } : Jvm.MethodName) jdk_52_method_11_code (6 : Nat) (Option.some Jvm.ClassFile.FieldType.int), Jvm.Cond.code ({ cls := "java/lang/StringUTF16", name := "codePointAt", desc := "([BII)I" } : Jvm.MethodName) jdk_52_method_8_code (3 : Nat) (Option.some Jvm.ClassFile.FieldType.int), Jvm.Cond.code ({ cls := "java/lang/StringUTF16", name := "codePointAt", desc := "([BIIZ)I" } : Jvm.MethodName) jdk_52_method_7_code (6 : Nat) (Option.some Jvm.ClassFile.FieldType.int), Jvm.Cond.code ({ cls := "java/lang/Character", name := "toCodePoint", desc := "(CC)I" } : Jvm.MethodName) jdk_89_method_19_code (2 : Nat) (Option.some Jvm.ClassFile.FieldType.int), Jvm.Cond.code ({ cls := "com/example/wakati/wakati/Text", name := "grow", desc := "(I)V" } : Jvm.MethodName) prog_13_method_8_code (4 : Nat) (Option.none : Option Jvm.ClassFile.FieldType)]
set_option maxRecDepth 65536 in
theorem codes_eq : words1.filter isCode = codes1 := rfl
theorem w_codes : ∀ c ∈ words1.filter isCode, c.before args0 about1 = true := by
  rw [codes_eq]
  intro c hc
  simp only [codes1, List.mem_cons, List.not_mem_nil, or_false] at hc
  rcases hc with rfl | rfl | rfl | rfl | rfl | rfl | rfl | rfl | rfl | rfl | rfl | rfl | rfl | rfl | rfl | rfl | rfl | rfl | rfl | rfl | rfl | rfl | rfl | rfl | rfl | rfl | rfl | rfl | rfl | rfl | rfl | rfl | rfl | rfl | rfl | rfl | rfl | rfl | rfl | rfl | rfl | rfl | rfl | rfl | rfl | rfl | rfl | rfl | rfl | rfl | rfl | rfl | rfl | rfl | rfl | rfl | rfl | rfl | rfl | rfl | rfl | rfl | rfl | rfl | rfl | rfl | rfl | rfl | rfl | rfl | rfl | rfl
  · exact w_c0
  · exact w_c1
  · exact w_c2
  · exact w_c3
  · exact w_c4
  · exact w_c5
  · exact w_c6
  · exact w_c7
  · exact w_c8
  · exact w_c9
  · exact w_c10
  · exact w_c11
  · exact w_c12
  · exact w_c13
  · exact w_c14
  · exact w_c15
  · exact w_c16
  · exact w_c17
  · exact w_c18
  · exact w_c19
  · exact w_c20
  · exact w_c21
  · exact w_c22
  · exact w_c23
  · exact w_c24
  · exact w_c25
  · exact w_c26
  · exact w_c27
  · exact w_c28
  · exact w_c29
  · exact w_c30
  · exact w_c31
  · exact w_c32
  · exact w_c33
  · exact w_c34
  · exact w_c35
  · exact w_c36
  · exact w_c37
  · exact w_c38
  · exact w_c39
  · exact w_c40
  · exact w_c41
  · exact w_c42
  · exact w_c43
  · exact w_c44
  · exact w_c45
  · exact w_c46
  · exact w_c47
  · exact w_c48
  · exact w_c49
  · exact w_c50
  · exact w_c51
  · exact w_c52
  · exact w_c53
  · exact w_c54
  · exact w_c55
  · exact w_c56
  · exact w_c57
  · exact w_c58
  · exact w_c59
  · exact w_c60
  · exact w_c61
  · exact w_c62
  · exact w_c63
  · exact w_c64
  · exact w_c65
  · exact w_c66
  · exact w_c67
  · exact w_c68
  · exact w_c69
  · exact w_c70
  · exact w_c71
set_option maxRecDepth 65536 in
theorem w_t1 : (words1.take 24).all (fun c => isCode c || c.before args0 about1) = true := by decide +kernel
set_option maxRecDepth 65536 in
theorem w_t2 : ((words1.drop 24).take 24).all (fun c => isCode c || c.before args0 about1) = true := by decide +kernel
set_option maxRecDepth 65536 in
theorem w_t3 : (((words1.drop 24).drop 24).take 24).all (fun c => isCode c || c.before args0 about1) = true := by decide +kernel
set_option maxRecDepth 65536 in
theorem w_t4 : ((((words1.drop 24).drop 24).drop 24).take 24).all (fun c => isCode c || c.before args0 about1) = true := by decide +kernel
set_option maxRecDepth 65536 in
theorem w_t5 : (((((words1.drop 24).drop 24).drop 24).drop 24).take 24).all (fun c => isCode c || c.before args0 about1) = true := by decide +kernel
set_option maxRecDepth 65536 in
theorem w_t6 : ((((((words1.drop 24).drop 24).drop 24).drop 24).drop 24).take 24).all (fun c => isCode c || c.before args0 about1) = true := by decide +kernel
set_option maxRecDepth 65536 in
theorem w_t7 : (((((((words1.drop 24).drop 24).drop 24).drop 24).drop 24).drop 24).take 24).all (fun c => isCode c || c.before args0 about1) = true := by decide +kernel
set_option maxRecDepth 65536 in
theorem w_t8 : ((((((((words1.drop 24).drop 24).drop 24).drop 24).drop 24).drop 24).drop 24).take 24).all (fun c => isCode c || c.before args0 about1) = true := by decide +kernel
set_option maxRecDepth 65536 in
theorem w_t9 : (((((((((words1.drop 24).drop 24).drop 24).drop 24).drop 24).drop 24).drop 24).drop 24).take 24).all (fun c => isCode c || c.before args0 about1) = true := by decide +kernel
set_option maxRecDepth 65536 in
theorem w_t10 : ((((((((((words1.drop 24).drop 24).drop 24).drop 24).drop 24).drop 24).drop 24).drop 24).drop 24).take 24).all (fun c => isCode c || c.before args0 about1) = true := by decide +kernel
set_option maxRecDepth 65536 in
theorem w_t11 : (((((((((((words1.drop 24).drop 24).drop 24).drop 24).drop 24).drop 24).drop 24).drop 24).drop 24).drop 24).take 24).all (fun c => isCode c || c.before args0 about1) = true := by decide +kernel
set_option maxRecDepth 65536 in
theorem w_t12 : ((((((((((((words1.drop 24).drop 24).drop 24).drop 24).drop 24).drop 24).drop 24).drop 24).drop 24).drop 24).drop 24).take 24).all (fun c => isCode c || c.before args0 about1) = true := by decide +kernel
set_option maxRecDepth 65536 in
theorem w_t13 : (((((((((((((words1.drop 24).drop 24).drop 24).drop 24).drop 24).drop 24).drop 24).drop 24).drop 24).drop 24).drop 24).drop 24).take 24).all (fun c => isCode c || c.before args0 about1) = true := by decide +kernel
set_option maxRecDepth 65536 in
theorem w_t14 : ((((((((((((((words1.drop 24).drop 24).drop 24).drop 24).drop 24).drop 24).drop 24).drop 24).drop 24).drop 24).drop 24).drop 24).drop 24).take 24).all (fun c => isCode c || c.before args0 about1) = true := by decide +kernel
set_option maxRecDepth 65536 in
theorem w_t15 : (((((((((((((((words1.drop 24).drop 24).drop 24).drop 24).drop 24).drop 24).drop 24).drop 24).drop 24).drop 24).drop 24).drop 24).drop 24).drop 24).take 24).all (fun c => isCode c || c.before args0 about1) = true := by decide +kernel
set_option maxRecDepth 65536 in
theorem w_t16 : ((((((((((((((((words1.drop 24).drop 24).drop 24).drop 24).drop 24).drop 24).drop 24).drop 24).drop 24).drop 24).drop 24).drop 24).drop 24).drop 24).drop 24).take 24).all (fun c => isCode c || c.before args0 about1) = true := by decide +kernel
set_option maxRecDepth 65536 in
theorem w_t17 : ((((((((((((((((words1.drop 24).drop 24).drop 24).drop 24).drop 24).drop 24).drop 24).drop 24).drop 24).drop 24).drop 24).drop 24).drop 24).drop 24).drop 24).drop 24).all (fun c => isCode c || c.before args0 about1) = true := by decide +kernel
theorem w_tables : (allAtoms (Jvm.Cond.code x code maxLocals ret :: tables_1)).before args0 about1 = true := by
  rw [allAtoms_all]
  show words1.all (fun c => c.before args0 about1) = true
  refine all_split ?_ w_codes
  rw [← List.take_append_drop 24 words1, List.all_append, w_t1, ← List.take_append_drop 24 (words1.drop 24), List.all_append, w_t2, ← List.take_append_drop 24 ((words1.drop 24).drop 24), List.all_append, w_t3, ← List.take_append_drop 24 (((words1.drop 24).drop 24).drop 24), List.all_append, w_t4, ← List.take_append_drop 24 ((((words1.drop 24).drop 24).drop 24).drop 24), List.all_append, w_t5, ← List.take_append_drop 24 (((((words1.drop 24).drop 24).drop 24).drop 24).drop 24), List.all_append, w_t6, ← List.take_append_drop 24 ((((((words1.drop 24).drop 24).drop 24).drop 24).drop 24).drop 24), List.all_append, w_t7, ← List.take_append_drop 24 (((((((words1.drop 24).drop 24).drop 24).drop 24).drop 24).drop 24).drop 24), List.all_append, w_t8, ← List.take_append_drop 24 ((((((((words1.drop 24).drop 24).drop 24).drop 24).drop 24).drop 24).drop 24).drop 24), List.all_append, w_t9, ← List.take_append_drop 24 (((((((((words1.drop 24).drop 24).drop 24).drop 24).drop 24).drop 24).drop 24).drop 24).drop 24), List.all_append, w_t10, ← List.take_append_drop 24 ((((((((((words1.drop 24).drop 24).drop 24).drop 24).drop 24).drop 24).drop 24).drop 24).drop 24).drop 24), List.all_append, w_t11, ← List.take_append_drop 24 (((((((((((words1.drop 24).drop 24).drop 24).drop 24).drop 24).drop 24).drop 24).drop 24).drop 24).drop 24).drop 24), List.all_append, w_t12, ← List.take_append_drop 24 ((((((((((((words1.drop 24).drop 24).drop 24).drop 24).drop 24).drop 24).drop 24).drop 24).drop 24).drop 24).drop 24).drop 24), List.all_append, w_t13, ← List.take_append_drop 24 (((((((((((((words1.drop 24).drop 24).drop 24).drop 24).drop 24).drop 24).drop 24).drop 24).drop 24).drop 24).drop 24).drop 24).drop 24), List.all_append, w_t14, ← List.take_append_drop 24 ((((((((((((((words1.drop 24).drop 24).drop 24).drop 24).drop 24).drop 24).drop 24).drop 24).drop 24).drop 24).drop 24).drop 24).drop 24).drop 24), List.all_append, w_t15, ← List.take_append_drop 24 (((((((((((((((words1.drop 24).drop 24).drop 24).drop 24).drop 24).drop 24).drop 24).drop 24).drop 24).drop 24).drop 24).drop 24).drop 24).drop 24).drop 24), List.all_append, w_t16, w_t17]
  rfl
set_option maxRecDepth 65536 in
theorem w_rest : rest_1_c.before args0 about1 = true := by decide +kernel
set_option maxRecDepth 65536 in
theorem w_case : (Jvm.Cond.and given_1 narrow_1).before args0 about1 = true := by decide +kernel
set_option maxRecDepth 65536 in
theorem w_consts : constsHeld consts_1 about1 := Jvm.Lit.constsHeldB_iff.mp (by decide +kernel)
theorem w_applies : (headSpec (Jvm.Cond.code x code maxLocals ret :: tables_1) room_1).applies x e0.platform about1 = true :=
  (Spec.applies_iff w_frames).mpr ⟨w_running, w_runnable, w_alone, w_named, w_hears, w_ripe, w_room, w_tables⟩
theorem atStart : AtStart classFile x code maxLocals ret World_1 tables_1 room_1 Calls_1 rest_1 Pre_1 launch0 p0 e0 about1 theMethod args0 below0 :=
  ⟨lists_1, trivial, launch0.admits_env _ _ _, launch0.least_env, fairChoices_fair.cas, fairChoices_fair.clock, w_frames, w_args, w_heap, w_applies, ⟨w_consts, trivial⟩, w_rest, w_case⟩
end start1
theorem witness_1 : WitnessClaimed_1 := ⟨start1.p0, start1.e0, start1.about1, start1.theMethod, start1.args0, start1.below0, start1.atStart⟩
end Jvm.Pilot.@@N@@
