import JvmDerived
import JvmDerived.Pilot.@@N@@Statement
import JvmDerived.Pilot.@@N@@Code
set_option linter.unusedVariables false
set_option linter.unusedSimpArgs false
set_option maxRecDepth 65536
set_option maxHeartbeats 40000000
namespace Jvm.Pilot.@@N@@
open Jvm Jvm.ClassFile Sem Op Lib Jvm.Free Jvm.Stand Jvm.LawKit Jvm.RoadKit Bundle Jvm.Pilot.@@N@@.Jvm.D
theorem oW {a0 : Array Value} {Z : State} (hw : ∀ d ∈ tables_1, d.before a0 Z = true) {d : Jvm.Cond} (i : Nat) (h : tables_1[i]? = some d) : d.before a0 Z = true := hw _ (List.mem_of_getElem? h)
theorem oMvM {Z s : State} {a0 args : Array Value} {own host : String} {index : Nat} {x : MethodName} (hZ : Z.Warmed39 s.vm) (w : (Jvm.Cond.methodLinkNest own index x host).before a0 Z = true) : (Jvm.Cond.methodLinkNest own index x host).before args s = true := (Cond.methodLinkNest_wide hZ w :)
abbrev uu : Slot := .unset
abbrev ss : Slot := .second
/-- the run from T with g on top comes to a state of which P holds -/
def oWk (tb : Tables) (e : Env) (below : List Frame) (P : State → Prop) (T : State) (g : JFrame) : Prop := ∃ t, Steps tb e below (T.setTop g) t ∧ P t
section OwnA
variable {tb : Tables} {e : Env} {below : List Frame} {P : State → Prop} {T T' : State} {g g' : JFrame}
theorem oWk.st (f : ∀ t, Steps tb e below (T'.setTop g') t → Steps tb e below (T.setTop g) t) (k : oWk tb e below P T' g') : oWk tb e below P T g := k.elim fun t q => ⟨t, f t q.1, q.2⟩
theorem oWk.to (g' : JFrame) (f : ∀ t, Steps tb e below (T'.setTop g') t → Steps tb e below (T.setTop g) t) (k : oWk tb e below P T' g') : oWk tb e below P T g := k.elim fun t q => ⟨t, f t q.1, q.2⟩
theorem oWk.tr (f : Steps tb e below (T.setTop g) (T'.setTop g')) (k : oWk tb e below P T' g') : oWk tb e below P T g := k.elim fun t q => ⟨t, f.trans q.1, q.2⟩
theorem oWk.cast (q : g = g') (k : oWk tb e below P T g') : oWk tb e below P T g := q ▸ k
end OwnA
/-- one stands as before, in another state that left other places written -/
def oStd {p : Program} {l : Launch} {e : Env} {R : Room} {s : State} {m : MethodId} {args : Array Value} {below : List Frame} {meth : Method} {c : Code} {T : State} {locs : List Loc} {cells slots : Nat} (_ : Stand p l e R s m args below meth c T locs cells slots) (T' : State) (L' : List Loc) : Prop := Stand p l e R s m args below meth c T' L' cells slots
/-- the invocation has ended: a value, the heap, the places written -/
def oDn (s : State) (below : List Frame) (Q : Option Value → Heap → List Loc → Prop) (k n : Nat) (t : State) : Prop := t.status = .running ∧ ∃ v L, Ended t below (.returned v) ∧ Q v t.heap L ∧ FrameEnd s (.returned v) t L k n
/-- a contract: called with these arguments on this heap the body returns and Q holds -/
abbrev oCon (l : Launch) (Z : State) (y : MethodName) (bytes : ByteArray) (maxL : Nat) (ret : Option FieldType) (ws : List Jvm.Cond) (rm : Room) (as' : Array Value) (h0 : Heap) (Q : Option Value → Heap → List Loc → Prop) : Prop :=
  MetFree l y (head1 (Jvm.Cond.code y bytes maxL ret :: ws) rm) (fun a U => a = as' ∧ Z.Warmed39 U.vm ∧ U.heap = h0) (fun _ _ _ _ _ => True) (fun _ U o U' => ∃ v L, o = .returned v ∧ Q v U'.heap L ∧ FrameEnd U o U' L rm.cells rm.slots)
theorem oCon.of {l : Launch} {Z : State} {y : MethodName} {bytes : ByteArray} {maxL : Nat} {ret : Option FieldType} {ws : List Jvm.Cond} {rm : Room} {as' : Array Value} {h0 : Heap} {Q : Option Value → Heap → List Loc → Prop} (hp : plainFor y = true)
    (body : ∀ (p : Program) (e : Env) (s : State) (m : MethodId) (below : List Frame) (meth : Method) (c : Code) (T : State), Stand p l e rm s m as' below meth c T [] 0 0 → p.tables.exec = Jvm.exec → c.code = bytes → c.maxLocals = maxL → s.vm.findClass y.cls = some m.cls → meth.name = y.name → meth.sig.returnType = ret → meth.locks = false → Z.Warmed39 s.vm → T.heap = h0 → oWk p.tables e below (oDn s below Q rm.cells rm.slots) T (entryFrame m as' maxL)) :
    oCon l Z y bytes maxL ret ws rm as' h0 Q := by
  refine MetFree.of_bodySF hp hisR ?_
  intro p e s m args below meth c s₁ Bd hml0 hP hK
  obtain ⟨rfl, hZ, hh⟩ := hP
  have e0 : s₁.heap = h0 := by rw [← hh, Bd.state]; rfl
  obtain ⟨t, h1, h2, v, L, h3, h4, h5⟩ := body p e s m below meth c s₁ (Stand.of_body Bd) Bd.exec Bd.bytes hml0 (findClass_of_methodNamed Bd.named) (name_of_methodNamed Bd.named Bd.method).1 Bd.returns Bd.notSynchronized hZ e0
  exact ⟨t, _, h1, h2, h3, v, L, rfl, h4, h5⟩
section OwnB
variable {p : Program} {l : Launch} {e : Env} {R : Room} {s : State} {m : MethodId} {args : Array Value} {below : List Frame} {meth : Method} {c : Code} {T : State} {locs : List Loc} {cells slots : Nat} {Q : Option Value → Heap → List Loc → Prop} {k n pc : Nat} {Ls : Array Slot}
theorem oRet (X : Stand p l e R s m args below meth c T locs cells slots) (hx : p.tables.exec = Jvm.exec) (hlk : meth.locks = false) {w : Value} {t : FieldType} {i : Instr} {rest : List Value} (hret : meth.sig.returnType = some t) (hn : narrow t w = w)
    (hi : (i = .ireturn ∧ (t = .int ∨ t = .boolean ∨ t = .byte ∨ t = .char ∨ t = .short) ∧ ∃ z, w = .int z) ∨ (i = .lreturn ∧ t = .long ∧ ∃ z, w = .long z) ∨ (i = .dreturn ∧ t = .double ∧ ∃ z, w = .double z) ∨ (i = .freturn ∧ t = .float ∧ ∃ z, w = .float z) ∨ (i = .areturn ∧ t.isReference = true ∧ w.isRef = true))
    (hd : decode c.code pc = .ok (i, 1)) (hQ : Q (some w) T.heap locs) (hk : cells ≤ k) (hs : slots ≤ n) : oWk p.tables e below (oDn s below Q k n) T (mkF m pc Ls (w :: rest)) := by
  obtain ⟨fs, hr, hrun, hended, hW, hsame⟩ := X.leave (v := some w) (fun h => by rw [hret] at h; cases h) hlk
  exact ⟨_, retOut X hx hret hn hi hd hr, hrun, _, _, hended, hQ, ⟨_, rfl⟩, hW, hsame.mono hk hs⟩
theorem oRetI (X : Stand p l e R s m args below meth c T locs cells slots) (hx : p.tables.exec = Jvm.exec) (hlk : meth.locks = false) {z : Int32} {rest : List Value} (hret : meth.sig.returnType = some .int) (hd : decode c.code pc = .ok (.ireturn, 1)) (hQ : Q (some (.int z)) T.heap locs) (hk : cells ≤ k) (hs : slots ≤ n) :
    oWk p.tables e below (oDn s below Q k n) T (mkF m pc Ls (.int z :: rest)) := oRet X hx hlk hret rfl (Or.inl ⟨rfl, Or.inl rfl, _, rfl⟩) hd hQ hk hs
theorem oRetZ (X : Stand p l e R s m args below meth c T locs cells slots) (hx : p.tables.exec = Jvm.exec) (hlk : meth.locks = false) {z : Int32} {rest : List Value} (hret : meth.sig.returnType = some .boolean) (hd : decode c.code pc = .ok (.ireturn, 1)) (hz : z = 0 ∨ z = 1) (hQ : Q (some (.int z)) T.heap locs) (hk : cells ≤ k) (hs : slots ≤ n) :
    oWk p.tables e below (oDn s below Q k n) T (mkF m pc Ls (.int z :: rest)) := oRet X hx hlk hret (by rcases hz with rfl | rfl <;> rfl) (Or.inl ⟨rfl, Or.inr (Or.inl rfl), _, rfl⟩) hd hQ hk hs
theorem oRetN (X : Stand p l e R s m args below meth c T locs cells slots) (hx : p.tables.exec = Jvm.exec) (hlk : meth.locks = false) {z : Int32} {t : FieldType} {rest : List Value} (hret : meth.sig.returnType = some t) (ht : t = .byte ∨ t = .char ∨ t = .short) (hn : narrow t (.int z) = .int z) (hd : decode c.code pc = .ok (.ireturn, 1)) (hQ : Q (some (.int z)) T.heap locs) (hk : cells ≤ k) (hs : slots ≤ n) :
    oWk p.tables e below (oDn s below Q k n) T (mkF m pc Ls (.int z :: rest)) := oRet X hx hlk hret hn (Or.inl ⟨rfl, Or.inr (Or.inr ht), _, rfl⟩) hd hQ hk hs
theorem oRetD (X : Stand p l e R s m args below meth c T locs cells slots) (hx : p.tables.exec = Jvm.exec) (hlk : meth.locks = false) {z : UInt64} {rest : List Value} (hret : meth.sig.returnType = some .double) (hd : decode c.code pc = .ok (.dreturn, 1)) (hQ : Q (some (.double z)) T.heap locs) (hk : cells ≤ k) (hs : slots ≤ n) :
    oWk p.tables e below (oDn s below Q k n) T (mkF m pc Ls (.double z :: rest)) := oRet X hx hlk hret rfl (Or.inr (Or.inr (Or.inl ⟨rfl, rfl, _, rfl⟩))) hd hQ hk hs
theorem oNarR {t : FieldType} {w : Value} (ht : t.isReference = true) (hw : w.isRef = true) : narrow t w = w := by cases t <;> cases w <;> simp_all [narrow, FieldType.isReference, Value.isRef]
theorem oRetA (X : Stand p l e R s m args below meth c T locs cells slots) (hx : p.tables.exec = Jvm.exec) (hlk : meth.locks = false) {w : Value} {t : FieldType} {rest : List Value} (hret : meth.sig.returnType = some t) (ht : t.isReference = true) (hw : w.isRef = true) (hd : decode c.code pc = .ok (.areturn, 1)) (hQ : Q (some w) T.heap locs) (hk : cells ≤ k) (hs : slots ≤ n) :
    oWk p.tables e below (oDn s below Q k n) T (mkF m pc Ls (w :: rest)) := oRet X hx hlk hret (oNarR ht hw) (Or.inr (Or.inr (Or.inr (Or.inr ⟨rfl, ht, hw⟩)))) hd hQ hk hs
theorem oRetV (X : Stand p l e R s m args below meth c T locs cells slots) (hx : p.tables.exec = Jvm.exec) (hlk : meth.locks = false) (hret : meth.sig.returnType = none) (hd : decode c.code pc = .ok (.return_, 1)) (hQ : Q none T.heap locs) (hk : cells ≤ k) (hs : slots ≤ n) :
    oWk p.tables e below (oDn s below Q k n) T (mkF m pc Ls []) := by
  obtain ⟨fs, hr, hrun, hended, hW, hsame⟩ := X.leave (v := none) (fun _ => rfl) hlk
  exact ⟨_, X.returnOut hx hret hd hr, hrun, _, _, hended, hQ, ⟨_, rfl⟩, hW, hsame.mono hk hs⟩
end OwnB
/-- the heap is kept but for ws and new cells; the places written lie there -/
def oKp (h0 h : Heap) (ws : List Addr) (L : List Loc) : Prop := Keep h0 h ws ∧ ∀ y ∈ L, y.base ∈ ws ∨ h0.size ≤ y.base
section OwnC
variable {Z : State} {h0 h h' : Heap} {ws ws' : List Addr} {L L' : List Loc} {a : Addr} {sl : Nat} {v : Value}
theorem oKp.nil (h : Heap) (ws : List Addr) : oKp h h ws [] := ⟨Keep.refl _ _, fun _ q => nomatch q⟩
theorem oKp.ext (K : oKp h0 h ws L) (E : Ext h h') : oKp h0 h' ws L := ⟨K.1.ext E, K.2⟩
theorem oKp.wr (K : oKp h0 h ws L) (W : Wr h h' a sl v) (q : a ∈ ws ∨ h0.size ≤ a) : oKp h0 h' ws (L ++ [⟨a, sl⟩]) := ⟨K.1.wr W q, fun y hy => (List.mem_append.mp hy).elim (K.2 y) fun hy => by cases List.mem_singleton.mp hy; exact q⟩
theorem oKp.call (K : oKp h0 h ws L) (K' : oKp h h' ws' L') (q : ∀ x ∈ ws', x ∈ ws ∨ h0.size ≤ x) : oKp h0 h' ws (L ++ L') := ⟨K.1.trans K'.1 q, fun y hy => (List.mem_append.mp hy).elim (K.2 y) fun hy => (K'.2 y hy).elim (q _) fun z => Or.inr (Nat.le_trans K.1.1 z)⟩
theorem oKp.le (K : oKp h0 h ws L) : h0.size ≤ h.size := K.1.1
theorem oKp.old (K : oKp h0 h ws L) (O : Ext Z.heap h0) (q : ∀ x ∈ ws, Z.heap.size ≤ x) : Ext Z.heap h := ⟨Nat.le_trans O.1 K.1.1, fun x c hc => K.1.2.1 x c (O.2 x c hc) fun hx => absurd (Array.getElem?_eq_some_iff.mp hc).1 (Nat.not_lt.mpr (q x hx))⟩
theorem oKp.fr (K : oKp h0 h [] L) : Fr h0.size L := fun y hy => (K.2 y hy).elim (fun q => nomatch q) id
theorem oExtRefl (h : Heap) : Ext h h := ⟨Nat.le_refl _, fun _ _ q => q⟩
theorem Ext.keep0 (E : Ext h h') : Keep h h' [] := ⟨E.1, fun x c q _ => E.2 x c q, fun x c q => ⟨c, E.2 x c q, rfl, rfl, rfl⟩⟩
end OwnC
/-- a truth as an int -/
def oBi (P : Prop) [Decidable P] : Int32 := if P then 1 else 0
theorem oBi_t {P : Prop} [Decidable P] (h : P) : oBi P = 1 := if_pos h
theorem oBi_f {P : Prop} [Decidable P] (h : ¬ P) : oBi P = 0 := if_neg h
theorem oBi_ne {P : Prop} [Decidable P] (h : P) : ¬ oBi P = 0 := by rw [oBi_t h]; decide
theorem oBi_01 (P : Prop) [Decidable P] : oBi P = 0 ∨ oBi P = 1 := by by_cases h : P; exact Or.inr (if_pos h); exact Or.inl (if_neg h)
theorem oBi_0 {P : Prop} [Decidable P] (h : oBi P = 0) : ¬ P := fun q => oBi_ne q h
theorem oBi_1 {P : Prop} [Decidable P] (h : ¬ oBi P = 0) : P := Decidable.byContradiction fun q => h (oBi_f q)
section OwnD
variable {args : Array Value} {Z : State} {t u : Term} {C n d K : String} {a b : Addr} {k : Int32}
theorem oFldR (ht : t.eval args Z none [] Z = some (.ref a)) (hu : u.eval args Z none [] Z = some (.ref b)) (h : (Jvm.Cond.eq (.field t C n d) u).value args Z none Z [] = some true) : Fld Z Z.heap a C n d (.ref b) := by
  obtain ⟨x, y, e1, e2, k1, k2⟩ := cmp_v (Or.inl h)
  cases hu.symm.trans e2
  have hx : x.isRef = true := k2.2
  have q := gotT (eq_R e1 e2 hx rfl) h
  subst q
  exact Fld.start ((fld_at ht).symm.trans e1)
theorem oFldI (ht : t.eval args Z none [] Z = some (.ref a)) (h : (Jvm.Cond.eq (.field t C n d) (.int k)).value args Z none Z [] = some true) : Fld Z Z.heap a C n d (.int k) := by
  obtain ⟨x, y, e1, e2, k1, k2⟩ := cmp_v (Or.inl h)
  cases (Option.some.inj e2 : Value.int k = y)
  obtain ⟨z, rfl⟩ := (k2 : ∃ z, x = .int z)
  have q : z = k := by
    have h' := h
    simp only [Cond.value, e1, e2] at h'
    simpa using h'
  subst q
  exact Fld.start ((fld_at ht).symm.trans e1)
theorem oFldX (ht : t.eval args Z none [] Z = some (.ref a)) (h : (Jvm.Cond.exactly (.field t C n d) K).value args Z none Z [] = some true) : ∃ b, (Term.field t C n d).eval args Z none [] Z = some (.ref b) ∧ Fld Z Z.heap a C n d (.ref b) ∧ Exa Z Z.heap b K := by
  obtain ⟨b, e1⟩ := exa_v h
  exact ⟨b, e1, Fld.start ((fld_at ht).symm.trans e1), Exa.start e1 h⟩
theorem oNe32 {x y : Int32} (h : ¬ x = y) : x.toInt ≠ y.toInt := fun q => h (Int32.toInt_inj.mp q)
end OwnD
section OwnE
variable {Z : State} {a0 : Array Value} {C O K : String} {n : Nat} {h h' : Heap} {a : Addr} {ws : List Addr}
theorem oNSroot (wo : (Jvm.Cond.noSuperclass O).before a0 Z = true) (wk : (Jvm.Cond.instantiable K n).before a0 Z = true) (h2 : O ≠ K) : NS Z O K := by
  obtain ⟨t, kt, g1, -⟩ := Cond.instantiable_spec wk
  obtain ⟨c, k, a1, a2, a3, -, -⟩ := Cond.noSuperclass_spec wo
  have ne := ids_ne a1 g1 h2
  refine ⟨c, t, a1, g1, fun fuel => ?_⟩
  cases fuel with
  | zero => rfl
  | succ f => simp [Vm.isSubclassAux, ne, a2, a3]
theorem oNSno (w : (Jvm.Cond.superclass C O).before a0 Z = true) (wk : (Jvm.Cond.instantiable K n).before a0 Z = true) (N : NS Z C K) (h1 : C ≠ K) : ∃ c t, Z.vm.findClass C = some c ∧ Z.vm.findClass K = some t ∧ Z.vm.assignable c t = false := by
  obtain ⟨t, kt, g1, g2, g3, g4, -⟩ := Cond.instantiable_spec wk
  obtain ⟨c, t', b0, b1, b2⟩ := N
  cases g1.symm.trans b1
  obtain ⟨p, k, kp, e1, e2, e3, e4, e5, -, e7⟩ := Cond.superclass_spec b0 w
  have ne := ids_ne b0 g1 h1
  have gi : kt.isInterface = false := by simp only [Bool.or_eq_false_iff] at g4; exact g4.1
  refine ⟨c, t, b0, g1, ?_⟩
  show Z.vm.assignableAux (255 + 1) c t = false
  simp [Vm.assignableAux, ne, e2, g2, e5, g3, gi, Vm.isSubclass, b2]
theorem oNotInst (w : (Jvm.Cond.superclass C O).before a0 Z = true) (wo : (Jvm.Cond.noSuperclass O).before a0 Z = true) (wk : (Jvm.Cond.instantiable K n).before a0 Z = true) (h1 : C ≠ K) (h2 : O ≠ K) : ∃ c t, Z.vm.findClass C = some c ∧ Z.vm.findClass K = some t ∧ Z.vm.assignable c t = false :=
  oNSno w wk (NS.step w (oNSroot wo wk h2) h1) h1
theorem oInsKeep {b : Bool} (F : Ins Z h a K b) (H : Keep h h' ws) : Ins Z h' a K b := by
  obtain ⟨cell, cT, h1, h2, h3⟩ := F
  obtain ⟨c', e1, e2, e3, -⟩ := H.2.2 _ _ h1
  exact ⟨c', cT, e1, h2, by rw [e2, e3]; exact h3⟩
end OwnE
theorem oNot0 {args : Array Value} {Z : State} {t : Term} {x : Int32} (h : t.eval args Z none [] Z = some (.int x)) (hn : (Jvm.Cond.not (.eq t (.int 0))).value args Z none Z [] = some true) : ¬ x = (0 : Int32) := fun q => by
  subst q
  have e : (Jvm.Cond.eq t (.int 0)).value args Z none Z [] = some true := eq_i h (Term.int_eval 0) rfl
  simp [Cond.value] at hn e
  rw [e] at hn
  simp at hn
theorem oFldD {args : Array Value} {Z : State} {t : Term} {C n d : String} {a : Addr} {k : Int64} (ht : t.eval args Z none [] Z = some (.ref a)) (h : (Jvm.Cond.eq (.field t C n d) (.op1 .bitsD (.long k))).value args Z none Z [] = some true) : Fld Z Z.heap a C n d (.double k.toUInt64) := by
  obtain ⟨x, y, e1, e2, k1, k2⟩ := cmp_v (Or.inl h)
  have e3 : (Term.op1 .bitsD (.long k)).eval args Z none [] Z = some (.double k.toUInt64) := rfl
  cases e3.symm.trans e2
  obtain ⟨z, rfl⟩ := (k2 : ∃ z, x = .double z)
  have q : z = k.toUInt64 := by
    have h' := h
    simp only [Cond.value, e1, e2] at h'
    simpa using h'
  subst q
  exact Fld.start ((fld_at ht).symm.trans e1)
section OwnF
variable {p : Program} {l : Launch} {e : Env} {R : Room} {s : State} {m : MethodId} {args : Array Value} {below : List Frame} {meth : Method} {c : Code} {T : State} {locs : List Loc} {cells slots : Nat} {Z : State} {a0 : Array Value} {h : Heap} {own C : String} {index : Nat} {a mr : Addr}
/-- the Class object of C has been made: mr -/
def oMir (Z : State) (C : String) (mr : Addr) : Prop := ∃ (c : ClassId) (k : Class), Z.vm.findClass C = some c ∧ Z.vm.classes[c]? = some k ∧ k.mirror = some mr
abbrev oGc : MethodName := ⟨"java/lang/Object", "getClass", "()Ljava/lang/Class;"⟩
theorem oGcls (X : Stand p l e R s m args below meth c T locs cells slots) (hx : p.tables.exec = Jvm.exec) (hZ : Z.Warmed39 s.vm) (hown : s.vm.findClass own = some m.cls) (w1 : (Jvm.Cond.methodLink own index oGc).before a0 Z = true) (w2 : (Jvm.Cond.declares oGc).before a0 Z = true) (w4 : (Jvm.Cond.selects C oGc oGc).before a0 Z = true) (w5 : (Jvm.Cond.instanceMethod oGc).before a0 Z = true) (w6 : (Jvm.Cond.native oGc).before a0 Z = true) (eT : T.heap = h) (E : Exa Z h a C) (M : oMir Z C mr)
    {g : JFrame} (hg : g.method = m) (hsize : g.locals.size = c.maxLocals) {rest : List Value} (hs : g.stack = .ref a :: rest) (hd : decode c.code g.pc = .ok (.invokevirtual index, 3)) (hf : 1 ≤ R.frames) {W : Nat} (hW : 2 * g.monitorRoom + (rest.map fun v => v.category).sum ≤ W) (hl : W + (nativeFrameWords "java/lang/Object" "getClass" 1 + 11) ≤ R.locals) :
    ∃ T', Stand p l e R s m args below meth c T' locs cells slots ∧ T'.heap = h ∧ ∀ target, Steps p.tables e below (T'.setTop { g with pc := g.pc + 3, stack := .ref mr :: rest }) target → Steps p.tables e below (T.setTop g) target := by
  obtain ⟨cB, kB, i1, i2, i3⟩ := isOf hZ eT E
  obtain ⟨cc, kc, m1, m2, m3⟩ := M
  have i0 := i1
  rw [hZ.alike.findClass] at i1
  cases i1.symm.trans m1
  obtain ⟨k', q, ek⟩ := hZ.alike.2.2 _ _ m2
  obtain ⟨vm', X', st⟩ := X.getClassOf hx hown (mvT hZ w1) (mvT hZ w2) (notFace_of_selects (args := #[]) (mvT hZ w4)) (mvT hZ w4) (mvT hZ w5) (mvT hZ w6) i0 i3 q (by rw [ek]; exact m3) hg hsize hs hd hf (by omega)
  exact ⟨_, X', eT, st⟩
theorem oLdcM (X : Stand p l e R s m args below meth c T locs cells slots) (hx : p.tables.exec = Jvm.exec) (hZ : Z.Warmed39 s.vm) (hown : s.vm.findClass own = some m.cls) (w : (Jvm.Cond.classLink own index C).before a0 Z = true) (eT : T.heap = h) (M : oMir Z C mr)
    {g : JFrame} (hg : g.method = m) (hd : decode c.code g.pc = .ok (.ldc index, 2)) : ∃ T', Stand p l e R s m args below meth c T' locs cells slots ∧ T'.heap = h ∧ ∀ target, Steps p.tables e below (T'.setTop { g with pc := g.pc + 2, stack := .ref mr :: g.stack }) target → Steps p.tables e below (T.setTop g) target := by
  obtain ⟨cc, kc, m1, m2, m3⟩ := M
  obtain ⟨k', q, ek⟩ := hZ.alike.2.2 _ _ m2
  have f1 : s.vm.findClass C = some cc := by rw [hZ.alike.findClass]; exact m1
  have f2 : k'.mirror = some mr := by rw [ek]; exact m3
  obtain ⟨vm', X', st⟩ := X.ldcMirror hx hown (mvT hZ w) (a := mr) (by simp [Term.eval, f1, q, f2]) hg hd
  exact ⟨_, X', eT, st⟩
end OwnF
theorem oArr0 {args : Array Value} {Z : State} {t : Term} {a : Addr} {ty : FieldType} {dv : Value} (hf : Fit Z) (ev : t.eval args Z none [] Z = some (.ref a)) (h1 : (Jvm.Cond.arrayOf t ty).value args Z none Z [] = some true) (h2 : (Jvm.Cond.eq (.length t) (.int 0)).value args Z none Z [] = some true) : ∃ k, Arv Z Z.heap a k ty 0 [] dv := by
  obtain ⟨cl, A⟩ := Arr.start ev h1
  have ha : Z.arrayAt? a = some cl := Arr.fin (Vm.Alike.refl _) A
  have hlt : cl.slots.size < 2 ^ 31 := by
    apply Decidable.byContradiction
    intro q
    have e : (Term.length t).eval args Z none [] Z = none := by
      cases hv : (Term.length t).eval args Z none [] Z with
      | none => rfl
      | some y =>
        simp only [Term.eval, Option.bind_eq_bind] at hv
        rw [ev] at hv
        simp [ha, q] at hv
    simp [Cond.value, e] at h2
  have e : (Term.length t).eval args Z none [] Z = some (.int cl.slots.size.toInt32) := len_f ev ha hlt
  have z : cl.slots.size.toInt32 = 0 := by
    have h' := h2
    simp only [Cond.value, e, Term.int_eval] at h'
    simpa using h'
  have z' : cl.slots.size = 0 := by
    have := len_toInt hlt
    rw [z] at this
    have r : (0 : Int32).toInt = 0 := by decide
    omega
  exact ⟨_, Arv.start hf A hlt z (by decide) rfl trivial⟩
theorem oNar01 {z : Int32} (hz : z = 0 ∨ z = 1) : narrow .boolean (.int z) = .int z := by rcases hz with rfl | rfl <;> rfl
theorem oFitC {x : Int32} (h : 0 ≤ x.toInt ∧ x.toInt < 256) : fits .char (.int x) = true := by
  have e : x.toUInt32.toUInt16.toUInt32.toInt32 = x := by
    have a := c_i2c x
    apply Int32.toInt_inj.mp
    omega
  have q := fits_nar_char x
  have r : nar .char x = x := e
  rw [r] at q; exact q
section OwnH
variable {p : Program} {l : Launch} {e : Env} {R : Room} {s : State} {m : MethodId} {args : Array Value} {below : List Frame} {meth : Method} {c : Code} {T : State} {locs : List Loc} {cells slots : Nat} {Z : State} {a0 : Array Value} {EL : List (String × Nat)} {h h' h0 : Heap} {vm : Vm} {ws : List Addr} {a : Addr} {sl : Nat} {v : Value}
/-- what is known of the tables since the start: no pair of the intern table is old; the constants held still hold their texts -/
def oB (Z : State) (EL : List (String × Nat)) (s : State) (h0 : Heap) (vm : Vm) (h : Heap) : Prop := (∃ k0, s.Since vm k0 ∧ k0 ≤ h.size) ∧ CHr Z EL s.vm h0 vm h
theorem oB.ext (B : oB Z EL s h0 vm h) (E : Ext h h') : oB Z EL s h0 vm h' := ⟨B.1.imp fun _ q => ⟨q.1, Nat.le_trans q.2 E.1⟩, B.2.trans (CHr.ext E B.2.1)⟩
theorem oB.new {o : Addr} (B : oB Z EL s h0 vm h) (q : h.size ≤ o) : Safe Z EL vm h o := Safe.new q
theorem oB.wr (B : oB Z EL s h0 vm h) (W : Wr h h' a sl v) (S : Safe Z EL vm h a) : oB Z EL s h0 vm h' := ⟨B.1.imp fun _ q => ⟨q.1, by rw [W.size]; exact q.2⟩, B.2.trans (CHr.wr W S B.2.1)⟩
theorem oB.keep (B : oB Z EL s h0 vm h) (K : Keep h h' ws) (S : ∀ x ∈ ws, Safe Z EL vm h x) : oB Z EL s h0 vm h' := ⟨B.1.imp fun _ q => ⟨q.1, Nat.le_trans q.2 K.1⟩, B.2.trans (CHr.keep K S B.2.1)⟩
def oDnH (Z : State) (EL : List (String × Nat)) (s : State) (h0 : Heap) (below : List Frame) (Q : Option Value → Heap → List Loc → Prop) (k n : Nat) (t : State) : Prop := t.status = .running ∧ ∃ v L, Ended t below (.returned v) ∧ Q v t.heap L ∧ CHr Z EL s.vm h0 t.vm t.heap ∧ ReturnedEndW s (.returned v) t L k n
/-- a contract of a body that may load String constants; sf: objects that no constant's text lies in -/
abbrev oConH (l : Launch) (Z : State) (EL : List (String × Nat)) (y : MethodName) (bytes : ByteArray) (maxL : Nat) (ret : Option FieldType) (ws : List Jvm.Cond) (rm : Room) (as' : Array Value) (h0 : Heap) (sf : List Addr) (Q : Option Value → Heap → List Loc → Prop) : Prop :=
  MetFree l y (head1 (Jvm.Cond.code y bytes maxL ret :: ws) rm) (fun a U => a = as' ∧ Z.Warmed39 U.vm ∧ U.heap = h0 ∧ CHv Z EL U.vm h0 ∧ ∀ x ∈ sf, Safe Z EL U.vm h0 x) (fun _ _ _ _ _ => True) (fun _ U o U' => ∃ v L, o = .returned v ∧ Q v U'.heap L ∧ CHr Z EL U.vm U.heap U'.vm U'.heap ∧ ReturnedEndW U o U' L rm.cells rm.slots)
theorem oConH.of {l : Launch} {Z : State} {EL : List (String × Nat)} {y : MethodName} {bytes : ByteArray} {maxL : Nat} {ret : Option FieldType} {ws : List Jvm.Cond} {rm : Room} {as' : Array Value} {h0 : Heap} {sf : List Addr} {Q : Option Value → Heap → List Loc → Prop} (hp : plainFor y = true)
    (body : ∀ (p : Program) (e : Env) (s : State) (m : MethodId) (below : List Frame) (meth : Method) (c : Code) (T : State) (vm : Vm), Stand p l e rm (s.setVm vm) m as' below meth c T [] 0 0 → p.tables.exec = Jvm.exec → c.code = bytes → c.maxLocals = maxL → (s.setVm vm).vm.findClass y.cls = some m.cls → meth.name = y.name → meth.sig.returnType = ret → meth.locks = false → Z.Warmed39 (s.setVm vm).vm → T.heap = h0 → oB Z EL s h0 vm h0 → (∀ x ∈ sf, Safe Z EL vm h0 x) → oWk p.tables e below (oDnH Z EL s h0 below Q rm.cells rm.slots) T (entryFrame m as' maxL)) :
    oConH l Z EL y bytes maxL ret ws rm as' h0 sf Q := by
  refine MetFree.of_bodySF hp hisR ?_
  intro p e s m args below meth c s₁ Bd hml0 hP hK
  obtain ⟨rfl, hZ, hh, hC, hs⟩ := hP
  have e0 : s₁.heap = h0 := by rw [← hh, Bd.state]; rfl
  obtain ⟨t, h1, h2, v, L, h3, h4, h5, h6⟩ := body p e s m below meth c s₁ s.vm (Stand.of_body Bd) Bd.exec Bd.bytes hml0 (findClass_of_methodNamed Bd.named) (name_of_methodNamed Bd.named Bd.method).1 Bd.returns Bd.notSynchronized hZ e0 ⟨⟨h0.size, (State.WarmedH.refl s).since _, Nat.le_refl _⟩, CHr.refl hC⟩ hs
  exact ⟨t, _, h1, h2, h3, v, L, rfl, h4, by rw [hh]; exact h5, h6⟩
section Rets
variable {Q : Option Value → Heap → List Loc → Prop} {k n pc : Nat} {Ls : Array Slot}
theorem oRetH (X : Stand p l e R (s.setVm vm) m args below meth c T locs cells slots) (hx : p.tables.exec = Jvm.exec) (hlk : meth.locks = false) (hZ : Z.Warmed39 (s.setVm vm).vm) (hEL : EW Z a0 EL) (e0 : T.heap = h) (B : oB Z EL s h0 vm h) {w : Value} {t : FieldType} {i : Instr} {rest : List Value} (hret : meth.sig.returnType = some t) (hn : narrow t w = w)
    (hi : (i = .ireturn ∧ (t = .int ∨ t = .boolean ∨ t = .byte ∨ t = .char ∨ t = .short) ∧ ∃ z, w = .int z) ∨ (i = .lreturn ∧ t = .long ∧ ∃ z, w = .long z) ∨ (i = .dreturn ∧ t = .double ∧ ∃ z, w = .double z) ∨ (i = .freturn ∧ t = .float ∧ ∃ z, w = .float z) ∨ (i = .areturn ∧ t.isReference = true ∧ w.isRef = true))
    (hd : decode c.code pc = .ok (i, 1)) (hQ : Q (some w) T.heap locs) (hk : cells ≤ k) (hs : slots ≤ n) : oWk p.tables e below (oDnH Z EL s h0 below Q k n) T (mkF m pc Ls (w :: rest)) := by
  obtain ⟨⟨k0, hS, hk0⟩, C⟩ := B
  obtain ⟨fs, hr, hrun, hended, hW⟩ := X.leaveW hS (by rw [e0]; exact hk0) (v := some w) (fun h => by rw [hret] at h; cases h) hlk
  have C2 := C.trans (CHv.at X hZ hEL C.1)
  refine ⟨_, retOut X hx hret hn hi hd hr, hrun, _, _, hended, hQ, ?_, hW.1, hW.2.1, hW.2.2.1, hW.2.2.2.mono hk hs⟩
  show CHr Z EL s.vm h0 T.vm T.heap
  rw [e0]; exact C2
theorem oRetHV (X : Stand p l e R (s.setVm vm) m args below meth c T locs cells slots) (hx : p.tables.exec = Jvm.exec) (hlk : meth.locks = false) (hZ : Z.Warmed39 (s.setVm vm).vm) (hEL : EW Z a0 EL) (e0 : T.heap = h) (B : oB Z EL s h0 vm h) (hret : meth.sig.returnType = none) (hd : decode c.code pc = .ok (.return_, 1)) (hQ : Q none T.heap locs) (hk : cells ≤ k) (hs : slots ≤ n) :
    oWk p.tables e below (oDnH Z EL s h0 below Q k n) T (mkF m pc Ls []) := by
  obtain ⟨⟨k0, hS, hk0⟩, C⟩ := B
  obtain ⟨fs, hr, hrun, hended, hW⟩ := X.leaveW hS (by rw [e0]; exact hk0) (v := none) (fun _ => rfl) hlk
  have C2 := C.trans (CHv.at X hZ hEL C.1)
  refine ⟨_, X.returnOut hx hret hd hr, hrun, _, _, hended, hQ, ?_, hW.1, hW.2.1, hW.2.2.1, hW.2.2.2.mono hk hs⟩
  show CHr Z EL s.vm h0 T.vm T.heap
  rw [e0]; exact C2
end Rets
/-- a callee that may load String constants, by its contract -/
theorem oBackH {y : MethodName} {bytes : ByteArray} {maxL : Nat} {ret : Option FieldType} {rm : Room} {len W : Nat} {as' : Array Value} {Q : Option Value → Heap → List Loc → Prop} {sf : List Addr}
    (hM : oConH l Z EL y bytes maxL ret [] rm as' h sf Q) (hZ : Z.Warmed39 (s.setVm vm).vm) (wc : (Jvm.Cond.code y bytes maxL ret).before a0 Z = true) (wz : (Jvm.Cond.initialized y.cls).before a0 Z = true) (hf : rm.frames + 1 ≤ R.frames) (hl : W + (maxL + 11) + rm.locals ≤ R.locals) (hEL : EW Z a0 EL) (H : CHv Z EL vm h) (hs : ∀ x ∈ sf, x < h.size ∧ Safe Z EL vm h x) :
    BackS l R p e below (s.setVm vm) args y len W (fun A a => a = as' ∧ A.U.heap = h ∧ A.cells + rm.cells ≤ R.cells ∧ A.slots + rm.slots ≤ R.slots)
      (fun A _ v B => ∃ L, Q v B.U.heap L ∧ B.locs = A.locs ++ L ∧ B.cells = A.cells + rm.cells ∧ B.slots = A.slots + rm.slots ∧ CHr Z EL vm h B.U.vm B.U.heap) := by
  refine BackS.of_freeW (bytes := bytes) (maxL := maxL) (ret := ret) (E := fun _ first o t L k n => k = rm.cells ∧ n = rm.slots ∧ (∃ v, o = .returned v ∧ Q v t.heap L) ∧ CHr Z EL first.vm first.heap t.vm t.heap) hM hf hl ?_ ?_ (fun _ _ _ _ _ _ _ _ _ => trivial) ?_ ?_
  · intro m meth c A a Y hp
    have hU : Z.Warmed39 A.U.vm := wtrans (s := s.setVm vm) hZ Y.warmed
    exact ⟨by show (Cond.and _ .tt).before a A.U = true; rw [Cond.before_and, mv hU wc]; rfl, mv hU wc, mv hU wz, hp.2.2.1, hp.2.2.2⟩
  · intro m meth c A a g mk Y hp
    have D := CHv.at Y hZ hEL H
    exact ⟨hp.1, wtrans (s := s.setVm vm) hZ Y.warmed, hp.2.1, D.1, fun x hx => D.safe (hs x hx).1 (hs x hx).2⟩
  · rintro _ _ _ _ ⟨v, L, h1, h2, h3, h4⟩
    exact ⟨L, _, _, h4, rfl, rfl, ⟨v, h1, h2⟩, h3⟩
  · rintro m meth c A a g mk v t L k n Y hp _ _ ⟨e1, e2, ⟨v', e3, e4⟩, e5⟩
    cases e3; subst e1 e2
    refine ⟨L, e4, rfl, rfl, rfl, (CHv.at Y hZ hEL H).trans ?_⟩
    rw [← hp.2.1]; exact e5
/-- the tables behind such a call -/
theorem oB.call {U : State} (B : oB Z EL s h0 vm h) (hT : T.heap = h) (h2 : (s.setVm vm).Since U.vm U.heap.size) (g : T.heap.size ≤ U.heap.size) (C : CHr Z EL vm h U.vm U.heap) (e1 : U.heap = h') : oB Z EL s h0 U.vm h' := by
  subst e1
  obtain ⟨⟨k0, hS, hk0⟩, D⟩ := B
  exact ⟨⟨_, foldS (T := T) hS (by rw [hT]; exact hk0) h2 g, Nat.le_refl _⟩, D.trans C⟩
theorem oWide {U : State} {own : String} (hZ : Z.Warmed39 (s.setVm vm).vm) (hown : (s.setVm vm).vm.findClass own = some m.cls) (h2 : (s.setVm vm).Since U.vm U.heap.size) : Z.Warmed39 (s.setVm U.vm).vm ∧ (s.setVm U.vm).vm.findClass own = some m.cls :=
  ⟨State.Warmed39.trans (t := s.setVm vm) hZ h2.1, by show U.vm.findClass own = _; rw [h2.1.alike.findClass]; exact hown⟩
/-- ldc of a String constant, opaque -/
theorem oLdcO {own text : String} {index : Nat} (X : Stand p l e R (s.setVm vm) m args below meth c T locs cells slots) (hx : p.tables.exec = Jvm.exec) (hZ : Z.Warmed39 (s.setVm vm).vm) (hown : (s.setVm vm).vm.findClass own = some m.cls) (w : (Jvm.Cond.stringLink own index text).before a0 Z = true) (wS : ∀ a ∈ Bundle.stringAtoms, a.before a0 Z = true) (eT : T.heap = h) (hEL : EW Z a0 EL) (B : oB Z EL s h0 vm h)
    {g : JFrame} (hg : g.method = m) (hd : decode c.code g.pc = .ok (.ldc index, 2)) {n : Nat} (hn : 4 * text.toList.length ≤ n) (hbig : n ≤ 536870912) (hc : cells + 2 ≤ R.cells) (hl' : slots + (n + 4) ≤ R.slots) :
    ∃ (a : Addr) (T' : State) (h' : Heap), Stand p l e R (s.setVm T'.vm) m args below meth c T' locs (cells + 2) (slots + (n + 4)) ∧ T'.heap = h' ∧ Ext h h' ∧ Z.Warmed39 (s.setVm T'.vm).vm ∧ (s.setVm T'.vm).vm.findClass own = some m.cls ∧ oB Z EL s h0 T'.vm h' ∧ CHr Z EL vm h T'.vm h' ∧
      ∀ target, Steps p.tables e below (T'.setTop { g with pc := g.pc + 2, stack := .ref a :: g.stack }) target → Steps p.tables e below (T.setTop g) target := by
  obtain ⟨⟨k0, hS, hk0⟩, C⟩ := B
  obtain ⟨a, T', h', k1, X', e1, E, hS', hk1, hZ', hown', C', -, st⟩ := ldcOH X hx hZ hown w wS eT hS hk0 hEL C.1 hg hd hn hbig hc hl'
  exact ⟨a, T', h', X', e1, E, hZ', hown', ⟨⟨k1, hS', hk1⟩, C.trans C'⟩, C', st⟩
/-- ldc of a String constant of EL, read -/
theorem oLdcR {own text : String} {index : Nat} (X : Stand p l e R (s.setVm vm) m args below meth c T locs cells slots) (hx : p.tables.exec = Jvm.exec) (hZ : Z.Warmed39 (s.setVm vm).vm) (hown : (s.setVm vm).vm.findClass own = some m.cls) (w : (Jvm.Cond.stringLink own index text).before a0 Z = true) (wS : ∀ a ∈ Bundle.stringAtoms, a.before a0 Z = true) (eT : T.heap = h) (hEL : EW Z a0 EL) (hmem : (own, index) ∈ EL) (B : oB Z EL s h0 vm h)
    {vs : List Value} {z : Int32} (ht : (∀ c ∈ text.toList, c.toNat < 256) ∧ text.toList.map (fun c => Value.int (Jvm.Lit.byteI c.toNat.toUInt16)) = vs) (hz : ¬ z < 0) (hl : z.toNatClampNeg = vs.length)
    {g : JFrame} (hg : g.method = m) (hd : decode c.code g.pc = .ok (.ldc index, 2)) {n : Nat} (hn : 4 * text.toList.length ≤ n) (hbig : n ≤ 536870912) (hc : cells + 2 ≤ R.cells) (hl' : slots + (n + 4) ≤ R.slots) :
    ∃ (a : Addr) (T' : State) (h' : Heap) (b : Addr) (k : ClassId), Stand p l e R (s.setVm T'.vm) m args below meth c T' locs (cells + 2) (slots + (n + 4)) ∧ T'.heap = h' ∧ Ext h h' ∧ Z.Warmed39 (s.setVm T'.vm).vm ∧ (s.setVm T'.vm).vm.findClass own = some m.cls ∧ oB Z EL s h0 T'.vm h' ∧ CHr Z EL vm h T'.vm h' ∧
      Exa Z h' a "java/lang/String" ∧ Fld Z h' a "java/lang/String" "coder" "B" (.int 0) ∧ Fld Z h' a "java/lang/String" "value" "[B" (.ref b) ∧ Arv Z h' b k .byte z vs (.int 0) ∧ (∀ x, Safe Z EL T'.vm h' x → x ≠ a ∧ x ≠ b) ∧
      ∀ target, Steps p.tables e below (T'.setTop { g with pc := g.pc + 2, stack := .ref a :: g.stack }) target → Steps p.tables e below (T.setTop g) target := by
  obtain ⟨⟨k0, hS, hk0⟩, C⟩ := B
  obtain ⟨a, T', h', k1, b, k, X', e1, E, hS', hk1, hZ', hown', f1, f2, f3, f4, -, -, C', -, hne, st⟩ := ldcCH X hx hZ hown w wS eT hS hk0 hEL hmem C.1 ht hz hl hg hd hn hbig hc hl'
  exact ⟨a, T', h', b, k, X', e1, E, hZ', hown', ⟨⟨k1, hS', hk1⟩, C.trans C'⟩, C', f1, f2, f3, f4, hne, st⟩
end OwnH
/-- the sheet's words -/
abbrev oHW (a0 : Array Value) (Z : State) : Prop := ∀ d ∈ tables_1, d.before a0 Z = true
/-- a byte out of a char -/
abbrev ib (x : Int32) : Value := .int x.toInt8.toInt32
abbrev iu0 (x : Int32) : Value := .int (x >>> ((0 : Int32) &&& 31)).toInt8.toInt32
abbrev iu8 (x : Int32) : Value := .int (x >>> ((8 : Int32) &&& 31)).toInt8.toInt32
/-- a call's place: whoever stands there and has the callee's contract comes out behind it -/
def oCall (Z : State) (own : String) (i : Instr) (y : MethodName) (bytes : ByteArray) (maxL : Nat) (ret : Option FieldType) (P : Heap → List Value → Prop) : Prop :=
  ∀ (p : Program) (l : Launch) (e : Env) (R : Room) (s : State) (m : MethodId) (args : Array Value) (below : List Frame) (meth : Method) (c : Code) (T : State) (locs : List Loc) (cells slots : Nat) (h : Heap) (rm : Room) (Q : Option Value → Heap → List Loc → Prop) (pc W : Nat) (Ls : Array Slot) (S rest A : List Value),
    Stand p l e R s m args below meth c T locs cells slots → p.tables.exec = Jvm.exec → Z.Warmed39 s.vm → s.vm.findClass own = some m.cls → T.heap = h → P h A → oCon l Z y bytes maxL ret [] rm A.toArray h Q →
    (rm.frames + 1 ≤ R.frames ∧ W + (maxL + 11) + rm.locals ≤ R.locals ∧ cells + rm.cells ≤ R.cells ∧ slots + rm.slots ≤ R.slots) → Ls.size = c.maxLocals → S = A.reverse ++ rest → (rest.map fun v => v.category).sum = W → decode c.code pc = .ok (i, 3) →
    ∃ (v : Option Value) (T' : State) (L : List Loc), Stand p l e R s m args below meth c T' (locs ++ L) (cells + rm.cells) (slots + rm.slots) ∧ Q v T'.heap L ∧ ∀ t, Steps p.tables e below (T'.setTop (mkF m (pc + 3) Ls (v.toList ++ rest))) t → Steps p.tables e below (T.setTop (mkF m pc Ls S)) t
/-- what a call answers that leaves the heap as it is -/
def oPq (w : Option Value) (h0 : Heap) (v : Option Value) (h : Heap) (L : List Loc) : Prop := v = w ∧ h = h0 ∧ oKp h0 h [] L
section OwnK
variable {Z : State} {a0 : Array Value} {own C : String} {index : Nat} {y z : MethodName} {bytes : ByteArray} {maxL : Nat} {ret : Option FieldType} {ps : List FieldType} {r : Option FieldType}
abbrev oRv (Z : State) (n : Nat) (C : String) (h : Heap) (A : List Value) : Prop := A.length = n + 1 ∧ ∃ o B, A = .ref o :: B ∧ Exa Z h o C
abbrev oRi (n : Nat) (_ : Heap) (A : List Value) : Prop := A.length = n + 1 ∧ ∃ (o : Addr) (B : List Value), A = .ref o :: B
abbrev oRs (n : Nat) (_ : Heap) (A : List Value) : Prop := A.length = n
theorem oLenOf {d : String} (hd : parseMethodDescriptor d = some ⟨ps, r⟩) {L : List Value} (hl : L.length = ps.length) : ∀ sig, parseMethodDescriptor d = some sig → L.length = sig.parameters.length := lenOf hd hl
theorem oCall.stat (w1 : (Jvm.Cond.methodLink own index y).before a0 Z = true) (w2 : (Jvm.Cond.static y).before a0 Z = true) (w3 : (Jvm.Cond.initialized y.cls).before a0 Z = true) (w4 : (Jvm.Cond.code y bytes maxL ret).before a0 Z = true) (hy : y.cls ≠ "java/lang/invoke/MethodHandle" ∧ y.cls ≠ "java/lang/invoke/VarHandle") (hd : parseMethodDescriptor y.desc = some ⟨ps, r⟩) :
    oCall Z own (.invokestatic index) y bytes maxL ret (oRs ps.length) := by
  intro p l e R s m args below meth c T locs cells slots h rm Q pc W Ls S rest A X hx hZ hown e0 hP con hN hsz hS hW hdg
  obtain ⟨v, _, ⟨T', L', k', n'⟩, -, X', ⟨L, hQ, l1, y1, z1⟩, st⟩ := Jvm.LawKit.callS X hx (y := y) hown (mvT hZ w1) (mvT hZ w2) (mvT hZ w3) (mvT hZ w4) hy (backOf (W := W) con hZ w4 w3 hN.1 hN.2.1) (g := mkF m pc Ls S) rfl hsz (argsL := A) (rest := rest) (lenOf hd hP) hS (by show 2 * 0 + _ ≤ W; rw [hW, Nat.mul_zero, Nat.zero_add]; exact Nat.le_refl _) hdg (fun _ _ => ⟨rfl, e0, hN.2.2.1, hN.2.2.2⟩)
  dsimp only [Pt.U, Pt.locs, Pt.cells, Pt.slots] at X' l1 y1 z1 st hQ
  subst l1 y1 z1
  exact ⟨v, T', L, X', hQ, st⟩
theorem oCall.init (h1 : y.name = "<init>") (w1 : (Jvm.Cond.methodLink own index y).before a0 Z = true) (w2 : (Jvm.Cond.instanceMethod y).before a0 Z = true) (w3 : (Jvm.Cond.initialized y.cls).before a0 Z = true) (w4 : (Jvm.Cond.code y bytes maxL none).before a0 Z = true) (hy : y.cls ≠ "java/lang/invoke/MethodHandle" ∧ y.cls ≠ "java/lang/invoke/VarHandle") (hd : parseMethodDescriptor y.desc = some ⟨ps, r⟩) :
    oCall Z own (.invokespecial index) y bytes maxL none (oRi ps.length) := by
  intro p l e R s m args below meth c T locs cells slots h rm Q pc W Ls S rest A X hx hZ hown e0 hP con hN hsz hS hW hdg
  obtain ⟨hl, o, B, rfl⟩ := hP
  obtain ⟨v, _, ⟨T', L', k', n'⟩, -, X', ⟨L, hQ, l1, y1, z1⟩, st⟩ := X.specialBack hx (y := y) h1 hown (mvT hZ w1) (mvT hZ w2) (mvT hZ w4) hy (backOf (W := W) con hZ w4 w3 hN.1 hN.2.1) (g := mkF m pc Ls S) rfl hsz (Steps.refl _) (a := o) (argsL := B) (rest := rest) (lenOf hd (Nat.succ.inj hl)) (by rw [show (mkF m pc Ls S).stack = S from rfl, hS, List.reverse_cons, List.append_assoc]; rfl) (by show 2 * 0 + _ ≤ W; rw [hW, Nat.mul_zero, Nat.zero_add]; exact Nat.le_refl _) hdg (fun _ _ => ⟨rfl, e0, hN.2.2.1, hN.2.2.2⟩)
  dsimp only [Pt.U, Pt.locs, Pt.cells, Pt.slots] at X' l1 y1 z1 st hQ
  subst l1 y1 z1
  exact ⟨v, T', L, X', hQ, fun t k => st.trans k⟩
theorem oCall.initN {host : String} (h1 : y.name = "<init>") (w1 : (Jvm.Cond.methodLinkNest own index y host).before a0 Z = true) (w2 : (Jvm.Cond.instanceMethod y).before a0 Z = true) (w3 : (Jvm.Cond.initialized y.cls).before a0 Z = true) (w4 : (Jvm.Cond.code y bytes maxL none).before a0 Z = true) (hy : y.cls ≠ "java/lang/invoke/MethodHandle" ∧ y.cls ≠ "java/lang/invoke/VarHandle") (hd : parseMethodDescriptor y.desc = some ⟨ps, r⟩) :
    oCall Z own (.invokespecial index) y bytes maxL none (oRi ps.length) := by
  intro p l e R s m args below meth c T locs cells slots h rm Q pc W Ls S rest A X hx hZ hown e0 hP con hN hsz hS hW hdg
  obtain ⟨hl, o, B, rfl⟩ := hP
  obtain ⟨v, _, ⟨T', L', k', n'⟩, -, X', ⟨L, hQ, l1, y1, z1⟩, st⟩ := X.specialBackNest hx (y := y) h1 hown (oMvM hZ w1) (mvT hZ w2) (mvT hZ w4) hy (backOf (W := W) con hZ w4 w3 hN.1 hN.2.1) (g := mkF m pc Ls S) rfl hsz (Steps.refl _) (a := o) (argsL := B) (rest := rest) (lenOf hd (Nat.succ.inj hl)) (by rw [show (mkF m pc Ls S).stack = S from rfl, hS, List.reverse_cons, List.append_assoc]; rfl) (by show 2 * 0 + _ ≤ W; rw [hW, Nat.mul_zero, Nat.zero_add]; exact Nat.le_refl _) hdg (fun _ _ => ⟨rfl, e0, hN.2.2.1, hN.2.2.2⟩)
  dsimp only [Pt.U, Pt.locs, Pt.cells, Pt.slots] at X' l1 y1 z1 st hQ
  subst l1 y1 z1
  exact ⟨v, T', L, X', hQ, fun t k => st.trans k⟩
theorem oCall.virt (w1 : (Jvm.Cond.methodLink own index y).before a0 Z = true) (w2 : (Jvm.Cond.declares y).before a0 Z = true) (nf : ∀ s, Z.Warmed39 s.vm → NotFace s y) (w5 : (Jvm.Cond.selects C y z).before a0 Z = true) (w6 : (Jvm.Cond.instanceMethod z).before a0 Z = true) (w3 : (Jvm.Cond.initialized z.cls).before a0 Z = true) (w4 : (Jvm.Cond.code z bytes maxL ret).before a0 Z = true) (hy : y.cls ≠ "java/lang/invoke/MethodHandle" ∧ y.cls ≠ "java/lang/invoke/VarHandle") (hd : parseMethodDescriptor y.desc = some ⟨ps, r⟩) :
    oCall Z own (.invokevirtual index) z bytes maxL ret (oRv Z ps.length C) := by
  intro p l e R s m args below meth c T locs cells slots h rm Q pc W Ls S rest A X hx hZ hown e0 hP con hN hsz hS hW hdg
  obtain ⟨hl, o, B, rfl, E⟩ := hP
  obtain ⟨cq, kq, qa, qb, qc⟩ := isOf hZ e0 E
  obtain ⟨v, _, ⟨T', L', k', n'⟩, -, X', ⟨L, hQ, l1, y1, z1⟩, st⟩ := X.virtualBack hx (y := y) (z := z) hown (mvT hZ w1) (mvT hZ w2) (nf s hZ) (mvT hZ w5) (mvT hZ w6) hy (backOf (W := W) con hZ w4 w3 hN.1 hN.2.1) qa qc (g := mkF m pc Ls S) rfl hsz (Steps.refl _) (argsL := B) (rest := rest) (lenOf hd (Nat.succ.inj hl)) (by rw [show (mkF m pc Ls S).stack = S from rfl, hS, List.reverse_cons, List.append_assoc]; rfl) (by show 2 * 0 + _ ≤ W; rw [hW, Nat.mul_zero, Nat.zero_add]; exact Nat.le_refl _) hdg (fun _ _ => ⟨rfl, e0, hN.2.2.1, hN.2.2.2⟩)
  dsimp only [Pt.U, Pt.locs, Pt.cells, Pt.slots] at X' l1 y1 z1 st hQ
  subst l1 y1 z1
  exact ⟨v, T', L, X', hQ, fun t k => st.trans k⟩
theorem oCall.priv (w1 : (Jvm.Cond.methodLink own index y).before a0 Z = true) (w2 : (Jvm.Cond.instanceMethod y).before a0 Z = true) (w5 : (Jvm.Cond.selects y.cls y y).before a0 Z = true) (w6 : (Jvm.Cond.privateMethod y).before a0 Z = true) (w3 : (Jvm.Cond.initialized y.cls).before a0 Z = true) (w4 : (Jvm.Cond.code y bytes maxL ret).before a0 Z = true) (hy : y.cls ≠ "java/lang/invoke/MethodHandle" ∧ y.cls ≠ "java/lang/invoke/VarHandle") (hd : parseMethodDescriptor y.desc = some ⟨ps, r⟩) (C : String) :
    oCall Z own (.invokevirtual index) y bytes maxL ret (oRv Z ps.length C) := by
  intro p l e R s m args below meth c T locs cells slots h rm Q pc W Ls S rest A X hx hZ hown e0 hP con hN hsz hS hW hdg
  obtain ⟨hl, o, B, rfl, E⟩ := hP
  obtain ⟨cq, qa, qb⟩ := E.cell
  obtain ⟨v, _, ⟨T', L', k', n'⟩, -, X', ⟨L, hQ, l1, y1, z1⟩, st⟩ := X.privateBack hx (y := y) hown (mvT hZ w1) (mvT hZ w2) (mvT hZ w5) (Cond.privateMethod_at (mvP hZ w6 (args := #[]))) (mvT hZ w4) hy (backOf (W := W) con hZ w4 w3 hN.1 hN.2.1) (g := mkF m pc Ls S) rfl hsz (Steps.refl _) (a := o) (by rw [e0]; exact qa) qb (argsL := B) (rest := rest) (lenOf hd (Nat.succ.inj hl)) (by rw [show (mkF m pc Ls S).stack = S from rfl, hS, List.reverse_cons, List.append_assoc]; rfl) (by show 2 * 0 + _ ≤ W; rw [hW, Nat.mul_zero, Nat.zero_add]; exact Nat.le_refl _) hdg (fun _ _ => ⟨rfl, e0, hN.2.2.1, hN.2.2.2⟩)
  dsimp only [Pt.U, Pt.locs, Pt.cells, Pt.slots] at X' l1 y1 z1 st hQ
  subst l1 y1 z1
  exact ⟨v, T', L, X', hQ, fun t k => st.trans k⟩
variable {p : Program} {l : Launch} {e : Env} {R : Room} {s : State} {m : MethodId} {args : Array Value} {below : List Frame} {meth : Method} {c : Code} {T : State} {locs : List Loc} {cells slots : Nat} {h h0 : Heap} {rm : Room} {Q : Option Value → Heap → List Loc → Prop} {pc W ml : Nat} {Ls : Array Slot} {S rest A : List Value} {i : Instr} {P : Heap → List Value → Prop} {ws : List Addr} {w : Option Value} {bb : ByteArray}
/-- a call that leaves the heap as it is -/
theorem oCall.pure (H : oCall Z own i y bytes maxL ret P) (X : Stand p l e R s m args below meth c T locs cells slots) (hx : p.tables.exec = Jvm.exec) (hZ : Z.Warmed39 s.vm) (hown : s.vm.findClass own = some m.cls) (e0 : T.heap = h) (K : oKp h0 h ws locs) (hP : P h A) (con : oCon l Z y bytes maxL ret [] rm A.toArray h (oPq w h))
    (hN : rm.frames + 1 ≤ R.frames ∧ W + (maxL + 11) + rm.locals ≤ R.locals ∧ cells + rm.cells ≤ R.cells ∧ slots + rm.slots ≤ R.slots) (hml : c.maxLocals = ml) (hsz : Ls.size = ml) (hS : S = A.reverse ++ rest) (hW : (rest.map fun v => v.category).sum = W) (hby : c.code = bb) (hdg : decode bb pc = .ok (i, 3)) :
    ∃ (T' : State) (L : List Loc), Stand p l e R s m args below meth c T' (locs ++ L) (cells + rm.cells) (slots + rm.slots) ∧ T'.heap = h ∧ oKp h0 h ws (locs ++ L) ∧ ∀ t, Steps p.tables e below (T'.setTop (mkF m (pc + 3) Ls (w.toList ++ rest))) t → Steps p.tables e below (T.setTop (mkF m pc Ls S)) t := by
  obtain ⟨v, T', L, X', q, st⟩ := H _ _ _ _ _ _ _ _ _ _ _ _ _ _ _ _ _ _ _ _ _ _ _ X hx hZ hown e0 hP con hN (hsz.trans hml.symm) hS hW (hb hby hdg)
  obtain ⟨rfl, e1, K1⟩ := q
  rw [e1] at K1
  exact ⟨T', L, X', e1, K.call K1 all0, st⟩
/-- a call that may change it -/
theorem oCall.run (H : oCall Z own i y bytes maxL ret P) (X : Stand p l e R s m args below meth c T locs cells slots) (hx : p.tables.exec = Jvm.exec) (hZ : Z.Warmed39 s.vm) (hown : s.vm.findClass own = some m.cls) (e0 : T.heap = h) (hP : P h A) (con : oCon l Z y bytes maxL ret [] rm A.toArray h Q)
    (hN : rm.frames + 1 ≤ R.frames ∧ W + (maxL + 11) + rm.locals ≤ R.locals ∧ cells + rm.cells ≤ R.cells ∧ slots + rm.slots ≤ R.slots) (hml : c.maxLocals = ml) (hsz : Ls.size = ml) (hS : S = A.reverse ++ rest) (hW : (rest.map fun v => v.category).sum = W) (hby : c.code = bb) (hdg : decode bb pc = .ok (i, 3)) :
    ∃ (v : Option Value) (T' : State) (h' : Heap) (L : List Loc), Stand p l e R s m args below meth c T' (locs ++ L) (cells + rm.cells) (slots + rm.slots) ∧ T'.heap = h' ∧ Q v h' L ∧ ∀ t, Steps p.tables e below (T'.setTop (mkF m (pc + 3) Ls (v.toList ++ rest))) t → Steps p.tables e below (T.setTop (mkF m pc Ls S)) t := by
  obtain ⟨v, T', L, X', q, st⟩ := H _ _ _ _ _ _ _ _ _ _ _ _ _ _ _ _ _ _ _ _ _ _ _ X hx hZ hown e0 hP con hN (hsz.trans hml.symm) hS hW (hb hby hdg)
  exact ⟨v, T', _, L, X', rfl, q, st⟩
end OwnK
section OwnZ
variable {p : Program} {l : Launch} {e : Env} {R : Room} {s : State} {m : MethodId} {args : Array Value} {below : List Frame} {meth : Method} {c : Code} {T t : State} {locs : List Loc} {cells slots : Nat} {b : ByteArray} {g : JFrame} {x y : Int32} {v : Value} {rest : List Value} {k : Nat} {k4 : Fin 4} {i o : Int} {l' : Array Slot} {pc' : Nat} {cd : ClassFile.Cond}
theorem zA (X : Stand p l e R s m args below meth c T locs cells slots) (hx : p.tables.exec = Jvm.exec) (hby : c.code = b) (hd : decode b g.pc = .ok (.aload_n k4, 1)) (hg : g.method = m) (h0 : g.locals[k4.val]? = some (.val v)) (h1 : v.isRef = true) (hr : Steps p.tables e below (T.setTop { g with pc := g.pc + 1, stack := v :: g.stack }) t) : Steps p.tables e below (T.setTop g) t := XS.aloadN X.here hx hg (hb hby hd) h0 h1 hr
theorem zI (X : Stand p l e R s m args below meth c T locs cells slots) (hx : p.tables.exec = Jvm.exec) (hby : c.code = b) (hd : decode b g.pc = .ok (.iload_n k4, 1)) (hg : g.method = m) (h0 : g.locals[k4.val]? = some (.val (.int x))) (hr : Steps p.tables e below (T.setTop { g with pc := g.pc + 1, stack := .int x :: g.stack }) t) : Steps p.tables e below (T.setTop g) t := XS.iloadN X.here hx hg (hb hby hd) h0 hr
theorem zB (X : Stand p l e R s m args below meth c T locs cells slots) (hx : p.tables.exec = Jvm.exec) (hby : c.code = b) (hd : decode b g.pc = .ok (.aload k, 2)) (hg : g.method = m) (h0 : g.locals[k]? = some (.val v)) (h1 : v.isRef = true) (hr : Steps p.tables e below (T.setTop { g with pc := g.pc + 2, stack := v :: g.stack }) t) : Steps p.tables e below (T.setTop g) t := XS.aload X.here hx hg (hb hby hd) h0 h1 hr
theorem zJ (X : Stand p l e R s m args below meth c T locs cells slots) (hx : p.tables.exec = Jvm.exec) (hby : c.code = b) (hd : decode b g.pc = .ok (.iload k, 2)) (hg : g.method = m) (h0 : g.locals[k]? = some (.val (.int x))) (hr : Steps p.tables e below (T.setTop { g with pc := g.pc + 2, stack := .int x :: g.stack }) t) : Steps p.tables e below (T.setTop g) t := XS.iload X.here hx hg (hb hby hd) h0 hr
theorem zK (X : Stand p l e R s m args below meth c T locs cells slots) (hx : p.tables.exec = Jvm.exec) (hby : c.code = b) (hd : decode b g.pc = .ok (.iconst i, 1)) (hg : g.method = m)  (hr : Steps p.tables e below (T.setTop { g with pc := g.pc + 1, stack := .int (Int32.ofInt i) :: g.stack }) t) : Steps p.tables e below (T.setTop g) t := XS.iconst X.here hx hg (hb hby hd) hr
theorem zL (X : Stand p l e R s m args below meth c T locs cells slots) (hx : p.tables.exec = Jvm.exec) (hby : c.code = b) (hd : decode b g.pc = .ok (.bipush i, 2)) (hg : g.method = m)  (hr : Steps p.tables e below (T.setTop { g with pc := g.pc + 2, stack := .int (Int8.ofInt i).toInt32 :: g.stack }) t) : Steps p.tables e below (T.setTop g) t := XS.bipush X.here hx hg (hb hby hd) hr
theorem zM (X : Stand p l e R s m args below meth c T locs cells slots) (hx : p.tables.exec = Jvm.exec) (hby : c.code = b) (hd : decode b g.pc = .ok (.sipush i, 3)) (hg : g.method = m)  (hr : Steps p.tables e below (T.setTop { g with pc := g.pc + 3, stack := .int (Int16.ofInt i).toInt32 :: g.stack }) t) : Steps p.tables e below (T.setTop g) t := XS.sipush X.here hx hg (hb hby hd) hr
theorem zS (X : Stand p l e R s m args below meth c T locs cells slots) (hx : p.tables.exec = Jvm.exec) (hby : c.code = b) (hd : decode b g.pc = .ok (.istore k, 2)) (hg : g.method = m) (h0 : g.stack = .int x :: rest) (h1 : storeLocals g.locals k (.int x) = some l') (hr : Steps p.tables e below (T.setTop { g with pc := g.pc + 2, locals := l', stack := rest }) t) : Steps p.tables e below (T.setTop g) t := XS.istore X.here hx hg (hb hby hd) h0 h1 hr
theorem zSn (X : Stand p l e R s m args below meth c T locs cells slots) (hx : p.tables.exec = Jvm.exec) (hby : c.code = b) (hd : decode b g.pc = .ok (.istore_n k4, 1)) (hg : g.method = m) (h0 : g.stack = .int x :: rest) (h1 : storeLocals g.locals k4.val (.int x) = some l') (hr : Steps p.tables e below (T.setTop { g with pc := g.pc + 1, locals := l', stack := rest }) t) : Steps p.tables e below (T.setTop g) t := XS.istoreN X.here hx hg (hb hby hd) h0 h1 hr
theorem zT (X : Stand p l e R s m args below meth c T locs cells slots) (hx : p.tables.exec = Jvm.exec) (hby : c.code = b) (hd : decode b g.pc = .ok (.astore k, 2)) (hg : g.method = m) (h0 : g.stack = v :: rest) (h1 : v.isRef = true) (h2 : storeLocals g.locals k v = some l') (hr : Steps p.tables e below (T.setTop { g with pc := g.pc + 2, locals := l', stack := rest }) t) : Steps p.tables e below (T.setTop g) t := XS.astore X.here hx hg (hb hby hd) h0 h1 h2 hr
theorem zTn (X : Stand p l e R s m args below meth c T locs cells slots) (hx : p.tables.exec = Jvm.exec) (hby : c.code = b) (hd : decode b g.pc = .ok (.astore_n k4, 1)) (hg : g.method = m) (h0 : g.stack = v :: rest) (h1 : v.isRef = true) (h2 : storeLocals g.locals k4.val v = some l') (hr : Steps p.tables e below (T.setTop { g with pc := g.pc + 1, locals := l', stack := rest }) t) : Steps p.tables e below (T.setTop g) t := XS.astoreN X.here hx hg (hb hby hd) h0 h1 h2 hr
theorem zG (X : Stand p l e R s m args below meth c T locs cells slots) (hx : p.tables.exec = Jvm.exec) (hby : c.code = b) (hd : decode b g.pc = .ok (.goto o, 3)) (hg : g.method = m)  (hj : (g.pc : Int) + o = (pc' : Int)) (hr : Steps p.tables e below (T.setTop { g with pc := pc' }) t) : Steps p.tables e below (T.setTop g) t := XS.goto X.here hx hg rfl (hb hby hd) (by rw [hj]; exact Int.natCast_nonneg _) (by rw [hj]; exact Int.toNat_natCast _) hr
theorem zY (X : Stand p l e R s m args below meth c T locs cells slots) (hx : p.tables.exec = Jvm.exec) (hby : c.code = b) (hd : decode b g.pc = .ok (.if_icmp cd o, 3)) (hg : g.method = m) (h0 : g.stack = .int y :: .int x :: rest) (h1 : if_icmp.holds cd x y = true) (hj : (g.pc : Int) + o = (pc' : Int)) (hr : Steps p.tables e below (T.setTop { g with pc := pc', stack := rest }) t) : Steps p.tables e below (T.setTop g) t := XS.icmpYes X.here hx hg rfl (hb hby hd) h0 h1 (by rw [hj]; exact Int.natCast_nonneg _) (by rw [hj]; exact Int.toNat_natCast _) hr
theorem zN (X : Stand p l e R s m args below meth c T locs cells slots) (hx : p.tables.exec = Jvm.exec) (hby : c.code = b) (hd : decode b g.pc = .ok (.if_icmp cd o, 3)) (hg : g.method = m) (h0 : g.stack = .int y :: .int x :: rest) (h1 : if_icmp.holds cd x y = false) (hr : Steps p.tables e below (T.setTop { g with pc := g.pc + 3, stack := rest }) t) : Steps p.tables e below (T.setTop g) t := XS.icmpNo X.here hx hg (hb hby hd) h0 h1 hr
theorem zF (X : Stand p l e R s m args below meth c T locs cells slots) (hx : p.tables.exec = Jvm.exec) (hby : c.code = b) (hd : decode b g.pc = .ok (.ifCond cd o, 3)) (hg : g.method = m) (h0 : g.stack = .int x :: rest) (h1 : ifCond.holds cd x = true) (hj : (g.pc : Int) + o = (pc' : Int)) (hr : Steps p.tables e below (T.setTop { g with pc := pc', stack := rest }) t) : Steps p.tables e below (T.setTop g) t := XS.ifYes X.here hx hg rfl (hb hby hd) h0 h1 (by rw [hj]; exact Int.natCast_nonneg _) (by rw [hj]; exact Int.toNat_natCast _) hr
theorem zH (X : Stand p l e R s m args below meth c T locs cells slots) (hx : p.tables.exec = Jvm.exec) (hby : c.code = b) (hd : decode b g.pc = .ok (.ifCond cd o, 3)) (hg : g.method = m) (h0 : g.stack = .int x :: rest) (h1 : ifCond.holds cd x = false) (hr : Steps p.tables e below (T.setTop { g with pc := g.pc + 3, stack := rest }) t) : Steps p.tables e below (T.setTop g) t := XS.ifNo X.here hx hg (hb hby hd) h0 h1 hr
theorem zC (X : Stand p l e R s m args below meth c T locs cells slots) (hx : p.tables.exec = Jvm.exec) (hby : c.code = b) (hd : decode b g.pc = .ok (.iinc k i, 3)) (hg : g.method = m) (h0 : g.locals[k]? = some (.val (.int x))) (h1 : storeLocals g.locals k (.int (x + Int32.ofInt i)) = some l') (hr : Steps p.tables e below (T.setTop { g with pc := g.pc + 3, locals := l' }) t) : Steps p.tables e below (T.setTop g) t := XS.iinc X.here hx hg (hb hby hd) h0 h1 hr
theorem zD (X : Stand p l e R s m args below meth c T locs cells slots) (hx : p.tables.exec = Jvm.exec) (hby : c.code = b) (hd : decode b g.pc = .ok (.dup, 1)) (hg : g.method = m) (h0 : g.stack = v :: rest) (h1 : v.category = 1) (hr : Steps p.tables e below (T.setTop { g with pc := g.pc + 1, stack := v :: v :: rest }) t) : Steps p.tables e below (T.setTop g) t := XS.dup X.here hx hg (hb hby hd) h0 h1 hr
end OwnZ
section OwnL
variable {p : Program} {l : Launch} {e : Env} {R : Room} {s : State} {m : MethodId} {args : Array Value} {below : List Frame} {meth : Method} {c : Code} {T t : State} {locs : List Loc} {cells slots : Nat} {b : ByteArray} {g : JFrame} {Z : State} {h : Heap} {a : Addr} {k : ClassId} {n : Int32} {vs : List Value} {dv : Value} {ty : FieldType} {rest : List Value}
theorem oAl (X : Stand p l e R s m args below meth c T locs cells slots) (hx : p.tables.exec = Jvm.exec) (hZ : Z.Warmed39 s.vm) (e0 : T.heap = h) (V : Arv Z h a k ty n vs dv) (hby : c.code = b) (hd : decode b g.pc = .ok (.arraylength, 1)) (hg : g.method = m) (hs : g.stack = .ref a :: rest) (hr : Steps p.tables e below (T.setTop { g with pc := g.pc + 1, stack := .int n :: rest }) t) : Steps p.tables e below (T.setTop g) t := by
  obtain ⟨cl, Ar, q, Sz, Nn, Hs, Ft⟩ := V
  exact X.arraylength hx (by rw [e0]; exact Ar.1) (State.isArrayOf_alike hZ.alike Ar.2.1) hg hs (hb hby hd) _ (by rw [len_of Sz Nn]; exact hr)
theorem oLdB (X : Stand p l e R s m args below meth c T locs cells slots) (hx : p.tables.exec = Jvm.exec) (hZ : Z.Warmed39 s.vm) (e0 : T.heap = h) (V : Arv Z h a k .byte n vs dv) (j : Int32) (v : Value) (hj : ¬ j < 0 ∧ j < n) (hv : vs.getD j.toNatClampNeg dv = v) (hby : c.code = b) (hd : decode b g.pc = .ok (.baload, 1)) (hg : g.method = m) (hs : g.stack = .int j :: .ref a :: rest) (hr : Steps p.tables e below (T.setTop { g with pc := g.pc + 1, stack := v :: rest }) t) : Steps p.tables e below (T.setTop g) t := by
  obtain ⟨cl, Ar, q, Sz, Nn, Hs, Ft⟩ := V
  exact X.baloadBytes hx (by rw [e0]; exact Ar.1) (State.isArrayOf_alike hZ.alike Ar.2.1) Ar.2.2 (inb_of Sz hj) (Hs.at (inb_of Sz hj) hv) hg hs (hb hby hd) _ hr
theorem oLdC (X : Stand p l e R s m args below meth c T locs cells slots) (hx : p.tables.exec = Jvm.exec) (hZ : Z.Warmed39 s.vm) (e0 : T.heap = h) (V : Arv Z h a k .char n vs dv) (j : Int32) (v : Value) (hj : ¬ j < 0 ∧ j < n) (hv : vs.getD j.toNatClampNeg dv = v) (hby : c.code = b) (hd : decode b g.pc = .ok (.caload, 1)) (hg : g.method = m) (hs : g.stack = .int j :: .ref a :: rest) (hr : Steps p.tables e below (T.setTop { g with pc := g.pc + 1, stack := v :: rest }) t) : Steps p.tables e below (T.setTop g) t := by
  obtain ⟨cl, Ar, q, Sz, Nn, Hs, Ft⟩ := V
  exact X.caload hx (by rw [e0]; exact Ar.1) (State.isArrayOf_alike hZ.alike Ar.2.1) Ar.2.2 (inb_of Sz hj) (Hs.at (inb_of Sz hj) hv) hg hs (hb hby hd) _ hr
theorem oLdR (X : Stand p l e R s m args below meth c T locs cells slots) (hx : p.tables.exec = Jvm.exec) (hZ : Z.Warmed39 s.vm) (e0 : T.heap = h) {C : String} (V : Arv Z h a k (.object C) n vs dv) (j : Int32) (v : Value) (hj : ¬ j < 0 ∧ j < n) (hv : vs.getD j.toNatClampNeg dv = v) (hby : c.code = b) (hd : decode b g.pc = .ok (.aaload, 1)) (hg : g.method = m) (hs : g.stack = .int j :: .ref a :: rest) (hr : Steps p.tables e below (T.setTop { g with pc := g.pc + 1, stack := v :: rest }) t) : Steps p.tables e below (T.setTop g) t := by
  obtain ⟨cl, Ar, q, Sz, Nn, Hs, Ft⟩ := V
  exact X.aaload hx (by rw [e0]; exact Ar.1) (State.isArrayOf_alike hZ.alike Ar.2.1) rfl Ar.2.2 (inb_of Sz hj) (Hs.at (inb_of Sz hj) hv) hg hs (hb hby hd) _ hr
end OwnL
abbrev Y0 : String := "java/lang/String"
abbrev Y1 : String := "com/example/wakati/wakati/Patch"
abbrev Y2 : String := "COMPACT_STRINGS"
abbrev Y3 : String := "Ljava/lang/String;"
abbrev Y4 : String := "insertionLength"
abbrev Y5 : String := "jdk/internal/util/Preconditions"
abbrev Y6 : String := "SIOOBE_FORMATTER"
abbrev Y7 : String := "Ljava/util/function/BiFunction;"
abbrev Y8 : String := "com/example/wakati/wakati/Surrogates"
abbrev Y9 : String := "com/example/wakati/wakati/PatchEqualsPinLaw"
abbrev Y10 : String := "java/lang/StringUTF16"
abbrev Y11 : String := "java/lang/Object"
abbrev Y12 : String := "java/util/Objects"
abbrev Y13 : String := "java/lang/StringLatin1"
def oEL : List (String × Nat) := [(Y0, 7)]
theorem oTx0 : (∀ c ∈ "".toList, c.toNat < 256) ∧ "".toList.map (fun c => Value.int (Jvm.Lit.byteI c.toNat.toUInt16)) = [] := ⟨by decide, by decide +kernel⟩
theorem oELw {a0 : Array Value} {Z : State} (hw : ∀ d ∈ tables_1, d.before a0 Z = true) : EW Z a0 oEL := (EW.cons (oW hw 20 rfl) oTx0.1 EW.nil)
theorem oSAin : ∀ a ∈ Bundle.stringAtoms, a ∈ tables_1 := by decide +kernel
theorem oSA {a0 : Array Value} {Z : State} (hw : ∀ d ∈ tables_1, d.before a0 Z = true) : ∀ a ∈ Bundle.stringAtoms, a.before a0 Z = true := fun a ha => hw a (oSAin a ha)
theorem oB8 (x : Int32) : x.toInt8.toInt32.toInt8.toInt32 = x.toInt8.toInt32 := by rw [Int8.toInt8_toInt32]
theorem oB8inj {x y : Int32} (hx : 0 ≤ x.toInt ∧ x.toInt < 256) (hy : 0 ≤ y.toInt ∧ y.toInt < 256) (h : x.toInt8.toInt32 = y.toInt8.toInt32) : x = y := by
  have a := c_i2b x
  have b := c_i2b y
  rw [h] at a
  apply Int32.toInt_inj.mp
  omega
theorem oCmp {P R : Prop} [Decidable P] [Decidable R] (h : P ↔ R) : oBi P = oBi R := by
  by_cases q : P
  · rw [oBi_t q, oBi_t (h.mp q)]
  · rw [oBi_f q, oBi_f (fun r => q (h.mpr r))]
theorem oM255 (x : Int32) : 0 ≤ (x &&& 255).toInt ∧ (x &&& 255).toInt < 256 := by
  have q := c_mask x 255 8 (by decide) (by decide)
  omega
theorem oChr {x : Int32} (h : 0 ≤ x.toInt ∧ x.toInt < 256) : x.toUInt32.toUInt16.toUInt32.toInt32 = x := by
  have a := c_i2c x
  apply Int32.toInt_inj.mp
  omega
theorem oLe255 {x : Int32} (h : 0 ≤ x.toInt ∧ x.toInt < 256) : ¬ (255 : Int32) < x := fun q => by
  have r : (255 : Int32).toInt < x.toInt := Int32.lt_iff_toInt_lt.mp q
  have s : (255 : Int32).toInt = 255 := by decide
  omega
theorem oBk {x : Int32} (h : 0 ≤ x.toInt ∧ x.toInt < 256) : (x.toInt8.toInt32 &&& 255).toUInt32.toUInt16.toUInt32.toInt32 = x := by
  have a := c_i2b x
  have b := c_mask x.toInt8.toInt32 255 8 (by decide) (by decide)
  rw [oChr (by omega)]
  apply Int32.toInt_inj.mp
  omega
theorem oCat {v : Value} (h : v.isRef = true) : v.category = 1 := by cases v <;> simp_all [Value.isRef, Value.category]
theorem oLow {x : Int32} (h : 0 ≤ x.toInt ∧ x.toInt < 256) : x < (55296 : Int32) := by
  apply Int32.lt_iff_toInt_lt.mpr
  have s : (55296 : Int32).toInt = 55296 := by decide
  omega

theorem oPos (x : Int32) : ¬ (x &&& 2147483647) < (0 : Int32) := fun q => by
  have r : (x &&& 2147483647).toInt < (0 : Int32).toInt := Int32.lt_iff_toInt_lt.mp q
  have s : (0 : Int32).toInt = 0 := by decide
  have t := c_mask x 2147483647 31 (by decide) (by decide)
  omega
theorem oML (x : Int64) : 0 ≤ (x &&& 255).toInt32.toInt ∧ (x &&& 255).toInt32.toInt < 256 := by
  have a := c_maskL x 255 8 (by decide) (by decide)
  have b := c_l2i (x &&& 255)
  have c := rng32 (x &&& 255).toInt32
  omega
theorem oLn3 (x : Int32) : ((x &&& 3) % 3) = 0 ∨ ((x &&& 3) % 3) = 1 ∨ ((x &&& 3) % 3) = 2 := by
  have a := c_mask x 3 2 (by decide) (by decide)
  have b := (c_irem (x &&& 3) 3 3 rfl).1
  have e : ∀ j : Int32, ((x &&& 3) % 3).toInt = j.toInt → ((x &&& 3) % 3) = j := fun j q => Int32.toInt_inj.mp q
  have d : ((x &&& 3) % 3).toInt = 0 ∨ ((x &&& 3) % 3).toInt = 1 ∨ ((x &&& 3) % 3).toInt = 2 := by omega
  exact d.imp (e 0) (Or.imp (e 1) (e 2))
theorem oEqB {a b : Int32} (ha : 0 ≤ a.toInt ∧ a.toInt < 256) (hb : 0 ≤ b.toInt ∧ b.toInt < 256) : (a.toInt8.toInt32 = b.toInt8.toInt32) ↔ (b = a) := ⟨fun q => (oB8inj ha hb q).symm, fun q => by rw [q]⟩
theorem oEqC {a b : Int32} (ha : 0 ≤ a.toInt ∧ a.toInt < 256) (hb : 0 ≤ b.toInt ∧ b.toInt < 256) : (a.toInt8.toInt32 = b.toInt8.toInt32) ↔ (a = b) := ⟨fun q => oB8inj ha hb q, fun q => by rw [q]⟩
theorem oSy {a b : Int32} : (a = b) ↔ (b = a) := ⟨Eq.symm, Eq.symm⟩
def Q_rI4_0 (Z : State) (xs xa : Addr) (xu xv : Value) (h0 : Heap) (v : Option Value) (h : Heap) (L : List Loc) : Prop := ∃ (nb : Addr) (nk : ClassId), v = none ∧ oKp h0 h [xs] L ∧ (Exa Z h xs Y0) ∧ (Fld Z h xs Y0 "coder" "B" (.int (0 : Int32))) ∧ (Fld Z h xs Y0 "value" "[B" (.ref nb)) ∧ (Arv Z h nb nk .byte (0 : Int32) [] (.int (0 : Int32)))
theorem pn_0 : plainName "java/lang/String" = true := by first | (simp [plainName, overriddenIn]; done) | decide +kernel
abbrev yy0 : MethodName := ⟨"java/lang/String", "<init>", "([CIILjava/lang/Void;)V"⟩
theorem d3_0 : decode jdk_42_method_149_code 0 = .ok (.aload_n 0, 1) := by decide +kernel
theorem d3_1 : decode jdk_42_method_149_code 1 = .ok (.invokespecial 1, 3) := by decide +kernel
theorem d3_4 : decode jdk_42_method_149_code 4 = .ok (.iload_n 3, 1) := by decide +kernel
theorem d3_5 : decode jdk_42_method_149_code 5 = .ok (.ifCond .ne 22, 3) := by decide +kernel
theorem d3_8 : decode jdk_42_method_149_code 8 = .ok (.aload_n 0, 1) := by decide +kernel
theorem d3_9 : decode jdk_42_method_149_code 9 = .ok (.ldc 7, 2) := by decide +kernel
theorem d3_11 : decode jdk_42_method_149_code 11 = .ok (.getfield 9, 3) := by decide +kernel
theorem d3_14 : decode jdk_42_method_149_code 14 = .ok (.putfield 9, 3) := by decide +kernel
theorem d3_17 : decode jdk_42_method_149_code 17 = .ok (.aload_n 0, 1) := by decide +kernel
theorem d3_18 : decode jdk_42_method_149_code 18 = .ok (.ldc 7, 2) := by decide +kernel
theorem d3_20 : decode jdk_42_method_149_code 20 = .ok (.getfield 15, 3) := by decide +kernel
theorem d3_23 : decode jdk_42_method_149_code 23 = .ok (.putfield 15, 3) := by decide +kernel
theorem d3_26 : decode jdk_42_method_149_code 26 = .ok (.return_, 1) := by decide +kernel
theorem rI4_0 (l : Launch) (Z : State) (a0 : Array Value) (hw : oHW a0 Z) (ws : List Jvm.Cond) (xs xa : Addr) (xu xv : Value) (h0 : Heap) (O0 : Ext Z.heap h0) (og_xs : Z.heap.size ≤ xs) (E_xs : Exa Z h0 xs Y0) (F_value_xs : Fld Z h0 xs Y0 "value" "[B" xu) (F_coder_xs : Fld Z h0 xs Y0 "coder" "B" xv) :
    oConH l Z oEL yy0 jdk_42_method_149_code 6 none ws ({ frames := 1, cells := 4, slots := 8, locals := 12 } : Room) #[(.ref xs), (.ref xa), (.int (0 : Int32)), (.int (0 : Int32)), .null] h0 [xs] (Q_rI4_0 Z xs xa xu xv h0) := by
  refine oConH.of (plainFor_of_name pn_0) ?_
  intro p e s m below meth c T vm X hx hby hml hown hnm hret hlk hZ e0 B hsf
  have sf_xs := hsf xs (List.mem_of_getElem? (i := 0) rfl)
  have hml : c.maxLocals = 6 := hml
  have K : oKp h0 h0 [xs] [] := oKp.nil _ _
  refine oWk.cast (g' := (mkF m 0 #[rv xs, rv xa, iv 0, iv 0, .val .null, uu] [])) (by first | rfl | (simp [entryFrame, mkF, argsToLocals, Value.category]; done)) ?_
  refine oWk.st (fun _ kt => zA X hx hby d3_0 rfl rfl rfl kt) ?_
  obtain ⟨T, X, e0, st⟩ := initO X hx hZ hown (oW hw 17 rfl) (oW hw 18 rfl) (oW hw 19 rfl) e0 (g := (mkF m 1 #[rv xs, rv xa, iv 0, iv 0, .val .null, uu] [(.ref xs)])) rfl (by rw [hml]; rfl) rfl (hb hby d3_1) (by decide) (W := 0) (Nat.le_of_eq rfl) (by decide)
  refine oWk.st (fun _ kt => st _ (zI X hx hby d3_4 rfl rfl (zH X hx hby d3_5 rfl rfl ((if0 _ _).trans (teq (by decide)).2) (zA X hx hby d3_8 rfl rfl rfl kt)))) ?_
  obtain ⟨lt1, T, h, lt1b, lt1k, X, e2, E1, hZ, hown, B, C, E_lt1, F_coder_lt1, F_value_lt1, V_lt1b, hne, st⟩ := oLdcR X hx hZ hown (oW hw 20 rfl) (oSA hw) e0 (oELw hw) (List.mem_of_getElem? (i := 0) rfl) B (vs := []) (z := 0) oTx0 (by decide) rfl (g := (mkF m 9 #[rv xs, rv xa, iv 0, iv 0, .val .null, uu] [(.ref xs)])) rfl (hb hby d3_9) (n := 0) (by decide) (by decide) (by decide) (by decide)
  have sf_xs := C.safe E_xs.lt sf_xs
  have e0 := e2
  have K := K.ext E1
  have ne_xs_lt1 := (hne _ sf_xs).1
  have ne_xs_lt1b := (hne _ sf_xs).2
  refine oWk.st (fun _ kt => st _ kt) ?_
  obtain ⟨T, X, e0, st⟩ := getF X hx hZ hown (host := "") (Or.inl (oW hw 26 rfl)) Via.refl e0 F_value_lt1 (g := (mkF m 11 #[rv xs, rv xa, iv 0, iv 0, .val .null, uu] [(.ref lt1), (.ref xs)])) rfl rfl (hb hby d3_11)
  refine oWk.st (fun _ kt => st _ kt) ?_
  have E_xs := (E_xs.ext E1)
  have F_value_xs := (F_value_xs.ext E1)
  obtain ⟨T, h, X, e0, W2, st⟩ := putF X hx hZ hown (host := "") (Or.inl (oW hw 26 rfl)) Via.refl e0 F_value_xs E_xs (Or.inr ⟨(oW hw 22 rfl), rfl, hnm⟩) (oW hw 7 rfl) (ty := (.array .byte)) (by decide) rfl rfl (g := (mkF m 14 #[rv xs, rv xa, iv 0, iv 0, .val .null, uu] [(.ref lt1b), (.ref xs)])) rfl rfl (hb hby d3_14)
  have K := K.wr W2 (Or.inl (List.mem_of_getElem? (i := 0) rfl))
  have sw : Safe Z oEL _ _ xs := sf_xs
  have sf_xs := Safe.wr W2 sw B.2.1 sf_xs
  have B := B.wr W2 sw
  have F_value_xs := F_value_xs.same W2
  refine oWk.st (fun _ kt => st _ (zA X hx hby d3_17 rfl rfl rfl kt)) ?_
  have E_xs := (E_xs.wr W2)
  obtain ⟨lt3, T, h, lt3b, lt3k, X, e2, E3, hZ, hown, B, C, E_lt3, F_coder_lt3, F_value_lt3, V_lt3b, hne, st⟩ := oLdcR X hx hZ hown (oW hw 20 rfl) (oSA hw) e0 (oELw hw) (List.mem_of_getElem? (i := 0) rfl) B (vs := []) (z := 0) oTx0 (by decide) rfl (g := (mkF m 18 #[rv xs, rv xa, iv 0, iv 0, .val .null, uu] [(.ref xs)])) rfl (hb hby d3_18) (n := 0) (by decide) (by decide) (by decide) (by decide)
  have sf_xs := C.safe E_xs.lt sf_xs
  have e0 := e2
  have K := K.ext E3
  have ne_xs_lt3 := (hne _ sf_xs).1
  have ne_xs_lt3b := (hne _ sf_xs).2
  refine oWk.st (fun _ kt => st _ kt) ?_
  obtain ⟨T, X, e0, st⟩ := getF X hx hZ hown (host := "") (Or.inl (oW hw 27 rfl)) Via.refl e0 F_coder_lt3 (g := (mkF m 20 #[rv xs, rv xa, iv 0, iv 0, .val .null, uu] [(.ref lt3), (.ref xs)])) rfl rfl (hb hby d3_20)
  refine oWk.st (fun _ kt => st _ kt) ?_
  have E_xs := (E_xs.ext E3)
  have F_coder_xs := (((F_coder_xs.ext E1).other W2 (Or.inr (slot_ne (Or.inr (oW hw 23 rfl)) (Or.inr (oW hw 22 rfl)) (by decide) (t := .byte) (t' := (.array .byte)) (by decide) (by decide)))).ext E3)
  obtain ⟨T, h, X, e0, W4, st⟩ := putFN X hx hZ hown (oW hw 27 rfl) Via.refl e0 F_coder_xs E_xs (Or.inr ⟨(oW hw 23 rfl), rfl, hnm⟩) (oW hw 7 rfl) (ty := .byte) (v' := .int (0 : Int32)) (by decide) rfl (by decide) (g := (mkF m 23 #[rv xs, rv xa, iv 0, iv 0, .val .null, uu] [(.int 0), (.ref xs)])) rfl rfl (hb hby d3_23)
  have K := K.wr W4 (Or.inl (List.mem_of_getElem? (i := 0) rfl))
  have sw : Safe Z oEL _ _ xs := sf_xs
  have sf_xs := Safe.wr W4 sw B.2.1 sf_xs
  have B := B.wr W4 sw
  have F_coder_xs := F_coder_xs.same W4
  refine oWk.to (mkF m 26 #[rv xs, rv xa, iv 0, iv 0, .val .null, uu] []) (fun _ kt => st _ kt) ?_
  have E_xs := (E_xs.wr W4)
  have F_value_xs := ((F_value_xs.ext E3).other W4 (Or.inr (slot_ne (Or.inr (oW hw 22 rfl)) (Or.inr (oW hw 23 rfl)) (by decide) (t := (.array .byte)) (t' := .byte) (by decide) (by decide))))
  have V_lt1b := (((V_lt1b.other W2 (Ne.symm ne_xs_lt1b)).ext E3).other W4 (Ne.symm ne_xs_lt1b))
  exact oRetHV X hx hlk hZ (oELw hw) e0 B hret (hb hby d3_26) (by rw [e0]; exact ⟨lt1b, lt1k, rfl, K, E_xs, F_coder_xs, F_value_xs, V_lt1b⟩) (by decide) (by decide)
def Q_rI1_0 (Z : State) (xs xa : Addr) (xk : ClassId) (xu xv : Value) (h0 : Heap) (v : Option Value) (h : Heap) (L : List Loc) : Prop := ∃ (nb : Addr) (nk : ClassId), v = none ∧ oKp h0 h [xs] L ∧ (Exa Z h xs Y0) ∧ (Fld Z h xs Y0 "coder" "B" (.int (0 : Int32))) ∧ (Fld Z h xs Y0 "value" "[B" (.ref nb)) ∧ (Arv Z h nb nk .byte (0 : Int32) [] (.int (0 : Int32)))
abbrev yy1 : MethodName := ⟨"java/lang/String", "<init>", "([C)V"⟩
theorem d2_0 : decode jdk_42_method_3_code 0 = .ok (.aload_n 0, 1) := by decide +kernel
theorem d2_1 : decode jdk_42_method_3_code 1 = .ok (.aload_n 1, 1) := by decide +kernel
theorem d2_2 : decode jdk_42_method_3_code 2 = .ok (.iconst 0, 1) := by decide +kernel
theorem d2_3 : decode jdk_42_method_3_code 3 = .ok (.aload_n 1, 1) := by decide +kernel
theorem d2_4 : decode jdk_42_method_3_code 4 = .ok (.arraylength, 1) := by decide +kernel
theorem d2_5 : decode jdk_42_method_3_code 5 = .ok (.aconst_null, 1) := by decide +kernel
theorem d2_6 : decode jdk_42_method_3_code 6 = .ok (.invokespecial 27, 3) := by decide +kernel
theorem pd_0 : parseMethodDescriptor "([CIILjava/lang/Void;)V" = some ⟨[(.array .char), .int, .int, (.object "java/lang/Void")], none⟩ := by decide +kernel
theorem d2_9 : decode jdk_42_method_3_code 9 = .ok (.return_, 1) := by decide +kernel
theorem rI1_0 (l : Launch) (Z : State) (a0 : Array Value) (hw : oHW a0 Z) (ws : List Jvm.Cond) (xs xa : Addr) (xk : ClassId) (xu xv : Value) (h0 : Heap) (O0 : Ext Z.heap h0) (og_xs : Z.heap.size ≤ xs) (E_xs : Exa Z h0 xs Y0) (F_value_xs : Fld Z h0 xs Y0 "value" "[B" xu) (F_coder_xs : Fld Z h0 xs Y0 "coder" "B" xv) (V_xa : Arv Z h0 xa xk .char (0 : Int32) [] (.int (0 : Int32))) :
    oConH l Z oEL yy1 jdk_42_method_3_code 2 none ws ({ frames := 2, cells := 4, slots := 8, locals := 29 } : Room) #[(.ref xs), (.ref xa)] h0 [xs] (Q_rI1_0 Z xs xa xk xu xv h0) := by
  refine oConH.of (plainFor_of_name pn_0) ?_
  intro p e s m below meth c T vm X hx hby hml hown hnm hret hlk hZ e0 B hsf
  have sf_xs := hsf xs (List.mem_of_getElem? (i := 0) rfl)
  have hml : c.maxLocals = 2 := hml
  have K : oKp h0 h0 [xs] [] := oKp.nil _ _
  refine oWk.cast (g' := (mkF m 0 #[rv xs, rv xa] [])) (by first | rfl | (simp [entryFrame, mkF, argsToLocals, Value.category]; done)) ?_
  refine oWk.st (fun _ kt => zA X hx hby d2_0 rfl rfl rfl (zA X hx hby d2_1 rfl rfl rfl (zK X hx hby d2_2 rfl (zA X hx hby d2_3 rfl rfl rfl (oAl X hx hZ e0 V_xa hby d2_4 rfl rfl (XS.aconstNull X.here hx rfl (hb hby d2_5) kt)))))) ?_
  have Oh := K.old O0 (allS og_xs all0)
  obtain ⟨_, _, ⟨T, L3, k3, n3⟩, -, X, hS, hgr, ⟨Lc3, hQ, l3, y3, z3, C⟩, st⟩ := X.specialBackS hx (y := yy0) rfl hown (mvT hZ (oW hw 13 rfl)) (mvT hZ (oW hw 14 rfl)) (mvT hZ (oW hw 16 rfl)) (by decide) (oBackH (W := 0) (rI4_0 l Z a0 hw [] xs xa xu xv h0 Oh og_xs E_xs F_value_xs F_coder_xs) hZ (oW hw 16 rfl) (oW hw 8 rfl) (by decide) (by decide) (oELw hw) B.2.1 (allS ⟨E_xs.lt, sf_xs⟩ all0)) (g := (mkF m 6 #[rv xs, rv xa] [.null, (.int 0), (.int 0), (.ref xa), (.ref xs)])) rfl (by rw [hml]; rfl) (Steps.refl _) (a := xs) (argsL := [(.ref xa), (.int (0 : Int32)), (.int (0 : Int32)), .null]) (rest := []) (lenOf pd_0 rfl) rfl (Nat.le_of_eq rfl) (hb hby d2_6) (fun _ _ => ⟨rfl, e0, (by decide : 0 + 4 ≤ _), (by decide : 0 + 8 ≤ _)⟩)
  dsimp only [Pt.U, Pt.locs, Pt.cells, Pt.slots] at X l3 y3 z3 st hQ C hS hgr
  subst l3 y3 z3
  have X : Stand p l e _ (s.setVm T.vm) m _ below meth c T _ _ _ := X
  obtain ⟨h, e2⟩ : ∃ z, T.heap = z := ⟨_, rfl⟩
  have B := B.call e0 hS hgr C e2
  obtain ⟨hZ, hown⟩ := oWide hZ hown hS
  rw [e2] at hQ C
  have sf_xs := C.safe E_xs.lt sf_xs
  have e0 := e2
  obtain ⟨nb2, nk2, rfl, K2, E_xs, F_coder_xs, F_value_xs, V_nb2⟩ := hQ
  have K := K.call K2 (allS (Or.inl (List.mem_of_getElem? (i := 0) rfl)) all0)
  refine oWk.to (mkF m 9 #[rv xs, rv xa] []) (fun _ kt => st.trans kt) ?_
  exact oRetHV X hx hlk hZ (oELw hw) e0 B hret (hb hby d2_9) (by rw [e0]; exact ⟨nb2, nk2, rfl, K, E_xs, F_coder_xs, F_value_xs, V_nb2⟩) (by decide) (by decide)
def Q_rStr_0 (Z : State) (xc0 xc1 xz : Int32) (h0 : Heap) (v : Option Value) (h : Heap) (L : List Loc) : Prop := ∃ (nr : Addr) (nb : Addr) (nk : ClassId), v = some (.ref nr) ∧ oKp h0 h [] L ∧ (h0.size ≤ nr) ∧ (Exa Z h nr Y0) ∧ (Fld Z h nr Y0 "coder" "B" (.int (0 : Int32))) ∧ (Fld Z h nr Y0 "value" "[B" (.ref nb)) ∧ (Arv Z h nb nk .byte (0 : Int32) [] (.int (0 : Int32)))
theorem pn_1 : plainName "com/example/wakati/wakati/PatchEqualsPinLaw" = true := by first | (simp [plainName, overriddenIn]; done) | decide +kernel
abbrev yy2 : MethodName := ⟨"com/example/wakati/wakati/PatchEqualsPinLaw", "str", "(ICC)Ljava/lang/String;"⟩
theorem d1_0 : decode method_2_code 0 = .ok (.iload_n 0, 1) := by decide +kernel
theorem d1_1 : decode method_2_code 1 = .ok (.ifCond .ne 14, 3) := by decide +kernel
theorem d1_4 : decode method_2_code 4 = .ok (.new 7, 3) := by decide +kernel
theorem d1_7 : decode method_2_code 7 = .ok (.dup, 1) := by decide +kernel
theorem d1_8 : decode method_2_code 8 = .ok (.iconst 0, 1) := by decide +kernel
theorem d1_9 : decode method_2_code 9 = .ok (.newarray .char, 2) := by decide +kernel
theorem d1_11 : decode method_2_code 11 = .ok (.invokespecial 9, 3) := by decide +kernel
theorem pd_1 : parseMethodDescriptor "([C)V" = some ⟨[(.array .char)], none⟩ := by decide +kernel
theorem d1_14 : decode method_2_code 14 = .ok (.areturn, 1) := by decide +kernel
theorem rStr_0 (l : Launch) (Z : State) (a0 : Array Value) (hw : oHW a0 Z) (ws : List Jvm.Cond) (xc0 xc1 xz : Int32) (h0 : Heap) (O0 : Ext Z.heap h0) (S_Z : Sta Z Z.heap Y0 Y2 "Z" (.int xz)) (hz : ¬ xz = (0 : Int32)) :
    oConH l Z oEL yy2 method_2_code 3 (some (.object Y0)) ws ({ frames := 3, cells := 6, slots := 12, locals := 43 } : Room) #[(.int (0 : Int32)), (.int xc0), (.int xc1)] h0 [] (Q_rStr_0 Z xc0 xc1 xz h0) := by
  refine oConH.of (plainFor_of_name pn_1) ?_
  intro p e s m below meth c T vm X hx hby hml hown hnm hret hlk hZ e0 B hsf
  have hml : c.maxLocals = 3 := hml
  have K : oKp h0 h0 [] [] := oKp.nil _ _
  refine oWk.cast (g' := (mkF m 0 #[iv 0, iv xc0, iv xc1] [])) (by first | rfl | (simp [entryFrame, mkF, argsToLocals, Value.category]; done)) ?_
  refine oWk.st (fun _ kt => zI X hx hby d1_0 rfl rfl (zH X hx hby d1_1 rfl rfl ((if0 _ _).trans (teq (by decide)).2) kt)) ?_
  obtain ⟨o1, g1⟩ : ∃ z, z = h0.size := ⟨_, rfl⟩
  have ge_o1 : h0.size ≤ o1 := Nat.le_trans K.le (Nat.le_of_eq g1.symm)
  have sf_o1 := B.new (Nat.le_of_eq g1.symm)
  obtain ⟨T, h, X, e0, E1, A1, D1, -, st⟩ := newO X hx hZ hown (oW hw 6 rfl) (oW hw 7 rfl) (oW hw 8 rfl) e0 (g := (mkF m 4 #[iv 0, iv xc0, iv xc1] [])) rfl (hb hby d1_4) (by decide) (by decide)
  rw [← g1] at A1 D1 st
  have K := K.ext E1
  have sf_o1 := Safe.ext E1 B.2.1 sf_o1
  have B := B.ext E1
  have E_o1 := A1
  have F_value_o1 : Fld Z h o1 Y0 "value" "[B" .null := D1 (Or.inr (oW hw 22 rfl)) (ty := (.array .byte)) (by decide)
  have F_coder_o1 : Fld Z h o1 Y0 "coder" "B" (.int (0 : Int32)) := D1 (Or.inr (oW hw 23 rfl)) (ty := .byte) (by decide)
  refine oWk.st (fun _ kt => st _ (zD X hx hby d1_7 rfl rfl rfl (zK X hx hby d1_8 rfl kt))) ?_
  obtain ⟨o2, g2⟩ : ∃ z, z = h.size := ⟨_, rfl⟩
  have ne_o1_o2 : o1 ≠ o2 := Nat.ne_of_lt (Nat.lt_of_lt_of_le E_o1.lt (Nat.le_of_eq g2.symm))
  have ge_o2 : h0.size ≤ o2 := Nat.le_trans K.le (Nat.le_of_eq g2.symm)
  have sf_o2 := B.new (Nat.le_of_eq g2.symm)
  obtain ⟨T, h, k2, X, e0, E2, A2, st⟩ := newP X hx hZ (oW hw 9 rfl) e0 (g := (mkF m 9 #[iv 0, iv xc0, iv xc1] [(.int 0), (.ref o1), (.ref o1)])) rfl (hb hby d1_9) rfl (by decide) (cap := 0) (by decide) (by decide) (by decide) (by decide)
  rw [← g2] at A2 st
  have K := K.ext E2
  have sf_o1 := Safe.ext E2 B.2.1 sf_o1
  have sf_o2 := Safe.ext E2 B.2.1 sf_o2
  have B := B.ext E2
  have V_o2 : Arv Z h o2 k2 .char (0 : Int32) [] (.int (0 : Int32)) := (Arv.new A2 (by decide)).pad (pad_rep [] (.int (0 : Int32)) 0)
  refine oWk.st (fun _ kt => st _ kt) ?_
  have E_o1 := (E_o1.ext E2)
  have F_value_o1 := (F_value_o1.ext E2)
  have F_coder_o1 := (F_coder_o1.ext E2)
  have Oh := K.old O0 all0
  obtain ⟨_, _, ⟨T, L4, k4, n4⟩, -, X, hS, hgr, ⟨Lc4, hQ, l4, y4, z4, C⟩, st⟩ := X.specialBackS hx (y := yy1) rfl hown (mvT hZ (oW hw 10 rfl)) (mvT hZ (oW hw 11 rfl)) (mvT hZ (oW hw 12 rfl)) (by decide) (oBackH (W := 1) (rI1_0 l Z a0 hw [] o1 o2 k2 .null (.int (0 : Int32)) h Oh (Nat.le_trans O0.1 ge_o1) E_o1 F_value_o1 F_coder_o1 V_o2) hZ (oW hw 12 rfl) (oW hw 8 rfl) (by decide) (by decide) (oELw hw) B.2.1 (allS ⟨E_o1.lt, sf_o1⟩ all0)) (g := (mkF m 11 #[iv 0, iv xc0, iv xc1] [(.ref o2), (.ref o1), (.ref o1)])) rfl (by rw [hml]; rfl) (Steps.refl _) (a := o1) (argsL := [(.ref o2)]) (rest := [(.ref o1)]) (lenOf pd_1 rfl) rfl (Nat.le_of_eq rfl) (hb hby d1_11) (fun _ _ => ⟨rfl, e0, (by decide : 2 + 4 ≤ _), (by decide : 4 + 8 ≤ _)⟩)
  dsimp only [Pt.U, Pt.locs, Pt.cells, Pt.slots] at X l4 y4 z4 st hQ C hS hgr
  subst l4 y4 z4
  have X : Stand p l e _ (s.setVm T.vm) m _ below meth c T _ _ _ := X
  obtain ⟨h, e2⟩ : ∃ z, T.heap = z := ⟨_, rfl⟩
  have B := B.call e0 hS hgr C e2
  obtain ⟨hZ, hown⟩ := oWide hZ hown hS
  rw [e2] at hQ C
  have sf_o1 := C.safe E_o1.lt sf_o1
  have sf_o2 := C.safe V_o2.lt sf_o2
  have e0 := e2
  obtain ⟨nb3, nk3, rfl, K3, E_o1, F_coder_o1, F_value_o1, V_nb3⟩ := hQ
  have K := K.call K3 (allS (Or.inr ge_o1) all0)
  refine oWk.to (mkF m 14 #[iv 0, iv xc0, iv xc1] [(.ref o1)]) (fun _ kt => st.trans kt) ?_
  exact oRetH X hx hlk hZ (oELw hw) e0 B hret (oNarR rfl rfl) (Or.inr (Or.inr (Or.inr (Or.inr ⟨rfl, rfl, rfl⟩)))) (hb hby d1_14) (by rw [e0]; exact ⟨o1, nb3, nk3, rfl, K, ge_o1, E_o1, F_coder_o1, F_value_o1, V_nb3⟩) (by decide) (by decide)
def Q_rC5_1 (Z : State) (xa xd : Addr) (xk xl : ClassId) (xc0 : Int32) (h0 : Heap) (v : Option Value) (h : Heap) (L : List Loc) : Prop := v = some (.int (1 : Int32)) ∧ oKp h0 h [xd] L ∧ (Arv Z h xd xl .byte (1 : Int32) [(ib xc0)] (.int (0 : Int32)))
theorem pn_2 : plainName "java/lang/StringUTF16" = true := by first | (simp [plainName, overriddenIn]; done) | decide +kernel
abbrev yy3 : MethodName := ⟨"java/lang/StringUTF16", "compress", "([CI[BII)I"⟩
theorem d17_0 : decode jdk_52_method_21_code 0 = .ok (.iconst 0, 1) := by decide +kernel
theorem d17_1 : decode jdk_52_method_21_code 1 = .ok (.istore 5, 2) := by decide +kernel
theorem d17_3 : decode jdk_52_method_21_code 3 = .ok (.iload 5, 2) := by decide +kernel
theorem d17_5 : decode jdk_52_method_21_code 5 = .ok (.iload 4, 2) := by decide +kernel
theorem d17_7 : decode jdk_52_method_21_code 7 = .ok (.if_icmp .ge 37, 3) := by decide +kernel
theorem d17_10 : decode jdk_52_method_21_code 10 = .ok (.aload_n 0, 1) := by decide +kernel
theorem d17_11 : decode jdk_52_method_21_code 11 = .ok (.iload_n 1, 1) := by decide +kernel
theorem d17_12 : decode jdk_52_method_21_code 12 = .ok (.caload, 1) := by decide +kernel
theorem d17_13 : decode jdk_52_method_21_code 13 = .ok (.istore 6, 2) := by decide +kernel
theorem d17_15 : decode jdk_52_method_21_code 15 = .ok (.iload 6, 2) := by decide +kernel
theorem d17_17 : decode jdk_52_method_21_code 17 = .ok (.sipush 255, 3) := by decide +kernel
theorem d17_20 : decode jdk_52_method_21_code 20 = .ok (.if_icmp .le 6, 3) := by decide +kernel
theorem d17_26 : decode jdk_52_method_21_code 26 = .ok (.aload_n 2, 1) := by decide +kernel
theorem d17_27 : decode jdk_52_method_21_code 27 = .ok (.iload_n 3, 1) := by decide +kernel
theorem d17_28 : decode jdk_52_method_21_code 28 = .ok (.iload 6, 2) := by decide +kernel
theorem d17_30 : decode jdk_52_method_21_code 30 = .ok (.i2b, 1) := by decide +kernel
theorem d17_31 : decode jdk_52_method_21_code 31 = .ok (.bastore, 1) := by decide +kernel
theorem d17_32 : decode jdk_52_method_21_code 32 = .ok (.iinc 1 1, 3) := by decide +kernel
theorem d17_35 : decode jdk_52_method_21_code 35 = .ok (.iinc 3 1, 3) := by decide +kernel
theorem d17_38 : decode jdk_52_method_21_code 38 = .ok (.iinc 5 1, 3) := by decide +kernel
theorem d17_41 : decode jdk_52_method_21_code 41 = .ok (.goto (-38), 3) := by decide +kernel
theorem d17_44 : decode jdk_52_method_21_code 44 = .ok (.iload 4, 2) := by decide +kernel
theorem d17_46 : decode jdk_52_method_21_code 46 = .ok (.ireturn, 1) := by decide +kernel
theorem rC5_1 (l : Launch) (Z : State) (a0 : Array Value) (hw : oHW a0 Z) (ws : List Jvm.Cond) (xa xd : Addr) (xk xl : ClassId) (xc0 : Int32) (h0 : Heap) (O0 : Ext Z.heap h0) (og_xd : Z.heap.size ≤ xd) (ne_xa_xd : xa ≠ xd) (V_xa : Arv Z h0 xa xk .char (1 : Int32) [(.int xc0)] (.int (0 : Int32))) (V_xd : Arv Z h0 xd xl .byte (1 : Int32) [(.int (0 : Int32))] (.int (0 : Int32))) (hc0_ : ¬ (255 : Int32) < xc0) :
    oCon l Z yy3 jdk_52_method_21_code 7 (some .int) ws ({ frames := 0, cells := 0, slots := 0, locals := 0 } : Room) #[(.ref xa), (.int (0 : Int32)), (.ref xd), (.int (0 : Int32)), (.int (1 : Int32))] h0 (Q_rC5_1 Z xa xd xk xl xc0 h0) := by
  refine oCon.of (plainFor_of_name pn_2) ?_
  intro p e s m below meth c T X hx hby hml hown hnm hret hlk hZ e0
  have hml : c.maxLocals = 7 := hml
  have K : oKp h0 h0 [xd] [] := oKp.nil _ _
  refine oWk.cast (g' := (mkF m 0 #[rv xa, iv 0, rv xd, iv 0, iv 1, uu, uu] [])) (by first | rfl | (simp [entryFrame, mkF, argsToLocals, Value.category]; done)) ?_
  refine oWk.to (mkF m 12 #[rv xa, iv 0, rv xd, iv 0, iv 1, iv 0, uu] [(.int 0), (.ref xa)]) (fun _ kt => zK X hx hby d17_0 rfl (zS X hx hby d17_1 rfl rfl (l' := #[rv xa, iv 0, rv xd, iv 0, iv 1, iv 0, uu]) rfl (zJ X hx hby d17_3 rfl rfl (zJ X hx hby d17_5 rfl rfl (zN X hx hby d17_7 rfl rfl (tlt (by decide)).2.1 (zA X hx hby d17_10 rfl rfl rfl (zI X hx hby d17_11 rfl rfl kt))))))) ?_
  refine oWk.to (mkF m 20 #[rv xa, iv 0, rv xd, iv 0, iv 1, iv 0, iv xc0] [(.int 255), (.int xc0)]) (fun _ kt => oLdC X hx hZ e0 V_xa (0 : Int32) (.int xc0) ⟨by decide, by decide⟩ rfl hby d17_12 rfl rfl (zS X hx hby d17_13 rfl rfl (l' := #[rv xa, iv 0, rv xd, iv 0, iv 1, iv 0, iv xc0]) rfl (zJ X hx hby d17_15 rfl rfl (zM X hx hby d17_17 rfl kt)))) ?_
  refine oWk.to (mkF m 31 #[rv xa, iv 0, rv xd, iv 0, iv 1, iv 0, iv xc0] [(ib xc0), (.int 0), (.ref xd)]) (fun _ kt => zY X hx hby d17_20 rfl rfl (flt hc0_).2.2.2 (pc' := 26) rfl (zA X hx hby d17_26 rfl rfl rfl (zI X hx hby d17_27 rfl rfl (zJ X hx hby d17_28 rfl rfl (XS.i2b X.here hx rfl (hb hby d17_30) rfl kt))))) ?_
  obtain ⟨cl2, Ar2, q2, Sz2, Nn2, Hs2, Ft2⟩ := id V_xd
  have hin2 : ¬ ((0 : Int32) < 0 ∨ cl2.slots.size ≤ ((0 : Int32)).toNatClampNeg) := inb_of Sz2 ⟨by decide, by decide⟩
  obtain ⟨T, h, X, e0, W2, st⟩ := stB X hx hZ e0 Ar2 (j := (0 : Int32)) hin2 (g := (mkF m 31 #[rv xa, iv 0, rv xd, iv 0, iv 1, iv 0, iv xc0] [(ib xc0), (.int 0), (.ref xd)])) rfl rfl (hb hby d17_31)
  have K := K.wr W2 (Or.inl (List.mem_of_getElem? (i := 0) rfl))
  have V_xd := Arv.set Ar2 q2 Sz2 Nn2 Hs2 Ft2 (fits_nar_byte _) W2 0 rfl (Nat.le_of_ble_eq_true rfl)
  rw [oB8 xc0] at V_xd
  replace V_xd : Arv Z h xd xl .byte (1 : Int32) [(ib xc0)] (.int (0 : Int32)) := V_xd
  refine oWk.to (mkF m 7 #[rv xa, iv 1, rv xd, iv 1, iv 1, iv 1, iv xc0] [(.int 1), (.int 1)]) (fun _ kt => st _ (zC X hx hby d17_32 rfl rfl (l' := #[rv xa, iv ((0 : Int32) + (1 : Int32)), rv xd, iv 0, iv 1, iv 0, iv xc0]) rfl (zC X hx hby d17_35 rfl rfl (l' := #[rv xa, iv 1, rv xd, iv ((0 : Int32) + (1 : Int32)), iv 1, iv 0, iv xc0]) rfl (zC X hx hby d17_38 rfl rfl (l' := #[rv xa, iv 1, rv xd, iv 1, iv 1, iv ((0 : Int32) + (1 : Int32)), iv xc0]) rfl (zG X hx hby d17_41 rfl (pc' := 3) rfl (zJ X hx hby d17_3 rfl rfl (zJ X hx hby d17_5 rfl rfl kt))))))) ?_
  refine oWk.to (mkF m 46 #[rv xa, iv 1, rv xd, iv 1, iv 1, iv 1, iv xc0] [(.int 1)]) (fun _ kt => zY X hx hby d17_7 rfl rfl (flt (by decide)).2.1 (pc' := 44) rfl (zJ X hx hby d17_44 rfl rfl kt)) ?_
  exact oRetI X hx hlk hret (hb hby d17_46) (by rw [e0]; exact ⟨rfl, K, V_xd⟩) (by decide) (by decide)
def Q_rC3_1 (Z : State) (xa : Addr) (xk : ClassId) (xc0 : Int32) (h0 : Heap) (v : Option Value) (h : Heap) (L : List Loc) : Prop := ∃ (nb : Addr) (nk : ClassId), v = some (.ref nb) ∧ oKp h0 h [] L ∧ (h0.size ≤ nb) ∧ (Arv Z h nb nk .byte (1 : Int32) [(ib xc0)] (.int (0 : Int32)))
abbrev yy4 : MethodName := ⟨"java/lang/StringUTF16", "compress", "([CII)[B"⟩
theorem d16_0 : decode jdk_52_method_16_code 0 = .ok (.iload_n 2, 1) := by decide +kernel
theorem d16_1 : decode jdk_52_method_16_code 1 = .ok (.newarray .byte, 2) := by decide +kernel
theorem d16_3 : decode jdk_52_method_16_code 3 = .ok (.astore_n 3, 1) := by decide +kernel
theorem d16_4 : decode jdk_52_method_16_code 4 = .ok (.aload_n 0, 1) := by decide +kernel
theorem d16_5 : decode jdk_52_method_16_code 5 = .ok (.iload_n 1, 1) := by decide +kernel
theorem d16_6 : decode jdk_52_method_16_code 6 = .ok (.aload_n 3, 1) := by decide +kernel
theorem d16_7 : decode jdk_52_method_16_code 7 = .ok (.iconst 0, 1) := by decide +kernel
theorem d16_8 : decode jdk_52_method_16_code 8 = .ok (.iload_n 2, 1) := by decide +kernel
theorem d16_9 : decode jdk_52_method_16_code 9 = .ok (.invokestatic 115, 3) := by decide +kernel
theorem pd_2 : parseMethodDescriptor "([CI[BII)I" = some ⟨[(.array .char), .int, (.array .byte), .int, .int], some .int⟩ := by decide +kernel
theorem cs0 {a0 : Array Value} {Z : State} (hw : oHW a0 Z) : oCall Z Y10 (.invokestatic 115) yy3 jdk_52_method_21_code 7 (some .int) (oRs 5) := oCall.stat (oW hw 97 rfl) (oW hw 98 rfl) (oW hw 95 rfl) (oW hw 99 rfl) (by decide) pd_2
theorem d16_12 : decode jdk_52_method_16_code 12 = .ok (.istore 4, 2) := by decide +kernel
theorem d16_14 : decode jdk_52_method_16_code 14 = .ok (.iload 4, 2) := by decide +kernel
theorem d16_16 : decode jdk_52_method_16_code 16 = .ok (.iload_n 2, 1) := by decide +kernel
theorem d16_17 : decode jdk_52_method_16_code 17 = .ok (.if_icmp .eq 40, 3) := by decide +kernel
theorem d16_57 : decode jdk_52_method_16_code 57 = .ok (.aload_n 3, 1) := by decide +kernel
theorem d16_58 : decode jdk_52_method_16_code 58 = .ok (.areturn, 1) := by decide +kernel
theorem rC3_1 (l : Launch) (Z : State) (a0 : Array Value) (hw : oHW a0 Z) (ws : List Jvm.Cond) (xa : Addr) (xk : ClassId) (xc0 : Int32) (h0 : Heap) (O0 : Ext Z.heap h0) (V_xa : Arv Z h0 xa xk .char (1 : Int32) [(.int xc0)] (.int (0 : Int32))) (hc0_ : ¬ (255 : Int32) < xc0) :
    oCon l Z yy4 jdk_52_method_16_code 6 (some (.array .byte)) ws ({ frames := 1, cells := 1, slots := 1, locals := 18 } : Room) #[(.ref xa), (.int (0 : Int32)), (.int (1 : Int32))] h0 (Q_rC3_1 Z xa xk xc0 h0) := by
  refine oCon.of (plainFor_of_name pn_2) ?_
  intro p e s m below meth c T X hx hby hml hown hnm hret hlk hZ e0
  have hml : c.maxLocals = 6 := hml
  have K : oKp h0 h0 [] [] := oKp.nil _ _
  refine oWk.cast (g' := (mkF m 0 #[rv xa, iv 0, iv 1, uu, uu, uu] [])) (by first | rfl | (simp [entryFrame, mkF, argsToLocals, Value.category]; done)) ?_
  refine oWk.st (fun _ kt => zI X hx hby d16_0 rfl rfl kt) ?_
  obtain ⟨o1, g1⟩ : ∃ z, z = h0.size := ⟨_, rfl⟩
  have ne_xa_o1 : xa ≠ o1 := Nat.ne_of_lt (Nat.lt_of_lt_of_le V_xa.lt (Nat.le_of_eq g1.symm))
  have ge_o1 : h0.size ≤ o1 := Nat.le_trans K.le (Nat.le_of_eq g1.symm)
  obtain ⟨T, h, k1, X, e0, E1, A1, st⟩ := newP X hx hZ (oW hw 21 rfl) e0 (g := (mkF m 1 #[rv xa, iv 0, iv 1, uu, uu, uu] [(.int 1)])) rfl (hb hby d16_1) rfl (by decide) (cap := 1) (by decide) (by decide) (by decide) (by decide)
  rw [← g1] at A1 st
  have K := K.ext E1
  have V_o1 : Arv Z h o1 k1 .byte (1 : Int32) [(.int (0 : Int32))] (.int (0 : Int32)) := (Arv.new A1 (by decide)).pad (pad_rep [] (.int (0 : Int32)) 1)
  refine oWk.to (mkF m 9 #[rv xa, iv 0, iv 1, rv o1, uu, uu] [(.int 1), (.int 0), (.ref o1), (.int 0), (.ref xa)]) (fun _ kt => st _ (zTn X hx hby d16_3 rfl rfl rfl (l' := #[rv xa, iv 0, iv 1, rv o1, uu, uu]) rfl (zA X hx hby d16_4 rfl rfl rfl (zI X hx hby d16_5 rfl rfl (zA X hx hby d16_6 rfl rfl rfl (zK X hx hby d16_7 rfl (zI X hx hby d16_8 rfl rfl kt))))))) ?_
  have V_xa := (V_xa.ext E1)
  have Oh := K.old O0 all0
  obtain ⟨_, T, h, Lc3, X, e0, hQ, st⟩ := (cs0 hw).run X hx hZ hown e0 (A := [(.ref xa), (.int (0 : Int32)), (.ref o1), (.int (0 : Int32)), (.int (1 : Int32))]) rfl (rC5_1 l Z a0 hw [] xa o1 xk k1 xc0 h Oh (Nat.le_trans O0.1 ge_o1) ne_xa_o1 V_xa V_o1 hc0_) (W := 0) (by decide) hml (Ls := #[rv xa, iv 0, iv 1, rv o1, uu, uu]) rfl (rest := []) rfl rfl hby d16_9
  obtain ⟨rfl, K2, V_o1⟩ := hQ
  have K := K.call K2 (allS (Or.inr ge_o1) all0)
  refine oWk.to (mkF m 58 #[rv xa, iv 0, iv 1, rv o1, iv 1, uu] [(.ref o1)]) (fun _ kt => st _ (zS X hx hby d16_12 rfl rfl (l' := #[rv xa, iv 0, iv 1, rv o1, iv 1, uu]) rfl (zJ X hx hby d16_14 rfl rfl (zI X hx hby d16_16 rfl rfl (zY X hx hby d16_17 rfl rfl (teq (by decide)).1 (pc' := 57) rfl (zA X hx hby d16_57 rfl rfl rfl kt)))))) ?_
  exact oRetA X hx hlk hret rfl rfl (hb hby d16_58) (by rw [e0]; exact ⟨o1, k1, rfl, K, ge_o1, V_o1⟩) (by decide) (by decide)
abbrev yy5 : MethodName := ⟨"java/lang/StringUTF16", "coderFromArrayLen", "([BI)B"⟩
theorem d18_0 : decode jdk_52_method_15_code 0 = .ok (.iload_n 1, 1) := by decide +kernel
theorem d18_1 : decode jdk_52_method_15_code 1 = .ok (.aload_n 0, 1) := by decide +kernel
theorem d18_2 : decode jdk_52_method_15_code 2 = .ok (.arraylength, 1) := by decide +kernel
theorem d18_3 : decode jdk_52_method_15_code 3 = .ok (.isub, 1) := by decide +kernel
theorem d18_4 : decode jdk_52_method_15_code 4 = .ok (.bipush 31, 2) := by decide +kernel
theorem d18_6 : decode jdk_52_method_15_code 6 = .ok (.iushr, 1) := by decide +kernel
theorem d18_7 : decode jdk_52_method_15_code 7 = .ok (.i2b, 1) := by decide +kernel
theorem d18_8 : decode jdk_52_method_15_code 8 = .ok (.ireturn, 1) := by decide +kernel
theorem rCo_1 (l : Launch) (Z : State) (a0 : Array Value) (hw : oHW a0 Z) (ws : List Jvm.Cond) (xb : Addr) (xk : ClassId) (xy0 : Int32) (h0 : Heap) (O0 : Ext Z.heap h0) (V_xb : Arv Z h0 xb xk .byte (1 : Int32) [(.int xy0)] (.int (0 : Int32))) :
    oCon l Z yy5 jdk_52_method_15_code 2 (some .byte) ws ({ frames := 0, cells := 0, slots := 0, locals := 0 } : Room) #[(.ref xb), (.int (1 : Int32))] h0 (oPq (some (.int (0 : Int32))) h0) := by
  refine oCon.of (plainFor_of_name pn_2) ?_
  intro p e s m below meth c T X hx hby hml hown hnm hret hlk hZ e0
  have hml : c.maxLocals = 2 := hml
  have K : oKp h0 h0 [] [] := oKp.nil _ _
  refine oWk.cast (g' := (mkF m 0 #[rv xb, iv 1] [])) (by first | rfl | (simp [entryFrame, mkF, argsToLocals, Value.category]; done)) ?_
  refine oWk.to (mkF m 8 #[rv xb, iv 1] [(.int 0)]) (fun _ kt => zI X hx hby d18_0 rfl rfl (zA X hx hby d18_1 rfl rfl rfl (oAl X hx hZ e0 V_xb hby d18_2 rfl rfl (XS.isub X.here hx rfl (hb hby d18_3) rfl (zL X hx hby d18_4 rfl (XS.iushr X.here hx rfl (hb hby d18_6) rfl (XS.i2b X.here hx rfl (hb hby d18_7) rfl kt))))))) ?_
  exact oRetN X hx hlk hret (Or.inl rfl) rfl (hb hby d18_8) (by rw [e0]; exact ⟨rfl, rfl, K⟩) (by decide) (by decide)
def Q_rI4_1 (Z : State) (xs xa : Addr) (xk : ClassId) (xz : Int32) (xu xv : Value) (xc0 : Int32) (h0 : Heap) (v : Option Value) (h : Heap) (L : List Loc) : Prop := ∃ (nb : Addr) (nk : ClassId), v = none ∧ oKp h0 h [xs] L ∧ (Exa Z h xs Y0) ∧ (Fld Z h xs Y0 "coder" "B" (.int (0 : Int32))) ∧ (Fld Z h xs Y0 "value" "[B" (.ref nb)) ∧ (h0.size ≤ nb) ∧ (Arv Z h nb nk .byte (1 : Int32) [(ib xc0)] (.int (0 : Int32)))
theorem d3_27 : decode jdk_42_method_149_code 27 = .ok (.getstatic 38, 3) := by decide +kernel
theorem d3_30 : decode jdk_42_method_149_code 30 = .ok (.ifCond .eq 28, 3) := by decide +kernel
theorem d3_33 : decode jdk_42_method_149_code 33 = .ok (.aload_n 1, 1) := by decide +kernel
theorem d3_34 : decode jdk_42_method_149_code 34 = .ok (.iload_n 2, 1) := by decide +kernel
theorem d3_35 : decode jdk_42_method_149_code 35 = .ok (.iload_n 3, 1) := by decide +kernel
theorem d3_36 : decode jdk_42_method_149_code 36 = .ok (.invokestatic 177, 3) := by decide +kernel
theorem pd_3 : parseMethodDescriptor "([CII)[B" = some ⟨[(.array .char), .int, .int], some (.array .byte)⟩ := by decide +kernel
theorem cs1 {a0 : Array Value} {Z : State} (hw : oHW a0 Z) : oCall Z Y0 (.invokestatic 177) yy4 jdk_52_method_16_code 6 (some (.array .byte)) (oRs 3) := oCall.stat (oW hw 93 rfl) (oW hw 94 rfl) (oW hw 95 rfl) (oW hw 96 rfl) (by decide) pd_3
theorem d3_39 : decode jdk_42_method_149_code 39 = .ok (.astore 5, 2) := by decide +kernel
theorem d3_41 : decode jdk_42_method_149_code 41 = .ok (.aload_n 0, 1) := by decide +kernel
theorem d3_42 : decode jdk_42_method_149_code 42 = .ok (.aload 5, 2) := by decide +kernel
theorem d3_44 : decode jdk_42_method_149_code 44 = .ok (.iload_n 3, 1) := by decide +kernel
theorem d3_45 : decode jdk_42_method_149_code 45 = .ok (.invokestatic 47, 3) := by decide +kernel
theorem pd_4 : parseMethodDescriptor "([BI)B" = some ⟨[(.array .byte), .int], some .byte⟩ := by decide +kernel
theorem cs2 {a0 : Array Value} {Z : State} (hw : oHW a0 Z) : oCall Z Y0 (.invokestatic 47) yy5 jdk_52_method_15_code 2 (some .byte) (oRs 2) := oCall.stat (oW hw 100 rfl) (oW hw 101 rfl) (oW hw 95 rfl) (oW hw 102 rfl) (by decide) pd_4
theorem d3_48 : decode jdk_42_method_149_code 48 = .ok (.putfield 15, 3) := by decide +kernel
theorem d3_51 : decode jdk_42_method_149_code 51 = .ok (.aload_n 0, 1) := by decide +kernel
theorem d3_52 : decode jdk_42_method_149_code 52 = .ok (.aload 5, 2) := by decide +kernel
theorem d3_54 : decode jdk_42_method_149_code 54 = .ok (.putfield 9, 3) := by decide +kernel
theorem d3_57 : decode jdk_42_method_149_code 57 = .ok (.return_, 1) := by decide +kernel
theorem rI4_1 (l : Launch) (Z : State) (a0 : Array Value) (hw : oHW a0 Z) (ws : List Jvm.Cond) (xs xa : Addr) (xk : ClassId) (xz : Int32) (xu xv : Value) (xc0 : Int32) (h0 : Heap) (O0 : Ext Z.heap h0) (S_Z : Sta Z Z.heap Y0 Y2 "Z" (.int xz)) (hz : ¬ xz = (0 : Int32)) (og_xs : Z.heap.size ≤ xs) (E_xs : Exa Z h0 xs Y0) (F_value_xs : Fld Z h0 xs Y0 "value" "[B" xu) (F_coder_xs : Fld Z h0 xs Y0 "coder" "B" xv) (V_xa : Arv Z h0 xa xk .char (1 : Int32) [(.int xc0)] (.int (0 : Int32))) (hc0_ : ¬ (255 : Int32) < xc0) :
    oCon l Z yy0 jdk_42_method_149_code 6 none ws ({ frames := 2, cells := 1, slots := 1, locals := 35 } : Room) #[(.ref xs), (.ref xa), (.int (0 : Int32)), (.int (1 : Int32)), .null] h0 (Q_rI4_1 Z xs xa xk xz xu xv xc0 h0) := by
  refine oCon.of (plainFor_of_name pn_0) ?_
  intro p e s m below meth c T X hx hby hml hown hnm hret hlk hZ e0
  have hml : c.maxLocals = 6 := hml
  have K : oKp h0 h0 [xs] [] := oKp.nil _ _
  refine oWk.cast (g' := (mkF m 0 #[rv xs, rv xa, iv 0, iv 1, .val .null, uu] [])) (by first | rfl | (simp [entryFrame, mkF, argsToLocals, Value.category]; done)) ?_
  refine oWk.st (fun _ kt => zA X hx hby d3_0 rfl rfl rfl kt) ?_
  obtain ⟨T, X, e0, st⟩ := initO X hx hZ hown (oW hw 17 rfl) (oW hw 18 rfl) (oW hw 19 rfl) e0 (g := (mkF m 1 #[rv xs, rv xa, iv 0, iv 1, .val .null, uu] [(.ref xs)])) rfl (by rw [hml]; rfl) rfl (hb hby d3_1) (by decide) (W := 0) (Nat.le_of_eq rfl) (by decide)
  refine oWk.st (fun _ kt => st _ (zI X hx hby d3_4 rfl rfl (zF X hx hby d3_5 rfl rfl ((if0 _ _).trans (feq (by decide)).2) (pc' := 27) rfl kt))) ?_
  have Oh := K.old O0 (allS og_xs all0)
  obtain ⟨T, X, e0, st⟩ := getS2 X hx hZ hown (host := "") (Or.inl (oW hw 58 rfl)) Via.refl e0 (S_Z.ext Oh) (g := (mkF m 27 #[rv xs, rv xa, iv 0, iv 1, .val .null, uu] [])) rfl (hb hby d3_27)
  refine oWk.st (fun _ kt => st _ (zH X hx hby d3_30 rfl rfl ((if0 _ _).trans (feq hz).1) (zA X hx hby d3_33 rfl rfl rfl (zI X hx hby d3_34 rfl rfl (zI X hx hby d3_35 rfl rfl kt))))) ?_
  have lt_xs := E_xs.lt
  have lt_xa := V_xa.lt
  obtain ⟨_, T, h, Lc2, X, e0, hQ, st⟩ := (cs1 hw).run X hx hZ hown e0 (A := [(.ref xa), (.int (0 : Int32)), (.int (1 : Int32))]) rfl (rC3_1 l Z a0 hw [] xa xk xc0 h0 Oh V_xa hc0_) (W := 0) (by decide) hml (Ls := #[rv xs, rv xa, iv 0, iv 1, .val .null, uu]) rfl (rest := []) rfl rfl hby d3_36
  obtain ⟨nb1, nk1, rfl, K1, gn_nb1, V_nb1⟩ := hQ
  have ge_nb1 := Nat.le_trans K.le gn_nb1
  have ne_xs_nb1 : xs ≠ nb1 := Nat.ne_of_lt (Nat.lt_of_lt_of_le lt_xs gn_nb1)
  have ne_xa_nb1 : xa ≠ nb1 := Nat.ne_of_lt (Nat.lt_of_lt_of_le lt_xa gn_nb1)
  have K := K.call K1 all0
  refine oWk.st (fun _ kt => st _ (zT X hx hby d3_39 rfl rfl rfl (l' := #[rv xs, rv xa, iv 0, iv 1, .val .null, rv nb1]) rfl (zA X hx hby d3_41 rfl rfl rfl (zB X hx hby d3_42 rfl rfl rfl (zI X hx hby d3_44 rfl rfl kt))))) ?_
  have Oh := K.old O0 (allS og_xs all0)
  obtain ⟨T, L4, X, e0, K, st⟩ := (cs2 hw).pure X hx hZ hown e0 K (A := [(.ref nb1), (.int (1 : Int32))]) rfl (rCo_1 l Z a0 hw [] nb1 nk1 (xc0.toInt8.toInt32) h Oh V_nb1) (W := 1) (by decide) hml (Ls := #[rv xs, rv xa, iv 0, iv 1, .val .null, rv nb1]) rfl (rest := [(.ref xs)]) rfl rfl hby d3_45
  refine oWk.st (fun _ kt => st _ kt) ?_
  have E_xs := (E_xs.keep K1.1)
  have F_coder_xs := (F_coder_xs.keep K1.1 nin0)
  obtain ⟨T, h, X, e0, W5, st⟩ := putFN X hx hZ hown (oW hw 27 rfl) Via.refl e0 F_coder_xs E_xs (Or.inr ⟨(oW hw 23 rfl), rfl, hnm⟩) (oW hw 7 rfl) (ty := .byte) (v' := .int (0 : Int32)) (by decide) rfl (by decide) (g := (mkF m 48 #[rv xs, rv xa, iv 0, iv 1, .val .null, rv nb1] [(.int 0), (.ref xs)])) rfl rfl (hb hby d3_48)
  have K := K.wr W5 (Or.inl (List.mem_of_getElem? (i := 0) rfl))
  have F_coder_xs := F_coder_xs.same W5
  refine oWk.st (fun _ kt => st _ (zA X hx hby d3_51 rfl rfl rfl (zB X hx hby d3_52 rfl rfl rfl kt))) ?_
  have E_xs := (E_xs.wr W5)
  have F_value_xs := ((F_value_xs.keep K1.1 nin0).other W5 (Or.inr (slot_ne (Or.inr (oW hw 22 rfl)) (Or.inr (oW hw 23 rfl)) (by decide) (t := (.array .byte)) (t' := .byte) (by decide) (by decide))))
  obtain ⟨T, h, X, e0, W6, st⟩ := putF X hx hZ hown (host := "") (Or.inl (oW hw 26 rfl)) Via.refl e0 F_value_xs E_xs (Or.inr ⟨(oW hw 22 rfl), rfl, hnm⟩) (oW hw 7 rfl) (ty := (.array .byte)) (by decide) rfl rfl (g := (mkF m 54 #[rv xs, rv xa, iv 0, iv 1, .val .null, rv nb1] [(.ref nb1), (.ref xs)])) rfl rfl (hb hby d3_54)
  have K := K.wr W6 (Or.inl (List.mem_of_getElem? (i := 0) rfl))
  have F_value_xs := F_value_xs.same W6
  refine oWk.to (mkF m 57 #[rv xs, rv xa, iv 0, iv 1, .val .null, rv nb1] []) (fun _ kt => st _ kt) ?_
  have E_xs := (E_xs.wr W6)
  have F_coder_xs := (F_coder_xs.other W6 (Or.inr (slot_ne (Or.inr (oW hw 23 rfl)) (Or.inr (oW hw 22 rfl)) (by decide) (t := .byte) (t' := (.array .byte)) (by decide) (by decide))))
  have V_nb1 := ((V_nb1.other W5 (Ne.symm ne_xs_nb1)).other W6 (Ne.symm ne_xs_nb1))
  exact oRetV X hx hlk hret (hb hby d3_57) (by rw [e0]; exact ⟨nb1, nk1, rfl, K, E_xs, F_coder_xs, F_value_xs, ge_nb1, V_nb1⟩) (by decide) (by decide)
def Q_rI1_1 (Z : State) (xs xa : Addr) (xk : ClassId) (xz : Int32) (xu xv : Value) (xc0 : Int32) (h0 : Heap) (v : Option Value) (h : Heap) (L : List Loc) : Prop := ∃ (nb : Addr) (nk : ClassId), v = none ∧ oKp h0 h [xs] L ∧ (Exa Z h xs Y0) ∧ (Fld Z h xs Y0 "coder" "B" (.int (0 : Int32))) ∧ (Fld Z h xs Y0 "value" "[B" (.ref nb)) ∧ (h0.size ≤ nb) ∧ (Arv Z h nb nk .byte (1 : Int32) [(ib xc0)] (.int (0 : Int32)))
theorem cs3 {a0 : Array Value} {Z : State} (hw : oHW a0 Z) : oCall Z Y0 (.invokespecial 27) yy0 jdk_42_method_149_code 6 none (oRi 4) := oCall.init rfl (oW hw 13 rfl) (oW hw 14 rfl) (oW hw 8 rfl) (oW hw 16 rfl) (by decide) pd_0
theorem rI1_1 (l : Launch) (Z : State) (a0 : Array Value) (hw : oHW a0 Z) (ws : List Jvm.Cond) (xs xa : Addr) (xk : ClassId) (xz : Int32) (xu xv : Value) (xc0 : Int32) (h0 : Heap) (O0 : Ext Z.heap h0) (S_Z : Sta Z Z.heap Y0 Y2 "Z" (.int xz)) (hz : ¬ xz = (0 : Int32)) (og_xs : Z.heap.size ≤ xs) (E_xs : Exa Z h0 xs Y0) (F_value_xs : Fld Z h0 xs Y0 "value" "[B" xu) (F_coder_xs : Fld Z h0 xs Y0 "coder" "B" xv) (V_xa : Arv Z h0 xa xk .char (1 : Int32) [(.int xc0)] (.int (0 : Int32))) (hc0_ : ¬ (255 : Int32) < xc0) :
    oCon l Z yy1 jdk_42_method_3_code 2 none ws ({ frames := 3, cells := 1, slots := 1, locals := 52 } : Room) #[(.ref xs), (.ref xa)] h0 (Q_rI1_1 Z xs xa xk xz xu xv xc0 h0) := by
  refine oCon.of (plainFor_of_name pn_0) ?_
  intro p e s m below meth c T X hx hby hml hown hnm hret hlk hZ e0
  have hml : c.maxLocals = 2 := hml
  have K : oKp h0 h0 [xs] [] := oKp.nil _ _
  refine oWk.cast (g' := (mkF m 0 #[rv xs, rv xa] [])) (by first | rfl | (simp [entryFrame, mkF, argsToLocals, Value.category]; done)) ?_
  refine oWk.st (fun _ kt => zA X hx hby d2_0 rfl rfl rfl (zA X hx hby d2_1 rfl rfl rfl (zK X hx hby d2_2 rfl (zA X hx hby d2_3 rfl rfl rfl (oAl X hx hZ e0 V_xa hby d2_4 rfl rfl (XS.aconstNull X.here hx rfl (hb hby d2_5) kt)))))) ?_
  have lt_xs := E_xs.lt
  have lt_xa := V_xa.lt
  have Oh := K.old O0 (allS og_xs all0)
  obtain ⟨_, T, h, Lc3, X, e0, hQ, st⟩ := (cs3 hw).run X hx hZ hown e0 (A := [(.ref xs), (.ref xa), (.int (0 : Int32)), (.int (1 : Int32)), .null]) ⟨rfl, _, _, rfl⟩ (rI4_1 l Z a0 hw [] xs xa xk xz xu xv xc0 h0 Oh S_Z hz og_xs E_xs F_value_xs F_coder_xs V_xa hc0_) (W := 0) (by decide) hml (Ls := #[rv xs, rv xa]) rfl (rest := []) rfl rfl hby d2_6
  obtain ⟨nb2, nk2, rfl, K2, E_xs, F_coder_xs, F_value_xs, gn_nb2, V_nb2⟩ := hQ
  have ge_nb2 := Nat.le_trans K.le gn_nb2
  have ne_xs_nb2 : xs ≠ nb2 := Nat.ne_of_lt (Nat.lt_of_lt_of_le lt_xs gn_nb2)
  have ne_xa_nb2 : xa ≠ nb2 := Nat.ne_of_lt (Nat.lt_of_lt_of_le lt_xa gn_nb2)
  have K := K.call K2 (allS (Or.inl (List.mem_of_getElem? (i := 0) rfl)) all0)
  refine oWk.to (mkF m 9 #[rv xs, rv xa] []) (fun _ kt => st _ kt) ?_
  exact oRetV X hx hlk hret (hb hby d2_9) (by rw [e0]; exact ⟨nb2, nk2, rfl, K, E_xs, F_coder_xs, F_value_xs, ge_nb2, V_nb2⟩) (by decide) (by decide)
def Q_rStr_1 (Z : State) (xc0 xc1 xz : Int32) (h0 : Heap) (v : Option Value) (h : Heap) (L : List Loc) : Prop := ∃ (nr : Addr) (nb : Addr) (nk : ClassId), v = some (.ref nr) ∧ oKp h0 h [] L ∧ (h0.size ≤ nr) ∧ (h0.size ≤ nb) ∧ (Exa Z h nr Y0) ∧ (Fld Z h nr Y0 "coder" "B" (.int (0 : Int32))) ∧ (Fld Z h nr Y0 "value" "[B" (.ref nb)) ∧ (Arv Z h nb nk .byte (1 : Int32) [(ib xc0)] (.int (0 : Int32)))
theorem d1_15 : decode method_2_code 15 = .ok (.iload_n 0, 1) := by decide +kernel
theorem d1_16 : decode method_2_code 16 = .ok (.iconst 1, 1) := by decide +kernel
theorem d1_17 : decode method_2_code 17 = .ok (.if_icmp .ne 18, 3) := by decide +kernel
theorem d1_20 : decode method_2_code 20 = .ok (.new 7, 3) := by decide +kernel
theorem d1_23 : decode method_2_code 23 = .ok (.dup, 1) := by decide +kernel
theorem d1_24 : decode method_2_code 24 = .ok (.iconst 1, 1) := by decide +kernel
theorem d1_25 : decode method_2_code 25 = .ok (.newarray .char, 2) := by decide +kernel
theorem d1_27 : decode method_2_code 27 = .ok (.dup, 1) := by decide +kernel
theorem d1_28 : decode method_2_code 28 = .ok (.iconst 0, 1) := by decide +kernel
theorem d1_29 : decode method_2_code 29 = .ok (.iload_n 1, 1) := by decide +kernel
theorem d1_30 : decode method_2_code 30 = .ok (.castore, 1) := by decide +kernel
theorem d1_31 : decode method_2_code 31 = .ok (.invokespecial 9, 3) := by decide +kernel
theorem cs4 {a0 : Array Value} {Z : State} (hw : oHW a0 Z) : oCall Z Y9 (.invokespecial 9) yy1 jdk_42_method_3_code 2 none (oRi 1) := oCall.init rfl (oW hw 10 rfl) (oW hw 11 rfl) (oW hw 8 rfl) (oW hw 12 rfl) (by decide) pd_1
theorem d1_34 : decode method_2_code 34 = .ok (.areturn, 1) := by decide +kernel
theorem rStr_1 (l : Launch) (Z : State) (a0 : Array Value) (hw : oHW a0 Z) (ws : List Jvm.Cond) (xc0 xc1 xz : Int32) (h0 : Heap) (O0 : Ext Z.heap h0) (S_Z : Sta Z Z.heap Y0 Y2 "Z" (.int xz)) (hz : ¬ xz = (0 : Int32)) (hr0 : 0 ≤ xc0.toInt ∧ xc0.toInt < 256) :
    oCon l Z yy2 method_2_code 3 (some (.object Y0)) ws ({ frames := 4, cells := 3, slots := 6, locals := 66 } : Room) #[(.int (1 : Int32)), (.int xc0), (.int xc1)] h0 (Q_rStr_1 Z xc0 xc1 xz h0) := by
  refine oCon.of (plainFor_of_name pn_1) ?_
  intro p e s m below meth c T X hx hby hml hown hnm hret hlk hZ e0
  have hml : c.maxLocals = 3 := hml
  have K : oKp h0 h0 [] [] := oKp.nil _ _
  refine oWk.cast (g' := (mkF m 0 #[iv 1, iv xc0, iv xc1] [])) (by first | rfl | (simp [entryFrame, mkF, argsToLocals, Value.category]; done)) ?_
  refine oWk.st (fun _ kt => zI X hx hby d1_0 rfl rfl (zF X hx hby d1_1 rfl rfl ((if0 _ _).trans (feq (by decide)).2) (pc' := 15) rfl (zI X hx hby d1_15 rfl rfl (zK X hx hby d1_16 rfl (zN X hx hby d1_17 rfl rfl (teq (by decide)).2 kt))))) ?_
  obtain ⟨o1, g1⟩ : ∃ z, z = h0.size := ⟨_, rfl⟩
  have ge_o1 : h0.size ≤ o1 := Nat.le_trans K.le (Nat.le_of_eq g1.symm)
  obtain ⟨T, h, X, e0, E1, A1, D1, -, st⟩ := newO X hx hZ hown (oW hw 6 rfl) (oW hw 7 rfl) (oW hw 8 rfl) e0 (g := (mkF m 20 #[iv 1, iv xc0, iv xc1] [])) rfl (hb hby d1_20) (by decide) (by decide)
  rw [← g1] at A1 D1 st
  have K := K.ext E1
  have E_o1 := A1
  have F_value_o1 : Fld Z h o1 Y0 "value" "[B" .null := D1 (Or.inr (oW hw 22 rfl)) (ty := (.array .byte)) (by decide)
  have F_coder_o1 : Fld Z h o1 Y0 "coder" "B" (.int (0 : Int32)) := D1 (Or.inr (oW hw 23 rfl)) (ty := .byte) (by decide)
  refine oWk.st (fun _ kt => st _ (zD X hx hby d1_23 rfl rfl rfl (zK X hx hby d1_24 rfl kt))) ?_
  obtain ⟨o2, g2⟩ : ∃ z, z = h.size := ⟨_, rfl⟩
  have ne_o1_o2 : o1 ≠ o2 := Nat.ne_of_lt (Nat.lt_of_lt_of_le E_o1.lt (Nat.le_of_eq g2.symm))
  have ge_o2 : h0.size ≤ o2 := Nat.le_trans K.le (Nat.le_of_eq g2.symm)
  obtain ⟨T, h, k2, X, e0, E2, A2, st⟩ := newP X hx hZ (oW hw 9 rfl) e0 (g := (mkF m 25 #[iv 1, iv xc0, iv xc1] [(.int 1), (.ref o1), (.ref o1)])) rfl (hb hby d1_25) rfl (by decide) (cap := 1) (by decide) (by decide) (by decide) (by decide)
  rw [← g2] at A2 st
  have K := K.ext E2
  have V_o2 : Arv Z h o2 k2 .char (1 : Int32) [(.int (0 : Int32))] (.int (0 : Int32)) := (Arv.new A2 (by decide)).pad (pad_rep [] (.int (0 : Int32)) 1)
  refine oWk.st (fun _ kt => st _ (zD X hx hby d1_27 rfl rfl rfl (zK X hx hby d1_28 rfl (zI X hx hby d1_29 rfl rfl kt)))) ?_
  obtain ⟨cl3, Ar3, q3, Sz3, Nn3, Hs3, Ft3⟩ := id V_o2
  have hin3 : ¬ ((0 : Int32) < 0 ∨ cl3.slots.size ≤ ((0 : Int32)).toNatClampNeg) := inb_of Sz3 ⟨by decide, by decide⟩
  obtain ⟨T, h, X, e0, W3, st⟩ := stC X hx hZ e0 Ar3 (j := (0 : Int32)) hin3 (g := (mkF m 30 #[iv 1, iv xc0, iv xc1] [(.int xc0), (.int 0), (.ref o2), (.ref o2), (.ref o1), (.ref o1)])) rfl rfl (hb hby d1_30)
  have K := K.wr W3 (Or.inr ge_o2)
  have V_o2 := Arv.set Ar3 q3 Sz3 Nn3 Hs3 Ft3 (fits_nar_char _) W3 0 rfl (Nat.le_of_ble_eq_true rfl)
  rw [show nar .char xc0 = xc0 from oChr hr0] at V_o2
  replace V_o2 : Arv Z h o2 k2 .char (1 : Int32) [(.int xc0)] (.int (0 : Int32)) := V_o2
  refine oWk.st (fun _ kt => st _ kt) ?_
  have E_o1 := ((E_o1.ext E2).wr W3)
  have F_value_o1 := ((F_value_o1.ext E2).other W3 (Or.inl ne_o1_o2))
  have F_coder_o1 := ((F_coder_o1.ext E2).other W3 (Or.inl ne_o1_o2))
  have lt_o1 := E_o1.lt
  have lt_o2 := V_o2.lt
  have Oh := K.old O0 all0
  obtain ⟨_, T, h, Lc5, X, e0, hQ, st⟩ := (cs4 hw).run X hx hZ hown e0 (A := [(.ref o1), (.ref o2)]) ⟨rfl, _, _, rfl⟩ (rI1_1 l Z a0 hw [] o1 o2 k2 xz .null (.int (0 : Int32)) xc0 h Oh S_Z hz (Nat.le_trans O0.1 ge_o1) E_o1 F_value_o1 F_coder_o1 V_o2 (oLe255 hr0)) (W := 1) (by decide) hml (Ls := #[iv 1, iv xc0, iv xc1]) rfl (rest := [(.ref o1)]) rfl rfl hby d1_31
  obtain ⟨nb4, nk4, rfl, K4, E_o1, F_coder_o1, F_value_o1, gn_nb4, V_nb4⟩ := hQ
  have ge_nb4 := Nat.le_trans K.le gn_nb4
  have ne_o1_nb4 : o1 ≠ nb4 := Nat.ne_of_lt (Nat.lt_of_lt_of_le lt_o1 gn_nb4)
  have ne_o2_nb4 : o2 ≠ nb4 := Nat.ne_of_lt (Nat.lt_of_lt_of_le lt_o2 gn_nb4)
  have K := K.call K4 (allS (Or.inr ge_o1) all0)
  refine oWk.to (mkF m 34 #[iv 1, iv xc0, iv xc1] [(.ref o1)]) (fun _ kt => st _ kt) ?_
  exact oRetA X hx hlk hret rfl rfl (hb hby d1_34) (by rw [e0]; exact ⟨o1, nb4, nk4, rfl, K, ge_o1, ge_nb4, E_o1, F_coder_o1, F_value_o1, V_nb4⟩) (by decide) (by decide)
def Q_rC5_2 (Z : State) (xa xd : Addr) (xk xl : ClassId) (xc0 xc1 : Int32) (h0 : Heap) (v : Option Value) (h : Heap) (L : List Loc) : Prop := v = some (.int (2 : Int32)) ∧ oKp h0 h [xd] L ∧ (Arv Z h xd xl .byte (2 : Int32) [(ib xc0), (ib xc1)] (.int (0 : Int32)))
theorem rC5_2 (l : Launch) (Z : State) (a0 : Array Value) (hw : oHW a0 Z) (ws : List Jvm.Cond) (xa xd : Addr) (xk xl : ClassId) (xc0 xc1 : Int32) (h0 : Heap) (O0 : Ext Z.heap h0) (og_xd : Z.heap.size ≤ xd) (ne_xa_xd : xa ≠ xd) (V_xa : Arv Z h0 xa xk .char (2 : Int32) [(.int xc0), (.int xc1)] (.int (0 : Int32))) (V_xd : Arv Z h0 xd xl .byte (2 : Int32) [(.int (0 : Int32)), (.int (0 : Int32))] (.int (0 : Int32))) (hc0_ : ¬ (255 : Int32) < xc0) (hc1_ : ¬ (255 : Int32) < xc1) :
    oCon l Z yy3 jdk_52_method_21_code 7 (some .int) ws ({ frames := 0, cells := 0, slots := 0, locals := 0 } : Room) #[(.ref xa), (.int (0 : Int32)), (.ref xd), (.int (0 : Int32)), (.int (2 : Int32))] h0 (Q_rC5_2 Z xa xd xk xl xc0 xc1 h0) := by
  refine oCon.of (plainFor_of_name pn_2) ?_
  intro p e s m below meth c T X hx hby hml hown hnm hret hlk hZ e0
  have hml : c.maxLocals = 7 := hml
  have K : oKp h0 h0 [xd] [] := oKp.nil _ _
  refine oWk.cast (g' := (mkF m 0 #[rv xa, iv 0, rv xd, iv 0, iv 2, uu, uu] [])) (by first | rfl | (simp [entryFrame, mkF, argsToLocals, Value.category]; done)) ?_
  refine oWk.to (mkF m 12 #[rv xa, iv 0, rv xd, iv 0, iv 2, iv 0, uu] [(.int 0), (.ref xa)]) (fun _ kt => zK X hx hby d17_0 rfl (zS X hx hby d17_1 rfl rfl (l' := #[rv xa, iv 0, rv xd, iv 0, iv 2, iv 0, uu]) rfl (zJ X hx hby d17_3 rfl rfl (zJ X hx hby d17_5 rfl rfl (zN X hx hby d17_7 rfl rfl (tlt (by decide)).2.1 (zA X hx hby d17_10 rfl rfl rfl (zI X hx hby d17_11 rfl rfl kt))))))) ?_
  refine oWk.to (mkF m 20 #[rv xa, iv 0, rv xd, iv 0, iv 2, iv 0, iv xc0] [(.int 255), (.int xc0)]) (fun _ kt => oLdC X hx hZ e0 V_xa (0 : Int32) (.int xc0) ⟨by decide, by decide⟩ rfl hby d17_12 rfl rfl (zS X hx hby d17_13 rfl rfl (l' := #[rv xa, iv 0, rv xd, iv 0, iv 2, iv 0, iv xc0]) rfl (zJ X hx hby d17_15 rfl rfl (zM X hx hby d17_17 rfl kt)))) ?_
  refine oWk.to (mkF m 31 #[rv xa, iv 0, rv xd, iv 0, iv 2, iv 0, iv xc0] [(ib xc0), (.int 0), (.ref xd)]) (fun _ kt => zY X hx hby d17_20 rfl rfl (flt hc0_).2.2.2 (pc' := 26) rfl (zA X hx hby d17_26 rfl rfl rfl (zI X hx hby d17_27 rfl rfl (zJ X hx hby d17_28 rfl rfl (XS.i2b X.here hx rfl (hb hby d17_30) rfl kt))))) ?_
  obtain ⟨cl2, Ar2, q2, Sz2, Nn2, Hs2, Ft2⟩ := id V_xd
  have hin2 : ¬ ((0 : Int32) < 0 ∨ cl2.slots.size ≤ ((0 : Int32)).toNatClampNeg) := inb_of Sz2 ⟨by decide, by decide⟩
  obtain ⟨T, h, X, e0, W2, st⟩ := stB X hx hZ e0 Ar2 (j := (0 : Int32)) hin2 (g := (mkF m 31 #[rv xa, iv 0, rv xd, iv 0, iv 2, iv 0, iv xc0] [(ib xc0), (.int 0), (.ref xd)])) rfl rfl (hb hby d17_31)
  have K := K.wr W2 (Or.inl (List.mem_of_getElem? (i := 0) rfl))
  have V_xd := Arv.set Ar2 q2 Sz2 Nn2 Hs2 Ft2 (fits_nar_byte _) W2 0 rfl (Nat.le_of_ble_eq_true rfl)
  rw [oB8 xc0] at V_xd
  replace V_xd : Arv Z h xd xl .byte (2 : Int32) [(ib xc0), (.int (0 : Int32))] (.int (0 : Int32)) := V_xd
  refine oWk.to (mkF m 7 #[rv xa, iv 1, rv xd, iv 1, iv 2, iv 1, iv xc0] [(.int 2), (.int 1)]) (fun _ kt => st _ (zC X hx hby d17_32 rfl rfl (l' := #[rv xa, iv ((0 : Int32) + (1 : Int32)), rv xd, iv 0, iv 2, iv 0, iv xc0]) rfl (zC X hx hby d17_35 rfl rfl (l' := #[rv xa, iv 1, rv xd, iv ((0 : Int32) + (1 : Int32)), iv 2, iv 0, iv xc0]) rfl (zC X hx hby d17_38 rfl rfl (l' := #[rv xa, iv 1, rv xd, iv 1, iv 2, iv ((0 : Int32) + (1 : Int32)), iv xc0]) rfl (zG X hx hby d17_41 rfl (pc' := 3) rfl (zJ X hx hby d17_3 rfl rfl (zJ X hx hby d17_5 rfl rfl kt))))))) ?_
  refine oWk.st (fun _ kt => zN X hx hby d17_7 rfl rfl (tlt (by decide)).2.1 (zA X hx hby d17_10 rfl rfl rfl (zI X hx hby d17_11 rfl rfl kt))) ?_
  have V_xa := (V_xa.other W2 ne_xa_xd)
  refine oWk.to (mkF m 20 #[rv xa, iv 1, rv xd, iv 1, iv 2, iv 1, iv xc1] [(.int 255), (.int xc1)]) (fun _ kt => oLdC X hx hZ e0 V_xa (1 : Int32) (.int xc1) ⟨by decide, by decide⟩ rfl hby d17_12 rfl rfl (zS X hx hby d17_13 rfl rfl (l' := #[rv xa, iv 1, rv xd, iv 1, iv 2, iv 1, iv xc1]) rfl (zJ X hx hby d17_15 rfl rfl (zM X hx hby d17_17 rfl kt)))) ?_
  refine oWk.to (mkF m 31 #[rv xa, iv 1, rv xd, iv 1, iv 2, iv 1, iv xc1] [(ib xc1), (.int 1), (.ref xd)]) (fun _ kt => zY X hx hby d17_20 rfl rfl (flt hc1_).2.2.2 (pc' := 26) rfl (zA X hx hby d17_26 rfl rfl rfl (zI X hx hby d17_27 rfl rfl (zJ X hx hby d17_28 rfl rfl (XS.i2b X.here hx rfl (hb hby d17_30) rfl kt))))) ?_
  obtain ⟨cl4, Ar4, q4, Sz4, Nn4, Hs4, Ft4⟩ := id V_xd
  have hin4 : ¬ ((1 : Int32) < 0 ∨ cl4.slots.size ≤ ((1 : Int32)).toNatClampNeg) := inb_of Sz4 ⟨by decide, by decide⟩
  obtain ⟨T, h, X, e0, W4, st⟩ := stB X hx hZ e0 Ar4 (j := (1 : Int32)) hin4 (g := (mkF m 31 #[rv xa, iv 1, rv xd, iv 1, iv 2, iv 1, iv xc1] [(ib xc1), (.int 1), (.ref xd)])) rfl rfl (hb hby d17_31)
  have K := K.wr W4 (Or.inl (List.mem_of_getElem? (i := 0) rfl))
  have V_xd := Arv.set Ar4 q4 Sz4 Nn4 Hs4 Ft4 (fits_nar_byte _) W4 1 rfl (Nat.le_of_ble_eq_true rfl)
  rw [oB8 xc1] at V_xd
  replace V_xd : Arv Z h xd xl .byte (2 : Int32) [(ib xc0), (ib xc1)] (.int (0 : Int32)) := V_xd
  refine oWk.to (mkF m 7 #[rv xa, iv 2, rv xd, iv 2, iv 2, iv 2, iv xc1] [(.int 2), (.int 2)]) (fun _ kt => st _ (zC X hx hby d17_32 rfl rfl (l' := #[rv xa, iv ((1 : Int32) + (1 : Int32)), rv xd, iv 1, iv 2, iv 1, iv xc1]) rfl (zC X hx hby d17_35 rfl rfl (l' := #[rv xa, iv 2, rv xd, iv ((1 : Int32) + (1 : Int32)), iv 2, iv 1, iv xc1]) rfl (zC X hx hby d17_38 rfl rfl (l' := #[rv xa, iv 2, rv xd, iv 2, iv 2, iv ((1 : Int32) + (1 : Int32)), iv xc1]) rfl (zG X hx hby d17_41 rfl (pc' := 3) rfl (zJ X hx hby d17_3 rfl rfl (zJ X hx hby d17_5 rfl rfl kt))))))) ?_
  refine oWk.to (mkF m 46 #[rv xa, iv 2, rv xd, iv 2, iv 2, iv 2, iv xc1] [(.int 2)]) (fun _ kt => zY X hx hby d17_7 rfl rfl (flt (by decide)).2.1 (pc' := 44) rfl (zJ X hx hby d17_44 rfl rfl kt)) ?_
  exact oRetI X hx hlk hret (hb hby d17_46) (by rw [e0]; exact ⟨rfl, K, V_xd⟩) (by decide) (by decide)
def Q_rC3_2 (Z : State) (xa : Addr) (xk : ClassId) (xc0 xc1 : Int32) (h0 : Heap) (v : Option Value) (h : Heap) (L : List Loc) : Prop := ∃ (nb : Addr) (nk : ClassId), v = some (.ref nb) ∧ oKp h0 h [] L ∧ (h0.size ≤ nb) ∧ (Arv Z h nb nk .byte (2 : Int32) [(ib xc0), (ib xc1)] (.int (0 : Int32)))
theorem rC3_2 (l : Launch) (Z : State) (a0 : Array Value) (hw : oHW a0 Z) (ws : List Jvm.Cond) (xa : Addr) (xk : ClassId) (xc0 xc1 : Int32) (h0 : Heap) (O0 : Ext Z.heap h0) (V_xa : Arv Z h0 xa xk .char (2 : Int32) [(.int xc0), (.int xc1)] (.int (0 : Int32))) (hc0_ : ¬ (255 : Int32) < xc0) (hc1_ : ¬ (255 : Int32) < xc1) :
    oCon l Z yy4 jdk_52_method_16_code 6 (some (.array .byte)) ws ({ frames := 1, cells := 1, slots := 2, locals := 18 } : Room) #[(.ref xa), (.int (0 : Int32)), (.int (2 : Int32))] h0 (Q_rC3_2 Z xa xk xc0 xc1 h0) := by
  refine oCon.of (plainFor_of_name pn_2) ?_
  intro p e s m below meth c T X hx hby hml hown hnm hret hlk hZ e0
  have hml : c.maxLocals = 6 := hml
  have K : oKp h0 h0 [] [] := oKp.nil _ _
  refine oWk.cast (g' := (mkF m 0 #[rv xa, iv 0, iv 2, uu, uu, uu] [])) (by first | rfl | (simp [entryFrame, mkF, argsToLocals, Value.category]; done)) ?_
  refine oWk.st (fun _ kt => zI X hx hby d16_0 rfl rfl kt) ?_
  obtain ⟨o1, g1⟩ : ∃ z, z = h0.size := ⟨_, rfl⟩
  have ne_xa_o1 : xa ≠ o1 := Nat.ne_of_lt (Nat.lt_of_lt_of_le V_xa.lt (Nat.le_of_eq g1.symm))
  have ge_o1 : h0.size ≤ o1 := Nat.le_trans K.le (Nat.le_of_eq g1.symm)
  obtain ⟨T, h, k1, X, e0, E1, A1, st⟩ := newP X hx hZ (oW hw 21 rfl) e0 (g := (mkF m 1 #[rv xa, iv 0, iv 2, uu, uu, uu] [(.int 2)])) rfl (hb hby d16_1) rfl (by decide) (cap := 2) (by decide) (by decide) (by decide) (by decide)
  rw [← g1] at A1 st
  have K := K.ext E1
  have V_o1 : Arv Z h o1 k1 .byte (2 : Int32) [(.int (0 : Int32)), (.int (0 : Int32))] (.int (0 : Int32)) := (Arv.new A1 (by decide)).pad (pad_rep [] (.int (0 : Int32)) 2)
  refine oWk.to (mkF m 9 #[rv xa, iv 0, iv 2, rv o1, uu, uu] [(.int 2), (.int 0), (.ref o1), (.int 0), (.ref xa)]) (fun _ kt => st _ (zTn X hx hby d16_3 rfl rfl rfl (l' := #[rv xa, iv 0, iv 2, rv o1, uu, uu]) rfl (zA X hx hby d16_4 rfl rfl rfl (zI X hx hby d16_5 rfl rfl (zA X hx hby d16_6 rfl rfl rfl (zK X hx hby d16_7 rfl (zI X hx hby d16_8 rfl rfl kt))))))) ?_
  have V_xa := (V_xa.ext E1)
  have Oh := K.old O0 all0
  obtain ⟨_, T, h, Lc3, X, e0, hQ, st⟩ := (cs0 hw).run X hx hZ hown e0 (A := [(.ref xa), (.int (0 : Int32)), (.ref o1), (.int (0 : Int32)), (.int (2 : Int32))]) rfl (rC5_2 l Z a0 hw [] xa o1 xk k1 xc0 xc1 h Oh (Nat.le_trans O0.1 ge_o1) ne_xa_o1 V_xa V_o1 hc0_ hc1_) (W := 0) (by decide) hml (Ls := #[rv xa, iv 0, iv 2, rv o1, uu, uu]) rfl (rest := []) rfl rfl hby d16_9
  obtain ⟨rfl, K2, V_o1⟩ := hQ
  have K := K.call K2 (allS (Or.inr ge_o1) all0)
  refine oWk.to (mkF m 58 #[rv xa, iv 0, iv 2, rv o1, iv 2, uu] [(.ref o1)]) (fun _ kt => st _ (zS X hx hby d16_12 rfl rfl (l' := #[rv xa, iv 0, iv 2, rv o1, iv 2, uu]) rfl (zJ X hx hby d16_14 rfl rfl (zI X hx hby d16_16 rfl rfl (zY X hx hby d16_17 rfl rfl (teq (by decide)).1 (pc' := 57) rfl (zA X hx hby d16_57 rfl rfl rfl kt)))))) ?_
  exact oRetA X hx hlk hret rfl rfl (hb hby d16_58) (by rw [e0]; exact ⟨o1, k1, rfl, K, ge_o1, V_o1⟩) (by decide) (by decide)
theorem rCo_2 (l : Launch) (Z : State) (a0 : Array Value) (hw : oHW a0 Z) (ws : List Jvm.Cond) (xb : Addr) (xk : ClassId) (xy0 xy1 : Int32) (h0 : Heap) (O0 : Ext Z.heap h0) (V_xb : Arv Z h0 xb xk .byte (2 : Int32) [(.int xy0), (.int xy1)] (.int (0 : Int32))) :
    oCon l Z yy5 jdk_52_method_15_code 2 (some .byte) ws ({ frames := 0, cells := 0, slots := 0, locals := 0 } : Room) #[(.ref xb), (.int (2 : Int32))] h0 (oPq (some (.int (0 : Int32))) h0) := by
  refine oCon.of (plainFor_of_name pn_2) ?_
  intro p e s m below meth c T X hx hby hml hown hnm hret hlk hZ e0
  have hml : c.maxLocals = 2 := hml
  have K : oKp h0 h0 [] [] := oKp.nil _ _
  refine oWk.cast (g' := (mkF m 0 #[rv xb, iv 2] [])) (by first | rfl | (simp [entryFrame, mkF, argsToLocals, Value.category]; done)) ?_
  refine oWk.to (mkF m 8 #[rv xb, iv 2] [(.int 0)]) (fun _ kt => zI X hx hby d18_0 rfl rfl (zA X hx hby d18_1 rfl rfl rfl (oAl X hx hZ e0 V_xb hby d18_2 rfl rfl (XS.isub X.here hx rfl (hb hby d18_3) rfl (zL X hx hby d18_4 rfl (XS.iushr X.here hx rfl (hb hby d18_6) rfl (XS.i2b X.here hx rfl (hb hby d18_7) rfl kt))))))) ?_
  exact oRetN X hx hlk hret (Or.inl rfl) rfl (hb hby d18_8) (by rw [e0]; exact ⟨rfl, rfl, K⟩) (by decide) (by decide)
def Q_rI4_2 (Z : State) (xs xa : Addr) (xk : ClassId) (xz : Int32) (xu xv : Value) (xc0 xc1 : Int32) (h0 : Heap) (v : Option Value) (h : Heap) (L : List Loc) : Prop := ∃ (nb : Addr) (nk : ClassId), v = none ∧ oKp h0 h [xs] L ∧ (Exa Z h xs Y0) ∧ (Fld Z h xs Y0 "coder" "B" (.int (0 : Int32))) ∧ (Fld Z h xs Y0 "value" "[B" (.ref nb)) ∧ (h0.size ≤ nb) ∧ (Arv Z h nb nk .byte (2 : Int32) [(ib xc0), (ib xc1)] (.int (0 : Int32)))
theorem rI4_2 (l : Launch) (Z : State) (a0 : Array Value) (hw : oHW a0 Z) (ws : List Jvm.Cond) (xs xa : Addr) (xk : ClassId) (xz : Int32) (xu xv : Value) (xc0 xc1 : Int32) (h0 : Heap) (O0 : Ext Z.heap h0) (S_Z : Sta Z Z.heap Y0 Y2 "Z" (.int xz)) (hz : ¬ xz = (0 : Int32)) (og_xs : Z.heap.size ≤ xs) (E_xs : Exa Z h0 xs Y0) (F_value_xs : Fld Z h0 xs Y0 "value" "[B" xu) (F_coder_xs : Fld Z h0 xs Y0 "coder" "B" xv) (V_xa : Arv Z h0 xa xk .char (2 : Int32) [(.int xc0), (.int xc1)] (.int (0 : Int32))) (hc0_ : ¬ (255 : Int32) < xc0) (hc1_ : ¬ (255 : Int32) < xc1) :
    oCon l Z yy0 jdk_42_method_149_code 6 none ws ({ frames := 2, cells := 1, slots := 2, locals := 35 } : Room) #[(.ref xs), (.ref xa), (.int (0 : Int32)), (.int (2 : Int32)), .null] h0 (Q_rI4_2 Z xs xa xk xz xu xv xc0 xc1 h0) := by
  refine oCon.of (plainFor_of_name pn_0) ?_
  intro p e s m below meth c T X hx hby hml hown hnm hret hlk hZ e0
  have hml : c.maxLocals = 6 := hml
  have K : oKp h0 h0 [xs] [] := oKp.nil _ _
  refine oWk.cast (g' := (mkF m 0 #[rv xs, rv xa, iv 0, iv 2, .val .null, uu] [])) (by first | rfl | (simp [entryFrame, mkF, argsToLocals, Value.category]; done)) ?_
  refine oWk.st (fun _ kt => zA X hx hby d3_0 rfl rfl rfl kt) ?_
  obtain ⟨T, X, e0, st⟩ := initO X hx hZ hown (oW hw 17 rfl) (oW hw 18 rfl) (oW hw 19 rfl) e0 (g := (mkF m 1 #[rv xs, rv xa, iv 0, iv 2, .val .null, uu] [(.ref xs)])) rfl (by rw [hml]; rfl) rfl (hb hby d3_1) (by decide) (W := 0) (Nat.le_of_eq rfl) (by decide)
  refine oWk.st (fun _ kt => st _ (zI X hx hby d3_4 rfl rfl (zF X hx hby d3_5 rfl rfl ((if0 _ _).trans (feq (by decide)).2) (pc' := 27) rfl kt))) ?_
  have Oh := K.old O0 (allS og_xs all0)
  obtain ⟨T, X, e0, st⟩ := getS2 X hx hZ hown (host := "") (Or.inl (oW hw 58 rfl)) Via.refl e0 (S_Z.ext Oh) (g := (mkF m 27 #[rv xs, rv xa, iv 0, iv 2, .val .null, uu] [])) rfl (hb hby d3_27)
  refine oWk.st (fun _ kt => st _ (zH X hx hby d3_30 rfl rfl ((if0 _ _).trans (feq hz).1) (zA X hx hby d3_33 rfl rfl rfl (zI X hx hby d3_34 rfl rfl (zI X hx hby d3_35 rfl rfl kt))))) ?_
  have lt_xs := E_xs.lt
  have lt_xa := V_xa.lt
  obtain ⟨_, T, h, Lc2, X, e0, hQ, st⟩ := (cs1 hw).run X hx hZ hown e0 (A := [(.ref xa), (.int (0 : Int32)), (.int (2 : Int32))]) rfl (rC3_2 l Z a0 hw [] xa xk xc0 xc1 h0 Oh V_xa hc0_ hc1_) (W := 0) (by decide) hml (Ls := #[rv xs, rv xa, iv 0, iv 2, .val .null, uu]) rfl (rest := []) rfl rfl hby d3_36
  obtain ⟨nb1, nk1, rfl, K1, gn_nb1, V_nb1⟩ := hQ
  have ge_nb1 := Nat.le_trans K.le gn_nb1
  have ne_xs_nb1 : xs ≠ nb1 := Nat.ne_of_lt (Nat.lt_of_lt_of_le lt_xs gn_nb1)
  have ne_xa_nb1 : xa ≠ nb1 := Nat.ne_of_lt (Nat.lt_of_lt_of_le lt_xa gn_nb1)
  have K := K.call K1 all0
  refine oWk.st (fun _ kt => st _ (zT X hx hby d3_39 rfl rfl rfl (l' := #[rv xs, rv xa, iv 0, iv 2, .val .null, rv nb1]) rfl (zA X hx hby d3_41 rfl rfl rfl (zB X hx hby d3_42 rfl rfl rfl (zI X hx hby d3_44 rfl rfl kt))))) ?_
  have Oh := K.old O0 (allS og_xs all0)
  obtain ⟨T, L4, X, e0, K, st⟩ := (cs2 hw).pure X hx hZ hown e0 K (A := [(.ref nb1), (.int (2 : Int32))]) rfl (rCo_2 l Z a0 hw [] nb1 nk1 (xc0.toInt8.toInt32) (xc1.toInt8.toInt32) h Oh V_nb1) (W := 1) (by decide) hml (Ls := #[rv xs, rv xa, iv 0, iv 2, .val .null, rv nb1]) rfl (rest := [(.ref xs)]) rfl rfl hby d3_45
  refine oWk.st (fun _ kt => st _ kt) ?_
  have E_xs := (E_xs.keep K1.1)
  have F_coder_xs := (F_coder_xs.keep K1.1 nin0)
  obtain ⟨T, h, X, e0, W5, st⟩ := putFN X hx hZ hown (oW hw 27 rfl) Via.refl e0 F_coder_xs E_xs (Or.inr ⟨(oW hw 23 rfl), rfl, hnm⟩) (oW hw 7 rfl) (ty := .byte) (v' := .int (0 : Int32)) (by decide) rfl (by decide) (g := (mkF m 48 #[rv xs, rv xa, iv 0, iv 2, .val .null, rv nb1] [(.int 0), (.ref xs)])) rfl rfl (hb hby d3_48)
  have K := K.wr W5 (Or.inl (List.mem_of_getElem? (i := 0) rfl))
  have F_coder_xs := F_coder_xs.same W5
  refine oWk.st (fun _ kt => st _ (zA X hx hby d3_51 rfl rfl rfl (zB X hx hby d3_52 rfl rfl rfl kt))) ?_
  have E_xs := (E_xs.wr W5)
  have F_value_xs := ((F_value_xs.keep K1.1 nin0).other W5 (Or.inr (slot_ne (Or.inr (oW hw 22 rfl)) (Or.inr (oW hw 23 rfl)) (by decide) (t := (.array .byte)) (t' := .byte) (by decide) (by decide))))
  obtain ⟨T, h, X, e0, W6, st⟩ := putF X hx hZ hown (host := "") (Or.inl (oW hw 26 rfl)) Via.refl e0 F_value_xs E_xs (Or.inr ⟨(oW hw 22 rfl), rfl, hnm⟩) (oW hw 7 rfl) (ty := (.array .byte)) (by decide) rfl rfl (g := (mkF m 54 #[rv xs, rv xa, iv 0, iv 2, .val .null, rv nb1] [(.ref nb1), (.ref xs)])) rfl rfl (hb hby d3_54)
  have K := K.wr W6 (Or.inl (List.mem_of_getElem? (i := 0) rfl))
  have F_value_xs := F_value_xs.same W6
  refine oWk.to (mkF m 57 #[rv xs, rv xa, iv 0, iv 2, .val .null, rv nb1] []) (fun _ kt => st _ kt) ?_
  have E_xs := (E_xs.wr W6)
  have F_coder_xs := (F_coder_xs.other W6 (Or.inr (slot_ne (Or.inr (oW hw 23 rfl)) (Or.inr (oW hw 22 rfl)) (by decide) (t := .byte) (t' := (.array .byte)) (by decide) (by decide))))
  have V_nb1 := ((V_nb1.other W5 (Ne.symm ne_xs_nb1)).other W6 (Ne.symm ne_xs_nb1))
  exact oRetV X hx hlk hret (hb hby d3_57) (by rw [e0]; exact ⟨nb1, nk1, rfl, K, E_xs, F_coder_xs, F_value_xs, ge_nb1, V_nb1⟩) (by decide) (by decide)
def Q_rI1_2 (Z : State) (xs xa : Addr) (xk : ClassId) (xz : Int32) (xu xv : Value) (xc0 xc1 : Int32) (h0 : Heap) (v : Option Value) (h : Heap) (L : List Loc) : Prop := ∃ (nb : Addr) (nk : ClassId), v = none ∧ oKp h0 h [xs] L ∧ (Exa Z h xs Y0) ∧ (Fld Z h xs Y0 "coder" "B" (.int (0 : Int32))) ∧ (Fld Z h xs Y0 "value" "[B" (.ref nb)) ∧ (h0.size ≤ nb) ∧ (Arv Z h nb nk .byte (2 : Int32) [(ib xc0), (ib xc1)] (.int (0 : Int32)))
theorem rI1_2 (l : Launch) (Z : State) (a0 : Array Value) (hw : oHW a0 Z) (ws : List Jvm.Cond) (xs xa : Addr) (xk : ClassId) (xz : Int32) (xu xv : Value) (xc0 xc1 : Int32) (h0 : Heap) (O0 : Ext Z.heap h0) (S_Z : Sta Z Z.heap Y0 Y2 "Z" (.int xz)) (hz : ¬ xz = (0 : Int32)) (og_xs : Z.heap.size ≤ xs) (E_xs : Exa Z h0 xs Y0) (F_value_xs : Fld Z h0 xs Y0 "value" "[B" xu) (F_coder_xs : Fld Z h0 xs Y0 "coder" "B" xv) (V_xa : Arv Z h0 xa xk .char (2 : Int32) [(.int xc0), (.int xc1)] (.int (0 : Int32))) (hc0_ : ¬ (255 : Int32) < xc0) (hc1_ : ¬ (255 : Int32) < xc1) :
    oCon l Z yy1 jdk_42_method_3_code 2 none ws ({ frames := 3, cells := 1, slots := 2, locals := 52 } : Room) #[(.ref xs), (.ref xa)] h0 (Q_rI1_2 Z xs xa xk xz xu xv xc0 xc1 h0) := by
  refine oCon.of (plainFor_of_name pn_0) ?_
  intro p e s m below meth c T X hx hby hml hown hnm hret hlk hZ e0
  have hml : c.maxLocals = 2 := hml
  have K : oKp h0 h0 [xs] [] := oKp.nil _ _
  refine oWk.cast (g' := (mkF m 0 #[rv xs, rv xa] [])) (by first | rfl | (simp [entryFrame, mkF, argsToLocals, Value.category]; done)) ?_
  refine oWk.st (fun _ kt => zA X hx hby d2_0 rfl rfl rfl (zA X hx hby d2_1 rfl rfl rfl (zK X hx hby d2_2 rfl (zA X hx hby d2_3 rfl rfl rfl (oAl X hx hZ e0 V_xa hby d2_4 rfl rfl (XS.aconstNull X.here hx rfl (hb hby d2_5) kt)))))) ?_
  have lt_xs := E_xs.lt
  have lt_xa := V_xa.lt
  have Oh := K.old O0 (allS og_xs all0)
  obtain ⟨_, T, h, Lc3, X, e0, hQ, st⟩ := (cs3 hw).run X hx hZ hown e0 (A := [(.ref xs), (.ref xa), (.int (0 : Int32)), (.int (2 : Int32)), .null]) ⟨rfl, _, _, rfl⟩ (rI4_2 l Z a0 hw [] xs xa xk xz xu xv xc0 xc1 h0 Oh S_Z hz og_xs E_xs F_value_xs F_coder_xs V_xa hc0_ hc1_) (W := 0) (by decide) hml (Ls := #[rv xs, rv xa]) rfl (rest := []) rfl rfl hby d2_6
  obtain ⟨nb2, nk2, rfl, K2, E_xs, F_coder_xs, F_value_xs, gn_nb2, V_nb2⟩ := hQ
  have ge_nb2 := Nat.le_trans K.le gn_nb2
  have ne_xs_nb2 : xs ≠ nb2 := Nat.ne_of_lt (Nat.lt_of_lt_of_le lt_xs gn_nb2)
  have ne_xa_nb2 : xa ≠ nb2 := Nat.ne_of_lt (Nat.lt_of_lt_of_le lt_xa gn_nb2)
  have K := K.call K2 (allS (Or.inl (List.mem_of_getElem? (i := 0) rfl)) all0)
  refine oWk.to (mkF m 9 #[rv xs, rv xa] []) (fun _ kt => st _ kt) ?_
  exact oRetV X hx hlk hret (hb hby d2_9) (by rw [e0]; exact ⟨nb2, nk2, rfl, K, E_xs, F_coder_xs, F_value_xs, ge_nb2, V_nb2⟩) (by decide) (by decide)
def Q_rStr_2 (Z : State) (xc0 xc1 xz : Int32) (h0 : Heap) (v : Option Value) (h : Heap) (L : List Loc) : Prop := ∃ (nr : Addr) (nb : Addr) (nk : ClassId), v = some (.ref nr) ∧ oKp h0 h [] L ∧ (h0.size ≤ nr) ∧ (h0.size ≤ nb) ∧ (Exa Z h nr Y0) ∧ (Fld Z h nr Y0 "coder" "B" (.int (0 : Int32))) ∧ (Fld Z h nr Y0 "value" "[B" (.ref nb)) ∧ (Arv Z h nb nk .byte (2 : Int32) [(ib xc0), (ib xc1)] (.int (0 : Int32)))
theorem d1_35 : decode method_2_code 35 = .ok (.new 7, 3) := by decide +kernel
theorem d1_38 : decode method_2_code 38 = .ok (.dup, 1) := by decide +kernel
theorem d1_39 : decode method_2_code 39 = .ok (.iconst 2, 1) := by decide +kernel
theorem d1_40 : decode method_2_code 40 = .ok (.newarray .char, 2) := by decide +kernel
theorem d1_42 : decode method_2_code 42 = .ok (.dup, 1) := by decide +kernel
theorem d1_43 : decode method_2_code 43 = .ok (.iconst 0, 1) := by decide +kernel
theorem d1_44 : decode method_2_code 44 = .ok (.iload_n 1, 1) := by decide +kernel
theorem d1_45 : decode method_2_code 45 = .ok (.castore, 1) := by decide +kernel
theorem d1_46 : decode method_2_code 46 = .ok (.dup, 1) := by decide +kernel
theorem d1_47 : decode method_2_code 47 = .ok (.iconst 1, 1) := by decide +kernel
theorem d1_48 : decode method_2_code 48 = .ok (.iload_n 2, 1) := by decide +kernel
theorem d1_49 : decode method_2_code 49 = .ok (.castore, 1) := by decide +kernel
theorem d1_50 : decode method_2_code 50 = .ok (.invokespecial 9, 3) := by decide +kernel
theorem d1_53 : decode method_2_code 53 = .ok (.areturn, 1) := by decide +kernel
theorem rStr_2 (l : Launch) (Z : State) (a0 : Array Value) (hw : oHW a0 Z) (ws : List Jvm.Cond) (xc0 xc1 xz : Int32) (h0 : Heap) (O0 : Ext Z.heap h0) (S_Z : Sta Z Z.heap Y0 Y2 "Z" (.int xz)) (hz : ¬ xz = (0 : Int32)) (hr0 : 0 ≤ xc0.toInt ∧ xc0.toInt < 256) (hr1 : 0 ≤ xc1.toInt ∧ xc1.toInt < 256) :
    oCon l Z yy2 method_2_code 3 (some (.object Y0)) ws ({ frames := 4, cells := 3, slots := 8, locals := 66 } : Room) #[(.int (2 : Int32)), (.int xc0), (.int xc1)] h0 (Q_rStr_2 Z xc0 xc1 xz h0) := by
  refine oCon.of (plainFor_of_name pn_1) ?_
  intro p e s m below meth c T X hx hby hml hown hnm hret hlk hZ e0
  have hml : c.maxLocals = 3 := hml
  have K : oKp h0 h0 [] [] := oKp.nil _ _
  refine oWk.cast (g' := (mkF m 0 #[iv 2, iv xc0, iv xc1] [])) (by first | rfl | (simp [entryFrame, mkF, argsToLocals, Value.category]; done)) ?_
  refine oWk.st (fun _ kt => zI X hx hby d1_0 rfl rfl (zF X hx hby d1_1 rfl rfl ((if0 _ _).trans (feq (by decide)).2) (pc' := 15) rfl (zI X hx hby d1_15 rfl rfl (zK X hx hby d1_16 rfl (zY X hx hby d1_17 rfl rfl (feq (by decide)).2 (pc' := 35) rfl kt))))) ?_
  obtain ⟨o1, g1⟩ : ∃ z, z = h0.size := ⟨_, rfl⟩
  have ge_o1 : h0.size ≤ o1 := Nat.le_trans K.le (Nat.le_of_eq g1.symm)
  obtain ⟨T, h, X, e0, E1, A1, D1, -, st⟩ := newO X hx hZ hown (oW hw 6 rfl) (oW hw 7 rfl) (oW hw 8 rfl) e0 (g := (mkF m 35 #[iv 2, iv xc0, iv xc1] [])) rfl (hb hby d1_35) (by decide) (by decide)
  rw [← g1] at A1 D1 st
  have K := K.ext E1
  have E_o1 := A1
  have F_value_o1 : Fld Z h o1 Y0 "value" "[B" .null := D1 (Or.inr (oW hw 22 rfl)) (ty := (.array .byte)) (by decide)
  have F_coder_o1 : Fld Z h o1 Y0 "coder" "B" (.int (0 : Int32)) := D1 (Or.inr (oW hw 23 rfl)) (ty := .byte) (by decide)
  refine oWk.st (fun _ kt => st _ (zD X hx hby d1_38 rfl rfl rfl (zK X hx hby d1_39 rfl kt))) ?_
  obtain ⟨o2, g2⟩ : ∃ z, z = h.size := ⟨_, rfl⟩
  have ne_o1_o2 : o1 ≠ o2 := Nat.ne_of_lt (Nat.lt_of_lt_of_le E_o1.lt (Nat.le_of_eq g2.symm))
  have ge_o2 : h0.size ≤ o2 := Nat.le_trans K.le (Nat.le_of_eq g2.symm)
  obtain ⟨T, h, k2, X, e0, E2, A2, st⟩ := newP X hx hZ (oW hw 9 rfl) e0 (g := (mkF m 40 #[iv 2, iv xc0, iv xc1] [(.int 2), (.ref o1), (.ref o1)])) rfl (hb hby d1_40) rfl (by decide) (cap := 2) (by decide) (by decide) (by decide) (by decide)
  rw [← g2] at A2 st
  have K := K.ext E2
  have V_o2 : Arv Z h o2 k2 .char (2 : Int32) [(.int (0 : Int32)), (.int (0 : Int32))] (.int (0 : Int32)) := (Arv.new A2 (by decide)).pad (pad_rep [] (.int (0 : Int32)) 2)
  refine oWk.st (fun _ kt => st _ (zD X hx hby d1_42 rfl rfl rfl (zK X hx hby d1_43 rfl (zI X hx hby d1_44 rfl rfl kt)))) ?_
  obtain ⟨cl3, Ar3, q3, Sz3, Nn3, Hs3, Ft3⟩ := id V_o2
  have hin3 : ¬ ((0 : Int32) < 0 ∨ cl3.slots.size ≤ ((0 : Int32)).toNatClampNeg) := inb_of Sz3 ⟨by decide, by decide⟩
  obtain ⟨T, h, X, e0, W3, st⟩ := stC X hx hZ e0 Ar3 (j := (0 : Int32)) hin3 (g := (mkF m 45 #[iv 2, iv xc0, iv xc1] [(.int xc0), (.int 0), (.ref o2), (.ref o2), (.ref o1), (.ref o1)])) rfl rfl (hb hby d1_45)
  have K := K.wr W3 (Or.inr ge_o2)
  have V_o2 := Arv.set Ar3 q3 Sz3 Nn3 Hs3 Ft3 (fits_nar_char _) W3 0 rfl (Nat.le_of_ble_eq_true rfl)
  rw [show nar .char xc0 = xc0 from oChr hr0] at V_o2
  replace V_o2 : Arv Z h o2 k2 .char (2 : Int32) [(.int xc0), (.int (0 : Int32))] (.int (0 : Int32)) := V_o2
  refine oWk.st (fun _ kt => st _ (zD X hx hby d1_46 rfl rfl rfl (zK X hx hby d1_47 rfl (zI X hx hby d1_48 rfl rfl kt)))) ?_
  obtain ⟨cl4, Ar4, q4, Sz4, Nn4, Hs4, Ft4⟩ := id V_o2
  have hin4 : ¬ ((1 : Int32) < 0 ∨ cl4.slots.size ≤ ((1 : Int32)).toNatClampNeg) := inb_of Sz4 ⟨by decide, by decide⟩
  obtain ⟨T, h, X, e0, W4, st⟩ := stC X hx hZ e0 Ar4 (j := (1 : Int32)) hin4 (g := (mkF m 49 #[iv 2, iv xc0, iv xc1] [(.int xc1), (.int 1), (.ref o2), (.ref o2), (.ref o1), (.ref o1)])) rfl rfl (hb hby d1_49)
  have K := K.wr W4 (Or.inr ge_o2)
  have V_o2 := Arv.set Ar4 q4 Sz4 Nn4 Hs4 Ft4 (fits_nar_char _) W4 1 rfl (Nat.le_of_ble_eq_true rfl)
  rw [show nar .char xc1 = xc1 from oChr hr1] at V_o2
  replace V_o2 : Arv Z h o2 k2 .char (2 : Int32) [(.int xc0), (.int xc1)] (.int (0 : Int32)) := V_o2
  refine oWk.st (fun _ kt => st _ kt) ?_
  have E_o1 := (((E_o1.ext E2).wr W3).wr W4)
  have F_value_o1 := (((F_value_o1.ext E2).other W3 (Or.inl ne_o1_o2)).other W4 (Or.inl ne_o1_o2))
  have F_coder_o1 := (((F_coder_o1.ext E2).other W3 (Or.inl ne_o1_o2)).other W4 (Or.inl ne_o1_o2))
  have lt_o1 := E_o1.lt
  have lt_o2 := V_o2.lt
  have Oh := K.old O0 all0
  obtain ⟨_, T, h, Lc6, X, e0, hQ, st⟩ := (cs4 hw).run X hx hZ hown e0 (A := [(.ref o1), (.ref o2)]) ⟨rfl, _, _, rfl⟩ (rI1_2 l Z a0 hw [] o1 o2 k2 xz .null (.int (0 : Int32)) xc0 xc1 h Oh S_Z hz (Nat.le_trans O0.1 ge_o1) E_o1 F_value_o1 F_coder_o1 V_o2 (oLe255 hr0) (oLe255 hr1)) (W := 1) (by decide) hml (Ls := #[iv 2, iv xc0, iv xc1]) rfl (rest := [(.ref o1)]) rfl rfl hby d1_50
  obtain ⟨nb5, nk5, rfl, K5, E_o1, F_coder_o1, F_value_o1, gn_nb5, V_nb5⟩ := hQ
  have ge_nb5 := Nat.le_trans K.le gn_nb5
  have ne_o1_nb5 : o1 ≠ nb5 := Nat.ne_of_lt (Nat.lt_of_lt_of_le lt_o1 gn_nb5)
  have ne_o2_nb5 : o2 ≠ nb5 := Nat.ne_of_lt (Nat.lt_of_lt_of_le lt_o2 gn_nb5)
  have K := K.call K5 (allS (Or.inr ge_o1) all0)
  refine oWk.to (mkF m 53 #[iv 2, iv xc0, iv xc1] [(.ref o1)]) (fun _ kt => st _ kt) ?_
  exact oRetA X hx hlk hret rfl rfl (hb hby d1_53) (by rw [e0]; exact ⟨o1, nb5, nk5, rfl, K, ge_o1, ge_nb5, E_o1, F_coder_o1, F_value_o1, V_nb5⟩) (by decide) (by decide)
theorem pn_3 : plainName "java/util/Objects" = true := by first | (simp [plainName, overriddenIn]; done) | decide +kernel
abbrev yy6 : MethodName := ⟨"java/util/Objects", "requireNonNull", "(Ljava/lang/Object;Ljava/lang/String;)Ljava/lang/Object;"⟩
theorem d6_0 : decode jdk_31_method_11_code 0 = .ok (.aload_n 0, 1) := by decide +kernel
theorem d6_1 : decode jdk_31_method_11_code 1 = .ok (.ifnonnull 12, 3) := by decide +kernel
theorem d6_13 : decode jdk_31_method_11_code 13 = .ok (.aload_n 0, 1) := by decide +kernel
theorem d6_14 : decode jdk_31_method_11_code 14 = .ok (.areturn, 1) := by decide +kernel
theorem rRN2 (l : Launch) (Z : State) (a0 : Array Value) (hw : oHW a0 Z) (ws : List Jvm.Cond) (xx xy : Addr) (h0 : Heap) (O0 : Ext Z.heap h0)  :
    oCon l Z yy6 jdk_31_method_11_code 2 (some (.object Y11)) ws ({ frames := 0, cells := 0, slots := 0, locals := 0 } : Room) #[(.ref xx), (.ref xy)] h0 (oPq (some (.ref xx)) h0) := by
  refine oCon.of (plainFor_of_name pn_3) ?_
  intro p e s m below meth c T X hx hby hml hown hnm hret hlk hZ e0
  have hml : c.maxLocals = 2 := hml
  have K : oKp h0 h0 [] [] := oKp.nil _ _
  refine oWk.cast (g' := (mkF m 0 #[rv xx, rv xy] [])) (by first | rfl | (simp [entryFrame, mkF, argsToLocals, Value.category]; done)) ?_
  refine oWk.to (mkF m 14 #[rv xx, rv xy] [(.ref xx)]) (fun _ kt => zA X hx hby d6_0 rfl rfl rfl (XS.ifnonnullYes X.here hx rfl (pc0 := 1) (pc' := 13) rfl (hb hby d6_1) rfl (by decide) (by decide) (zA X hx hby d6_13 rfl rfl rfl kt))) ?_
  exact oRetA X hx hlk hret rfl rfl (hb hby d6_14) (by rw [e0]; exact ⟨rfl, rfl, K⟩) (by decide) (by decide)
theorem pn_4 : plainName "jdk/internal/util/Preconditions" = true := by first | (simp [plainName, overriddenIn]; done) | decide +kernel
abbrev yy7 : MethodName := ⟨"jdk/internal/util/Preconditions", "checkFromToIndex", "(IIILjava/util/function/BiFunction;)I"⟩
theorem d13_0 : decode jdk_41_method_12_code 0 = .ok (.iload_n 0, 1) := by decide +kernel
theorem d13_1 : decode jdk_41_method_12_code 1 = .ok (.ifCond .lt 13, 3) := by decide +kernel
theorem d13_4 : decode jdk_41_method_12_code 4 = .ok (.iload_n 0, 1) := by decide +kernel
theorem d13_5 : decode jdk_41_method_12_code 5 = .ok (.iload_n 1, 1) := by decide +kernel
theorem d13_6 : decode jdk_41_method_12_code 6 = .ok (.if_icmp .gt 8, 3) := by decide +kernel
theorem d13_9 : decode jdk_41_method_12_code 9 = .ok (.iload_n 1, 1) := by decide +kernel
theorem d13_10 : decode jdk_41_method_12_code 10 = .ok (.iload_n 2, 1) := by decide +kernel
theorem d13_11 : decode jdk_41_method_12_code 11 = .ok (.if_icmp .le 11, 3) := by decide +kernel
theorem d13_22 : decode jdk_41_method_12_code 22 = .ok (.iload_n 0, 1) := by decide +kernel
theorem d13_23 : decode jdk_41_method_12_code 23 = .ok (.ireturn, 1) := by decide +kernel
theorem rPFt (l : Launch) (Z : State) (a0 : Array Value) (hw : oHW a0 Z) (ws : List Jvm.Cond) (xi xe xn : Int32) (h0 : Heap) (O0 : Ext Z.heap h0) (h1 : ¬ xi < (0 : Int32)) (h2 : ¬ xe < xi) (h3 : ¬ xn < xe) :
    oCon l Z yy7 jdk_41_method_12_code 4 (some .int) ws ({ frames := 0, cells := 0, slots := 0, locals := 0 } : Room) #[(.int xi), (.int xe), (.int xn), .null] h0 (oPq (some (.int xi)) h0) := by
  refine oCon.of (plainFor_of_name pn_4) ?_
  intro p e s m below meth c T X hx hby hml hown hnm hret hlk hZ e0
  have hml : c.maxLocals = 4 := hml
  have K : oKp h0 h0 [] [] := oKp.nil _ _
  refine oWk.cast (g' := (mkF m 0 #[iv xi, iv xe, iv xn, .val .null] [])) (by first | rfl | (simp [entryFrame, mkF, argsToLocals, Value.category]; done)) ?_
  refine oWk.to (mkF m 11 #[iv xi, iv xe, iv xn, .val .null] [(.int xn), (.int xe)]) (fun _ kt => zI X hx hby d13_0 rfl rfl (zH X hx hby d13_1 rfl rfl ((if0 _ _).trans (flt h1).1) (zI X hx hby d13_4 rfl rfl (zI X hx hby d13_5 rfl rfl (zN X hx hby d13_6 rfl rfl (flt h2).2.2.1 (zI X hx hby d13_9 rfl rfl (zI X hx hby d13_10 rfl rfl kt))))))) ?_
  refine oWk.to (mkF m 23 #[iv xi, iv xe, iv xn, .val .null] [(.int xi)]) (fun _ kt => zY X hx hby d13_11 rfl rfl (flt h3).2.2.2 (pc' := 22) rfl (zI X hx hby d13_22 rfl rfl kt)) ?_
  exact oRetI X hx hlk hret (hb hby d13_23) (by rw [e0]; exact ⟨rfl, rfl, K⟩) (by decide) (by decide)
abbrev yy8 : MethodName := ⟨"java/util/Objects", "checkFromToIndex", "(III)I"⟩
theorem d12_0 : decode jdk_31_method_18_code 0 = .ok (.iload_n 0, 1) := by decide +kernel
theorem d12_1 : decode jdk_31_method_18_code 1 = .ok (.iload_n 1, 1) := by decide +kernel
theorem d12_2 : decode jdk_31_method_18_code 2 = .ok (.iload_n 2, 1) := by decide +kernel
theorem d12_3 : decode jdk_31_method_18_code 3 = .ok (.aconst_null, 1) := by decide +kernel
theorem d12_4 : decode jdk_31_method_18_code 4 = .ok (.invokestatic 111, 3) := by decide +kernel
theorem pd_5 : parseMethodDescriptor "(IIILjava/util/function/BiFunction;)I" = some ⟨[.int, .int, .int, (.object "java/util/function/BiFunction")], some .int⟩ := by decide +kernel
theorem cs5 {a0 : Array Value} {Z : State} (hw : oHW a0 Z) : oCall Z Y12 (.invokestatic 111) yy7 jdk_41_method_12_code 4 (some .int) (oRs 4) := oCall.stat (oW hw 75 rfl) (oW hw 76 rfl) (oW hw 77 rfl) (oW hw 78 rfl) (by decide) pd_5
theorem d12_7 : decode jdk_31_method_18_code 7 = .ok (.ireturn, 1) := by decide +kernel
theorem rOFt (l : Launch) (Z : State) (a0 : Array Value) (hw : oHW a0 Z) (ws : List Jvm.Cond) (xi xe xn : Int32) (h0 : Heap) (O0 : Ext Z.heap h0) (h1 : ¬ xi < (0 : Int32)) (h2 : ¬ xe < xi) (h3 : ¬ xn < xe) :
    oCon l Z yy8 jdk_31_method_18_code 3 (some .int) ws ({ frames := 1, cells := 0, slots := 0, locals := 15 } : Room) #[(.int xi), (.int xe), (.int xn)] h0 (oPq (some (.int xi)) h0) := by
  refine oCon.of (plainFor_of_name pn_3) ?_
  intro p e s m below meth c T X hx hby hml hown hnm hret hlk hZ e0
  have hml : c.maxLocals = 3 := hml
  have K : oKp h0 h0 [] [] := oKp.nil _ _
  refine oWk.cast (g' := (mkF m 0 #[iv xi, iv xe, iv xn] [])) (by first | rfl | (simp [entryFrame, mkF, argsToLocals, Value.category]; done)) ?_
  refine oWk.st (fun _ kt => zI X hx hby d12_0 rfl rfl (zI X hx hby d12_1 rfl rfl (zI X hx hby d12_2 rfl rfl (XS.aconstNull X.here hx rfl (hb hby d12_3) kt)))) ?_
  have Oh := K.old O0 all0
  obtain ⟨T, L2, X, e0, K, st⟩ := (cs5 hw).pure X hx hZ hown e0 K (A := [(.int xi), (.int xe), (.int xn), .null]) rfl (rPFt l Z a0 hw [] xi xe xn h0 Oh h1 h2 h3) (W := 0) (by decide) hml (Ls := #[iv xi, iv xe, iv xn]) rfl (rest := []) rfl rfl hby d12_4
  refine oWk.to (mkF m 7 #[iv xi, iv xe, iv xn] [(.int xi)]) (fun _ kt => st _ kt) ?_
  exact oRetI X hx hlk hret (hb hby d12_7) (by rw [e0]; exact ⟨rfl, rfl, K⟩) (by decide) (by decide)
theorem pn_5 : plainName "java/lang/Character" = true := by first | (simp [plainName, overriddenIn]; done) | decide +kernel
abbrev yy9 : MethodName := ⟨"java/lang/Character", "isHighSurrogate", "(C)Z"⟩
theorem d23_0 : decode jdk_89_method_14_code 0 = .ok (.iload_n 0, 1) := by decide +kernel
theorem d23_1 : decode jdk_89_method_14_code 1 = .ok (.ldc 75, 2) := by decide +kernel
theorem d23_3 : decode jdk_89_method_14_code 3 = .ok (.if_icmp .lt 13, 3) := by decide +kernel
theorem d23_16 : decode jdk_89_method_14_code 16 = .ok (.iconst 0, 1) := by decide +kernel
theorem d23_17 : decode jdk_89_method_14_code 17 = .ok (.ireturn, 1) := by decide +kernel
theorem risHighSurrogate (l : Launch) (Z : State) (a0 : Array Value) (hw : oHW a0 Z) (ws : List Jvm.Cond) (xp : Int32) (h0 : Heap) (O0 : Ext Z.heap h0) (hr : 0 ≤ xp.toInt ∧ xp.toInt < 256) :
    oCon l Z yy9 jdk_89_method_14_code 1 (some .boolean) ws ({ frames := 0, cells := 0, slots := 0, locals := 0 } : Room) #[(.int xp)] h0 (oPq (some (.int (0 : Int32))) h0) := by
  refine oCon.of (plainFor_of_name pn_5) ?_
  intro p e s m below meth c T X hx hby hml hown hnm hret hlk hZ e0
  have hml : c.maxLocals = 1 := hml
  have K : oKp h0 h0 [] [] := oKp.nil _ _
  refine oWk.cast (g' := (mkF m 0 #[iv xp] [])) (by first | rfl | (simp [entryFrame, mkF, argsToLocals, Value.category]; done)) ?_
  refine oWk.st (fun _ kt => zI X hx hby d23_0 rfl rfl kt) ?_
  refine oWk.to (mkF m 17 #[iv xp] [(.int 0)]) (fun _ kt => X.ldcI hx hown (mvT hZ (oW hw 123 rfl)) rfl (hb hby d23_1) (zY X hx hby d23_3 rfl rfl (tlt (oLow hr)).1 (pc' := 16) rfl (zK X hx hby d23_16 rfl kt))) ?_
  exact oRetZ X hx hlk hret (hb hby d23_17) (Or.inl rfl) (by rw [e0]; exact ⟨rfl, rfl, K⟩) (by decide) (by decide)
abbrev yy10 : MethodName := ⟨"java/lang/Character", "isSurrogate", "(C)Z"⟩
theorem d24_0 : decode jdk_89_method_16_code 0 = .ok (.iload_n 0, 1) := by decide +kernel
theorem d24_1 : decode jdk_89_method_16_code 1 = .ok (.ldc 75, 2) := by decide +kernel
theorem d24_3 : decode jdk_89_method_16_code 3 = .ok (.if_icmp .lt 13, 3) := by decide +kernel
theorem d24_16 : decode jdk_89_method_16_code 16 = .ok (.iconst 0, 1) := by decide +kernel
theorem d24_17 : decode jdk_89_method_16_code 17 = .ok (.ireturn, 1) := by decide +kernel
theorem risSurrogate (l : Launch) (Z : State) (a0 : Array Value) (hw : oHW a0 Z) (ws : List Jvm.Cond) (xp : Int32) (h0 : Heap) (O0 : Ext Z.heap h0) (hr : 0 ≤ xp.toInt ∧ xp.toInt < 256) :
    oCon l Z yy10 jdk_89_method_16_code 1 (some .boolean) ws ({ frames := 0, cells := 0, slots := 0, locals := 0 } : Room) #[(.int xp)] h0 (oPq (some (.int (0 : Int32))) h0) := by
  refine oCon.of (plainFor_of_name pn_5) ?_
  intro p e s m below meth c T X hx hby hml hown hnm hret hlk hZ e0
  have hml : c.maxLocals = 1 := hml
  have K : oKp h0 h0 [] [] := oKp.nil _ _
  refine oWk.cast (g' := (mkF m 0 #[iv xp] [])) (by first | rfl | (simp [entryFrame, mkF, argsToLocals, Value.category]; done)) ?_
  refine oWk.st (fun _ kt => zI X hx hby d24_0 rfl rfl kt) ?_
  refine oWk.to (mkF m 17 #[iv xp] [(.int 0)]) (fun _ kt => X.ldcI hx hown (mvT hZ (oW hw 123 rfl)) rfl (hb hby d24_1) (zY X hx hby d24_3 rfl rfl (tlt (oLow hr)).1 (pc' := 16) rfl (zK X hx hby d24_16 rfl kt))) ?_
  exact oRetZ X hx hlk hret (hb hby d24_17) (Or.inl rfl) (by rw [e0]; exact ⟨rfl, rfl, K⟩) (by decide) (by decide)
abbrev yy11 : MethodName := ⟨"java/lang/String", "coder", "()B"⟩
theorem d10_0 : decode jdk_42_method_152_code 0 = .ok (.getstatic 38, 3) := by decide +kernel
theorem d10_3 : decode jdk_42_method_152_code 3 = .ok (.ifCond .eq 10, 3) := by decide +kernel
theorem d10_6 : decode jdk_42_method_152_code 6 = .ok (.aload_n 0, 1) := by decide +kernel
theorem d10_7 : decode jdk_42_method_152_code 7 = .ok (.getfield 15, 3) := by decide +kernel
theorem d10_10 : decode jdk_42_method_152_code 10 = .ok (.goto 4, 3) := by decide +kernel
theorem d10_14 : decode jdk_42_method_152_code 14 = .ok (.ireturn, 1) := by decide +kernel
theorem rCdr (l : Launch) (Z : State) (a0 : Array Value) (hw : oHW a0 Z) (ws : List Jvm.Cond) (xa : Addr) (xz : Int32) (h0 : Heap) (O0 : Ext Z.heap h0) (S_Z : Sta Z Z.heap Y0 Y2 "Z" (.int xz)) (hz : ¬ xz = (0 : Int32)) (F_coder_xa : Fld Z h0 xa Y0 "coder" "B" (.int (0 : Int32))) :
    oCon l Z yy11 jdk_42_method_152_code 1 (some .byte) ws ({ frames := 0, cells := 0, slots := 0, locals := 0 } : Room) #[(.ref xa)] h0 (oPq (some (.int (0 : Int32))) h0) := by
  refine oCon.of (plainFor_of_name pn_0) ?_
  intro p e s m below meth c T X hx hby hml hown hnm hret hlk hZ e0
  have hml : c.maxLocals = 1 := hml
  have K : oKp h0 h0 [] [] := oKp.nil _ _
  refine oWk.cast (g' := (mkF m 0 #[rv xa] [])) (by first | rfl | (simp [entryFrame, mkF, argsToLocals, Value.category]; done)) ?_
  have Oh := K.old O0 all0
  obtain ⟨T, X, e0, st⟩ := getS2 X hx hZ hown (host := "") (Or.inl (oW hw 58 rfl)) Via.refl e0 (S_Z.ext Oh) (g := (mkF m 0 #[rv xa] [])) rfl (hb hby d10_0)
  refine oWk.st (fun _ kt => st _ (zH X hx hby d10_3 rfl rfl ((if0 _ _).trans (feq hz).1) (zA X hx hby d10_6 rfl rfl rfl kt))) ?_
  obtain ⟨T, X, e0, st⟩ := getF X hx hZ hown (host := "") (Or.inl (oW hw 27 rfl)) Via.refl e0 F_coder_xa (g := (mkF m 7 #[rv xa] [(.ref xa)])) rfl rfl (hb hby d10_7)
  refine oWk.to (mkF m 14 #[rv xa] [(.int 0)]) (fun _ kt => st _ (zG X hx hby d10_10 rfl (pc' := 14) rfl kt)) ?_
  exact oRetN X hx hlk hret (Or.inl rfl) rfl (hb hby d10_14) (by rw [e0]; exact ⟨rfl, rfl, K⟩) (by decide) (by decide)
abbrev yy12 : MethodName := ⟨"java/lang/String", "length", "()I"⟩
theorem d9_0 : decode jdk_42_method_54_code 0 = .ok (.aload_n 0, 1) := by decide +kernel
theorem d9_1 : decode jdk_42_method_54_code 1 = .ok (.getfield 9, 3) := by decide +kernel
theorem d9_4 : decode jdk_42_method_54_code 4 = .ok (.arraylength, 1) := by decide +kernel
theorem d9_5 : decode jdk_42_method_54_code 5 = .ok (.aload_n 0, 1) := by decide +kernel
theorem d9_6 : decode jdk_42_method_54_code 6 = .ok (.invokevirtual 335, 3) := by decide +kernel
theorem pd_6 : parseMethodDescriptor "()B" = some ⟨[], some .byte⟩ := by decide +kernel
theorem cs6 {a0 : Array Value} {Z : State} (hw : oHW a0 Z) : oCall Z Y0 (.invokevirtual 335) yy11 jdk_42_method_152_code 1 (some .byte) (oRv Z 0 Y0) := oCall.virt (oW hw 53 rfl) (oW hw 54 rfl) (fun _ hZ => notFace_of_selects (args := #[]) (mvT hZ (oW hw 56 rfl))) (oW hw 56 rfl) (oW hw 55 rfl) (oW hw 8 rfl) (oW hw 57 rfl) (by decide) pd_6
theorem d9_9 : decode jdk_42_method_54_code 9 = .ok (.ishr, 1) := by decide +kernel
theorem d9_10 : decode jdk_42_method_54_code 10 = .ok (.ireturn, 1) := by decide +kernel
theorem rLn_0 (l : Launch) (Z : State) (a0 : Array Value) (hw : oHW a0 Z) (ws : List Jvm.Cond) (xa xb : Addr) (xk : ClassId) (xz : Int32) (h0 : Heap) (O0 : Ext Z.heap h0) (S_Z : Sta Z Z.heap Y0 Y2 "Z" (.int xz)) (hz : ¬ xz = (0 : Int32)) (E_xa : Exa Z h0 xa Y0) (F_coder_xa : Fld Z h0 xa Y0 "coder" "B" (.int (0 : Int32))) (F_value_xa : Fld Z h0 xa Y0 "value" "[B" (.ref xb)) (V_xb : Arv Z h0 xb xk .byte (0 : Int32) [] (.int (0 : Int32))) :
    oCon l Z yy12 jdk_42_method_54_code 1 (some .int) ws ({ frames := 1, cells := 0, slots := 0, locals := 13 } : Room) #[(.ref xa)] h0 (oPq (some (.int (0 : Int32))) h0) := by
  refine oCon.of (plainFor_of_name pn_0) ?_
  intro p e s m below meth c T X hx hby hml hown hnm hret hlk hZ e0
  have hml : c.maxLocals = 1 := hml
  have K : oKp h0 h0 [] [] := oKp.nil _ _
  refine oWk.cast (g' := (mkF m 0 #[rv xa] [])) (by first | rfl | (simp [entryFrame, mkF, argsToLocals, Value.category]; done)) ?_
  refine oWk.st (fun _ kt => zA X hx hby d9_0 rfl rfl rfl kt) ?_
  obtain ⟨T, X, e0, st⟩ := getF X hx hZ hown (host := "") (Or.inl (oW hw 26 rfl)) Via.refl e0 F_value_xa (g := (mkF m 1 #[rv xa] [(.ref xa)])) rfl rfl (hb hby d9_1)
  refine oWk.st (fun _ kt => st _ (oAl X hx hZ e0 V_xb hby d9_4 rfl rfl (zA X hx hby d9_5 rfl rfl rfl kt))) ?_
  have Oh := K.old O0 all0
  obtain ⟨T, L3, X, e0, K, st⟩ := (cs6 hw).pure X hx hZ hown e0 K (A := [(.ref xa)]) ⟨rfl, _, _, rfl, E_xa⟩ (rCdr l Z a0 hw [] xa xz h0 Oh S_Z hz F_coder_xa) (W := 1) (by decide) hml (Ls := #[rv xa]) rfl (rest := [(.int (0 : Int32))]) rfl rfl hby d9_6
  refine oWk.to (mkF m 10 #[rv xa] [(.int 0)]) (fun _ kt => st _ (XS.ishr X.here hx rfl (hb hby d9_9) rfl kt)) ?_
  exact oRetI X hx hlk hret (hb hby d9_10) (by rw [e0]; exact ⟨rfl, rfl, K⟩) (by decide) (by decide)
theorem pn_6 : plainName "com/example/wakati/wakati/Surrogates" = true := by first | (simp [plainName, overriddenIn]; done) | decide +kernel
abbrev yy13 : MethodName := ⟨"com/example/wakati/wakati/Surrogates", "findLone", "(Ljava/lang/String;)I"⟩
theorem d8_0 : decode prog_13_method_3_code 0 = .ok (.iconst 0, 1) := by decide +kernel
theorem d8_1 : decode prog_13_method_3_code 1 = .ok (.istore_n 1, 1) := by decide +kernel
theorem d8_2 : decode prog_13_method_3_code 2 = .ok (.iload_n 1, 1) := by decide +kernel
theorem d8_3 : decode prog_13_method_3_code 3 = .ok (.aload_n 0, 1) := by decide +kernel
theorem d8_4 : decode prog_13_method_3_code 4 = .ok (.invokevirtual 42, 3) := by decide +kernel
theorem pd_7 : parseMethodDescriptor "()I" = some ⟨[], some .int⟩ := by decide +kernel
theorem cs7 {a0 : Array Value} {Z : State} (hw : oHW a0 Z) : oCall Z Y8 (.invokevirtual 42) yy12 jdk_42_method_54_code 1 (some .int) (oRv Z 0 Y0) := oCall.virt (oW hw 48 rfl) (oW hw 49 rfl) (fun _ hZ => notFace_of_selects (args := #[]) (mvT hZ (oW hw 51 rfl))) (oW hw 51 rfl) (oW hw 50 rfl) (oW hw 8 rfl) (oW hw 52 rfl) (by decide) pd_7
theorem d8_7 : decode prog_13_method_3_code 7 = .ok (.if_icmp .ge 60, 3) := by decide +kernel
theorem d8_67 : decode prog_13_method_3_code 67 = .ok (.iconst (-1), 1) := by decide +kernel
theorem d8_68 : decode prog_13_method_3_code 68 = .ok (.ireturn, 1) := by decide +kernel
theorem rFL_0 (l : Launch) (Z : State) (a0 : Array Value) (hw : oHW a0 Z) (ws : List Jvm.Cond) (xa xb : Addr) (xk : ClassId) (xfm : Value) (xz : Int32) (h0 : Heap) (O0 : Ext Z.heap h0) (S_Z : Sta Z Z.heap Y0 Y2 "Z" (.int xz)) (hz : ¬ xz = (0 : Int32)) (S_F : Sta Z Z.heap Y5 Y6 Y7 xfm) (hcat : xfm.category = 1) (E_xa : Exa Z h0 xa Y0) (F_coder_xa : Fld Z h0 xa Y0 "coder" "B" (.int (0 : Int32))) (F_value_xa : Fld Z h0 xa Y0 "value" "[B" (.ref xb)) (V_xb : Arv Z h0 xb xk .byte (0 : Int32) [] (.int (0 : Int32))) :
    oCon l Z yy13 prog_13_method_3_code 3 (some .int) ws ({ frames := 2, cells := 0, slots := 0, locals := 26 } : Room) #[(.ref xa)] h0 (oPq (some (.int (-1 : Int32))) h0) := by
  refine oCon.of (plainFor_of_name pn_6) ?_
  intro p e s m below meth c T X hx hby hml hown hnm hret hlk hZ e0
  have hml : c.maxLocals = 3 := hml
  have K : oKp h0 h0 [] [] := oKp.nil _ _
  refine oWk.cast (g' := (mkF m 0 #[rv xa, uu, uu] [])) (by first | rfl | (simp [entryFrame, mkF, argsToLocals, Value.category]; done)) ?_
  refine oWk.st (fun _ kt => zK X hx hby d8_0 rfl (zSn X hx hby d8_1 rfl rfl (l' := #[rv xa, iv 0, uu]) rfl (zI X hx hby d8_2 rfl rfl (zA X hx hby d8_3 rfl rfl rfl kt)))) ?_
  have Oh := K.old O0 all0
  obtain ⟨T, L2, X, e0, K, st⟩ := (cs7 hw).pure X hx hZ hown e0 K (A := [(.ref xa)]) ⟨rfl, _, _, rfl, E_xa⟩ (rLn_0 l Z a0 hw [] xa xb xk xz h0 Oh S_Z hz E_xa F_coder_xa F_value_xa V_xb) (W := 1) (by decide) hml (Ls := #[rv xa, iv 0, uu]) rfl (rest := [(.int (0 : Int32))]) rfl rfl hby d8_4
  refine oWk.to (mkF m 68 #[rv xa, iv 0, uu] [(.int (-1 : Int32))]) (fun _ kt => st _ (zY X hx hby d8_7 rfl rfl (flt (by decide)).2.1 (pc' := 67) rfl (zK X hx hby d8_67 rfl kt))) ?_
  exact oRetI X hx hlk hret (hb hby d8_68) (by rw [e0]; exact ⟨rfl, rfl, K⟩) (by decide) (by decide)
abbrev yy14 : MethodName := ⟨"com/example/wakati/wakati/Surrogates", "checkPaired", "(Ljava/lang/String;Ljava/lang/String;)V"⟩
theorem d7_0 : decode prog_13_method_2_code 0 = .ok (.aload_n 1, 1) := by decide +kernel
theorem d7_1 : decode prog_13_method_2_code 1 = .ok (.invokestatic 7, 3) := by decide +kernel
theorem pd_8 : parseMethodDescriptor "(Ljava/lang/String;)I" = some ⟨[(.object "java/lang/String")], some .int⟩ := by decide +kernel
theorem cs8 {a0 : Array Value} {Z : State} (hw : oHW a0 Z) : oCall Z Y8 (.invokestatic 7) yy13 prog_13_method_3_code 3 (some .int) (oRs 1) := oCall.stat (oW hw 45 rfl) (oW hw 46 rfl) (oW hw 43 rfl) (oW hw 47 rfl) (by decide) pd_8
theorem d7_4 : decode prog_13_method_2_code 4 = .ok (.istore_n 2, 1) := by decide +kernel
theorem d7_5 : decode prog_13_method_2_code 5 = .ok (.iload_n 2, 1) := by decide +kernel
theorem d7_6 : decode prog_13_method_2_code 6 = .ok (.ifCond .lt 45, 3) := by decide +kernel
theorem d7_51 : decode prog_13_method_2_code 51 = .ok (.return_, 1) := by decide +kernel
theorem rCP_0 (l : Launch) (Z : State) (a0 : Array Value) (hw : oHW a0 Z) (ws : List Jvm.Cond) (xy xa xb : Addr) (xk : ClassId) (xfm : Value) (xz : Int32) (h0 : Heap) (O0 : Ext Z.heap h0) (S_Z : Sta Z Z.heap Y0 Y2 "Z" (.int xz)) (hz : ¬ xz = (0 : Int32)) (S_F : Sta Z Z.heap Y5 Y6 Y7 xfm) (hcat : xfm.category = 1) (E_xa : Exa Z h0 xa Y0) (F_coder_xa : Fld Z h0 xa Y0 "coder" "B" (.int (0 : Int32))) (F_value_xa : Fld Z h0 xa Y0 "value" "[B" (.ref xb)) (V_xb : Arv Z h0 xb xk .byte (0 : Int32) [] (.int (0 : Int32))) :
    oCon l Z yy14 prog_13_method_2_code 3 none ws ({ frames := 3, cells := 0, slots := 0, locals := 40 } : Room) #[(.ref xy), (.ref xa)] h0 (oPq none h0) := by
  refine oCon.of (plainFor_of_name pn_6) ?_
  intro p e s m below meth c T X hx hby hml hown hnm hret hlk hZ e0
  have hml : c.maxLocals = 3 := hml
  have K : oKp h0 h0 [] [] := oKp.nil _ _
  refine oWk.cast (g' := (mkF m 0 #[rv xy, rv xa, uu] [])) (by first | rfl | (simp [entryFrame, mkF, argsToLocals, Value.category]; done)) ?_
  refine oWk.st (fun _ kt => zA X hx hby d7_0 rfl rfl rfl kt) ?_
  have Oh := K.old O0 all0
  obtain ⟨T, L2, X, e0, K, st⟩ := (cs8 hw).pure X hx hZ hown e0 K (A := [(.ref xa)]) rfl (rFL_0 l Z a0 hw [] xa xb xk xfm xz h0 Oh S_Z hz S_F hcat E_xa F_coder_xa F_value_xa V_xb) (W := 0) (by decide) hml (Ls := #[rv xy, rv xa, uu]) rfl (rest := []) rfl rfl hby d7_1
  refine oWk.to (mkF m 51 #[rv xy, rv xa, iv (-1 : Int32)] []) (fun _ kt => st _ (zSn X hx hby d7_4 rfl rfl (l' := #[rv xy, rv xa, iv (-1 : Int32)]) rfl (zI X hx hby d7_5 rfl rfl (zF X hx hby d7_6 rfl rfl ((if0 _ _).trans (tlt (by decide)).1) (pc' := 51) rfl kt)))) ?_
  exact oRetV X hx hlk hret (hb hby d7_51) (by rw [e0]; exact ⟨rfl, rfl, K⟩) (by decide) (by decide)
abbrev yy15 : MethodName := ⟨"java/lang/String", "isLatin1", "()Z"⟩
theorem d14_0 : decode jdk_42_method_154_code 0 = .ok (.getstatic 38, 3) := by decide +kernel
theorem d14_3 : decode jdk_42_method_154_code 3 = .ok (.ifCond .eq 14, 3) := by decide +kernel
theorem d14_6 : decode jdk_42_method_154_code 6 = .ok (.aload_n 0, 1) := by decide +kernel
theorem d14_7 : decode jdk_42_method_154_code 7 = .ok (.getfield 15, 3) := by decide +kernel
theorem d14_10 : decode jdk_42_method_154_code 10 = .ok (.ifCond .ne 7, 3) := by decide +kernel
theorem d14_13 : decode jdk_42_method_154_code 13 = .ok (.iconst 1, 1) := by decide +kernel
theorem d14_14 : decode jdk_42_method_154_code 14 = .ok (.goto 4, 3) := by decide +kernel
theorem d14_18 : decode jdk_42_method_154_code 18 = .ok (.ireturn, 1) := by decide +kernel
theorem rIsL (l : Launch) (Z : State) (a0 : Array Value) (hw : oHW a0 Z) (ws : List Jvm.Cond) (xa : Addr) (xz : Int32) (h0 : Heap) (O0 : Ext Z.heap h0) (S_Z : Sta Z Z.heap Y0 Y2 "Z" (.int xz)) (hz : ¬ xz = (0 : Int32)) (F_coder_xa : Fld Z h0 xa Y0 "coder" "B" (.int (0 : Int32))) :
    oCon l Z yy15 jdk_42_method_154_code 1 (some .boolean) ws ({ frames := 0, cells := 0, slots := 0, locals := 0 } : Room) #[(.ref xa)] h0 (oPq (some (.int (1 : Int32))) h0) := by
  refine oCon.of (plainFor_of_name pn_0) ?_
  intro p e s m below meth c T X hx hby hml hown hnm hret hlk hZ e0
  have hml : c.maxLocals = 1 := hml
  have K : oKp h0 h0 [] [] := oKp.nil _ _
  refine oWk.cast (g' := (mkF m 0 #[rv xa] [])) (by first | rfl | (simp [entryFrame, mkF, argsToLocals, Value.category]; done)) ?_
  have Oh := K.old O0 all0
  obtain ⟨T, X, e0, st⟩ := getS2 X hx hZ hown (host := "") (Or.inl (oW hw 58 rfl)) Via.refl e0 (S_Z.ext Oh) (g := (mkF m 0 #[rv xa] [])) rfl (hb hby d14_0)
  refine oWk.st (fun _ kt => st _ (zH X hx hby d14_3 rfl rfl ((if0 _ _).trans (feq hz).1) (zA X hx hby d14_6 rfl rfl rfl kt))) ?_
  obtain ⟨T, X, e0, st⟩ := getF X hx hZ hown (host := "") (Or.inl (oW hw 27 rfl)) Via.refl e0 F_coder_xa (g := (mkF m 7 #[rv xa] [(.ref xa)])) rfl rfl (hb hby d14_7)
  refine oWk.to (mkF m 18 #[rv xa] [(.int 1)]) (fun _ kt => st _ (zH X hx hby d14_10 rfl rfl ((if0 _ _).trans (teq (by decide)).2) (zK X hx hby d14_13 rfl (zG X hx hby d14_14 rfl (pc' := 18) rfl kt)))) ?_
  exact oRetZ X hx hlk hret (hb hby d14_18) (Or.inr rfl) (by rw [e0]; exact ⟨rfl, rfl, K⟩) (by decide) (by decide)
abbrev yy16 : MethodName := ⟨"java/lang/String", "codePointCount", "(II)I"⟩
theorem d11_0 : decode jdk_42_method_59_code 0 = .ok (.iload_n 1, 1) := by decide +kernel
theorem d11_1 : decode jdk_42_method_59_code 1 = .ok (.iload_n 2, 1) := by decide +kernel
theorem d11_2 : decode jdk_42_method_59_code 2 = .ok (.aload_n 0, 1) := by decide +kernel
theorem d11_3 : decode jdk_42_method_59_code 3 = .ok (.invokevirtual 505, 3) := by decide +kernel
theorem cs9 {a0 : Array Value} {Z : State} (hw : oHW a0 Z) : oCall Z Y0 (.invokevirtual 505) yy12 jdk_42_method_54_code 1 (some .int) (oRv Z 0 Y0) := oCall.virt (oW hw 71 rfl) (oW hw 49 rfl) (fun _ hZ => notFace_of_selects (args := #[]) (mvT hZ (oW hw 51 rfl))) (oW hw 51 rfl) (oW hw 50 rfl) (oW hw 8 rfl) (oW hw 52 rfl) (by decide) pd_7
theorem d11_6 : decode jdk_42_method_59_code 6 = .ok (.invokestatic 511, 3) := by decide +kernel
theorem pd_9 : parseMethodDescriptor "(III)I" = some ⟨[.int, .int, .int], some .int⟩ := by decide +kernel
theorem cs10 {a0 : Array Value} {Z : State} (hw : oHW a0 Z) : oCall Z Y0 (.invokestatic 511) yy8 jdk_31_method_18_code 3 (some .int) (oRs 3) := oCall.stat (oW hw 72 rfl) (oW hw 73 rfl) (oW hw 38 rfl) (oW hw 74 rfl) (by decide) pd_9
theorem d11_9 : decode jdk_42_method_59_code 9 = .ok (.pop, 1) := by decide +kernel
theorem d11_10 : decode jdk_42_method_59_code 10 = .ok (.aload_n 0, 1) := by decide +kernel
theorem d11_11 : decode jdk_42_method_59_code 11 = .ok (.invokevirtual 492, 3) := by decide +kernel
theorem pd_10 : parseMethodDescriptor "()Z" = some ⟨[], some .boolean⟩ := by decide +kernel
theorem cs11 {a0 : Array Value} {Z : State} (hw : oHW a0 Z) : oCall Z Y0 (.invokevirtual 492) yy15 jdk_42_method_154_code 1 (some .boolean) (oRv Z 0 Y0) := oCall.virt (oW hw 79 rfl) (oW hw 80 rfl) (fun _ hZ => notFace_of_selects (args := #[]) (mvT hZ (oW hw 82 rfl))) (oW hw 82 rfl) (oW hw 81 rfl) (oW hw 8 rfl) (oW hw 83 rfl) (by decide) pd_10
theorem d11_14 : decode jdk_42_method_59_code 14 = .ok (.ifCond .eq 7, 3) := by decide +kernel
theorem d11_17 : decode jdk_42_method_59_code 17 = .ok (.iload_n 2, 1) := by decide +kernel
theorem d11_18 : decode jdk_42_method_59_code 18 = .ok (.iload_n 1, 1) := by decide +kernel
theorem d11_19 : decode jdk_42_method_59_code 19 = .ok (.isub, 1) := by decide +kernel
theorem d11_20 : decode jdk_42_method_59_code 20 = .ok (.ireturn, 1) := by decide +kernel
theorem rCPC_0 (l : Launch) (Z : State) (a0 : Array Value) (hw : oHW a0 Z) (ws : List Jvm.Cond) (xa xb : Addr) (xk : ClassId) (xz : Int32) (h0 : Heap) (O0 : Ext Z.heap h0) (S_Z : Sta Z Z.heap Y0 Y2 "Z" (.int xz)) (hz : ¬ xz = (0 : Int32)) (E_xa : Exa Z h0 xa Y0) (F_coder_xa : Fld Z h0 xa Y0 "coder" "B" (.int (0 : Int32))) (F_value_xa : Fld Z h0 xa Y0 "value" "[B" (.ref xb)) (V_xb : Arv Z h0 xb xk .byte (0 : Int32) [] (.int (0 : Int32))) :
    oCon l Z yy16 jdk_42_method_59_code 3 (some .int) ws ({ frames := 2, cells := 0, slots := 0, locals := 29 } : Room) #[(.ref xa), (.int (0 : Int32)), (.int (0 : Int32))] h0 (oPq (some (.int (0 : Int32))) h0) := by
  refine oCon.of (plainFor_of_name pn_0) ?_
  intro p e s m below meth c T X hx hby hml hown hnm hret hlk hZ e0
  have hml : c.maxLocals = 3 := hml
  have K : oKp h0 h0 [] [] := oKp.nil _ _
  refine oWk.cast (g' := (mkF m 0 #[rv xa, iv 0, iv 0] [])) (by first | rfl | (simp [entryFrame, mkF, argsToLocals, Value.category]; done)) ?_
  refine oWk.st (fun _ kt => zI X hx hby d11_0 rfl rfl (zI X hx hby d11_1 rfl rfl (zA X hx hby d11_2 rfl rfl rfl kt))) ?_
  have Oh := K.old O0 all0
  obtain ⟨T, L2, X, e0, K, st⟩ := (cs9 hw).pure X hx hZ hown e0 K (A := [(.ref xa)]) ⟨rfl, _, _, rfl, E_xa⟩ (rLn_0 l Z a0 hw [] xa xb xk xz h0 Oh S_Z hz E_xa F_coder_xa F_value_xa V_xb) (W := 2) (by decide) hml (Ls := #[rv xa, iv 0, iv 0]) rfl (rest := [(.int (0 : Int32)), (.int (0 : Int32))]) rfl rfl hby d11_3
  refine oWk.st (fun _ kt => st _ kt) ?_
  obtain ⟨T, L4, X, e0, K, st⟩ := (cs10 hw).pure X hx hZ hown e0 K (A := [(.int (0 : Int32)), (.int (0 : Int32)), (.int (0 : Int32))]) rfl (rOFt l Z a0 hw [] (0 : Int32) (0 : Int32) (0 : Int32) h0 Oh (by decide) (by decide) (by decide)) (W := 0) (by decide) hml (Ls := #[rv xa, iv 0, iv 0]) rfl (rest := []) rfl rfl hby d11_6
  refine oWk.st (fun _ kt => st _ (XS.pop X.here hx rfl (hb hby d11_9) rfl rfl (zA X hx hby d11_10 rfl rfl rfl kt))) ?_
  obtain ⟨T, L6, X, e0, K, st⟩ := (cs11 hw).pure X hx hZ hown e0 K (A := [(.ref xa)]) ⟨rfl, _, _, rfl, E_xa⟩ (rIsL l Z a0 hw [] xa xz h0 Oh S_Z hz F_coder_xa) (W := 0) (by decide) hml (Ls := #[rv xa, iv 0, iv 0]) rfl (rest := []) rfl rfl hby d11_11
  refine oWk.to (mkF m 20 #[rv xa, iv 0, iv 0] [(.int 0)]) (fun _ kt => st _ (zH X hx hby d11_14 rfl rfl ((if0 _ _).trans (feq (by decide)).1) (zI X hx hby d11_17 rfl rfl (zI X hx hby d11_18 rfl rfl (XS.isub X.here hx rfl (hb hby d11_19) rfl kt))))) ?_
  exact oRetI X hx hlk hret (hb hby d11_20) (by rw [e0]; exact ⟨rfl, rfl, K⟩) (by decide) (by decide)
def Q_rPI_0 (Z : State) (xp : Addr) (xi xd : Int32) (u1 u2 u3 u4 : Value) (xa xb : Addr) (xk : ClassId) (xfm : Value) (xz : Int32) (h0 : Heap) (v : Option Value) (h : Heap) (L : List Loc) : Prop := v = none ∧ oKp h0 h [xp] L ∧ (Exa Z h xp Y1) ∧ (Fld Z h xp Y1 "position" "I" (.int xi)) ∧ (Fld Z h xp Y1 "deleteCount" "I" (.int xd)) ∧ (Fld Z h xp Y1 "insertion" Y3 (.ref xa))
theorem pn_7 : plainName "com/example/wakati/wakati/Patch" = true := by first | (simp [plainName, overriddenIn]; done) | decide +kernel
abbrev yy17 : MethodName := ⟨"com/example/wakati/wakati/Patch", "<init>", "(IILjava/lang/String;)V"⟩
theorem d5_0 : decode prog_10_method_1_code 0 = .ok (.aload_n 0, 1) := by decide +kernel
theorem d5_1 : decode prog_10_method_1_code 1 = .ok (.invokespecial 1, 3) := by decide +kernel
theorem d5_4 : decode prog_10_method_1_code 4 = .ok (.aload_n 3, 1) := by decide +kernel
theorem d5_5 : decode prog_10_method_1_code 5 = .ok (.ldc 7, 2) := by decide +kernel
theorem d5_7 : decode prog_10_method_1_code 7 = .ok (.invokestatic 9, 3) := by decide +kernel
theorem pd_11 : parseMethodDescriptor "(Ljava/lang/Object;Ljava/lang/String;)Ljava/lang/Object;" = some ⟨[(.object "java/lang/Object"), (.object "java/lang/String")], some (.object "java/lang/Object")⟩ := by decide +kernel
theorem cs12 {a0 : Array Value} {Z : State} (hw : oHW a0 Z) : oCall Z Y1 (.invokestatic 9) yy6 jdk_31_method_11_code 2 (some (.object Y11)) (oRs 2) := oCall.stat (oW hw 36 rfl) (oW hw 37 rfl) (oW hw 38 rfl) (oW hw 39 rfl) (by decide) pd_11
theorem d5_10 : decode prog_10_method_1_code 10 = .ok (.pop, 1) := by decide +kernel
theorem d5_11 : decode prog_10_method_1_code 11 = .ok (.iload_n 1, 1) := by decide +kernel
theorem d5_12 : decode prog_10_method_1_code 12 = .ok (.ifCond .ge 17, 3) := by decide +kernel
theorem d5_29 : decode prog_10_method_1_code 29 = .ok (.iload_n 2, 1) := by decide +kernel
theorem d5_30 : decode prog_10_method_1_code 30 = .ok (.ifCond .ge 17, 3) := by decide +kernel
theorem d5_47 : decode prog_10_method_1_code 47 = .ok (.ldc 25, 2) := by decide +kernel
theorem d5_49 : decode prog_10_method_1_code 49 = .ok (.aload_n 3, 1) := by decide +kernel
theorem d5_50 : decode prog_10_method_1_code 50 = .ok (.invokestatic 27, 3) := by decide +kernel
theorem pd_12 : parseMethodDescriptor "(Ljava/lang/String;Ljava/lang/String;)V" = some ⟨[(.object "java/lang/String"), (.object "java/lang/String")], none⟩ := by decide +kernel
theorem cs13 {a0 : Array Value} {Z : State} (hw : oHW a0 Z) : oCall Z Y1 (.invokestatic 27) yy14 prog_13_method_2_code 3 none (oRs 2) := oCall.stat (oW hw 41 rfl) (oW hw 42 rfl) (oW hw 43 rfl) (oW hw 44 rfl) (by decide) pd_12
theorem d5_53 : decode prog_10_method_1_code 53 = .ok (.aload_n 0, 1) := by decide +kernel
theorem d5_54 : decode prog_10_method_1_code 54 = .ok (.iload_n 1, 1) := by decide +kernel
theorem d5_55 : decode prog_10_method_1_code 55 = .ok (.putfield 33, 3) := by decide +kernel
theorem d5_58 : decode prog_10_method_1_code 58 = .ok (.aload_n 0, 1) := by decide +kernel
theorem d5_59 : decode prog_10_method_1_code 59 = .ok (.iload_n 2, 1) := by decide +kernel
theorem d5_60 : decode prog_10_method_1_code 60 = .ok (.putfield 39, 3) := by decide +kernel
theorem d5_63 : decode prog_10_method_1_code 63 = .ok (.aload_n 0, 1) := by decide +kernel
theorem d5_64 : decode prog_10_method_1_code 64 = .ok (.aload_n 3, 1) := by decide +kernel
theorem d5_65 : decode prog_10_method_1_code 65 = .ok (.putfield 42, 3) := by decide +kernel
theorem d5_68 : decode prog_10_method_1_code 68 = .ok (.aload_n 0, 1) := by decide +kernel
theorem d5_69 : decode prog_10_method_1_code 69 = .ok (.aload_n 3, 1) := by decide +kernel
theorem d5_70 : decode prog_10_method_1_code 70 = .ok (.iconst 0, 1) := by decide +kernel
theorem d5_71 : decode prog_10_method_1_code 71 = .ok (.aload_n 3, 1) := by decide +kernel
theorem d5_72 : decode prog_10_method_1_code 72 = .ok (.invokevirtual 45, 3) := by decide +kernel
theorem cs14 {a0 : Array Value} {Z : State} (hw : oHW a0 Z) : oCall Z Y1 (.invokevirtual 45) yy12 jdk_42_method_54_code 1 (some .int) (oRv Z 0 Y0) := oCall.virt (oW hw 65 rfl) (oW hw 49 rfl) (fun _ hZ => notFace_of_selects (args := #[]) (mvT hZ (oW hw 51 rfl))) (oW hw 51 rfl) (oW hw 50 rfl) (oW hw 8 rfl) (oW hw 52 rfl) (by decide) pd_7
theorem d5_75 : decode prog_10_method_1_code 75 = .ok (.invokevirtual 51, 3) := by decide +kernel
theorem pd_13 : parseMethodDescriptor "(II)I" = some ⟨[.int, .int], some .int⟩ := by decide +kernel
theorem cs15 {a0 : Array Value} {Z : State} (hw : oHW a0 Z) : oCall Z Y1 (.invokevirtual 51) yy16 jdk_42_method_59_code 3 (some .int) (oRv Z 2 Y0) := oCall.virt (oW hw 66 rfl) (oW hw 67 rfl) (fun _ hZ => notFace_of_selects (args := #[]) (mvT hZ (oW hw 69 rfl))) (oW hw 69 rfl) (oW hw 68 rfl) (oW hw 8 rfl) (oW hw 70 rfl) (by decide) pd_13
theorem d5_78 : decode prog_10_method_1_code 78 = .ok (.putfield 55, 3) := by decide +kernel
theorem d5_81 : decode prog_10_method_1_code 81 = .ok (.return_, 1) := by decide +kernel
theorem rPI_0 (l : Launch) (Z : State) (a0 : Array Value) (hw : oHW a0 Z) (ws : List Jvm.Cond) (xp : Addr) (xi xd : Int32) (u1 u2 u3 u4 : Value) (xa xb : Addr) (xk : ClassId) (xfm : Value) (xz : Int32) (h0 : Heap) (O0 : Ext Z.heap h0) (S_Z : Sta Z Z.heap Y0 Y2 "Z" (.int xz)) (hz : ¬ xz = (0 : Int32)) (S_F : Sta Z Z.heap Y5 Y6 Y7 xfm) (hcat : xfm.category = 1) (og_xp : Z.heap.size ≤ xp) (E_xp : Exa Z h0 xp Y1) (F_position_xp : Fld Z h0 xp Y1 "position" "I" u1) (F_deleteCount_xp : Fld Z h0 xp Y1 "deleteCount" "I" u2) (F_insertion_xp : Fld Z h0 xp Y1 "insertion" Y3 u3) (F_insertionLength_xp : Fld Z h0 xp Y1 Y4 "I" u4) (E_xa : Exa Z h0 xa Y0) (F_coder_xa : Fld Z h0 xa Y0 "coder" "B" (.int (0 : Int32))) (F_value_xa : Fld Z h0 xa Y0 "value" "[B" (.ref xb)) (V_xb : Arv Z h0 xb xk .byte (0 : Int32) [] (.int (0 : Int32))) (ne_xa_xp : xa ≠ xp) (ne_xb_xp : xb ≠ xp) (hi : ¬ xi < (0 : Int32)) (hd : ¬ xd < (0 : Int32)) :
    oConH l Z oEL yy17 prog_10_method_1_code 4 none ws ({ frames := 4, cells := 4, slots := 112, locals := 54 } : Room) #[(.ref xp), (.int xi), (.int xd), (.ref xa)] h0 [xp] (Q_rPI_0 Z xp xi xd u1 u2 u3 u4 xa xb xk xfm xz h0) := by
  refine oConH.of (plainFor_of_name pn_7) ?_
  intro p e s m below meth c T vm X hx hby hml hown hnm hret hlk hZ e0 B hsf
  have sf_xp := hsf xp (List.mem_of_getElem? (i := 0) rfl)
  have hml : c.maxLocals = 4 := hml
  have K : oKp h0 h0 [xp] [] := oKp.nil _ _
  refine oWk.cast (g' := (mkF m 0 #[rv xp, iv xi, iv xd, rv xa] [])) (by first | rfl | (simp [entryFrame, mkF, argsToLocals, Value.category]; done)) ?_
  refine oWk.st (fun _ kt => zA X hx hby d5_0 rfl rfl rfl kt) ?_
  obtain ⟨T, X, e0, st⟩ := initO X hx hZ hown (oW hw 34 rfl) (oW hw 18 rfl) (oW hw 19 rfl) e0 (g := (mkF m 1 #[rv xp, iv xi, iv xd, rv xa] [(.ref xp)])) rfl (by rw [hml]; rfl) rfl (hb hby d5_1) (by decide) (W := 0) (Nat.le_of_eq rfl) (by decide)
  refine oWk.st (fun _ kt => st _ (zA X hx hby d5_4 rfl rfl rfl kt)) ?_
  obtain ⟨lt1, T, h, X, e2, E1, hZ, hown, B, C, st⟩ := oLdcO X hx hZ hown (oW hw 35 rfl) (oSA hw) e0 (oELw hw) B (g := (mkF m 5 #[rv xp, iv xi, iv xd, rv xa] [(.ref xa)])) rfl (hb hby d5_5) (n := 68) (by decide) (by decide) (by decide) (by decide)
  have sf_xp := C.safe E_xp.lt sf_xp
  have e0 := e2
  have K := K.ext E1
  refine oWk.st (fun _ kt => st _ kt) ?_
  have Oh := K.old O0 (allS og_xp all0)
  obtain ⟨T, L3, X, e0, K, st⟩ := (cs12 hw).pure X hx hZ hown e0 K (A := [(.ref xa), (.ref lt1)]) rfl (rRN2 l Z a0 hw [] xa lt1 h Oh ) (W := 0) (by decide) hml (Ls := #[rv xp, iv xi, iv xd, rv xa]) rfl (rest := []) rfl rfl hby d5_7
  refine oWk.st (fun _ kt => st _ (XS.pop X.here hx rfl (hb hby d5_10) rfl rfl (zI X hx hby d5_11 rfl rfl (zF X hx hby d5_12 rfl rfl ((if0 _ _).trans (flt hi).2.1) (pc' := 29) rfl (zI X hx hby d5_29 rfl rfl (zF X hx hby d5_30 rfl rfl ((if0 _ _).trans (flt hd).2.1) (pc' := 47) rfl kt)))))) ?_
  have E_xp := (E_xp.ext E1)
  obtain ⟨lt4, T, h, X, e2, E4, hZ, hown, B, C, st⟩ := oLdcO X hx hZ hown (oW hw 40 rfl) (oSA hw) e0 (oELw hw) B (g := (mkF m 47 #[rv xp, iv xi, iv xd, rv xa] [])) rfl (hb hby d5_47) (n := 36) (by decide) (by decide) (by decide) (by decide)
  have sf_xp := C.safe E_xp.lt sf_xp
  have e0 := e2
  have K := K.ext E4
  refine oWk.st (fun _ kt => st _ (zA X hx hby d5_49 rfl rfl rfl kt)) ?_
  have E_xa := ((E_xa.ext E1).ext E4)
  have F_coder_xa := ((F_coder_xa.ext E1).ext E4)
  have F_value_xa := ((F_value_xa.ext E1).ext E4)
  have V_xb := ((V_xb.ext E1).ext E4)
  have Oh := K.old O0 (allS og_xp all0)
  obtain ⟨T, L6, X, e0, K, st⟩ := (cs13 hw).pure X hx hZ hown e0 K (A := [(.ref lt4), (.ref xa)]) rfl (rCP_0 l Z a0 hw [] lt4 xa xb xk xfm xz h Oh S_Z hz S_F hcat E_xa F_coder_xa F_value_xa V_xb) (W := 0) (by decide) hml (Ls := #[rv xp, iv xi, iv xd, rv xa]) rfl (rest := []) rfl rfl hby d5_50
  refine oWk.st (fun _ kt => st _ (zA X hx hby d5_53 rfl rfl rfl (zI X hx hby d5_54 rfl rfl kt))) ?_
  have E_xp := (E_xp.ext E4)
  have F_position_xp := ((F_position_xp.ext E1).ext E4)
  obtain ⟨T, h, X, e0, W7, st⟩ := putF X hx hZ hown (host := "") (Or.inl (oW hw 59 rfl)) Via.refl e0 F_position_xp E_xp (Or.inr ⟨(oW hw 60 rfl), rfl, hnm⟩) (oW hw 29 rfl) (ty := .int) (by decide) rfl rfl (g := (mkF m 55 #[rv xp, iv xi, iv xd, rv xa] [(.int xi), (.ref xp)])) rfl rfl (hb hby d5_55)
  have K := K.wr W7 (Or.inl (List.mem_of_getElem? (i := 0) rfl))
  have sw : Safe Z oEL _ _ xp := sf_xp
  have sf_xp := Safe.wr W7 sw B.2.1 sf_xp
  have B := B.wr W7 sw
  have F_position_xp := F_position_xp.same W7
  refine oWk.st (fun _ kt => st _ (zA X hx hby d5_58 rfl rfl rfl (zI X hx hby d5_59 rfl rfl kt))) ?_
  have E_xp := (E_xp.wr W7)
  have F_deleteCount_xp := (((F_deleteCount_xp.ext E1).ext E4).other W7 (Or.inr (slot_ne (Or.inr (oW hw 62 rfl)) (Or.inr (oW hw 60 rfl)) (by decide) (t := .int) (t' := .int) (by decide) (by decide))))
  obtain ⟨T, h, X, e0, W8, st⟩ := putF X hx hZ hown (host := "") (Or.inl (oW hw 61 rfl)) Via.refl e0 F_deleteCount_xp E_xp (Or.inr ⟨(oW hw 62 rfl), rfl, hnm⟩) (oW hw 29 rfl) (ty := .int) (by decide) rfl rfl (g := (mkF m 60 #[rv xp, iv xi, iv xd, rv xa] [(.int xd), (.ref xp)])) rfl rfl (hb hby d5_60)
  have K := K.wr W8 (Or.inl (List.mem_of_getElem? (i := 0) rfl))
  have sw : Safe Z oEL _ _ xp := sf_xp
  have sf_xp := Safe.wr W8 sw B.2.1 sf_xp
  have B := B.wr W8 sw
  have F_deleteCount_xp := F_deleteCount_xp.same W8
  refine oWk.st (fun _ kt => st _ (zA X hx hby d5_63 rfl rfl rfl (zA X hx hby d5_64 rfl rfl rfl kt))) ?_
  have E_xp := (E_xp.wr W8)
  have F_insertion_xp := ((((F_insertion_xp.ext E1).ext E4).other W7 (Or.inr (slot_ne (Or.inr (oW hw 64 rfl)) (Or.inr (oW hw 60 rfl)) (by decide) (t := (.object Y0)) (t' := .int) (by decide) (by decide)))).other W8 (Or.inr (slot_ne (Or.inr (oW hw 64 rfl)) (Or.inr (oW hw 62 rfl)) (by decide) (t := (.object Y0)) (t' := .int) (by decide) (by decide))))
  obtain ⟨T, h, X, e0, W9, st⟩ := putF X hx hZ hown (host := "") (Or.inl (oW hw 63 rfl)) Via.refl e0 F_insertion_xp E_xp (Or.inr ⟨(oW hw 64 rfl), rfl, hnm⟩) (oW hw 29 rfl) (ty := (.object Y0)) (by decide) rfl rfl (g := (mkF m 65 #[rv xp, iv xi, iv xd, rv xa] [(.ref xa), (.ref xp)])) rfl rfl (hb hby d5_65)
  have K := K.wr W9 (Or.inl (List.mem_of_getElem? (i := 0) rfl))
  have sw : Safe Z oEL _ _ xp := sf_xp
  have sf_xp := Safe.wr W9 sw B.2.1 sf_xp
  have B := B.wr W9 sw
  have F_insertion_xp := F_insertion_xp.same W9
  refine oWk.st (fun _ kt => st _ (zA X hx hby d5_68 rfl rfl rfl (zA X hx hby d5_69 rfl rfl rfl (zK X hx hby d5_70 rfl (zA X hx hby d5_71 rfl rfl rfl kt))))) ?_
  have E_xa := (((E_xa.wr W7).wr W8).wr W9)
  have F_coder_xa := (((F_coder_xa.other W7 (Or.inl ne_xa_xp)).other W8 (Or.inl ne_xa_xp)).other W9 (Or.inl ne_xa_xp))
  have F_value_xa := (((F_value_xa.other W7 (Or.inl ne_xa_xp)).other W8 (Or.inl ne_xa_xp)).other W9 (Or.inl ne_xa_xp))
  have V_xb := (((V_xb.other W7 ne_xb_xp).other W8 ne_xb_xp).other W9 ne_xb_xp)
  have Oh := K.old O0 (allS og_xp all0)
  obtain ⟨T, L11, X, e0, K, st⟩ := (cs14 hw).pure X hx hZ hown e0 K (A := [(.ref xa)]) ⟨rfl, _, _, rfl, E_xa⟩ (rLn_0 l Z a0 hw [] xa xb xk xz h Oh S_Z hz E_xa F_coder_xa F_value_xa V_xb) (W := 3) (by decide) hml (Ls := #[rv xp, iv xi, iv xd, rv xa]) rfl (rest := [(.int (0 : Int32)), (.ref xa), (.ref xp)]) rfl rfl hby d5_72
  refine oWk.st (fun _ kt => st _ kt) ?_
  obtain ⟨T, L13, X, e0, K, st⟩ := (cs15 hw).pure X hx hZ hown e0 K (A := [(.ref xa), (.int (0 : Int32)), (.int (0 : Int32))]) ⟨rfl, _, _, rfl, E_xa⟩ (rCPC_0 l Z a0 hw [] xa xb xk xz h Oh S_Z hz E_xa F_coder_xa F_value_xa V_xb) (W := 1) (by decide) hml (Ls := #[rv xp, iv xi, iv xd, rv xa]) rfl (rest := [(.ref xp)]) rfl rfl hby d5_75
  refine oWk.st (fun _ kt => st _ kt) ?_
  have E_xp := (E_xp.wr W9)
  have F_insertionLength_xp := (((((F_insertionLength_xp.ext E1).ext E4).other W7 (Or.inr (slot_ne (Or.inr (oW hw 85 rfl)) (Or.inr (oW hw 60 rfl)) (by decide) (t := .int) (t' := .int) (by decide) (by decide)))).other W8 (Or.inr (slot_ne (Or.inr (oW hw 85 rfl)) (Or.inr (oW hw 62 rfl)) (by decide) (t := .int) (t' := .int) (by decide) (by decide)))).other W9 (Or.inr (slot_ne (Or.inr (oW hw 85 rfl)) (Or.inr (oW hw 64 rfl)) (by decide) (t := .int) (t' := (.object Y0)) (by decide) (by decide))))
  obtain ⟨T, h, X, e0, W14, st⟩ := putF X hx hZ hown (host := "") (Or.inl (oW hw 84 rfl)) Via.refl e0 F_insertionLength_xp E_xp (Or.inr ⟨(oW hw 85 rfl), rfl, hnm⟩) (oW hw 29 rfl) (ty := .int) (by decide) rfl rfl (g := (mkF m 78 #[rv xp, iv xi, iv xd, rv xa] [(.int 0), (.ref xp)])) rfl rfl (hb hby d5_78)
  have K := K.wr W14 (Or.inl (List.mem_of_getElem? (i := 0) rfl))
  have sw : Safe Z oEL _ _ xp := sf_xp
  have sf_xp := Safe.wr W14 sw B.2.1 sf_xp
  have B := B.wr W14 sw
  have F_insertionLength_xp := F_insertionLength_xp.same W14
  refine oWk.to (mkF m 81 #[rv xp, iv xi, iv xd, rv xa] []) (fun _ kt => st _ kt) ?_
  have E_xp := (E_xp.wr W14)
  have F_position_xp := (((F_position_xp.other W8 (Or.inr (slot_ne (Or.inr (oW hw 60 rfl)) (Or.inr (oW hw 62 rfl)) (by decide) (t := .int) (t' := .int) (by decide) (by decide)))).other W9 (Or.inr (slot_ne (Or.inr (oW hw 60 rfl)) (Or.inr (oW hw 64 rfl)) (by decide) (t := .int) (t' := (.object Y0)) (by decide) (by decide)))).other W14 (Or.inr (slot_ne (Or.inr (oW hw 60 rfl)) (Or.inr (oW hw 85 rfl)) (by decide) (t := .int) (t' := .int) (by decide) (by decide))))
  have F_deleteCount_xp := ((F_deleteCount_xp.other W9 (Or.inr (slot_ne (Or.inr (oW hw 62 rfl)) (Or.inr (oW hw 64 rfl)) (by decide) (t := .int) (t' := (.object Y0)) (by decide) (by decide)))).other W14 (Or.inr (slot_ne (Or.inr (oW hw 62 rfl)) (Or.inr (oW hw 85 rfl)) (by decide) (t := .int) (t' := .int) (by decide) (by decide))))
  have F_insertion_xp := (F_insertion_xp.other W14 (Or.inr (slot_ne (Or.inr (oW hw 64 rfl)) (Or.inr (oW hw 85 rfl)) (by decide) (t := (.object Y0)) (t' := .int) (by decide) (by decide))))
  exact oRetHV X hx hlk hZ (oELw hw) e0 B hret (hb hby d5_81) (by rw [e0]; exact ⟨rfl, K, E_xp, F_position_xp, F_deleteCount_xp, F_insertion_xp⟩) (by decide) (by decide)
theorem rLn_1 (l : Launch) (Z : State) (a0 : Array Value) (hw : oHW a0 Z) (ws : List Jvm.Cond) (xa xb : Addr) (xk : ClassId) (xz xc0 : Int32) (h0 : Heap) (O0 : Ext Z.heap h0) (S_Z : Sta Z Z.heap Y0 Y2 "Z" (.int xz)) (hz : ¬ xz = (0 : Int32)) (E_xa : Exa Z h0 xa Y0) (F_coder_xa : Fld Z h0 xa Y0 "coder" "B" (.int (0 : Int32))) (F_value_xa : Fld Z h0 xa Y0 "value" "[B" (.ref xb)) (V_xb : Arv Z h0 xb xk .byte (1 : Int32) [(ib xc0)] (.int (0 : Int32))) :
    oCon l Z yy12 jdk_42_method_54_code 1 (some .int) ws ({ frames := 1, cells := 0, slots := 0, locals := 13 } : Room) #[(.ref xa)] h0 (oPq (some (.int (1 : Int32))) h0) := by
  refine oCon.of (plainFor_of_name pn_0) ?_
  intro p e s m below meth c T X hx hby hml hown hnm hret hlk hZ e0
  have hml : c.maxLocals = 1 := hml
  have K : oKp h0 h0 [] [] := oKp.nil _ _
  refine oWk.cast (g' := (mkF m 0 #[rv xa] [])) (by first | rfl | (simp [entryFrame, mkF, argsToLocals, Value.category]; done)) ?_
  refine oWk.st (fun _ kt => zA X hx hby d9_0 rfl rfl rfl kt) ?_
  obtain ⟨T, X, e0, st⟩ := getF X hx hZ hown (host := "") (Or.inl (oW hw 26 rfl)) Via.refl e0 F_value_xa (g := (mkF m 1 #[rv xa] [(.ref xa)])) rfl rfl (hb hby d9_1)
  refine oWk.st (fun _ kt => st _ (oAl X hx hZ e0 V_xb hby d9_4 rfl rfl (zA X hx hby d9_5 rfl rfl rfl kt))) ?_
  have Oh := K.old O0 all0
  obtain ⟨T, L3, X, e0, K, st⟩ := (cs6 hw).pure X hx hZ hown e0 K (A := [(.ref xa)]) ⟨rfl, _, _, rfl, E_xa⟩ (rCdr l Z a0 hw [] xa xz h0 Oh S_Z hz F_coder_xa) (W := 1) (by decide) hml (Ls := #[rv xa]) rfl (rest := [(.int (1 : Int32))]) rfl rfl hby d9_6
  refine oWk.to (mkF m 10 #[rv xa] [(.int 1)]) (fun _ kt => st _ (XS.ishr X.here hx rfl (hb hby d9_9) rfl kt)) ?_
  exact oRetI X hx hlk hret (hb hby d9_10) (by rw [e0]; exact ⟨rfl, rfl, K⟩) (by decide) (by decide)
abbrev yy18 : MethodName := ⟨"jdk/internal/util/Preconditions", "checkIndex", "(IILjava/util/function/BiFunction;)I"⟩
theorem d22_0 : decode jdk_41_method_11_code 0 = .ok (.iload_n 0, 1) := by decide +kernel
theorem d22_1 : decode jdk_41_method_11_code 1 = .ok (.ifCond .lt 8, 3) := by decide +kernel
theorem d22_4 : decode jdk_41_method_11_code 4 = .ok (.iload_n 0, 1) := by decide +kernel
theorem d22_5 : decode jdk_41_method_11_code 5 = .ok (.iload_n 1, 1) := by decide +kernel
theorem d22_6 : decode jdk_41_method_11_code 6 = .ok (.if_icmp .lt 10, 3) := by decide +kernel
theorem d22_16 : decode jdk_41_method_11_code 16 = .ok (.iload_n 0, 1) := by decide +kernel
theorem d22_17 : decode jdk_41_method_11_code 17 = .ok (.ireturn, 1) := by decide +kernel
theorem rPCk (l : Launch) (Z : State) (a0 : Array Value) (hw : oHW a0 Z) (ws : List Jvm.Cond) (xi xn : Int32) (xfm : Value) (h0 : Heap) (O0 : Ext Z.heap h0) (hcat : xfm.category = 1) (h1 : ¬ xi < (0 : Int32)) (h2 : xi < xn) :
    oCon l Z yy18 jdk_41_method_11_code 3 (some .int) ws ({ frames := 0, cells := 0, slots := 0, locals := 0 } : Room) #[(.int xi), (.int xn), xfm] h0 (oPq (some (.int xi)) h0) := by
  refine oCon.of (plainFor_of_name pn_4) ?_
  intro p e s m below meth c T X hx hby hml hown hnm hret hlk hZ e0
  have hml : c.maxLocals = 3 := hml
  have K : oKp h0 h0 [] [] := oKp.nil _ _
  refine oWk.cast (g' := (mkF m 0 #[iv xi, iv xn, .val xfm] [])) (by cases xfm <;> first | rfl | exact absurd hcat (by simp [Value.category])) ?_
  refine oWk.to (mkF m 17 #[iv xi, iv xn, .val xfm] [(.int xi)]) (fun _ kt => zI X hx hby d22_0 rfl rfl (zH X hx hby d22_1 rfl rfl ((if0 _ _).trans (flt h1).1) (zI X hx hby d22_4 rfl rfl (zI X hx hby d22_5 rfl rfl (zY X hx hby d22_6 rfl rfl (tlt h2).1 (pc' := 16) rfl (zI X hx hby d22_16 rfl rfl kt)))))) ?_
  exact oRetI X hx hlk hret (hb hby d22_17) (by rw [e0]; exact ⟨rfl, rfl, K⟩) (by decide) (by decide)
abbrev yy19 : MethodName := ⟨"java/lang/String", "checkIndex", "(II)V"⟩
theorem d21_0 : decode jdk_42_method_155_code 0 = .ok (.iload_n 0, 1) := by decide +kernel
theorem d21_1 : decode jdk_42_method_155_code 1 = .ok (.iload_n 1, 1) := by decide +kernel
theorem d21_2 : decode jdk_42_method_155_code 2 = .ok (.getstatic 1053, 3) := by decide +kernel
theorem d21_5 : decode jdk_42_method_155_code 5 = .ok (.invokestatic 1059, 3) := by decide +kernel
theorem pd_14 : parseMethodDescriptor "(IILjava/util/function/BiFunction;)I" = some ⟨[.int, .int, (.object "java/util/function/BiFunction")], some .int⟩ := by decide +kernel
theorem cs16 {a0 : Array Value} {Z : State} (hw : oHW a0 Z) : oCall Z Y0 (.invokestatic 1059) yy18 jdk_41_method_11_code 3 (some .int) (oRs 3) := oCall.stat (oW hw 116 rfl) (oW hw 117 rfl) (oW hw 77 rfl) (oW hw 118 rfl) (by decide) pd_14
theorem d21_8 : decode jdk_42_method_155_code 8 = .ok (.pop, 1) := by decide +kernel
theorem d21_9 : decode jdk_42_method_155_code 9 = .ok (.return_, 1) := by decide +kernel
theorem rCkI (l : Launch) (Z : State) (a0 : Array Value) (hw : oHW a0 Z) (ws : List Jvm.Cond) (xi xn : Int32) (xfm : Value) (h0 : Heap) (O0 : Ext Z.heap h0) (S_F : Sta Z Z.heap Y5 Y6 Y7 xfm) (hcat : xfm.category = 1) (h1 : ¬ xi < (0 : Int32)) (h2 : xi < xn) :
    oCon l Z yy19 jdk_42_method_155_code 2 none ws ({ frames := 1, cells := 0, slots := 0, locals := 14 } : Room) #[(.int xi), (.int xn)] h0 (oPq none h0) := by
  refine oCon.of (plainFor_of_name pn_0) ?_
  intro p e s m below meth c T X hx hby hml hown hnm hret hlk hZ e0
  have hml : c.maxLocals = 2 := hml
  have K : oKp h0 h0 [] [] := oKp.nil _ _
  refine oWk.cast (g' := (mkF m 0 #[iv xi, iv xn] [])) (by first | rfl | (simp [entryFrame, mkF, argsToLocals, Value.category]; done)) ?_
  refine oWk.st (fun _ kt => zI X hx hby d21_0 rfl rfl (zI X hx hby d21_1 rfl rfl kt)) ?_
  have Oh := K.old O0 all0
  obtain ⟨T, X, e0, st⟩ := getS2 X hx hZ hown (host := "") (Or.inl (oW hw 115 rfl)) Via.refl e0 (S_F.ext Oh) (g := (mkF m 2 #[iv xi, iv xn] [(.int xn), (.int xi)])) rfl (hb hby d21_2)
  refine oWk.st (fun _ kt => st _ kt) ?_
  obtain ⟨T, L2, X, e0, K, st⟩ := (cs16 hw).pure X hx hZ hown e0 K (A := [(.int xi), (.int xn), xfm]) rfl (rPCk l Z a0 hw [] xi xn xfm h0 Oh hcat h1 h2) (W := 0) (by decide) hml (Ls := #[iv xi, iv xn]) rfl (rest := []) rfl rfl hby d21_5
  refine oWk.to (mkF m 9 #[iv xi, iv xn] []) (fun _ kt => st _ (XS.pop X.here hx rfl (hb hby d21_8) rfl rfl kt)) ?_
  exact oRetV X hx hlk hret (hb hby d21_9) (by rw [e0]; exact ⟨rfl, rfl, K⟩) (by decide) (by decide)
theorem pn_8 : plainName "java/lang/StringLatin1" = true := by first | (simp [plainName, overriddenIn]; done) | decide +kernel
abbrev yy20 : MethodName := ⟨"java/lang/StringLatin1", "charAt", "([BI)C"⟩
theorem d20_0 : decode jdk_43_method_2_code 0 = .ok (.iload_n 1, 1) := by decide +kernel
theorem d20_1 : decode jdk_43_method_2_code 1 = .ok (.aload_n 0, 1) := by decide +kernel
theorem d20_2 : decode jdk_43_method_2_code 2 = .ok (.arraylength, 1) := by decide +kernel
theorem d20_3 : decode jdk_43_method_2_code 3 = .ok (.invokestatic 9, 3) := by decide +kernel
theorem pd_15 : parseMethodDescriptor "(II)V" = some ⟨[.int, .int], none⟩ := by decide +kernel
theorem cs17 {a0 : Array Value} {Z : State} (hw : oHW a0 Z) : oCall Z Y13 (.invokestatic 9) yy19 jdk_42_method_155_code 2 none (oRs 2) := oCall.stat (oW hw 112 rfl) (oW hw 113 rfl) (oW hw 8 rfl) (oW hw 114 rfl) (by decide) pd_15
theorem d20_6 : decode jdk_43_method_2_code 6 = .ok (.aload_n 0, 1) := by decide +kernel
theorem d20_7 : decode jdk_43_method_2_code 7 = .ok (.iload_n 1, 1) := by decide +kernel
theorem d20_8 : decode jdk_43_method_2_code 8 = .ok (.baload, 1) := by decide +kernel
theorem d20_9 : decode jdk_43_method_2_code 9 = .ok (.sipush 255, 3) := by decide +kernel
theorem d20_12 : decode jdk_43_method_2_code 12 = .ok (.iand, 1) := by decide +kernel
theorem d20_13 : decode jdk_43_method_2_code 13 = .ok (.i2c, 1) := by decide +kernel
theorem d20_14 : decode jdk_43_method_2_code 14 = .ok (.ireturn, 1) := by decide +kernel
theorem rLC_1_0 (l : Launch) (Z : State) (a0 : Array Value) (hw : oHW a0 Z) (ws : List Jvm.Cond) (xb : Addr) (xk : ClassId) (xfm : Value) (xc0 : Int32) (h0 : Heap) (O0 : Ext Z.heap h0) (S_F : Sta Z Z.heap Y5 Y6 Y7 xfm) (hcat : xfm.category = 1) (hr : 0 ≤ xc0.toInt ∧ xc0.toInt < 256) (V_xb : Arv Z h0 xb xk .byte (1 : Int32) [(ib xc0)] (.int (0 : Int32))) :
    oCon l Z yy20 jdk_43_method_2_code 2 (some .char) ws ({ frames := 2, cells := 0, slots := 0, locals := 27 } : Room) #[(.ref xb), (.int (0 : Int32))] h0 (oPq (some (.int xc0)) h0) := by
  refine oCon.of (plainFor_of_name pn_8) ?_
  intro p e s m below meth c T X hx hby hml hown hnm hret hlk hZ e0
  have hml : c.maxLocals = 2 := hml
  have K : oKp h0 h0 [] [] := oKp.nil _ _
  refine oWk.cast (g' := (mkF m 0 #[rv xb, iv 0] [])) (by first | rfl | (simp [entryFrame, mkF, argsToLocals, Value.category]; done)) ?_
  refine oWk.st (fun _ kt => zI X hx hby d20_0 rfl rfl (zA X hx hby d20_1 rfl rfl rfl (oAl X hx hZ e0 V_xb hby d20_2 rfl rfl kt))) ?_
  have Oh := K.old O0 all0
  obtain ⟨T, L3, X, e0, K, st⟩ := (cs17 hw).pure X hx hZ hown e0 K (A := [(.int (0 : Int32)), (.int (1 : Int32))]) rfl (rCkI l Z a0 hw [] (0 : Int32) (1 : Int32) xfm h0 Oh S_F hcat (by decide) (by decide)) (W := 0) (by decide) hml (Ls := #[rv xb, iv 0]) rfl (rest := []) rfl rfl hby d20_3
  refine oWk.to (mkF m 14 #[rv xb, iv 0] [(.int (((xc0.toInt8.toInt32) &&& (255 : Int32)).toUInt32.toUInt16.toUInt32.toInt32))]) (fun _ kt => st _ (zA X hx hby d20_6 rfl rfl rfl (zI X hx hby d20_7 rfl rfl (oLdB X hx hZ e0 V_xb (0 : Int32) (ib xc0) ⟨by decide, by decide⟩ rfl hby d20_8 rfl rfl (zM X hx hby d20_9 rfl (XS.iand X.here hx rfl (hb hby d20_12) rfl (XS.i2c X.here hx rfl (hb hby d20_13) rfl kt))))))) ?_
  rw [oBk hr]
  show oWk _ _ _ _ T (mkF m 14 #[rv xb, iv 0] [(.int xc0)])
  exact oRetN X hx hlk hret (Or.inr (Or.inl rfl)) (show narrow .char (.int xc0) = .int xc0 from congrArg Value.int (oChr hr)) (hb hby d20_14) (by rw [e0]; exact ⟨rfl, rfl, K⟩) (by decide) (by decide)
abbrev yy21 : MethodName := ⟨"java/lang/String", "charAt", "(I)C"⟩
theorem d19_0 : decode jdk_42_method_56_code 0 = .ok (.aload_n 0, 1) := by decide +kernel
theorem d19_1 : decode jdk_42_method_56_code 1 = .ok (.invokevirtual 492, 3) := by decide +kernel
theorem d19_4 : decode jdk_42_method_56_code 4 = .ok (.ifCond .eq 12, 3) := by decide +kernel
theorem d19_7 : decode jdk_42_method_56_code 7 = .ok (.aload_n 0, 1) := by decide +kernel
theorem d19_8 : decode jdk_42_method_56_code 8 = .ok (.getfield 9, 3) := by decide +kernel
theorem d19_11 : decode jdk_42_method_56_code 11 = .ok (.iload_n 1, 1) := by decide +kernel
theorem d19_12 : decode jdk_42_method_56_code 12 = .ok (.invokestatic 495, 3) := by decide +kernel
theorem pd_16 : parseMethodDescriptor "([BI)C" = some ⟨[(.array .byte), .int], some .char⟩ := by decide +kernel
theorem cs18 {a0 : Array Value} {Z : State} (hw : oHW a0 Z) : oCall Z Y0 (.invokestatic 495) yy20 jdk_43_method_2_code 2 (some .char) (oRs 2) := oCall.stat (oW hw 108 rfl) (oW hw 109 rfl) (oW hw 110 rfl) (oW hw 111 rfl) (by decide) pd_16
theorem d19_15 : decode jdk_42_method_56_code 15 = .ok (.ireturn, 1) := by decide +kernel
theorem rCA_1_0 (l : Launch) (Z : State) (a0 : Array Value) (hw : oHW a0 Z) (ws : List Jvm.Cond) (xa xb : Addr) (xk : ClassId) (xfm : Value) (xz xc0 : Int32) (h0 : Heap) (O0 : Ext Z.heap h0) (S_Z : Sta Z Z.heap Y0 Y2 "Z" (.int xz)) (hz : ¬ xz = (0 : Int32)) (S_F : Sta Z Z.heap Y5 Y6 Y7 xfm) (hcat : xfm.category = 1) (hr : 0 ≤ xc0.toInt ∧ xc0.toInt < 256) (E_xa : Exa Z h0 xa Y0) (F_coder_xa : Fld Z h0 xa Y0 "coder" "B" (.int (0 : Int32))) (F_value_xa : Fld Z h0 xa Y0 "value" "[B" (.ref xb)) (V_xb : Arv Z h0 xb xk .byte (1 : Int32) [(ib xc0)] (.int (0 : Int32))) :
    oCon l Z yy21 jdk_42_method_56_code 2 (some .char) ws ({ frames := 3, cells := 0, slots := 0, locals := 40 } : Room) #[(.ref xa), (.int (0 : Int32))] h0 (oPq (some (.int xc0)) h0) := by
  refine oCon.of (plainFor_of_name pn_0) ?_
  intro p e s m below meth c T X hx hby hml hown hnm hret hlk hZ e0
  have hml : c.maxLocals = 2 := hml
  have K : oKp h0 h0 [] [] := oKp.nil _ _
  refine oWk.cast (g' := (mkF m 0 #[rv xa, iv 0] [])) (by first | rfl | (simp [entryFrame, mkF, argsToLocals, Value.category]; done)) ?_
  refine oWk.st (fun _ kt => zA X hx hby d19_0 rfl rfl rfl kt) ?_
  have Oh := K.old O0 all0
  obtain ⟨T, L2, X, e0, K, st⟩ := (cs11 hw).pure X hx hZ hown e0 K (A := [(.ref xa)]) ⟨rfl, _, _, rfl, E_xa⟩ (rIsL l Z a0 hw [] xa xz h0 Oh S_Z hz F_coder_xa) (W := 0) (by decide) hml (Ls := #[rv xa, iv 0]) rfl (rest := []) rfl rfl hby d19_1
  refine oWk.st (fun _ kt => st _ (zH X hx hby d19_4 rfl rfl ((if0 _ _).trans (feq (by decide)).1) (zA X hx hby d19_7 rfl rfl rfl kt))) ?_
  obtain ⟨T, X, e0, st⟩ := getF X hx hZ hown (host := "") (Or.inl (oW hw 26 rfl)) Via.refl e0 F_value_xa (g := (mkF m 8 #[rv xa, iv 0] [(.ref xa)])) rfl rfl (hb hby d19_8)
  refine oWk.st (fun _ kt => st _ (zI X hx hby d19_11 rfl rfl kt)) ?_
  obtain ⟨T, L4, X, e0, K, st⟩ := (cs18 hw).pure X hx hZ hown e0 K (A := [(.ref xb), (.int (0 : Int32))]) rfl (rLC_1_0 l Z a0 hw [] xb xk xfm xc0 h0 Oh S_F hcat hr V_xb) (W := 0) (by decide) hml (Ls := #[rv xa, iv 0]) rfl (rest := []) rfl rfl hby d19_12
  refine oWk.to (mkF m 15 #[rv xa, iv 0] [(.int xc0)]) (fun _ kt => st _ kt) ?_
  exact oRetN X hx hlk hret (Or.inr (Or.inl rfl)) (show narrow .char (.int xc0) = .int xc0 from congrArg Value.int (oChr hr)) (hb hby d19_15) (by rw [e0]; exact ⟨rfl, rfl, K⟩) (by decide) (by decide)
theorem d8_10 : decode prog_13_method_3_code 10 = .ok (.aload_n 0, 1) := by decide +kernel
theorem d8_11 : decode prog_13_method_3_code 11 = .ok (.iload_n 1, 1) := by decide +kernel
theorem d8_12 : decode prog_13_method_3_code 12 = .ok (.invokevirtual 23, 3) := by decide +kernel
theorem pd_17 : parseMethodDescriptor "(I)C" = some ⟨[.int], some .char⟩ := by decide +kernel
theorem cs19 {a0 : Array Value} {Z : State} (hw : oHW a0 Z) : oCall Z Y8 (.invokevirtual 23) yy21 jdk_42_method_56_code 2 (some .char) (oRv Z 1 Y0) := oCall.virt (oW hw 103 rfl) (oW hw 104 rfl) (fun _ hZ => notFace_of_selects (args := #[]) (mvT hZ (oW hw 106 rfl))) (oW hw 106 rfl) (oW hw 105 rfl) (oW hw 8 rfl) (oW hw 107 rfl) (by decide) pd_17
theorem d8_15 : decode prog_13_method_3_code 15 = .ok (.istore_n 2, 1) := by decide +kernel
theorem d8_16 : decode prog_13_method_3_code 16 = .ok (.iload_n 2, 1) := by decide +kernel
theorem d8_17 : decode prog_13_method_3_code 17 = .ok (.invokestatic 46, 3) := by decide +kernel
theorem pd_18 : parseMethodDescriptor "(C)Z" = some ⟨[.char], some .boolean⟩ := by decide +kernel
theorem cs20 {a0 : Array Value} {Z : State} (hw : oHW a0 Z) : oCall Z Y8 (.invokestatic 46) yy9 jdk_89_method_14_code 1 (some .boolean) (oRs 1) := oCall.stat (oW hw 119 rfl) (oW hw 120 rfl) (oW hw 121 rfl) (oW hw 122 rfl) (by decide) pd_18
theorem d8_20 : decode prog_13_method_3_code 20 = .ok (.ifCond .eq 32, 3) := by decide +kernel
theorem d8_52 : decode prog_13_method_3_code 52 = .ok (.iload_n 2, 1) := by decide +kernel
theorem d8_53 : decode prog_13_method_3_code 53 = .ok (.invokestatic 55, 3) := by decide +kernel
theorem cs21 {a0 : Array Value} {Z : State} (hw : oHW a0 Z) : oCall Z Y8 (.invokestatic 55) yy10 jdk_89_method_16_code 1 (some .boolean) (oRs 1) := oCall.stat (oW hw 124 rfl) (oW hw 125 rfl) (oW hw 121 rfl) (oW hw 126 rfl) (by decide) pd_18
theorem d8_56 : decode prog_13_method_3_code 56 = .ok (.ifCond .eq 5, 3) := by decide +kernel
theorem d8_61 : decode prog_13_method_3_code 61 = .ok (.iinc 1 1, 3) := by decide +kernel
theorem d8_64 : decode prog_13_method_3_code 64 = .ok (.goto (-62), 3) := by decide +kernel
theorem rFL_1 (l : Launch) (Z : State) (a0 : Array Value) (hw : oHW a0 Z) (ws : List Jvm.Cond) (xa xb : Addr) (xk : ClassId) (xfm : Value) (xz xc0 : Int32) (h0 : Heap) (O0 : Ext Z.heap h0) (S_Z : Sta Z Z.heap Y0 Y2 "Z" (.int xz)) (hz : ¬ xz = (0 : Int32)) (S_F : Sta Z Z.heap Y5 Y6 Y7 xfm) (hcat : xfm.category = 1) (E_xa : Exa Z h0 xa Y0) (F_coder_xa : Fld Z h0 xa Y0 "coder" "B" (.int (0 : Int32))) (F_value_xa : Fld Z h0 xa Y0 "value" "[B" (.ref xb)) (V_xb : Arv Z h0 xb xk .byte (1 : Int32) [(ib xc0)] (.int (0 : Int32))) (hr0 : 0 ≤ xc0.toInt ∧ xc0.toInt < 256) :
    oCon l Z yy13 prog_13_method_3_code 3 (some .int) ws ({ frames := 4, cells := 0, slots := 0, locals := 53 } : Room) #[(.ref xa)] h0 (oPq (some (.int (-1 : Int32))) h0) := by
  refine oCon.of (plainFor_of_name pn_6) ?_
  intro p e s m below meth c T X hx hby hml hown hnm hret hlk hZ e0
  have hml : c.maxLocals = 3 := hml
  have K : oKp h0 h0 [] [] := oKp.nil _ _
  refine oWk.cast (g' := (mkF m 0 #[rv xa, uu, uu] [])) (by first | rfl | (simp [entryFrame, mkF, argsToLocals, Value.category]; done)) ?_
  refine oWk.st (fun _ kt => zK X hx hby d8_0 rfl (zSn X hx hby d8_1 rfl rfl (l' := #[rv xa, iv 0, uu]) rfl (zI X hx hby d8_2 rfl rfl (zA X hx hby d8_3 rfl rfl rfl kt)))) ?_
  have Oh := K.old O0 all0
  obtain ⟨T, L2, X, e0, K, st⟩ := (cs7 hw).pure X hx hZ hown e0 K (A := [(.ref xa)]) ⟨rfl, _, _, rfl, E_xa⟩ (rLn_1 l Z a0 hw [] xa xb xk xz xc0 h0 Oh S_Z hz E_xa F_coder_xa F_value_xa V_xb) (W := 1) (by decide) hml (Ls := #[rv xa, iv 0, uu]) rfl (rest := [(.int (0 : Int32))]) rfl rfl hby d8_4
  refine oWk.st (fun _ kt => st _ (zN X hx hby d8_7 rfl rfl (tlt (by decide)).2.1 (zA X hx hby d8_10 rfl rfl rfl (zI X hx hby d8_11 rfl rfl kt)))) ?_
  obtain ⟨T, L4, X, e0, K, st⟩ := (cs19 hw).pure X hx hZ hown e0 K (A := [(.ref xa), (.int (0 : Int32))]) ⟨rfl, _, _, rfl, E_xa⟩ (rCA_1_0 l Z a0 hw [] xa xb xk xfm xz xc0 h0 Oh S_Z hz S_F hcat hr0 E_xa F_coder_xa F_value_xa V_xb) (W := 0) (by decide) hml (Ls := #[rv xa, iv 0, uu]) rfl (rest := []) rfl rfl hby d8_12
  refine oWk.st (fun _ kt => st _ (zSn X hx hby d8_15 rfl rfl (l' := #[rv xa, iv 0, iv xc0]) rfl (zI X hx hby d8_16 rfl rfl kt))) ?_
  obtain ⟨T, L6, X, e0, K, st⟩ := (cs20 hw).pure X hx hZ hown e0 K (A := [(.int xc0)]) rfl (risHighSurrogate l Z a0 hw [] xc0 h0 Oh hr0) (W := 0) (by decide) hml (Ls := #[rv xa, iv 0, iv xc0]) rfl (rest := []) rfl rfl hby d8_17
  refine oWk.st (fun _ kt => st _ (zF X hx hby d8_20 rfl rfl ((if0 _ _).trans (teq (by decide)).1) (pc' := 52) rfl (zI X hx hby d8_52 rfl rfl kt))) ?_
  obtain ⟨T, L8, X, e0, K, st⟩ := (cs21 hw).pure X hx hZ hown e0 K (A := [(.int xc0)]) rfl (risSurrogate l Z a0 hw [] xc0 h0 Oh hr0) (W := 0) (by decide) hml (Ls := #[rv xa, iv 0, iv xc0]) rfl (rest := []) rfl rfl hby d8_53
  refine oWk.st (fun _ kt => st _ (zF X hx hby d8_56 rfl rfl ((if0 _ _).trans (teq (by decide)).1) (pc' := 61) rfl (zC X hx hby d8_61 rfl rfl (l' := #[rv xa, iv ((0 : Int32) + (1 : Int32)), iv xc0]) rfl (zG X hx hby d8_64 rfl (pc' := 2) rfl (zI X hx hby d8_2 rfl rfl (zA X hx hby d8_3 rfl rfl rfl kt)))))) ?_
  obtain ⟨T, L10, X, e0, K, st⟩ := (cs7 hw).pure X hx hZ hown e0 K (A := [(.ref xa)]) ⟨rfl, _, _, rfl, E_xa⟩ (rLn_1 l Z a0 hw [] xa xb xk xz xc0 h0 Oh S_Z hz E_xa F_coder_xa F_value_xa V_xb) (W := 1) (by decide) hml (Ls := #[rv xa, iv 1, iv xc0]) rfl (rest := [(.int (1 : Int32))]) rfl rfl hby d8_4
  refine oWk.to (mkF m 68 #[rv xa, iv 1, iv xc0] [(.int (-1 : Int32))]) (fun _ kt => st _ (zY X hx hby d8_7 rfl rfl (flt (by decide)).2.1 (pc' := 67) rfl (zK X hx hby d8_67 rfl kt))) ?_
  exact oRetI X hx hlk hret (hb hby d8_68) (by rw [e0]; exact ⟨rfl, rfl, K⟩) (by decide) (by decide)
theorem rCP_1 (l : Launch) (Z : State) (a0 : Array Value) (hw : oHW a0 Z) (ws : List Jvm.Cond) (xy xa xb : Addr) (xk : ClassId) (xfm : Value) (xz xc0 : Int32) (h0 : Heap) (O0 : Ext Z.heap h0) (S_Z : Sta Z Z.heap Y0 Y2 "Z" (.int xz)) (hz : ¬ xz = (0 : Int32)) (S_F : Sta Z Z.heap Y5 Y6 Y7 xfm) (hcat : xfm.category = 1) (E_xa : Exa Z h0 xa Y0) (F_coder_xa : Fld Z h0 xa Y0 "coder" "B" (.int (0 : Int32))) (F_value_xa : Fld Z h0 xa Y0 "value" "[B" (.ref xb)) (V_xb : Arv Z h0 xb xk .byte (1 : Int32) [(ib xc0)] (.int (0 : Int32))) (hr0 : 0 ≤ xc0.toInt ∧ xc0.toInt < 256) :
    oCon l Z yy14 prog_13_method_2_code 3 none ws ({ frames := 5, cells := 0, slots := 0, locals := 67 } : Room) #[(.ref xy), (.ref xa)] h0 (oPq none h0) := by
  refine oCon.of (plainFor_of_name pn_6) ?_
  intro p e s m below meth c T X hx hby hml hown hnm hret hlk hZ e0
  have hml : c.maxLocals = 3 := hml
  have K : oKp h0 h0 [] [] := oKp.nil _ _
  refine oWk.cast (g' := (mkF m 0 #[rv xy, rv xa, uu] [])) (by first | rfl | (simp [entryFrame, mkF, argsToLocals, Value.category]; done)) ?_
  refine oWk.st (fun _ kt => zA X hx hby d7_0 rfl rfl rfl kt) ?_
  have Oh := K.old O0 all0
  obtain ⟨T, L2, X, e0, K, st⟩ := (cs8 hw).pure X hx hZ hown e0 K (A := [(.ref xa)]) rfl (rFL_1 l Z a0 hw [] xa xb xk xfm xz xc0 h0 Oh S_Z hz S_F hcat E_xa F_coder_xa F_value_xa V_xb hr0) (W := 0) (by decide) hml (Ls := #[rv xy, rv xa, uu]) rfl (rest := []) rfl rfl hby d7_1
  refine oWk.to (mkF m 51 #[rv xy, rv xa, iv (-1 : Int32)] []) (fun _ kt => st _ (zSn X hx hby d7_4 rfl rfl (l' := #[rv xy, rv xa, iv (-1 : Int32)]) rfl (zI X hx hby d7_5 rfl rfl (zF X hx hby d7_6 rfl rfl ((if0 _ _).trans (tlt (by decide)).1) (pc' := 51) rfl kt)))) ?_
  exact oRetV X hx hlk hret (hb hby d7_51) (by rw [e0]; exact ⟨rfl, rfl, K⟩) (by decide) (by decide)
theorem rCPC_1 (l : Launch) (Z : State) (a0 : Array Value) (hw : oHW a0 Z) (ws : List Jvm.Cond) (xa xb : Addr) (xk : ClassId) (xz xc0 : Int32) (h0 : Heap) (O0 : Ext Z.heap h0) (S_Z : Sta Z Z.heap Y0 Y2 "Z" (.int xz)) (hz : ¬ xz = (0 : Int32)) (E_xa : Exa Z h0 xa Y0) (F_coder_xa : Fld Z h0 xa Y0 "coder" "B" (.int (0 : Int32))) (F_value_xa : Fld Z h0 xa Y0 "value" "[B" (.ref xb)) (V_xb : Arv Z h0 xb xk .byte (1 : Int32) [(ib xc0)] (.int (0 : Int32))) :
    oCon l Z yy16 jdk_42_method_59_code 3 (some .int) ws ({ frames := 2, cells := 0, slots := 0, locals := 29 } : Room) #[(.ref xa), (.int (0 : Int32)), (.int (1 : Int32))] h0 (oPq (some (.int (1 : Int32))) h0) := by
  refine oCon.of (plainFor_of_name pn_0) ?_
  intro p e s m below meth c T X hx hby hml hown hnm hret hlk hZ e0
  have hml : c.maxLocals = 3 := hml
  have K : oKp h0 h0 [] [] := oKp.nil _ _
  refine oWk.cast (g' := (mkF m 0 #[rv xa, iv 0, iv 1] [])) (by first | rfl | (simp [entryFrame, mkF, argsToLocals, Value.category]; done)) ?_
  refine oWk.st (fun _ kt => zI X hx hby d11_0 rfl rfl (zI X hx hby d11_1 rfl rfl (zA X hx hby d11_2 rfl rfl rfl kt))) ?_
  have Oh := K.old O0 all0
  obtain ⟨T, L2, X, e0, K, st⟩ := (cs9 hw).pure X hx hZ hown e0 K (A := [(.ref xa)]) ⟨rfl, _, _, rfl, E_xa⟩ (rLn_1 l Z a0 hw [] xa xb xk xz xc0 h0 Oh S_Z hz E_xa F_coder_xa F_value_xa V_xb) (W := 2) (by decide) hml (Ls := #[rv xa, iv 0, iv 1]) rfl (rest := [(.int (1 : Int32)), (.int (0 : Int32))]) rfl rfl hby d11_3
  refine oWk.st (fun _ kt => st _ kt) ?_
  obtain ⟨T, L4, X, e0, K, st⟩ := (cs10 hw).pure X hx hZ hown e0 K (A := [(.int (0 : Int32)), (.int (1 : Int32)), (.int (1 : Int32))]) rfl (rOFt l Z a0 hw [] (0 : Int32) (1 : Int32) (1 : Int32) h0 Oh (by decide) (by decide) (by decide)) (W := 0) (by decide) hml (Ls := #[rv xa, iv 0, iv 1]) rfl (rest := []) rfl rfl hby d11_6
  refine oWk.st (fun _ kt => st _ (XS.pop X.here hx rfl (hb hby d11_9) rfl rfl (zA X hx hby d11_10 rfl rfl rfl kt))) ?_
  obtain ⟨T, L6, X, e0, K, st⟩ := (cs11 hw).pure X hx hZ hown e0 K (A := [(.ref xa)]) ⟨rfl, _, _, rfl, E_xa⟩ (rIsL l Z a0 hw [] xa xz h0 Oh S_Z hz F_coder_xa) (W := 0) (by decide) hml (Ls := #[rv xa, iv 0, iv 1]) rfl (rest := []) rfl rfl hby d11_11
  refine oWk.to (mkF m 20 #[rv xa, iv 0, iv 1] [(.int 1)]) (fun _ kt => st _ (zH X hx hby d11_14 rfl rfl ((if0 _ _).trans (feq (by decide)).1) (zI X hx hby d11_17 rfl rfl (zI X hx hby d11_18 rfl rfl (XS.isub X.here hx rfl (hb hby d11_19) rfl kt))))) ?_
  exact oRetI X hx hlk hret (hb hby d11_20) (by rw [e0]; exact ⟨rfl, rfl, K⟩) (by decide) (by decide)
def Q_rPI_1 (Z : State) (xp : Addr) (xi xd : Int32) (u1 u2 u3 u4 : Value) (xa xb : Addr) (xk : ClassId) (xfm : Value) (xz xc0 : Int32) (h0 : Heap) (v : Option Value) (h : Heap) (L : List Loc) : Prop := v = none ∧ oKp h0 h [xp] L ∧ (Exa Z h xp Y1) ∧ (Fld Z h xp Y1 "position" "I" (.int xi)) ∧ (Fld Z h xp Y1 "deleteCount" "I" (.int xd)) ∧ (Fld Z h xp Y1 "insertion" Y3 (.ref xa))
theorem rPI_1 (l : Launch) (Z : State) (a0 : Array Value) (hw : oHW a0 Z) (ws : List Jvm.Cond) (xp : Addr) (xi xd : Int32) (u1 u2 u3 u4 : Value) (xa xb : Addr) (xk : ClassId) (xfm : Value) (xz xc0 : Int32) (h0 : Heap) (O0 : Ext Z.heap h0) (S_Z : Sta Z Z.heap Y0 Y2 "Z" (.int xz)) (hz : ¬ xz = (0 : Int32)) (S_F : Sta Z Z.heap Y5 Y6 Y7 xfm) (hcat : xfm.category = 1) (og_xp : Z.heap.size ≤ xp) (E_xp : Exa Z h0 xp Y1) (F_position_xp : Fld Z h0 xp Y1 "position" "I" u1) (F_deleteCount_xp : Fld Z h0 xp Y1 "deleteCount" "I" u2) (F_insertion_xp : Fld Z h0 xp Y1 "insertion" Y3 u3) (F_insertionLength_xp : Fld Z h0 xp Y1 Y4 "I" u4) (E_xa : Exa Z h0 xa Y0) (F_coder_xa : Fld Z h0 xa Y0 "coder" "B" (.int (0 : Int32))) (F_value_xa : Fld Z h0 xa Y0 "value" "[B" (.ref xb)) (V_xb : Arv Z h0 xb xk .byte (1 : Int32) [(ib xc0)] (.int (0 : Int32))) (hr0 : 0 ≤ xc0.toInt ∧ xc0.toInt < 256) (ne_xa_xp : xa ≠ xp) (ne_xb_xp : xb ≠ xp) (hi : ¬ xi < (0 : Int32)) (hd : ¬ xd < (0 : Int32)) :
    oConH l Z oEL yy17 prog_10_method_1_code 4 none ws ({ frames := 6, cells := 4, slots := 112, locals := 81 } : Room) #[(.ref xp), (.int xi), (.int xd), (.ref xa)] h0 [xp] (Q_rPI_1 Z xp xi xd u1 u2 u3 u4 xa xb xk xfm xz xc0 h0) := by
  refine oConH.of (plainFor_of_name pn_7) ?_
  intro p e s m below meth c T vm X hx hby hml hown hnm hret hlk hZ e0 B hsf
  have sf_xp := hsf xp (List.mem_of_getElem? (i := 0) rfl)
  have hml : c.maxLocals = 4 := hml
  have K : oKp h0 h0 [xp] [] := oKp.nil _ _
  refine oWk.cast (g' := (mkF m 0 #[rv xp, iv xi, iv xd, rv xa] [])) (by first | rfl | (simp [entryFrame, mkF, argsToLocals, Value.category]; done)) ?_
  refine oWk.st (fun _ kt => zA X hx hby d5_0 rfl rfl rfl kt) ?_
  obtain ⟨T, X, e0, st⟩ := initO X hx hZ hown (oW hw 34 rfl) (oW hw 18 rfl) (oW hw 19 rfl) e0 (g := (mkF m 1 #[rv xp, iv xi, iv xd, rv xa] [(.ref xp)])) rfl (by rw [hml]; rfl) rfl (hb hby d5_1) (by decide) (W := 0) (Nat.le_of_eq rfl) (by decide)
  refine oWk.st (fun _ kt => st _ (zA X hx hby d5_4 rfl rfl rfl kt)) ?_
  obtain ⟨lt1, T, h, X, e2, E1, hZ, hown, B, C, st⟩ := oLdcO X hx hZ hown (oW hw 35 rfl) (oSA hw) e0 (oELw hw) B (g := (mkF m 5 #[rv xp, iv xi, iv xd, rv xa] [(.ref xa)])) rfl (hb hby d5_5) (n := 68) (by decide) (by decide) (by decide) (by decide)
  have sf_xp := C.safe E_xp.lt sf_xp
  have e0 := e2
  have K := K.ext E1
  refine oWk.st (fun _ kt => st _ kt) ?_
  have Oh := K.old O0 (allS og_xp all0)
  obtain ⟨T, L3, X, e0, K, st⟩ := (cs12 hw).pure X hx hZ hown e0 K (A := [(.ref xa), (.ref lt1)]) rfl (rRN2 l Z a0 hw [] xa lt1 h Oh ) (W := 0) (by decide) hml (Ls := #[rv xp, iv xi, iv xd, rv xa]) rfl (rest := []) rfl rfl hby d5_7
  refine oWk.st (fun _ kt => st _ (XS.pop X.here hx rfl (hb hby d5_10) rfl rfl (zI X hx hby d5_11 rfl rfl (zF X hx hby d5_12 rfl rfl ((if0 _ _).trans (flt hi).2.1) (pc' := 29) rfl (zI X hx hby d5_29 rfl rfl (zF X hx hby d5_30 rfl rfl ((if0 _ _).trans (flt hd).2.1) (pc' := 47) rfl kt)))))) ?_
  have E_xp := (E_xp.ext E1)
  obtain ⟨lt4, T, h, X, e2, E4, hZ, hown, B, C, st⟩ := oLdcO X hx hZ hown (oW hw 40 rfl) (oSA hw) e0 (oELw hw) B (g := (mkF m 47 #[rv xp, iv xi, iv xd, rv xa] [])) rfl (hb hby d5_47) (n := 36) (by decide) (by decide) (by decide) (by decide)
  have sf_xp := C.safe E_xp.lt sf_xp
  have e0 := e2
  have K := K.ext E4
  refine oWk.st (fun _ kt => st _ (zA X hx hby d5_49 rfl rfl rfl kt)) ?_
  have E_xa := ((E_xa.ext E1).ext E4)
  have F_coder_xa := ((F_coder_xa.ext E1).ext E4)
  have F_value_xa := ((F_value_xa.ext E1).ext E4)
  have V_xb := ((V_xb.ext E1).ext E4)
  have Oh := K.old O0 (allS og_xp all0)
  obtain ⟨T, L6, X, e0, K, st⟩ := (cs13 hw).pure X hx hZ hown e0 K (A := [(.ref lt4), (.ref xa)]) rfl (rCP_1 l Z a0 hw [] lt4 xa xb xk xfm xz xc0 h Oh S_Z hz S_F hcat E_xa F_coder_xa F_value_xa V_xb hr0) (W := 0) (by decide) hml (Ls := #[rv xp, iv xi, iv xd, rv xa]) rfl (rest := []) rfl rfl hby d5_50
  refine oWk.st (fun _ kt => st _ (zA X hx hby d5_53 rfl rfl rfl (zI X hx hby d5_54 rfl rfl kt))) ?_
  have E_xp := (E_xp.ext E4)
  have F_position_xp := ((F_position_xp.ext E1).ext E4)
  obtain ⟨T, h, X, e0, W7, st⟩ := putF X hx hZ hown (host := "") (Or.inl (oW hw 59 rfl)) Via.refl e0 F_position_xp E_xp (Or.inr ⟨(oW hw 60 rfl), rfl, hnm⟩) (oW hw 29 rfl) (ty := .int) (by decide) rfl rfl (g := (mkF m 55 #[rv xp, iv xi, iv xd, rv xa] [(.int xi), (.ref xp)])) rfl rfl (hb hby d5_55)
  have K := K.wr W7 (Or.inl (List.mem_of_getElem? (i := 0) rfl))
  have sw : Safe Z oEL _ _ xp := sf_xp
  have sf_xp := Safe.wr W7 sw B.2.1 sf_xp
  have B := B.wr W7 sw
  have F_position_xp := F_position_xp.same W7
  refine oWk.st (fun _ kt => st _ (zA X hx hby d5_58 rfl rfl rfl (zI X hx hby d5_59 rfl rfl kt))) ?_
  have E_xp := (E_xp.wr W7)
  have F_deleteCount_xp := (((F_deleteCount_xp.ext E1).ext E4).other W7 (Or.inr (slot_ne (Or.inr (oW hw 62 rfl)) (Or.inr (oW hw 60 rfl)) (by decide) (t := .int) (t' := .int) (by decide) (by decide))))
  obtain ⟨T, h, X, e0, W8, st⟩ := putF X hx hZ hown (host := "") (Or.inl (oW hw 61 rfl)) Via.refl e0 F_deleteCount_xp E_xp (Or.inr ⟨(oW hw 62 rfl), rfl, hnm⟩) (oW hw 29 rfl) (ty := .int) (by decide) rfl rfl (g := (mkF m 60 #[rv xp, iv xi, iv xd, rv xa] [(.int xd), (.ref xp)])) rfl rfl (hb hby d5_60)
  have K := K.wr W8 (Or.inl (List.mem_of_getElem? (i := 0) rfl))
  have sw : Safe Z oEL _ _ xp := sf_xp
  have sf_xp := Safe.wr W8 sw B.2.1 sf_xp
  have B := B.wr W8 sw
  have F_deleteCount_xp := F_deleteCount_xp.same W8
  refine oWk.st (fun _ kt => st _ (zA X hx hby d5_63 rfl rfl rfl (zA X hx hby d5_64 rfl rfl rfl kt))) ?_
  have E_xp := (E_xp.wr W8)
  have F_insertion_xp := ((((F_insertion_xp.ext E1).ext E4).other W7 (Or.inr (slot_ne (Or.inr (oW hw 64 rfl)) (Or.inr (oW hw 60 rfl)) (by decide) (t := (.object Y0)) (t' := .int) (by decide) (by decide)))).other W8 (Or.inr (slot_ne (Or.inr (oW hw 64 rfl)) (Or.inr (oW hw 62 rfl)) (by decide) (t := (.object Y0)) (t' := .int) (by decide) (by decide))))
  obtain ⟨T, h, X, e0, W9, st⟩ := putF X hx hZ hown (host := "") (Or.inl (oW hw 63 rfl)) Via.refl e0 F_insertion_xp E_xp (Or.inr ⟨(oW hw 64 rfl), rfl, hnm⟩) (oW hw 29 rfl) (ty := (.object Y0)) (by decide) rfl rfl (g := (mkF m 65 #[rv xp, iv xi, iv xd, rv xa] [(.ref xa), (.ref xp)])) rfl rfl (hb hby d5_65)
  have K := K.wr W9 (Or.inl (List.mem_of_getElem? (i := 0) rfl))
  have sw : Safe Z oEL _ _ xp := sf_xp
  have sf_xp := Safe.wr W9 sw B.2.1 sf_xp
  have B := B.wr W9 sw
  have F_insertion_xp := F_insertion_xp.same W9
  refine oWk.st (fun _ kt => st _ (zA X hx hby d5_68 rfl rfl rfl (zA X hx hby d5_69 rfl rfl rfl (zK X hx hby d5_70 rfl (zA X hx hby d5_71 rfl rfl rfl kt))))) ?_
  have E_xa := (((E_xa.wr W7).wr W8).wr W9)
  have F_coder_xa := (((F_coder_xa.other W7 (Or.inl ne_xa_xp)).other W8 (Or.inl ne_xa_xp)).other W9 (Or.inl ne_xa_xp))
  have F_value_xa := (((F_value_xa.other W7 (Or.inl ne_xa_xp)).other W8 (Or.inl ne_xa_xp)).other W9 (Or.inl ne_xa_xp))
  have V_xb := (((V_xb.other W7 ne_xb_xp).other W8 ne_xb_xp).other W9 ne_xb_xp)
  have Oh := K.old O0 (allS og_xp all0)
  obtain ⟨T, L11, X, e0, K, st⟩ := (cs14 hw).pure X hx hZ hown e0 K (A := [(.ref xa)]) ⟨rfl, _, _, rfl, E_xa⟩ (rLn_1 l Z a0 hw [] xa xb xk xz xc0 h Oh S_Z hz E_xa F_coder_xa F_value_xa V_xb) (W := 3) (by decide) hml (Ls := #[rv xp, iv xi, iv xd, rv xa]) rfl (rest := [(.int (0 : Int32)), (.ref xa), (.ref xp)]) rfl rfl hby d5_72
  refine oWk.st (fun _ kt => st _ kt) ?_
  obtain ⟨T, L13, X, e0, K, st⟩ := (cs15 hw).pure X hx hZ hown e0 K (A := [(.ref xa), (.int (0 : Int32)), (.int (1 : Int32))]) ⟨rfl, _, _, rfl, E_xa⟩ (rCPC_1 l Z a0 hw [] xa xb xk xz xc0 h Oh S_Z hz E_xa F_coder_xa F_value_xa V_xb) (W := 1) (by decide) hml (Ls := #[rv xp, iv xi, iv xd, rv xa]) rfl (rest := [(.ref xp)]) rfl rfl hby d5_75
  refine oWk.st (fun _ kt => st _ kt) ?_
  have E_xp := (E_xp.wr W9)
  have F_insertionLength_xp := (((((F_insertionLength_xp.ext E1).ext E4).other W7 (Or.inr (slot_ne (Or.inr (oW hw 85 rfl)) (Or.inr (oW hw 60 rfl)) (by decide) (t := .int) (t' := .int) (by decide) (by decide)))).other W8 (Or.inr (slot_ne (Or.inr (oW hw 85 rfl)) (Or.inr (oW hw 62 rfl)) (by decide) (t := .int) (t' := .int) (by decide) (by decide)))).other W9 (Or.inr (slot_ne (Or.inr (oW hw 85 rfl)) (Or.inr (oW hw 64 rfl)) (by decide) (t := .int) (t' := (.object Y0)) (by decide) (by decide))))
  obtain ⟨T, h, X, e0, W14, st⟩ := putF X hx hZ hown (host := "") (Or.inl (oW hw 84 rfl)) Via.refl e0 F_insertionLength_xp E_xp (Or.inr ⟨(oW hw 85 rfl), rfl, hnm⟩) (oW hw 29 rfl) (ty := .int) (by decide) rfl rfl (g := (mkF m 78 #[rv xp, iv xi, iv xd, rv xa] [(.int 1), (.ref xp)])) rfl rfl (hb hby d5_78)
  have K := K.wr W14 (Or.inl (List.mem_of_getElem? (i := 0) rfl))
  have sw : Safe Z oEL _ _ xp := sf_xp
  have sf_xp := Safe.wr W14 sw B.2.1 sf_xp
  have B := B.wr W14 sw
  have F_insertionLength_xp := F_insertionLength_xp.same W14
  refine oWk.to (mkF m 81 #[rv xp, iv xi, iv xd, rv xa] []) (fun _ kt => st _ kt) ?_
  have E_xp := (E_xp.wr W14)
  have F_position_xp := (((F_position_xp.other W8 (Or.inr (slot_ne (Or.inr (oW hw 60 rfl)) (Or.inr (oW hw 62 rfl)) (by decide) (t := .int) (t' := .int) (by decide) (by decide)))).other W9 (Or.inr (slot_ne (Or.inr (oW hw 60 rfl)) (Or.inr (oW hw 64 rfl)) (by decide) (t := .int) (t' := (.object Y0)) (by decide) (by decide)))).other W14 (Or.inr (slot_ne (Or.inr (oW hw 60 rfl)) (Or.inr (oW hw 85 rfl)) (by decide) (t := .int) (t' := .int) (by decide) (by decide))))
  have F_deleteCount_xp := ((F_deleteCount_xp.other W9 (Or.inr (slot_ne (Or.inr (oW hw 62 rfl)) (Or.inr (oW hw 64 rfl)) (by decide) (t := .int) (t' := (.object Y0)) (by decide) (by decide)))).other W14 (Or.inr (slot_ne (Or.inr (oW hw 62 rfl)) (Or.inr (oW hw 85 rfl)) (by decide) (t := .int) (t' := .int) (by decide) (by decide))))
  have F_insertion_xp := (F_insertion_xp.other W14 (Or.inr (slot_ne (Or.inr (oW hw 64 rfl)) (Or.inr (oW hw 85 rfl)) (by decide) (t := (.object Y0)) (t' := .int) (by decide) (by decide))))
  exact oRetHV X hx hlk hZ (oELw hw) e0 B hret (hb hby d5_81) (by rw [e0]; exact ⟨rfl, K, E_xp, F_position_xp, F_deleteCount_xp, F_insertion_xp⟩) (by decide) (by decide)
theorem rLn_2 (l : Launch) (Z : State) (a0 : Array Value) (hw : oHW a0 Z) (ws : List Jvm.Cond) (xa xb : Addr) (xk : ClassId) (xz xc0 xc1 : Int32) (h0 : Heap) (O0 : Ext Z.heap h0) (S_Z : Sta Z Z.heap Y0 Y2 "Z" (.int xz)) (hz : ¬ xz = (0 : Int32)) (E_xa : Exa Z h0 xa Y0) (F_coder_xa : Fld Z h0 xa Y0 "coder" "B" (.int (0 : Int32))) (F_value_xa : Fld Z h0 xa Y0 "value" "[B" (.ref xb)) (V_xb : Arv Z h0 xb xk .byte (2 : Int32) [(ib xc0), (ib xc1)] (.int (0 : Int32))) :
    oCon l Z yy12 jdk_42_method_54_code 1 (some .int) ws ({ frames := 1, cells := 0, slots := 0, locals := 13 } : Room) #[(.ref xa)] h0 (oPq (some (.int (2 : Int32))) h0) := by
  refine oCon.of (plainFor_of_name pn_0) ?_
  intro p e s m below meth c T X hx hby hml hown hnm hret hlk hZ e0
  have hml : c.maxLocals = 1 := hml
  have K : oKp h0 h0 [] [] := oKp.nil _ _
  refine oWk.cast (g' := (mkF m 0 #[rv xa] [])) (by first | rfl | (simp [entryFrame, mkF, argsToLocals, Value.category]; done)) ?_
  refine oWk.st (fun _ kt => zA X hx hby d9_0 rfl rfl rfl kt) ?_
  obtain ⟨T, X, e0, st⟩ := getF X hx hZ hown (host := "") (Or.inl (oW hw 26 rfl)) Via.refl e0 F_value_xa (g := (mkF m 1 #[rv xa] [(.ref xa)])) rfl rfl (hb hby d9_1)
  refine oWk.st (fun _ kt => st _ (oAl X hx hZ e0 V_xb hby d9_4 rfl rfl (zA X hx hby d9_5 rfl rfl rfl kt))) ?_
  have Oh := K.old O0 all0
  obtain ⟨T, L3, X, e0, K, st⟩ := (cs6 hw).pure X hx hZ hown e0 K (A := [(.ref xa)]) ⟨rfl, _, _, rfl, E_xa⟩ (rCdr l Z a0 hw [] xa xz h0 Oh S_Z hz F_coder_xa) (W := 1) (by decide) hml (Ls := #[rv xa]) rfl (rest := [(.int (2 : Int32))]) rfl rfl hby d9_6
  refine oWk.to (mkF m 10 #[rv xa] [(.int 2)]) (fun _ kt => st _ (XS.ishr X.here hx rfl (hb hby d9_9) rfl kt)) ?_
  exact oRetI X hx hlk hret (hb hby d9_10) (by rw [e0]; exact ⟨rfl, rfl, K⟩) (by decide) (by decide)
theorem rLC_2_0 (l : Launch) (Z : State) (a0 : Array Value) (hw : oHW a0 Z) (ws : List Jvm.Cond) (xb : Addr) (xk : ClassId) (xfm : Value) (xc0 xc1 : Int32) (h0 : Heap) (O0 : Ext Z.heap h0) (S_F : Sta Z Z.heap Y5 Y6 Y7 xfm) (hcat : xfm.category = 1) (hr : 0 ≤ xc0.toInt ∧ xc0.toInt < 256) (V_xb : Arv Z h0 xb xk .byte (2 : Int32) [(ib xc0), (ib xc1)] (.int (0 : Int32))) :
    oCon l Z yy20 jdk_43_method_2_code 2 (some .char) ws ({ frames := 2, cells := 0, slots := 0, locals := 27 } : Room) #[(.ref xb), (.int (0 : Int32))] h0 (oPq (some (.int xc0)) h0) := by
  refine oCon.of (plainFor_of_name pn_8) ?_
  intro p e s m below meth c T X hx hby hml hown hnm hret hlk hZ e0
  have hml : c.maxLocals = 2 := hml
  have K : oKp h0 h0 [] [] := oKp.nil _ _
  refine oWk.cast (g' := (mkF m 0 #[rv xb, iv 0] [])) (by first | rfl | (simp [entryFrame, mkF, argsToLocals, Value.category]; done)) ?_
  refine oWk.st (fun _ kt => zI X hx hby d20_0 rfl rfl (zA X hx hby d20_1 rfl rfl rfl (oAl X hx hZ e0 V_xb hby d20_2 rfl rfl kt))) ?_
  have Oh := K.old O0 all0
  obtain ⟨T, L3, X, e0, K, st⟩ := (cs17 hw).pure X hx hZ hown e0 K (A := [(.int (0 : Int32)), (.int (2 : Int32))]) rfl (rCkI l Z a0 hw [] (0 : Int32) (2 : Int32) xfm h0 Oh S_F hcat (by decide) (by decide)) (W := 0) (by decide) hml (Ls := #[rv xb, iv 0]) rfl (rest := []) rfl rfl hby d20_3
  refine oWk.to (mkF m 14 #[rv xb, iv 0] [(.int (((xc0.toInt8.toInt32) &&& (255 : Int32)).toUInt32.toUInt16.toUInt32.toInt32))]) (fun _ kt => st _ (zA X hx hby d20_6 rfl rfl rfl (zI X hx hby d20_7 rfl rfl (oLdB X hx hZ e0 V_xb (0 : Int32) (ib xc0) ⟨by decide, by decide⟩ rfl hby d20_8 rfl rfl (zM X hx hby d20_9 rfl (XS.iand X.here hx rfl (hb hby d20_12) rfl (XS.i2c X.here hx rfl (hb hby d20_13) rfl kt))))))) ?_
  rw [oBk hr]
  show oWk _ _ _ _ T (mkF m 14 #[rv xb, iv 0] [(.int xc0)])
  exact oRetN X hx hlk hret (Or.inr (Or.inl rfl)) (show narrow .char (.int xc0) = .int xc0 from congrArg Value.int (oChr hr)) (hb hby d20_14) (by rw [e0]; exact ⟨rfl, rfl, K⟩) (by decide) (by decide)
theorem rCA_2_0 (l : Launch) (Z : State) (a0 : Array Value) (hw : oHW a0 Z) (ws : List Jvm.Cond) (xa xb : Addr) (xk : ClassId) (xfm : Value) (xz xc0 xc1 : Int32) (h0 : Heap) (O0 : Ext Z.heap h0) (S_Z : Sta Z Z.heap Y0 Y2 "Z" (.int xz)) (hz : ¬ xz = (0 : Int32)) (S_F : Sta Z Z.heap Y5 Y6 Y7 xfm) (hcat : xfm.category = 1) (hr : 0 ≤ xc0.toInt ∧ xc0.toInt < 256) (E_xa : Exa Z h0 xa Y0) (F_coder_xa : Fld Z h0 xa Y0 "coder" "B" (.int (0 : Int32))) (F_value_xa : Fld Z h0 xa Y0 "value" "[B" (.ref xb)) (V_xb : Arv Z h0 xb xk .byte (2 : Int32) [(ib xc0), (ib xc1)] (.int (0 : Int32))) :
    oCon l Z yy21 jdk_42_method_56_code 2 (some .char) ws ({ frames := 3, cells := 0, slots := 0, locals := 40 } : Room) #[(.ref xa), (.int (0 : Int32))] h0 (oPq (some (.int xc0)) h0) := by
  refine oCon.of (plainFor_of_name pn_0) ?_
  intro p e s m below meth c T X hx hby hml hown hnm hret hlk hZ e0
  have hml : c.maxLocals = 2 := hml
  have K : oKp h0 h0 [] [] := oKp.nil _ _
  refine oWk.cast (g' := (mkF m 0 #[rv xa, iv 0] [])) (by first | rfl | (simp [entryFrame, mkF, argsToLocals, Value.category]; done)) ?_
  refine oWk.st (fun _ kt => zA X hx hby d19_0 rfl rfl rfl kt) ?_
  have Oh := K.old O0 all0
  obtain ⟨T, L2, X, e0, K, st⟩ := (cs11 hw).pure X hx hZ hown e0 K (A := [(.ref xa)]) ⟨rfl, _, _, rfl, E_xa⟩ (rIsL l Z a0 hw [] xa xz h0 Oh S_Z hz F_coder_xa) (W := 0) (by decide) hml (Ls := #[rv xa, iv 0]) rfl (rest := []) rfl rfl hby d19_1
  refine oWk.st (fun _ kt => st _ (zH X hx hby d19_4 rfl rfl ((if0 _ _).trans (feq (by decide)).1) (zA X hx hby d19_7 rfl rfl rfl kt))) ?_
  obtain ⟨T, X, e0, st⟩ := getF X hx hZ hown (host := "") (Or.inl (oW hw 26 rfl)) Via.refl e0 F_value_xa (g := (mkF m 8 #[rv xa, iv 0] [(.ref xa)])) rfl rfl (hb hby d19_8)
  refine oWk.st (fun _ kt => st _ (zI X hx hby d19_11 rfl rfl kt)) ?_
  obtain ⟨T, L4, X, e0, K, st⟩ := (cs18 hw).pure X hx hZ hown e0 K (A := [(.ref xb), (.int (0 : Int32))]) rfl (rLC_2_0 l Z a0 hw [] xb xk xfm xc0 xc1 h0 Oh S_F hcat hr V_xb) (W := 0) (by decide) hml (Ls := #[rv xa, iv 0]) rfl (rest := []) rfl rfl hby d19_12
  refine oWk.to (mkF m 15 #[rv xa, iv 0] [(.int xc0)]) (fun _ kt => st _ kt) ?_
  exact oRetN X hx hlk hret (Or.inr (Or.inl rfl)) (show narrow .char (.int xc0) = .int xc0 from congrArg Value.int (oChr hr)) (hb hby d19_15) (by rw [e0]; exact ⟨rfl, rfl, K⟩) (by decide) (by decide)
theorem rLC_2_1 (l : Launch) (Z : State) (a0 : Array Value) (hw : oHW a0 Z) (ws : List Jvm.Cond) (xb : Addr) (xk : ClassId) (xfm : Value) (xc0 xc1 : Int32) (h0 : Heap) (O0 : Ext Z.heap h0) (S_F : Sta Z Z.heap Y5 Y6 Y7 xfm) (hcat : xfm.category = 1) (hr : 0 ≤ xc1.toInt ∧ xc1.toInt < 256) (V_xb : Arv Z h0 xb xk .byte (2 : Int32) [(ib xc0), (ib xc1)] (.int (0 : Int32))) :
    oCon l Z yy20 jdk_43_method_2_code 2 (some .char) ws ({ frames := 2, cells := 0, slots := 0, locals := 27 } : Room) #[(.ref xb), (.int (1 : Int32))] h0 (oPq (some (.int xc1)) h0) := by
  refine oCon.of (plainFor_of_name pn_8) ?_
  intro p e s m below meth c T X hx hby hml hown hnm hret hlk hZ e0
  have hml : c.maxLocals = 2 := hml
  have K : oKp h0 h0 [] [] := oKp.nil _ _
  refine oWk.cast (g' := (mkF m 0 #[rv xb, iv 1] [])) (by first | rfl | (simp [entryFrame, mkF, argsToLocals, Value.category]; done)) ?_
  refine oWk.st (fun _ kt => zI X hx hby d20_0 rfl rfl (zA X hx hby d20_1 rfl rfl rfl (oAl X hx hZ e0 V_xb hby d20_2 rfl rfl kt))) ?_
  have Oh := K.old O0 all0
  obtain ⟨T, L3, X, e0, K, st⟩ := (cs17 hw).pure X hx hZ hown e0 K (A := [(.int (1 : Int32)), (.int (2 : Int32))]) rfl (rCkI l Z a0 hw [] (1 : Int32) (2 : Int32) xfm h0 Oh S_F hcat (by decide) (by decide)) (W := 0) (by decide) hml (Ls := #[rv xb, iv 1]) rfl (rest := []) rfl rfl hby d20_3
  refine oWk.to (mkF m 14 #[rv xb, iv 1] [(.int (((xc1.toInt8.toInt32) &&& (255 : Int32)).toUInt32.toUInt16.toUInt32.toInt32))]) (fun _ kt => st _ (zA X hx hby d20_6 rfl rfl rfl (zI X hx hby d20_7 rfl rfl (oLdB X hx hZ e0 V_xb (1 : Int32) (ib xc1) ⟨by decide, by decide⟩ rfl hby d20_8 rfl rfl (zM X hx hby d20_9 rfl (XS.iand X.here hx rfl (hb hby d20_12) rfl (XS.i2c X.here hx rfl (hb hby d20_13) rfl kt))))))) ?_
  rw [oBk hr]
  show oWk _ _ _ _ T (mkF m 14 #[rv xb, iv 1] [(.int xc1)])
  exact oRetN X hx hlk hret (Or.inr (Or.inl rfl)) (show narrow .char (.int xc1) = .int xc1 from congrArg Value.int (oChr hr)) (hb hby d20_14) (by rw [e0]; exact ⟨rfl, rfl, K⟩) (by decide) (by decide)
theorem rCA_2_1 (l : Launch) (Z : State) (a0 : Array Value) (hw : oHW a0 Z) (ws : List Jvm.Cond) (xa xb : Addr) (xk : ClassId) (xfm : Value) (xz xc0 xc1 : Int32) (h0 : Heap) (O0 : Ext Z.heap h0) (S_Z : Sta Z Z.heap Y0 Y2 "Z" (.int xz)) (hz : ¬ xz = (0 : Int32)) (S_F : Sta Z Z.heap Y5 Y6 Y7 xfm) (hcat : xfm.category = 1) (hr : 0 ≤ xc1.toInt ∧ xc1.toInt < 256) (E_xa : Exa Z h0 xa Y0) (F_coder_xa : Fld Z h0 xa Y0 "coder" "B" (.int (0 : Int32))) (F_value_xa : Fld Z h0 xa Y0 "value" "[B" (.ref xb)) (V_xb : Arv Z h0 xb xk .byte (2 : Int32) [(ib xc0), (ib xc1)] (.int (0 : Int32))) :
    oCon l Z yy21 jdk_42_method_56_code 2 (some .char) ws ({ frames := 3, cells := 0, slots := 0, locals := 40 } : Room) #[(.ref xa), (.int (1 : Int32))] h0 (oPq (some (.int xc1)) h0) := by
  refine oCon.of (plainFor_of_name pn_0) ?_
  intro p e s m below meth c T X hx hby hml hown hnm hret hlk hZ e0
  have hml : c.maxLocals = 2 := hml
  have K : oKp h0 h0 [] [] := oKp.nil _ _
  refine oWk.cast (g' := (mkF m 0 #[rv xa, iv 1] [])) (by first | rfl | (simp [entryFrame, mkF, argsToLocals, Value.category]; done)) ?_
  refine oWk.st (fun _ kt => zA X hx hby d19_0 rfl rfl rfl kt) ?_
  have Oh := K.old O0 all0
  obtain ⟨T, L2, X, e0, K, st⟩ := (cs11 hw).pure X hx hZ hown e0 K (A := [(.ref xa)]) ⟨rfl, _, _, rfl, E_xa⟩ (rIsL l Z a0 hw [] xa xz h0 Oh S_Z hz F_coder_xa) (W := 0) (by decide) hml (Ls := #[rv xa, iv 1]) rfl (rest := []) rfl rfl hby d19_1
  refine oWk.st (fun _ kt => st _ (zH X hx hby d19_4 rfl rfl ((if0 _ _).trans (feq (by decide)).1) (zA X hx hby d19_7 rfl rfl rfl kt))) ?_
  obtain ⟨T, X, e0, st⟩ := getF X hx hZ hown (host := "") (Or.inl (oW hw 26 rfl)) Via.refl e0 F_value_xa (g := (mkF m 8 #[rv xa, iv 1] [(.ref xa)])) rfl rfl (hb hby d19_8)
  refine oWk.st (fun _ kt => st _ (zI X hx hby d19_11 rfl rfl kt)) ?_
  obtain ⟨T, L4, X, e0, K, st⟩ := (cs18 hw).pure X hx hZ hown e0 K (A := [(.ref xb), (.int (1 : Int32))]) rfl (rLC_2_1 l Z a0 hw [] xb xk xfm xc0 xc1 h0 Oh S_F hcat hr V_xb) (W := 0) (by decide) hml (Ls := #[rv xa, iv 1]) rfl (rest := []) rfl rfl hby d19_12
  refine oWk.to (mkF m 15 #[rv xa, iv 1] [(.int xc1)]) (fun _ kt => st _ kt) ?_
  exact oRetN X hx hlk hret (Or.inr (Or.inl rfl)) (show narrow .char (.int xc1) = .int xc1 from congrArg Value.int (oChr hr)) (hb hby d19_15) (by rw [e0]; exact ⟨rfl, rfl, K⟩) (by decide) (by decide)
theorem rFL_2 (l : Launch) (Z : State) (a0 : Array Value) (hw : oHW a0 Z) (ws : List Jvm.Cond) (xa xb : Addr) (xk : ClassId) (xfm : Value) (xz xc0 xc1 : Int32) (h0 : Heap) (O0 : Ext Z.heap h0) (S_Z : Sta Z Z.heap Y0 Y2 "Z" (.int xz)) (hz : ¬ xz = (0 : Int32)) (S_F : Sta Z Z.heap Y5 Y6 Y7 xfm) (hcat : xfm.category = 1) (E_xa : Exa Z h0 xa Y0) (F_coder_xa : Fld Z h0 xa Y0 "coder" "B" (.int (0 : Int32))) (F_value_xa : Fld Z h0 xa Y0 "value" "[B" (.ref xb)) (V_xb : Arv Z h0 xb xk .byte (2 : Int32) [(ib xc0), (ib xc1)] (.int (0 : Int32))) (hr0 : 0 ≤ xc0.toInt ∧ xc0.toInt < 256) (hr1 : 0 ≤ xc1.toInt ∧ xc1.toInt < 256) :
    oCon l Z yy13 prog_13_method_3_code 3 (some .int) ws ({ frames := 4, cells := 0, slots := 0, locals := 53 } : Room) #[(.ref xa)] h0 (oPq (some (.int (-1 : Int32))) h0) := by
  refine oCon.of (plainFor_of_name pn_6) ?_
  intro p e s m below meth c T X hx hby hml hown hnm hret hlk hZ e0
  have hml : c.maxLocals = 3 := hml
  have K : oKp h0 h0 [] [] := oKp.nil _ _
  refine oWk.cast (g' := (mkF m 0 #[rv xa, uu, uu] [])) (by first | rfl | (simp [entryFrame, mkF, argsToLocals, Value.category]; done)) ?_
  refine oWk.st (fun _ kt => zK X hx hby d8_0 rfl (zSn X hx hby d8_1 rfl rfl (l' := #[rv xa, iv 0, uu]) rfl (zI X hx hby d8_2 rfl rfl (zA X hx hby d8_3 rfl rfl rfl kt)))) ?_
  have Oh := K.old O0 all0
  obtain ⟨T, L2, X, e0, K, st⟩ := (cs7 hw).pure X hx hZ hown e0 K (A := [(.ref xa)]) ⟨rfl, _, _, rfl, E_xa⟩ (rLn_2 l Z a0 hw [] xa xb xk xz xc0 xc1 h0 Oh S_Z hz E_xa F_coder_xa F_value_xa V_xb) (W := 1) (by decide) hml (Ls := #[rv xa, iv 0, uu]) rfl (rest := [(.int (0 : Int32))]) rfl rfl hby d8_4
  refine oWk.st (fun _ kt => st _ (zN X hx hby d8_7 rfl rfl (tlt (by decide)).2.1 (zA X hx hby d8_10 rfl rfl rfl (zI X hx hby d8_11 rfl rfl kt)))) ?_
  obtain ⟨T, L4, X, e0, K, st⟩ := (cs19 hw).pure X hx hZ hown e0 K (A := [(.ref xa), (.int (0 : Int32))]) ⟨rfl, _, _, rfl, E_xa⟩ (rCA_2_0 l Z a0 hw [] xa xb xk xfm xz xc0 xc1 h0 Oh S_Z hz S_F hcat hr0 E_xa F_coder_xa F_value_xa V_xb) (W := 0) (by decide) hml (Ls := #[rv xa, iv 0, uu]) rfl (rest := []) rfl rfl hby d8_12
  refine oWk.st (fun _ kt => st _ (zSn X hx hby d8_15 rfl rfl (l' := #[rv xa, iv 0, iv xc0]) rfl (zI X hx hby d8_16 rfl rfl kt))) ?_
  obtain ⟨T, L6, X, e0, K, st⟩ := (cs20 hw).pure X hx hZ hown e0 K (A := [(.int xc0)]) rfl (risHighSurrogate l Z a0 hw [] xc0 h0 Oh hr0) (W := 0) (by decide) hml (Ls := #[rv xa, iv 0, iv xc0]) rfl (rest := []) rfl rfl hby d8_17
  refine oWk.st (fun _ kt => st _ (zF X hx hby d8_20 rfl rfl ((if0 _ _).trans (teq (by decide)).1) (pc' := 52) rfl (zI X hx hby d8_52 rfl rfl kt))) ?_
  obtain ⟨T, L8, X, e0, K, st⟩ := (cs21 hw).pure X hx hZ hown e0 K (A := [(.int xc0)]) rfl (risSurrogate l Z a0 hw [] xc0 h0 Oh hr0) (W := 0) (by decide) hml (Ls := #[rv xa, iv 0, iv xc0]) rfl (rest := []) rfl rfl hby d8_53
  refine oWk.st (fun _ kt => st _ (zF X hx hby d8_56 rfl rfl ((if0 _ _).trans (teq (by decide)).1) (pc' := 61) rfl (zC X hx hby d8_61 rfl rfl (l' := #[rv xa, iv ((0 : Int32) + (1 : Int32)), iv xc0]) rfl (zG X hx hby d8_64 rfl (pc' := 2) rfl (zI X hx hby d8_2 rfl rfl (zA X hx hby d8_3 rfl rfl rfl kt)))))) ?_
  obtain ⟨T, L10, X, e0, K, st⟩ := (cs7 hw).pure X hx hZ hown e0 K (A := [(.ref xa)]) ⟨rfl, _, _, rfl, E_xa⟩ (rLn_2 l Z a0 hw [] xa xb xk xz xc0 xc1 h0 Oh S_Z hz E_xa F_coder_xa F_value_xa V_xb) (W := 1) (by decide) hml (Ls := #[rv xa, iv 1, iv xc0]) rfl (rest := [(.int (1 : Int32))]) rfl rfl hby d8_4
  refine oWk.st (fun _ kt => st _ (zN X hx hby d8_7 rfl rfl (tlt (by decide)).2.1 (zA X hx hby d8_10 rfl rfl rfl (zI X hx hby d8_11 rfl rfl kt)))) ?_
  obtain ⟨T, L12, X, e0, K, st⟩ := (cs19 hw).pure X hx hZ hown e0 K (A := [(.ref xa), (.int (1 : Int32))]) ⟨rfl, _, _, rfl, E_xa⟩ (rCA_2_1 l Z a0 hw [] xa xb xk xfm xz xc0 xc1 h0 Oh S_Z hz S_F hcat hr1 E_xa F_coder_xa F_value_xa V_xb) (W := 0) (by decide) hml (Ls := #[rv xa, iv 1, iv xc0]) rfl (rest := []) rfl rfl hby d8_12
  refine oWk.st (fun _ kt => st _ (zSn X hx hby d8_15 rfl rfl (l' := #[rv xa, iv 1, iv xc1]) rfl (zI X hx hby d8_16 rfl rfl kt))) ?_
  obtain ⟨T, L14, X, e0, K, st⟩ := (cs20 hw).pure X hx hZ hown e0 K (A := [(.int xc1)]) rfl (risHighSurrogate l Z a0 hw [] xc1 h0 Oh hr1) (W := 0) (by decide) hml (Ls := #[rv xa, iv 1, iv xc1]) rfl (rest := []) rfl rfl hby d8_17
  refine oWk.st (fun _ kt => st _ (zF X hx hby d8_20 rfl rfl ((if0 _ _).trans (teq (by decide)).1) (pc' := 52) rfl (zI X hx hby d8_52 rfl rfl kt))) ?_
  obtain ⟨T, L16, X, e0, K, st⟩ := (cs21 hw).pure X hx hZ hown e0 K (A := [(.int xc1)]) rfl (risSurrogate l Z a0 hw [] xc1 h0 Oh hr1) (W := 0) (by decide) hml (Ls := #[rv xa, iv 1, iv xc1]) rfl (rest := []) rfl rfl hby d8_53
  refine oWk.st (fun _ kt => st _ (zF X hx hby d8_56 rfl rfl ((if0 _ _).trans (teq (by decide)).1) (pc' := 61) rfl (zC X hx hby d8_61 rfl rfl (l' := #[rv xa, iv ((1 : Int32) + (1 : Int32)), iv xc1]) rfl (zG X hx hby d8_64 rfl (pc' := 2) rfl (zI X hx hby d8_2 rfl rfl (zA X hx hby d8_3 rfl rfl rfl kt)))))) ?_
  obtain ⟨T, L18, X, e0, K, st⟩ := (cs7 hw).pure X hx hZ hown e0 K (A := [(.ref xa)]) ⟨rfl, _, _, rfl, E_xa⟩ (rLn_2 l Z a0 hw [] xa xb xk xz xc0 xc1 h0 Oh S_Z hz E_xa F_coder_xa F_value_xa V_xb) (W := 1) (by decide) hml (Ls := #[rv xa, iv 2, iv xc1]) rfl (rest := [(.int (2 : Int32))]) rfl rfl hby d8_4
  refine oWk.to (mkF m 68 #[rv xa, iv 2, iv xc1] [(.int (-1 : Int32))]) (fun _ kt => st _ (zY X hx hby d8_7 rfl rfl (flt (by decide)).2.1 (pc' := 67) rfl (zK X hx hby d8_67 rfl kt))) ?_
  exact oRetI X hx hlk hret (hb hby d8_68) (by rw [e0]; exact ⟨rfl, rfl, K⟩) (by decide) (by decide)
theorem rCP_2 (l : Launch) (Z : State) (a0 : Array Value) (hw : oHW a0 Z) (ws : List Jvm.Cond) (xy xa xb : Addr) (xk : ClassId) (xfm : Value) (xz xc0 xc1 : Int32) (h0 : Heap) (O0 : Ext Z.heap h0) (S_Z : Sta Z Z.heap Y0 Y2 "Z" (.int xz)) (hz : ¬ xz = (0 : Int32)) (S_F : Sta Z Z.heap Y5 Y6 Y7 xfm) (hcat : xfm.category = 1) (E_xa : Exa Z h0 xa Y0) (F_coder_xa : Fld Z h0 xa Y0 "coder" "B" (.int (0 : Int32))) (F_value_xa : Fld Z h0 xa Y0 "value" "[B" (.ref xb)) (V_xb : Arv Z h0 xb xk .byte (2 : Int32) [(ib xc0), (ib xc1)] (.int (0 : Int32))) (hr0 : 0 ≤ xc0.toInt ∧ xc0.toInt < 256) (hr1 : 0 ≤ xc1.toInt ∧ xc1.toInt < 256) :
    oCon l Z yy14 prog_13_method_2_code 3 none ws ({ frames := 5, cells := 0, slots := 0, locals := 67 } : Room) #[(.ref xy), (.ref xa)] h0 (oPq none h0) := by
  refine oCon.of (plainFor_of_name pn_6) ?_
  intro p e s m below meth c T X hx hby hml hown hnm hret hlk hZ e0
  have hml : c.maxLocals = 3 := hml
  have K : oKp h0 h0 [] [] := oKp.nil _ _
  refine oWk.cast (g' := (mkF m 0 #[rv xy, rv xa, uu] [])) (by first | rfl | (simp [entryFrame, mkF, argsToLocals, Value.category]; done)) ?_
  refine oWk.st (fun _ kt => zA X hx hby d7_0 rfl rfl rfl kt) ?_
  have Oh := K.old O0 all0
  obtain ⟨T, L2, X, e0, K, st⟩ := (cs8 hw).pure X hx hZ hown e0 K (A := [(.ref xa)]) rfl (rFL_2 l Z a0 hw [] xa xb xk xfm xz xc0 xc1 h0 Oh S_Z hz S_F hcat E_xa F_coder_xa F_value_xa V_xb hr0 hr1) (W := 0) (by decide) hml (Ls := #[rv xy, rv xa, uu]) rfl (rest := []) rfl rfl hby d7_1
  refine oWk.to (mkF m 51 #[rv xy, rv xa, iv (-1 : Int32)] []) (fun _ kt => st _ (zSn X hx hby d7_4 rfl rfl (l' := #[rv xy, rv xa, iv (-1 : Int32)]) rfl (zI X hx hby d7_5 rfl rfl (zF X hx hby d7_6 rfl rfl ((if0 _ _).trans (tlt (by decide)).1) (pc' := 51) rfl kt)))) ?_
  exact oRetV X hx hlk hret (hb hby d7_51) (by rw [e0]; exact ⟨rfl, rfl, K⟩) (by decide) (by decide)
theorem rCPC_2 (l : Launch) (Z : State) (a0 : Array Value) (hw : oHW a0 Z) (ws : List Jvm.Cond) (xa xb : Addr) (xk : ClassId) (xz xc0 xc1 : Int32) (h0 : Heap) (O0 : Ext Z.heap h0) (S_Z : Sta Z Z.heap Y0 Y2 "Z" (.int xz)) (hz : ¬ xz = (0 : Int32)) (E_xa : Exa Z h0 xa Y0) (F_coder_xa : Fld Z h0 xa Y0 "coder" "B" (.int (0 : Int32))) (F_value_xa : Fld Z h0 xa Y0 "value" "[B" (.ref xb)) (V_xb : Arv Z h0 xb xk .byte (2 : Int32) [(ib xc0), (ib xc1)] (.int (0 : Int32))) :
    oCon l Z yy16 jdk_42_method_59_code 3 (some .int) ws ({ frames := 2, cells := 0, slots := 0, locals := 29 } : Room) #[(.ref xa), (.int (0 : Int32)), (.int (2 : Int32))] h0 (oPq (some (.int (2 : Int32))) h0) := by
  refine oCon.of (plainFor_of_name pn_0) ?_
  intro p e s m below meth c T X hx hby hml hown hnm hret hlk hZ e0
  have hml : c.maxLocals = 3 := hml
  have K : oKp h0 h0 [] [] := oKp.nil _ _
  refine oWk.cast (g' := (mkF m 0 #[rv xa, iv 0, iv 2] [])) (by first | rfl | (simp [entryFrame, mkF, argsToLocals, Value.category]; done)) ?_
  refine oWk.st (fun _ kt => zI X hx hby d11_0 rfl rfl (zI X hx hby d11_1 rfl rfl (zA X hx hby d11_2 rfl rfl rfl kt))) ?_
  have Oh := K.old O0 all0
  obtain ⟨T, L2, X, e0, K, st⟩ := (cs9 hw).pure X hx hZ hown e0 K (A := [(.ref xa)]) ⟨rfl, _, _, rfl, E_xa⟩ (rLn_2 l Z a0 hw [] xa xb xk xz xc0 xc1 h0 Oh S_Z hz E_xa F_coder_xa F_value_xa V_xb) (W := 2) (by decide) hml (Ls := #[rv xa, iv 0, iv 2]) rfl (rest := [(.int (2 : Int32)), (.int (0 : Int32))]) rfl rfl hby d11_3
  refine oWk.st (fun _ kt => st _ kt) ?_
  obtain ⟨T, L4, X, e0, K, st⟩ := (cs10 hw).pure X hx hZ hown e0 K (A := [(.int (0 : Int32)), (.int (2 : Int32)), (.int (2 : Int32))]) rfl (rOFt l Z a0 hw [] (0 : Int32) (2 : Int32) (2 : Int32) h0 Oh (by decide) (by decide) (by decide)) (W := 0) (by decide) hml (Ls := #[rv xa, iv 0, iv 2]) rfl (rest := []) rfl rfl hby d11_6
  refine oWk.st (fun _ kt => st _ (XS.pop X.here hx rfl (hb hby d11_9) rfl rfl (zA X hx hby d11_10 rfl rfl rfl kt))) ?_
  obtain ⟨T, L6, X, e0, K, st⟩ := (cs11 hw).pure X hx hZ hown e0 K (A := [(.ref xa)]) ⟨rfl, _, _, rfl, E_xa⟩ (rIsL l Z a0 hw [] xa xz h0 Oh S_Z hz F_coder_xa) (W := 0) (by decide) hml (Ls := #[rv xa, iv 0, iv 2]) rfl (rest := []) rfl rfl hby d11_11
  refine oWk.to (mkF m 20 #[rv xa, iv 0, iv 2] [(.int 2)]) (fun _ kt => st _ (zH X hx hby d11_14 rfl rfl ((if0 _ _).trans (feq (by decide)).1) (zI X hx hby d11_17 rfl rfl (zI X hx hby d11_18 rfl rfl (XS.isub X.here hx rfl (hb hby d11_19) rfl kt))))) ?_
  exact oRetI X hx hlk hret (hb hby d11_20) (by rw [e0]; exact ⟨rfl, rfl, K⟩) (by decide) (by decide)
def Q_rPI_2 (Z : State) (xp : Addr) (xi xd : Int32) (u1 u2 u3 u4 : Value) (xa xb : Addr) (xk : ClassId) (xfm : Value) (xz xc0 xc1 : Int32) (h0 : Heap) (v : Option Value) (h : Heap) (L : List Loc) : Prop := v = none ∧ oKp h0 h [xp] L ∧ (Exa Z h xp Y1) ∧ (Fld Z h xp Y1 "position" "I" (.int xi)) ∧ (Fld Z h xp Y1 "deleteCount" "I" (.int xd)) ∧ (Fld Z h xp Y1 "insertion" Y3 (.ref xa))
theorem rPI_2 (l : Launch) (Z : State) (a0 : Array Value) (hw : oHW a0 Z) (ws : List Jvm.Cond) (xp : Addr) (xi xd : Int32) (u1 u2 u3 u4 : Value) (xa xb : Addr) (xk : ClassId) (xfm : Value) (xz xc0 xc1 : Int32) (h0 : Heap) (O0 : Ext Z.heap h0) (S_Z : Sta Z Z.heap Y0 Y2 "Z" (.int xz)) (hz : ¬ xz = (0 : Int32)) (S_F : Sta Z Z.heap Y5 Y6 Y7 xfm) (hcat : xfm.category = 1) (og_xp : Z.heap.size ≤ xp) (E_xp : Exa Z h0 xp Y1) (F_position_xp : Fld Z h0 xp Y1 "position" "I" u1) (F_deleteCount_xp : Fld Z h0 xp Y1 "deleteCount" "I" u2) (F_insertion_xp : Fld Z h0 xp Y1 "insertion" Y3 u3) (F_insertionLength_xp : Fld Z h0 xp Y1 Y4 "I" u4) (E_xa : Exa Z h0 xa Y0) (F_coder_xa : Fld Z h0 xa Y0 "coder" "B" (.int (0 : Int32))) (F_value_xa : Fld Z h0 xa Y0 "value" "[B" (.ref xb)) (V_xb : Arv Z h0 xb xk .byte (2 : Int32) [(ib xc0), (ib xc1)] (.int (0 : Int32))) (hr0 : 0 ≤ xc0.toInt ∧ xc0.toInt < 256) (hr1 : 0 ≤ xc1.toInt ∧ xc1.toInt < 256) (ne_xa_xp : xa ≠ xp) (ne_xb_xp : xb ≠ xp) (hi : ¬ xi < (0 : Int32)) (hd : ¬ xd < (0 : Int32)) :
    oConH l Z oEL yy17 prog_10_method_1_code 4 none ws ({ frames := 6, cells := 4, slots := 112, locals := 81 } : Room) #[(.ref xp), (.int xi), (.int xd), (.ref xa)] h0 [xp] (Q_rPI_2 Z xp xi xd u1 u2 u3 u4 xa xb xk xfm xz xc0 xc1 h0) := by
  refine oConH.of (plainFor_of_name pn_7) ?_
  intro p e s m below meth c T vm X hx hby hml hown hnm hret hlk hZ e0 B hsf
  have sf_xp := hsf xp (List.mem_of_getElem? (i := 0) rfl)
  have hml : c.maxLocals = 4 := hml
  have K : oKp h0 h0 [xp] [] := oKp.nil _ _
  refine oWk.cast (g' := (mkF m 0 #[rv xp, iv xi, iv xd, rv xa] [])) (by first | rfl | (simp [entryFrame, mkF, argsToLocals, Value.category]; done)) ?_
  refine oWk.st (fun _ kt => zA X hx hby d5_0 rfl rfl rfl kt) ?_
  obtain ⟨T, X, e0, st⟩ := initO X hx hZ hown (oW hw 34 rfl) (oW hw 18 rfl) (oW hw 19 rfl) e0 (g := (mkF m 1 #[rv xp, iv xi, iv xd, rv xa] [(.ref xp)])) rfl (by rw [hml]; rfl) rfl (hb hby d5_1) (by decide) (W := 0) (Nat.le_of_eq rfl) (by decide)
  refine oWk.st (fun _ kt => st _ (zA X hx hby d5_4 rfl rfl rfl kt)) ?_
  obtain ⟨lt1, T, h, X, e2, E1, hZ, hown, B, C, st⟩ := oLdcO X hx hZ hown (oW hw 35 rfl) (oSA hw) e0 (oELw hw) B (g := (mkF m 5 #[rv xp, iv xi, iv xd, rv xa] [(.ref xa)])) rfl (hb hby d5_5) (n := 68) (by decide) (by decide) (by decide) (by decide)
  have sf_xp := C.safe E_xp.lt sf_xp
  have e0 := e2
  have K := K.ext E1
  refine oWk.st (fun _ kt => st _ kt) ?_
  have Oh := K.old O0 (allS og_xp all0)
  obtain ⟨T, L3, X, e0, K, st⟩ := (cs12 hw).pure X hx hZ hown e0 K (A := [(.ref xa), (.ref lt1)]) rfl (rRN2 l Z a0 hw [] xa lt1 h Oh ) (W := 0) (by decide) hml (Ls := #[rv xp, iv xi, iv xd, rv xa]) rfl (rest := []) rfl rfl hby d5_7
  refine oWk.st (fun _ kt => st _ (XS.pop X.here hx rfl (hb hby d5_10) rfl rfl (zI X hx hby d5_11 rfl rfl (zF X hx hby d5_12 rfl rfl ((if0 _ _).trans (flt hi).2.1) (pc' := 29) rfl (zI X hx hby d5_29 rfl rfl (zF X hx hby d5_30 rfl rfl ((if0 _ _).trans (flt hd).2.1) (pc' := 47) rfl kt)))))) ?_
  have E_xp := (E_xp.ext E1)
  obtain ⟨lt4, T, h, X, e2, E4, hZ, hown, B, C, st⟩ := oLdcO X hx hZ hown (oW hw 40 rfl) (oSA hw) e0 (oELw hw) B (g := (mkF m 47 #[rv xp, iv xi, iv xd, rv xa] [])) rfl (hb hby d5_47) (n := 36) (by decide) (by decide) (by decide) (by decide)
  have sf_xp := C.safe E_xp.lt sf_xp
  have e0 := e2
  have K := K.ext E4
  refine oWk.st (fun _ kt => st _ (zA X hx hby d5_49 rfl rfl rfl kt)) ?_
  have E_xa := ((E_xa.ext E1).ext E4)
  have F_coder_xa := ((F_coder_xa.ext E1).ext E4)
  have F_value_xa := ((F_value_xa.ext E1).ext E4)
  have V_xb := ((V_xb.ext E1).ext E4)
  have Oh := K.old O0 (allS og_xp all0)
  obtain ⟨T, L6, X, e0, K, st⟩ := (cs13 hw).pure X hx hZ hown e0 K (A := [(.ref lt4), (.ref xa)]) rfl (rCP_2 l Z a0 hw [] lt4 xa xb xk xfm xz xc0 xc1 h Oh S_Z hz S_F hcat E_xa F_coder_xa F_value_xa V_xb hr0 hr1) (W := 0) (by decide) hml (Ls := #[rv xp, iv xi, iv xd, rv xa]) rfl (rest := []) rfl rfl hby d5_50
  refine oWk.st (fun _ kt => st _ (zA X hx hby d5_53 rfl rfl rfl (zI X hx hby d5_54 rfl rfl kt))) ?_
  have E_xp := (E_xp.ext E4)
  have F_position_xp := ((F_position_xp.ext E1).ext E4)
  obtain ⟨T, h, X, e0, W7, st⟩ := putF X hx hZ hown (host := "") (Or.inl (oW hw 59 rfl)) Via.refl e0 F_position_xp E_xp (Or.inr ⟨(oW hw 60 rfl), rfl, hnm⟩) (oW hw 29 rfl) (ty := .int) (by decide) rfl rfl (g := (mkF m 55 #[rv xp, iv xi, iv xd, rv xa] [(.int xi), (.ref xp)])) rfl rfl (hb hby d5_55)
  have K := K.wr W7 (Or.inl (List.mem_of_getElem? (i := 0) rfl))
  have sw : Safe Z oEL _ _ xp := sf_xp
  have sf_xp := Safe.wr W7 sw B.2.1 sf_xp
  have B := B.wr W7 sw
  have F_position_xp := F_position_xp.same W7
  refine oWk.st (fun _ kt => st _ (zA X hx hby d5_58 rfl rfl rfl (zI X hx hby d5_59 rfl rfl kt))) ?_
  have E_xp := (E_xp.wr W7)
  have F_deleteCount_xp := (((F_deleteCount_xp.ext E1).ext E4).other W7 (Or.inr (slot_ne (Or.inr (oW hw 62 rfl)) (Or.inr (oW hw 60 rfl)) (by decide) (t := .int) (t' := .int) (by decide) (by decide))))
  obtain ⟨T, h, X, e0, W8, st⟩ := putF X hx hZ hown (host := "") (Or.inl (oW hw 61 rfl)) Via.refl e0 F_deleteCount_xp E_xp (Or.inr ⟨(oW hw 62 rfl), rfl, hnm⟩) (oW hw 29 rfl) (ty := .int) (by decide) rfl rfl (g := (mkF m 60 #[rv xp, iv xi, iv xd, rv xa] [(.int xd), (.ref xp)])) rfl rfl (hb hby d5_60)
  have K := K.wr W8 (Or.inl (List.mem_of_getElem? (i := 0) rfl))
  have sw : Safe Z oEL _ _ xp := sf_xp
  have sf_xp := Safe.wr W8 sw B.2.1 sf_xp
  have B := B.wr W8 sw
  have F_deleteCount_xp := F_deleteCount_xp.same W8
  refine oWk.st (fun _ kt => st _ (zA X hx hby d5_63 rfl rfl rfl (zA X hx hby d5_64 rfl rfl rfl kt))) ?_
  have E_xp := (E_xp.wr W8)
  have F_insertion_xp := ((((F_insertion_xp.ext E1).ext E4).other W7 (Or.inr (slot_ne (Or.inr (oW hw 64 rfl)) (Or.inr (oW hw 60 rfl)) (by decide) (t := (.object Y0)) (t' := .int) (by decide) (by decide)))).other W8 (Or.inr (slot_ne (Or.inr (oW hw 64 rfl)) (Or.inr (oW hw 62 rfl)) (by decide) (t := (.object Y0)) (t' := .int) (by decide) (by decide))))
  obtain ⟨T, h, X, e0, W9, st⟩ := putF X hx hZ hown (host := "") (Or.inl (oW hw 63 rfl)) Via.refl e0 F_insertion_xp E_xp (Or.inr ⟨(oW hw 64 rfl), rfl, hnm⟩) (oW hw 29 rfl) (ty := (.object Y0)) (by decide) rfl rfl (g := (mkF m 65 #[rv xp, iv xi, iv xd, rv xa] [(.ref xa), (.ref xp)])) rfl rfl (hb hby d5_65)
  have K := K.wr W9 (Or.inl (List.mem_of_getElem? (i := 0) rfl))
  have sw : Safe Z oEL _ _ xp := sf_xp
  have sf_xp := Safe.wr W9 sw B.2.1 sf_xp
  have B := B.wr W9 sw
  have F_insertion_xp := F_insertion_xp.same W9
  refine oWk.st (fun _ kt => st _ (zA X hx hby d5_68 rfl rfl rfl (zA X hx hby d5_69 rfl rfl rfl (zK X hx hby d5_70 rfl (zA X hx hby d5_71 rfl rfl rfl kt))))) ?_
  have E_xa := (((E_xa.wr W7).wr W8).wr W9)
  have F_coder_xa := (((F_coder_xa.other W7 (Or.inl ne_xa_xp)).other W8 (Or.inl ne_xa_xp)).other W9 (Or.inl ne_xa_xp))
  have F_value_xa := (((F_value_xa.other W7 (Or.inl ne_xa_xp)).other W8 (Or.inl ne_xa_xp)).other W9 (Or.inl ne_xa_xp))
  have V_xb := (((V_xb.other W7 ne_xb_xp).other W8 ne_xb_xp).other W9 ne_xb_xp)
  have Oh := K.old O0 (allS og_xp all0)
  obtain ⟨T, L11, X, e0, K, st⟩ := (cs14 hw).pure X hx hZ hown e0 K (A := [(.ref xa)]) ⟨rfl, _, _, rfl, E_xa⟩ (rLn_2 l Z a0 hw [] xa xb xk xz xc0 xc1 h Oh S_Z hz E_xa F_coder_xa F_value_xa V_xb) (W := 3) (by decide) hml (Ls := #[rv xp, iv xi, iv xd, rv xa]) rfl (rest := [(.int (0 : Int32)), (.ref xa), (.ref xp)]) rfl rfl hby d5_72
  refine oWk.st (fun _ kt => st _ kt) ?_
  obtain ⟨T, L13, X, e0, K, st⟩ := (cs15 hw).pure X hx hZ hown e0 K (A := [(.ref xa), (.int (0 : Int32)), (.int (2 : Int32))]) ⟨rfl, _, _, rfl, E_xa⟩ (rCPC_2 l Z a0 hw [] xa xb xk xz xc0 xc1 h Oh S_Z hz E_xa F_coder_xa F_value_xa V_xb) (W := 1) (by decide) hml (Ls := #[rv xp, iv xi, iv xd, rv xa]) rfl (rest := [(.ref xp)]) rfl rfl hby d5_75
  refine oWk.st (fun _ kt => st _ kt) ?_
  have E_xp := (E_xp.wr W9)
  have F_insertionLength_xp := (((((F_insertionLength_xp.ext E1).ext E4).other W7 (Or.inr (slot_ne (Or.inr (oW hw 85 rfl)) (Or.inr (oW hw 60 rfl)) (by decide) (t := .int) (t' := .int) (by decide) (by decide)))).other W8 (Or.inr (slot_ne (Or.inr (oW hw 85 rfl)) (Or.inr (oW hw 62 rfl)) (by decide) (t := .int) (t' := .int) (by decide) (by decide)))).other W9 (Or.inr (slot_ne (Or.inr (oW hw 85 rfl)) (Or.inr (oW hw 64 rfl)) (by decide) (t := .int) (t' := (.object Y0)) (by decide) (by decide))))
  obtain ⟨T, h, X, e0, W14, st⟩ := putF X hx hZ hown (host := "") (Or.inl (oW hw 84 rfl)) Via.refl e0 F_insertionLength_xp E_xp (Or.inr ⟨(oW hw 85 rfl), rfl, hnm⟩) (oW hw 29 rfl) (ty := .int) (by decide) rfl rfl (g := (mkF m 78 #[rv xp, iv xi, iv xd, rv xa] [(.int 2), (.ref xp)])) rfl rfl (hb hby d5_78)
  have K := K.wr W14 (Or.inl (List.mem_of_getElem? (i := 0) rfl))
  have sw : Safe Z oEL _ _ xp := sf_xp
  have sf_xp := Safe.wr W14 sw B.2.1 sf_xp
  have B := B.wr W14 sw
  have F_insertionLength_xp := F_insertionLength_xp.same W14
  refine oWk.to (mkF m 81 #[rv xp, iv xi, iv xd, rv xa] []) (fun _ kt => st _ kt) ?_
  have E_xp := (E_xp.wr W14)
  have F_position_xp := (((F_position_xp.other W8 (Or.inr (slot_ne (Or.inr (oW hw 60 rfl)) (Or.inr (oW hw 62 rfl)) (by decide) (t := .int) (t' := .int) (by decide) (by decide)))).other W9 (Or.inr (slot_ne (Or.inr (oW hw 60 rfl)) (Or.inr (oW hw 64 rfl)) (by decide) (t := .int) (t' := (.object Y0)) (by decide) (by decide)))).other W14 (Or.inr (slot_ne (Or.inr (oW hw 60 rfl)) (Or.inr (oW hw 85 rfl)) (by decide) (t := .int) (t' := .int) (by decide) (by decide))))
  have F_deleteCount_xp := ((F_deleteCount_xp.other W9 (Or.inr (slot_ne (Or.inr (oW hw 62 rfl)) (Or.inr (oW hw 64 rfl)) (by decide) (t := .int) (t' := (.object Y0)) (by decide) (by decide)))).other W14 (Or.inr (slot_ne (Or.inr (oW hw 62 rfl)) (Or.inr (oW hw 85 rfl)) (by decide) (t := .int) (t' := .int) (by decide) (by decide))))
  have F_insertion_xp := (F_insertion_xp.other W14 (Or.inr (slot_ne (Or.inr (oW hw 64 rfl)) (Or.inr (oW hw 85 rfl)) (by decide) (t := (.object Y0)) (t' := .int) (by decide) (by decide))))
  exact oRetHV X hx hlk hZ (oELw hw) e0 B hret (hb hby d5_81) (by rw [e0]; exact ⟨rfl, K, E_xp, F_position_xp, F_deleteCount_xp, F_insertion_xp⟩) (by decide) (by decide)
abbrev yy22 : MethodName := ⟨"com/example/wakati/wakati/Patch", "equals", "(Ljava/lang/Object;)Z"⟩
theorem d15_0 : decode prog_10_method_6_code 0 = .ok (.aload_n 1, 1) := by decide +kernel
theorem d15_1 : decode prog_10_method_6_code 1 = .ok (.instanceof 34, 3) := by decide +kernel
theorem d15_4 : decode prog_10_method_6_code 4 = .ok (.ifCond .eq 48, 3) := by decide +kernel
theorem d15_52 : decode prog_10_method_6_code 52 = .ok (.iconst 0, 1) := by decide +kernel
theorem d15_53 : decode prog_10_method_6_code 53 = .ok (.ireturn, 1) := by decide +kernel
theorem rEN (l : Launch) (Z : State) (a0 : Array Value) (hw : oHW a0 Z) (ws : List Jvm.Cond) (xp : Addr) (h0 : Heap) (O0 : Ext Z.heap h0)  :
    oCon l Z yy22 prog_10_method_6_code 3 (some .boolean) ws ({ frames := 0, cells := 0, slots := 0, locals := 0 } : Room) #[(.ref xp), .null] h0 (oPq (some (.int (0 : Int32))) h0) := by
  refine oCon.of (plainFor_of_name pn_7) ?_
  intro p e s m below meth c T X hx hby hml hown hnm hret hlk hZ e0
  have hml : c.maxLocals = 3 := hml
  have K : oKp h0 h0 [] [] := oKp.nil _ _
  refine oWk.cast (g' := (mkF m 0 #[rv xp, .val .null, uu] [])) (by first | rfl | (simp [entryFrame, mkF, argsToLocals, Value.category]; done)) ?_
  refine oWk.st (fun _ kt => zA X hx hby d15_0 rfl rfl rfl kt) ?_
  refine oWk.st (fun _ kt => X.instanceofNull hx (g := (mkF m 1 #[rv xp, .val .null, uu] [.null])) rfl rfl (hb hby d15_1) _ kt) ?_
  refine oWk.to (mkF m 53 #[rv xp, .val .null, uu] [(.int 0)]) (fun _ kt => zF X hx hby d15_4 rfl rfl ((if0 _ _).trans (teq (by decide)).1) (pc' := 52) rfl (zK X hx hby d15_52 rfl kt)) ?_
  exact oRetZ X hx hlk hret (hb hby d15_53) (Or.inl rfl) (by rw [e0]; exact ⟨rfl, rfl, K⟩) (by decide) (by decide)
theorem rET (l : Launch) (Z : State) (a0 : Array Value) (hw : oHW a0 Z) (ws : List Jvm.Cond) (xp xb : Addr) (h0 : Heap) (O0 : Ext Z.heap h0) (E_xb : Exa Z h0 xb Y0) :
    oCon l Z yy22 prog_10_method_6_code 3 (some .boolean) ws ({ frames := 0, cells := 0, slots := 0, locals := 0 } : Room) #[(.ref xp), (.ref xb)] h0 (oPq (some (.int (0 : Int32))) h0) := by
  refine oCon.of (plainFor_of_name pn_7) ?_
  intro p e s m below meth c T X hx hby hml hown hnm hret hlk hZ e0
  have hml : c.maxLocals = 3 := hml
  have K : oKp h0 h0 [] [] := oKp.nil _ _
  refine oWk.cast (g' := (mkF m 0 #[rv xp, rv xb, uu] [])) (by first | rfl | (simp [entryFrame, mkF, argsToLocals, Value.category]; done)) ?_
  refine oWk.st (fun _ kt => zA X hx hby d15_0 rfl rfl rfl kt) ?_
  obtain ⟨T, X, e0, st⟩ := instNo X hx hZ hown (oW hw 91 rfl) e0 E_xb (oNotInst (oW hw 136 rfl) (oW hw 137 rfl) (oW hw 29 rfl) (by decide) (by decide)) (g := (mkF m 1 #[rv xp, rv xb, uu] [(.ref xb)])) rfl rfl (hb hby d15_1)
  refine oWk.to (mkF m 53 #[rv xp, rv xb, uu] [(.int 0)]) (fun _ kt => st _ (zF X hx hby d15_4 rfl rfl ((if0 _ _).trans (teq (by decide)).1) (pc' := 52) rfl (zK X hx hby d15_52 rfl kt))) ?_
  exact oRetZ X hx hlk hret (hb hby d15_53) (Or.inl rfl) (by rw [e0]; exact ⟨rfl, rfl, K⟩) (by decide) (by decide)
abbrev yy23 : MethodName := ⟨"java/lang/String", "equals", "(Ljava/lang/Object;)Z"⟩
theorem d25_0 : decode jdk_42_method_66_code 0 = .ok (.aload_n 0, 1) := by decide +kernel
theorem d25_1 : decode jdk_42_method_66_code 1 = .ok (.aload_n 1, 1) := by decide +kernel
theorem d25_2 : decode jdk_42_method_66_code 2 = .ok (.if_acmp .ne 5, 3) := by decide +kernel
theorem d25_5 : decode jdk_42_method_66_code 5 = .ok (.iconst 1, 1) := by decide +kernel
theorem d25_6 : decode jdk_42_method_66_code 6 = .ok (.ireturn, 1) := by decide +kernel
theorem rSS (l : Launch) (Z : State) (a0 : Array Value) (hw : oHW a0 Z) (ws : List Jvm.Cond) (xa : Addr) (h0 : Heap) (O0 : Ext Z.heap h0)  :
    oCon l Z yy23 jdk_42_method_66_code 3 (some .boolean) ws ({ frames := 0, cells := 0, slots := 0, locals := 0 } : Room) #[(.ref xa), (.ref xa)] h0 (oPq (some (.int (1 : Int32))) h0) := by
  refine oCon.of (plainFor_of_name pn_0) ?_
  intro p e s m below meth c T X hx hby hml hown hnm hret hlk hZ e0
  have hml : c.maxLocals = 3 := hml
  have K : oKp h0 h0 [] [] := oKp.nil _ _
  refine oWk.cast (g' := (mkF m 0 #[rv xa, rv xa, uu] [])) (by first | rfl | (simp [entryFrame, mkF, argsToLocals, Value.category]; done)) ?_
  refine oWk.st (fun _ kt => zA X hx hby d25_0 rfl rfl rfl (zA X hx hby d25_1 rfl rfl rfl kt)) ?_
  refine oWk.to (mkF m 5 #[rv xa, rv xa, uu] []) (fun _ kt => Jvm.RoadKit.acmp (g := (mkF m 2 #[rv xa, rv xa, uu] [(.ref xa), (.ref xa)])) X hx rfl rfl rfl (pc0 := 2) (pc' := 5) (same := true) rfl (hb hby d25_2) rfl (decide_eq_true rfl) (by decide) (by decide) kt) ?_
  refine oWk.to (mkF m 6 #[rv xa, rv xa, uu] [(.int 1)]) (fun _ kt => zK X hx hby d25_5 rfl kt) ?_
  exact oRetZ X hx hlk hret (hb hby d25_6) (Or.inr rfl) (by rw [e0]; exact ⟨rfl, rfl, K⟩) (by decide) (by decide)
theorem d15_7 : decode prog_10_method_6_code 7 = .ok (.aload_n 1, 1) := by decide +kernel
theorem d15_8 : decode prog_10_method_6_code 8 = .ok (.checkcast 34, 3) := by decide +kernel
theorem d15_11 : decode prog_10_method_6_code 11 = .ok (.astore_n 2, 1) := by decide +kernel
theorem d15_12 : decode prog_10_method_6_code 12 = .ok (.aload_n 2, 1) := by decide +kernel
theorem d15_13 : decode prog_10_method_6_code 13 = .ok (.getfield 33, 3) := by decide +kernel
theorem d15_16 : decode prog_10_method_6_code 16 = .ok (.aload_n 0, 1) := by decide +kernel
theorem d15_17 : decode prog_10_method_6_code 17 = .ok (.getfield 33, 3) := by decide +kernel
theorem d15_20 : decode prog_10_method_6_code 20 = .ok (.if_icmp .ne 32, 3) := by decide +kernel
theorem d15_23 : decode prog_10_method_6_code 23 = .ok (.aload_n 2, 1) := by decide +kernel
theorem d15_24 : decode prog_10_method_6_code 24 = .ok (.getfield 39, 3) := by decide +kernel
theorem d15_27 : decode prog_10_method_6_code 27 = .ok (.aload_n 0, 1) := by decide +kernel
theorem d15_28 : decode prog_10_method_6_code 28 = .ok (.getfield 39, 3) := by decide +kernel
theorem d15_31 : decode prog_10_method_6_code 31 = .ok (.if_icmp .ne 21, 3) := by decide +kernel
theorem d15_34 : decode prog_10_method_6_code 34 = .ok (.aload_n 2, 1) := by decide +kernel
theorem d15_35 : decode prog_10_method_6_code 35 = .ok (.getfield 42, 3) := by decide +kernel
theorem d15_38 : decode prog_10_method_6_code 38 = .ok (.aload_n 0, 1) := by decide +kernel
theorem d15_39 : decode prog_10_method_6_code 39 = .ok (.getfield 42, 3) := by decide +kernel
theorem d15_42 : decode prog_10_method_6_code 42 = .ok (.invokevirtual 58, 3) := by decide +kernel
theorem pd_19 : parseMethodDescriptor "(Ljava/lang/Object;)Z" = some ⟨[(.object "java/lang/Object")], some .boolean⟩ := by decide +kernel
theorem cs22 {a0 : Array Value} {Z : State} (hw : oHW a0 Z) : oCall Z Y1 (.invokevirtual 58) yy23 jdk_42_method_66_code 3 (some .boolean) (oRv Z 1 Y0) := oCall.virt (oW hw 127 rfl) (oW hw 128 rfl) (fun _ hZ => notFace_of_selects (args := #[]) (mvT hZ (oW hw 130 rfl))) (oW hw 130 rfl) (oW hw 129 rfl) (oW hw 8 rfl) (oW hw 131 rfl) (by decide) pd_19
theorem d15_45 : decode prog_10_method_6_code 45 = .ok (.ifCond .eq 7, 3) := by decide +kernel
theorem d15_48 : decode prog_10_method_6_code 48 = .ok (.iconst 1, 1) := by decide +kernel
theorem d15_49 : decode prog_10_method_6_code 49 = .ok (.goto 4, 3) := by decide +kernel
theorem rEI (l : Launch) (Z : State) (a0 : Array Value) (hw : oHW a0 Z) (ws : List Jvm.Cond) (xp : Addr) (xi xd : Int32) (xs : Addr) (h0 : Heap) (O0 : Ext Z.heap h0) (E_xp : Exa Z h0 xp Y1) (F_position_xp : Fld Z h0 xp Y1 "position" "I" (.int xi)) (F_deleteCount_xp : Fld Z h0 xp Y1 "deleteCount" "I" (.int xd)) (F_insertion_xp : Fld Z h0 xp Y1 "insertion" Y3 (.ref xs)) (E_xs : Exa Z h0 xs Y0) :
    oCon l Z yy22 prog_10_method_6_code 3 (some .boolean) ws ({ frames := 1, cells := 0, slots := 0, locals := 14 } : Room) #[(.ref xp), (.ref xp)] h0 (oPq (some (.int (1 : Int32))) h0) := by
  refine oCon.of (plainFor_of_name pn_7) ?_
  intro p e s m below meth c T X hx hby hml hown hnm hret hlk hZ e0
  have hml : c.maxLocals = 3 := hml
  have K : oKp h0 h0 [] [] := oKp.nil _ _
  refine oWk.cast (g' := (mkF m 0 #[rv xp, rv xp, uu] [])) (by first | rfl | (simp [entryFrame, mkF, argsToLocals, Value.category]; done)) ?_
  refine oWk.st (fun _ kt => zA X hx hby d15_0 rfl rfl rfl kt) ?_
  obtain ⟨T, X, e0, st⟩ := instY X hx hZ hown (oW hw 91 rfl) e0 (Ins.self E_xp) (g := (mkF m 1 #[rv xp, rv xp, uu] [(.ref xp)])) rfl rfl (hb hby d15_1)
  refine oWk.st (fun _ kt => st _ (zH X hx hby d15_4 rfl rfl ((if0 _ _).trans (feq (by decide)).1) (zA X hx hby d15_7 rfl rfl rfl kt))) ?_
  obtain ⟨T, X, e0, st⟩ := castY X hx hZ hown (oW hw 91 rfl) e0 (Ins.self E_xp) (g := (mkF m 8 #[rv xp, rv xp, uu] [(.ref xp)])) rfl rfl (hb hby d15_8)
  refine oWk.st (fun _ kt => st _ (zTn X hx hby d15_11 rfl rfl rfl (l' := #[rv xp, rv xp, rv xp]) rfl (zA X hx hby d15_12 rfl rfl rfl kt))) ?_
  obtain ⟨T, X, e0, st⟩ := getF X hx hZ hown (host := "") (Or.inl (oW hw 59 rfl)) Via.refl e0 F_position_xp (g := (mkF m 13 #[rv xp, rv xp, rv xp] [(.ref xp)])) rfl rfl (hb hby d15_13)
  refine oWk.st (fun _ kt => st _ (zA X hx hby d15_16 rfl rfl rfl kt)) ?_
  obtain ⟨T, X, e0, st⟩ := getF X hx hZ hown (host := "") (Or.inl (oW hw 59 rfl)) Via.refl e0 F_position_xp (g := (mkF m 17 #[rv xp, rv xp, rv xp] [(.ref xp), (.int xi)])) rfl rfl (hb hby d15_17)
  refine oWk.st (fun _ kt => st _ (zN X hx hby d15_20 rfl rfl (teq rfl).2 (zA X hx hby d15_23 rfl rfl rfl kt))) ?_
  obtain ⟨T, X, e0, st⟩ := getF X hx hZ hown (host := "") (Or.inl (oW hw 61 rfl)) Via.refl e0 F_deleteCount_xp (g := (mkF m 24 #[rv xp, rv xp, rv xp] [(.ref xp)])) rfl rfl (hb hby d15_24)
  refine oWk.st (fun _ kt => st _ (zA X hx hby d15_27 rfl rfl rfl kt)) ?_
  obtain ⟨T, X, e0, st⟩ := getF X hx hZ hown (host := "") (Or.inl (oW hw 61 rfl)) Via.refl e0 F_deleteCount_xp (g := (mkF m 28 #[rv xp, rv xp, rv xp] [(.ref xp), (.int xd)])) rfl rfl (hb hby d15_28)
  refine oWk.st (fun _ kt => st _ (zN X hx hby d15_31 rfl rfl (teq rfl).2 (zA X hx hby d15_34 rfl rfl rfl kt))) ?_
  obtain ⟨T, X, e0, st⟩ := getF X hx hZ hown (host := "") (Or.inl (oW hw 63 rfl)) Via.refl e0 F_insertion_xp (g := (mkF m 35 #[rv xp, rv xp, rv xp] [(.ref xp)])) rfl rfl (hb hby d15_35)
  refine oWk.st (fun _ kt => st _ (zA X hx hby d15_38 rfl rfl rfl kt)) ?_
  obtain ⟨T, X, e0, st⟩ := getF X hx hZ hown (host := "") (Or.inl (oW hw 63 rfl)) Via.refl e0 F_insertion_xp (g := (mkF m 39 #[rv xp, rv xp, rv xp] [(.ref xp), (.ref xs)])) rfl rfl (hb hby d15_39)
  refine oWk.st (fun _ kt => st _ kt) ?_
  have Oh := K.old O0 all0
  obtain ⟨T, L2, X, e0, K, st⟩ := (cs22 hw).pure X hx hZ hown e0 K (A := [(.ref xs), (.ref xs)]) ⟨rfl, _, _, rfl, E_xs⟩ (rSS l Z a0 hw [] xs h0 Oh ) (W := 0) (by decide) hml (Ls := #[rv xp, rv xp, rv xp]) rfl (rest := []) rfl rfl hby d15_42
  refine oWk.to (mkF m 53 #[rv xp, rv xp, rv xp] [(.int 1)]) (fun _ kt => st _ (zH X hx hby d15_45 rfl rfl ((if0 _ _).trans (feq (by decide)).1) (zK X hx hby d15_48 rfl (zG X hx hby d15_49 rfl (pc' := 53) rfl kt)))) ?_
  exact oRetZ X hx hlk hret (hb hby d15_53) (Or.inr rfl) (by rw [e0]; exact ⟨rfl, rfl, K⟩) (by decide) (by decide)
abbrev yy24 : MethodName := ⟨"java/lang/StringLatin1", "equals", "([B[B)Z"⟩
theorem d26_0 : decode jdk_43_method_13_code 0 = .ok (.aload_n 0, 1) := by decide +kernel
theorem d26_1 : decode jdk_43_method_13_code 1 = .ok (.arraylength, 1) := by decide +kernel
theorem d26_2 : decode jdk_43_method_13_code 2 = .ok (.aload_n 1, 1) := by decide +kernel
theorem d26_3 : decode jdk_43_method_13_code 3 = .ok (.arraylength, 1) := by decide +kernel
theorem d26_4 : decode jdk_43_method_13_code 4 = .ok (.if_icmp .ne 30, 3) := by decide +kernel
theorem d26_7 : decode jdk_43_method_13_code 7 = .ok (.iconst 0, 1) := by decide +kernel
theorem d26_8 : decode jdk_43_method_13_code 8 = .ok (.istore_n 2, 1) := by decide +kernel
theorem d26_9 : decode jdk_43_method_13_code 9 = .ok (.iload_n 2, 1) := by decide +kernel
theorem d26_10 : decode jdk_43_method_13_code 10 = .ok (.aload_n 0, 1) := by decide +kernel
theorem d26_11 : decode jdk_43_method_13_code 11 = .ok (.arraylength, 1) := by decide +kernel
theorem d26_12 : decode jdk_43_method_13_code 12 = .ok (.if_icmp .ge 20, 3) := by decide +kernel
theorem d26_32 : decode jdk_43_method_13_code 32 = .ok (.iconst 1, 1) := by decide +kernel
theorem d26_33 : decode jdk_43_method_13_code 33 = .ok (.ireturn, 1) := by decide +kernel
theorem rLE_0_0 (l : Launch) (Z : State) (a0 : Array Value) (hw : oHW a0 Z) (ws : List Jvm.Cond) (xb xe : Addr) (xk xl : ClassId) (h0 : Heap) (O0 : Ext Z.heap h0) (V_xb : Arv Z h0 xb xk .byte (0 : Int32) [] (.int (0 : Int32))) (V_xe : Arv Z h0 xe xl .byte (0 : Int32) [] (.int (0 : Int32))) :
    oCon l Z yy24 jdk_43_method_13_code 3 (some .boolean) ws ({ frames := 0, cells := 0, slots := 0, locals := 0 } : Room) #[(.ref xb), (.ref xe)] h0 (oPq (some (.int (1 : Int32))) h0) := by
  refine oCon.of (plainFor_of_name pn_8) ?_
  intro p e s m below meth c T X hx hby hml hown hnm hret hlk hZ e0
  have hml : c.maxLocals = 3 := hml
  have K : oKp h0 h0 [] [] := oKp.nil _ _
  refine oWk.cast (g' := (mkF m 0 #[rv xb, rv xe, uu] [])) (by first | rfl | (simp [entryFrame, mkF, argsToLocals, Value.category]; done)) ?_
  refine oWk.to (mkF m 9 #[rv xb, rv xe, iv 0] []) (fun _ kt => zA X hx hby d26_0 rfl rfl rfl (oAl X hx hZ e0 V_xb hby d26_1 rfl rfl (zA X hx hby d26_2 rfl rfl rfl (oAl X hx hZ e0 V_xe hby d26_3 rfl rfl (zN X hx hby d26_4 rfl rfl (teq (by decide)).2 (zK X hx hby d26_7 rfl (zSn X hx hby d26_8 rfl rfl (l' := #[rv xb, rv xe, iv 0]) rfl kt))))))) ?_
  refine oWk.to (mkF m 33 #[rv xb, rv xe, iv 0] [(.int 1)]) (fun _ kt => zI X hx hby d26_9 rfl rfl (zA X hx hby d26_10 rfl rfl rfl (oAl X hx hZ e0 V_xb hby d26_11 rfl rfl (zY X hx hby d26_12 rfl rfl (flt (by decide)).2.1 (pc' := 32) rfl (zK X hx hby d26_32 rfl kt))))) ?_
  exact oRetZ X hx hlk hret (hb hby d26_33) (Or.inr rfl) (by rw [e0]; exact ⟨rfl, rfl, K⟩) (by decide) (by decide)
theorem d25_7 : decode jdk_42_method_66_code 7 = .ok (.aload_n 1, 1) := by decide +kernel
theorem d25_8 : decode jdk_42_method_66_code 8 = .ok (.instanceof 10, 3) := by decide +kernel
theorem d25_11 : decode jdk_42_method_66_code 11 = .ok (.ifCond .eq 43, 3) := by decide +kernel
theorem d25_14 : decode jdk_42_method_66_code 14 = .ok (.aload_n 1, 1) := by decide +kernel
theorem d25_15 : decode jdk_42_method_66_code 15 = .ok (.checkcast 10, 3) := by decide +kernel
theorem d25_18 : decode jdk_42_method_66_code 18 = .ok (.astore_n 2, 1) := by decide +kernel
theorem d25_19 : decode jdk_42_method_66_code 19 = .ok (.getstatic 38, 3) := by decide +kernel
theorem d25_22 : decode jdk_42_method_66_code 22 = .ok (.ifCond .eq 14, 3) := by decide +kernel
theorem d25_25 : decode jdk_42_method_66_code 25 = .ok (.aload_n 0, 1) := by decide +kernel
theorem d25_26 : decode jdk_42_method_66_code 26 = .ok (.getfield 15, 3) := by decide +kernel
theorem d25_29 : decode jdk_42_method_66_code 29 = .ok (.aload_n 2, 1) := by decide +kernel
theorem d25_30 : decode jdk_42_method_66_code 30 = .ok (.getfield 15, 3) := by decide +kernel
theorem d25_33 : decode jdk_42_method_66_code 33 = .ok (.if_icmp .ne 21, 3) := by decide +kernel
theorem d25_36 : decode jdk_42_method_66_code 36 = .ok (.aload_n 0, 1) := by decide +kernel
theorem d25_37 : decode jdk_42_method_66_code 37 = .ok (.getfield 9, 3) := by decide +kernel
theorem d25_40 : decode jdk_42_method_66_code 40 = .ok (.aload_n 2, 1) := by decide +kernel
theorem d25_41 : decode jdk_42_method_66_code 41 = .ok (.getfield 9, 3) := by decide +kernel
theorem d25_44 : decode jdk_42_method_66_code 44 = .ok (.invokestatic 541, 3) := by decide +kernel
theorem pd_20 : parseMethodDescriptor "([B[B)Z" = some ⟨[(.array .byte), (.array .byte)], some .boolean⟩ := by decide +kernel
theorem cs23 {a0 : Array Value} {Z : State} (hw : oHW a0 Z) : oCall Z Y0 (.invokestatic 541) yy24 jdk_43_method_13_code 3 (some .boolean) (oRs 2) := oCall.stat (oW hw 133 rfl) (oW hw 134 rfl) (oW hw 110 rfl) (oW hw 135 rfl) (by decide) pd_20
theorem d25_47 : decode jdk_42_method_66_code 47 = .ok (.ifCond .eq 7, 3) := by decide +kernel
theorem d25_50 : decode jdk_42_method_66_code 50 = .ok (.iconst 1, 1) := by decide +kernel
theorem d25_51 : decode jdk_42_method_66_code 51 = .ok (.goto 4, 3) := by decide +kernel
theorem d25_55 : decode jdk_42_method_66_code 55 = .ok (.ireturn, 1) := by decide +kernel
theorem rSE_0_0 (l : Launch) (Z : State) (a0 : Array Value) (hw : oHW a0 Z) (ws : List Jvm.Cond) (xa xb : Addr) (xk : ClassId) (xq xe : Addr) (xl : ClassId) (xz : Int32) (h0 : Heap) (O0 : Ext Z.heap h0) (S_Z : Sta Z Z.heap Y0 Y2 "Z" (.int xz)) (hz : ¬ xz = (0 : Int32)) (ne_xa_xq : xa ≠ xq) (E_xa : Exa Z h0 xa Y0) (F_coder_xa : Fld Z h0 xa Y0 "coder" "B" (.int (0 : Int32))) (F_value_xa : Fld Z h0 xa Y0 "value" "[B" (.ref xb)) (V_xb : Arv Z h0 xb xk .byte (0 : Int32) [] (.int (0 : Int32))) (E_xq : Exa Z h0 xq Y0) (F_coder_xq : Fld Z h0 xq Y0 "coder" "B" (.int (0 : Int32))) (F_value_xq : Fld Z h0 xq Y0 "value" "[B" (.ref xe)) (V_xe : Arv Z h0 xe xl .byte (0 : Int32) [] (.int (0 : Int32))) :
    oCon l Z yy23 jdk_42_method_66_code 3 (some .boolean) ws ({ frames := 1, cells := 0, slots := 0, locals := 14 } : Room) #[(.ref xa), (.ref xq)] h0 (oPq (some (.int (1 : Int32))) h0) := by
  refine oCon.of (plainFor_of_name pn_0) ?_
  intro p e s m below meth c T X hx hby hml hown hnm hret hlk hZ e0
  have hml : c.maxLocals = 3 := hml
  have K : oKp h0 h0 [] [] := oKp.nil _ _
  refine oWk.cast (g' := (mkF m 0 #[rv xa, rv xq, uu] [])) (by first | rfl | (simp [entryFrame, mkF, argsToLocals, Value.category]; done)) ?_
  refine oWk.st (fun _ kt => zA X hx hby d25_0 rfl rfl rfl (zA X hx hby d25_1 rfl rfl rfl kt)) ?_
  refine oWk.to (mkF m 7 #[rv xa, rv xq, uu] []) (fun _ kt => Jvm.RoadKit.acmp (g := (mkF m 2 #[rv xa, rv xq, uu] [(.ref xq), (.ref xa)])) X hx rfl rfl rfl (pc0 := 2) (pc' := 7) (same := false) rfl (hb hby d25_2) rfl (decide_eq_false fun q => ne_xa_xq (Value.ref.inj q)) (by decide) (by decide) kt) ?_
  refine oWk.st (fun _ kt => zA X hx hby d25_7 rfl rfl rfl kt) ?_
  obtain ⟨T, X, e0, st⟩ := instY X hx hZ hown (oW hw 132 rfl) e0 (Ins.self E_xq) (g := (mkF m 8 #[rv xa, rv xq, uu] [(.ref xq)])) rfl rfl (hb hby d25_8)
  refine oWk.st (fun _ kt => st _ (zH X hx hby d25_11 rfl rfl ((if0 _ _).trans (feq (by decide)).1) (zA X hx hby d25_14 rfl rfl rfl kt))) ?_
  obtain ⟨T, X, e0, st⟩ := castY X hx hZ hown (oW hw 132 rfl) e0 (Ins.self E_xq) (g := (mkF m 15 #[rv xa, rv xq, uu] [(.ref xq)])) rfl rfl (hb hby d25_15)
  refine oWk.st (fun _ kt => st _ (zTn X hx hby d25_18 rfl rfl rfl (l' := #[rv xa, rv xq, rv xq]) rfl kt)) ?_
  have Oh := K.old O0 all0
  obtain ⟨T, X, e0, st⟩ := getS2 X hx hZ hown (host := "") (Or.inl (oW hw 58 rfl)) Via.refl e0 (S_Z.ext Oh) (g := (mkF m 19 #[rv xa, rv xq, rv xq] [])) rfl (hb hby d25_19)
  refine oWk.st (fun _ kt => st _ (zH X hx hby d25_22 rfl rfl ((if0 _ _).trans (feq hz).1) (zA X hx hby d25_25 rfl rfl rfl kt))) ?_
  obtain ⟨T, X, e0, st⟩ := getF X hx hZ hown (host := "") (Or.inl (oW hw 27 rfl)) Via.refl e0 F_coder_xa (g := (mkF m 26 #[rv xa, rv xq, rv xq] [(.ref xa)])) rfl rfl (hb hby d25_26)
  refine oWk.st (fun _ kt => st _ (zA X hx hby d25_29 rfl rfl rfl kt)) ?_
  obtain ⟨T, X, e0, st⟩ := getF X hx hZ hown (host := "") (Or.inl (oW hw 27 rfl)) Via.refl e0 F_coder_xq (g := (mkF m 30 #[rv xa, rv xq, rv xq] [(.ref xq), (.int 0)])) rfl rfl (hb hby d25_30)
  refine oWk.st (fun _ kt => st _ (zN X hx hby d25_33 rfl rfl (teq (by decide)).2 (zA X hx hby d25_36 rfl rfl rfl kt))) ?_
  obtain ⟨T, X, e0, st⟩ := getF X hx hZ hown (host := "") (Or.inl (oW hw 26 rfl)) Via.refl e0 F_value_xa (g := (mkF m 37 #[rv xa, rv xq, rv xq] [(.ref xa)])) rfl rfl (hb hby d25_37)
  refine oWk.st (fun _ kt => st _ (zA X hx hby d25_40 rfl rfl rfl kt)) ?_
  obtain ⟨T, X, e0, st⟩ := getF X hx hZ hown (host := "") (Or.inl (oW hw 26 rfl)) Via.refl e0 F_value_xq (g := (mkF m 41 #[rv xa, rv xq, rv xq] [(.ref xq), (.ref xb)])) rfl rfl (hb hby d25_41)
  refine oWk.st (fun _ kt => st _ kt) ?_
  obtain ⟨T, L2, X, e0, K, st⟩ := (cs23 hw).pure X hx hZ hown e0 K (A := [(.ref xb), (.ref xe)]) rfl (rLE_0_0 l Z a0 hw [] xb xe xk xl h0 Oh V_xb V_xe) (W := 0) (by decide) hml (Ls := #[rv xa, rv xq, rv xq]) rfl (rest := []) rfl rfl hby d25_44
  refine oWk.to (mkF m 55 #[rv xa, rv xq, rv xq] [(.int 1)]) (fun _ kt => st _ (zH X hx hby d25_47 rfl rfl ((if0 _ _).trans (feq (by decide)).1) (zK X hx hby d25_50 rfl (zG X hx hby d25_51 rfl (pc' := 55) rfl kt)))) ?_
  exact oRetZ X hx hlk hret (hb hby d25_55) (Or.inr rfl) (by rw [e0]; exact ⟨rfl, rfl, K⟩) (by decide) (by decide)
theorem rED_0_0 (l : Launch) (Z : State) (a0 : Array Value) (hw : oHW a0 Z) (ws : List Jvm.Cond) (xp : Addr) (xi xg : Int32) (xo : Addr) (xj xf : Int32) (xa xb : Addr) (xk : ClassId) (xq xe : Addr) (xl : ClassId) (xz : Int32) (h0 : Heap) (O0 : Ext Z.heap h0) (S_Z : Sta Z Z.heap Y0 Y2 "Z" (.int xz)) (hz : ¬ xz = (0 : Int32)) (E_xp : Exa Z h0 xp Y1) (F_position_xp : Fld Z h0 xp Y1 "position" "I" (.int xi)) (F_deleteCount_xp : Fld Z h0 xp Y1 "deleteCount" "I" (.int xg)) (F_insertion_xp : Fld Z h0 xp Y1 "insertion" Y3 (.ref xq)) (E_xo : Exa Z h0 xo Y1) (F_position_xo : Fld Z h0 xo Y1 "position" "I" (.int xj)) (F_deleteCount_xo : Fld Z h0 xo Y1 "deleteCount" "I" (.int xf)) (F_insertion_xo : Fld Z h0 xo Y1 "insertion" Y3 (.ref xa)) (ne_xa_xq : xa ≠ xq) (E_xa : Exa Z h0 xa Y0) (F_coder_xa : Fld Z h0 xa Y0 "coder" "B" (.int (0 : Int32))) (F_value_xa : Fld Z h0 xa Y0 "value" "[B" (.ref xb)) (V_xb : Arv Z h0 xb xk .byte (0 : Int32) [] (.int (0 : Int32))) (E_xq : Exa Z h0 xq Y0) (F_coder_xq : Fld Z h0 xq Y0 "coder" "B" (.int (0 : Int32))) (F_value_xq : Fld Z h0 xq Y0 "value" "[B" (.ref xe)) (V_xe : Arv Z h0 xe xl .byte (0 : Int32) [] (.int (0 : Int32))) :
    oCon l Z yy22 prog_10_method_6_code 3 (some .boolean) ws ({ frames := 2, cells := 0, slots := 0, locals := 28 } : Room) #[(.ref xp), (.ref xo)] h0 (oPq (some (.int (oBi (xj = xi ∧ xf = xg)))) h0) := by
  refine oCon.of (plainFor_of_name pn_7) ?_
  intro p e s m below meth c T X hx hby hml hown hnm hret hlk hZ e0
  have hml : c.maxLocals = 3 := hml
  have K : oKp h0 h0 [] [] := oKp.nil _ _
  refine oWk.cast (g' := (mkF m 0 #[rv xp, rv xo, uu] [])) (by first | rfl | (simp [entryFrame, mkF, argsToLocals, Value.category]; done)) ?_
  refine oWk.st (fun _ kt => zA X hx hby d15_0 rfl rfl rfl kt) ?_
  obtain ⟨T, X, e0, st⟩ := instY X hx hZ hown (oW hw 91 rfl) e0 (Ins.self E_xo) (g := (mkF m 1 #[rv xp, rv xo, uu] [(.ref xo)])) rfl rfl (hb hby d15_1)
  refine oWk.st (fun _ kt => st _ (zH X hx hby d15_4 rfl rfl ((if0 _ _).trans (feq (by decide)).1) (zA X hx hby d15_7 rfl rfl rfl kt))) ?_
  obtain ⟨T, X, e0, st⟩ := castY X hx hZ hown (oW hw 91 rfl) e0 (Ins.self E_xo) (g := (mkF m 8 #[rv xp, rv xo, uu] [(.ref xo)])) rfl rfl (hb hby d15_8)
  refine oWk.st (fun _ kt => st _ (zTn X hx hby d15_11 rfl rfl rfl (l' := #[rv xp, rv xo, rv xo]) rfl (zA X hx hby d15_12 rfl rfl rfl kt))) ?_
  obtain ⟨T, X, e0, st⟩ := getF X hx hZ hown (host := "") (Or.inl (oW hw 59 rfl)) Via.refl e0 F_position_xo (g := (mkF m 13 #[rv xp, rv xo, rv xo] [(.ref xo)])) rfl rfl (hb hby d15_13)
  refine oWk.st (fun _ kt => st _ (zA X hx hby d15_16 rfl rfl rfl kt)) ?_
  obtain ⟨T, X, e0, st⟩ := getF X hx hZ hown (host := "") (Or.inl (oW hw 59 rfl)) Via.refl e0 F_position_xp (g := (mkF m 17 #[rv xp, rv xo, rv xo] [(.ref xp), (.int xj)])) rfl rfl (hb hby d15_17)
  refine oWk.to (mkF m 20 #[rv xp, rv xo, rv xo] [(.int xi), (.int xj)]) (fun _ kt => st _ kt) ?_
  by_cases hc20 : xj = xi
  · refine oWk.to (mkF m 23 #[rv xp, rv xo, rv xo] []) (fun _ kt => zN X hx hby d15_20 rfl rfl (teq hc20).2 kt) ?_
    refine oWk.st (fun _ kt => zA X hx hby d15_23 rfl rfl rfl kt) ?_
    obtain ⟨T, X, e0, st⟩ := getF X hx hZ hown (host := "") (Or.inl (oW hw 61 rfl)) Via.refl e0 F_deleteCount_xo (g := (mkF m 24 #[rv xp, rv xo, rv xo] [(.ref xo)])) rfl rfl (hb hby d15_24)
    refine oWk.st (fun _ kt => st _ (zA X hx hby d15_27 rfl rfl rfl kt)) ?_
    obtain ⟨T, X, e0, st⟩ := getF X hx hZ hown (host := "") (Or.inl (oW hw 61 rfl)) Via.refl e0 F_deleteCount_xp (g := (mkF m 28 #[rv xp, rv xo, rv xo] [(.ref xp), (.int xf)])) rfl rfl (hb hby d15_28)
    refine oWk.to (mkF m 31 #[rv xp, rv xo, rv xo] [(.int xg), (.int xf)]) (fun _ kt => st _ kt) ?_
    by_cases hc31 : xf = xg
    · refine oWk.to (mkF m 34 #[rv xp, rv xo, rv xo] []) (fun _ kt => zN X hx hby d15_31 rfl rfl (teq hc31).2 kt) ?_
      refine oWk.st (fun _ kt => zA X hx hby d15_34 rfl rfl rfl kt) ?_
      obtain ⟨T, X, e0, st⟩ := getF X hx hZ hown (host := "") (Or.inl (oW hw 63 rfl)) Via.refl e0 F_insertion_xo (g := (mkF m 35 #[rv xp, rv xo, rv xo] [(.ref xo)])) rfl rfl (hb hby d15_35)
      refine oWk.st (fun _ kt => st _ (zA X hx hby d15_38 rfl rfl rfl kt)) ?_
      obtain ⟨T, X, e0, st⟩ := getF X hx hZ hown (host := "") (Or.inl (oW hw 63 rfl)) Via.refl e0 F_insertion_xp (g := (mkF m 39 #[rv xp, rv xo, rv xo] [(.ref xp), (.ref xa)])) rfl rfl (hb hby d15_39)
      refine oWk.st (fun _ kt => st _ kt) ?_
      have Oh := K.old O0 all0
      obtain ⟨T, L2, X, e0, K, st⟩ := (cs22 hw).pure X hx hZ hown e0 K (A := [(.ref xa), (.ref xq)]) ⟨rfl, _, _, rfl, E_xa⟩ (rSE_0_0 l Z a0 hw [] xa xb xk xq xe xl xz h0 Oh S_Z hz ne_xa_xq E_xa F_coder_xa F_value_xa V_xb E_xq F_coder_xq F_value_xq V_xe) (W := 0) (by decide) hml (Ls := #[rv xp, rv xo, rv xo]) rfl (rest := []) rfl rfl hby d15_42
      refine oWk.to (mkF m 53 #[rv xp, rv xo, rv xo] [(.int 1)]) (fun _ kt => st _ (zH X hx hby d15_45 rfl rfl ((if0 _ _).trans (feq (by decide)).1) (zK X hx hby d15_48 rfl (zG X hx hby d15_49 rfl (pc' := 53) rfl kt)))) ?_
      exact oRetZ X hx hlk hret (hb hby d15_53) (Or.inr rfl) (by rw [e0]; exact ⟨(by rw [oBi_t ⟨hc20, hc31⟩]), rfl, K⟩) (by decide) (by decide)
    · refine oWk.to (mkF m 52 #[rv xp, rv xo, rv xo] []) (fun _ kt => zY X hx hby d15_31 rfl rfl (feq hc31).2 (pc' := 52) rfl kt) ?_
      refine oWk.to (mkF m 53 #[rv xp, rv xo, rv xo] [(.int 0)]) (fun _ kt => zK X hx hby d15_52 rfl kt) ?_
      exact oRetZ X hx hlk hret (hb hby d15_53) (Or.inl rfl) (by rw [e0]; exact ⟨(by rw [oBi_f (fun q => hc31 q.2)]), rfl, K⟩) (by decide) (by decide)
  · refine oWk.to (mkF m 52 #[rv xp, rv xo, rv xo] []) (fun _ kt => zY X hx hby d15_20 rfl rfl (feq hc20).2 (pc' := 52) rfl kt) ?_
    refine oWk.to (mkF m 53 #[rv xp, rv xo, rv xo] [(.int 0)]) (fun _ kt => zK X hx hby d15_52 rfl kt) ?_
    exact oRetZ X hx hlk hret (hb hby d15_53) (Or.inl rfl) (by rw [e0]; exact ⟨(by rw [oBi_f (fun q => hc20 q.1)]), rfl, K⟩) (by decide) (by decide)
theorem d26_34 : decode jdk_43_method_13_code 34 = .ok (.iconst 0, 1) := by decide +kernel
theorem d26_35 : decode jdk_43_method_13_code 35 = .ok (.ireturn, 1) := by decide +kernel
theorem rLE_0_1 (l : Launch) (Z : State) (a0 : Array Value) (hw : oHW a0 Z) (ws : List Jvm.Cond) (xb xe : Addr) (xk xl : ClassId) (xd0 : Int32) (h0 : Heap) (O0 : Ext Z.heap h0) (V_xb : Arv Z h0 xb xk .byte (0 : Int32) [] (.int (0 : Int32))) (V_xe : Arv Z h0 xe xl .byte (1 : Int32) [(ib xd0)] (.int (0 : Int32))) :
    oCon l Z yy24 jdk_43_method_13_code 3 (some .boolean) ws ({ frames := 0, cells := 0, slots := 0, locals := 0 } : Room) #[(.ref xb), (.ref xe)] h0 (oPq (some (.int (0 : Int32))) h0) := by
  refine oCon.of (plainFor_of_name pn_8) ?_
  intro p e s m below meth c T X hx hby hml hown hnm hret hlk hZ e0
  have hml : c.maxLocals = 3 := hml
  have K : oKp h0 h0 [] [] := oKp.nil _ _
  refine oWk.cast (g' := (mkF m 0 #[rv xb, rv xe, uu] [])) (by first | rfl | (simp [entryFrame, mkF, argsToLocals, Value.category]; done)) ?_
  refine oWk.to (mkF m 35 #[rv xb, rv xe, uu] [(.int 0)]) (fun _ kt => zA X hx hby d26_0 rfl rfl rfl (oAl X hx hZ e0 V_xb hby d26_1 rfl rfl (zA X hx hby d26_2 rfl rfl rfl (oAl X hx hZ e0 V_xe hby d26_3 rfl rfl (zY X hx hby d26_4 rfl rfl (feq (by decide)).2 (pc' := 34) rfl (zK X hx hby d26_34 rfl kt)))))) ?_
  exact oRetZ X hx hlk hret (hb hby d26_35) (Or.inl rfl) (by rw [e0]; exact ⟨rfl, rfl, K⟩) (by decide) (by decide)
theorem d25_54 : decode jdk_42_method_66_code 54 = .ok (.iconst 0, 1) := by decide +kernel
theorem rSE_0_1 (l : Launch) (Z : State) (a0 : Array Value) (hw : oHW a0 Z) (ws : List Jvm.Cond) (xa xb : Addr) (xk : ClassId) (xq xe : Addr) (xl : ClassId) (xz xd0 : Int32) (h0 : Heap) (O0 : Ext Z.heap h0) (S_Z : Sta Z Z.heap Y0 Y2 "Z" (.int xz)) (hz : ¬ xz = (0 : Int32)) (ne_xa_xq : xa ≠ xq) (E_xa : Exa Z h0 xa Y0) (F_coder_xa : Fld Z h0 xa Y0 "coder" "B" (.int (0 : Int32))) (F_value_xa : Fld Z h0 xa Y0 "value" "[B" (.ref xb)) (V_xb : Arv Z h0 xb xk .byte (0 : Int32) [] (.int (0 : Int32))) (E_xq : Exa Z h0 xq Y0) (F_coder_xq : Fld Z h0 xq Y0 "coder" "B" (.int (0 : Int32))) (F_value_xq : Fld Z h0 xq Y0 "value" "[B" (.ref xe)) (V_xe : Arv Z h0 xe xl .byte (1 : Int32) [(ib xd0)] (.int (0 : Int32))) :
    oCon l Z yy23 jdk_42_method_66_code 3 (some .boolean) ws ({ frames := 1, cells := 0, slots := 0, locals := 14 } : Room) #[(.ref xa), (.ref xq)] h0 (oPq (some (.int (0 : Int32))) h0) := by
  refine oCon.of (plainFor_of_name pn_0) ?_
  intro p e s m below meth c T X hx hby hml hown hnm hret hlk hZ e0
  have hml : c.maxLocals = 3 := hml
  have K : oKp h0 h0 [] [] := oKp.nil _ _
  refine oWk.cast (g' := (mkF m 0 #[rv xa, rv xq, uu] [])) (by first | rfl | (simp [entryFrame, mkF, argsToLocals, Value.category]; done)) ?_
  refine oWk.st (fun _ kt => zA X hx hby d25_0 rfl rfl rfl (zA X hx hby d25_1 rfl rfl rfl kt)) ?_
  refine oWk.to (mkF m 7 #[rv xa, rv xq, uu] []) (fun _ kt => Jvm.RoadKit.acmp (g := (mkF m 2 #[rv xa, rv xq, uu] [(.ref xq), (.ref xa)])) X hx rfl rfl rfl (pc0 := 2) (pc' := 7) (same := false) rfl (hb hby d25_2) rfl (decide_eq_false fun q => ne_xa_xq (Value.ref.inj q)) (by decide) (by decide) kt) ?_
  refine oWk.st (fun _ kt => zA X hx hby d25_7 rfl rfl rfl kt) ?_
  obtain ⟨T, X, e0, st⟩ := instY X hx hZ hown (oW hw 132 rfl) e0 (Ins.self E_xq) (g := (mkF m 8 #[rv xa, rv xq, uu] [(.ref xq)])) rfl rfl (hb hby d25_8)
  refine oWk.st (fun _ kt => st _ (zH X hx hby d25_11 rfl rfl ((if0 _ _).trans (feq (by decide)).1) (zA X hx hby d25_14 rfl rfl rfl kt))) ?_
  obtain ⟨T, X, e0, st⟩ := castY X hx hZ hown (oW hw 132 rfl) e0 (Ins.self E_xq) (g := (mkF m 15 #[rv xa, rv xq, uu] [(.ref xq)])) rfl rfl (hb hby d25_15)
  refine oWk.st (fun _ kt => st _ (zTn X hx hby d25_18 rfl rfl rfl (l' := #[rv xa, rv xq, rv xq]) rfl kt)) ?_
  have Oh := K.old O0 all0
  obtain ⟨T, X, e0, st⟩ := getS2 X hx hZ hown (host := "") (Or.inl (oW hw 58 rfl)) Via.refl e0 (S_Z.ext Oh) (g := (mkF m 19 #[rv xa, rv xq, rv xq] [])) rfl (hb hby d25_19)
  refine oWk.st (fun _ kt => st _ (zH X hx hby d25_22 rfl rfl ((if0 _ _).trans (feq hz).1) (zA X hx hby d25_25 rfl rfl rfl kt))) ?_
  obtain ⟨T, X, e0, st⟩ := getF X hx hZ hown (host := "") (Or.inl (oW hw 27 rfl)) Via.refl e0 F_coder_xa (g := (mkF m 26 #[rv xa, rv xq, rv xq] [(.ref xa)])) rfl rfl (hb hby d25_26)
  refine oWk.st (fun _ kt => st _ (zA X hx hby d25_29 rfl rfl rfl kt)) ?_
  obtain ⟨T, X, e0, st⟩ := getF X hx hZ hown (host := "") (Or.inl (oW hw 27 rfl)) Via.refl e0 F_coder_xq (g := (mkF m 30 #[rv xa, rv xq, rv xq] [(.ref xq), (.int 0)])) rfl rfl (hb hby d25_30)
  refine oWk.st (fun _ kt => st _ (zN X hx hby d25_33 rfl rfl (teq (by decide)).2 (zA X hx hby d25_36 rfl rfl rfl kt))) ?_
  obtain ⟨T, X, e0, st⟩ := getF X hx hZ hown (host := "") (Or.inl (oW hw 26 rfl)) Via.refl e0 F_value_xa (g := (mkF m 37 #[rv xa, rv xq, rv xq] [(.ref xa)])) rfl rfl (hb hby d25_37)
  refine oWk.st (fun _ kt => st _ (zA X hx hby d25_40 rfl rfl rfl kt)) ?_
  obtain ⟨T, X, e0, st⟩ := getF X hx hZ hown (host := "") (Or.inl (oW hw 26 rfl)) Via.refl e0 F_value_xq (g := (mkF m 41 #[rv xa, rv xq, rv xq] [(.ref xq), (.ref xb)])) rfl rfl (hb hby d25_41)
  refine oWk.st (fun _ kt => st _ kt) ?_
  obtain ⟨T, L2, X, e0, K, st⟩ := (cs23 hw).pure X hx hZ hown e0 K (A := [(.ref xb), (.ref xe)]) rfl (rLE_0_1 l Z a0 hw [] xb xe xk xl xd0 h0 Oh V_xb V_xe) (W := 0) (by decide) hml (Ls := #[rv xa, rv xq, rv xq]) rfl (rest := []) rfl rfl hby d25_44
  refine oWk.to (mkF m 55 #[rv xa, rv xq, rv xq] [(.int 0)]) (fun _ kt => st _ (zF X hx hby d25_47 rfl rfl ((if0 _ _).trans (teq (by decide)).1) (pc' := 54) rfl (zK X hx hby d25_54 rfl kt))) ?_
  exact oRetZ X hx hlk hret (hb hby d25_55) (Or.inl rfl) (by rw [e0]; exact ⟨rfl, rfl, K⟩) (by decide) (by decide)
theorem rED_0_1 (l : Launch) (Z : State) (a0 : Array Value) (hw : oHW a0 Z) (ws : List Jvm.Cond) (xp : Addr) (xi xg : Int32) (xo : Addr) (xj xf : Int32) (xa xb : Addr) (xk : ClassId) (xq xe : Addr) (xl : ClassId) (xz xd0 : Int32) (h0 : Heap) (O0 : Ext Z.heap h0) (S_Z : Sta Z Z.heap Y0 Y2 "Z" (.int xz)) (hz : ¬ xz = (0 : Int32)) (E_xp : Exa Z h0 xp Y1) (F_position_xp : Fld Z h0 xp Y1 "position" "I" (.int xi)) (F_deleteCount_xp : Fld Z h0 xp Y1 "deleteCount" "I" (.int xg)) (F_insertion_xp : Fld Z h0 xp Y1 "insertion" Y3 (.ref xq)) (E_xo : Exa Z h0 xo Y1) (F_position_xo : Fld Z h0 xo Y1 "position" "I" (.int xj)) (F_deleteCount_xo : Fld Z h0 xo Y1 "deleteCount" "I" (.int xf)) (F_insertion_xo : Fld Z h0 xo Y1 "insertion" Y3 (.ref xa)) (ne_xa_xq : xa ≠ xq) (E_xa : Exa Z h0 xa Y0) (F_coder_xa : Fld Z h0 xa Y0 "coder" "B" (.int (0 : Int32))) (F_value_xa : Fld Z h0 xa Y0 "value" "[B" (.ref xb)) (V_xb : Arv Z h0 xb xk .byte (0 : Int32) [] (.int (0 : Int32))) (E_xq : Exa Z h0 xq Y0) (F_coder_xq : Fld Z h0 xq Y0 "coder" "B" (.int (0 : Int32))) (F_value_xq : Fld Z h0 xq Y0 "value" "[B" (.ref xe)) (V_xe : Arv Z h0 xe xl .byte (1 : Int32) [(ib xd0)] (.int (0 : Int32))) :
    oCon l Z yy22 prog_10_method_6_code 3 (some .boolean) ws ({ frames := 2, cells := 0, slots := 0, locals := 28 } : Room) #[(.ref xp), (.ref xo)] h0 (oPq (some (.int (0 : Int32))) h0) := by
  refine oCon.of (plainFor_of_name pn_7) ?_
  intro p e s m below meth c T X hx hby hml hown hnm hret hlk hZ e0
  have hml : c.maxLocals = 3 := hml
  have K : oKp h0 h0 [] [] := oKp.nil _ _
  refine oWk.cast (g' := (mkF m 0 #[rv xp, rv xo, uu] [])) (by first | rfl | (simp [entryFrame, mkF, argsToLocals, Value.category]; done)) ?_
  refine oWk.st (fun _ kt => zA X hx hby d15_0 rfl rfl rfl kt) ?_
  obtain ⟨T, X, e0, st⟩ := instY X hx hZ hown (oW hw 91 rfl) e0 (Ins.self E_xo) (g := (mkF m 1 #[rv xp, rv xo, uu] [(.ref xo)])) rfl rfl (hb hby d15_1)
  refine oWk.st (fun _ kt => st _ (zH X hx hby d15_4 rfl rfl ((if0 _ _).trans (feq (by decide)).1) (zA X hx hby d15_7 rfl rfl rfl kt))) ?_
  obtain ⟨T, X, e0, st⟩ := castY X hx hZ hown (oW hw 91 rfl) e0 (Ins.self E_xo) (g := (mkF m 8 #[rv xp, rv xo, uu] [(.ref xo)])) rfl rfl (hb hby d15_8)
  refine oWk.st (fun _ kt => st _ (zTn X hx hby d15_11 rfl rfl rfl (l' := #[rv xp, rv xo, rv xo]) rfl (zA X hx hby d15_12 rfl rfl rfl kt))) ?_
  obtain ⟨T, X, e0, st⟩ := getF X hx hZ hown (host := "") (Or.inl (oW hw 59 rfl)) Via.refl e0 F_position_xo (g := (mkF m 13 #[rv xp, rv xo, rv xo] [(.ref xo)])) rfl rfl (hb hby d15_13)
  refine oWk.st (fun _ kt => st _ (zA X hx hby d15_16 rfl rfl rfl kt)) ?_
  obtain ⟨T, X, e0, st⟩ := getF X hx hZ hown (host := "") (Or.inl (oW hw 59 rfl)) Via.refl e0 F_position_xp (g := (mkF m 17 #[rv xp, rv xo, rv xo] [(.ref xp), (.int xj)])) rfl rfl (hb hby d15_17)
  refine oWk.to (mkF m 20 #[rv xp, rv xo, rv xo] [(.int xi), (.int xj)]) (fun _ kt => st _ kt) ?_
  by_cases hc20 : xj = xi
  · refine oWk.to (mkF m 23 #[rv xp, rv xo, rv xo] []) (fun _ kt => zN X hx hby d15_20 rfl rfl (teq hc20).2 kt) ?_
    refine oWk.st (fun _ kt => zA X hx hby d15_23 rfl rfl rfl kt) ?_
    obtain ⟨T, X, e0, st⟩ := getF X hx hZ hown (host := "") (Or.inl (oW hw 61 rfl)) Via.refl e0 F_deleteCount_xo (g := (mkF m 24 #[rv xp, rv xo, rv xo] [(.ref xo)])) rfl rfl (hb hby d15_24)
    refine oWk.st (fun _ kt => st _ (zA X hx hby d15_27 rfl rfl rfl kt)) ?_
    obtain ⟨T, X, e0, st⟩ := getF X hx hZ hown (host := "") (Or.inl (oW hw 61 rfl)) Via.refl e0 F_deleteCount_xp (g := (mkF m 28 #[rv xp, rv xo, rv xo] [(.ref xp), (.int xf)])) rfl rfl (hb hby d15_28)
    refine oWk.to (mkF m 31 #[rv xp, rv xo, rv xo] [(.int xg), (.int xf)]) (fun _ kt => st _ kt) ?_
    by_cases hc31 : xf = xg
    · refine oWk.to (mkF m 34 #[rv xp, rv xo, rv xo] []) (fun _ kt => zN X hx hby d15_31 rfl rfl (teq hc31).2 kt) ?_
      refine oWk.st (fun _ kt => zA X hx hby d15_34 rfl rfl rfl kt) ?_
      obtain ⟨T, X, e0, st⟩ := getF X hx hZ hown (host := "") (Or.inl (oW hw 63 rfl)) Via.refl e0 F_insertion_xo (g := (mkF m 35 #[rv xp, rv xo, rv xo] [(.ref xo)])) rfl rfl (hb hby d15_35)
      refine oWk.st (fun _ kt => st _ (zA X hx hby d15_38 rfl rfl rfl kt)) ?_
      obtain ⟨T, X, e0, st⟩ := getF X hx hZ hown (host := "") (Or.inl (oW hw 63 rfl)) Via.refl e0 F_insertion_xp (g := (mkF m 39 #[rv xp, rv xo, rv xo] [(.ref xp), (.ref xa)])) rfl rfl (hb hby d15_39)
      refine oWk.st (fun _ kt => st _ kt) ?_
      have Oh := K.old O0 all0
      obtain ⟨T, L2, X, e0, K, st⟩ := (cs22 hw).pure X hx hZ hown e0 K (A := [(.ref xa), (.ref xq)]) ⟨rfl, _, _, rfl, E_xa⟩ (rSE_0_1 l Z a0 hw [] xa xb xk xq xe xl xz xd0 h0 Oh S_Z hz ne_xa_xq E_xa F_coder_xa F_value_xa V_xb E_xq F_coder_xq F_value_xq V_xe) (W := 0) (by decide) hml (Ls := #[rv xp, rv xo, rv xo]) rfl (rest := []) rfl rfl hby d15_42
      refine oWk.to (mkF m 53 #[rv xp, rv xo, rv xo] [(.int 0)]) (fun _ kt => st _ (zF X hx hby d15_45 rfl rfl ((if0 _ _).trans (teq (by decide)).1) (pc' := 52) rfl (zK X hx hby d15_52 rfl kt))) ?_
      exact oRetZ X hx hlk hret (hb hby d15_53) (Or.inl rfl) (by rw [e0]; exact ⟨rfl, rfl, K⟩) (by decide) (by decide)
    · refine oWk.to (mkF m 52 #[rv xp, rv xo, rv xo] []) (fun _ kt => zY X hx hby d15_31 rfl rfl (feq hc31).2 (pc' := 52) rfl kt) ?_
      refine oWk.to (mkF m 53 #[rv xp, rv xo, rv xo] [(.int 0)]) (fun _ kt => zK X hx hby d15_52 rfl kt) ?_
      exact oRetZ X hx hlk hret (hb hby d15_53) (Or.inl rfl) (by rw [e0]; exact ⟨rfl, rfl, K⟩) (by decide) (by decide)
  · refine oWk.to (mkF m 52 #[rv xp, rv xo, rv xo] []) (fun _ kt => zY X hx hby d15_20 rfl rfl (feq hc20).2 (pc' := 52) rfl kt) ?_
    refine oWk.to (mkF m 53 #[rv xp, rv xo, rv xo] [(.int 0)]) (fun _ kt => zK X hx hby d15_52 rfl kt) ?_
    exact oRetZ X hx hlk hret (hb hby d15_53) (Or.inl rfl) (by rw [e0]; exact ⟨rfl, rfl, K⟩) (by decide) (by decide)
theorem rLE_0_2 (l : Launch) (Z : State) (a0 : Array Value) (hw : oHW a0 Z) (ws : List Jvm.Cond) (xb xe : Addr) (xk xl : ClassId) (xd0 xd1 : Int32) (h0 : Heap) (O0 : Ext Z.heap h0) (V_xb : Arv Z h0 xb xk .byte (0 : Int32) [] (.int (0 : Int32))) (V_xe : Arv Z h0 xe xl .byte (2 : Int32) [(ib xd0), (ib xd1)] (.int (0 : Int32))) :
    oCon l Z yy24 jdk_43_method_13_code 3 (some .boolean) ws ({ frames := 0, cells := 0, slots := 0, locals := 0 } : Room) #[(.ref xb), (.ref xe)] h0 (oPq (some (.int (0 : Int32))) h0) := by
  refine oCon.of (plainFor_of_name pn_8) ?_
  intro p e s m below meth c T X hx hby hml hown hnm hret hlk hZ e0
  have hml : c.maxLocals = 3 := hml
  have K : oKp h0 h0 [] [] := oKp.nil _ _
  refine oWk.cast (g' := (mkF m 0 #[rv xb, rv xe, uu] [])) (by first | rfl | (simp [entryFrame, mkF, argsToLocals, Value.category]; done)) ?_
  refine oWk.to (mkF m 35 #[rv xb, rv xe, uu] [(.int 0)]) (fun _ kt => zA X hx hby d26_0 rfl rfl rfl (oAl X hx hZ e0 V_xb hby d26_1 rfl rfl (zA X hx hby d26_2 rfl rfl rfl (oAl X hx hZ e0 V_xe hby d26_3 rfl rfl (zY X hx hby d26_4 rfl rfl (feq (by decide)).2 (pc' := 34) rfl (zK X hx hby d26_34 rfl kt)))))) ?_
  exact oRetZ X hx hlk hret (hb hby d26_35) (Or.inl rfl) (by rw [e0]; exact ⟨rfl, rfl, K⟩) (by decide) (by decide)
theorem rSE_0_2 (l : Launch) (Z : State) (a0 : Array Value) (hw : oHW a0 Z) (ws : List Jvm.Cond) (xa xb : Addr) (xk : ClassId) (xq xe : Addr) (xl : ClassId) (xz xd0 xd1 : Int32) (h0 : Heap) (O0 : Ext Z.heap h0) (S_Z : Sta Z Z.heap Y0 Y2 "Z" (.int xz)) (hz : ¬ xz = (0 : Int32)) (ne_xa_xq : xa ≠ xq) (E_xa : Exa Z h0 xa Y0) (F_coder_xa : Fld Z h0 xa Y0 "coder" "B" (.int (0 : Int32))) (F_value_xa : Fld Z h0 xa Y0 "value" "[B" (.ref xb)) (V_xb : Arv Z h0 xb xk .byte (0 : Int32) [] (.int (0 : Int32))) (E_xq : Exa Z h0 xq Y0) (F_coder_xq : Fld Z h0 xq Y0 "coder" "B" (.int (0 : Int32))) (F_value_xq : Fld Z h0 xq Y0 "value" "[B" (.ref xe)) (V_xe : Arv Z h0 xe xl .byte (2 : Int32) [(ib xd0), (ib xd1)] (.int (0 : Int32))) :
    oCon l Z yy23 jdk_42_method_66_code 3 (some .boolean) ws ({ frames := 1, cells := 0, slots := 0, locals := 14 } : Room) #[(.ref xa), (.ref xq)] h0 (oPq (some (.int (0 : Int32))) h0) := by
  refine oCon.of (plainFor_of_name pn_0) ?_
  intro p e s m below meth c T X hx hby hml hown hnm hret hlk hZ e0
  have hml : c.maxLocals = 3 := hml
  have K : oKp h0 h0 [] [] := oKp.nil _ _
  refine oWk.cast (g' := (mkF m 0 #[rv xa, rv xq, uu] [])) (by first | rfl | (simp [entryFrame, mkF, argsToLocals, Value.category]; done)) ?_
  refine oWk.st (fun _ kt => zA X hx hby d25_0 rfl rfl rfl (zA X hx hby d25_1 rfl rfl rfl kt)) ?_
  refine oWk.to (mkF m 7 #[rv xa, rv xq, uu] []) (fun _ kt => Jvm.RoadKit.acmp (g := (mkF m 2 #[rv xa, rv xq, uu] [(.ref xq), (.ref xa)])) X hx rfl rfl rfl (pc0 := 2) (pc' := 7) (same := false) rfl (hb hby d25_2) rfl (decide_eq_false fun q => ne_xa_xq (Value.ref.inj q)) (by decide) (by decide) kt) ?_
  refine oWk.st (fun _ kt => zA X hx hby d25_7 rfl rfl rfl kt) ?_
  obtain ⟨T, X, e0, st⟩ := instY X hx hZ hown (oW hw 132 rfl) e0 (Ins.self E_xq) (g := (mkF m 8 #[rv xa, rv xq, uu] [(.ref xq)])) rfl rfl (hb hby d25_8)
  refine oWk.st (fun _ kt => st _ (zH X hx hby d25_11 rfl rfl ((if0 _ _).trans (feq (by decide)).1) (zA X hx hby d25_14 rfl rfl rfl kt))) ?_
  obtain ⟨T, X, e0, st⟩ := castY X hx hZ hown (oW hw 132 rfl) e0 (Ins.self E_xq) (g := (mkF m 15 #[rv xa, rv xq, uu] [(.ref xq)])) rfl rfl (hb hby d25_15)
  refine oWk.st (fun _ kt => st _ (zTn X hx hby d25_18 rfl rfl rfl (l' := #[rv xa, rv xq, rv xq]) rfl kt)) ?_
  have Oh := K.old O0 all0
  obtain ⟨T, X, e0, st⟩ := getS2 X hx hZ hown (host := "") (Or.inl (oW hw 58 rfl)) Via.refl e0 (S_Z.ext Oh) (g := (mkF m 19 #[rv xa, rv xq, rv xq] [])) rfl (hb hby d25_19)
  refine oWk.st (fun _ kt => st _ (zH X hx hby d25_22 rfl rfl ((if0 _ _).trans (feq hz).1) (zA X hx hby d25_25 rfl rfl rfl kt))) ?_
  obtain ⟨T, X, e0, st⟩ := getF X hx hZ hown (host := "") (Or.inl (oW hw 27 rfl)) Via.refl e0 F_coder_xa (g := (mkF m 26 #[rv xa, rv xq, rv xq] [(.ref xa)])) rfl rfl (hb hby d25_26)
  refine oWk.st (fun _ kt => st _ (zA X hx hby d25_29 rfl rfl rfl kt)) ?_
  obtain ⟨T, X, e0, st⟩ := getF X hx hZ hown (host := "") (Or.inl (oW hw 27 rfl)) Via.refl e0 F_coder_xq (g := (mkF m 30 #[rv xa, rv xq, rv xq] [(.ref xq), (.int 0)])) rfl rfl (hb hby d25_30)
  refine oWk.st (fun _ kt => st _ (zN X hx hby d25_33 rfl rfl (teq (by decide)).2 (zA X hx hby d25_36 rfl rfl rfl kt))) ?_
  obtain ⟨T, X, e0, st⟩ := getF X hx hZ hown (host := "") (Or.inl (oW hw 26 rfl)) Via.refl e0 F_value_xa (g := (mkF m 37 #[rv xa, rv xq, rv xq] [(.ref xa)])) rfl rfl (hb hby d25_37)
  refine oWk.st (fun _ kt => st _ (zA X hx hby d25_40 rfl rfl rfl kt)) ?_
  obtain ⟨T, X, e0, st⟩ := getF X hx hZ hown (host := "") (Or.inl (oW hw 26 rfl)) Via.refl e0 F_value_xq (g := (mkF m 41 #[rv xa, rv xq, rv xq] [(.ref xq), (.ref xb)])) rfl rfl (hb hby d25_41)
  refine oWk.st (fun _ kt => st _ kt) ?_
  obtain ⟨T, L2, X, e0, K, st⟩ := (cs23 hw).pure X hx hZ hown e0 K (A := [(.ref xb), (.ref xe)]) rfl (rLE_0_2 l Z a0 hw [] xb xe xk xl xd0 xd1 h0 Oh V_xb V_xe) (W := 0) (by decide) hml (Ls := #[rv xa, rv xq, rv xq]) rfl (rest := []) rfl rfl hby d25_44
  refine oWk.to (mkF m 55 #[rv xa, rv xq, rv xq] [(.int 0)]) (fun _ kt => st _ (zF X hx hby d25_47 rfl rfl ((if0 _ _).trans (teq (by decide)).1) (pc' := 54) rfl (zK X hx hby d25_54 rfl kt))) ?_
  exact oRetZ X hx hlk hret (hb hby d25_55) (Or.inl rfl) (by rw [e0]; exact ⟨rfl, rfl, K⟩) (by decide) (by decide)
theorem rED_0_2 (l : Launch) (Z : State) (a0 : Array Value) (hw : oHW a0 Z) (ws : List Jvm.Cond) (xp : Addr) (xi xg : Int32) (xo : Addr) (xj xf : Int32) (xa xb : Addr) (xk : ClassId) (xq xe : Addr) (xl : ClassId) (xz xd0 xd1 : Int32) (h0 : Heap) (O0 : Ext Z.heap h0) (S_Z : Sta Z Z.heap Y0 Y2 "Z" (.int xz)) (hz : ¬ xz = (0 : Int32)) (E_xp : Exa Z h0 xp Y1) (F_position_xp : Fld Z h0 xp Y1 "position" "I" (.int xi)) (F_deleteCount_xp : Fld Z h0 xp Y1 "deleteCount" "I" (.int xg)) (F_insertion_xp : Fld Z h0 xp Y1 "insertion" Y3 (.ref xq)) (E_xo : Exa Z h0 xo Y1) (F_position_xo : Fld Z h0 xo Y1 "position" "I" (.int xj)) (F_deleteCount_xo : Fld Z h0 xo Y1 "deleteCount" "I" (.int xf)) (F_insertion_xo : Fld Z h0 xo Y1 "insertion" Y3 (.ref xa)) (ne_xa_xq : xa ≠ xq) (E_xa : Exa Z h0 xa Y0) (F_coder_xa : Fld Z h0 xa Y0 "coder" "B" (.int (0 : Int32))) (F_value_xa : Fld Z h0 xa Y0 "value" "[B" (.ref xb)) (V_xb : Arv Z h0 xb xk .byte (0 : Int32) [] (.int (0 : Int32))) (E_xq : Exa Z h0 xq Y0) (F_coder_xq : Fld Z h0 xq Y0 "coder" "B" (.int (0 : Int32))) (F_value_xq : Fld Z h0 xq Y0 "value" "[B" (.ref xe)) (V_xe : Arv Z h0 xe xl .byte (2 : Int32) [(ib xd0), (ib xd1)] (.int (0 : Int32))) :
    oCon l Z yy22 prog_10_method_6_code 3 (some .boolean) ws ({ frames := 2, cells := 0, slots := 0, locals := 28 } : Room) #[(.ref xp), (.ref xo)] h0 (oPq (some (.int (0 : Int32))) h0) := by
  refine oCon.of (plainFor_of_name pn_7) ?_
  intro p e s m below meth c T X hx hby hml hown hnm hret hlk hZ e0
  have hml : c.maxLocals = 3 := hml
  have K : oKp h0 h0 [] [] := oKp.nil _ _
  refine oWk.cast (g' := (mkF m 0 #[rv xp, rv xo, uu] [])) (by first | rfl | (simp [entryFrame, mkF, argsToLocals, Value.category]; done)) ?_
  refine oWk.st (fun _ kt => zA X hx hby d15_0 rfl rfl rfl kt) ?_
  obtain ⟨T, X, e0, st⟩ := instY X hx hZ hown (oW hw 91 rfl) e0 (Ins.self E_xo) (g := (mkF m 1 #[rv xp, rv xo, uu] [(.ref xo)])) rfl rfl (hb hby d15_1)
  refine oWk.st (fun _ kt => st _ (zH X hx hby d15_4 rfl rfl ((if0 _ _).trans (feq (by decide)).1) (zA X hx hby d15_7 rfl rfl rfl kt))) ?_
  obtain ⟨T, X, e0, st⟩ := castY X hx hZ hown (oW hw 91 rfl) e0 (Ins.self E_xo) (g := (mkF m 8 #[rv xp, rv xo, uu] [(.ref xo)])) rfl rfl (hb hby d15_8)
  refine oWk.st (fun _ kt => st _ (zTn X hx hby d15_11 rfl rfl rfl (l' := #[rv xp, rv xo, rv xo]) rfl (zA X hx hby d15_12 rfl rfl rfl kt))) ?_
  obtain ⟨T, X, e0, st⟩ := getF X hx hZ hown (host := "") (Or.inl (oW hw 59 rfl)) Via.refl e0 F_position_xo (g := (mkF m 13 #[rv xp, rv xo, rv xo] [(.ref xo)])) rfl rfl (hb hby d15_13)
  refine oWk.st (fun _ kt => st _ (zA X hx hby d15_16 rfl rfl rfl kt)) ?_
  obtain ⟨T, X, e0, st⟩ := getF X hx hZ hown (host := "") (Or.inl (oW hw 59 rfl)) Via.refl e0 F_position_xp (g := (mkF m 17 #[rv xp, rv xo, rv xo] [(.ref xp), (.int xj)])) rfl rfl (hb hby d15_17)
  refine oWk.to (mkF m 20 #[rv xp, rv xo, rv xo] [(.int xi), (.int xj)]) (fun _ kt => st _ kt) ?_
  by_cases hc20 : xj = xi
  · refine oWk.to (mkF m 23 #[rv xp, rv xo, rv xo] []) (fun _ kt => zN X hx hby d15_20 rfl rfl (teq hc20).2 kt) ?_
    refine oWk.st (fun _ kt => zA X hx hby d15_23 rfl rfl rfl kt) ?_
    obtain ⟨T, X, e0, st⟩ := getF X hx hZ hown (host := "") (Or.inl (oW hw 61 rfl)) Via.refl e0 F_deleteCount_xo (g := (mkF m 24 #[rv xp, rv xo, rv xo] [(.ref xo)])) rfl rfl (hb hby d15_24)
    refine oWk.st (fun _ kt => st _ (zA X hx hby d15_27 rfl rfl rfl kt)) ?_
    obtain ⟨T, X, e0, st⟩ := getF X hx hZ hown (host := "") (Or.inl (oW hw 61 rfl)) Via.refl e0 F_deleteCount_xp (g := (mkF m 28 #[rv xp, rv xo, rv xo] [(.ref xp), (.int xf)])) rfl rfl (hb hby d15_28)
    refine oWk.to (mkF m 31 #[rv xp, rv xo, rv xo] [(.int xg), (.int xf)]) (fun _ kt => st _ kt) ?_
    by_cases hc31 : xf = xg
    · refine oWk.to (mkF m 34 #[rv xp, rv xo, rv xo] []) (fun _ kt => zN X hx hby d15_31 rfl rfl (teq hc31).2 kt) ?_
      refine oWk.st (fun _ kt => zA X hx hby d15_34 rfl rfl rfl kt) ?_
      obtain ⟨T, X, e0, st⟩ := getF X hx hZ hown (host := "") (Or.inl (oW hw 63 rfl)) Via.refl e0 F_insertion_xo (g := (mkF m 35 #[rv xp, rv xo, rv xo] [(.ref xo)])) rfl rfl (hb hby d15_35)
      refine oWk.st (fun _ kt => st _ (zA X hx hby d15_38 rfl rfl rfl kt)) ?_
      obtain ⟨T, X, e0, st⟩ := getF X hx hZ hown (host := "") (Or.inl (oW hw 63 rfl)) Via.refl e0 F_insertion_xp (g := (mkF m 39 #[rv xp, rv xo, rv xo] [(.ref xp), (.ref xa)])) rfl rfl (hb hby d15_39)
      refine oWk.st (fun _ kt => st _ kt) ?_
      have Oh := K.old O0 all0
      obtain ⟨T, L2, X, e0, K, st⟩ := (cs22 hw).pure X hx hZ hown e0 K (A := [(.ref xa), (.ref xq)]) ⟨rfl, _, _, rfl, E_xa⟩ (rSE_0_2 l Z a0 hw [] xa xb xk xq xe xl xz xd0 xd1 h0 Oh S_Z hz ne_xa_xq E_xa F_coder_xa F_value_xa V_xb E_xq F_coder_xq F_value_xq V_xe) (W := 0) (by decide) hml (Ls := #[rv xp, rv xo, rv xo]) rfl (rest := []) rfl rfl hby d15_42
      refine oWk.to (mkF m 53 #[rv xp, rv xo, rv xo] [(.int 0)]) (fun _ kt => st _ (zF X hx hby d15_45 rfl rfl ((if0 _ _).trans (teq (by decide)).1) (pc' := 52) rfl (zK X hx hby d15_52 rfl kt))) ?_
      exact oRetZ X hx hlk hret (hb hby d15_53) (Or.inl rfl) (by rw [e0]; exact ⟨rfl, rfl, K⟩) (by decide) (by decide)
    · refine oWk.to (mkF m 52 #[rv xp, rv xo, rv xo] []) (fun _ kt => zY X hx hby d15_31 rfl rfl (feq hc31).2 (pc' := 52) rfl kt) ?_
      refine oWk.to (mkF m 53 #[rv xp, rv xo, rv xo] [(.int 0)]) (fun _ kt => zK X hx hby d15_52 rfl kt) ?_
      exact oRetZ X hx hlk hret (hb hby d15_53) (Or.inl rfl) (by rw [e0]; exact ⟨rfl, rfl, K⟩) (by decide) (by decide)
  · refine oWk.to (mkF m 52 #[rv xp, rv xo, rv xo] []) (fun _ kt => zY X hx hby d15_20 rfl rfl (feq hc20).2 (pc' := 52) rfl kt) ?_
    refine oWk.to (mkF m 53 #[rv xp, rv xo, rv xo] [(.int 0)]) (fun _ kt => zK X hx hby d15_52 rfl kt) ?_
    exact oRetZ X hx hlk hret (hb hby d15_53) (Or.inl rfl) (by rw [e0]; exact ⟨rfl, rfl, K⟩) (by decide) (by decide)
theorem rLE_1_0 (l : Launch) (Z : State) (a0 : Array Value) (hw : oHW a0 Z) (ws : List Jvm.Cond) (xb xe : Addr) (xk xl : ClassId) (xc0 : Int32) (h0 : Heap) (O0 : Ext Z.heap h0) (V_xb : Arv Z h0 xb xk .byte (1 : Int32) [(ib xc0)] (.int (0 : Int32))) (V_xe : Arv Z h0 xe xl .byte (0 : Int32) [] (.int (0 : Int32))) :
    oCon l Z yy24 jdk_43_method_13_code 3 (some .boolean) ws ({ frames := 0, cells := 0, slots := 0, locals := 0 } : Room) #[(.ref xb), (.ref xe)] h0 (oPq (some (.int (0 : Int32))) h0) := by
  refine oCon.of (plainFor_of_name pn_8) ?_
  intro p e s m below meth c T X hx hby hml hown hnm hret hlk hZ e0
  have hml : c.maxLocals = 3 := hml
  have K : oKp h0 h0 [] [] := oKp.nil _ _
  refine oWk.cast (g' := (mkF m 0 #[rv xb, rv xe, uu] [])) (by first | rfl | (simp [entryFrame, mkF, argsToLocals, Value.category]; done)) ?_
  refine oWk.to (mkF m 35 #[rv xb, rv xe, uu] [(.int 0)]) (fun _ kt => zA X hx hby d26_0 rfl rfl rfl (oAl X hx hZ e0 V_xb hby d26_1 rfl rfl (zA X hx hby d26_2 rfl rfl rfl (oAl X hx hZ e0 V_xe hby d26_3 rfl rfl (zY X hx hby d26_4 rfl rfl (feq (by decide)).2 (pc' := 34) rfl (zK X hx hby d26_34 rfl kt)))))) ?_
  exact oRetZ X hx hlk hret (hb hby d26_35) (Or.inl rfl) (by rw [e0]; exact ⟨rfl, rfl, K⟩) (by decide) (by decide)
theorem rSE_1_0 (l : Launch) (Z : State) (a0 : Array Value) (hw : oHW a0 Z) (ws : List Jvm.Cond) (xa xb : Addr) (xk : ClassId) (xq xe : Addr) (xl : ClassId) (xz xc0 : Int32) (h0 : Heap) (O0 : Ext Z.heap h0) (S_Z : Sta Z Z.heap Y0 Y2 "Z" (.int xz)) (hz : ¬ xz = (0 : Int32)) (ne_xa_xq : xa ≠ xq) (E_xa : Exa Z h0 xa Y0) (F_coder_xa : Fld Z h0 xa Y0 "coder" "B" (.int (0 : Int32))) (F_value_xa : Fld Z h0 xa Y0 "value" "[B" (.ref xb)) (V_xb : Arv Z h0 xb xk .byte (1 : Int32) [(ib xc0)] (.int (0 : Int32))) (E_xq : Exa Z h0 xq Y0) (F_coder_xq : Fld Z h0 xq Y0 "coder" "B" (.int (0 : Int32))) (F_value_xq : Fld Z h0 xq Y0 "value" "[B" (.ref xe)) (V_xe : Arv Z h0 xe xl .byte (0 : Int32) [] (.int (0 : Int32))) :
    oCon l Z yy23 jdk_42_method_66_code 3 (some .boolean) ws ({ frames := 1, cells := 0, slots := 0, locals := 14 } : Room) #[(.ref xa), (.ref xq)] h0 (oPq (some (.int (0 : Int32))) h0) := by
  refine oCon.of (plainFor_of_name pn_0) ?_
  intro p e s m below meth c T X hx hby hml hown hnm hret hlk hZ e0
  have hml : c.maxLocals = 3 := hml
  have K : oKp h0 h0 [] [] := oKp.nil _ _
  refine oWk.cast (g' := (mkF m 0 #[rv xa, rv xq, uu] [])) (by first | rfl | (simp [entryFrame, mkF, argsToLocals, Value.category]; done)) ?_
  refine oWk.st (fun _ kt => zA X hx hby d25_0 rfl rfl rfl (zA X hx hby d25_1 rfl rfl rfl kt)) ?_
  refine oWk.to (mkF m 7 #[rv xa, rv xq, uu] []) (fun _ kt => Jvm.RoadKit.acmp (g := (mkF m 2 #[rv xa, rv xq, uu] [(.ref xq), (.ref xa)])) X hx rfl rfl rfl (pc0 := 2) (pc' := 7) (same := false) rfl (hb hby d25_2) rfl (decide_eq_false fun q => ne_xa_xq (Value.ref.inj q)) (by decide) (by decide) kt) ?_
  refine oWk.st (fun _ kt => zA X hx hby d25_7 rfl rfl rfl kt) ?_
  obtain ⟨T, X, e0, st⟩ := instY X hx hZ hown (oW hw 132 rfl) e0 (Ins.self E_xq) (g := (mkF m 8 #[rv xa, rv xq, uu] [(.ref xq)])) rfl rfl (hb hby d25_8)
  refine oWk.st (fun _ kt => st _ (zH X hx hby d25_11 rfl rfl ((if0 _ _).trans (feq (by decide)).1) (zA X hx hby d25_14 rfl rfl rfl kt))) ?_
  obtain ⟨T, X, e0, st⟩ := castY X hx hZ hown (oW hw 132 rfl) e0 (Ins.self E_xq) (g := (mkF m 15 #[rv xa, rv xq, uu] [(.ref xq)])) rfl rfl (hb hby d25_15)
  refine oWk.st (fun _ kt => st _ (zTn X hx hby d25_18 rfl rfl rfl (l' := #[rv xa, rv xq, rv xq]) rfl kt)) ?_
  have Oh := K.old O0 all0
  obtain ⟨T, X, e0, st⟩ := getS2 X hx hZ hown (host := "") (Or.inl (oW hw 58 rfl)) Via.refl e0 (S_Z.ext Oh) (g := (mkF m 19 #[rv xa, rv xq, rv xq] [])) rfl (hb hby d25_19)
  refine oWk.st (fun _ kt => st _ (zH X hx hby d25_22 rfl rfl ((if0 _ _).trans (feq hz).1) (zA X hx hby d25_25 rfl rfl rfl kt))) ?_
  obtain ⟨T, X, e0, st⟩ := getF X hx hZ hown (host := "") (Or.inl (oW hw 27 rfl)) Via.refl e0 F_coder_xa (g := (mkF m 26 #[rv xa, rv xq, rv xq] [(.ref xa)])) rfl rfl (hb hby d25_26)
  refine oWk.st (fun _ kt => st _ (zA X hx hby d25_29 rfl rfl rfl kt)) ?_
  obtain ⟨T, X, e0, st⟩ := getF X hx hZ hown (host := "") (Or.inl (oW hw 27 rfl)) Via.refl e0 F_coder_xq (g := (mkF m 30 #[rv xa, rv xq, rv xq] [(.ref xq), (.int 0)])) rfl rfl (hb hby d25_30)
  refine oWk.st (fun _ kt => st _ (zN X hx hby d25_33 rfl rfl (teq (by decide)).2 (zA X hx hby d25_36 rfl rfl rfl kt))) ?_
  obtain ⟨T, X, e0, st⟩ := getF X hx hZ hown (host := "") (Or.inl (oW hw 26 rfl)) Via.refl e0 F_value_xa (g := (mkF m 37 #[rv xa, rv xq, rv xq] [(.ref xa)])) rfl rfl (hb hby d25_37)
  refine oWk.st (fun _ kt => st _ (zA X hx hby d25_40 rfl rfl rfl kt)) ?_
  obtain ⟨T, X, e0, st⟩ := getF X hx hZ hown (host := "") (Or.inl (oW hw 26 rfl)) Via.refl e0 F_value_xq (g := (mkF m 41 #[rv xa, rv xq, rv xq] [(.ref xq), (.ref xb)])) rfl rfl (hb hby d25_41)
  refine oWk.st (fun _ kt => st _ kt) ?_
  obtain ⟨T, L2, X, e0, K, st⟩ := (cs23 hw).pure X hx hZ hown e0 K (A := [(.ref xb), (.ref xe)]) rfl (rLE_1_0 l Z a0 hw [] xb xe xk xl xc0 h0 Oh V_xb V_xe) (W := 0) (by decide) hml (Ls := #[rv xa, rv xq, rv xq]) rfl (rest := []) rfl rfl hby d25_44
  refine oWk.to (mkF m 55 #[rv xa, rv xq, rv xq] [(.int 0)]) (fun _ kt => st _ (zF X hx hby d25_47 rfl rfl ((if0 _ _).trans (teq (by decide)).1) (pc' := 54) rfl (zK X hx hby d25_54 rfl kt))) ?_
  exact oRetZ X hx hlk hret (hb hby d25_55) (Or.inl rfl) (by rw [e0]; exact ⟨rfl, rfl, K⟩) (by decide) (by decide)
theorem rED_1_0 (l : Launch) (Z : State) (a0 : Array Value) (hw : oHW a0 Z) (ws : List Jvm.Cond) (xp : Addr) (xi xg : Int32) (xo : Addr) (xj xf : Int32) (xa xb : Addr) (xk : ClassId) (xq xe : Addr) (xl : ClassId) (xz xc0 : Int32) (h0 : Heap) (O0 : Ext Z.heap h0) (S_Z : Sta Z Z.heap Y0 Y2 "Z" (.int xz)) (hz : ¬ xz = (0 : Int32)) (E_xp : Exa Z h0 xp Y1) (F_position_xp : Fld Z h0 xp Y1 "position" "I" (.int xi)) (F_deleteCount_xp : Fld Z h0 xp Y1 "deleteCount" "I" (.int xg)) (F_insertion_xp : Fld Z h0 xp Y1 "insertion" Y3 (.ref xq)) (E_xo : Exa Z h0 xo Y1) (F_position_xo : Fld Z h0 xo Y1 "position" "I" (.int xj)) (F_deleteCount_xo : Fld Z h0 xo Y1 "deleteCount" "I" (.int xf)) (F_insertion_xo : Fld Z h0 xo Y1 "insertion" Y3 (.ref xa)) (ne_xa_xq : xa ≠ xq) (E_xa : Exa Z h0 xa Y0) (F_coder_xa : Fld Z h0 xa Y0 "coder" "B" (.int (0 : Int32))) (F_value_xa : Fld Z h0 xa Y0 "value" "[B" (.ref xb)) (V_xb : Arv Z h0 xb xk .byte (1 : Int32) [(ib xc0)] (.int (0 : Int32))) (E_xq : Exa Z h0 xq Y0) (F_coder_xq : Fld Z h0 xq Y0 "coder" "B" (.int (0 : Int32))) (F_value_xq : Fld Z h0 xq Y0 "value" "[B" (.ref xe)) (V_xe : Arv Z h0 xe xl .byte (0 : Int32) [] (.int (0 : Int32))) :
    oCon l Z yy22 prog_10_method_6_code 3 (some .boolean) ws ({ frames := 2, cells := 0, slots := 0, locals := 28 } : Room) #[(.ref xp), (.ref xo)] h0 (oPq (some (.int (0 : Int32))) h0) := by
  refine oCon.of (plainFor_of_name pn_7) ?_
  intro p e s m below meth c T X hx hby hml hown hnm hret hlk hZ e0
  have hml : c.maxLocals = 3 := hml
  have K : oKp h0 h0 [] [] := oKp.nil _ _
  refine oWk.cast (g' := (mkF m 0 #[rv xp, rv xo, uu] [])) (by first | rfl | (simp [entryFrame, mkF, argsToLocals, Value.category]; done)) ?_
  refine oWk.st (fun _ kt => zA X hx hby d15_0 rfl rfl rfl kt) ?_
  obtain ⟨T, X, e0, st⟩ := instY X hx hZ hown (oW hw 91 rfl) e0 (Ins.self E_xo) (g := (mkF m 1 #[rv xp, rv xo, uu] [(.ref xo)])) rfl rfl (hb hby d15_1)
  refine oWk.st (fun _ kt => st _ (zH X hx hby d15_4 rfl rfl ((if0 _ _).trans (feq (by decide)).1) (zA X hx hby d15_7 rfl rfl rfl kt))) ?_
  obtain ⟨T, X, e0, st⟩ := castY X hx hZ hown (oW hw 91 rfl) e0 (Ins.self E_xo) (g := (mkF m 8 #[rv xp, rv xo, uu] [(.ref xo)])) rfl rfl (hb hby d15_8)
  refine oWk.st (fun _ kt => st _ (zTn X hx hby d15_11 rfl rfl rfl (l' := #[rv xp, rv xo, rv xo]) rfl (zA X hx hby d15_12 rfl rfl rfl kt))) ?_
  obtain ⟨T, X, e0, st⟩ := getF X hx hZ hown (host := "") (Or.inl (oW hw 59 rfl)) Via.refl e0 F_position_xo (g := (mkF m 13 #[rv xp, rv xo, rv xo] [(.ref xo)])) rfl rfl (hb hby d15_13)
  refine oWk.st (fun _ kt => st _ (zA X hx hby d15_16 rfl rfl rfl kt)) ?_
  obtain ⟨T, X, e0, st⟩ := getF X hx hZ hown (host := "") (Or.inl (oW hw 59 rfl)) Via.refl e0 F_position_xp (g := (mkF m 17 #[rv xp, rv xo, rv xo] [(.ref xp), (.int xj)])) rfl rfl (hb hby d15_17)
  refine oWk.to (mkF m 20 #[rv xp, rv xo, rv xo] [(.int xi), (.int xj)]) (fun _ kt => st _ kt) ?_
  by_cases hc20 : xj = xi
  · refine oWk.to (mkF m 23 #[rv xp, rv xo, rv xo] []) (fun _ kt => zN X hx hby d15_20 rfl rfl (teq hc20).2 kt) ?_
    refine oWk.st (fun _ kt => zA X hx hby d15_23 rfl rfl rfl kt) ?_
    obtain ⟨T, X, e0, st⟩ := getF X hx hZ hown (host := "") (Or.inl (oW hw 61 rfl)) Via.refl e0 F_deleteCount_xo (g := (mkF m 24 #[rv xp, rv xo, rv xo] [(.ref xo)])) rfl rfl (hb hby d15_24)
    refine oWk.st (fun _ kt => st _ (zA X hx hby d15_27 rfl rfl rfl kt)) ?_
    obtain ⟨T, X, e0, st⟩ := getF X hx hZ hown (host := "") (Or.inl (oW hw 61 rfl)) Via.refl e0 F_deleteCount_xp (g := (mkF m 28 #[rv xp, rv xo, rv xo] [(.ref xp), (.int xf)])) rfl rfl (hb hby d15_28)
    refine oWk.to (mkF m 31 #[rv xp, rv xo, rv xo] [(.int xg), (.int xf)]) (fun _ kt => st _ kt) ?_
    by_cases hc31 : xf = xg
    · refine oWk.to (mkF m 34 #[rv xp, rv xo, rv xo] []) (fun _ kt => zN X hx hby d15_31 rfl rfl (teq hc31).2 kt) ?_
      refine oWk.st (fun _ kt => zA X hx hby d15_34 rfl rfl rfl kt) ?_
      obtain ⟨T, X, e0, st⟩ := getF X hx hZ hown (host := "") (Or.inl (oW hw 63 rfl)) Via.refl e0 F_insertion_xo (g := (mkF m 35 #[rv xp, rv xo, rv xo] [(.ref xo)])) rfl rfl (hb hby d15_35)
      refine oWk.st (fun _ kt => st _ (zA X hx hby d15_38 rfl rfl rfl kt)) ?_
      obtain ⟨T, X, e0, st⟩ := getF X hx hZ hown (host := "") (Or.inl (oW hw 63 rfl)) Via.refl e0 F_insertion_xp (g := (mkF m 39 #[rv xp, rv xo, rv xo] [(.ref xp), (.ref xa)])) rfl rfl (hb hby d15_39)
      refine oWk.st (fun _ kt => st _ kt) ?_
      have Oh := K.old O0 all0
      obtain ⟨T, L2, X, e0, K, st⟩ := (cs22 hw).pure X hx hZ hown e0 K (A := [(.ref xa), (.ref xq)]) ⟨rfl, _, _, rfl, E_xa⟩ (rSE_1_0 l Z a0 hw [] xa xb xk xq xe xl xz xc0 h0 Oh S_Z hz ne_xa_xq E_xa F_coder_xa F_value_xa V_xb E_xq F_coder_xq F_value_xq V_xe) (W := 0) (by decide) hml (Ls := #[rv xp, rv xo, rv xo]) rfl (rest := []) rfl rfl hby d15_42
      refine oWk.to (mkF m 53 #[rv xp, rv xo, rv xo] [(.int 0)]) (fun _ kt => st _ (zF X hx hby d15_45 rfl rfl ((if0 _ _).trans (teq (by decide)).1) (pc' := 52) rfl (zK X hx hby d15_52 rfl kt))) ?_
      exact oRetZ X hx hlk hret (hb hby d15_53) (Or.inl rfl) (by rw [e0]; exact ⟨rfl, rfl, K⟩) (by decide) (by decide)
    · refine oWk.to (mkF m 52 #[rv xp, rv xo, rv xo] []) (fun _ kt => zY X hx hby d15_31 rfl rfl (feq hc31).2 (pc' := 52) rfl kt) ?_
      refine oWk.to (mkF m 53 #[rv xp, rv xo, rv xo] [(.int 0)]) (fun _ kt => zK X hx hby d15_52 rfl kt) ?_
      exact oRetZ X hx hlk hret (hb hby d15_53) (Or.inl rfl) (by rw [e0]; exact ⟨rfl, rfl, K⟩) (by decide) (by decide)
  · refine oWk.to (mkF m 52 #[rv xp, rv xo, rv xo] []) (fun _ kt => zY X hx hby d15_20 rfl rfl (feq hc20).2 (pc' := 52) rfl kt) ?_
    refine oWk.to (mkF m 53 #[rv xp, rv xo, rv xo] [(.int 0)]) (fun _ kt => zK X hx hby d15_52 rfl kt) ?_
    exact oRetZ X hx hlk hret (hb hby d15_53) (Or.inl rfl) (by rw [e0]; exact ⟨rfl, rfl, K⟩) (by decide) (by decide)
theorem d26_15 : decode jdk_43_method_13_code 15 = .ok (.aload_n 0, 1) := by decide +kernel
theorem d26_16 : decode jdk_43_method_13_code 16 = .ok (.iload_n 2, 1) := by decide +kernel
theorem d26_17 : decode jdk_43_method_13_code 17 = .ok (.baload, 1) := by decide +kernel
theorem d26_18 : decode jdk_43_method_13_code 18 = .ok (.aload_n 1, 1) := by decide +kernel
theorem d26_19 : decode jdk_43_method_13_code 19 = .ok (.iload_n 2, 1) := by decide +kernel
theorem d26_20 : decode jdk_43_method_13_code 20 = .ok (.baload, 1) := by decide +kernel
theorem d26_21 : decode jdk_43_method_13_code 21 = .ok (.if_icmp .eq 5, 3) := by decide +kernel
theorem d26_26 : decode jdk_43_method_13_code 26 = .ok (.iinc 2 1, 3) := by decide +kernel
theorem d26_29 : decode jdk_43_method_13_code 29 = .ok (.goto (-20), 3) := by decide +kernel
theorem d26_24 : decode jdk_43_method_13_code 24 = .ok (.iconst 0, 1) := by decide +kernel
theorem d26_25 : decode jdk_43_method_13_code 25 = .ok (.ireturn, 1) := by decide +kernel
theorem rLE_1_1 (l : Launch) (Z : State) (a0 : Array Value) (hw : oHW a0 Z) (ws : List Jvm.Cond) (xb xe : Addr) (xk xl : ClassId) (xc0 xd0 : Int32) (h0 : Heap) (O0 : Ext Z.heap h0) (V_xb : Arv Z h0 xb xk .byte (1 : Int32) [(ib xc0)] (.int (0 : Int32))) (V_xe : Arv Z h0 xe xl .byte (1 : Int32) [(ib xd0)] (.int (0 : Int32))) :
    oCon l Z yy24 jdk_43_method_13_code 3 (some .boolean) ws ({ frames := 0, cells := 0, slots := 0, locals := 0 } : Room) #[(.ref xb), (.ref xe)] h0 (oPq (some (.int (oBi ((xc0.toInt8.toInt32) = (xd0.toInt8.toInt32))))) h0) := by
  refine oCon.of (plainFor_of_name pn_8) ?_
  intro p e s m below meth c T X hx hby hml hown hnm hret hlk hZ e0
  have hml : c.maxLocals = 3 := hml
  have K : oKp h0 h0 [] [] := oKp.nil _ _
  refine oWk.cast (g' := (mkF m 0 #[rv xb, rv xe, uu] [])) (by first | rfl | (simp [entryFrame, mkF, argsToLocals, Value.category]; done)) ?_
  refine oWk.to (mkF m 9 #[rv xb, rv xe, iv 0] []) (fun _ kt => zA X hx hby d26_0 rfl rfl rfl (oAl X hx hZ e0 V_xb hby d26_1 rfl rfl (zA X hx hby d26_2 rfl rfl rfl (oAl X hx hZ e0 V_xe hby d26_3 rfl rfl (zN X hx hby d26_4 rfl rfl (teq (by decide)).2 (zK X hx hby d26_7 rfl (zSn X hx hby d26_8 rfl rfl (l' := #[rv xb, rv xe, iv 0]) rfl kt))))))) ?_
  refine oWk.to (mkF m 18 #[rv xb, rv xe, iv 0] [(ib xc0)]) (fun _ kt => zI X hx hby d26_9 rfl rfl (zA X hx hby d26_10 rfl rfl rfl (oAl X hx hZ e0 V_xb hby d26_11 rfl rfl (zN X hx hby d26_12 rfl rfl (tlt (by decide)).2.1 (zA X hx hby d26_15 rfl rfl rfl (zI X hx hby d26_16 rfl rfl (oLdB X hx hZ e0 V_xb (0 : Int32) (ib xc0) ⟨by decide, by decide⟩ rfl hby d26_17 rfl rfl kt))))))) ?_
  refine oWk.to (mkF m 21 #[rv xb, rv xe, iv 0] [(ib xd0), (ib xc0)]) (fun _ kt => zA X hx hby d26_18 rfl rfl rfl (zI X hx hby d26_19 rfl rfl (oLdB X hx hZ e0 V_xe (0 : Int32) (ib xd0) ⟨by decide, by decide⟩ rfl hby d26_20 rfl rfl kt))) ?_
  by_cases hq0 : (xc0.toInt8.toInt32) = (xd0.toInt8.toInt32)
  · refine oWk.to (mkF m 26 #[rv xb, rv xe, iv 0] []) (fun _ kt => zY X hx hby d26_21 rfl rfl (teq hq0).1 (pc' := 26) rfl kt) ?_
    refine oWk.to (mkF m 33 #[rv xb, rv xe, iv 1] [(.int 1)]) (fun _ kt => zC X hx hby d26_26 rfl rfl (l' := #[rv xb, rv xe, iv ((0 : Int32) + (1 : Int32))]) rfl (zG X hx hby d26_29 rfl (pc' := 9) rfl (zI X hx hby d26_9 rfl rfl (zA X hx hby d26_10 rfl rfl rfl (oAl X hx hZ e0 V_xb hby d26_11 rfl rfl (zY X hx hby d26_12 rfl rfl (flt (by decide)).2.1 (pc' := 32) rfl (zK X hx hby d26_32 rfl kt))))))) ?_
    exact oRetZ X hx hlk hret (hb hby d26_33) (Or.inr rfl) (by rw [e0]; exact ⟨(by rw [oBi_t hq0]), rfl, K⟩) (by decide) (by decide)
  · refine oWk.to (mkF m 24 #[rv xb, rv xe, iv 0] []) (fun _ kt => zN X hx hby d26_21 rfl rfl (feq hq0).1 kt) ?_
    refine oWk.to (mkF m 25 #[rv xb, rv xe, iv 0] [(.int 0)]) (fun _ kt => zK X hx hby d26_24 rfl kt) ?_
    exact oRetZ X hx hlk hret (hb hby d26_25) (Or.inl rfl) (by rw [e0]; exact ⟨(by rw [oBi_f (fun q => hq0 q)]), rfl, K⟩) (by decide) (by decide)
theorem rSE_1_1 (l : Launch) (Z : State) (a0 : Array Value) (hw : oHW a0 Z) (ws : List Jvm.Cond) (xa xb : Addr) (xk : ClassId) (xq xe : Addr) (xl : ClassId) (xz xc0 xd0 : Int32) (h0 : Heap) (O0 : Ext Z.heap h0) (S_Z : Sta Z Z.heap Y0 Y2 "Z" (.int xz)) (hz : ¬ xz = (0 : Int32)) (ne_xa_xq : xa ≠ xq) (E_xa : Exa Z h0 xa Y0) (F_coder_xa : Fld Z h0 xa Y0 "coder" "B" (.int (0 : Int32))) (F_value_xa : Fld Z h0 xa Y0 "value" "[B" (.ref xb)) (V_xb : Arv Z h0 xb xk .byte (1 : Int32) [(ib xc0)] (.int (0 : Int32))) (E_xq : Exa Z h0 xq Y0) (F_coder_xq : Fld Z h0 xq Y0 "coder" "B" (.int (0 : Int32))) (F_value_xq : Fld Z h0 xq Y0 "value" "[B" (.ref xe)) (V_xe : Arv Z h0 xe xl .byte (1 : Int32) [(ib xd0)] (.int (0 : Int32))) :
    oCon l Z yy23 jdk_42_method_66_code 3 (some .boolean) ws ({ frames := 1, cells := 0, slots := 0, locals := 14 } : Room) #[(.ref xa), (.ref xq)] h0 (oPq (some (.int (oBi ((xc0.toInt8.toInt32) = (xd0.toInt8.toInt32))))) h0) := by
  refine oCon.of (plainFor_of_name pn_0) ?_
  intro p e s m below meth c T X hx hby hml hown hnm hret hlk hZ e0
  have hml : c.maxLocals = 3 := hml
  have K : oKp h0 h0 [] [] := oKp.nil _ _
  refine oWk.cast (g' := (mkF m 0 #[rv xa, rv xq, uu] [])) (by first | rfl | (simp [entryFrame, mkF, argsToLocals, Value.category]; done)) ?_
  refine oWk.st (fun _ kt => zA X hx hby d25_0 rfl rfl rfl (zA X hx hby d25_1 rfl rfl rfl kt)) ?_
  refine oWk.to (mkF m 7 #[rv xa, rv xq, uu] []) (fun _ kt => Jvm.RoadKit.acmp (g := (mkF m 2 #[rv xa, rv xq, uu] [(.ref xq), (.ref xa)])) X hx rfl rfl rfl (pc0 := 2) (pc' := 7) (same := false) rfl (hb hby d25_2) rfl (decide_eq_false fun q => ne_xa_xq (Value.ref.inj q)) (by decide) (by decide) kt) ?_
  refine oWk.st (fun _ kt => zA X hx hby d25_7 rfl rfl rfl kt) ?_
  obtain ⟨T, X, e0, st⟩ := instY X hx hZ hown (oW hw 132 rfl) e0 (Ins.self E_xq) (g := (mkF m 8 #[rv xa, rv xq, uu] [(.ref xq)])) rfl rfl (hb hby d25_8)
  refine oWk.st (fun _ kt => st _ (zH X hx hby d25_11 rfl rfl ((if0 _ _).trans (feq (by decide)).1) (zA X hx hby d25_14 rfl rfl rfl kt))) ?_
  obtain ⟨T, X, e0, st⟩ := castY X hx hZ hown (oW hw 132 rfl) e0 (Ins.self E_xq) (g := (mkF m 15 #[rv xa, rv xq, uu] [(.ref xq)])) rfl rfl (hb hby d25_15)
  refine oWk.st (fun _ kt => st _ (zTn X hx hby d25_18 rfl rfl rfl (l' := #[rv xa, rv xq, rv xq]) rfl kt)) ?_
  have Oh := K.old O0 all0
  obtain ⟨T, X, e0, st⟩ := getS2 X hx hZ hown (host := "") (Or.inl (oW hw 58 rfl)) Via.refl e0 (S_Z.ext Oh) (g := (mkF m 19 #[rv xa, rv xq, rv xq] [])) rfl (hb hby d25_19)
  refine oWk.st (fun _ kt => st _ (zH X hx hby d25_22 rfl rfl ((if0 _ _).trans (feq hz).1) (zA X hx hby d25_25 rfl rfl rfl kt))) ?_
  obtain ⟨T, X, e0, st⟩ := getF X hx hZ hown (host := "") (Or.inl (oW hw 27 rfl)) Via.refl e0 F_coder_xa (g := (mkF m 26 #[rv xa, rv xq, rv xq] [(.ref xa)])) rfl rfl (hb hby d25_26)
  refine oWk.st (fun _ kt => st _ (zA X hx hby d25_29 rfl rfl rfl kt)) ?_
  obtain ⟨T, X, e0, st⟩ := getF X hx hZ hown (host := "") (Or.inl (oW hw 27 rfl)) Via.refl e0 F_coder_xq (g := (mkF m 30 #[rv xa, rv xq, rv xq] [(.ref xq), (.int 0)])) rfl rfl (hb hby d25_30)
  refine oWk.st (fun _ kt => st _ (zN X hx hby d25_33 rfl rfl (teq (by decide)).2 (zA X hx hby d25_36 rfl rfl rfl kt))) ?_
  obtain ⟨T, X, e0, st⟩ := getF X hx hZ hown (host := "") (Or.inl (oW hw 26 rfl)) Via.refl e0 F_value_xa (g := (mkF m 37 #[rv xa, rv xq, rv xq] [(.ref xa)])) rfl rfl (hb hby d25_37)
  refine oWk.st (fun _ kt => st _ (zA X hx hby d25_40 rfl rfl rfl kt)) ?_
  obtain ⟨T, X, e0, st⟩ := getF X hx hZ hown (host := "") (Or.inl (oW hw 26 rfl)) Via.refl e0 F_value_xq (g := (mkF m 41 #[rv xa, rv xq, rv xq] [(.ref xq), (.ref xb)])) rfl rfl (hb hby d25_41)
  refine oWk.st (fun _ kt => st _ kt) ?_
  obtain ⟨T, L2, X, e0, K, st⟩ := (cs23 hw).pure X hx hZ hown e0 K (A := [(.ref xb), (.ref xe)]) rfl (rLE_1_1 l Z a0 hw [] xb xe xk xl xc0 xd0 h0 Oh V_xb V_xe) (W := 0) (by decide) hml (Ls := #[rv xa, rv xq, rv xq]) rfl (rest := []) rfl rfl hby d25_44
  refine oWk.to (mkF m 47 #[rv xa, rv xq, rv xq] [(.int (oBi ((xc0.toInt8.toInt32) = (xd0.toInt8.toInt32))))]) (fun _ kt => st _ kt) ?_
  by_cases hc47 : (xc0.toInt8.toInt32) = (xd0.toInt8.toInt32)
  · refine oWk.to (mkF m 50 #[rv xa, rv xq, rv xq] []) (fun _ kt => zH X hx hby d25_47 rfl rfl ((if0 _ _).trans (feq (oBi_ne hc47)).1) kt) ?_
    refine oWk.to (mkF m 55 #[rv xa, rv xq, rv xq] [(.int 1)]) (fun _ kt => zK X hx hby d25_50 rfl (zG X hx hby d25_51 rfl (pc' := 55) rfl kt)) ?_
    exact oRetZ X hx hlk hret (hb hby d25_55) (Or.inr rfl) (by rw [e0]; exact ⟨(by rw [oBi_t hc47]), rfl, K⟩) (by decide) (by decide)
  · refine oWk.to (mkF m 54 #[rv xa, rv xq, rv xq] []) (fun _ kt => zF X hx hby d25_47 rfl rfl ((if0 _ _).trans (teq (oBi_f hc47)).1) (pc' := 54) rfl kt) ?_
    refine oWk.to (mkF m 55 #[rv xa, rv xq, rv xq] [(.int 0)]) (fun _ kt => zK X hx hby d25_54 rfl kt) ?_
    exact oRetZ X hx hlk hret (hb hby d25_55) (Or.inl rfl) (by rw [e0]; exact ⟨(by rw [oBi_f (fun q => hc47 q)]), rfl, K⟩) (by decide) (by decide)
theorem rED_1_1 (l : Launch) (Z : State) (a0 : Array Value) (hw : oHW a0 Z) (ws : List Jvm.Cond) (xp : Addr) (xi xg : Int32) (xo : Addr) (xj xf : Int32) (xa xb : Addr) (xk : ClassId) (xq xe : Addr) (xl : ClassId) (xz xc0 xd0 : Int32) (h0 : Heap) (O0 : Ext Z.heap h0) (S_Z : Sta Z Z.heap Y0 Y2 "Z" (.int xz)) (hz : ¬ xz = (0 : Int32)) (E_xp : Exa Z h0 xp Y1) (F_position_xp : Fld Z h0 xp Y1 "position" "I" (.int xi)) (F_deleteCount_xp : Fld Z h0 xp Y1 "deleteCount" "I" (.int xg)) (F_insertion_xp : Fld Z h0 xp Y1 "insertion" Y3 (.ref xq)) (E_xo : Exa Z h0 xo Y1) (F_position_xo : Fld Z h0 xo Y1 "position" "I" (.int xj)) (F_deleteCount_xo : Fld Z h0 xo Y1 "deleteCount" "I" (.int xf)) (F_insertion_xo : Fld Z h0 xo Y1 "insertion" Y3 (.ref xa)) (ne_xa_xq : xa ≠ xq) (E_xa : Exa Z h0 xa Y0) (F_coder_xa : Fld Z h0 xa Y0 "coder" "B" (.int (0 : Int32))) (F_value_xa : Fld Z h0 xa Y0 "value" "[B" (.ref xb)) (V_xb : Arv Z h0 xb xk .byte (1 : Int32) [(ib xc0)] (.int (0 : Int32))) (E_xq : Exa Z h0 xq Y0) (F_coder_xq : Fld Z h0 xq Y0 "coder" "B" (.int (0 : Int32))) (F_value_xq : Fld Z h0 xq Y0 "value" "[B" (.ref xe)) (V_xe : Arv Z h0 xe xl .byte (1 : Int32) [(ib xd0)] (.int (0 : Int32))) :
    oCon l Z yy22 prog_10_method_6_code 3 (some .boolean) ws ({ frames := 2, cells := 0, slots := 0, locals := 28 } : Room) #[(.ref xp), (.ref xo)] h0 (oPq (some (.int (oBi (xj = xi ∧ xf = xg ∧ (xc0.toInt8.toInt32) = (xd0.toInt8.toInt32))))) h0) := by
  refine oCon.of (plainFor_of_name pn_7) ?_
  intro p e s m below meth c T X hx hby hml hown hnm hret hlk hZ e0
  have hml : c.maxLocals = 3 := hml
  have K : oKp h0 h0 [] [] := oKp.nil _ _
  refine oWk.cast (g' := (mkF m 0 #[rv xp, rv xo, uu] [])) (by first | rfl | (simp [entryFrame, mkF, argsToLocals, Value.category]; done)) ?_
  refine oWk.st (fun _ kt => zA X hx hby d15_0 rfl rfl rfl kt) ?_
  obtain ⟨T, X, e0, st⟩ := instY X hx hZ hown (oW hw 91 rfl) e0 (Ins.self E_xo) (g := (mkF m 1 #[rv xp, rv xo, uu] [(.ref xo)])) rfl rfl (hb hby d15_1)
  refine oWk.st (fun _ kt => st _ (zH X hx hby d15_4 rfl rfl ((if0 _ _).trans (feq (by decide)).1) (zA X hx hby d15_7 rfl rfl rfl kt))) ?_
  obtain ⟨T, X, e0, st⟩ := castY X hx hZ hown (oW hw 91 rfl) e0 (Ins.self E_xo) (g := (mkF m 8 #[rv xp, rv xo, uu] [(.ref xo)])) rfl rfl (hb hby d15_8)
  refine oWk.st (fun _ kt => st _ (zTn X hx hby d15_11 rfl rfl rfl (l' := #[rv xp, rv xo, rv xo]) rfl (zA X hx hby d15_12 rfl rfl rfl kt))) ?_
  obtain ⟨T, X, e0, st⟩ := getF X hx hZ hown (host := "") (Or.inl (oW hw 59 rfl)) Via.refl e0 F_position_xo (g := (mkF m 13 #[rv xp, rv xo, rv xo] [(.ref xo)])) rfl rfl (hb hby d15_13)
  refine oWk.st (fun _ kt => st _ (zA X hx hby d15_16 rfl rfl rfl kt)) ?_
  obtain ⟨T, X, e0, st⟩ := getF X hx hZ hown (host := "") (Or.inl (oW hw 59 rfl)) Via.refl e0 F_position_xp (g := (mkF m 17 #[rv xp, rv xo, rv xo] [(.ref xp), (.int xj)])) rfl rfl (hb hby d15_17)
  refine oWk.to (mkF m 20 #[rv xp, rv xo, rv xo] [(.int xi), (.int xj)]) (fun _ kt => st _ kt) ?_
  by_cases hc20 : xj = xi
  · refine oWk.to (mkF m 23 #[rv xp, rv xo, rv xo] []) (fun _ kt => zN X hx hby d15_20 rfl rfl (teq hc20).2 kt) ?_
    refine oWk.st (fun _ kt => zA X hx hby d15_23 rfl rfl rfl kt) ?_
    obtain ⟨T, X, e0, st⟩ := getF X hx hZ hown (host := "") (Or.inl (oW hw 61 rfl)) Via.refl e0 F_deleteCount_xo (g := (mkF m 24 #[rv xp, rv xo, rv xo] [(.ref xo)])) rfl rfl (hb hby d15_24)
    refine oWk.st (fun _ kt => st _ (zA X hx hby d15_27 rfl rfl rfl kt)) ?_
    obtain ⟨T, X, e0, st⟩ := getF X hx hZ hown (host := "") (Or.inl (oW hw 61 rfl)) Via.refl e0 F_deleteCount_xp (g := (mkF m 28 #[rv xp, rv xo, rv xo] [(.ref xp), (.int xf)])) rfl rfl (hb hby d15_28)
    refine oWk.to (mkF m 31 #[rv xp, rv xo, rv xo] [(.int xg), (.int xf)]) (fun _ kt => st _ kt) ?_
    by_cases hc31 : xf = xg
    · refine oWk.to (mkF m 34 #[rv xp, rv xo, rv xo] []) (fun _ kt => zN X hx hby d15_31 rfl rfl (teq hc31).2 kt) ?_
      refine oWk.st (fun _ kt => zA X hx hby d15_34 rfl rfl rfl kt) ?_
      obtain ⟨T, X, e0, st⟩ := getF X hx hZ hown (host := "") (Or.inl (oW hw 63 rfl)) Via.refl e0 F_insertion_xo (g := (mkF m 35 #[rv xp, rv xo, rv xo] [(.ref xo)])) rfl rfl (hb hby d15_35)
      refine oWk.st (fun _ kt => st _ (zA X hx hby d15_38 rfl rfl rfl kt)) ?_
      obtain ⟨T, X, e0, st⟩ := getF X hx hZ hown (host := "") (Or.inl (oW hw 63 rfl)) Via.refl e0 F_insertion_xp (g := (mkF m 39 #[rv xp, rv xo, rv xo] [(.ref xp), (.ref xa)])) rfl rfl (hb hby d15_39)
      refine oWk.st (fun _ kt => st _ kt) ?_
      have Oh := K.old O0 all0
      obtain ⟨T, L2, X, e0, K, st⟩ := (cs22 hw).pure X hx hZ hown e0 K (A := [(.ref xa), (.ref xq)]) ⟨rfl, _, _, rfl, E_xa⟩ (rSE_1_1 l Z a0 hw [] xa xb xk xq xe xl xz xc0 xd0 h0 Oh S_Z hz ne_xa_xq E_xa F_coder_xa F_value_xa V_xb E_xq F_coder_xq F_value_xq V_xe) (W := 0) (by decide) hml (Ls := #[rv xp, rv xo, rv xo]) rfl (rest := []) rfl rfl hby d15_42
      refine oWk.to (mkF m 45 #[rv xp, rv xo, rv xo] [(.int (oBi ((xc0.toInt8.toInt32) = (xd0.toInt8.toInt32))))]) (fun _ kt => st _ kt) ?_
      by_cases hc45 : (xc0.toInt8.toInt32) = (xd0.toInt8.toInt32)
      · refine oWk.to (mkF m 48 #[rv xp, rv xo, rv xo] []) (fun _ kt => zH X hx hby d15_45 rfl rfl ((if0 _ _).trans (feq (oBi_ne hc45)).1) kt) ?_
        refine oWk.to (mkF m 53 #[rv xp, rv xo, rv xo] [(.int 1)]) (fun _ kt => zK X hx hby d15_48 rfl (zG X hx hby d15_49 rfl (pc' := 53) rfl kt)) ?_
        exact oRetZ X hx hlk hret (hb hby d15_53) (Or.inr rfl) (by rw [e0]; exact ⟨(by rw [oBi_t ⟨hc20, hc31, hc45⟩]), rfl, K⟩) (by decide) (by decide)
      · refine oWk.to (mkF m 52 #[rv xp, rv xo, rv xo] []) (fun _ kt => zF X hx hby d15_45 rfl rfl ((if0 _ _).trans (teq (oBi_f hc45)).1) (pc' := 52) rfl kt) ?_
        refine oWk.to (mkF m 53 #[rv xp, rv xo, rv xo] [(.int 0)]) (fun _ kt => zK X hx hby d15_52 rfl kt) ?_
        exact oRetZ X hx hlk hret (hb hby d15_53) (Or.inl rfl) (by rw [e0]; exact ⟨(by rw [oBi_f (fun q => hc45 q.2.2)]), rfl, K⟩) (by decide) (by decide)
    · refine oWk.to (mkF m 52 #[rv xp, rv xo, rv xo] []) (fun _ kt => zY X hx hby d15_31 rfl rfl (feq hc31).2 (pc' := 52) rfl kt) ?_
      refine oWk.to (mkF m 53 #[rv xp, rv xo, rv xo] [(.int 0)]) (fun _ kt => zK X hx hby d15_52 rfl kt) ?_
      exact oRetZ X hx hlk hret (hb hby d15_53) (Or.inl rfl) (by rw [e0]; exact ⟨(by rw [oBi_f (fun q => hc31 q.2.1)]), rfl, K⟩) (by decide) (by decide)
  · refine oWk.to (mkF m 52 #[rv xp, rv xo, rv xo] []) (fun _ kt => zY X hx hby d15_20 rfl rfl (feq hc20).2 (pc' := 52) rfl kt) ?_
    refine oWk.to (mkF m 53 #[rv xp, rv xo, rv xo] [(.int 0)]) (fun _ kt => zK X hx hby d15_52 rfl kt) ?_
    exact oRetZ X hx hlk hret (hb hby d15_53) (Or.inl rfl) (by rw [e0]; exact ⟨(by rw [oBi_f (fun q => hc20 q.1)]), rfl, K⟩) (by decide) (by decide)
theorem rLE_1_2 (l : Launch) (Z : State) (a0 : Array Value) (hw : oHW a0 Z) (ws : List Jvm.Cond) (xb xe : Addr) (xk xl : ClassId) (xc0 xd0 xd1 : Int32) (h0 : Heap) (O0 : Ext Z.heap h0) (V_xb : Arv Z h0 xb xk .byte (1 : Int32) [(ib xc0)] (.int (0 : Int32))) (V_xe : Arv Z h0 xe xl .byte (2 : Int32) [(ib xd0), (ib xd1)] (.int (0 : Int32))) :
    oCon l Z yy24 jdk_43_method_13_code 3 (some .boolean) ws ({ frames := 0, cells := 0, slots := 0, locals := 0 } : Room) #[(.ref xb), (.ref xe)] h0 (oPq (some (.int (0 : Int32))) h0) := by
  refine oCon.of (plainFor_of_name pn_8) ?_
  intro p e s m below meth c T X hx hby hml hown hnm hret hlk hZ e0
  have hml : c.maxLocals = 3 := hml
  have K : oKp h0 h0 [] [] := oKp.nil _ _
  refine oWk.cast (g' := (mkF m 0 #[rv xb, rv xe, uu] [])) (by first | rfl | (simp [entryFrame, mkF, argsToLocals, Value.category]; done)) ?_
  refine oWk.to (mkF m 35 #[rv xb, rv xe, uu] [(.int 0)]) (fun _ kt => zA X hx hby d26_0 rfl rfl rfl (oAl X hx hZ e0 V_xb hby d26_1 rfl rfl (zA X hx hby d26_2 rfl rfl rfl (oAl X hx hZ e0 V_xe hby d26_3 rfl rfl (zY X hx hby d26_4 rfl rfl (feq (by decide)).2 (pc' := 34) rfl (zK X hx hby d26_34 rfl kt)))))) ?_
  exact oRetZ X hx hlk hret (hb hby d26_35) (Or.inl rfl) (by rw [e0]; exact ⟨rfl, rfl, K⟩) (by decide) (by decide)
theorem rSE_1_2 (l : Launch) (Z : State) (a0 : Array Value) (hw : oHW a0 Z) (ws : List Jvm.Cond) (xa xb : Addr) (xk : ClassId) (xq xe : Addr) (xl : ClassId) (xz xc0 xd0 xd1 : Int32) (h0 : Heap) (O0 : Ext Z.heap h0) (S_Z : Sta Z Z.heap Y0 Y2 "Z" (.int xz)) (hz : ¬ xz = (0 : Int32)) (ne_xa_xq : xa ≠ xq) (E_xa : Exa Z h0 xa Y0) (F_coder_xa : Fld Z h0 xa Y0 "coder" "B" (.int (0 : Int32))) (F_value_xa : Fld Z h0 xa Y0 "value" "[B" (.ref xb)) (V_xb : Arv Z h0 xb xk .byte (1 : Int32) [(ib xc0)] (.int (0 : Int32))) (E_xq : Exa Z h0 xq Y0) (F_coder_xq : Fld Z h0 xq Y0 "coder" "B" (.int (0 : Int32))) (F_value_xq : Fld Z h0 xq Y0 "value" "[B" (.ref xe)) (V_xe : Arv Z h0 xe xl .byte (2 : Int32) [(ib xd0), (ib xd1)] (.int (0 : Int32))) :
    oCon l Z yy23 jdk_42_method_66_code 3 (some .boolean) ws ({ frames := 1, cells := 0, slots := 0, locals := 14 } : Room) #[(.ref xa), (.ref xq)] h0 (oPq (some (.int (0 : Int32))) h0) := by
  refine oCon.of (plainFor_of_name pn_0) ?_
  intro p e s m below meth c T X hx hby hml hown hnm hret hlk hZ e0
  have hml : c.maxLocals = 3 := hml
  have K : oKp h0 h0 [] [] := oKp.nil _ _
  refine oWk.cast (g' := (mkF m 0 #[rv xa, rv xq, uu] [])) (by first | rfl | (simp [entryFrame, mkF, argsToLocals, Value.category]; done)) ?_
  refine oWk.st (fun _ kt => zA X hx hby d25_0 rfl rfl rfl (zA X hx hby d25_1 rfl rfl rfl kt)) ?_
  refine oWk.to (mkF m 7 #[rv xa, rv xq, uu] []) (fun _ kt => Jvm.RoadKit.acmp (g := (mkF m 2 #[rv xa, rv xq, uu] [(.ref xq), (.ref xa)])) X hx rfl rfl rfl (pc0 := 2) (pc' := 7) (same := false) rfl (hb hby d25_2) rfl (decide_eq_false fun q => ne_xa_xq (Value.ref.inj q)) (by decide) (by decide) kt) ?_
  refine oWk.st (fun _ kt => zA X hx hby d25_7 rfl rfl rfl kt) ?_
  obtain ⟨T, X, e0, st⟩ := instY X hx hZ hown (oW hw 132 rfl) e0 (Ins.self E_xq) (g := (mkF m 8 #[rv xa, rv xq, uu] [(.ref xq)])) rfl rfl (hb hby d25_8)
  refine oWk.st (fun _ kt => st _ (zH X hx hby d25_11 rfl rfl ((if0 _ _).trans (feq (by decide)).1) (zA X hx hby d25_14 rfl rfl rfl kt))) ?_
  obtain ⟨T, X, e0, st⟩ := castY X hx hZ hown (oW hw 132 rfl) e0 (Ins.self E_xq) (g := (mkF m 15 #[rv xa, rv xq, uu] [(.ref xq)])) rfl rfl (hb hby d25_15)
  refine oWk.st (fun _ kt => st _ (zTn X hx hby d25_18 rfl rfl rfl (l' := #[rv xa, rv xq, rv xq]) rfl kt)) ?_
  have Oh := K.old O0 all0
  obtain ⟨T, X, e0, st⟩ := getS2 X hx hZ hown (host := "") (Or.inl (oW hw 58 rfl)) Via.refl e0 (S_Z.ext Oh) (g := (mkF m 19 #[rv xa, rv xq, rv xq] [])) rfl (hb hby d25_19)
  refine oWk.st (fun _ kt => st _ (zH X hx hby d25_22 rfl rfl ((if0 _ _).trans (feq hz).1) (zA X hx hby d25_25 rfl rfl rfl kt))) ?_
  obtain ⟨T, X, e0, st⟩ := getF X hx hZ hown (host := "") (Or.inl (oW hw 27 rfl)) Via.refl e0 F_coder_xa (g := (mkF m 26 #[rv xa, rv xq, rv xq] [(.ref xa)])) rfl rfl (hb hby d25_26)
  refine oWk.st (fun _ kt => st _ (zA X hx hby d25_29 rfl rfl rfl kt)) ?_
  obtain ⟨T, X, e0, st⟩ := getF X hx hZ hown (host := "") (Or.inl (oW hw 27 rfl)) Via.refl e0 F_coder_xq (g := (mkF m 30 #[rv xa, rv xq, rv xq] [(.ref xq), (.int 0)])) rfl rfl (hb hby d25_30)
  refine oWk.st (fun _ kt => st _ (zN X hx hby d25_33 rfl rfl (teq (by decide)).2 (zA X hx hby d25_36 rfl rfl rfl kt))) ?_
  obtain ⟨T, X, e0, st⟩ := getF X hx hZ hown (host := "") (Or.inl (oW hw 26 rfl)) Via.refl e0 F_value_xa (g := (mkF m 37 #[rv xa, rv xq, rv xq] [(.ref xa)])) rfl rfl (hb hby d25_37)
  refine oWk.st (fun _ kt => st _ (zA X hx hby d25_40 rfl rfl rfl kt)) ?_
  obtain ⟨T, X, e0, st⟩ := getF X hx hZ hown (host := "") (Or.inl (oW hw 26 rfl)) Via.refl e0 F_value_xq (g := (mkF m 41 #[rv xa, rv xq, rv xq] [(.ref xq), (.ref xb)])) rfl rfl (hb hby d25_41)
  refine oWk.st (fun _ kt => st _ kt) ?_
  obtain ⟨T, L2, X, e0, K, st⟩ := (cs23 hw).pure X hx hZ hown e0 K (A := [(.ref xb), (.ref xe)]) rfl (rLE_1_2 l Z a0 hw [] xb xe xk xl xc0 xd0 xd1 h0 Oh V_xb V_xe) (W := 0) (by decide) hml (Ls := #[rv xa, rv xq, rv xq]) rfl (rest := []) rfl rfl hby d25_44
  refine oWk.to (mkF m 55 #[rv xa, rv xq, rv xq] [(.int 0)]) (fun _ kt => st _ (zF X hx hby d25_47 rfl rfl ((if0 _ _).trans (teq (by decide)).1) (pc' := 54) rfl (zK X hx hby d25_54 rfl kt))) ?_
  exact oRetZ X hx hlk hret (hb hby d25_55) (Or.inl rfl) (by rw [e0]; exact ⟨rfl, rfl, K⟩) (by decide) (by decide)
theorem rED_1_2 (l : Launch) (Z : State) (a0 : Array Value) (hw : oHW a0 Z) (ws : List Jvm.Cond) (xp : Addr) (xi xg : Int32) (xo : Addr) (xj xf : Int32) (xa xb : Addr) (xk : ClassId) (xq xe : Addr) (xl : ClassId) (xz xc0 xd0 xd1 : Int32) (h0 : Heap) (O0 : Ext Z.heap h0) (S_Z : Sta Z Z.heap Y0 Y2 "Z" (.int xz)) (hz : ¬ xz = (0 : Int32)) (E_xp : Exa Z h0 xp Y1) (F_position_xp : Fld Z h0 xp Y1 "position" "I" (.int xi)) (F_deleteCount_xp : Fld Z h0 xp Y1 "deleteCount" "I" (.int xg)) (F_insertion_xp : Fld Z h0 xp Y1 "insertion" Y3 (.ref xq)) (E_xo : Exa Z h0 xo Y1) (F_position_xo : Fld Z h0 xo Y1 "position" "I" (.int xj)) (F_deleteCount_xo : Fld Z h0 xo Y1 "deleteCount" "I" (.int xf)) (F_insertion_xo : Fld Z h0 xo Y1 "insertion" Y3 (.ref xa)) (ne_xa_xq : xa ≠ xq) (E_xa : Exa Z h0 xa Y0) (F_coder_xa : Fld Z h0 xa Y0 "coder" "B" (.int (0 : Int32))) (F_value_xa : Fld Z h0 xa Y0 "value" "[B" (.ref xb)) (V_xb : Arv Z h0 xb xk .byte (1 : Int32) [(ib xc0)] (.int (0 : Int32))) (E_xq : Exa Z h0 xq Y0) (F_coder_xq : Fld Z h0 xq Y0 "coder" "B" (.int (0 : Int32))) (F_value_xq : Fld Z h0 xq Y0 "value" "[B" (.ref xe)) (V_xe : Arv Z h0 xe xl .byte (2 : Int32) [(ib xd0), (ib xd1)] (.int (0 : Int32))) :
    oCon l Z yy22 prog_10_method_6_code 3 (some .boolean) ws ({ frames := 2, cells := 0, slots := 0, locals := 28 } : Room) #[(.ref xp), (.ref xo)] h0 (oPq (some (.int (0 : Int32))) h0) := by
  refine oCon.of (plainFor_of_name pn_7) ?_
  intro p e s m below meth c T X hx hby hml hown hnm hret hlk hZ e0
  have hml : c.maxLocals = 3 := hml
  have K : oKp h0 h0 [] [] := oKp.nil _ _
  refine oWk.cast (g' := (mkF m 0 #[rv xp, rv xo, uu] [])) (by first | rfl | (simp [entryFrame, mkF, argsToLocals, Value.category]; done)) ?_
  refine oWk.st (fun _ kt => zA X hx hby d15_0 rfl rfl rfl kt) ?_
  obtain ⟨T, X, e0, st⟩ := instY X hx hZ hown (oW hw 91 rfl) e0 (Ins.self E_xo) (g := (mkF m 1 #[rv xp, rv xo, uu] [(.ref xo)])) rfl rfl (hb hby d15_1)
  refine oWk.st (fun _ kt => st _ (zH X hx hby d15_4 rfl rfl ((if0 _ _).trans (feq (by decide)).1) (zA X hx hby d15_7 rfl rfl rfl kt))) ?_
  obtain ⟨T, X, e0, st⟩ := castY X hx hZ hown (oW hw 91 rfl) e0 (Ins.self E_xo) (g := (mkF m 8 #[rv xp, rv xo, uu] [(.ref xo)])) rfl rfl (hb hby d15_8)
  refine oWk.st (fun _ kt => st _ (zTn X hx hby d15_11 rfl rfl rfl (l' := #[rv xp, rv xo, rv xo]) rfl (zA X hx hby d15_12 rfl rfl rfl kt))) ?_
  obtain ⟨T, X, e0, st⟩ := getF X hx hZ hown (host := "") (Or.inl (oW hw 59 rfl)) Via.refl e0 F_position_xo (g := (mkF m 13 #[rv xp, rv xo, rv xo] [(.ref xo)])) rfl rfl (hb hby d15_13)
  refine oWk.st (fun _ kt => st _ (zA X hx hby d15_16 rfl rfl rfl kt)) ?_
  obtain ⟨T, X, e0, st⟩ := getF X hx hZ hown (host := "") (Or.inl (oW hw 59 rfl)) Via.refl e0 F_position_xp (g := (mkF m 17 #[rv xp, rv xo, rv xo] [(.ref xp), (.int xj)])) rfl rfl (hb hby d15_17)
  refine oWk.to (mkF m 20 #[rv xp, rv xo, rv xo] [(.int xi), (.int xj)]) (fun _ kt => st _ kt) ?_
  by_cases hc20 : xj = xi
  · refine oWk.to (mkF m 23 #[rv xp, rv xo, rv xo] []) (fun _ kt => zN X hx hby d15_20 rfl rfl (teq hc20).2 kt) ?_
    refine oWk.st (fun _ kt => zA X hx hby d15_23 rfl rfl rfl kt) ?_
    obtain ⟨T, X, e0, st⟩ := getF X hx hZ hown (host := "") (Or.inl (oW hw 61 rfl)) Via.refl e0 F_deleteCount_xo (g := (mkF m 24 #[rv xp, rv xo, rv xo] [(.ref xo)])) rfl rfl (hb hby d15_24)
    refine oWk.st (fun _ kt => st _ (zA X hx hby d15_27 rfl rfl rfl kt)) ?_
    obtain ⟨T, X, e0, st⟩ := getF X hx hZ hown (host := "") (Or.inl (oW hw 61 rfl)) Via.refl e0 F_deleteCount_xp (g := (mkF m 28 #[rv xp, rv xo, rv xo] [(.ref xp), (.int xf)])) rfl rfl (hb hby d15_28)
    refine oWk.to (mkF m 31 #[rv xp, rv xo, rv xo] [(.int xg), (.int xf)]) (fun _ kt => st _ kt) ?_
    by_cases hc31 : xf = xg
    · refine oWk.to (mkF m 34 #[rv xp, rv xo, rv xo] []) (fun _ kt => zN X hx hby d15_31 rfl rfl (teq hc31).2 kt) ?_
      refine oWk.st (fun _ kt => zA X hx hby d15_34 rfl rfl rfl kt) ?_
      obtain ⟨T, X, e0, st⟩ := getF X hx hZ hown (host := "") (Or.inl (oW hw 63 rfl)) Via.refl e0 F_insertion_xo (g := (mkF m 35 #[rv xp, rv xo, rv xo] [(.ref xo)])) rfl rfl (hb hby d15_35)
      refine oWk.st (fun _ kt => st _ (zA X hx hby d15_38 rfl rfl rfl kt)) ?_
      obtain ⟨T, X, e0, st⟩ := getF X hx hZ hown (host := "") (Or.inl (oW hw 63 rfl)) Via.refl e0 F_insertion_xp (g := (mkF m 39 #[rv xp, rv xo, rv xo] [(.ref xp), (.ref xa)])) rfl rfl (hb hby d15_39)
      refine oWk.st (fun _ kt => st _ kt) ?_
      have Oh := K.old O0 all0
      obtain ⟨T, L2, X, e0, K, st⟩ := (cs22 hw).pure X hx hZ hown e0 K (A := [(.ref xa), (.ref xq)]) ⟨rfl, _, _, rfl, E_xa⟩ (rSE_1_2 l Z a0 hw [] xa xb xk xq xe xl xz xc0 xd0 xd1 h0 Oh S_Z hz ne_xa_xq E_xa F_coder_xa F_value_xa V_xb E_xq F_coder_xq F_value_xq V_xe) (W := 0) (by decide) hml (Ls := #[rv xp, rv xo, rv xo]) rfl (rest := []) rfl rfl hby d15_42
      refine oWk.to (mkF m 53 #[rv xp, rv xo, rv xo] [(.int 0)]) (fun _ kt => st _ (zF X hx hby d15_45 rfl rfl ((if0 _ _).trans (teq (by decide)).1) (pc' := 52) rfl (zK X hx hby d15_52 rfl kt))) ?_
      exact oRetZ X hx hlk hret (hb hby d15_53) (Or.inl rfl) (by rw [e0]; exact ⟨rfl, rfl, K⟩) (by decide) (by decide)
    · refine oWk.to (mkF m 52 #[rv xp, rv xo, rv xo] []) (fun _ kt => zY X hx hby d15_31 rfl rfl (feq hc31).2 (pc' := 52) rfl kt) ?_
      refine oWk.to (mkF m 53 #[rv xp, rv xo, rv xo] [(.int 0)]) (fun _ kt => zK X hx hby d15_52 rfl kt) ?_
      exact oRetZ X hx hlk hret (hb hby d15_53) (Or.inl rfl) (by rw [e0]; exact ⟨rfl, rfl, K⟩) (by decide) (by decide)
  · refine oWk.to (mkF m 52 #[rv xp, rv xo, rv xo] []) (fun _ kt => zY X hx hby d15_20 rfl rfl (feq hc20).2 (pc' := 52) rfl kt) ?_
    refine oWk.to (mkF m 53 #[rv xp, rv xo, rv xo] [(.int 0)]) (fun _ kt => zK X hx hby d15_52 rfl kt) ?_
    exact oRetZ X hx hlk hret (hb hby d15_53) (Or.inl rfl) (by rw [e0]; exact ⟨rfl, rfl, K⟩) (by decide) (by decide)
theorem rLE_2_0 (l : Launch) (Z : State) (a0 : Array Value) (hw : oHW a0 Z) (ws : List Jvm.Cond) (xb xe : Addr) (xk xl : ClassId) (xc0 xc1 : Int32) (h0 : Heap) (O0 : Ext Z.heap h0) (V_xb : Arv Z h0 xb xk .byte (2 : Int32) [(ib xc0), (ib xc1)] (.int (0 : Int32))) (V_xe : Arv Z h0 xe xl .byte (0 : Int32) [] (.int (0 : Int32))) :
    oCon l Z yy24 jdk_43_method_13_code 3 (some .boolean) ws ({ frames := 0, cells := 0, slots := 0, locals := 0 } : Room) #[(.ref xb), (.ref xe)] h0 (oPq (some (.int (0 : Int32))) h0) := by
  refine oCon.of (plainFor_of_name pn_8) ?_
  intro p e s m below meth c T X hx hby hml hown hnm hret hlk hZ e0
  have hml : c.maxLocals = 3 := hml
  have K : oKp h0 h0 [] [] := oKp.nil _ _
  refine oWk.cast (g' := (mkF m 0 #[rv xb, rv xe, uu] [])) (by first | rfl | (simp [entryFrame, mkF, argsToLocals, Value.category]; done)) ?_
  refine oWk.to (mkF m 35 #[rv xb, rv xe, uu] [(.int 0)]) (fun _ kt => zA X hx hby d26_0 rfl rfl rfl (oAl X hx hZ e0 V_xb hby d26_1 rfl rfl (zA X hx hby d26_2 rfl rfl rfl (oAl X hx hZ e0 V_xe hby d26_3 rfl rfl (zY X hx hby d26_4 rfl rfl (feq (by decide)).2 (pc' := 34) rfl (zK X hx hby d26_34 rfl kt)))))) ?_
  exact oRetZ X hx hlk hret (hb hby d26_35) (Or.inl rfl) (by rw [e0]; exact ⟨rfl, rfl, K⟩) (by decide) (by decide)
theorem rSE_2_0 (l : Launch) (Z : State) (a0 : Array Value) (hw : oHW a0 Z) (ws : List Jvm.Cond) (xa xb : Addr) (xk : ClassId) (xq xe : Addr) (xl : ClassId) (xz xc0 xc1 : Int32) (h0 : Heap) (O0 : Ext Z.heap h0) (S_Z : Sta Z Z.heap Y0 Y2 "Z" (.int xz)) (hz : ¬ xz = (0 : Int32)) (ne_xa_xq : xa ≠ xq) (E_xa : Exa Z h0 xa Y0) (F_coder_xa : Fld Z h0 xa Y0 "coder" "B" (.int (0 : Int32))) (F_value_xa : Fld Z h0 xa Y0 "value" "[B" (.ref xb)) (V_xb : Arv Z h0 xb xk .byte (2 : Int32) [(ib xc0), (ib xc1)] (.int (0 : Int32))) (E_xq : Exa Z h0 xq Y0) (F_coder_xq : Fld Z h0 xq Y0 "coder" "B" (.int (0 : Int32))) (F_value_xq : Fld Z h0 xq Y0 "value" "[B" (.ref xe)) (V_xe : Arv Z h0 xe xl .byte (0 : Int32) [] (.int (0 : Int32))) :
    oCon l Z yy23 jdk_42_method_66_code 3 (some .boolean) ws ({ frames := 1, cells := 0, slots := 0, locals := 14 } : Room) #[(.ref xa), (.ref xq)] h0 (oPq (some (.int (0 : Int32))) h0) := by
  refine oCon.of (plainFor_of_name pn_0) ?_
  intro p e s m below meth c T X hx hby hml hown hnm hret hlk hZ e0
  have hml : c.maxLocals = 3 := hml
  have K : oKp h0 h0 [] [] := oKp.nil _ _
  refine oWk.cast (g' := (mkF m 0 #[rv xa, rv xq, uu] [])) (by first | rfl | (simp [entryFrame, mkF, argsToLocals, Value.category]; done)) ?_
  refine oWk.st (fun _ kt => zA X hx hby d25_0 rfl rfl rfl (zA X hx hby d25_1 rfl rfl rfl kt)) ?_
  refine oWk.to (mkF m 7 #[rv xa, rv xq, uu] []) (fun _ kt => Jvm.RoadKit.acmp (g := (mkF m 2 #[rv xa, rv xq, uu] [(.ref xq), (.ref xa)])) X hx rfl rfl rfl (pc0 := 2) (pc' := 7) (same := false) rfl (hb hby d25_2) rfl (decide_eq_false fun q => ne_xa_xq (Value.ref.inj q)) (by decide) (by decide) kt) ?_
  refine oWk.st (fun _ kt => zA X hx hby d25_7 rfl rfl rfl kt) ?_
  obtain ⟨T, X, e0, st⟩ := instY X hx hZ hown (oW hw 132 rfl) e0 (Ins.self E_xq) (g := (mkF m 8 #[rv xa, rv xq, uu] [(.ref xq)])) rfl rfl (hb hby d25_8)
  refine oWk.st (fun _ kt => st _ (zH X hx hby d25_11 rfl rfl ((if0 _ _).trans (feq (by decide)).1) (zA X hx hby d25_14 rfl rfl rfl kt))) ?_
  obtain ⟨T, X, e0, st⟩ := castY X hx hZ hown (oW hw 132 rfl) e0 (Ins.self E_xq) (g := (mkF m 15 #[rv xa, rv xq, uu] [(.ref xq)])) rfl rfl (hb hby d25_15)
  refine oWk.st (fun _ kt => st _ (zTn X hx hby d25_18 rfl rfl rfl (l' := #[rv xa, rv xq, rv xq]) rfl kt)) ?_
  have Oh := K.old O0 all0
  obtain ⟨T, X, e0, st⟩ := getS2 X hx hZ hown (host := "") (Or.inl (oW hw 58 rfl)) Via.refl e0 (S_Z.ext Oh) (g := (mkF m 19 #[rv xa, rv xq, rv xq] [])) rfl (hb hby d25_19)
  refine oWk.st (fun _ kt => st _ (zH X hx hby d25_22 rfl rfl ((if0 _ _).trans (feq hz).1) (zA X hx hby d25_25 rfl rfl rfl kt))) ?_
  obtain ⟨T, X, e0, st⟩ := getF X hx hZ hown (host := "") (Or.inl (oW hw 27 rfl)) Via.refl e0 F_coder_xa (g := (mkF m 26 #[rv xa, rv xq, rv xq] [(.ref xa)])) rfl rfl (hb hby d25_26)
  refine oWk.st (fun _ kt => st _ (zA X hx hby d25_29 rfl rfl rfl kt)) ?_
  obtain ⟨T, X, e0, st⟩ := getF X hx hZ hown (host := "") (Or.inl (oW hw 27 rfl)) Via.refl e0 F_coder_xq (g := (mkF m 30 #[rv xa, rv xq, rv xq] [(.ref xq), (.int 0)])) rfl rfl (hb hby d25_30)
  refine oWk.st (fun _ kt => st _ (zN X hx hby d25_33 rfl rfl (teq (by decide)).2 (zA X hx hby d25_36 rfl rfl rfl kt))) ?_
  obtain ⟨T, X, e0, st⟩ := getF X hx hZ hown (host := "") (Or.inl (oW hw 26 rfl)) Via.refl e0 F_value_xa (g := (mkF m 37 #[rv xa, rv xq, rv xq] [(.ref xa)])) rfl rfl (hb hby d25_37)
  refine oWk.st (fun _ kt => st _ (zA X hx hby d25_40 rfl rfl rfl kt)) ?_
  obtain ⟨T, X, e0, st⟩ := getF X hx hZ hown (host := "") (Or.inl (oW hw 26 rfl)) Via.refl e0 F_value_xq (g := (mkF m 41 #[rv xa, rv xq, rv xq] [(.ref xq), (.ref xb)])) rfl rfl (hb hby d25_41)
  refine oWk.st (fun _ kt => st _ kt) ?_
  obtain ⟨T, L2, X, e0, K, st⟩ := (cs23 hw).pure X hx hZ hown e0 K (A := [(.ref xb), (.ref xe)]) rfl (rLE_2_0 l Z a0 hw [] xb xe xk xl xc0 xc1 h0 Oh V_xb V_xe) (W := 0) (by decide) hml (Ls := #[rv xa, rv xq, rv xq]) rfl (rest := []) rfl rfl hby d25_44
  refine oWk.to (mkF m 55 #[rv xa, rv xq, rv xq] [(.int 0)]) (fun _ kt => st _ (zF X hx hby d25_47 rfl rfl ((if0 _ _).trans (teq (by decide)).1) (pc' := 54) rfl (zK X hx hby d25_54 rfl kt))) ?_
  exact oRetZ X hx hlk hret (hb hby d25_55) (Or.inl rfl) (by rw [e0]; exact ⟨rfl, rfl, K⟩) (by decide) (by decide)
theorem rED_2_0 (l : Launch) (Z : State) (a0 : Array Value) (hw : oHW a0 Z) (ws : List Jvm.Cond) (xp : Addr) (xi xg : Int32) (xo : Addr) (xj xf : Int32) (xa xb : Addr) (xk : ClassId) (xq xe : Addr) (xl : ClassId) (xz xc0 xc1 : Int32) (h0 : Heap) (O0 : Ext Z.heap h0) (S_Z : Sta Z Z.heap Y0 Y2 "Z" (.int xz)) (hz : ¬ xz = (0 : Int32)) (E_xp : Exa Z h0 xp Y1) (F_position_xp : Fld Z h0 xp Y1 "position" "I" (.int xi)) (F_deleteCount_xp : Fld Z h0 xp Y1 "deleteCount" "I" (.int xg)) (F_insertion_xp : Fld Z h0 xp Y1 "insertion" Y3 (.ref xq)) (E_xo : Exa Z h0 xo Y1) (F_position_xo : Fld Z h0 xo Y1 "position" "I" (.int xj)) (F_deleteCount_xo : Fld Z h0 xo Y1 "deleteCount" "I" (.int xf)) (F_insertion_xo : Fld Z h0 xo Y1 "insertion" Y3 (.ref xa)) (ne_xa_xq : xa ≠ xq) (E_xa : Exa Z h0 xa Y0) (F_coder_xa : Fld Z h0 xa Y0 "coder" "B" (.int (0 : Int32))) (F_value_xa : Fld Z h0 xa Y0 "value" "[B" (.ref xb)) (V_xb : Arv Z h0 xb xk .byte (2 : Int32) [(ib xc0), (ib xc1)] (.int (0 : Int32))) (E_xq : Exa Z h0 xq Y0) (F_coder_xq : Fld Z h0 xq Y0 "coder" "B" (.int (0 : Int32))) (F_value_xq : Fld Z h0 xq Y0 "value" "[B" (.ref xe)) (V_xe : Arv Z h0 xe xl .byte (0 : Int32) [] (.int (0 : Int32))) :
    oCon l Z yy22 prog_10_method_6_code 3 (some .boolean) ws ({ frames := 2, cells := 0, slots := 0, locals := 28 } : Room) #[(.ref xp), (.ref xo)] h0 (oPq (some (.int (0 : Int32))) h0) := by
  refine oCon.of (plainFor_of_name pn_7) ?_
  intro p e s m below meth c T X hx hby hml hown hnm hret hlk hZ e0
  have hml : c.maxLocals = 3 := hml
  have K : oKp h0 h0 [] [] := oKp.nil _ _
  refine oWk.cast (g' := (mkF m 0 #[rv xp, rv xo, uu] [])) (by first | rfl | (simp [entryFrame, mkF, argsToLocals, Value.category]; done)) ?_
  refine oWk.st (fun _ kt => zA X hx hby d15_0 rfl rfl rfl kt) ?_
  obtain ⟨T, X, e0, st⟩ := instY X hx hZ hown (oW hw 91 rfl) e0 (Ins.self E_xo) (g := (mkF m 1 #[rv xp, rv xo, uu] [(.ref xo)])) rfl rfl (hb hby d15_1)
  refine oWk.st (fun _ kt => st _ (zH X hx hby d15_4 rfl rfl ((if0 _ _).trans (feq (by decide)).1) (zA X hx hby d15_7 rfl rfl rfl kt))) ?_
  obtain ⟨T, X, e0, st⟩ := castY X hx hZ hown (oW hw 91 rfl) e0 (Ins.self E_xo) (g := (mkF m 8 #[rv xp, rv xo, uu] [(.ref xo)])) rfl rfl (hb hby d15_8)
  refine oWk.st (fun _ kt => st _ (zTn X hx hby d15_11 rfl rfl rfl (l' := #[rv xp, rv xo, rv xo]) rfl (zA X hx hby d15_12 rfl rfl rfl kt))) ?_
  obtain ⟨T, X, e0, st⟩ := getF X hx hZ hown (host := "") (Or.inl (oW hw 59 rfl)) Via.refl e0 F_position_xo (g := (mkF m 13 #[rv xp, rv xo, rv xo] [(.ref xo)])) rfl rfl (hb hby d15_13)
  refine oWk.st (fun _ kt => st _ (zA X hx hby d15_16 rfl rfl rfl kt)) ?_
  obtain ⟨T, X, e0, st⟩ := getF X hx hZ hown (host := "") (Or.inl (oW hw 59 rfl)) Via.refl e0 F_position_xp (g := (mkF m 17 #[rv xp, rv xo, rv xo] [(.ref xp), (.int xj)])) rfl rfl (hb hby d15_17)
  refine oWk.to (mkF m 20 #[rv xp, rv xo, rv xo] [(.int xi), (.int xj)]) (fun _ kt => st _ kt) ?_
  by_cases hc20 : xj = xi
  · refine oWk.to (mkF m 23 #[rv xp, rv xo, rv xo] []) (fun _ kt => zN X hx hby d15_20 rfl rfl (teq hc20).2 kt) ?_
    refine oWk.st (fun _ kt => zA X hx hby d15_23 rfl rfl rfl kt) ?_
    obtain ⟨T, X, e0, st⟩ := getF X hx hZ hown (host := "") (Or.inl (oW hw 61 rfl)) Via.refl e0 F_deleteCount_xo (g := (mkF m 24 #[rv xp, rv xo, rv xo] [(.ref xo)])) rfl rfl (hb hby d15_24)
    refine oWk.st (fun _ kt => st _ (zA X hx hby d15_27 rfl rfl rfl kt)) ?_
    obtain ⟨T, X, e0, st⟩ := getF X hx hZ hown (host := "") (Or.inl (oW hw 61 rfl)) Via.refl e0 F_deleteCount_xp (g := (mkF m 28 #[rv xp, rv xo, rv xo] [(.ref xp), (.int xf)])) rfl rfl (hb hby d15_28)
    refine oWk.to (mkF m 31 #[rv xp, rv xo, rv xo] [(.int xg), (.int xf)]) (fun _ kt => st _ kt) ?_
    by_cases hc31 : xf = xg
    · refine oWk.to (mkF m 34 #[rv xp, rv xo, rv xo] []) (fun _ kt => zN X hx hby d15_31 rfl rfl (teq hc31).2 kt) ?_
      refine oWk.st (fun _ kt => zA X hx hby d15_34 rfl rfl rfl kt) ?_
      obtain ⟨T, X, e0, st⟩ := getF X hx hZ hown (host := "") (Or.inl (oW hw 63 rfl)) Via.refl e0 F_insertion_xo (g := (mkF m 35 #[rv xp, rv xo, rv xo] [(.ref xo)])) rfl rfl (hb hby d15_35)
      refine oWk.st (fun _ kt => st _ (zA X hx hby d15_38 rfl rfl rfl kt)) ?_
      obtain ⟨T, X, e0, st⟩ := getF X hx hZ hown (host := "") (Or.inl (oW hw 63 rfl)) Via.refl e0 F_insertion_xp (g := (mkF m 39 #[rv xp, rv xo, rv xo] [(.ref xp), (.ref xa)])) rfl rfl (hb hby d15_39)
      refine oWk.st (fun _ kt => st _ kt) ?_
      have Oh := K.old O0 all0
      obtain ⟨T, L2, X, e0, K, st⟩ := (cs22 hw).pure X hx hZ hown e0 K (A := [(.ref xa), (.ref xq)]) ⟨rfl, _, _, rfl, E_xa⟩ (rSE_2_0 l Z a0 hw [] xa xb xk xq xe xl xz xc0 xc1 h0 Oh S_Z hz ne_xa_xq E_xa F_coder_xa F_value_xa V_xb E_xq F_coder_xq F_value_xq V_xe) (W := 0) (by decide) hml (Ls := #[rv xp, rv xo, rv xo]) rfl (rest := []) rfl rfl hby d15_42
      refine oWk.to (mkF m 53 #[rv xp, rv xo, rv xo] [(.int 0)]) (fun _ kt => st _ (zF X hx hby d15_45 rfl rfl ((if0 _ _).trans (teq (by decide)).1) (pc' := 52) rfl (zK X hx hby d15_52 rfl kt))) ?_
      exact oRetZ X hx hlk hret (hb hby d15_53) (Or.inl rfl) (by rw [e0]; exact ⟨rfl, rfl, K⟩) (by decide) (by decide)
    · refine oWk.to (mkF m 52 #[rv xp, rv xo, rv xo] []) (fun _ kt => zY X hx hby d15_31 rfl rfl (feq hc31).2 (pc' := 52) rfl kt) ?_
      refine oWk.to (mkF m 53 #[rv xp, rv xo, rv xo] [(.int 0)]) (fun _ kt => zK X hx hby d15_52 rfl kt) ?_
      exact oRetZ X hx hlk hret (hb hby d15_53) (Or.inl rfl) (by rw [e0]; exact ⟨rfl, rfl, K⟩) (by decide) (by decide)
  · refine oWk.to (mkF m 52 #[rv xp, rv xo, rv xo] []) (fun _ kt => zY X hx hby d15_20 rfl rfl (feq hc20).2 (pc' := 52) rfl kt) ?_
    refine oWk.to (mkF m 53 #[rv xp, rv xo, rv xo] [(.int 0)]) (fun _ kt => zK X hx hby d15_52 rfl kt) ?_
    exact oRetZ X hx hlk hret (hb hby d15_53) (Or.inl rfl) (by rw [e0]; exact ⟨rfl, rfl, K⟩) (by decide) (by decide)
theorem rLE_2_1 (l : Launch) (Z : State) (a0 : Array Value) (hw : oHW a0 Z) (ws : List Jvm.Cond) (xb xe : Addr) (xk xl : ClassId) (xc0 xc1 xd0 : Int32) (h0 : Heap) (O0 : Ext Z.heap h0) (V_xb : Arv Z h0 xb xk .byte (2 : Int32) [(ib xc0), (ib xc1)] (.int (0 : Int32))) (V_xe : Arv Z h0 xe xl .byte (1 : Int32) [(ib xd0)] (.int (0 : Int32))) :
    oCon l Z yy24 jdk_43_method_13_code 3 (some .boolean) ws ({ frames := 0, cells := 0, slots := 0, locals := 0 } : Room) #[(.ref xb), (.ref xe)] h0 (oPq (some (.int (0 : Int32))) h0) := by
  refine oCon.of (plainFor_of_name pn_8) ?_
  intro p e s m below meth c T X hx hby hml hown hnm hret hlk hZ e0
  have hml : c.maxLocals = 3 := hml
  have K : oKp h0 h0 [] [] := oKp.nil _ _
  refine oWk.cast (g' := (mkF m 0 #[rv xb, rv xe, uu] [])) (by first | rfl | (simp [entryFrame, mkF, argsToLocals, Value.category]; done)) ?_
  refine oWk.to (mkF m 35 #[rv xb, rv xe, uu] [(.int 0)]) (fun _ kt => zA X hx hby d26_0 rfl rfl rfl (oAl X hx hZ e0 V_xb hby d26_1 rfl rfl (zA X hx hby d26_2 rfl rfl rfl (oAl X hx hZ e0 V_xe hby d26_3 rfl rfl (zY X hx hby d26_4 rfl rfl (feq (by decide)).2 (pc' := 34) rfl (zK X hx hby d26_34 rfl kt)))))) ?_
  exact oRetZ X hx hlk hret (hb hby d26_35) (Or.inl rfl) (by rw [e0]; exact ⟨rfl, rfl, K⟩) (by decide) (by decide)
theorem rSE_2_1 (l : Launch) (Z : State) (a0 : Array Value) (hw : oHW a0 Z) (ws : List Jvm.Cond) (xa xb : Addr) (xk : ClassId) (xq xe : Addr) (xl : ClassId) (xz xc0 xc1 xd0 : Int32) (h0 : Heap) (O0 : Ext Z.heap h0) (S_Z : Sta Z Z.heap Y0 Y2 "Z" (.int xz)) (hz : ¬ xz = (0 : Int32)) (ne_xa_xq : xa ≠ xq) (E_xa : Exa Z h0 xa Y0) (F_coder_xa : Fld Z h0 xa Y0 "coder" "B" (.int (0 : Int32))) (F_value_xa : Fld Z h0 xa Y0 "value" "[B" (.ref xb)) (V_xb : Arv Z h0 xb xk .byte (2 : Int32) [(ib xc0), (ib xc1)] (.int (0 : Int32))) (E_xq : Exa Z h0 xq Y0) (F_coder_xq : Fld Z h0 xq Y0 "coder" "B" (.int (0 : Int32))) (F_value_xq : Fld Z h0 xq Y0 "value" "[B" (.ref xe)) (V_xe : Arv Z h0 xe xl .byte (1 : Int32) [(ib xd0)] (.int (0 : Int32))) :
    oCon l Z yy23 jdk_42_method_66_code 3 (some .boolean) ws ({ frames := 1, cells := 0, slots := 0, locals := 14 } : Room) #[(.ref xa), (.ref xq)] h0 (oPq (some (.int (0 : Int32))) h0) := by
  refine oCon.of (plainFor_of_name pn_0) ?_
  intro p e s m below meth c T X hx hby hml hown hnm hret hlk hZ e0
  have hml : c.maxLocals = 3 := hml
  have K : oKp h0 h0 [] [] := oKp.nil _ _
  refine oWk.cast (g' := (mkF m 0 #[rv xa, rv xq, uu] [])) (by first | rfl | (simp [entryFrame, mkF, argsToLocals, Value.category]; done)) ?_
  refine oWk.st (fun _ kt => zA X hx hby d25_0 rfl rfl rfl (zA X hx hby d25_1 rfl rfl rfl kt)) ?_
  refine oWk.to (mkF m 7 #[rv xa, rv xq, uu] []) (fun _ kt => Jvm.RoadKit.acmp (g := (mkF m 2 #[rv xa, rv xq, uu] [(.ref xq), (.ref xa)])) X hx rfl rfl rfl (pc0 := 2) (pc' := 7) (same := false) rfl (hb hby d25_2) rfl (decide_eq_false fun q => ne_xa_xq (Value.ref.inj q)) (by decide) (by decide) kt) ?_
  refine oWk.st (fun _ kt => zA X hx hby d25_7 rfl rfl rfl kt) ?_
  obtain ⟨T, X, e0, st⟩ := instY X hx hZ hown (oW hw 132 rfl) e0 (Ins.self E_xq) (g := (mkF m 8 #[rv xa, rv xq, uu] [(.ref xq)])) rfl rfl (hb hby d25_8)
  refine oWk.st (fun _ kt => st _ (zH X hx hby d25_11 rfl rfl ((if0 _ _).trans (feq (by decide)).1) (zA X hx hby d25_14 rfl rfl rfl kt))) ?_
  obtain ⟨T, X, e0, st⟩ := castY X hx hZ hown (oW hw 132 rfl) e0 (Ins.self E_xq) (g := (mkF m 15 #[rv xa, rv xq, uu] [(.ref xq)])) rfl rfl (hb hby d25_15)
  refine oWk.st (fun _ kt => st _ (zTn X hx hby d25_18 rfl rfl rfl (l' := #[rv xa, rv xq, rv xq]) rfl kt)) ?_
  have Oh := K.old O0 all0
  obtain ⟨T, X, e0, st⟩ := getS2 X hx hZ hown (host := "") (Or.inl (oW hw 58 rfl)) Via.refl e0 (S_Z.ext Oh) (g := (mkF m 19 #[rv xa, rv xq, rv xq] [])) rfl (hb hby d25_19)
  refine oWk.st (fun _ kt => st _ (zH X hx hby d25_22 rfl rfl ((if0 _ _).trans (feq hz).1) (zA X hx hby d25_25 rfl rfl rfl kt))) ?_
  obtain ⟨T, X, e0, st⟩ := getF X hx hZ hown (host := "") (Or.inl (oW hw 27 rfl)) Via.refl e0 F_coder_xa (g := (mkF m 26 #[rv xa, rv xq, rv xq] [(.ref xa)])) rfl rfl (hb hby d25_26)
  refine oWk.st (fun _ kt => st _ (zA X hx hby d25_29 rfl rfl rfl kt)) ?_
  obtain ⟨T, X, e0, st⟩ := getF X hx hZ hown (host := "") (Or.inl (oW hw 27 rfl)) Via.refl e0 F_coder_xq (g := (mkF m 30 #[rv xa, rv xq, rv xq] [(.ref xq), (.int 0)])) rfl rfl (hb hby d25_30)
  refine oWk.st (fun _ kt => st _ (zN X hx hby d25_33 rfl rfl (teq (by decide)).2 (zA X hx hby d25_36 rfl rfl rfl kt))) ?_
  obtain ⟨T, X, e0, st⟩ := getF X hx hZ hown (host := "") (Or.inl (oW hw 26 rfl)) Via.refl e0 F_value_xa (g := (mkF m 37 #[rv xa, rv xq, rv xq] [(.ref xa)])) rfl rfl (hb hby d25_37)
  refine oWk.st (fun _ kt => st _ (zA X hx hby d25_40 rfl rfl rfl kt)) ?_
  obtain ⟨T, X, e0, st⟩ := getF X hx hZ hown (host := "") (Or.inl (oW hw 26 rfl)) Via.refl e0 F_value_xq (g := (mkF m 41 #[rv xa, rv xq, rv xq] [(.ref xq), (.ref xb)])) rfl rfl (hb hby d25_41)
  refine oWk.st (fun _ kt => st _ kt) ?_
  obtain ⟨T, L2, X, e0, K, st⟩ := (cs23 hw).pure X hx hZ hown e0 K (A := [(.ref xb), (.ref xe)]) rfl (rLE_2_1 l Z a0 hw [] xb xe xk xl xc0 xc1 xd0 h0 Oh V_xb V_xe) (W := 0) (by decide) hml (Ls := #[rv xa, rv xq, rv xq]) rfl (rest := []) rfl rfl hby d25_44
  refine oWk.to (mkF m 55 #[rv xa, rv xq, rv xq] [(.int 0)]) (fun _ kt => st _ (zF X hx hby d25_47 rfl rfl ((if0 _ _).trans (teq (by decide)).1) (pc' := 54) rfl (zK X hx hby d25_54 rfl kt))) ?_
  exact oRetZ X hx hlk hret (hb hby d25_55) (Or.inl rfl) (by rw [e0]; exact ⟨rfl, rfl, K⟩) (by decide) (by decide)
theorem rED_2_1 (l : Launch) (Z : State) (a0 : Array Value) (hw : oHW a0 Z) (ws : List Jvm.Cond) (xp : Addr) (xi xg : Int32) (xo : Addr) (xj xf : Int32) (xa xb : Addr) (xk : ClassId) (xq xe : Addr) (xl : ClassId) (xz xc0 xc1 xd0 : Int32) (h0 : Heap) (O0 : Ext Z.heap h0) (S_Z : Sta Z Z.heap Y0 Y2 "Z" (.int xz)) (hz : ¬ xz = (0 : Int32)) (E_xp : Exa Z h0 xp Y1) (F_position_xp : Fld Z h0 xp Y1 "position" "I" (.int xi)) (F_deleteCount_xp : Fld Z h0 xp Y1 "deleteCount" "I" (.int xg)) (F_insertion_xp : Fld Z h0 xp Y1 "insertion" Y3 (.ref xq)) (E_xo : Exa Z h0 xo Y1) (F_position_xo : Fld Z h0 xo Y1 "position" "I" (.int xj)) (F_deleteCount_xo : Fld Z h0 xo Y1 "deleteCount" "I" (.int xf)) (F_insertion_xo : Fld Z h0 xo Y1 "insertion" Y3 (.ref xa)) (ne_xa_xq : xa ≠ xq) (E_xa : Exa Z h0 xa Y0) (F_coder_xa : Fld Z h0 xa Y0 "coder" "B" (.int (0 : Int32))) (F_value_xa : Fld Z h0 xa Y0 "value" "[B" (.ref xb)) (V_xb : Arv Z h0 xb xk .byte (2 : Int32) [(ib xc0), (ib xc1)] (.int (0 : Int32))) (E_xq : Exa Z h0 xq Y0) (F_coder_xq : Fld Z h0 xq Y0 "coder" "B" (.int (0 : Int32))) (F_value_xq : Fld Z h0 xq Y0 "value" "[B" (.ref xe)) (V_xe : Arv Z h0 xe xl .byte (1 : Int32) [(ib xd0)] (.int (0 : Int32))) :
    oCon l Z yy22 prog_10_method_6_code 3 (some .boolean) ws ({ frames := 2, cells := 0, slots := 0, locals := 28 } : Room) #[(.ref xp), (.ref xo)] h0 (oPq (some (.int (0 : Int32))) h0) := by
  refine oCon.of (plainFor_of_name pn_7) ?_
  intro p e s m below meth c T X hx hby hml hown hnm hret hlk hZ e0
  have hml : c.maxLocals = 3 := hml
  have K : oKp h0 h0 [] [] := oKp.nil _ _
  refine oWk.cast (g' := (mkF m 0 #[rv xp, rv xo, uu] [])) (by first | rfl | (simp [entryFrame, mkF, argsToLocals, Value.category]; done)) ?_
  refine oWk.st (fun _ kt => zA X hx hby d15_0 rfl rfl rfl kt) ?_
  obtain ⟨T, X, e0, st⟩ := instY X hx hZ hown (oW hw 91 rfl) e0 (Ins.self E_xo) (g := (mkF m 1 #[rv xp, rv xo, uu] [(.ref xo)])) rfl rfl (hb hby d15_1)
  refine oWk.st (fun _ kt => st _ (zH X hx hby d15_4 rfl rfl ((if0 _ _).trans (feq (by decide)).1) (zA X hx hby d15_7 rfl rfl rfl kt))) ?_
  obtain ⟨T, X, e0, st⟩ := castY X hx hZ hown (oW hw 91 rfl) e0 (Ins.self E_xo) (g := (mkF m 8 #[rv xp, rv xo, uu] [(.ref xo)])) rfl rfl (hb hby d15_8)
  refine oWk.st (fun _ kt => st _ (zTn X hx hby d15_11 rfl rfl rfl (l' := #[rv xp, rv xo, rv xo]) rfl (zA X hx hby d15_12 rfl rfl rfl kt))) ?_
  obtain ⟨T, X, e0, st⟩ := getF X hx hZ hown (host := "") (Or.inl (oW hw 59 rfl)) Via.refl e0 F_position_xo (g := (mkF m 13 #[rv xp, rv xo, rv xo] [(.ref xo)])) rfl rfl (hb hby d15_13)
  refine oWk.st (fun _ kt => st _ (zA X hx hby d15_16 rfl rfl rfl kt)) ?_
  obtain ⟨T, X, e0, st⟩ := getF X hx hZ hown (host := "") (Or.inl (oW hw 59 rfl)) Via.refl e0 F_position_xp (g := (mkF m 17 #[rv xp, rv xo, rv xo] [(.ref xp), (.int xj)])) rfl rfl (hb hby d15_17)
  refine oWk.to (mkF m 20 #[rv xp, rv xo, rv xo] [(.int xi), (.int xj)]) (fun _ kt => st _ kt) ?_
  by_cases hc20 : xj = xi
  · refine oWk.to (mkF m 23 #[rv xp, rv xo, rv xo] []) (fun _ kt => zN X hx hby d15_20 rfl rfl (teq hc20).2 kt) ?_
    refine oWk.st (fun _ kt => zA X hx hby d15_23 rfl rfl rfl kt) ?_
    obtain ⟨T, X, e0, st⟩ := getF X hx hZ hown (host := "") (Or.inl (oW hw 61 rfl)) Via.refl e0 F_deleteCount_xo (g := (mkF m 24 #[rv xp, rv xo, rv xo] [(.ref xo)])) rfl rfl (hb hby d15_24)
    refine oWk.st (fun _ kt => st _ (zA X hx hby d15_27 rfl rfl rfl kt)) ?_
    obtain ⟨T, X, e0, st⟩ := getF X hx hZ hown (host := "") (Or.inl (oW hw 61 rfl)) Via.refl e0 F_deleteCount_xp (g := (mkF m 28 #[rv xp, rv xo, rv xo] [(.ref xp), (.int xf)])) rfl rfl (hb hby d15_28)
    refine oWk.to (mkF m 31 #[rv xp, rv xo, rv xo] [(.int xg), (.int xf)]) (fun _ kt => st _ kt) ?_
    by_cases hc31 : xf = xg
    · refine oWk.to (mkF m 34 #[rv xp, rv xo, rv xo] []) (fun _ kt => zN X hx hby d15_31 rfl rfl (teq hc31).2 kt) ?_
      refine oWk.st (fun _ kt => zA X hx hby d15_34 rfl rfl rfl kt) ?_
      obtain ⟨T, X, e0, st⟩ := getF X hx hZ hown (host := "") (Or.inl (oW hw 63 rfl)) Via.refl e0 F_insertion_xo (g := (mkF m 35 #[rv xp, rv xo, rv xo] [(.ref xo)])) rfl rfl (hb hby d15_35)
      refine oWk.st (fun _ kt => st _ (zA X hx hby d15_38 rfl rfl rfl kt)) ?_
      obtain ⟨T, X, e0, st⟩ := getF X hx hZ hown (host := "") (Or.inl (oW hw 63 rfl)) Via.refl e0 F_insertion_xp (g := (mkF m 39 #[rv xp, rv xo, rv xo] [(.ref xp), (.ref xa)])) rfl rfl (hb hby d15_39)
      refine oWk.st (fun _ kt => st _ kt) ?_
      have Oh := K.old O0 all0
      obtain ⟨T, L2, X, e0, K, st⟩ := (cs22 hw).pure X hx hZ hown e0 K (A := [(.ref xa), (.ref xq)]) ⟨rfl, _, _, rfl, E_xa⟩ (rSE_2_1 l Z a0 hw [] xa xb xk xq xe xl xz xc0 xc1 xd0 h0 Oh S_Z hz ne_xa_xq E_xa F_coder_xa F_value_xa V_xb E_xq F_coder_xq F_value_xq V_xe) (W := 0) (by decide) hml (Ls := #[rv xp, rv xo, rv xo]) rfl (rest := []) rfl rfl hby d15_42
      refine oWk.to (mkF m 53 #[rv xp, rv xo, rv xo] [(.int 0)]) (fun _ kt => st _ (zF X hx hby d15_45 rfl rfl ((if0 _ _).trans (teq (by decide)).1) (pc' := 52) rfl (zK X hx hby d15_52 rfl kt))) ?_
      exact oRetZ X hx hlk hret (hb hby d15_53) (Or.inl rfl) (by rw [e0]; exact ⟨rfl, rfl, K⟩) (by decide) (by decide)
    · refine oWk.to (mkF m 52 #[rv xp, rv xo, rv xo] []) (fun _ kt => zY X hx hby d15_31 rfl rfl (feq hc31).2 (pc' := 52) rfl kt) ?_
      refine oWk.to (mkF m 53 #[rv xp, rv xo, rv xo] [(.int 0)]) (fun _ kt => zK X hx hby d15_52 rfl kt) ?_
      exact oRetZ X hx hlk hret (hb hby d15_53) (Or.inl rfl) (by rw [e0]; exact ⟨rfl, rfl, K⟩) (by decide) (by decide)
  · refine oWk.to (mkF m 52 #[rv xp, rv xo, rv xo] []) (fun _ kt => zY X hx hby d15_20 rfl rfl (feq hc20).2 (pc' := 52) rfl kt) ?_
    refine oWk.to (mkF m 53 #[rv xp, rv xo, rv xo] [(.int 0)]) (fun _ kt => zK X hx hby d15_52 rfl kt) ?_
    exact oRetZ X hx hlk hret (hb hby d15_53) (Or.inl rfl) (by rw [e0]; exact ⟨rfl, rfl, K⟩) (by decide) (by decide)
theorem rLE_2_2 (l : Launch) (Z : State) (a0 : Array Value) (hw : oHW a0 Z) (ws : List Jvm.Cond) (xb xe : Addr) (xk xl : ClassId) (xc0 xc1 xd0 xd1 : Int32) (h0 : Heap) (O0 : Ext Z.heap h0) (V_xb : Arv Z h0 xb xk .byte (2 : Int32) [(ib xc0), (ib xc1)] (.int (0 : Int32))) (V_xe : Arv Z h0 xe xl .byte (2 : Int32) [(ib xd0), (ib xd1)] (.int (0 : Int32))) :
    oCon l Z yy24 jdk_43_method_13_code 3 (some .boolean) ws ({ frames := 0, cells := 0, slots := 0, locals := 0 } : Room) #[(.ref xb), (.ref xe)] h0 (oPq (some (.int (oBi ((xc0.toInt8.toInt32) = (xd0.toInt8.toInt32) ∧ (xc1.toInt8.toInt32) = (xd1.toInt8.toInt32))))) h0) := by
  refine oCon.of (plainFor_of_name pn_8) ?_
  intro p e s m below meth c T X hx hby hml hown hnm hret hlk hZ e0
  have hml : c.maxLocals = 3 := hml
  have K : oKp h0 h0 [] [] := oKp.nil _ _
  refine oWk.cast (g' := (mkF m 0 #[rv xb, rv xe, uu] [])) (by first | rfl | (simp [entryFrame, mkF, argsToLocals, Value.category]; done)) ?_
  refine oWk.to (mkF m 9 #[rv xb, rv xe, iv 0] []) (fun _ kt => zA X hx hby d26_0 rfl rfl rfl (oAl X hx hZ e0 V_xb hby d26_1 rfl rfl (zA X hx hby d26_2 rfl rfl rfl (oAl X hx hZ e0 V_xe hby d26_3 rfl rfl (zN X hx hby d26_4 rfl rfl (teq (by decide)).2 (zK X hx hby d26_7 rfl (zSn X hx hby d26_8 rfl rfl (l' := #[rv xb, rv xe, iv 0]) rfl kt))))))) ?_
  refine oWk.to (mkF m 18 #[rv xb, rv xe, iv 0] [(ib xc0)]) (fun _ kt => zI X hx hby d26_9 rfl rfl (zA X hx hby d26_10 rfl rfl rfl (oAl X hx hZ e0 V_xb hby d26_11 rfl rfl (zN X hx hby d26_12 rfl rfl (tlt (by decide)).2.1 (zA X hx hby d26_15 rfl rfl rfl (zI X hx hby d26_16 rfl rfl (oLdB X hx hZ e0 V_xb (0 : Int32) (ib xc0) ⟨by decide, by decide⟩ rfl hby d26_17 rfl rfl kt))))))) ?_
  refine oWk.to (mkF m 21 #[rv xb, rv xe, iv 0] [(ib xd0), (ib xc0)]) (fun _ kt => zA X hx hby d26_18 rfl rfl rfl (zI X hx hby d26_19 rfl rfl (oLdB X hx hZ e0 V_xe (0 : Int32) (ib xd0) ⟨by decide, by decide⟩ rfl hby d26_20 rfl rfl kt))) ?_
  by_cases hq0 : (xc0.toInt8.toInt32) = (xd0.toInt8.toInt32)
  · refine oWk.to (mkF m 26 #[rv xb, rv xe, iv 0] []) (fun _ kt => zY X hx hby d26_21 rfl rfl (teq hq0).1 (pc' := 26) rfl kt) ?_
    refine oWk.to (mkF m 16 #[rv xb, rv xe, iv 1] [(.ref xb)]) (fun _ kt => zC X hx hby d26_26 rfl rfl (l' := #[rv xb, rv xe, iv ((0 : Int32) + (1 : Int32))]) rfl (zG X hx hby d26_29 rfl (pc' := 9) rfl (zI X hx hby d26_9 rfl rfl (zA X hx hby d26_10 rfl rfl rfl (oAl X hx hZ e0 V_xb hby d26_11 rfl rfl (zN X hx hby d26_12 rfl rfl (tlt (by decide)).2.1 (zA X hx hby d26_15 rfl rfl rfl kt))))))) ?_
    refine oWk.to (mkF m 21 #[rv xb, rv xe, iv 1] [(ib xd1), (ib xc1)]) (fun _ kt => zI X hx hby d26_16 rfl rfl (oLdB X hx hZ e0 V_xb (1 : Int32) (ib xc1) ⟨by decide, by decide⟩ rfl hby d26_17 rfl rfl (zA X hx hby d26_18 rfl rfl rfl (zI X hx hby d26_19 rfl rfl (oLdB X hx hZ e0 V_xe (1 : Int32) (ib xd1) ⟨by decide, by decide⟩ rfl hby d26_20 rfl rfl kt))))) ?_
    by_cases hq1 : (xc1.toInt8.toInt32) = (xd1.toInt8.toInt32)
    · refine oWk.to (mkF m 26 #[rv xb, rv xe, iv 1] []) (fun _ kt => zY X hx hby d26_21 rfl rfl (teq hq1).1 (pc' := 26) rfl kt) ?_
      refine oWk.to (mkF m 33 #[rv xb, rv xe, iv 2] [(.int 1)]) (fun _ kt => zC X hx hby d26_26 rfl rfl (l' := #[rv xb, rv xe, iv ((1 : Int32) + (1 : Int32))]) rfl (zG X hx hby d26_29 rfl (pc' := 9) rfl (zI X hx hby d26_9 rfl rfl (zA X hx hby d26_10 rfl rfl rfl (oAl X hx hZ e0 V_xb hby d26_11 rfl rfl (zY X hx hby d26_12 rfl rfl (flt (by decide)).2.1 (pc' := 32) rfl (zK X hx hby d26_32 rfl kt))))))) ?_
      exact oRetZ X hx hlk hret (hb hby d26_33) (Or.inr rfl) (by rw [e0]; exact ⟨(by rw [oBi_t ⟨hq0, hq1⟩]), rfl, K⟩) (by decide) (by decide)
    · refine oWk.to (mkF m 24 #[rv xb, rv xe, iv 1] []) (fun _ kt => zN X hx hby d26_21 rfl rfl (feq hq1).1 kt) ?_
      refine oWk.to (mkF m 25 #[rv xb, rv xe, iv 1] [(.int 0)]) (fun _ kt => zK X hx hby d26_24 rfl kt) ?_
      exact oRetZ X hx hlk hret (hb hby d26_25) (Or.inl rfl) (by rw [e0]; exact ⟨(by rw [oBi_f (fun q => hq1 q.2)]), rfl, K⟩) (by decide) (by decide)
  · refine oWk.to (mkF m 24 #[rv xb, rv xe, iv 0] []) (fun _ kt => zN X hx hby d26_21 rfl rfl (feq hq0).1 kt) ?_
    refine oWk.to (mkF m 25 #[rv xb, rv xe, iv 0] [(.int 0)]) (fun _ kt => zK X hx hby d26_24 rfl kt) ?_
    exact oRetZ X hx hlk hret (hb hby d26_25) (Or.inl rfl) (by rw [e0]; exact ⟨(by rw [oBi_f (fun q => hq0 q.1)]), rfl, K⟩) (by decide) (by decide)
theorem rSE_2_2 (l : Launch) (Z : State) (a0 : Array Value) (hw : oHW a0 Z) (ws : List Jvm.Cond) (xa xb : Addr) (xk : ClassId) (xq xe : Addr) (xl : ClassId) (xz xc0 xc1 xd0 xd1 : Int32) (h0 : Heap) (O0 : Ext Z.heap h0) (S_Z : Sta Z Z.heap Y0 Y2 "Z" (.int xz)) (hz : ¬ xz = (0 : Int32)) (ne_xa_xq : xa ≠ xq) (E_xa : Exa Z h0 xa Y0) (F_coder_xa : Fld Z h0 xa Y0 "coder" "B" (.int (0 : Int32))) (F_value_xa : Fld Z h0 xa Y0 "value" "[B" (.ref xb)) (V_xb : Arv Z h0 xb xk .byte (2 : Int32) [(ib xc0), (ib xc1)] (.int (0 : Int32))) (E_xq : Exa Z h0 xq Y0) (F_coder_xq : Fld Z h0 xq Y0 "coder" "B" (.int (0 : Int32))) (F_value_xq : Fld Z h0 xq Y0 "value" "[B" (.ref xe)) (V_xe : Arv Z h0 xe xl .byte (2 : Int32) [(ib xd0), (ib xd1)] (.int (0 : Int32))) :
    oCon l Z yy23 jdk_42_method_66_code 3 (some .boolean) ws ({ frames := 1, cells := 0, slots := 0, locals := 14 } : Room) #[(.ref xa), (.ref xq)] h0 (oPq (some (.int (oBi ((xc0.toInt8.toInt32) = (xd0.toInt8.toInt32) ∧ (xc1.toInt8.toInt32) = (xd1.toInt8.toInt32))))) h0) := by
  refine oCon.of (plainFor_of_name pn_0) ?_
  intro p e s m below meth c T X hx hby hml hown hnm hret hlk hZ e0
  have hml : c.maxLocals = 3 := hml
  have K : oKp h0 h0 [] [] := oKp.nil _ _
  refine oWk.cast (g' := (mkF m 0 #[rv xa, rv xq, uu] [])) (by first | rfl | (simp [entryFrame, mkF, argsToLocals, Value.category]; done)) ?_
  refine oWk.st (fun _ kt => zA X hx hby d25_0 rfl rfl rfl (zA X hx hby d25_1 rfl rfl rfl kt)) ?_
  refine oWk.to (mkF m 7 #[rv xa, rv xq, uu] []) (fun _ kt => Jvm.RoadKit.acmp (g := (mkF m 2 #[rv xa, rv xq, uu] [(.ref xq), (.ref xa)])) X hx rfl rfl rfl (pc0 := 2) (pc' := 7) (same := false) rfl (hb hby d25_2) rfl (decide_eq_false fun q => ne_xa_xq (Value.ref.inj q)) (by decide) (by decide) kt) ?_
  refine oWk.st (fun _ kt => zA X hx hby d25_7 rfl rfl rfl kt) ?_
  obtain ⟨T, X, e0, st⟩ := instY X hx hZ hown (oW hw 132 rfl) e0 (Ins.self E_xq) (g := (mkF m 8 #[rv xa, rv xq, uu] [(.ref xq)])) rfl rfl (hb hby d25_8)
  refine oWk.st (fun _ kt => st _ (zH X hx hby d25_11 rfl rfl ((if0 _ _).trans (feq (by decide)).1) (zA X hx hby d25_14 rfl rfl rfl kt))) ?_
  obtain ⟨T, X, e0, st⟩ := castY X hx hZ hown (oW hw 132 rfl) e0 (Ins.self E_xq) (g := (mkF m 15 #[rv xa, rv xq, uu] [(.ref xq)])) rfl rfl (hb hby d25_15)
  refine oWk.st (fun _ kt => st _ (zTn X hx hby d25_18 rfl rfl rfl (l' := #[rv xa, rv xq, rv xq]) rfl kt)) ?_
  have Oh := K.old O0 all0
  obtain ⟨T, X, e0, st⟩ := getS2 X hx hZ hown (host := "") (Or.inl (oW hw 58 rfl)) Via.refl e0 (S_Z.ext Oh) (g := (mkF m 19 #[rv xa, rv xq, rv xq] [])) rfl (hb hby d25_19)
  refine oWk.st (fun _ kt => st _ (zH X hx hby d25_22 rfl rfl ((if0 _ _).trans (feq hz).1) (zA X hx hby d25_25 rfl rfl rfl kt))) ?_
  obtain ⟨T, X, e0, st⟩ := getF X hx hZ hown (host := "") (Or.inl (oW hw 27 rfl)) Via.refl e0 F_coder_xa (g := (mkF m 26 #[rv xa, rv xq, rv xq] [(.ref xa)])) rfl rfl (hb hby d25_26)
  refine oWk.st (fun _ kt => st _ (zA X hx hby d25_29 rfl rfl rfl kt)) ?_
  obtain ⟨T, X, e0, st⟩ := getF X hx hZ hown (host := "") (Or.inl (oW hw 27 rfl)) Via.refl e0 F_coder_xq (g := (mkF m 30 #[rv xa, rv xq, rv xq] [(.ref xq), (.int 0)])) rfl rfl (hb hby d25_30)
  refine oWk.st (fun _ kt => st _ (zN X hx hby d25_33 rfl rfl (teq (by decide)).2 (zA X hx hby d25_36 rfl rfl rfl kt))) ?_
  obtain ⟨T, X, e0, st⟩ := getF X hx hZ hown (host := "") (Or.inl (oW hw 26 rfl)) Via.refl e0 F_value_xa (g := (mkF m 37 #[rv xa, rv xq, rv xq] [(.ref xa)])) rfl rfl (hb hby d25_37)
  refine oWk.st (fun _ kt => st _ (zA X hx hby d25_40 rfl rfl rfl kt)) ?_
  obtain ⟨T, X, e0, st⟩ := getF X hx hZ hown (host := "") (Or.inl (oW hw 26 rfl)) Via.refl e0 F_value_xq (g := (mkF m 41 #[rv xa, rv xq, rv xq] [(.ref xq), (.ref xb)])) rfl rfl (hb hby d25_41)
  refine oWk.st (fun _ kt => st _ kt) ?_
  obtain ⟨T, L2, X, e0, K, st⟩ := (cs23 hw).pure X hx hZ hown e0 K (A := [(.ref xb), (.ref xe)]) rfl (rLE_2_2 l Z a0 hw [] xb xe xk xl xc0 xc1 xd0 xd1 h0 Oh V_xb V_xe) (W := 0) (by decide) hml (Ls := #[rv xa, rv xq, rv xq]) rfl (rest := []) rfl rfl hby d25_44
  refine oWk.to (mkF m 47 #[rv xa, rv xq, rv xq] [(.int (oBi ((xc0.toInt8.toInt32) = (xd0.toInt8.toInt32) ∧ (xc1.toInt8.toInt32) = (xd1.toInt8.toInt32))))]) (fun _ kt => st _ kt) ?_
  by_cases hc47 : (xc0.toInt8.toInt32) = (xd0.toInt8.toInt32) ∧ (xc1.toInt8.toInt32) = (xd1.toInt8.toInt32)
  · refine oWk.to (mkF m 50 #[rv xa, rv xq, rv xq] []) (fun _ kt => zH X hx hby d25_47 rfl rfl ((if0 _ _).trans (feq (oBi_ne hc47)).1) kt) ?_
    refine oWk.to (mkF m 55 #[rv xa, rv xq, rv xq] [(.int 1)]) (fun _ kt => zK X hx hby d25_50 rfl (zG X hx hby d25_51 rfl (pc' := 55) rfl kt)) ?_
    exact oRetZ X hx hlk hret (hb hby d25_55) (Or.inr rfl) (by rw [e0]; exact ⟨(by rw [oBi_t hc47]), rfl, K⟩) (by decide) (by decide)
  · refine oWk.to (mkF m 54 #[rv xa, rv xq, rv xq] []) (fun _ kt => zF X hx hby d25_47 rfl rfl ((if0 _ _).trans (teq (oBi_f hc47)).1) (pc' := 54) rfl kt) ?_
    refine oWk.to (mkF m 55 #[rv xa, rv xq, rv xq] [(.int 0)]) (fun _ kt => zK X hx hby d25_54 rfl kt) ?_
    exact oRetZ X hx hlk hret (hb hby d25_55) (Or.inl rfl) (by rw [e0]; exact ⟨(by rw [oBi_f (fun q => hc47 q)]), rfl, K⟩) (by decide) (by decide)
theorem rED_2_2 (l : Launch) (Z : State) (a0 : Array Value) (hw : oHW a0 Z) (ws : List Jvm.Cond) (xp : Addr) (xi xg : Int32) (xo : Addr) (xj xf : Int32) (xa xb : Addr) (xk : ClassId) (xq xe : Addr) (xl : ClassId) (xz xc0 xc1 xd0 xd1 : Int32) (h0 : Heap) (O0 : Ext Z.heap h0) (S_Z : Sta Z Z.heap Y0 Y2 "Z" (.int xz)) (hz : ¬ xz = (0 : Int32)) (E_xp : Exa Z h0 xp Y1) (F_position_xp : Fld Z h0 xp Y1 "position" "I" (.int xi)) (F_deleteCount_xp : Fld Z h0 xp Y1 "deleteCount" "I" (.int xg)) (F_insertion_xp : Fld Z h0 xp Y1 "insertion" Y3 (.ref xq)) (E_xo : Exa Z h0 xo Y1) (F_position_xo : Fld Z h0 xo Y1 "position" "I" (.int xj)) (F_deleteCount_xo : Fld Z h0 xo Y1 "deleteCount" "I" (.int xf)) (F_insertion_xo : Fld Z h0 xo Y1 "insertion" Y3 (.ref xa)) (ne_xa_xq : xa ≠ xq) (E_xa : Exa Z h0 xa Y0) (F_coder_xa : Fld Z h0 xa Y0 "coder" "B" (.int (0 : Int32))) (F_value_xa : Fld Z h0 xa Y0 "value" "[B" (.ref xb)) (V_xb : Arv Z h0 xb xk .byte (2 : Int32) [(ib xc0), (ib xc1)] (.int (0 : Int32))) (E_xq : Exa Z h0 xq Y0) (F_coder_xq : Fld Z h0 xq Y0 "coder" "B" (.int (0 : Int32))) (F_value_xq : Fld Z h0 xq Y0 "value" "[B" (.ref xe)) (V_xe : Arv Z h0 xe xl .byte (2 : Int32) [(ib xd0), (ib xd1)] (.int (0 : Int32))) :
    oCon l Z yy22 prog_10_method_6_code 3 (some .boolean) ws ({ frames := 2, cells := 0, slots := 0, locals := 28 } : Room) #[(.ref xp), (.ref xo)] h0 (oPq (some (.int (oBi (xj = xi ∧ xf = xg ∧ (xc0.toInt8.toInt32) = (xd0.toInt8.toInt32) ∧ (xc1.toInt8.toInt32) = (xd1.toInt8.toInt32))))) h0) := by
  refine oCon.of (plainFor_of_name pn_7) ?_
  intro p e s m below meth c T X hx hby hml hown hnm hret hlk hZ e0
  have hml : c.maxLocals = 3 := hml
  have K : oKp h0 h0 [] [] := oKp.nil _ _
  refine oWk.cast (g' := (mkF m 0 #[rv xp, rv xo, uu] [])) (by first | rfl | (simp [entryFrame, mkF, argsToLocals, Value.category]; done)) ?_
  refine oWk.st (fun _ kt => zA X hx hby d15_0 rfl rfl rfl kt) ?_
  obtain ⟨T, X, e0, st⟩ := instY X hx hZ hown (oW hw 91 rfl) e0 (Ins.self E_xo) (g := (mkF m 1 #[rv xp, rv xo, uu] [(.ref xo)])) rfl rfl (hb hby d15_1)
  refine oWk.st (fun _ kt => st _ (zH X hx hby d15_4 rfl rfl ((if0 _ _).trans (feq (by decide)).1) (zA X hx hby d15_7 rfl rfl rfl kt))) ?_
  obtain ⟨T, X, e0, st⟩ := castY X hx hZ hown (oW hw 91 rfl) e0 (Ins.self E_xo) (g := (mkF m 8 #[rv xp, rv xo, uu] [(.ref xo)])) rfl rfl (hb hby d15_8)
  refine oWk.st (fun _ kt => st _ (zTn X hx hby d15_11 rfl rfl rfl (l' := #[rv xp, rv xo, rv xo]) rfl (zA X hx hby d15_12 rfl rfl rfl kt))) ?_
  obtain ⟨T, X, e0, st⟩ := getF X hx hZ hown (host := "") (Or.inl (oW hw 59 rfl)) Via.refl e0 F_position_xo (g := (mkF m 13 #[rv xp, rv xo, rv xo] [(.ref xo)])) rfl rfl (hb hby d15_13)
  refine oWk.st (fun _ kt => st _ (zA X hx hby d15_16 rfl rfl rfl kt)) ?_
  obtain ⟨T, X, e0, st⟩ := getF X hx hZ hown (host := "") (Or.inl (oW hw 59 rfl)) Via.refl e0 F_position_xp (g := (mkF m 17 #[rv xp, rv xo, rv xo] [(.ref xp), (.int xj)])) rfl rfl (hb hby d15_17)
  refine oWk.to (mkF m 20 #[rv xp, rv xo, rv xo] [(.int xi), (.int xj)]) (fun _ kt => st _ kt) ?_
  by_cases hc20 : xj = xi
  · refine oWk.to (mkF m 23 #[rv xp, rv xo, rv xo] []) (fun _ kt => zN X hx hby d15_20 rfl rfl (teq hc20).2 kt) ?_
    refine oWk.st (fun _ kt => zA X hx hby d15_23 rfl rfl rfl kt) ?_
    obtain ⟨T, X, e0, st⟩ := getF X hx hZ hown (host := "") (Or.inl (oW hw 61 rfl)) Via.refl e0 F_deleteCount_xo (g := (mkF m 24 #[rv xp, rv xo, rv xo] [(.ref xo)])) rfl rfl (hb hby d15_24)
    refine oWk.st (fun _ kt => st _ (zA X hx hby d15_27 rfl rfl rfl kt)) ?_
    obtain ⟨T, X, e0, st⟩ := getF X hx hZ hown (host := "") (Or.inl (oW hw 61 rfl)) Via.refl e0 F_deleteCount_xp (g := (mkF m 28 #[rv xp, rv xo, rv xo] [(.ref xp), (.int xf)])) rfl rfl (hb hby d15_28)
    refine oWk.to (mkF m 31 #[rv xp, rv xo, rv xo] [(.int xg), (.int xf)]) (fun _ kt => st _ kt) ?_
    by_cases hc31 : xf = xg
    · refine oWk.to (mkF m 34 #[rv xp, rv xo, rv xo] []) (fun _ kt => zN X hx hby d15_31 rfl rfl (teq hc31).2 kt) ?_
      refine oWk.st (fun _ kt => zA X hx hby d15_34 rfl rfl rfl kt) ?_
      obtain ⟨T, X, e0, st⟩ := getF X hx hZ hown (host := "") (Or.inl (oW hw 63 rfl)) Via.refl e0 F_insertion_xo (g := (mkF m 35 #[rv xp, rv xo, rv xo] [(.ref xo)])) rfl rfl (hb hby d15_35)
      refine oWk.st (fun _ kt => st _ (zA X hx hby d15_38 rfl rfl rfl kt)) ?_
      obtain ⟨T, X, e0, st⟩ := getF X hx hZ hown (host := "") (Or.inl (oW hw 63 rfl)) Via.refl e0 F_insertion_xp (g := (mkF m 39 #[rv xp, rv xo, rv xo] [(.ref xp), (.ref xa)])) rfl rfl (hb hby d15_39)
      refine oWk.st (fun _ kt => st _ kt) ?_
      have Oh := K.old O0 all0
      obtain ⟨T, L2, X, e0, K, st⟩ := (cs22 hw).pure X hx hZ hown e0 K (A := [(.ref xa), (.ref xq)]) ⟨rfl, _, _, rfl, E_xa⟩ (rSE_2_2 l Z a0 hw [] xa xb xk xq xe xl xz xc0 xc1 xd0 xd1 h0 Oh S_Z hz ne_xa_xq E_xa F_coder_xa F_value_xa V_xb E_xq F_coder_xq F_value_xq V_xe) (W := 0) (by decide) hml (Ls := #[rv xp, rv xo, rv xo]) rfl (rest := []) rfl rfl hby d15_42
      refine oWk.to (mkF m 45 #[rv xp, rv xo, rv xo] [(.int (oBi ((xc0.toInt8.toInt32) = (xd0.toInt8.toInt32) ∧ (xc1.toInt8.toInt32) = (xd1.toInt8.toInt32))))]) (fun _ kt => st _ kt) ?_
      by_cases hc45 : (xc0.toInt8.toInt32) = (xd0.toInt8.toInt32) ∧ (xc1.toInt8.toInt32) = (xd1.toInt8.toInt32)
      · refine oWk.to (mkF m 48 #[rv xp, rv xo, rv xo] []) (fun _ kt => zH X hx hby d15_45 rfl rfl ((if0 _ _).trans (feq (oBi_ne hc45)).1) kt) ?_
        refine oWk.to (mkF m 53 #[rv xp, rv xo, rv xo] [(.int 1)]) (fun _ kt => zK X hx hby d15_48 rfl (zG X hx hby d15_49 rfl (pc' := 53) rfl kt)) ?_
        exact oRetZ X hx hlk hret (hb hby d15_53) (Or.inr rfl) (by rw [e0]; exact ⟨(by rw [oBi_t ⟨hc20, hc31, hc45⟩]), rfl, K⟩) (by decide) (by decide)
      · refine oWk.to (mkF m 52 #[rv xp, rv xo, rv xo] []) (fun _ kt => zF X hx hby d15_45 rfl rfl ((if0 _ _).trans (teq (oBi_f hc45)).1) (pc' := 52) rfl kt) ?_
        refine oWk.to (mkF m 53 #[rv xp, rv xo, rv xo] [(.int 0)]) (fun _ kt => zK X hx hby d15_52 rfl kt) ?_
        exact oRetZ X hx hlk hret (hb hby d15_53) (Or.inl rfl) (by rw [e0]; exact ⟨(by rw [oBi_f (fun q => hc45 q.2.2)]), rfl, K⟩) (by decide) (by decide)
    · refine oWk.to (mkF m 52 #[rv xp, rv xo, rv xo] []) (fun _ kt => zY X hx hby d15_31 rfl rfl (feq hc31).2 (pc' := 52) rfl kt) ?_
      refine oWk.to (mkF m 53 #[rv xp, rv xo, rv xo] [(.int 0)]) (fun _ kt => zK X hx hby d15_52 rfl kt) ?_
      exact oRetZ X hx hlk hret (hb hby d15_53) (Or.inl rfl) (by rw [e0]; exact ⟨(by rw [oBi_f (fun q => hc31 q.2.1)]), rfl, K⟩) (by decide) (by decide)
  · refine oWk.to (mkF m 52 #[rv xp, rv xo, rv xo] []) (fun _ kt => zY X hx hby d15_20 rfl rfl (feq hc20).2 (pc' := 52) rfl kt) ?_
    refine oWk.to (mkF m 53 #[rv xp, rv xo, rv xo] [(.int 0)]) (fun _ kt => zK X hx hby d15_52 rfl kt) ?_
    exact oRetZ X hx hlk hret (hb hby d15_53) (Or.inl rfl) (by rw [e0]; exact ⟨(by rw [oBi_f (fun q => hc20 q.1)]), rfl, K⟩) (by decide) (by decide)
def Q_rLaw (Z : State) (p0 p1 p2 p3 : Int32) (p4 : Int64) (p5 : Int32) (xfm : Value) (xz : Int32) (h0 : Heap) (v : Option Value) (h : Heap) (L : List Loc) : Prop := v = some (.int (1 : Int32)) ∧ Fr h0.size L
theorem pd_21 : parseMethodDescriptor "(ICC)Ljava/lang/String;" = some ⟨[.int, .char, .char], some (.object "java/lang/String")⟩ := by decide +kernel
theorem pd_22 : parseMethodDescriptor "(IILjava/lang/String;)V" = some ⟨[.int, .int, (.object "java/lang/String")], none⟩ := by decide +kernel
theorem cs24 {a0 : Array Value} {Z : State} (hw : oHW a0 Z) : oCall Z Y9 (.invokevirtual 26) yy22 prog_10_method_6_code 3 (some .boolean) (oRv Z 1 Y1) := oCall.virt (oW hw 86 rfl) (oW hw 87 rfl) (fun _ hZ => notFace_of_selects (args := #[]) (mvT hZ (oW hw 89 rfl))) (oW hw 89 rfl) (oW hw 88 rfl) (oW hw 30 rfl) (oW hw 90 rfl) (by decide) pd_19
theorem cs25 {a0 : Array Value} {Z : State} (hw : oHW a0 Z) : oCall Z Y9 (.invokestatic 15) yy2 method_2_code 3 (some (.object Y0)) (oRs 3) := oCall.stat (oW hw 2 rfl) (oW hw 3 rfl) (oW hw 4 rfl) (oW hw 5 rfl) (by decide) pd_21
theorem rLaw (l : Launch) (Z : State) (a0 : Array Value) (hw : oHW a0 Z) (ws : List Jvm.Cond) (p0 p1 p2 p3 : Int32) (p4 : Int64) (p5 : Int32) (xfm : Value) (xz : Int32) (h0 : Heap) (O0 : Ext Z.heap h0) (S_Z : Sta Z Z.heap Y0 Y2 "Z" (.int xz)) (hz : ¬ xz = (0 : Int32)) (S_F : Sta Z Z.heap Y5 Y6 Y7 xfm) (hcat : xfm.category = 1) :
    oConH l Z oEL x code maxLocals ret ws room_1 #[(.int p0), (.int p1), (.int p2), (.int p3), (.long p4), (.int p5)] h0 [] (Q_rLaw Z p0 p1 p2 p3 p4 p5 xfm xz h0) := by
  refine oConH.of (plainFor_of_name pn_1) ?_
  intro p e s m below meth c T vm X hx hby hml hown hnm hret hlk hZ e0 B hsf
  have hml : c.maxLocals = 24 := hml
  have K : oKp h0 h0 [] [] := oKp.nil _ _
  refine oWk.cast (g' := (mkF m 0 #[iv p0, iv p1, iv p2, iv p3, .val (.long p4), ss, iv p5, uu, uu, uu, uu, uu, uu, uu, uu, uu, uu, uu, uu, uu, uu, uu, uu, uu] [])) (by simp [entryFrame, mkF, argsToLocals, Value.category, maxLocals]) ?_
  refine oWk.st (fun _ kt => zI X hx hby at_0 rfl rfl kt) ?_
  refine oWk.to (mkF m 4 #[iv p0, iv p1, iv p2, iv p3, .val (.long p4), ss, iv p5, uu, uu, uu, uu, uu, uu, uu, uu, uu, uu, uu, uu, uu, uu, uu, uu, uu] [(.int (p0 &&& (2147483647 : Int32)))]) (fun _ kt => X.ldcI hx hown (mvT hZ (oW hw 0 rfl)) rfl (hb hby at_1) (XS.iand X.here hx rfl (hb hby at_3) rfl kt)) ?_
  generalize hape : (p0 &&& (2147483647 : Int32)) = ap
  show oWk _ _ _ _ T (mkF m 4 #[iv p0, iv p1, iv p2, iv p3, .val (.long p4), ss, iv p5, uu, uu, uu, uu, uu, uu, uu, uu, uu, uu, uu, uu, uu, uu, uu, uu, uu] [(.int ap)])
  have hap := oPos p0
  rw [hape] at hap
  refine oWk.to (mkF m 10 #[iv p0, iv p1, iv p2, iv p3, .val (.long p4), ss, iv p5, iv ap, uu, uu, uu, uu, uu, uu, uu, uu, uu, uu, uu, uu, uu, uu, uu, uu] [(.int (p5 &&& (1 : Int32)))]) (fun _ kt => zS X hx hby at_4 rfl rfl (l' := #[iv p0, iv p1, iv p2, iv p3, .val (.long p4), ss, iv p5, iv ap, uu, uu, uu, uu, uu, uu, uu, uu, uu, uu, uu, uu, uu, uu, uu, uu]) rfl (zJ X hx hby at_6 rfl rfl (zK X hx hby at_8 rfl (XS.iand X.here hx rfl (hb hby at_9) rfl kt)))) ?_
  have J22 : ∀ (bp : Int32), ¬ bp < (0 : Int32) → oWk p.tables e below (oDnH Z oEL s h0 below (Q_rLaw Z p0 p1 p2 p3 p4 p5 xfm xz h0) room_1.cells room_1.slots) T (mkF m 22 #[iv p0, iv p1, iv p2, iv p3, .val (.long p4), ss, iv p5, iv ap, uu, uu, uu, uu, uu, uu, uu, uu, uu, uu, uu, uu, uu, uu, uu, uu] [(.int bp)]) := by
    intro bp hbp
    refine oWk.st (fun _ kt => zS X hx hby at_22 rfl rfl (l' := #[iv p0, iv p1, iv p2, iv p3, .val (.long p4), ss, iv p5, iv ap, iv bp, uu, uu, uu, uu, uu, uu, uu, uu, uu, uu, uu, uu, uu, uu, uu]) rfl (zI X hx hby at_24 rfl rfl kt)) ?_
    refine oWk.to (mkF m 28 #[iv p0, iv p1, iv p2, iv p3, .val (.long p4), ss, iv p5, iv ap, iv bp, uu, uu, uu, uu, uu, uu, uu, uu, uu, uu, uu, uu, uu, uu, uu] [(.int (p1 &&& (2147483647 : Int32)))]) (fun _ kt => X.ldcI hx hown (mvT hZ (oW hw 0 rfl)) rfl (hb hby at_25) (XS.iand X.here hx rfl (hb hby at_27) rfl kt)) ?_
    generalize hade : (p1 &&& (2147483647 : Int32)) = ad
    show oWk _ _ _ _ T (mkF m 28 #[iv p0, iv p1, iv p2, iv p3, .val (.long p4), ss, iv p5, iv ap, iv bp, uu, uu, uu, uu, uu, uu, uu, uu, uu, uu, uu, uu, uu, uu, uu] [(.int ad)])
    have had := oPos p1
    rw [hade] at had
    refine oWk.to (mkF m 34 #[iv p0, iv p1, iv p2, iv p3, .val (.long p4), ss, iv p5, iv ap, iv bp, iv ad, uu, uu, uu, uu, uu, uu, uu, uu, uu, uu, uu, uu, uu, uu] [(.int (p5 &&& (2 : Int32)))]) (fun _ kt => zS X hx hby at_28 rfl rfl (l' := #[iv p0, iv p1, iv p2, iv p3, .val (.long p4), ss, iv p5, iv ap, iv bp, iv ad, uu, uu, uu, uu, uu, uu, uu, uu, uu, uu, uu, uu, uu, uu]) rfl (zJ X hx hby at_30 rfl rfl (zK X hx hby at_32 rfl (XS.iand X.here hx rfl (hb hby at_33) rfl kt)))) ?_
    have J46 : ∀ (bd : Int32), ¬ bd < (0 : Int32) → oWk p.tables e below (oDnH Z oEL s h0 below (Q_rLaw Z p0 p1 p2 p3 p4 p5 xfm xz h0) room_1.cells room_1.slots) T (mkF m 46 #[iv p0, iv p1, iv p2, iv p3, .val (.long p4), ss, iv p5, iv ap, iv bp, iv ad, uu, uu, uu, uu, uu, uu, uu, uu, uu, uu, uu, uu, uu, uu] [(.int bd)]) := by
      intro bd hbd
      refine oWk.to (mkF m 55 #[iv p0, iv p1, iv p2, iv p3, .val (.long p4), ss, iv p5, iv ap, iv bp, iv ad, iv bd, uu, uu, uu, uu, uu, uu, uu, uu, uu, uu, uu, uu, uu] [(.int 3), (.int (((p5.toUInt32 >>> ((2 : Int32) &&& 31).toUInt32).toInt32) &&& (3 : Int32)))]) (fun _ kt => zS X hx hby at_46 rfl rfl (l' := #[iv p0, iv p1, iv p2, iv p3, .val (.long p4), ss, iv p5, iv ap, iv bp, iv ad, iv bd, uu, uu, uu, uu, uu, uu, uu, uu, uu, uu, uu, uu, uu]) rfl (zJ X hx hby at_48 rfl rfl (zK X hx hby at_50 rfl (XS.iushr X.here hx rfl (hb hby at_51) rfl (zK X hx hby at_52 rfl (XS.iand X.here hx rfl (hb hby at_53) rfl (zK X hx hby at_54 rfl kt))))))) ?_
      refine oWk.to (mkF m 56 #[iv p0, iv p1, iv p2, iv p3, .val (.long p4), ss, iv p5, iv ap, iv bp, iv ad, iv bd, uu, uu, uu, uu, uu, uu, uu, uu, uu, uu, uu, uu, uu] [(.int ((((p5.toUInt32 >>> ((2 : Int32) &&& 31).toUInt32).toInt32) &&& (3 : Int32)) % (3 : Int32)))]) (fun _ kt => iremM X hx rfl (hb hby at_55) rfl (by decide) kt) ?_
      generalize hlae : ((((p5.toUInt32 >>> ((2 : Int32) &&& 31).toUInt32).toInt32) &&& (3 : Int32)) % (3 : Int32)) = la
      show oWk _ _ _ _ T (mkF m 56 #[iv p0, iv p1, iv p2, iv p3, .val (.long p4), ss, iv p5, iv ap, iv bp, iv ad, iv bd, uu, uu, uu, uu, uu, uu, uu, uu, uu, uu, uu, uu, uu] [(.int la)])
      have hla := oLn3 ((p5.toUInt32 >>> ((2 : Int32) &&& 31).toUInt32).toInt32)
      rw [hlae] at hla
      refine oWk.to (mkF m 63 #[iv p0, iv p1, iv p2, iv p3, .val (.long p4), ss, iv p5, iv ap, iv bp, iv ad, iv bd, iv la, uu, uu, uu, uu, uu, uu, uu, uu, uu, uu, uu, uu] [(.int (p5 &&& (16 : Int32)))]) (fun _ kt => zS X hx hby at_56 rfl rfl (l' := #[iv p0, iv p1, iv p2, iv p3, .val (.long p4), ss, iv p5, iv ap, iv bp, iv ad, iv bd, iv la, uu, uu, uu, uu, uu, uu, uu, uu, uu, uu, uu, uu]) rfl (zJ X hx hby at_58 rfl rfl (zL X hx hby at_60 rfl (XS.iand X.here hx rfl (hb hby at_62) rfl kt)))) ?_
      have J79 : ∀ (lb : Int32), lb = 0 ∨ lb = 1 ∨ lb = 2 → oWk p.tables e below (oDnH Z oEL s h0 below (Q_rLaw Z p0 p1 p2 p3 p4 p5 xfm xz h0) room_1.cells room_1.slots) T (mkF m 79 #[iv p0, iv p1, iv p2, iv p3, .val (.long p4), ss, iv p5, iv ap, iv bp, iv ad, iv bd, iv la, uu, uu, uu, uu, uu, uu, uu, uu, uu, uu, uu, uu] [(.int lb)]) := by
        intro lb hlb
        refine oWk.st (fun _ kt => zS X hx hby at_79 rfl rfl (l' := #[iv p0, iv p1, iv p2, iv p3, .val (.long p4), ss, iv p5, iv ap, iv bp, iv ad, iv bd, iv la, iv lb, uu, uu, uu, uu, uu, uu, uu, uu, uu, uu, uu]) rfl (XS.lload X.here hx rfl (hb hby at_81) rfl kt)) ?_
        refine oWk.to (mkF m 89 #[iv p0, iv p1, iv p2, iv p3, .val (.long p4), ss, iv p5, iv ap, iv bp, iv ad, iv bd, iv la, iv lb, uu, uu, uu, uu, uu, uu, uu, uu, uu, uu, uu] [(.int (((p4 &&& (255 : Int64)).toInt32).toUInt32.toUInt16.toUInt32.toInt32))]) (fun _ kt => X.ldc2J hx hown (mvT hZ (oW hw 1 rfl)) rfl (hb hby at_83) (XS.land X.here hx rfl (hb hby at_86) rfl (XS.l2i X.here hx rfl (hb hby at_87) rfl (XS.i2c X.here hx rfl (hb hby at_88) rfl kt)))) ?_
        rw [oChr (oML _)]
        show oWk _ _ _ _ T (mkF m 89 #[iv p0, iv p1, iv p2, iv p3, .val (.long p4), ss, iv p5, iv ap, iv bp, iv ad, iv bd, iv la, iv lb, uu, uu, uu, uu, uu, uu, uu, uu, uu, uu, uu] [(.int ((p4 &&& (255 : Int64)).toInt32))])
        have r_c0_ := oML p4
        generalize hg_c0_ : ((p4 &&& (255 : Int64)).toInt32) = c0_ at *
        show oWk _ _ _ _ T (mkF m 89 #[iv p0, iv p1, iv p2, iv p3, .val (.long p4), ss, iv p5, iv ap, iv bp, iv ad, iv bd, iv la, iv lb, uu, uu, uu, uu, uu, uu, uu, uu, uu, uu, uu] [(.int c0_)])
        refine oWk.st (fun _ kt => zS X hx hby at_89 rfl rfl (l' := #[iv p0, iv p1, iv p2, iv p3, .val (.long p4), ss, iv p5, iv ap, iv bp, iv ad, iv bd, iv la, iv lb, iv c0_, uu, uu, uu, uu, uu, uu, uu, uu, uu, uu]) rfl (XS.lload X.here hx rfl (hb hby at_91) rfl (zL X hx hby at_93 rfl (XS.lushr X.here hx rfl (hb hby at_95) rfl kt)))) ?_
        refine oWk.to (mkF m 102 #[iv p0, iv p1, iv p2, iv p3, .val (.long p4), ss, iv p5, iv ap, iv bp, iv ad, iv bd, iv la, iv lb, iv c0_, uu, uu, uu, uu, uu, uu, uu, uu, uu, uu] [(.int (((((p4.toUInt64 >>> ((8 : Int32) &&& 0x3f).toInt64.toUInt64).toInt64) &&& (255 : Int64)).toInt32).toUInt32.toUInt16.toUInt32.toInt32))]) (fun _ kt => X.ldc2J hx hown (mvT hZ (oW hw 1 rfl)) rfl (hb hby at_96) (XS.land X.here hx rfl (hb hby at_99) rfl (XS.l2i X.here hx rfl (hb hby at_100) rfl (XS.i2c X.here hx rfl (hb hby at_101) rfl kt)))) ?_
        rw [oChr (oML _)]
        show oWk _ _ _ _ T (mkF m 102 #[iv p0, iv p1, iv p2, iv p3, .val (.long p4), ss, iv p5, iv ap, iv bp, iv ad, iv bd, iv la, iv lb, iv c0_, uu, uu, uu, uu, uu, uu, uu, uu, uu, uu] [(.int ((((p4.toUInt64 >>> ((8 : Int32) &&& 0x3f).toInt64.toUInt64).toInt64) &&& (255 : Int64)).toInt32))])
        have r_c1_ := oML ((p4.toUInt64 >>> ((8 : Int32) &&& 0x3f).toInt64.toUInt64).toInt64)
        generalize hg_c1_ : ((((p4.toUInt64 >>> ((8 : Int32) &&& 0x3f).toInt64.toUInt64).toInt64) &&& (255 : Int64)).toInt32) = c1_ at *
        show oWk _ _ _ _ T (mkF m 102 #[iv p0, iv p1, iv p2, iv p3, .val (.long p4), ss, iv p5, iv ap, iv bp, iv ad, iv bd, iv la, iv lb, iv c0_, uu, uu, uu, uu, uu, uu, uu, uu, uu, uu] [(.int c1_)])
        refine oWk.to (mkF m 110 #[iv p0, iv p1, iv p2, iv p3, .val (.long p4), ss, iv p5, iv ap, iv bp, iv ad, iv bd, iv la, iv lb, iv c0_, iv c1_, uu, uu, uu, uu, uu, uu, uu, uu, uu] [(.int (p5 &&& (128 : Int32)))]) (fun _ kt => zS X hx hby at_102 rfl rfl (l' := #[iv p0, iv p1, iv p2, iv p3, .val (.long p4), ss, iv p5, iv ap, iv bp, iv ad, iv bd, iv la, iv lb, iv c0_, iv c1_, uu, uu, uu, uu, uu, uu, uu, uu, uu]) rfl (zJ X hx hby at_104 rfl rfl (zM X hx hby at_106 rfl (XS.iand X.here hx rfl (hb hby at_109) rfl kt)))) ?_
        have J118 : ∀ (sc : Int32), True → oWk p.tables e below (oDnH Z oEL s h0 below (Q_rLaw Z p0 p1 p2 p3 p4 p5 xfm xz h0) room_1.cells room_1.slots) T (mkF m 118 #[iv p0, iv p1, iv p2, iv p3, .val (.long p4), ss, iv p5, iv ap, iv bp, iv ad, iv bd, iv la, iv lb, iv c0_, iv c1_, uu, uu, uu, uu, uu, uu, uu, uu, uu] [(.int sc)]) := by
          intro sc hsc
          refine oWk.to (mkF m 122 #[iv p0, iv p1, iv p2, iv p3, .val (.long p4), ss, iv p5, iv ap, iv bp, iv ad, iv bd, iv la, iv lb, iv c0_, iv c1_, iv sc, uu, uu, uu, uu, uu, uu, uu, uu] [(.int sc)]) (fun _ kt => zS X hx hby at_118 rfl rfl (l' := #[iv p0, iv p1, iv p2, iv p3, .val (.long p4), ss, iv p5, iv ap, iv bp, iv ad, iv bd, iv la, iv lb, iv c0_, iv c1_, iv sc, uu, uu, uu, uu, uu, uu, uu, uu]) rfl (zJ X hx hby at_120 rfl rfl kt)) ?_
          have J141 : ∀ (e0_ : Int32), 0 ≤ e0_.toInt ∧ e0_.toInt < 256 → oWk p.tables e below (oDnH Z oEL s h0 below (Q_rLaw Z p0 p1 p2 p3 p4 p5 xfm xz h0) room_1.cells room_1.slots) T (mkF m 141 #[iv p0, iv p1, iv p2, iv p3, .val (.long p4), ss, iv p5, iv ap, iv bp, iv ad, iv bd, iv la, iv lb, iv c0_, iv c1_, iv sc, uu, uu, uu, uu, uu, uu, uu, uu] [(.int e0_)]) := by
            intro e0_ r_e0_
            refine oWk.to (mkF m 145 #[iv p0, iv p1, iv p2, iv p3, .val (.long p4), ss, iv p5, iv ap, iv bp, iv ad, iv bd, iv la, iv lb, iv c0_, iv c1_, iv sc, iv e0_, uu, uu, uu, uu, uu, uu, uu] [(.int sc)]) (fun _ kt => zS X hx hby at_141 rfl rfl (l' := #[iv p0, iv p1, iv p2, iv p3, .val (.long p4), ss, iv p5, iv ap, iv bp, iv ad, iv bd, iv la, iv lb, iv c0_, iv c1_, iv sc, iv e0_, uu, uu, uu, uu, uu, uu, uu]) rfl (zJ X hx hby at_143 rfl rfl kt)) ?_
            have J164 : ∀ (e1_ : Int32), 0 ≤ e1_.toInt ∧ e1_.toInt < 256 → oWk p.tables e below (oDnH Z oEL s h0 below (Q_rLaw Z p0 p1 p2 p3 p4 p5 xfm xz h0) room_1.cells room_1.slots) T (mkF m 164 #[iv p0, iv p1, iv p2, iv p3, .val (.long p4), ss, iv p5, iv ap, iv bp, iv ad, iv bd, iv la, iv lb, iv c0_, iv c1_, iv sc, iv e0_, uu, uu, uu, uu, uu, uu, uu] [(.int e1_)]) := by
              intro e1_ r_e1_
              refine oWk.to (mkF m 166 #[iv p0, iv p1, iv p2, iv p3, .val (.long p4), ss, iv p5, iv ap, iv bp, iv ad, iv bd, iv la, iv lb, iv c0_, iv c1_, iv sc, iv e0_, iv e1_, uu, uu, uu, uu, uu, uu] []) (fun _ kt => zS X hx hby at_164 rfl rfl (l' := #[iv p0, iv p1, iv p2, iv p3, .val (.long p4), ss, iv p5, iv ap, iv bp, iv ad, iv bd, iv la, iv lb, iv c0_, iv c1_, iv sc, iv e0_, iv e1_, uu, uu, uu, uu, uu, uu]) rfl kt) ?_
              rcases hla with rfl | rfl | rfl
              · show oWk _ _ _ _ T (mkF m 166 #[iv p0, iv p1, iv p2, iv p3, .val (.long p4), ss, iv p5, iv ap, iv bp, iv ad, iv bd, iv 0, iv lb, iv c0_, iv c1_, iv sc, iv e0_, iv e1_, uu, uu, uu, uu, uu, uu] [])
                rcases hlb with rfl | rfl | rfl
                · show oWk _ _ _ _ T (mkF m 166 #[iv p0, iv p1, iv p2, iv p3, .val (.long p4), ss, iv p5, iv ap, iv bp, iv ad, iv bd, iv 0, iv 0, iv c0_, iv c1_, iv sc, iv e0_, iv e1_, uu, uu, uu, uu, uu, uu] [])
                  refine oWk.st (fun _ kt => zJ X hx hby at_166 rfl rfl (zJ X hx hby at_168 rfl rfl (zJ X hx hby at_170 rfl rfl kt))) ?_
                  have Oh := K.old O0 all0
                  obtain ⟨_, _, ⟨T, L2, k2, n2⟩, -, X, hS, hgr, ⟨Lc2, hQ, l2, y2, z2, C⟩, st⟩ := callSS X hx (y := yy2) hown (mvT hZ (oW hw 2 rfl)) (mvT hZ (oW hw 3 rfl)) (mvT hZ (oW hw 4 rfl)) (mvT hZ (oW hw 5 rfl)) (by decide) (oBackH (W := 0) (rStr_0 l Z a0 hw [] c0_ c1_ xz h0 Oh S_Z hz) hZ (oW hw 5 rfl) (oW hw 4 rfl) (by decide) (by decide) (oELw hw) B.2.1 all0) (g := (mkF m 172 #[iv p0, iv p1, iv p2, iv p3, .val (.long p4), ss, iv p5, iv ap, iv bp, iv ad, iv bd, iv 0, iv 0, iv c0_, iv c1_, iv sc, iv e0_, iv e1_, uu, uu, uu, uu, uu, uu] [(.int c1_), (.int c0_), (.int 0)])) rfl (by rw [hml]; rfl) (argsL := [(.int (0 : Int32)), (.int c0_), (.int c1_)]) (rest := []) (lenOf pd_21 rfl) rfl (Nat.le_of_eq rfl) (hb hby at_172) (fun _ _ => ⟨rfl, e0, (by decide : 0 + 6 ≤ _), (by decide : 0 + 12 ≤ _)⟩)
                  dsimp only [Pt.U, Pt.locs, Pt.cells, Pt.slots] at X l2 y2 z2 st hQ C hS hgr
                  subst l2 y2 z2
                  have X : Stand p l e _ (s.setVm T.vm) m _ below meth c T _ _ _ := X
                  obtain ⟨h, e2⟩ : ∃ z, T.heap = z := ⟨_, rfl⟩
                  have B := B.call e0 hS hgr C e2
                  obtain ⟨hZ, hown⟩ := oWide hZ hown hS
                  rw [e2] at hQ C
                  have e0 := e2
                  obtain ⟨sa, sab, sak, rfl, K1, gn_sa, E_sa, F_coder_sa, F_value_sa, V_sab⟩ := hQ
                  have ge_sa := Nat.le_trans K.le gn_sa
                  have K := K.call K1 all0
                  refine oWk.st (fun _ kt => st.trans (zT X hx hby at_175 rfl rfl rfl (l' := #[iv p0, iv p1, iv p2, iv p3, .val (.long p4), ss, iv p5, iv ap, iv bp, iv ad, iv bd, iv 0, iv 0, iv c0_, iv c1_, iv sc, iv e0_, iv e1_, rv sa, uu, uu, uu, uu, uu]) rfl (zJ X hx hby at_177 rfl rfl (zJ X hx hby at_179 rfl rfl (zJ X hx hby at_181 rfl rfl kt))))) ?_
                  have lt_sa := E_sa.lt
                  have lt_sab := V_sab.lt
                  have Oh := K.old O0 all0
                  obtain ⟨_, _, ⟨T, L4, k4, n4⟩, -, X, hS, hgr, ⟨Lc4, hQ, l4, y4, z4, C⟩, st⟩ := callSS X hx (y := yy2) hown (mvT hZ (oW hw 2 rfl)) (mvT hZ (oW hw 3 rfl)) (mvT hZ (oW hw 4 rfl)) (mvT hZ (oW hw 5 rfl)) (by decide) (oBackH (W := 0) (rStr_0 l Z a0 hw [] e0_ e1_ xz h Oh S_Z hz) hZ (oW hw 5 rfl) (oW hw 4 rfl) (by decide) (by decide) (oELw hw) B.2.1 all0) (g := (mkF m 183 #[iv p0, iv p1, iv p2, iv p3, .val (.long p4), ss, iv p5, iv ap, iv bp, iv ad, iv bd, iv 0, iv 0, iv c0_, iv c1_, iv sc, iv e0_, iv e1_, rv sa, uu, uu, uu, uu, uu] [(.int e1_), (.int e0_), (.int 0)])) rfl (by rw [hml]; rfl) (argsL := [(.int (0 : Int32)), (.int e0_), (.int e1_)]) (rest := []) (lenOf pd_21 rfl) rfl (Nat.le_of_eq rfl) (hb hby at_183) (fun _ _ => ⟨rfl, e0, (by decide : 6 + 6 ≤ _), (by decide : 12 + 12 ≤ _)⟩)
                  dsimp only [Pt.U, Pt.locs, Pt.cells, Pt.slots] at X l4 y4 z4 st hQ C hS hgr
                  subst l4 y4 z4
                  have X : Stand p l e _ (s.setVm T.vm) m _ below meth c T _ _ _ := X
                  obtain ⟨h, e2⟩ : ∃ z, T.heap = z := ⟨_, rfl⟩
                  have B := B.call e0 hS hgr C e2
                  obtain ⟨hZ, hown⟩ := oWide hZ hown hS
                  rw [e2] at hQ C
                  have e0 := e2
                  obtain ⟨sb, sbb, sbk, rfl, K3, gn_sb, E_sb, F_coder_sb, F_value_sb, V_sbb⟩ := hQ
                  have ge_sb := Nat.le_trans K.le gn_sb
                  have ne_sa_sb : sa ≠ sb := Nat.ne_of_lt (Nat.lt_of_lt_of_le lt_sa gn_sb)
                  have ne_sab_sb : sab ≠ sb := Nat.ne_of_lt (Nat.lt_of_lt_of_le lt_sab gn_sb)
                  have K := K.call K3 all0
                  refine oWk.st (fun _ kt => st.trans (zT X hx hby at_186 rfl rfl rfl (l' := #[iv p0, iv p1, iv p2, iv p3, .val (.long p4), ss, iv p5, iv ap, iv bp, iv ad, iv bd, iv 0, iv 0, iv c0_, iv c1_, iv sc, iv e0_, iv e1_, rv sa, rv sb, uu, uu, uu, uu]) rfl kt)) ?_
                  obtain ⟨pa, g5⟩ : ∃ z, z = h.size := ⟨_, rfl⟩
                  have E_sa := (E_sa.keep K3.1)
                  have ne_sa_pa : sa ≠ pa := Nat.ne_of_lt (Nat.lt_of_lt_of_le E_sa.lt (Nat.le_of_eq g5.symm))
                  have V_sab := (V_sab.keep K3.1 nin0)
                  have ne_sab_pa : sab ≠ pa := Nat.ne_of_lt (Nat.lt_of_lt_of_le V_sab.lt (Nat.le_of_eq g5.symm))
                  have ne_sb_pa : sb ≠ pa := Nat.ne_of_lt (Nat.lt_of_lt_of_le E_sb.lt (Nat.le_of_eq g5.symm))
                  have ne_sbb_pa : sbb ≠ pa := Nat.ne_of_lt (Nat.lt_of_lt_of_le V_sbb.lt (Nat.le_of_eq g5.symm))
                  have ge_pa : h0.size ≤ pa := Nat.le_trans K.le (Nat.le_of_eq g5.symm)
                  have sf_pa := B.new (Nat.le_of_eq g5.symm)
                  obtain ⟨T, h, X, e0, E5, A5, D5, -, st⟩ := newO X hx hZ hown (oW hw 28 rfl) (oW hw 29 rfl) (oW hw 30 rfl) e0 (g := (mkF m 188 #[iv p0, iv p1, iv p2, iv p3, .val (.long p4), ss, iv p5, iv ap, iv bp, iv ad, iv bd, iv 0, iv 0, iv c0_, iv c1_, iv sc, iv e0_, iv e1_, rv sa, rv sb, uu, uu, uu, uu] [])) rfl (hb hby at_188) (by decide) (by decide)
                  rw [← g5] at A5 D5 st
                  have K := K.ext E5
                  have sf_pa := Safe.ext E5 B.2.1 sf_pa
                  have B := B.ext E5
                  have E_pa := A5
                  have F_position_pa : Fld Z h pa Y1 "position" "I" (.int (0 : Int32)) := D5 (Or.inr (oW hw 60 rfl)) (ty := .int) (by decide)
                  have F_deleteCount_pa : Fld Z h pa Y1 "deleteCount" "I" (.int (0 : Int32)) := D5 (Or.inr (oW hw 62 rfl)) (ty := .int) (by decide)
                  have F_insertion_pa : Fld Z h pa Y1 "insertion" Y3 .null := D5 (Or.inr (oW hw 64 rfl)) (ty := (.object Y0)) (by decide)
                  have F_insertionLength_pa : Fld Z h pa Y1 Y4 "I" (.int (0 : Int32)) := D5 (Or.inr (oW hw 85 rfl)) (ty := .int) (by decide)
                  refine oWk.st (fun _ kt => st _ (zD X hx hby at_191 rfl rfl rfl (zJ X hx hby at_192 rfl rfl (zJ X hx hby at_194 rfl rfl (zB X hx hby at_196 rfl rfl rfl kt))))) ?_
                  have E_sa := (E_sa.ext E5)
                  have F_coder_sa := ((F_coder_sa.keep K3.1 nin0).ext E5)
                  have F_value_sa := ((F_value_sa.keep K3.1 nin0).ext E5)
                  have V_sab := (V_sab.ext E5)
                  have Oh := K.old O0 all0
                  obtain ⟨_, _, ⟨T, L7, k7, n7⟩, -, X, hS, hgr, ⟨Lc7, hQ, l7, y7, z7, C⟩, st⟩ := X.specialBackS hx (y := yy17) rfl hown (mvT hZ (oW hw 31 rfl)) (mvT hZ (oW hw 32 rfl)) (mvT hZ (oW hw 33 rfl)) (by decide) (oBackH (W := 1) (rPI_0 l Z a0 hw [] pa ap ad (.int (0 : Int32)) (.int (0 : Int32)) .null (.int (0 : Int32)) sa sab sak xfm xz h Oh S_Z hz S_F hcat (Nat.le_trans O0.1 ge_pa) E_pa F_position_pa F_deleteCount_pa F_insertion_pa F_insertionLength_pa E_sa F_coder_sa F_value_sa V_sab ne_sa_pa ne_sab_pa hap had) hZ (oW hw 33 rfl) (oW hw 30 rfl) (by decide) (by decide) (oELw hw) B.2.1 (allS ⟨E_pa.lt, sf_pa⟩ all0)) (g := (mkF m 198 #[iv p0, iv p1, iv p2, iv p3, .val (.long p4), ss, iv p5, iv ap, iv bp, iv ad, iv bd, iv 0, iv 0, iv c0_, iv c1_, iv sc, iv e0_, iv e1_, rv sa, rv sb, uu, uu, uu, uu] [(.ref sa), (.int ad), (.int ap), (.ref pa), (.ref pa)])) rfl (by rw [hml]; rfl) (Steps.refl _) (a := pa) (argsL := [(.int ap), (.int ad), (.ref sa)]) (rest := [(.ref pa)]) (lenOf pd_22 rfl) rfl (Nat.le_of_eq rfl) (hb hby at_198) (fun _ _ => ⟨rfl, e0, (by decide : 13 + 4 ≤ _), (by decide : 28 + 112 ≤ _)⟩)
                  dsimp only [Pt.U, Pt.locs, Pt.cells, Pt.slots] at X l7 y7 z7 st hQ C hS hgr
                  subst l7 y7 z7
                  have X : Stand p l e _ (s.setVm T.vm) m _ below meth c T _ _ _ := X
                  obtain ⟨h, e2⟩ : ∃ z, T.heap = z := ⟨_, rfl⟩
                  have B := B.call e0 hS hgr C e2
                  obtain ⟨hZ, hown⟩ := oWide hZ hown hS
                  rw [e2] at hQ C
                  have sf_pa := C.safe E_pa.lt sf_pa
                  have e0 := e2
                  obtain ⟨rfl, K6, E_pa, F_position_pa, F_deleteCount_pa, F_insertion_pa⟩ := hQ
                  have K := K.call K6 (allS (Or.inr ge_pa) all0)
                  refine oWk.st (fun _ kt => st.trans (zT X hx hby at_201 rfl rfl rfl (l' := #[iv p0, iv p1, iv p2, iv p3, .val (.long p4), ss, iv p5, iv ap, iv bp, iv ad, iv bd, iv 0, iv 0, iv c0_, iv c1_, iv sc, iv e0_, iv e1_, rv sa, rv sb, rv pa, uu, uu, uu]) rfl kt)) ?_
                  obtain ⟨pb, g8⟩ : ∃ z, z = h.size := ⟨_, rfl⟩
                  have E_sa := (E_sa.keep K6.1)
                  have ne_sa_pb : sa ≠ pb := Nat.ne_of_lt (Nat.lt_of_lt_of_le E_sa.lt (Nat.le_of_eq g8.symm))
                  have V_sab := (V_sab.keep K6.1 (ninS ne_sab_pa nin0))
                  have ne_sab_pb : sab ≠ pb := Nat.ne_of_lt (Nat.lt_of_lt_of_le V_sab.lt (Nat.le_of_eq g8.symm))
                  have E_sb := ((E_sb.ext E5).keep K6.1)
                  have ne_sb_pb : sb ≠ pb := Nat.ne_of_lt (Nat.lt_of_lt_of_le E_sb.lt (Nat.le_of_eq g8.symm))
                  have V_sbb := ((V_sbb.ext E5).keep K6.1 (ninS ne_sbb_pa nin0))
                  have ne_sbb_pb : sbb ≠ pb := Nat.ne_of_lt (Nat.lt_of_lt_of_le V_sbb.lt (Nat.le_of_eq g8.symm))
                  have ne_pa_pb : pa ≠ pb := Nat.ne_of_lt (Nat.lt_of_lt_of_le E_pa.lt (Nat.le_of_eq g8.symm))
                  have ge_pb : h0.size ≤ pb := Nat.le_trans K.le (Nat.le_of_eq g8.symm)
                  have sf_pb := B.new (Nat.le_of_eq g8.symm)
                  obtain ⟨T, h, X, e0, E8, A8, D8, -, st⟩ := newO X hx hZ hown (oW hw 28 rfl) (oW hw 29 rfl) (oW hw 30 rfl) e0 (g := (mkF m 203 #[iv p0, iv p1, iv p2, iv p3, .val (.long p4), ss, iv p5, iv ap, iv bp, iv ad, iv bd, iv 0, iv 0, iv c0_, iv c1_, iv sc, iv e0_, iv e1_, rv sa, rv sb, rv pa, uu, uu, uu] [])) rfl (hb hby at_203) (by decide) (by decide)
                  rw [← g8] at A8 D8 st
                  have K := K.ext E8
                  have sf_pa := Safe.ext E8 B.2.1 sf_pa
                  have sf_pb := Safe.ext E8 B.2.1 sf_pb
                  have B := B.ext E8
                  have E_pb := A8
                  have F_position_pb : Fld Z h pb Y1 "position" "I" (.int (0 : Int32)) := D8 (Or.inr (oW hw 60 rfl)) (ty := .int) (by decide)
                  have F_deleteCount_pb : Fld Z h pb Y1 "deleteCount" "I" (.int (0 : Int32)) := D8 (Or.inr (oW hw 62 rfl)) (ty := .int) (by decide)
                  have F_insertion_pb : Fld Z h pb Y1 "insertion" Y3 .null := D8 (Or.inr (oW hw 64 rfl)) (ty := (.object Y0)) (by decide)
                  have F_insertionLength_pb : Fld Z h pb Y1 Y4 "I" (.int (0 : Int32)) := D8 (Or.inr (oW hw 85 rfl)) (ty := .int) (by decide)
                  refine oWk.st (fun _ kt => st _ (zD X hx hby at_206 rfl rfl rfl (zJ X hx hby at_207 rfl rfl (zJ X hx hby at_209 rfl rfl (zB X hx hby at_211 rfl rfl rfl kt))))) ?_
                  have E_sb := (E_sb.ext E8)
                  have F_coder_sb := (((F_coder_sb.ext E5).keep K6.1 (ninS ne_sb_pa nin0)).ext E8)
                  have F_value_sb := (((F_value_sb.ext E5).keep K6.1 (ninS ne_sb_pa nin0)).ext E8)
                  have V_sbb := (V_sbb.ext E8)
                  have Oh := K.old O0 all0
                  have E_pa := (E_pa.ext E8)
                  obtain ⟨_, _, ⟨T, L10, k10, n10⟩, -, X, hS, hgr, ⟨Lc10, hQ, l10, y10, z10, C⟩, st⟩ := X.specialBackS hx (y := yy17) rfl hown (mvT hZ (oW hw 31 rfl)) (mvT hZ (oW hw 32 rfl)) (mvT hZ (oW hw 33 rfl)) (by decide) (oBackH (W := 1) (rPI_0 l Z a0 hw [] pb bp bd (.int (0 : Int32)) (.int (0 : Int32)) .null (.int (0 : Int32)) sb sbb sbk xfm xz h Oh S_Z hz S_F hcat (Nat.le_trans O0.1 ge_pb) E_pb F_position_pb F_deleteCount_pb F_insertion_pb F_insertionLength_pb E_sb F_coder_sb F_value_sb V_sbb ne_sb_pb ne_sbb_pb hbp hbd) hZ (oW hw 33 rfl) (oW hw 30 rfl) (by decide) (by decide) (oELw hw) B.2.1 (allS ⟨E_pb.lt, sf_pb⟩ all0)) (g := (mkF m 213 #[iv p0, iv p1, iv p2, iv p3, .val (.long p4), ss, iv p5, iv ap, iv bp, iv ad, iv bd, iv 0, iv 0, iv c0_, iv c1_, iv sc, iv e0_, iv e1_, rv sa, rv sb, rv pa, uu, uu, uu] [(.ref sb), (.int bd), (.int bp), (.ref pb), (.ref pb)])) rfl (by rw [hml]; rfl) (Steps.refl _) (a := pb) (argsL := [(.int bp), (.int bd), (.ref sb)]) (rest := [(.ref pb)]) (lenOf pd_22 rfl) rfl (Nat.le_of_eq rfl) (hb hby at_213) (fun _ _ => ⟨rfl, e0, (by decide : 18 + 4 ≤ _), (by decide : 144 + 112 ≤ _)⟩)
                  dsimp only [Pt.U, Pt.locs, Pt.cells, Pt.slots] at X l10 y10 z10 st hQ C hS hgr
                  subst l10 y10 z10
                  have X : Stand p l e _ (s.setVm T.vm) m _ below meth c T _ _ _ := X
                  obtain ⟨h, e2⟩ : ∃ z, T.heap = z := ⟨_, rfl⟩
                  have B := B.call e0 hS hgr C e2
                  obtain ⟨hZ, hown⟩ := oWide hZ hown hS
                  rw [e2] at hQ C
                  have sf_pa := C.safe E_pa.lt sf_pa
                  have sf_pb := C.safe E_pb.lt sf_pb
                  have e0 := e2
                  obtain ⟨rfl, K9, E_pb, F_position_pb, F_deleteCount_pb, F_insertion_pb⟩ := hQ
                  have K := K.call K9 (allS (Or.inr ge_pb) all0)
                  refine oWk.to (mkF m 225 #[iv p0, iv p1, iv p2, iv p3, .val (.long p4), ss, iv p5, iv ap, iv bp, iv ad, iv bd, iv 0, iv 0, iv c0_, iv c1_, iv sc, iv e0_, iv e1_, rv sa, rv sb, rv pa, rv pb, uu, uu] [(.int (((p5.toUInt32 >>> ((8 : Int32) &&& 31).toUInt32).toInt32) &&& (3 : Int32)))]) (fun _ kt => st.trans (zT X hx hby at_216 rfl rfl rfl (l' := #[iv p0, iv p1, iv p2, iv p3, .val (.long p4), ss, iv p5, iv ap, iv bp, iv ad, iv bd, iv 0, iv 0, iv c0_, iv c1_, iv sc, iv e0_, iv e1_, rv sa, rv sb, rv pa, rv pb, uu, uu]) rfl (zJ X hx hby at_218 rfl rfl (zL X hx hby at_220 rfl (XS.iushr X.here hx rfl (hb hby at_222) rfl (zK X hx hby at_223 rfl (XS.iand X.here hx rfl (hb hby at_224) rfl kt))))))) ?_
                  generalize hwh : (((p5.toUInt32 >>> ((8 : Int32) &&& 31).toUInt32).toInt32) &&& (3 : Int32)) = wh
                  show oWk _ _ _ _ T (mkF m 225 #[iv p0, iv p1, iv p2, iv p3, .val (.long p4), ss, iv p5, iv ap, iv bp, iv ad, iv bd, iv 0, iv 0, iv c0_, iv c1_, iv sc, iv e0_, iv e1_, rv sa, rv sb, rv pa, rv pb, uu, uu] [(.int wh)])
                  refine oWk.to (mkF m 230 #[iv p0, iv p1, iv p2, iv p3, .val (.long p4), ss, iv p5, iv ap, iv bp, iv ad, iv bd, iv 0, iv 0, iv c0_, iv c1_, iv sc, iv e0_, iv e1_, rv sa, rv sb, rv pa, rv pb, iv wh, uu] [(.int 1), (.int wh)]) (fun _ kt => zS X hx hby at_225 rfl rfl (l' := #[iv p0, iv p1, iv p2, iv p3, .val (.long p4), ss, iv p5, iv ap, iv bp, iv ad, iv bd, iv 0, iv 0, iv c0_, iv c1_, iv sc, iv e0_, iv e1_, rv sa, rv sb, rv pa, rv pb, iv wh, uu]) rfl (zJ X hx hby at_227 rfl rfl (zK X hx hby at_229 rfl kt))) ?_
                  by_cases hc230 : wh = (1 : Int32)
                  · refine oWk.to (mkF m 233 #[iv p0, iv p1, iv p2, iv p3, .val (.long p4), ss, iv p5, iv ap, iv bp, iv ad, iv bd, iv 0, iv 0, iv c0_, iv c1_, iv sc, iv e0_, iv e1_, rv sa, rv sb, rv pa, rv pb, iv wh, uu] []) (fun _ kt => zN X hx hby at_230 rfl rfl (teq hc230).2 kt) ?_
                    refine oWk.st (fun _ kt => zB X hx hby at_233 rfl rfl rfl (XS.aconstNull X.here hx rfl (hb hby at_235) kt)) ?_
                    have Oh := K.old O0 all0
                    have E_pa := (E_pa.keep K9.1)
                    obtain ⟨T, L12, X, e0, K, st⟩ := (cs24 hw).pure X hx hZ hown e0 K (A := [(.ref pa), .null]) ⟨rfl, _, _, rfl, E_pa⟩ (rEN l Z a0 hw [] pa h Oh ) (W := 0) (by decide) hml (Ls := #[iv p0, iv p1, iv p2, iv p3, .val (.long p4), ss, iv p5, iv ap, iv bp, iv ad, iv bd, iv 0, iv 0, iv c0_, iv c1_, iv sc, iv e0_, iv e1_, rv sa, rv sb, rv pa, rv pb, iv wh, uu]) rfl (rest := []) rfl rfl hby at_236
                    refine oWk.to (mkF m 247 #[iv p0, iv p1, iv p2, iv p3, .val (.long p4), ss, iv p5, iv ap, iv bp, iv ad, iv bd, iv 0, iv 0, iv c0_, iv c1_, iv sc, iv e0_, iv e1_, rv sa, rv sb, rv pa, rv pb, iv wh, uu] [(.int 1)]) (fun _ kt => st _ (zH X hx hby at_239 rfl rfl ((if0 _ _).trans (teq (by decide)).2) (zK X hx hby at_242 rfl (zG X hx hby at_243 rfl (pc' := 247) rfl kt)))) ?_
                    exact oRetH X hx hlk hZ (oELw hw) e0 B hret (oNar01 (Or.inr rfl)) (Or.inl ⟨rfl, Or.inr (Or.inl rfl), _, rfl⟩) (hb hby at_247) (by rw [e0]; exact ⟨rfl, K.fr⟩) (by decide) (by decide)
                  · refine oWk.to (mkF m 248 #[iv p0, iv p1, iv p2, iv p3, .val (.long p4), ss, iv p5, iv ap, iv bp, iv ad, iv bd, iv 0, iv 0, iv c0_, iv c1_, iv sc, iv e0_, iv e1_, rv sa, rv sb, rv pa, rv pb, iv wh, uu] []) (fun _ kt => zY X hx hby at_230 rfl rfl (feq hc230).2 (pc' := 248) rfl kt) ?_
                    refine oWk.to (mkF m 251 #[iv p0, iv p1, iv p2, iv p3, .val (.long p4), ss, iv p5, iv ap, iv bp, iv ad, iv bd, iv 0, iv 0, iv c0_, iv c1_, iv sc, iv e0_, iv e1_, rv sa, rv sb, rv pa, rv pb, iv wh, uu] [(.int 2), (.int wh)]) (fun _ kt => zJ X hx hby at_248 rfl rfl (zK X hx hby at_250 rfl kt)) ?_
                    by_cases hc251 : wh = (2 : Int32)
                    · refine oWk.to (mkF m 254 #[iv p0, iv p1, iv p2, iv p3, .val (.long p4), ss, iv p5, iv ap, iv bp, iv ad, iv bd, iv 0, iv 0, iv c0_, iv c1_, iv sc, iv e0_, iv e1_, rv sa, rv sb, rv pa, rv pb, iv wh, uu] []) (fun _ kt => zN X hx hby at_251 rfl rfl (teq hc251).2 kt) ?_
                      refine oWk.st (fun _ kt => zB X hx hby at_254 rfl rfl rfl (zT X hx hby at_256 rfl rfl rfl (l' := #[iv p0, iv p1, iv p2, iv p3, .val (.long p4), ss, iv p5, iv ap, iv bp, iv ad, iv bd, iv 0, iv 0, iv c0_, iv c1_, iv sc, iv e0_, iv e1_, rv sa, rv sb, rv pa, rv pb, iv wh, rv sa]) rfl (zB X hx hby at_258 rfl rfl rfl (zB X hx hby at_260 rfl rfl rfl kt)))) ?_
                      have E_sa := ((E_sa.ext E8).keep K9.1)
                      have Oh := K.old O0 all0
                      have E_pa := (E_pa.keep K9.1)
                      obtain ⟨T, L14, X, e0, K, st⟩ := (cs24 hw).pure X hx hZ hown e0 K (A := [(.ref pa), (.ref sa)]) ⟨rfl, _, _, rfl, E_pa⟩ (rET l Z a0 hw [] pa sa h Oh E_sa) (W := 0) (by decide) hml (Ls := #[iv p0, iv p1, iv p2, iv p3, .val (.long p4), ss, iv p5, iv ap, iv bp, iv ad, iv bd, iv 0, iv 0, iv c0_, iv c1_, iv sc, iv e0_, iv e1_, rv sa, rv sb, rv pa, rv pb, iv wh, rv sa]) rfl (rest := []) rfl rfl hby at_262
                      refine oWk.to (mkF m 273 #[iv p0, iv p1, iv p2, iv p3, .val (.long p4), ss, iv p5, iv ap, iv bp, iv ad, iv bd, iv 0, iv 0, iv c0_, iv c1_, iv sc, iv e0_, iv e1_, rv sa, rv sb, rv pa, rv pb, iv wh, rv sa] [(.int 1)]) (fun _ kt => st _ (zH X hx hby at_265 rfl rfl ((if0 _ _).trans (teq (by decide)).2) (zK X hx hby at_268 rfl (zG X hx hby at_269 rfl (pc' := 273) rfl kt)))) ?_
                      exact oRetH X hx hlk hZ (oELw hw) e0 B hret (oNar01 (Or.inr rfl)) (Or.inl ⟨rfl, Or.inr (Or.inl rfl), _, rfl⟩) (hb hby at_273) (by rw [e0]; exact ⟨rfl, K.fr⟩) (by decide) (by decide)
                    · refine oWk.to (mkF m 274 #[iv p0, iv p1, iv p2, iv p3, .val (.long p4), ss, iv p5, iv ap, iv bp, iv ad, iv bd, iv 0, iv 0, iv c0_, iv c1_, iv sc, iv e0_, iv e1_, rv sa, rv sb, rv pa, rv pb, iv wh, uu] []) (fun _ kt => zY X hx hby at_251 rfl rfl (feq hc251).2 (pc' := 274) rfl kt) ?_
                      refine oWk.to (mkF m 277 #[iv p0, iv p1, iv p2, iv p3, .val (.long p4), ss, iv p5, iv ap, iv bp, iv ad, iv bd, iv 0, iv 0, iv c0_, iv c1_, iv sc, iv e0_, iv e1_, rv sa, rv sb, rv pa, rv pb, iv wh, uu] [(.int 3), (.int wh)]) (fun _ kt => zJ X hx hby at_274 rfl rfl (zK X hx hby at_276 rfl kt)) ?_
                      by_cases hc277 : wh = (3 : Int32)
                      · refine oWk.to (mkF m 280 #[iv p0, iv p1, iv p2, iv p3, .val (.long p4), ss, iv p5, iv ap, iv bp, iv ad, iv bd, iv 0, iv 0, iv c0_, iv c1_, iv sc, iv e0_, iv e1_, rv sa, rv sb, rv pa, rv pb, iv wh, uu] []) (fun _ kt => zN X hx hby at_277 rfl rfl (teq hc277).2 kt) ?_
                        refine oWk.st (fun _ kt => zB X hx hby at_280 rfl rfl rfl (zB X hx hby at_282 rfl rfl rfl kt)) ?_
                        have E_pa := (E_pa.keep K9.1)
                        have F_position_pa := ((F_position_pa.ext E8).keep K9.1 (ninS ne_pa_pb nin0))
                        have F_deleteCount_pa := ((F_deleteCount_pa.ext E8).keep K9.1 (ninS ne_pa_pb nin0))
                        have F_insertion_pa := ((F_insertion_pa.ext E8).keep K9.1 (ninS ne_pa_pb nin0))
                        have E_sa := ((E_sa.ext E8).keep K9.1)
                        have Oh := K.old O0 all0
                        obtain ⟨T, L16, X, e0, K, st⟩ := (cs24 hw).pure X hx hZ hown e0 K (A := [(.ref pa), (.ref pa)]) ⟨rfl, _, _, rfl, E_pa⟩ (rEI l Z a0 hw [] pa ap ad sa h Oh E_pa F_position_pa F_deleteCount_pa F_insertion_pa E_sa) (W := 0) (by decide) hml (Ls := #[iv p0, iv p1, iv p2, iv p3, .val (.long p4), ss, iv p5, iv ap, iv bp, iv ad, iv bd, iv 0, iv 0, iv c0_, iv c1_, iv sc, iv e0_, iv e1_, rv sa, rv sb, rv pa, rv pb, iv wh, uu]) rfl (rest := []) rfl rfl hby at_284
                        refine oWk.to (mkF m 287 #[iv p0, iv p1, iv p2, iv p3, .val (.long p4), ss, iv p5, iv ap, iv bp, iv ad, iv bd, iv 0, iv 0, iv c0_, iv c1_, iv sc, iv e0_, iv e1_, rv sa, rv sb, rv pa, rv pb, iv wh, uu] [(.int 1)]) (fun _ kt => st _ kt) ?_
                        exact oRetH X hx hlk hZ (oELw hw) e0 B hret (oNar01 (Or.inr rfl)) (Or.inl ⟨rfl, Or.inr (Or.inl rfl), _, rfl⟩) (hb hby at_287) (by rw [e0]; exact ⟨rfl, K.fr⟩) (by decide) (by decide)
                      · refine oWk.to (mkF m 288 #[iv p0, iv p1, iv p2, iv p3, .val (.long p4), ss, iv p5, iv ap, iv bp, iv ad, iv bd, iv 0, iv 0, iv c0_, iv c1_, iv sc, iv e0_, iv e1_, rv sa, rv sb, rv pa, rv pb, iv wh, uu] []) (fun _ kt => zY X hx hby at_277 rfl rfl (feq hc277).2 (pc' := 288) rfl kt) ?_
                        refine oWk.to (mkF m 292 #[iv p0, iv p1, iv p2, iv p3, .val (.long p4), ss, iv p5, iv ap, iv bp, iv ad, iv bd, iv 0, iv 0, iv c0_, iv c1_, iv sc, iv e0_, iv e1_, rv sa, rv sb, rv pa, rv pb, iv wh, uu] [(.int bp), (.int ap)]) (fun _ kt => zJ X hx hby at_288 rfl rfl (zJ X hx hby at_290 rfl rfl kt)) ?_
                        have J340 : ∀ (ex : Int32), ex = oBi (ap = bp ∧ ad = bd) → oWk p.tables e below (oDnH Z oEL s h0 below (Q_rLaw Z p0 p1 p2 p3 p4 p5 xfm xz h0) room_1.cells room_1.slots) T (mkF m 340 #[iv p0, iv p1, iv p2, iv p3, .val (.long p4), ss, iv p5, iv ap, iv bp, iv ad, iv bd, iv 0, iv 0, iv c0_, iv c1_, iv sc, iv e0_, iv e1_, rv sa, rv sb, rv pa, rv pb, iv wh, uu] [(.int ex)]) := by
                          intro ex hex
                          refine oWk.st (fun _ kt => zS X hx hby at_340 rfl rfl (l' := #[iv p0, iv p1, iv p2, iv p3, .val (.long p4), ss, iv p5, iv ap, iv bp, iv ad, iv bd, iv 0, iv 0, iv c0_, iv c1_, iv sc, iv e0_, iv e1_, rv sa, rv sb, rv pa, rv pb, iv wh, iv ex]) rfl (zB X hx hby at_342 rfl rfl rfl (zB X hx hby at_344 rfl rfl rfl kt))) ?_
                          have E_pa := (E_pa.keep K9.1)
                          have F_position_pa := ((F_position_pa.ext E8).keep K9.1 (ninS ne_pa_pb nin0))
                          have F_deleteCount_pa := ((F_deleteCount_pa.ext E8).keep K9.1 (ninS ne_pa_pb nin0))
                          have F_insertion_pa := ((F_insertion_pa.ext E8).keep K9.1 (ninS ne_pa_pb nin0))
                          have E_sb := (E_sb.keep K9.1)
                          have F_coder_sb := (F_coder_sb.keep K9.1 (ninS ne_sb_pb nin0))
                          have F_value_sb := (F_value_sb.keep K9.1 (ninS ne_sb_pb nin0))
                          have V_sbb := (V_sbb.keep K9.1 (ninS ne_sbb_pb nin0))
                          have E_sa := ((E_sa.ext E8).keep K9.1)
                          have F_coder_sa := (((F_coder_sa.keep K6.1 (ninS ne_sa_pa nin0)).ext E8).keep K9.1 (ninS ne_sa_pb nin0))
                          have F_value_sa := (((F_value_sa.keep K6.1 (ninS ne_sa_pa nin0)).ext E8).keep K9.1 (ninS ne_sa_pb nin0))
                          have V_sab := ((V_sab.ext E8).keep K9.1 (ninS ne_sab_pb nin0))
                          have Oh := K.old O0 all0
                          obtain ⟨T, L18, X, e0, K, st⟩ := (cs24 hw).pure X hx hZ hown e0 K (A := [(.ref pa), (.ref pb)]) ⟨rfl, _, _, rfl, E_pa⟩ (rED_0_0 l Z a0 hw [] pa ap ad pb bp bd sb sbb sbk sa sab sak xz h Oh S_Z hz E_pa F_position_pa F_deleteCount_pa F_insertion_pa E_pb F_position_pb F_deleteCount_pb F_insertion_pb (Ne.symm ne_sa_sb) E_sb F_coder_sb F_value_sb V_sbb E_sa F_coder_sa F_value_sa V_sab) (W := 0) (by decide) hml (Ls := #[iv p0, iv p1, iv p2, iv p3, .val (.long p4), ss, iv p5, iv ap, iv bp, iv ad, iv bd, iv 0, iv 0, iv c0_, iv c1_, iv sc, iv e0_, iv e1_, rv sa, rv sb, rv pa, rv pb, iv wh, iv ex]) rfl (rest := []) rfl rfl hby at_346
                          refine oWk.to (mkF m 351 #[iv p0, iv p1, iv p2, iv p3, .val (.long p4), ss, iv p5, iv ap, iv bp, iv ad, iv bd, iv 0, iv 0, iv c0_, iv c1_, iv sc, iv e0_, iv e1_, rv sa, rv sb, rv pa, rv pb, iv wh, iv ex] [(.int ex), (.int (oBi (bp = ap ∧ bd = ad)))]) (fun _ kt => st _ (zJ X hx hby at_349 rfl rfl kt)) ?_
                          refine oWk.st (fun _ kt => zN X hx hby at_351 rfl rfl (teq ((oCmp (and_congr oSy oSy)).trans hex.symm)).2 (zB X hx hby at_354 rfl rfl rfl (zB X hx hby at_356 rfl rfl rfl kt))) ?_
                          obtain ⟨T, L20, X, e0, K, st⟩ := (cs24 hw).pure X hx hZ hown e0 K (A := [(.ref pb), (.ref pa)]) ⟨rfl, _, _, rfl, E_pb⟩ (rED_0_0 l Z a0 hw [] pb bp bd pa ap ad sa sab sak sb sbb sbk xz h Oh S_Z hz E_pb F_position_pb F_deleteCount_pb F_insertion_pb E_pa F_position_pa F_deleteCount_pa F_insertion_pa ne_sa_sb E_sa F_coder_sa F_value_sa V_sab E_sb F_coder_sb F_value_sb V_sbb) (W := 0) (by decide) hml (Ls := #[iv p0, iv p1, iv p2, iv p3, .val (.long p4), ss, iv p5, iv ap, iv bp, iv ad, iv bd, iv 0, iv 0, iv c0_, iv c1_, iv sc, iv e0_, iv e1_, rv sa, rv sb, rv pa, rv pb, iv wh, iv ex]) rfl (rest := []) rfl rfl hby at_358
                          refine oWk.to (mkF m 363 #[iv p0, iv p1, iv p2, iv p3, .val (.long p4), ss, iv p5, iv ap, iv bp, iv ad, iv bd, iv 0, iv 0, iv c0_, iv c1_, iv sc, iv e0_, iv e1_, rv sa, rv sb, rv pa, rv pb, iv wh, iv ex] [(.int ex), (.int (oBi (ap = bp ∧ ad = bd)))]) (fun _ kt => st _ (zJ X hx hby at_361 rfl rfl kt)) ?_
                          refine oWk.to (mkF m 371 #[iv p0, iv p1, iv p2, iv p3, .val (.long p4), ss, iv p5, iv ap, iv bp, iv ad, iv bd, iv 0, iv 0, iv c0_, iv c1_, iv sc, iv e0_, iv e1_, rv sa, rv sb, rv pa, rv pb, iv wh, iv ex] [(.int 1)]) (fun _ kt => zN X hx hby at_363 rfl rfl (teq ((oCmp (and_congr Iff.rfl Iff.rfl)).trans hex.symm)).2 (zK X hx hby at_366 rfl (zG X hx hby at_367 rfl (pc' := 371) rfl kt))) ?_
                          exact oRetH X hx hlk hZ (oELw hw) e0 B hret (oNar01 (Or.inr rfl)) (Or.inl ⟨rfl, Or.inr (Or.inl rfl), _, rfl⟩) (hb hby at_371) (by rw [e0]; exact ⟨rfl, K.fr⟩) (by decide) (by decide)
                        by_cases hc292 : ap = bp
                        · refine oWk.to (mkF m 295 #[iv p0, iv p1, iv p2, iv p3, .val (.long p4), ss, iv p5, iv ap, iv bp, iv ad, iv bd, iv 0, iv 0, iv c0_, iv c1_, iv sc, iv e0_, iv e1_, rv sa, rv sb, rv pa, rv pb, iv wh, uu] []) (fun _ kt => zN X hx hby at_292 rfl rfl (teq hc292).2 kt) ?_
                          refine oWk.to (mkF m 299 #[iv p0, iv p1, iv p2, iv p3, .val (.long p4), ss, iv p5, iv ap, iv bp, iv ad, iv bd, iv 0, iv 0, iv c0_, iv c1_, iv sc, iv e0_, iv e1_, rv sa, rv sb, rv pa, rv pb, iv wh, uu] [(.int bd), (.int ad)]) (fun _ kt => zJ X hx hby at_295 rfl rfl (zJ X hx hby at_297 rfl rfl kt)) ?_
                          by_cases hc299 : ad = bd
                          · refine oWk.to (mkF m 302 #[iv p0, iv p1, iv p2, iv p3, .val (.long p4), ss, iv p5, iv ap, iv bp, iv ad, iv bd, iv 0, iv 0, iv c0_, iv c1_, iv sc, iv e0_, iv e1_, rv sa, rv sb, rv pa, rv pb, iv wh, uu] []) (fun _ kt => zN X hx hby at_299 rfl rfl (teq hc299).2 kt) ?_
                            refine oWk.to (mkF m 324 #[iv p0, iv p1, iv p2, iv p3, .val (.long p4), ss, iv p5, iv ap, iv bp, iv ad, iv bd, iv 0, iv 0, iv c0_, iv c1_, iv sc, iv e0_, iv e1_, rv sa, rv sb, rv pa, rv pb, iv wh, uu] [(.int 0)]) (fun _ kt => zJ X hx hby at_302 rfl rfl (zJ X hx hby at_304 rfl rfl (zN X hx hby at_306 rfl rfl (teq (by decide)).2 (zJ X hx hby at_309 rfl rfl (zK X hx hby at_311 rfl (zY X hx hby at_312 rfl rfl (tlt (by decide)).1 (pc' := 322) rfl (zJ X hx hby at_322 rfl rfl kt))))))) ?_
                            refine oWk.to (mkF m 340 #[iv p0, iv p1, iv p2, iv p3, .val (.long p4), ss, iv p5, iv ap, iv bp, iv ad, iv bd, iv 0, iv 0, iv c0_, iv c1_, iv sc, iv e0_, iv e1_, rv sa, rv sb, rv pa, rv pb, iv wh, uu] [(.int 1)]) (fun _ kt => zK X hx hby at_324 rfl (zY X hx hby at_325 rfl rfl (tlt (by decide)).1 (pc' := 335) rfl (zK X hx hby at_335 rfl (zG X hx hby at_336 rfl (pc' := 340) rfl kt)))) ?_
                            exact J340 _ (oBi_t ⟨hc292, hc299⟩).symm
                          · refine oWk.to (mkF m 339 #[iv p0, iv p1, iv p2, iv p3, .val (.long p4), ss, iv p5, iv ap, iv bp, iv ad, iv bd, iv 0, iv 0, iv c0_, iv c1_, iv sc, iv e0_, iv e1_, rv sa, rv sb, rv pa, rv pb, iv wh, uu] []) (fun _ kt => zY X hx hby at_299 rfl rfl (feq hc299).2 (pc' := 339) rfl kt) ?_
                            refine oWk.to (mkF m 340 #[iv p0, iv p1, iv p2, iv p3, .val (.long p4), ss, iv p5, iv ap, iv bp, iv ad, iv bd, iv 0, iv 0, iv c0_, iv c1_, iv sc, iv e0_, iv e1_, rv sa, rv sb, rv pa, rv pb, iv wh, uu] [(.int 0)]) (fun _ kt => zK X hx hby at_339 rfl kt) ?_
                            exact J340 _ (oBi_f (fun q => hc299 q.2)).symm
                        · refine oWk.to (mkF m 339 #[iv p0, iv p1, iv p2, iv p3, .val (.long p4), ss, iv p5, iv ap, iv bp, iv ad, iv bd, iv 0, iv 0, iv c0_, iv c1_, iv sc, iv e0_, iv e1_, rv sa, rv sb, rv pa, rv pb, iv wh, uu] []) (fun _ kt => zY X hx hby at_292 rfl rfl (feq hc292).2 (pc' := 339) rfl kt) ?_
                          refine oWk.to (mkF m 340 #[iv p0, iv p1, iv p2, iv p3, .val (.long p4), ss, iv p5, iv ap, iv bp, iv ad, iv bd, iv 0, iv 0, iv c0_, iv c1_, iv sc, iv e0_, iv e1_, rv sa, rv sb, rv pa, rv pb, iv wh, uu] [(.int 0)]) (fun _ kt => zK X hx hby at_339 rfl kt) ?_
                          exact J340 _ (oBi_f (fun q => hc292 q.1)).symm
                · show oWk _ _ _ _ T (mkF m 166 #[iv p0, iv p1, iv p2, iv p3, .val (.long p4), ss, iv p5, iv ap, iv bp, iv ad, iv bd, iv 0, iv 1, iv c0_, iv c1_, iv sc, iv e0_, iv e1_, uu, uu, uu, uu, uu, uu] [])
                  refine oWk.st (fun _ kt => zJ X hx hby at_166 rfl rfl (zJ X hx hby at_168 rfl rfl (zJ X hx hby at_170 rfl rfl kt))) ?_
                  have Oh := K.old O0 all0
                  obtain ⟨_, _, ⟨T, L22, k22, n22⟩, -, X, hS, hgr, ⟨Lc22, hQ, l22, y22, z22, C⟩, st⟩ := callSS X hx (y := yy2) hown (mvT hZ (oW hw 2 rfl)) (mvT hZ (oW hw 3 rfl)) (mvT hZ (oW hw 4 rfl)) (mvT hZ (oW hw 5 rfl)) (by decide) (oBackH (W := 0) (rStr_0 l Z a0 hw [] c0_ c1_ xz h0 Oh S_Z hz) hZ (oW hw 5 rfl) (oW hw 4 rfl) (by decide) (by decide) (oELw hw) B.2.1 all0) (g := (mkF m 172 #[iv p0, iv p1, iv p2, iv p3, .val (.long p4), ss, iv p5, iv ap, iv bp, iv ad, iv bd, iv 0, iv 1, iv c0_, iv c1_, iv sc, iv e0_, iv e1_, uu, uu, uu, uu, uu, uu] [(.int c1_), (.int c0_), (.int 0)])) rfl (by rw [hml]; rfl) (argsL := [(.int (0 : Int32)), (.int c0_), (.int c1_)]) (rest := []) (lenOf pd_21 rfl) rfl (Nat.le_of_eq rfl) (hb hby at_172) (fun _ _ => ⟨rfl, e0, (by decide : 0 + 6 ≤ _), (by decide : 0 + 12 ≤ _)⟩)
                  dsimp only [Pt.U, Pt.locs, Pt.cells, Pt.slots] at X l22 y22 z22 st hQ C hS hgr
                  subst l22 y22 z22
                  have X : Stand p l e _ (s.setVm T.vm) m _ below meth c T _ _ _ := X
                  obtain ⟨h, e2⟩ : ∃ z, T.heap = z := ⟨_, rfl⟩
                  have B := B.call e0 hS hgr C e2
                  obtain ⟨hZ, hown⟩ := oWide hZ hown hS
                  rw [e2] at hQ C
                  have e0 := e2
                  obtain ⟨sa, sab, sak, rfl, K21, gn_sa, E_sa, F_coder_sa, F_value_sa, V_sab⟩ := hQ
                  have ge_sa := Nat.le_trans K.le gn_sa
                  have K := K.call K21 all0
                  refine oWk.st (fun _ kt => st.trans (zT X hx hby at_175 rfl rfl rfl (l' := #[iv p0, iv p1, iv p2, iv p3, .val (.long p4), ss, iv p5, iv ap, iv bp, iv ad, iv bd, iv 0, iv 1, iv c0_, iv c1_, iv sc, iv e0_, iv e1_, rv sa, uu, uu, uu, uu, uu]) rfl (zJ X hx hby at_177 rfl rfl (zJ X hx hby at_179 rfl rfl (zJ X hx hby at_181 rfl rfl kt))))) ?_
                  have lt_sa := E_sa.lt
                  have lt_sab := V_sab.lt
                  have Oh := K.old O0 all0
                  obtain ⟨_, T, h, Lc24, X, e0, hQ, st⟩ := (cs25 hw).run X hx hZ hown e0 (A := [(.int (1 : Int32)), (.int e0_), (.int e1_)]) rfl (rStr_1 l Z a0 hw [] e0_ e1_ xz h Oh S_Z hz r_e0_) (W := 0) (by decide) hml (Ls := #[iv p0, iv p1, iv p2, iv p3, .val (.long p4), ss, iv p5, iv ap, iv bp, iv ad, iv bd, iv 0, iv 1, iv c0_, iv c1_, iv sc, iv e0_, iv e1_, rv sa, uu, uu, uu, uu, uu]) rfl (rest := []) rfl rfl hby at_183
                  obtain ⟨sb, sbb, sbk, rfl, K23, gn_sb, gn_sbb, E_sb, F_coder_sb, F_value_sb, V_sbb⟩ := hQ
                  have ge_sb := Nat.le_trans K.le gn_sb
                  have ne_sa_sb : sa ≠ sb := Nat.ne_of_lt (Nat.lt_of_lt_of_le lt_sa gn_sb)
                  have ne_sab_sb : sab ≠ sb := Nat.ne_of_lt (Nat.lt_of_lt_of_le lt_sab gn_sb)
                  have ge_sbb := Nat.le_trans K.le gn_sbb
                  have ne_sa_sbb : sa ≠ sbb := Nat.ne_of_lt (Nat.lt_of_lt_of_le lt_sa gn_sbb)
                  have ne_sab_sbb : sab ≠ sbb := Nat.ne_of_lt (Nat.lt_of_lt_of_le lt_sab gn_sbb)
                  have K := K.call K23 all0
                  have B := B.keep K23.1 sf0
                  refine oWk.st (fun _ kt => st _ (zT X hx hby at_186 rfl rfl rfl (l' := #[iv p0, iv p1, iv p2, iv p3, .val (.long p4), ss, iv p5, iv ap, iv bp, iv ad, iv bd, iv 0, iv 1, iv c0_, iv c1_, iv sc, iv e0_, iv e1_, rv sa, rv sb, uu, uu, uu, uu]) rfl kt)) ?_
                  obtain ⟨pa, g25⟩ : ∃ z, z = h.size := ⟨_, rfl⟩
                  have E_sa := (E_sa.keep K23.1)
                  have ne_sa_pa : sa ≠ pa := Nat.ne_of_lt (Nat.lt_of_lt_of_le E_sa.lt (Nat.le_of_eq g25.symm))
                  have V_sab := (V_sab.keep K23.1 nin0)
                  have ne_sab_pa : sab ≠ pa := Nat.ne_of_lt (Nat.lt_of_lt_of_le V_sab.lt (Nat.le_of_eq g25.symm))
                  have ne_sb_pa : sb ≠ pa := Nat.ne_of_lt (Nat.lt_of_lt_of_le E_sb.lt (Nat.le_of_eq g25.symm))
                  have ne_sbb_pa : sbb ≠ pa := Nat.ne_of_lt (Nat.lt_of_lt_of_le V_sbb.lt (Nat.le_of_eq g25.symm))
                  have ge_pa : h0.size ≤ pa := Nat.le_trans K.le (Nat.le_of_eq g25.symm)
                  have sf_pa := B.new (Nat.le_of_eq g25.symm)
                  obtain ⟨T, h, X, e0, E25, A25, D25, -, st⟩ := newO X hx hZ hown (oW hw 28 rfl) (oW hw 29 rfl) (oW hw 30 rfl) e0 (g := (mkF m 188 #[iv p0, iv p1, iv p2, iv p3, .val (.long p4), ss, iv p5, iv ap, iv bp, iv ad, iv bd, iv 0, iv 1, iv c0_, iv c1_, iv sc, iv e0_, iv e1_, rv sa, rv sb, uu, uu, uu, uu] [])) rfl (hb hby at_188) (by decide) (by decide)
                  rw [← g25] at A25 D25 st
                  have K := K.ext E25
                  have sf_pa := Safe.ext E25 B.2.1 sf_pa
                  have B := B.ext E25
                  have E_pa := A25
                  have F_position_pa : Fld Z h pa Y1 "position" "I" (.int (0 : Int32)) := D25 (Or.inr (oW hw 60 rfl)) (ty := .int) (by decide)
                  have F_deleteCount_pa : Fld Z h pa Y1 "deleteCount" "I" (.int (0 : Int32)) := D25 (Or.inr (oW hw 62 rfl)) (ty := .int) (by decide)
                  have F_insertion_pa : Fld Z h pa Y1 "insertion" Y3 .null := D25 (Or.inr (oW hw 64 rfl)) (ty := (.object Y0)) (by decide)
                  have F_insertionLength_pa : Fld Z h pa Y1 Y4 "I" (.int (0 : Int32)) := D25 (Or.inr (oW hw 85 rfl)) (ty := .int) (by decide)
                  refine oWk.st (fun _ kt => st _ (zD X hx hby at_191 rfl rfl rfl (zJ X hx hby at_192 rfl rfl (zJ X hx hby at_194 rfl rfl (zB X hx hby at_196 rfl rfl rfl kt))))) ?_
                  have E_sa := (E_sa.ext E25)
                  have F_coder_sa := ((F_coder_sa.keep K23.1 nin0).ext E25)
                  have F_value_sa := ((F_value_sa.keep K23.1 nin0).ext E25)
                  have V_sab := (V_sab.ext E25)
                  have Oh := K.old O0 all0
                  obtain ⟨_, _, ⟨T, L27, k27, n27⟩, -, X, hS, hgr, ⟨Lc27, hQ, l27, y27, z27, C⟩, st⟩ := X.specialBackS hx (y := yy17) rfl hown (mvT hZ (oW hw 31 rfl)) (mvT hZ (oW hw 32 rfl)) (mvT hZ (oW hw 33 rfl)) (by decide) (oBackH (W := 1) (rPI_0 l Z a0 hw [] pa ap ad (.int (0 : Int32)) (.int (0 : Int32)) .null (.int (0 : Int32)) sa sab sak xfm xz h Oh S_Z hz S_F hcat (Nat.le_trans O0.1 ge_pa) E_pa F_position_pa F_deleteCount_pa F_insertion_pa F_insertionLength_pa E_sa F_coder_sa F_value_sa V_sab ne_sa_pa ne_sab_pa hap had) hZ (oW hw 33 rfl) (oW hw 30 rfl) (by decide) (by decide) (oELw hw) B.2.1 (allS ⟨E_pa.lt, sf_pa⟩ all0)) (g := (mkF m 198 #[iv p0, iv p1, iv p2, iv p3, .val (.long p4), ss, iv p5, iv ap, iv bp, iv ad, iv bd, iv 0, iv 1, iv c0_, iv c1_, iv sc, iv e0_, iv e1_, rv sa, rv sb, uu, uu, uu, uu] [(.ref sa), (.int ad), (.int ap), (.ref pa), (.ref pa)])) rfl (by rw [hml]; rfl) (Steps.refl _) (a := pa) (argsL := [(.int ap), (.int ad), (.ref sa)]) (rest := [(.ref pa)]) (lenOf pd_22 rfl) rfl (Nat.le_of_eq rfl) (hb hby at_198) (fun _ _ => ⟨rfl, e0, (by decide : 10 + 4 ≤ _), (by decide : 22 + 112 ≤ _)⟩)
                  dsimp only [Pt.U, Pt.locs, Pt.cells, Pt.slots] at X l27 y27 z27 st hQ C hS hgr
                  subst l27 y27 z27
                  have X : Stand p l e _ (s.setVm T.vm) m _ below meth c T _ _ _ := X
                  obtain ⟨h, e2⟩ : ∃ z, T.heap = z := ⟨_, rfl⟩
                  have B := B.call e0 hS hgr C e2
                  obtain ⟨hZ, hown⟩ := oWide hZ hown hS
                  rw [e2] at hQ C
                  have sf_pa := C.safe E_pa.lt sf_pa
                  have e0 := e2
                  obtain ⟨rfl, K26, E_pa, F_position_pa, F_deleteCount_pa, F_insertion_pa⟩ := hQ
                  have K := K.call K26 (allS (Or.inr ge_pa) all0)
                  refine oWk.st (fun _ kt => st.trans (zT X hx hby at_201 rfl rfl rfl (l' := #[iv p0, iv p1, iv p2, iv p3, .val (.long p4), ss, iv p5, iv ap, iv bp, iv ad, iv bd, iv 0, iv 1, iv c0_, iv c1_, iv sc, iv e0_, iv e1_, rv sa, rv sb, rv pa, uu, uu, uu]) rfl kt)) ?_
                  obtain ⟨pb, g28⟩ : ∃ z, z = h.size := ⟨_, rfl⟩
                  have E_sa := (E_sa.keep K26.1)
                  have ne_sa_pb : sa ≠ pb := Nat.ne_of_lt (Nat.lt_of_lt_of_le E_sa.lt (Nat.le_of_eq g28.symm))
                  have V_sab := (V_sab.keep K26.1 (ninS ne_sab_pa nin0))
                  have ne_sab_pb : sab ≠ pb := Nat.ne_of_lt (Nat.lt_of_lt_of_le V_sab.lt (Nat.le_of_eq g28.symm))
                  have E_sb := ((E_sb.ext E25).keep K26.1)
                  have ne_sb_pb : sb ≠ pb := Nat.ne_of_lt (Nat.lt_of_lt_of_le E_sb.lt (Nat.le_of_eq g28.symm))
                  have V_sbb := ((V_sbb.ext E25).keep K26.1 (ninS ne_sbb_pa nin0))
                  have ne_sbb_pb : sbb ≠ pb := Nat.ne_of_lt (Nat.lt_of_lt_of_le V_sbb.lt (Nat.le_of_eq g28.symm))
                  have ne_pa_pb : pa ≠ pb := Nat.ne_of_lt (Nat.lt_of_lt_of_le E_pa.lt (Nat.le_of_eq g28.symm))
                  have ge_pb : h0.size ≤ pb := Nat.le_trans K.le (Nat.le_of_eq g28.symm)
                  have sf_pb := B.new (Nat.le_of_eq g28.symm)
                  obtain ⟨T, h, X, e0, E28, A28, D28, -, st⟩ := newO X hx hZ hown (oW hw 28 rfl) (oW hw 29 rfl) (oW hw 30 rfl) e0 (g := (mkF m 203 #[iv p0, iv p1, iv p2, iv p3, .val (.long p4), ss, iv p5, iv ap, iv bp, iv ad, iv bd, iv 0, iv 1, iv c0_, iv c1_, iv sc, iv e0_, iv e1_, rv sa, rv sb, rv pa, uu, uu, uu] [])) rfl (hb hby at_203) (by decide) (by decide)
                  rw [← g28] at A28 D28 st
                  have K := K.ext E28
                  have sf_pa := Safe.ext E28 B.2.1 sf_pa
                  have sf_pb := Safe.ext E28 B.2.1 sf_pb
                  have B := B.ext E28
                  have E_pb := A28
                  have F_position_pb : Fld Z h pb Y1 "position" "I" (.int (0 : Int32)) := D28 (Or.inr (oW hw 60 rfl)) (ty := .int) (by decide)
                  have F_deleteCount_pb : Fld Z h pb Y1 "deleteCount" "I" (.int (0 : Int32)) := D28 (Or.inr (oW hw 62 rfl)) (ty := .int) (by decide)
                  have F_insertion_pb : Fld Z h pb Y1 "insertion" Y3 .null := D28 (Or.inr (oW hw 64 rfl)) (ty := (.object Y0)) (by decide)
                  have F_insertionLength_pb : Fld Z h pb Y1 Y4 "I" (.int (0 : Int32)) := D28 (Or.inr (oW hw 85 rfl)) (ty := .int) (by decide)
                  refine oWk.st (fun _ kt => st _ (zD X hx hby at_206 rfl rfl rfl (zJ X hx hby at_207 rfl rfl (zJ X hx hby at_209 rfl rfl (zB X hx hby at_211 rfl rfl rfl kt))))) ?_
                  have E_sb := (E_sb.ext E28)
                  have F_coder_sb := (((F_coder_sb.ext E25).keep K26.1 (ninS ne_sb_pa nin0)).ext E28)
                  have F_value_sb := (((F_value_sb.ext E25).keep K26.1 (ninS ne_sb_pa nin0)).ext E28)
                  have V_sbb := (V_sbb.ext E28)
                  have Oh := K.old O0 all0
                  have E_pa := (E_pa.ext E28)
                  obtain ⟨_, _, ⟨T, L30, k30, n30⟩, -, X, hS, hgr, ⟨Lc30, hQ, l30, y30, z30, C⟩, st⟩ := X.specialBackS hx (y := yy17) rfl hown (mvT hZ (oW hw 31 rfl)) (mvT hZ (oW hw 32 rfl)) (mvT hZ (oW hw 33 rfl)) (by decide) (oBackH (W := 1) (rPI_1 l Z a0 hw [] pb bp bd (.int (0 : Int32)) (.int (0 : Int32)) .null (.int (0 : Int32)) sb sbb sbk xfm xz e0_ h Oh S_Z hz S_F hcat (Nat.le_trans O0.1 ge_pb) E_pb F_position_pb F_deleteCount_pb F_insertion_pb F_insertionLength_pb E_sb F_coder_sb F_value_sb V_sbb r_e0_ ne_sb_pb ne_sbb_pb hbp hbd) hZ (oW hw 33 rfl) (oW hw 30 rfl) (by decide) (by decide) (oELw hw) B.2.1 (allS ⟨E_pb.lt, sf_pb⟩ all0)) (g := (mkF m 213 #[iv p0, iv p1, iv p2, iv p3, .val (.long p4), ss, iv p5, iv ap, iv bp, iv ad, iv bd, iv 0, iv 1, iv c0_, iv c1_, iv sc, iv e0_, iv e1_, rv sa, rv sb, rv pa, uu, uu, uu] [(.ref sb), (.int bd), (.int bp), (.ref pb), (.ref pb)])) rfl (by rw [hml]; rfl) (Steps.refl _) (a := pb) (argsL := [(.int bp), (.int bd), (.ref sb)]) (rest := [(.ref pb)]) (lenOf pd_22 rfl) rfl (Nat.le_of_eq rfl) (hb hby at_213) (fun _ _ => ⟨rfl, e0, (by decide : 15 + 4 ≤ _), (by decide : 138 + 112 ≤ _)⟩)
                  dsimp only [Pt.U, Pt.locs, Pt.cells, Pt.slots] at X l30 y30 z30 st hQ C hS hgr
                  subst l30 y30 z30
                  have X : Stand p l e _ (s.setVm T.vm) m _ below meth c T _ _ _ := X
                  obtain ⟨h, e2⟩ : ∃ z, T.heap = z := ⟨_, rfl⟩
                  have B := B.call e0 hS hgr C e2
                  obtain ⟨hZ, hown⟩ := oWide hZ hown hS
                  rw [e2] at hQ C
                  have sf_pa := C.safe E_pa.lt sf_pa
                  have sf_pb := C.safe E_pb.lt sf_pb
                  have e0 := e2
                  obtain ⟨rfl, K29, E_pb, F_position_pb, F_deleteCount_pb, F_insertion_pb⟩ := hQ
                  have K := K.call K29 (allS (Or.inr ge_pb) all0)
                  refine oWk.to (mkF m 225 #[iv p0, iv p1, iv p2, iv p3, .val (.long p4), ss, iv p5, iv ap, iv bp, iv ad, iv bd, iv 0, iv 1, iv c0_, iv c1_, iv sc, iv e0_, iv e1_, rv sa, rv sb, rv pa, rv pb, uu, uu] [(.int (((p5.toUInt32 >>> ((8 : Int32) &&& 31).toUInt32).toInt32) &&& (3 : Int32)))]) (fun _ kt => st.trans (zT X hx hby at_216 rfl rfl rfl (l' := #[iv p0, iv p1, iv p2, iv p3, .val (.long p4), ss, iv p5, iv ap, iv bp, iv ad, iv bd, iv 0, iv 1, iv c0_, iv c1_, iv sc, iv e0_, iv e1_, rv sa, rv sb, rv pa, rv pb, uu, uu]) rfl (zJ X hx hby at_218 rfl rfl (zL X hx hby at_220 rfl (XS.iushr X.here hx rfl (hb hby at_222) rfl (zK X hx hby at_223 rfl (XS.iand X.here hx rfl (hb hby at_224) rfl kt))))))) ?_
                  generalize hwh : (((p5.toUInt32 >>> ((8 : Int32) &&& 31).toUInt32).toInt32) &&& (3 : Int32)) = wh
                  show oWk _ _ _ _ T (mkF m 225 #[iv p0, iv p1, iv p2, iv p3, .val (.long p4), ss, iv p5, iv ap, iv bp, iv ad, iv bd, iv 0, iv 1, iv c0_, iv c1_, iv sc, iv e0_, iv e1_, rv sa, rv sb, rv pa, rv pb, uu, uu] [(.int wh)])
                  refine oWk.to (mkF m 230 #[iv p0, iv p1, iv p2, iv p3, .val (.long p4), ss, iv p5, iv ap, iv bp, iv ad, iv bd, iv 0, iv 1, iv c0_, iv c1_, iv sc, iv e0_, iv e1_, rv sa, rv sb, rv pa, rv pb, iv wh, uu] [(.int 1), (.int wh)]) (fun _ kt => zS X hx hby at_225 rfl rfl (l' := #[iv p0, iv p1, iv p2, iv p3, .val (.long p4), ss, iv p5, iv ap, iv bp, iv ad, iv bd, iv 0, iv 1, iv c0_, iv c1_, iv sc, iv e0_, iv e1_, rv sa, rv sb, rv pa, rv pb, iv wh, uu]) rfl (zJ X hx hby at_227 rfl rfl (zK X hx hby at_229 rfl kt))) ?_
                  by_cases hc230 : wh = (1 : Int32)
                  · refine oWk.to (mkF m 233 #[iv p0, iv p1, iv p2, iv p3, .val (.long p4), ss, iv p5, iv ap, iv bp, iv ad, iv bd, iv 0, iv 1, iv c0_, iv c1_, iv sc, iv e0_, iv e1_, rv sa, rv sb, rv pa, rv pb, iv wh, uu] []) (fun _ kt => zN X hx hby at_230 rfl rfl (teq hc230).2 kt) ?_
                    refine oWk.st (fun _ kt => zB X hx hby at_233 rfl rfl rfl (XS.aconstNull X.here hx rfl (hb hby at_235) kt)) ?_
                    have Oh := K.old O0 all0
                    have E_pa := (E_pa.keep K29.1)
                    obtain ⟨T, L32, X, e0, K, st⟩ := (cs24 hw).pure X hx hZ hown e0 K (A := [(.ref pa), .null]) ⟨rfl, _, _, rfl, E_pa⟩ (rEN l Z a0 hw [] pa h Oh ) (W := 0) (by decide) hml (Ls := #[iv p0, iv p1, iv p2, iv p3, .val (.long p4), ss, iv p5, iv ap, iv bp, iv ad, iv bd, iv 0, iv 1, iv c0_, iv c1_, iv sc, iv e0_, iv e1_, rv sa, rv sb, rv pa, rv pb, iv wh, uu]) rfl (rest := []) rfl rfl hby at_236
                    refine oWk.to (mkF m 247 #[iv p0, iv p1, iv p2, iv p3, .val (.long p4), ss, iv p5, iv ap, iv bp, iv ad, iv bd, iv 0, iv 1, iv c0_, iv c1_, iv sc, iv e0_, iv e1_, rv sa, rv sb, rv pa, rv pb, iv wh, uu] [(.int 1)]) (fun _ kt => st _ (zH X hx hby at_239 rfl rfl ((if0 _ _).trans (teq (by decide)).2) (zK X hx hby at_242 rfl (zG X hx hby at_243 rfl (pc' := 247) rfl kt)))) ?_
                    exact oRetH X hx hlk hZ (oELw hw) e0 B hret (oNar01 (Or.inr rfl)) (Or.inl ⟨rfl, Or.inr (Or.inl rfl), _, rfl⟩) (hb hby at_247) (by rw [e0]; exact ⟨rfl, K.fr⟩) (by decide) (by decide)
                  · refine oWk.to (mkF m 248 #[iv p0, iv p1, iv p2, iv p3, .val (.long p4), ss, iv p5, iv ap, iv bp, iv ad, iv bd, iv 0, iv 1, iv c0_, iv c1_, iv sc, iv e0_, iv e1_, rv sa, rv sb, rv pa, rv pb, iv wh, uu] []) (fun _ kt => zY X hx hby at_230 rfl rfl (feq hc230).2 (pc' := 248) rfl kt) ?_
                    refine oWk.to (mkF m 251 #[iv p0, iv p1, iv p2, iv p3, .val (.long p4), ss, iv p5, iv ap, iv bp, iv ad, iv bd, iv 0, iv 1, iv c0_, iv c1_, iv sc, iv e0_, iv e1_, rv sa, rv sb, rv pa, rv pb, iv wh, uu] [(.int 2), (.int wh)]) (fun _ kt => zJ X hx hby at_248 rfl rfl (zK X hx hby at_250 rfl kt)) ?_
                    by_cases hc251 : wh = (2 : Int32)
                    · refine oWk.to (mkF m 254 #[iv p0, iv p1, iv p2, iv p3, .val (.long p4), ss, iv p5, iv ap, iv bp, iv ad, iv bd, iv 0, iv 1, iv c0_, iv c1_, iv sc, iv e0_, iv e1_, rv sa, rv sb, rv pa, rv pb, iv wh, uu] []) (fun _ kt => zN X hx hby at_251 rfl rfl (teq hc251).2 kt) ?_
                      refine oWk.st (fun _ kt => zB X hx hby at_254 rfl rfl rfl (zT X hx hby at_256 rfl rfl rfl (l' := #[iv p0, iv p1, iv p2, iv p3, .val (.long p4), ss, iv p5, iv ap, iv bp, iv ad, iv bd, iv 0, iv 1, iv c0_, iv c1_, iv sc, iv e0_, iv e1_, rv sa, rv sb, rv pa, rv pb, iv wh, rv sa]) rfl (zB X hx hby at_258 rfl rfl rfl (zB X hx hby at_260 rfl rfl rfl kt)))) ?_
                      have E_sa := ((E_sa.ext E28).keep K29.1)
                      have Oh := K.old O0 all0
                      have E_pa := (E_pa.keep K29.1)
                      obtain ⟨T, L34, X, e0, K, st⟩ := (cs24 hw).pure X hx hZ hown e0 K (A := [(.ref pa), (.ref sa)]) ⟨rfl, _, _, rfl, E_pa⟩ (rET l Z a0 hw [] pa sa h Oh E_sa) (W := 0) (by decide) hml (Ls := #[iv p0, iv p1, iv p2, iv p3, .val (.long p4), ss, iv p5, iv ap, iv bp, iv ad, iv bd, iv 0, iv 1, iv c0_, iv c1_, iv sc, iv e0_, iv e1_, rv sa, rv sb, rv pa, rv pb, iv wh, rv sa]) rfl (rest := []) rfl rfl hby at_262
                      refine oWk.to (mkF m 273 #[iv p0, iv p1, iv p2, iv p3, .val (.long p4), ss, iv p5, iv ap, iv bp, iv ad, iv bd, iv 0, iv 1, iv c0_, iv c1_, iv sc, iv e0_, iv e1_, rv sa, rv sb, rv pa, rv pb, iv wh, rv sa] [(.int 1)]) (fun _ kt => st _ (zH X hx hby at_265 rfl rfl ((if0 _ _).trans (teq (by decide)).2) (zK X hx hby at_268 rfl (zG X hx hby at_269 rfl (pc' := 273) rfl kt)))) ?_
                      exact oRetH X hx hlk hZ (oELw hw) e0 B hret (oNar01 (Or.inr rfl)) (Or.inl ⟨rfl, Or.inr (Or.inl rfl), _, rfl⟩) (hb hby at_273) (by rw [e0]; exact ⟨rfl, K.fr⟩) (by decide) (by decide)
                    · refine oWk.to (mkF m 274 #[iv p0, iv p1, iv p2, iv p3, .val (.long p4), ss, iv p5, iv ap, iv bp, iv ad, iv bd, iv 0, iv 1, iv c0_, iv c1_, iv sc, iv e0_, iv e1_, rv sa, rv sb, rv pa, rv pb, iv wh, uu] []) (fun _ kt => zY X hx hby at_251 rfl rfl (feq hc251).2 (pc' := 274) rfl kt) ?_
                      refine oWk.to (mkF m 277 #[iv p0, iv p1, iv p2, iv p3, .val (.long p4), ss, iv p5, iv ap, iv bp, iv ad, iv bd, iv 0, iv 1, iv c0_, iv c1_, iv sc, iv e0_, iv e1_, rv sa, rv sb, rv pa, rv pb, iv wh, uu] [(.int 3), (.int wh)]) (fun _ kt => zJ X hx hby at_274 rfl rfl (zK X hx hby at_276 rfl kt)) ?_
                      by_cases hc277 : wh = (3 : Int32)
                      · refine oWk.to (mkF m 280 #[iv p0, iv p1, iv p2, iv p3, .val (.long p4), ss, iv p5, iv ap, iv bp, iv ad, iv bd, iv 0, iv 1, iv c0_, iv c1_, iv sc, iv e0_, iv e1_, rv sa, rv sb, rv pa, rv pb, iv wh, uu] []) (fun _ kt => zN X hx hby at_277 rfl rfl (teq hc277).2 kt) ?_
                        refine oWk.st (fun _ kt => zB X hx hby at_280 rfl rfl rfl (zB X hx hby at_282 rfl rfl rfl kt)) ?_
                        have E_pa := (E_pa.keep K29.1)
                        have F_position_pa := ((F_position_pa.ext E28).keep K29.1 (ninS ne_pa_pb nin0))
                        have F_deleteCount_pa := ((F_deleteCount_pa.ext E28).keep K29.1 (ninS ne_pa_pb nin0))
                        have F_insertion_pa := ((F_insertion_pa.ext E28).keep K29.1 (ninS ne_pa_pb nin0))
                        have E_sa := ((E_sa.ext E28).keep K29.1)
                        have Oh := K.old O0 all0
                        obtain ⟨T, L36, X, e0, K, st⟩ := (cs24 hw).pure X hx hZ hown e0 K (A := [(.ref pa), (.ref pa)]) ⟨rfl, _, _, rfl, E_pa⟩ (rEI l Z a0 hw [] pa ap ad sa h Oh E_pa F_position_pa F_deleteCount_pa F_insertion_pa E_sa) (W := 0) (by decide) hml (Ls := #[iv p0, iv p1, iv p2, iv p3, .val (.long p4), ss, iv p5, iv ap, iv bp, iv ad, iv bd, iv 0, iv 1, iv c0_, iv c1_, iv sc, iv e0_, iv e1_, rv sa, rv sb, rv pa, rv pb, iv wh, uu]) rfl (rest := []) rfl rfl hby at_284
                        refine oWk.to (mkF m 287 #[iv p0, iv p1, iv p2, iv p3, .val (.long p4), ss, iv p5, iv ap, iv bp, iv ad, iv bd, iv 0, iv 1, iv c0_, iv c1_, iv sc, iv e0_, iv e1_, rv sa, rv sb, rv pa, rv pb, iv wh, uu] [(.int 1)]) (fun _ kt => st _ kt) ?_
                        exact oRetH X hx hlk hZ (oELw hw) e0 B hret (oNar01 (Or.inr rfl)) (Or.inl ⟨rfl, Or.inr (Or.inl rfl), _, rfl⟩) (hb hby at_287) (by rw [e0]; exact ⟨rfl, K.fr⟩) (by decide) (by decide)
                      · refine oWk.to (mkF m 288 #[iv p0, iv p1, iv p2, iv p3, .val (.long p4), ss, iv p5, iv ap, iv bp, iv ad, iv bd, iv 0, iv 1, iv c0_, iv c1_, iv sc, iv e0_, iv e1_, rv sa, rv sb, rv pa, rv pb, iv wh, uu] []) (fun _ kt => zY X hx hby at_277 rfl rfl (feq hc277).2 (pc' := 288) rfl kt) ?_
                        refine oWk.to (mkF m 292 #[iv p0, iv p1, iv p2, iv p3, .val (.long p4), ss, iv p5, iv ap, iv bp, iv ad, iv bd, iv 0, iv 1, iv c0_, iv c1_, iv sc, iv e0_, iv e1_, rv sa, rv sb, rv pa, rv pb, iv wh, uu] [(.int bp), (.int ap)]) (fun _ kt => zJ X hx hby at_288 rfl rfl (zJ X hx hby at_290 rfl rfl kt)) ?_
                        have J340 : ∀ (ex : Int32), ex = (0 : Int32) → oWk p.tables e below (oDnH Z oEL s h0 below (Q_rLaw Z p0 p1 p2 p3 p4 p5 xfm xz h0) room_1.cells room_1.slots) T (mkF m 340 #[iv p0, iv p1, iv p2, iv p3, .val (.long p4), ss, iv p5, iv ap, iv bp, iv ad, iv bd, iv 0, iv 1, iv c0_, iv c1_, iv sc, iv e0_, iv e1_, rv sa, rv sb, rv pa, rv pb, iv wh, uu] [(.int ex)]) := by
                          intro ex hex
                          refine oWk.st (fun _ kt => zS X hx hby at_340 rfl rfl (l' := #[iv p0, iv p1, iv p2, iv p3, .val (.long p4), ss, iv p5, iv ap, iv bp, iv ad, iv bd, iv 0, iv 1, iv c0_, iv c1_, iv sc, iv e0_, iv e1_, rv sa, rv sb, rv pa, rv pb, iv wh, iv ex]) rfl (zB X hx hby at_342 rfl rfl rfl (zB X hx hby at_344 rfl rfl rfl kt))) ?_
                          have E_pa := (E_pa.keep K29.1)
                          have F_position_pa := ((F_position_pa.ext E28).keep K29.1 (ninS ne_pa_pb nin0))
                          have F_deleteCount_pa := ((F_deleteCount_pa.ext E28).keep K29.1 (ninS ne_pa_pb nin0))
                          have F_insertion_pa := ((F_insertion_pa.ext E28).keep K29.1 (ninS ne_pa_pb nin0))
                          have E_sb := (E_sb.keep K29.1)
                          have F_coder_sb := (F_coder_sb.keep K29.1 (ninS ne_sb_pb nin0))
                          have F_value_sb := (F_value_sb.keep K29.1 (ninS ne_sb_pb nin0))
                          have V_sbb := (V_sbb.keep K29.1 (ninS ne_sbb_pb nin0))
                          have E_sa := ((E_sa.ext E28).keep K29.1)
                          have F_coder_sa := (((F_coder_sa.keep K26.1 (ninS ne_sa_pa nin0)).ext E28).keep K29.1 (ninS ne_sa_pb nin0))
                          have F_value_sa := (((F_value_sa.keep K26.1 (ninS ne_sa_pa nin0)).ext E28).keep K29.1 (ninS ne_sa_pb nin0))
                          have V_sab := ((V_sab.ext E28).keep K29.1 (ninS ne_sab_pb nin0))
                          have Oh := K.old O0 all0
                          obtain ⟨T, L38, X, e0, K, st⟩ := (cs24 hw).pure X hx hZ hown e0 K (A := [(.ref pa), (.ref pb)]) ⟨rfl, _, _, rfl, E_pa⟩ (rED_1_0 l Z a0 hw [] pa ap ad pb bp bd sb sbb sbk sa sab sak xz e0_ h Oh S_Z hz E_pa F_position_pa F_deleteCount_pa F_insertion_pa E_pb F_position_pb F_deleteCount_pb F_insertion_pb (Ne.symm ne_sa_sb) E_sb F_coder_sb F_value_sb V_sbb E_sa F_coder_sa F_value_sa V_sab) (W := 0) (by decide) hml (Ls := #[iv p0, iv p1, iv p2, iv p3, .val (.long p4), ss, iv p5, iv ap, iv bp, iv ad, iv bd, iv 0, iv 1, iv c0_, iv c1_, iv sc, iv e0_, iv e1_, rv sa, rv sb, rv pa, rv pb, iv wh, iv ex]) rfl (rest := []) rfl rfl hby at_346
                          refine oWk.to (mkF m 351 #[iv p0, iv p1, iv p2, iv p3, .val (.long p4), ss, iv p5, iv ap, iv bp, iv ad, iv bd, iv 0, iv 1, iv c0_, iv c1_, iv sc, iv e0_, iv e1_, rv sa, rv sb, rv pa, rv pb, iv wh, iv ex] [(.int ex), (.int 0)]) (fun _ kt => st _ (zJ X hx hby at_349 rfl rfl kt)) ?_
                          refine oWk.st (fun _ kt => zN X hx hby at_351 rfl rfl (teq hex.symm).2 (zB X hx hby at_354 rfl rfl rfl (zB X hx hby at_356 rfl rfl rfl kt))) ?_
                          obtain ⟨T, L40, X, e0, K, st⟩ := (cs24 hw).pure X hx hZ hown e0 K (A := [(.ref pb), (.ref pa)]) ⟨rfl, _, _, rfl, E_pb⟩ (rED_0_1 l Z a0 hw [] pb bp bd pa ap ad sa sab sak sb sbb sbk xz e0_ h Oh S_Z hz E_pb F_position_pb F_deleteCount_pb F_insertion_pb E_pa F_position_pa F_deleteCount_pa F_insertion_pa ne_sa_sb E_sa F_coder_sa F_value_sa V_sab E_sb F_coder_sb F_value_sb V_sbb) (W := 0) (by decide) hml (Ls := #[iv p0, iv p1, iv p2, iv p3, .val (.long p4), ss, iv p5, iv ap, iv bp, iv ad, iv bd, iv 0, iv 1, iv c0_, iv c1_, iv sc, iv e0_, iv e1_, rv sa, rv sb, rv pa, rv pb, iv wh, iv ex]) rfl (rest := []) rfl rfl hby at_358
                          refine oWk.to (mkF m 363 #[iv p0, iv p1, iv p2, iv p3, .val (.long p4), ss, iv p5, iv ap, iv bp, iv ad, iv bd, iv 0, iv 1, iv c0_, iv c1_, iv sc, iv e0_, iv e1_, rv sa, rv sb, rv pa, rv pb, iv wh, iv ex] [(.int ex), (.int 0)]) (fun _ kt => st _ (zJ X hx hby at_361 rfl rfl kt)) ?_
                          refine oWk.to (mkF m 371 #[iv p0, iv p1, iv p2, iv p3, .val (.long p4), ss, iv p5, iv ap, iv bp, iv ad, iv bd, iv 0, iv 1, iv c0_, iv c1_, iv sc, iv e0_, iv e1_, rv sa, rv sb, rv pa, rv pb, iv wh, iv ex] [(.int 1)]) (fun _ kt => zN X hx hby at_363 rfl rfl (teq hex.symm).2 (zK X hx hby at_366 rfl (zG X hx hby at_367 rfl (pc' := 371) rfl kt))) ?_
                          exact oRetH X hx hlk hZ (oELw hw) e0 B hret (oNar01 (Or.inr rfl)) (Or.inl ⟨rfl, Or.inr (Or.inl rfl), _, rfl⟩) (hb hby at_371) (by rw [e0]; exact ⟨rfl, K.fr⟩) (by decide) (by decide)
                        by_cases hc292 : ap = bp
                        · refine oWk.to (mkF m 295 #[iv p0, iv p1, iv p2, iv p3, .val (.long p4), ss, iv p5, iv ap, iv bp, iv ad, iv bd, iv 0, iv 1, iv c0_, iv c1_, iv sc, iv e0_, iv e1_, rv sa, rv sb, rv pa, rv pb, iv wh, uu] []) (fun _ kt => zN X hx hby at_292 rfl rfl (teq hc292).2 kt) ?_
                          refine oWk.to (mkF m 299 #[iv p0, iv p1, iv p2, iv p3, .val (.long p4), ss, iv p5, iv ap, iv bp, iv ad, iv bd, iv 0, iv 1, iv c0_, iv c1_, iv sc, iv e0_, iv e1_, rv sa, rv sb, rv pa, rv pb, iv wh, uu] [(.int bd), (.int ad)]) (fun _ kt => zJ X hx hby at_295 rfl rfl (zJ X hx hby at_297 rfl rfl kt)) ?_
                          by_cases hc299 : ad = bd
                          · refine oWk.to (mkF m 302 #[iv p0, iv p1, iv p2, iv p3, .val (.long p4), ss, iv p5, iv ap, iv bp, iv ad, iv bd, iv 0, iv 1, iv c0_, iv c1_, iv sc, iv e0_, iv e1_, rv sa, rv sb, rv pa, rv pb, iv wh, uu] []) (fun _ kt => zN X hx hby at_299 rfl rfl (teq hc299).2 kt) ?_
                            refine oWk.to (mkF m 340 #[iv p0, iv p1, iv p2, iv p3, .val (.long p4), ss, iv p5, iv ap, iv bp, iv ad, iv bd, iv 0, iv 1, iv c0_, iv c1_, iv sc, iv e0_, iv e1_, rv sa, rv sb, rv pa, rv pb, iv wh, uu] [(.int 0)]) (fun _ kt => zJ X hx hby at_302 rfl rfl (zJ X hx hby at_304 rfl rfl (zY X hx hby at_306 rfl rfl (feq (by decide)).2 (pc' := 339) rfl (zK X hx hby at_339 rfl kt)))) ?_
                            exact J340 _ rfl
                          · refine oWk.to (mkF m 339 #[iv p0, iv p1, iv p2, iv p3, .val (.long p4), ss, iv p5, iv ap, iv bp, iv ad, iv bd, iv 0, iv 1, iv c0_, iv c1_, iv sc, iv e0_, iv e1_, rv sa, rv sb, rv pa, rv pb, iv wh, uu] []) (fun _ kt => zY X hx hby at_299 rfl rfl (feq hc299).2 (pc' := 339) rfl kt) ?_
                            refine oWk.to (mkF m 340 #[iv p0, iv p1, iv p2, iv p3, .val (.long p4), ss, iv p5, iv ap, iv bp, iv ad, iv bd, iv 0, iv 1, iv c0_, iv c1_, iv sc, iv e0_, iv e1_, rv sa, rv sb, rv pa, rv pb, iv wh, uu] [(.int 0)]) (fun _ kt => zK X hx hby at_339 rfl kt) ?_
                            exact J340 _ rfl
                        · refine oWk.to (mkF m 339 #[iv p0, iv p1, iv p2, iv p3, .val (.long p4), ss, iv p5, iv ap, iv bp, iv ad, iv bd, iv 0, iv 1, iv c0_, iv c1_, iv sc, iv e0_, iv e1_, rv sa, rv sb, rv pa, rv pb, iv wh, uu] []) (fun _ kt => zY X hx hby at_292 rfl rfl (feq hc292).2 (pc' := 339) rfl kt) ?_
                          refine oWk.to (mkF m 340 #[iv p0, iv p1, iv p2, iv p3, .val (.long p4), ss, iv p5, iv ap, iv bp, iv ad, iv bd, iv 0, iv 1, iv c0_, iv c1_, iv sc, iv e0_, iv e1_, rv sa, rv sb, rv pa, rv pb, iv wh, uu] [(.int 0)]) (fun _ kt => zK X hx hby at_339 rfl kt) ?_
                          exact J340 _ rfl
                · show oWk _ _ _ _ T (mkF m 166 #[iv p0, iv p1, iv p2, iv p3, .val (.long p4), ss, iv p5, iv ap, iv bp, iv ad, iv bd, iv 0, iv 2, iv c0_, iv c1_, iv sc, iv e0_, iv e1_, uu, uu, uu, uu, uu, uu] [])
                  refine oWk.st (fun _ kt => zJ X hx hby at_166 rfl rfl (zJ X hx hby at_168 rfl rfl (zJ X hx hby at_170 rfl rfl kt))) ?_
                  have Oh := K.old O0 all0
                  obtain ⟨_, _, ⟨T, L42, k42, n42⟩, -, X, hS, hgr, ⟨Lc42, hQ, l42, y42, z42, C⟩, st⟩ := callSS X hx (y := yy2) hown (mvT hZ (oW hw 2 rfl)) (mvT hZ (oW hw 3 rfl)) (mvT hZ (oW hw 4 rfl)) (mvT hZ (oW hw 5 rfl)) (by decide) (oBackH (W := 0) (rStr_0 l Z a0 hw [] c0_ c1_ xz h0 Oh S_Z hz) hZ (oW hw 5 rfl) (oW hw 4 rfl) (by decide) (by decide) (oELw hw) B.2.1 all0) (g := (mkF m 172 #[iv p0, iv p1, iv p2, iv p3, .val (.long p4), ss, iv p5, iv ap, iv bp, iv ad, iv bd, iv 0, iv 2, iv c0_, iv c1_, iv sc, iv e0_, iv e1_, uu, uu, uu, uu, uu, uu] [(.int c1_), (.int c0_), (.int 0)])) rfl (by rw [hml]; rfl) (argsL := [(.int (0 : Int32)), (.int c0_), (.int c1_)]) (rest := []) (lenOf pd_21 rfl) rfl (Nat.le_of_eq rfl) (hb hby at_172) (fun _ _ => ⟨rfl, e0, (by decide : 0 + 6 ≤ _), (by decide : 0 + 12 ≤ _)⟩)
                  dsimp only [Pt.U, Pt.locs, Pt.cells, Pt.slots] at X l42 y42 z42 st hQ C hS hgr
                  subst l42 y42 z42
                  have X : Stand p l e _ (s.setVm T.vm) m _ below meth c T _ _ _ := X
                  obtain ⟨h, e2⟩ : ∃ z, T.heap = z := ⟨_, rfl⟩
                  have B := B.call e0 hS hgr C e2
                  obtain ⟨hZ, hown⟩ := oWide hZ hown hS
                  rw [e2] at hQ C
                  have e0 := e2
                  obtain ⟨sa, sab, sak, rfl, K41, gn_sa, E_sa, F_coder_sa, F_value_sa, V_sab⟩ := hQ
                  have ge_sa := Nat.le_trans K.le gn_sa
                  have K := K.call K41 all0
                  refine oWk.st (fun _ kt => st.trans (zT X hx hby at_175 rfl rfl rfl (l' := #[iv p0, iv p1, iv p2, iv p3, .val (.long p4), ss, iv p5, iv ap, iv bp, iv ad, iv bd, iv 0, iv 2, iv c0_, iv c1_, iv sc, iv e0_, iv e1_, rv sa, uu, uu, uu, uu, uu]) rfl (zJ X hx hby at_177 rfl rfl (zJ X hx hby at_179 rfl rfl (zJ X hx hby at_181 rfl rfl kt))))) ?_
                  have lt_sa := E_sa.lt
                  have lt_sab := V_sab.lt
                  have Oh := K.old O0 all0
                  obtain ⟨_, T, h, Lc44, X, e0, hQ, st⟩ := (cs25 hw).run X hx hZ hown e0 (A := [(.int (2 : Int32)), (.int e0_), (.int e1_)]) rfl (rStr_2 l Z a0 hw [] e0_ e1_ xz h Oh S_Z hz r_e0_ r_e1_) (W := 0) (by decide) hml (Ls := #[iv p0, iv p1, iv p2, iv p3, .val (.long p4), ss, iv p5, iv ap, iv bp, iv ad, iv bd, iv 0, iv 2, iv c0_, iv c1_, iv sc, iv e0_, iv e1_, rv sa, uu, uu, uu, uu, uu]) rfl (rest := []) rfl rfl hby at_183
                  obtain ⟨sb, sbb, sbk, rfl, K43, gn_sb, gn_sbb, E_sb, F_coder_sb, F_value_sb, V_sbb⟩ := hQ
                  have ge_sb := Nat.le_trans K.le gn_sb
                  have ne_sa_sb : sa ≠ sb := Nat.ne_of_lt (Nat.lt_of_lt_of_le lt_sa gn_sb)
                  have ne_sab_sb : sab ≠ sb := Nat.ne_of_lt (Nat.lt_of_lt_of_le lt_sab gn_sb)
                  have ge_sbb := Nat.le_trans K.le gn_sbb
                  have ne_sa_sbb : sa ≠ sbb := Nat.ne_of_lt (Nat.lt_of_lt_of_le lt_sa gn_sbb)
                  have ne_sab_sbb : sab ≠ sbb := Nat.ne_of_lt (Nat.lt_of_lt_of_le lt_sab gn_sbb)
                  have K := K.call K43 all0
                  have B := B.keep K43.1 sf0
                  refine oWk.st (fun _ kt => st _ (zT X hx hby at_186 rfl rfl rfl (l' := #[iv p0, iv p1, iv p2, iv p3, .val (.long p4), ss, iv p5, iv ap, iv bp, iv ad, iv bd, iv 0, iv 2, iv c0_, iv c1_, iv sc, iv e0_, iv e1_, rv sa, rv sb, uu, uu, uu, uu]) rfl kt)) ?_
                  obtain ⟨pa, g45⟩ : ∃ z, z = h.size := ⟨_, rfl⟩
                  have E_sa := (E_sa.keep K43.1)
                  have ne_sa_pa : sa ≠ pa := Nat.ne_of_lt (Nat.lt_of_lt_of_le E_sa.lt (Nat.le_of_eq g45.symm))
                  have V_sab := (V_sab.keep K43.1 nin0)
                  have ne_sab_pa : sab ≠ pa := Nat.ne_of_lt (Nat.lt_of_lt_of_le V_sab.lt (Nat.le_of_eq g45.symm))
                  have ne_sb_pa : sb ≠ pa := Nat.ne_of_lt (Nat.lt_of_lt_of_le E_sb.lt (Nat.le_of_eq g45.symm))
                  have ne_sbb_pa : sbb ≠ pa := Nat.ne_of_lt (Nat.lt_of_lt_of_le V_sbb.lt (Nat.le_of_eq g45.symm))
                  have ge_pa : h0.size ≤ pa := Nat.le_trans K.le (Nat.le_of_eq g45.symm)
                  have sf_pa := B.new (Nat.le_of_eq g45.symm)
                  obtain ⟨T, h, X, e0, E45, A45, D45, -, st⟩ := newO X hx hZ hown (oW hw 28 rfl) (oW hw 29 rfl) (oW hw 30 rfl) e0 (g := (mkF m 188 #[iv p0, iv p1, iv p2, iv p3, .val (.long p4), ss, iv p5, iv ap, iv bp, iv ad, iv bd, iv 0, iv 2, iv c0_, iv c1_, iv sc, iv e0_, iv e1_, rv sa, rv sb, uu, uu, uu, uu] [])) rfl (hb hby at_188) (by decide) (by decide)
                  rw [← g45] at A45 D45 st
                  have K := K.ext E45
                  have sf_pa := Safe.ext E45 B.2.1 sf_pa
                  have B := B.ext E45
                  have E_pa := A45
                  have F_position_pa : Fld Z h pa Y1 "position" "I" (.int (0 : Int32)) := D45 (Or.inr (oW hw 60 rfl)) (ty := .int) (by decide)
                  have F_deleteCount_pa : Fld Z h pa Y1 "deleteCount" "I" (.int (0 : Int32)) := D45 (Or.inr (oW hw 62 rfl)) (ty := .int) (by decide)
                  have F_insertion_pa : Fld Z h pa Y1 "insertion" Y3 .null := D45 (Or.inr (oW hw 64 rfl)) (ty := (.object Y0)) (by decide)
                  have F_insertionLength_pa : Fld Z h pa Y1 Y4 "I" (.int (0 : Int32)) := D45 (Or.inr (oW hw 85 rfl)) (ty := .int) (by decide)
                  refine oWk.st (fun _ kt => st _ (zD X hx hby at_191 rfl rfl rfl (zJ X hx hby at_192 rfl rfl (zJ X hx hby at_194 rfl rfl (zB X hx hby at_196 rfl rfl rfl kt))))) ?_
                  have E_sa := (E_sa.ext E45)
                  have F_coder_sa := ((F_coder_sa.keep K43.1 nin0).ext E45)
                  have F_value_sa := ((F_value_sa.keep K43.1 nin0).ext E45)
                  have V_sab := (V_sab.ext E45)
                  have Oh := K.old O0 all0
                  obtain ⟨_, _, ⟨T, L47, k47, n47⟩, -, X, hS, hgr, ⟨Lc47, hQ, l47, y47, z47, C⟩, st⟩ := X.specialBackS hx (y := yy17) rfl hown (mvT hZ (oW hw 31 rfl)) (mvT hZ (oW hw 32 rfl)) (mvT hZ (oW hw 33 rfl)) (by decide) (oBackH (W := 1) (rPI_0 l Z a0 hw [] pa ap ad (.int (0 : Int32)) (.int (0 : Int32)) .null (.int (0 : Int32)) sa sab sak xfm xz h Oh S_Z hz S_F hcat (Nat.le_trans O0.1 ge_pa) E_pa F_position_pa F_deleteCount_pa F_insertion_pa F_insertionLength_pa E_sa F_coder_sa F_value_sa V_sab ne_sa_pa ne_sab_pa hap had) hZ (oW hw 33 rfl) (oW hw 30 rfl) (by decide) (by decide) (oELw hw) B.2.1 (allS ⟨E_pa.lt, sf_pa⟩ all0)) (g := (mkF m 198 #[iv p0, iv p1, iv p2, iv p3, .val (.long p4), ss, iv p5, iv ap, iv bp, iv ad, iv bd, iv 0, iv 2, iv c0_, iv c1_, iv sc, iv e0_, iv e1_, rv sa, rv sb, uu, uu, uu, uu] [(.ref sa), (.int ad), (.int ap), (.ref pa), (.ref pa)])) rfl (by rw [hml]; rfl) (Steps.refl _) (a := pa) (argsL := [(.int ap), (.int ad), (.ref sa)]) (rest := [(.ref pa)]) (lenOf pd_22 rfl) rfl (Nat.le_of_eq rfl) (hb hby at_198) (fun _ _ => ⟨rfl, e0, (by decide : 10 + 4 ≤ _), (by decide : 24 + 112 ≤ _)⟩)
                  dsimp only [Pt.U, Pt.locs, Pt.cells, Pt.slots] at X l47 y47 z47 st hQ C hS hgr
                  subst l47 y47 z47
                  have X : Stand p l e _ (s.setVm T.vm) m _ below meth c T _ _ _ := X
                  obtain ⟨h, e2⟩ : ∃ z, T.heap = z := ⟨_, rfl⟩
                  have B := B.call e0 hS hgr C e2
                  obtain ⟨hZ, hown⟩ := oWide hZ hown hS
                  rw [e2] at hQ C
                  have sf_pa := C.safe E_pa.lt sf_pa
                  have e0 := e2
                  obtain ⟨rfl, K46, E_pa, F_position_pa, F_deleteCount_pa, F_insertion_pa⟩ := hQ
                  have K := K.call K46 (allS (Or.inr ge_pa) all0)
                  refine oWk.st (fun _ kt => st.trans (zT X hx hby at_201 rfl rfl rfl (l' := #[iv p0, iv p1, iv p2, iv p3, .val (.long p4), ss, iv p5, iv ap, iv bp, iv ad, iv bd, iv 0, iv 2, iv c0_, iv c1_, iv sc, iv e0_, iv e1_, rv sa, rv sb, rv pa, uu, uu, uu]) rfl kt)) ?_
                  obtain ⟨pb, g48⟩ : ∃ z, z = h.size := ⟨_, rfl⟩
                  have E_sa := (E_sa.keep K46.1)
                  have ne_sa_pb : sa ≠ pb := Nat.ne_of_lt (Nat.lt_of_lt_of_le E_sa.lt (Nat.le_of_eq g48.symm))
                  have V_sab := (V_sab.keep K46.1 (ninS ne_sab_pa nin0))
                  have ne_sab_pb : sab ≠ pb := Nat.ne_of_lt (Nat.lt_of_lt_of_le V_sab.lt (Nat.le_of_eq g48.symm))
                  have E_sb := ((E_sb.ext E45).keep K46.1)
                  have ne_sb_pb : sb ≠ pb := Nat.ne_of_lt (Nat.lt_of_lt_of_le E_sb.lt (Nat.le_of_eq g48.symm))
                  have V_sbb := ((V_sbb.ext E45).keep K46.1 (ninS ne_sbb_pa nin0))
                  have ne_sbb_pb : sbb ≠ pb := Nat.ne_of_lt (Nat.lt_of_lt_of_le V_sbb.lt (Nat.le_of_eq g48.symm))
                  have ne_pa_pb : pa ≠ pb := Nat.ne_of_lt (Nat.lt_of_lt_of_le E_pa.lt (Nat.le_of_eq g48.symm))
                  have ge_pb : h0.size ≤ pb := Nat.le_trans K.le (Nat.le_of_eq g48.symm)
                  have sf_pb := B.new (Nat.le_of_eq g48.symm)
                  obtain ⟨T, h, X, e0, E48, A48, D48, -, st⟩ := newO X hx hZ hown (oW hw 28 rfl) (oW hw 29 rfl) (oW hw 30 rfl) e0 (g := (mkF m 203 #[iv p0, iv p1, iv p2, iv p3, .val (.long p4), ss, iv p5, iv ap, iv bp, iv ad, iv bd, iv 0, iv 2, iv c0_, iv c1_, iv sc, iv e0_, iv e1_, rv sa, rv sb, rv pa, uu, uu, uu] [])) rfl (hb hby at_203) (by decide) (by decide)
                  rw [← g48] at A48 D48 st
                  have K := K.ext E48
                  have sf_pa := Safe.ext E48 B.2.1 sf_pa
                  have sf_pb := Safe.ext E48 B.2.1 sf_pb
                  have B := B.ext E48
                  have E_pb := A48
                  have F_position_pb : Fld Z h pb Y1 "position" "I" (.int (0 : Int32)) := D48 (Or.inr (oW hw 60 rfl)) (ty := .int) (by decide)
                  have F_deleteCount_pb : Fld Z h pb Y1 "deleteCount" "I" (.int (0 : Int32)) := D48 (Or.inr (oW hw 62 rfl)) (ty := .int) (by decide)
                  have F_insertion_pb : Fld Z h pb Y1 "insertion" Y3 .null := D48 (Or.inr (oW hw 64 rfl)) (ty := (.object Y0)) (by decide)
                  have F_insertionLength_pb : Fld Z h pb Y1 Y4 "I" (.int (0 : Int32)) := D48 (Or.inr (oW hw 85 rfl)) (ty := .int) (by decide)
                  refine oWk.st (fun _ kt => st _ (zD X hx hby at_206 rfl rfl rfl (zJ X hx hby at_207 rfl rfl (zJ X hx hby at_209 rfl rfl (zB X hx hby at_211 rfl rfl rfl kt))))) ?_
                  have E_sb := (E_sb.ext E48)
                  have F_coder_sb := (((F_coder_sb.ext E45).keep K46.1 (ninS ne_sb_pa nin0)).ext E48)
                  have F_value_sb := (((F_value_sb.ext E45).keep K46.1 (ninS ne_sb_pa nin0)).ext E48)
                  have V_sbb := (V_sbb.ext E48)
                  have Oh := K.old O0 all0
                  have E_pa := (E_pa.ext E48)
                  obtain ⟨_, _, ⟨T, L50, k50, n50⟩, -, X, hS, hgr, ⟨Lc50, hQ, l50, y50, z50, C⟩, st⟩ := X.specialBackS hx (y := yy17) rfl hown (mvT hZ (oW hw 31 rfl)) (mvT hZ (oW hw 32 rfl)) (mvT hZ (oW hw 33 rfl)) (by decide) (oBackH (W := 1) (rPI_2 l Z a0 hw [] pb bp bd (.int (0 : Int32)) (.int (0 : Int32)) .null (.int (0 : Int32)) sb sbb sbk xfm xz e0_ e1_ h Oh S_Z hz S_F hcat (Nat.le_trans O0.1 ge_pb) E_pb F_position_pb F_deleteCount_pb F_insertion_pb F_insertionLength_pb E_sb F_coder_sb F_value_sb V_sbb r_e0_ r_e1_ ne_sb_pb ne_sbb_pb hbp hbd) hZ (oW hw 33 rfl) (oW hw 30 rfl) (by decide) (by decide) (oELw hw) B.2.1 (allS ⟨E_pb.lt, sf_pb⟩ all0)) (g := (mkF m 213 #[iv p0, iv p1, iv p2, iv p3, .val (.long p4), ss, iv p5, iv ap, iv bp, iv ad, iv bd, iv 0, iv 2, iv c0_, iv c1_, iv sc, iv e0_, iv e1_, rv sa, rv sb, rv pa, uu, uu, uu] [(.ref sb), (.int bd), (.int bp), (.ref pb), (.ref pb)])) rfl (by rw [hml]; rfl) (Steps.refl _) (a := pb) (argsL := [(.int bp), (.int bd), (.ref sb)]) (rest := [(.ref pb)]) (lenOf pd_22 rfl) rfl (Nat.le_of_eq rfl) (hb hby at_213) (fun _ _ => ⟨rfl, e0, (by decide : 15 + 4 ≤ _), (by decide : 140 + 112 ≤ _)⟩)
                  dsimp only [Pt.U, Pt.locs, Pt.cells, Pt.slots] at X l50 y50 z50 st hQ C hS hgr
                  subst l50 y50 z50
                  have X : Stand p l e _ (s.setVm T.vm) m _ below meth c T _ _ _ := X
                  obtain ⟨h, e2⟩ : ∃ z, T.heap = z := ⟨_, rfl⟩
                  have B := B.call e0 hS hgr C e2
                  obtain ⟨hZ, hown⟩ := oWide hZ hown hS
                  rw [e2] at hQ C
                  have sf_pa := C.safe E_pa.lt sf_pa
                  have sf_pb := C.safe E_pb.lt sf_pb
                  have e0 := e2
                  obtain ⟨rfl, K49, E_pb, F_position_pb, F_deleteCount_pb, F_insertion_pb⟩ := hQ
                  have K := K.call K49 (allS (Or.inr ge_pb) all0)
                  refine oWk.to (mkF m 225 #[iv p0, iv p1, iv p2, iv p3, .val (.long p4), ss, iv p5, iv ap, iv bp, iv ad, iv bd, iv 0, iv 2, iv c0_, iv c1_, iv sc, iv e0_, iv e1_, rv sa, rv sb, rv pa, rv pb, uu, uu] [(.int (((p5.toUInt32 >>> ((8 : Int32) &&& 31).toUInt32).toInt32) &&& (3 : Int32)))]) (fun _ kt => st.trans (zT X hx hby at_216 rfl rfl rfl (l' := #[iv p0, iv p1, iv p2, iv p3, .val (.long p4), ss, iv p5, iv ap, iv bp, iv ad, iv bd, iv 0, iv 2, iv c0_, iv c1_, iv sc, iv e0_, iv e1_, rv sa, rv sb, rv pa, rv pb, uu, uu]) rfl (zJ X hx hby at_218 rfl rfl (zL X hx hby at_220 rfl (XS.iushr X.here hx rfl (hb hby at_222) rfl (zK X hx hby at_223 rfl (XS.iand X.here hx rfl (hb hby at_224) rfl kt))))))) ?_
                  generalize hwh : (((p5.toUInt32 >>> ((8 : Int32) &&& 31).toUInt32).toInt32) &&& (3 : Int32)) = wh
                  show oWk _ _ _ _ T (mkF m 225 #[iv p0, iv p1, iv p2, iv p3, .val (.long p4), ss, iv p5, iv ap, iv bp, iv ad, iv bd, iv 0, iv 2, iv c0_, iv c1_, iv sc, iv e0_, iv e1_, rv sa, rv sb, rv pa, rv pb, uu, uu] [(.int wh)])
                  refine oWk.to (mkF m 230 #[iv p0, iv p1, iv p2, iv p3, .val (.long p4), ss, iv p5, iv ap, iv bp, iv ad, iv bd, iv 0, iv 2, iv c0_, iv c1_, iv sc, iv e0_, iv e1_, rv sa, rv sb, rv pa, rv pb, iv wh, uu] [(.int 1), (.int wh)]) (fun _ kt => zS X hx hby at_225 rfl rfl (l' := #[iv p0, iv p1, iv p2, iv p3, .val (.long p4), ss, iv p5, iv ap, iv bp, iv ad, iv bd, iv 0, iv 2, iv c0_, iv c1_, iv sc, iv e0_, iv e1_, rv sa, rv sb, rv pa, rv pb, iv wh, uu]) rfl (zJ X hx hby at_227 rfl rfl (zK X hx hby at_229 rfl kt))) ?_
                  by_cases hc230 : wh = (1 : Int32)
                  · refine oWk.to (mkF m 233 #[iv p0, iv p1, iv p2, iv p3, .val (.long p4), ss, iv p5, iv ap, iv bp, iv ad, iv bd, iv 0, iv 2, iv c0_, iv c1_, iv sc, iv e0_, iv e1_, rv sa, rv sb, rv pa, rv pb, iv wh, uu] []) (fun _ kt => zN X hx hby at_230 rfl rfl (teq hc230).2 kt) ?_
                    refine oWk.st (fun _ kt => zB X hx hby at_233 rfl rfl rfl (XS.aconstNull X.here hx rfl (hb hby at_235) kt)) ?_
                    have Oh := K.old O0 all0
                    have E_pa := (E_pa.keep K49.1)
                    obtain ⟨T, L52, X, e0, K, st⟩ := (cs24 hw).pure X hx hZ hown e0 K (A := [(.ref pa), .null]) ⟨rfl, _, _, rfl, E_pa⟩ (rEN l Z a0 hw [] pa h Oh ) (W := 0) (by decide) hml (Ls := #[iv p0, iv p1, iv p2, iv p3, .val (.long p4), ss, iv p5, iv ap, iv bp, iv ad, iv bd, iv 0, iv 2, iv c0_, iv c1_, iv sc, iv e0_, iv e1_, rv sa, rv sb, rv pa, rv pb, iv wh, uu]) rfl (rest := []) rfl rfl hby at_236
                    refine oWk.to (mkF m 247 #[iv p0, iv p1, iv p2, iv p3, .val (.long p4), ss, iv p5, iv ap, iv bp, iv ad, iv bd, iv 0, iv 2, iv c0_, iv c1_, iv sc, iv e0_, iv e1_, rv sa, rv sb, rv pa, rv pb, iv wh, uu] [(.int 1)]) (fun _ kt => st _ (zH X hx hby at_239 rfl rfl ((if0 _ _).trans (teq (by decide)).2) (zK X hx hby at_242 rfl (zG X hx hby at_243 rfl (pc' := 247) rfl kt)))) ?_
                    exact oRetH X hx hlk hZ (oELw hw) e0 B hret (oNar01 (Or.inr rfl)) (Or.inl ⟨rfl, Or.inr (Or.inl rfl), _, rfl⟩) (hb hby at_247) (by rw [e0]; exact ⟨rfl, K.fr⟩) (by decide) (by decide)
                  · refine oWk.to (mkF m 248 #[iv p0, iv p1, iv p2, iv p3, .val (.long p4), ss, iv p5, iv ap, iv bp, iv ad, iv bd, iv 0, iv 2, iv c0_, iv c1_, iv sc, iv e0_, iv e1_, rv sa, rv sb, rv pa, rv pb, iv wh, uu] []) (fun _ kt => zY X hx hby at_230 rfl rfl (feq hc230).2 (pc' := 248) rfl kt) ?_
                    refine oWk.to (mkF m 251 #[iv p0, iv p1, iv p2, iv p3, .val (.long p4), ss, iv p5, iv ap, iv bp, iv ad, iv bd, iv 0, iv 2, iv c0_, iv c1_, iv sc, iv e0_, iv e1_, rv sa, rv sb, rv pa, rv pb, iv wh, uu] [(.int 2), (.int wh)]) (fun _ kt => zJ X hx hby at_248 rfl rfl (zK X hx hby at_250 rfl kt)) ?_
                    by_cases hc251 : wh = (2 : Int32)
                    · refine oWk.to (mkF m 254 #[iv p0, iv p1, iv p2, iv p3, .val (.long p4), ss, iv p5, iv ap, iv bp, iv ad, iv bd, iv 0, iv 2, iv c0_, iv c1_, iv sc, iv e0_, iv e1_, rv sa, rv sb, rv pa, rv pb, iv wh, uu] []) (fun _ kt => zN X hx hby at_251 rfl rfl (teq hc251).2 kt) ?_
                      refine oWk.st (fun _ kt => zB X hx hby at_254 rfl rfl rfl (zT X hx hby at_256 rfl rfl rfl (l' := #[iv p0, iv p1, iv p2, iv p3, .val (.long p4), ss, iv p5, iv ap, iv bp, iv ad, iv bd, iv 0, iv 2, iv c0_, iv c1_, iv sc, iv e0_, iv e1_, rv sa, rv sb, rv pa, rv pb, iv wh, rv sa]) rfl (zB X hx hby at_258 rfl rfl rfl (zB X hx hby at_260 rfl rfl rfl kt)))) ?_
                      have E_sa := ((E_sa.ext E48).keep K49.1)
                      have Oh := K.old O0 all0
                      have E_pa := (E_pa.keep K49.1)
                      obtain ⟨T, L54, X, e0, K, st⟩ := (cs24 hw).pure X hx hZ hown e0 K (A := [(.ref pa), (.ref sa)]) ⟨rfl, _, _, rfl, E_pa⟩ (rET l Z a0 hw [] pa sa h Oh E_sa) (W := 0) (by decide) hml (Ls := #[iv p0, iv p1, iv p2, iv p3, .val (.long p4), ss, iv p5, iv ap, iv bp, iv ad, iv bd, iv 0, iv 2, iv c0_, iv c1_, iv sc, iv e0_, iv e1_, rv sa, rv sb, rv pa, rv pb, iv wh, rv sa]) rfl (rest := []) rfl rfl hby at_262
                      refine oWk.to (mkF m 273 #[iv p0, iv p1, iv p2, iv p3, .val (.long p4), ss, iv p5, iv ap, iv bp, iv ad, iv bd, iv 0, iv 2, iv c0_, iv c1_, iv sc, iv e0_, iv e1_, rv sa, rv sb, rv pa, rv pb, iv wh, rv sa] [(.int 1)]) (fun _ kt => st _ (zH X hx hby at_265 rfl rfl ((if0 _ _).trans (teq (by decide)).2) (zK X hx hby at_268 rfl (zG X hx hby at_269 rfl (pc' := 273) rfl kt)))) ?_
                      exact oRetH X hx hlk hZ (oELw hw) e0 B hret (oNar01 (Or.inr rfl)) (Or.inl ⟨rfl, Or.inr (Or.inl rfl), _, rfl⟩) (hb hby at_273) (by rw [e0]; exact ⟨rfl, K.fr⟩) (by decide) (by decide)
                    · refine oWk.to (mkF m 274 #[iv p0, iv p1, iv p2, iv p3, .val (.long p4), ss, iv p5, iv ap, iv bp, iv ad, iv bd, iv 0, iv 2, iv c0_, iv c1_, iv sc, iv e0_, iv e1_, rv sa, rv sb, rv pa, rv pb, iv wh, uu] []) (fun _ kt => zY X hx hby at_251 rfl rfl (feq hc251).2 (pc' := 274) rfl kt) ?_
                      refine oWk.to (mkF m 277 #[iv p0, iv p1, iv p2, iv p3, .val (.long p4), ss, iv p5, iv ap, iv bp, iv ad, iv bd, iv 0, iv 2, iv c0_, iv c1_, iv sc, iv e0_, iv e1_, rv sa, rv sb, rv pa, rv pb, iv wh, uu] [(.int 3), (.int wh)]) (fun _ kt => zJ X hx hby at_274 rfl rfl (zK X hx hby at_276 rfl kt)) ?_
                      by_cases hc277 : wh = (3 : Int32)
                      · refine oWk.to (mkF m 280 #[iv p0, iv p1, iv p2, iv p3, .val (.long p4), ss, iv p5, iv ap, iv bp, iv ad, iv bd, iv 0, iv 2, iv c0_, iv c1_, iv sc, iv e0_, iv e1_, rv sa, rv sb, rv pa, rv pb, iv wh, uu] []) (fun _ kt => zN X hx hby at_277 rfl rfl (teq hc277).2 kt) ?_
                        refine oWk.st (fun _ kt => zB X hx hby at_280 rfl rfl rfl (zB X hx hby at_282 rfl rfl rfl kt)) ?_
                        have E_pa := (E_pa.keep K49.1)
                        have F_position_pa := ((F_position_pa.ext E48).keep K49.1 (ninS ne_pa_pb nin0))
                        have F_deleteCount_pa := ((F_deleteCount_pa.ext E48).keep K49.1 (ninS ne_pa_pb nin0))
                        have F_insertion_pa := ((F_insertion_pa.ext E48).keep K49.1 (ninS ne_pa_pb nin0))
                        have E_sa := ((E_sa.ext E48).keep K49.1)
                        have Oh := K.old O0 all0
                        obtain ⟨T, L56, X, e0, K, st⟩ := (cs24 hw).pure X hx hZ hown e0 K (A := [(.ref pa), (.ref pa)]) ⟨rfl, _, _, rfl, E_pa⟩ (rEI l Z a0 hw [] pa ap ad sa h Oh E_pa F_position_pa F_deleteCount_pa F_insertion_pa E_sa) (W := 0) (by decide) hml (Ls := #[iv p0, iv p1, iv p2, iv p3, .val (.long p4), ss, iv p5, iv ap, iv bp, iv ad, iv bd, iv 0, iv 2, iv c0_, iv c1_, iv sc, iv e0_, iv e1_, rv sa, rv sb, rv pa, rv pb, iv wh, uu]) rfl (rest := []) rfl rfl hby at_284
                        refine oWk.to (mkF m 287 #[iv p0, iv p1, iv p2, iv p3, .val (.long p4), ss, iv p5, iv ap, iv bp, iv ad, iv bd, iv 0, iv 2, iv c0_, iv c1_, iv sc, iv e0_, iv e1_, rv sa, rv sb, rv pa, rv pb, iv wh, uu] [(.int 1)]) (fun _ kt => st _ kt) ?_
                        exact oRetH X hx hlk hZ (oELw hw) e0 B hret (oNar01 (Or.inr rfl)) (Or.inl ⟨rfl, Or.inr (Or.inl rfl), _, rfl⟩) (hb hby at_287) (by rw [e0]; exact ⟨rfl, K.fr⟩) (by decide) (by decide)
                      · refine oWk.to (mkF m 288 #[iv p0, iv p1, iv p2, iv p3, .val (.long p4), ss, iv p5, iv ap, iv bp, iv ad, iv bd, iv 0, iv 2, iv c0_, iv c1_, iv sc, iv e0_, iv e1_, rv sa, rv sb, rv pa, rv pb, iv wh, uu] []) (fun _ kt => zY X hx hby at_277 rfl rfl (feq hc277).2 (pc' := 288) rfl kt) ?_
                        refine oWk.to (mkF m 292 #[iv p0, iv p1, iv p2, iv p3, .val (.long p4), ss, iv p5, iv ap, iv bp, iv ad, iv bd, iv 0, iv 2, iv c0_, iv c1_, iv sc, iv e0_, iv e1_, rv sa, rv sb, rv pa, rv pb, iv wh, uu] [(.int bp), (.int ap)]) (fun _ kt => zJ X hx hby at_288 rfl rfl (zJ X hx hby at_290 rfl rfl kt)) ?_
                        have J340 : ∀ (ex : Int32), ex = (0 : Int32) → oWk p.tables e below (oDnH Z oEL s h0 below (Q_rLaw Z p0 p1 p2 p3 p4 p5 xfm xz h0) room_1.cells room_1.slots) T (mkF m 340 #[iv p0, iv p1, iv p2, iv p3, .val (.long p4), ss, iv p5, iv ap, iv bp, iv ad, iv bd, iv 0, iv 2, iv c0_, iv c1_, iv sc, iv e0_, iv e1_, rv sa, rv sb, rv pa, rv pb, iv wh, uu] [(.int ex)]) := by
                          intro ex hex
                          refine oWk.st (fun _ kt => zS X hx hby at_340 rfl rfl (l' := #[iv p0, iv p1, iv p2, iv p3, .val (.long p4), ss, iv p5, iv ap, iv bp, iv ad, iv bd, iv 0, iv 2, iv c0_, iv c1_, iv sc, iv e0_, iv e1_, rv sa, rv sb, rv pa, rv pb, iv wh, iv ex]) rfl (zB X hx hby at_342 rfl rfl rfl (zB X hx hby at_344 rfl rfl rfl kt))) ?_
                          have E_pa := (E_pa.keep K49.1)
                          have F_position_pa := ((F_position_pa.ext E48).keep K49.1 (ninS ne_pa_pb nin0))
                          have F_deleteCount_pa := ((F_deleteCount_pa.ext E48).keep K49.1 (ninS ne_pa_pb nin0))
                          have F_insertion_pa := ((F_insertion_pa.ext E48).keep K49.1 (ninS ne_pa_pb nin0))
                          have E_sb := (E_sb.keep K49.1)
                          have F_coder_sb := (F_coder_sb.keep K49.1 (ninS ne_sb_pb nin0))
                          have F_value_sb := (F_value_sb.keep K49.1 (ninS ne_sb_pb nin0))
                          have V_sbb := (V_sbb.keep K49.1 (ninS ne_sbb_pb nin0))
                          have E_sa := ((E_sa.ext E48).keep K49.1)
                          have F_coder_sa := (((F_coder_sa.keep K46.1 (ninS ne_sa_pa nin0)).ext E48).keep K49.1 (ninS ne_sa_pb nin0))
                          have F_value_sa := (((F_value_sa.keep K46.1 (ninS ne_sa_pa nin0)).ext E48).keep K49.1 (ninS ne_sa_pb nin0))
                          have V_sab := ((V_sab.ext E48).keep K49.1 (ninS ne_sab_pb nin0))
                          have Oh := K.old O0 all0
                          obtain ⟨T, L58, X, e0, K, st⟩ := (cs24 hw).pure X hx hZ hown e0 K (A := [(.ref pa), (.ref pb)]) ⟨rfl, _, _, rfl, E_pa⟩ (rED_2_0 l Z a0 hw [] pa ap ad pb bp bd sb sbb sbk sa sab sak xz e0_ e1_ h Oh S_Z hz E_pa F_position_pa F_deleteCount_pa F_insertion_pa E_pb F_position_pb F_deleteCount_pb F_insertion_pb (Ne.symm ne_sa_sb) E_sb F_coder_sb F_value_sb V_sbb E_sa F_coder_sa F_value_sa V_sab) (W := 0) (by decide) hml (Ls := #[iv p0, iv p1, iv p2, iv p3, .val (.long p4), ss, iv p5, iv ap, iv bp, iv ad, iv bd, iv 0, iv 2, iv c0_, iv c1_, iv sc, iv e0_, iv e1_, rv sa, rv sb, rv pa, rv pb, iv wh, iv ex]) rfl (rest := []) rfl rfl hby at_346
                          refine oWk.to (mkF m 351 #[iv p0, iv p1, iv p2, iv p3, .val (.long p4), ss, iv p5, iv ap, iv bp, iv ad, iv bd, iv 0, iv 2, iv c0_, iv c1_, iv sc, iv e0_, iv e1_, rv sa, rv sb, rv pa, rv pb, iv wh, iv ex] [(.int ex), (.int 0)]) (fun _ kt => st _ (zJ X hx hby at_349 rfl rfl kt)) ?_
                          refine oWk.st (fun _ kt => zN X hx hby at_351 rfl rfl (teq hex.symm).2 (zB X hx hby at_354 rfl rfl rfl (zB X hx hby at_356 rfl rfl rfl kt))) ?_
                          obtain ⟨T, L60, X, e0, K, st⟩ := (cs24 hw).pure X hx hZ hown e0 K (A := [(.ref pb), (.ref pa)]) ⟨rfl, _, _, rfl, E_pb⟩ (rED_0_2 l Z a0 hw [] pb bp bd pa ap ad sa sab sak sb sbb sbk xz e0_ e1_ h Oh S_Z hz E_pb F_position_pb F_deleteCount_pb F_insertion_pb E_pa F_position_pa F_deleteCount_pa F_insertion_pa ne_sa_sb E_sa F_coder_sa F_value_sa V_sab E_sb F_coder_sb F_value_sb V_sbb) (W := 0) (by decide) hml (Ls := #[iv p0, iv p1, iv p2, iv p3, .val (.long p4), ss, iv p5, iv ap, iv bp, iv ad, iv bd, iv 0, iv 2, iv c0_, iv c1_, iv sc, iv e0_, iv e1_, rv sa, rv sb, rv pa, rv pb, iv wh, iv ex]) rfl (rest := []) rfl rfl hby at_358
                          refine oWk.to (mkF m 363 #[iv p0, iv p1, iv p2, iv p3, .val (.long p4), ss, iv p5, iv ap, iv bp, iv ad, iv bd, iv 0, iv 2, iv c0_, iv c1_, iv sc, iv e0_, iv e1_, rv sa, rv sb, rv pa, rv pb, iv wh, iv ex] [(.int ex), (.int 0)]) (fun _ kt => st _ (zJ X hx hby at_361 rfl rfl kt)) ?_
                          refine oWk.to (mkF m 371 #[iv p0, iv p1, iv p2, iv p3, .val (.long p4), ss, iv p5, iv ap, iv bp, iv ad, iv bd, iv 0, iv 2, iv c0_, iv c1_, iv sc, iv e0_, iv e1_, rv sa, rv sb, rv pa, rv pb, iv wh, iv ex] [(.int 1)]) (fun _ kt => zN X hx hby at_363 rfl rfl (teq hex.symm).2 (zK X hx hby at_366 rfl (zG X hx hby at_367 rfl (pc' := 371) rfl kt))) ?_
                          exact oRetH X hx hlk hZ (oELw hw) e0 B hret (oNar01 (Or.inr rfl)) (Or.inl ⟨rfl, Or.inr (Or.inl rfl), _, rfl⟩) (hb hby at_371) (by rw [e0]; exact ⟨rfl, K.fr⟩) (by decide) (by decide)
                        by_cases hc292 : ap = bp
                        · refine oWk.to (mkF m 295 #[iv p0, iv p1, iv p2, iv p3, .val (.long p4), ss, iv p5, iv ap, iv bp, iv ad, iv bd, iv 0, iv 2, iv c0_, iv c1_, iv sc, iv e0_, iv e1_, rv sa, rv sb, rv pa, rv pb, iv wh, uu] []) (fun _ kt => zN X hx hby at_292 rfl rfl (teq hc292).2 kt) ?_
                          refine oWk.to (mkF m 299 #[iv p0, iv p1, iv p2, iv p3, .val (.long p4), ss, iv p5, iv ap, iv bp, iv ad, iv bd, iv 0, iv 2, iv c0_, iv c1_, iv sc, iv e0_, iv e1_, rv sa, rv sb, rv pa, rv pb, iv wh, uu] [(.int bd), (.int ad)]) (fun _ kt => zJ X hx hby at_295 rfl rfl (zJ X hx hby at_297 rfl rfl kt)) ?_
                          by_cases hc299 : ad = bd
                          · refine oWk.to (mkF m 302 #[iv p0, iv p1, iv p2, iv p3, .val (.long p4), ss, iv p5, iv ap, iv bp, iv ad, iv bd, iv 0, iv 2, iv c0_, iv c1_, iv sc, iv e0_, iv e1_, rv sa, rv sb, rv pa, rv pb, iv wh, uu] []) (fun _ kt => zN X hx hby at_299 rfl rfl (teq hc299).2 kt) ?_
                            refine oWk.to (mkF m 340 #[iv p0, iv p1, iv p2, iv p3, .val (.long p4), ss, iv p5, iv ap, iv bp, iv ad, iv bd, iv 0, iv 2, iv c0_, iv c1_, iv sc, iv e0_, iv e1_, rv sa, rv sb, rv pa, rv pb, iv wh, uu] [(.int 0)]) (fun _ kt => zJ X hx hby at_302 rfl rfl (zJ X hx hby at_304 rfl rfl (zY X hx hby at_306 rfl rfl (feq (by decide)).2 (pc' := 339) rfl (zK X hx hby at_339 rfl kt)))) ?_
                            exact J340 _ rfl
                          · refine oWk.to (mkF m 339 #[iv p0, iv p1, iv p2, iv p3, .val (.long p4), ss, iv p5, iv ap, iv bp, iv ad, iv bd, iv 0, iv 2, iv c0_, iv c1_, iv sc, iv e0_, iv e1_, rv sa, rv sb, rv pa, rv pb, iv wh, uu] []) (fun _ kt => zY X hx hby at_299 rfl rfl (feq hc299).2 (pc' := 339) rfl kt) ?_
                            refine oWk.to (mkF m 340 #[iv p0, iv p1, iv p2, iv p3, .val (.long p4), ss, iv p5, iv ap, iv bp, iv ad, iv bd, iv 0, iv 2, iv c0_, iv c1_, iv sc, iv e0_, iv e1_, rv sa, rv sb, rv pa, rv pb, iv wh, uu] [(.int 0)]) (fun _ kt => zK X hx hby at_339 rfl kt) ?_
                            exact J340 _ rfl
                        · refine oWk.to (mkF m 339 #[iv p0, iv p1, iv p2, iv p3, .val (.long p4), ss, iv p5, iv ap, iv bp, iv ad, iv bd, iv 0, iv 2, iv c0_, iv c1_, iv sc, iv e0_, iv e1_, rv sa, rv sb, rv pa, rv pb, iv wh, uu] []) (fun _ kt => zY X hx hby at_292 rfl rfl (feq hc292).2 (pc' := 339) rfl kt) ?_
                          refine oWk.to (mkF m 340 #[iv p0, iv p1, iv p2, iv p3, .val (.long p4), ss, iv p5, iv ap, iv bp, iv ad, iv bd, iv 0, iv 2, iv c0_, iv c1_, iv sc, iv e0_, iv e1_, rv sa, rv sb, rv pa, rv pb, iv wh, uu] [(.int 0)]) (fun _ kt => zK X hx hby at_339 rfl kt) ?_
                          exact J340 _ rfl
              · show oWk _ _ _ _ T (mkF m 166 #[iv p0, iv p1, iv p2, iv p3, .val (.long p4), ss, iv p5, iv ap, iv bp, iv ad, iv bd, iv 1, iv lb, iv c0_, iv c1_, iv sc, iv e0_, iv e1_, uu, uu, uu, uu, uu, uu] [])
                rcases hlb with rfl | rfl | rfl
                · show oWk _ _ _ _ T (mkF m 166 #[iv p0, iv p1, iv p2, iv p3, .val (.long p4), ss, iv p5, iv ap, iv bp, iv ad, iv bd, iv 1, iv 0, iv c0_, iv c1_, iv sc, iv e0_, iv e1_, uu, uu, uu, uu, uu, uu] [])
                  refine oWk.st (fun _ kt => zJ X hx hby at_166 rfl rfl (zJ X hx hby at_168 rfl rfl (zJ X hx hby at_170 rfl rfl kt))) ?_
                  have Oh := K.old O0 all0
                  obtain ⟨_, T, h, Lc62, X, e0, hQ, st⟩ := (cs25 hw).run X hx hZ hown e0 (A := [(.int (1 : Int32)), (.int c0_), (.int c1_)]) rfl (rStr_1 l Z a0 hw [] c0_ c1_ xz h0 Oh S_Z hz r_c0_) (W := 0) (by decide) hml (Ls := #[iv p0, iv p1, iv p2, iv p3, .val (.long p4), ss, iv p5, iv ap, iv bp, iv ad, iv bd, iv 1, iv 0, iv c0_, iv c1_, iv sc, iv e0_, iv e1_, uu, uu, uu, uu, uu, uu]) rfl (rest := []) rfl rfl hby at_172
                  obtain ⟨sa, sab, sak, rfl, K61, gn_sa, gn_sab, E_sa, F_coder_sa, F_value_sa, V_sab⟩ := hQ
                  have ge_sa := Nat.le_trans K.le gn_sa
                  have ge_sab := Nat.le_trans K.le gn_sab
                  have K := K.call K61 all0
                  have B := B.keep K61.1 sf0
                  refine oWk.st (fun _ kt => st _ (zT X hx hby at_175 rfl rfl rfl (l' := #[iv p0, iv p1, iv p2, iv p3, .val (.long p4), ss, iv p5, iv ap, iv bp, iv ad, iv bd, iv 1, iv 0, iv c0_, iv c1_, iv sc, iv e0_, iv e1_, rv sa, uu, uu, uu, uu, uu]) rfl (zJ X hx hby at_177 rfl rfl (zJ X hx hby at_179 rfl rfl (zJ X hx hby at_181 rfl rfl kt))))) ?_
                  have lt_sa := E_sa.lt
                  have lt_sab := V_sab.lt
                  have Oh := K.old O0 all0
                  obtain ⟨_, _, ⟨T, L64, k64, n64⟩, -, X, hS, hgr, ⟨Lc64, hQ, l64, y64, z64, C⟩, st⟩ := callSS X hx (y := yy2) hown (mvT hZ (oW hw 2 rfl)) (mvT hZ (oW hw 3 rfl)) (mvT hZ (oW hw 4 rfl)) (mvT hZ (oW hw 5 rfl)) (by decide) (oBackH (W := 0) (rStr_0 l Z a0 hw [] e0_ e1_ xz h Oh S_Z hz) hZ (oW hw 5 rfl) (oW hw 4 rfl) (by decide) (by decide) (oELw hw) B.2.1 all0) (g := (mkF m 183 #[iv p0, iv p1, iv p2, iv p3, .val (.long p4), ss, iv p5, iv ap, iv bp, iv ad, iv bd, iv 1, iv 0, iv c0_, iv c1_, iv sc, iv e0_, iv e1_, rv sa, uu, uu, uu, uu, uu] [(.int e1_), (.int e0_), (.int 0)])) rfl (by rw [hml]; rfl) (argsL := [(.int (0 : Int32)), (.int e0_), (.int e1_)]) (rest := []) (lenOf pd_21 rfl) rfl (Nat.le_of_eq rfl) (hb hby at_183) (fun _ _ => ⟨rfl, e0, (by decide : 3 + 6 ≤ _), (by decide : 6 + 12 ≤ _)⟩)
                  dsimp only [Pt.U, Pt.locs, Pt.cells, Pt.slots] at X l64 y64 z64 st hQ C hS hgr
                  subst l64 y64 z64
                  have X : Stand p l e _ (s.setVm T.vm) m _ below meth c T _ _ _ := X
                  obtain ⟨h, e2⟩ : ∃ z, T.heap = z := ⟨_, rfl⟩
                  have B := B.call e0 hS hgr C e2
                  obtain ⟨hZ, hown⟩ := oWide hZ hown hS
                  rw [e2] at hQ C
                  have e0 := e2
                  obtain ⟨sb, sbb, sbk, rfl, K63, gn_sb, E_sb, F_coder_sb, F_value_sb, V_sbb⟩ := hQ
                  have ge_sb := Nat.le_trans K.le gn_sb
                  have ne_sa_sb : sa ≠ sb := Nat.ne_of_lt (Nat.lt_of_lt_of_le lt_sa gn_sb)
                  have ne_sab_sb : sab ≠ sb := Nat.ne_of_lt (Nat.lt_of_lt_of_le lt_sab gn_sb)
                  have K := K.call K63 all0
                  refine oWk.st (fun _ kt => st.trans (zT X hx hby at_186 rfl rfl rfl (l' := #[iv p0, iv p1, iv p2, iv p3, .val (.long p4), ss, iv p5, iv ap, iv bp, iv ad, iv bd, iv 1, iv 0, iv c0_, iv c1_, iv sc, iv e0_, iv e1_, rv sa, rv sb, uu, uu, uu, uu]) rfl kt)) ?_
                  obtain ⟨pa, g65⟩ : ∃ z, z = h.size := ⟨_, rfl⟩
                  have E_sa := (E_sa.keep K63.1)
                  have ne_sa_pa : sa ≠ pa := Nat.ne_of_lt (Nat.lt_of_lt_of_le E_sa.lt (Nat.le_of_eq g65.symm))
                  have V_sab := (V_sab.keep K63.1 nin0)
                  have ne_sab_pa : sab ≠ pa := Nat.ne_of_lt (Nat.lt_of_lt_of_le V_sab.lt (Nat.le_of_eq g65.symm))
                  have ne_sb_pa : sb ≠ pa := Nat.ne_of_lt (Nat.lt_of_lt_of_le E_sb.lt (Nat.le_of_eq g65.symm))
                  have ne_sbb_pa : sbb ≠ pa := Nat.ne_of_lt (Nat.lt_of_lt_of_le V_sbb.lt (Nat.le_of_eq g65.symm))
                  have ge_pa : h0.size ≤ pa := Nat.le_trans K.le (Nat.le_of_eq g65.symm)
                  have sf_pa := B.new (Nat.le_of_eq g65.symm)
                  obtain ⟨T, h, X, e0, E65, A65, D65, -, st⟩ := newO X hx hZ hown (oW hw 28 rfl) (oW hw 29 rfl) (oW hw 30 rfl) e0 (g := (mkF m 188 #[iv p0, iv p1, iv p2, iv p3, .val (.long p4), ss, iv p5, iv ap, iv bp, iv ad, iv bd, iv 1, iv 0, iv c0_, iv c1_, iv sc, iv e0_, iv e1_, rv sa, rv sb, uu, uu, uu, uu] [])) rfl (hb hby at_188) (by decide) (by decide)
                  rw [← g65] at A65 D65 st
                  have K := K.ext E65
                  have sf_pa := Safe.ext E65 B.2.1 sf_pa
                  have B := B.ext E65
                  have E_pa := A65
                  have F_position_pa : Fld Z h pa Y1 "position" "I" (.int (0 : Int32)) := D65 (Or.inr (oW hw 60 rfl)) (ty := .int) (by decide)
                  have F_deleteCount_pa : Fld Z h pa Y1 "deleteCount" "I" (.int (0 : Int32)) := D65 (Or.inr (oW hw 62 rfl)) (ty := .int) (by decide)
                  have F_insertion_pa : Fld Z h pa Y1 "insertion" Y3 .null := D65 (Or.inr (oW hw 64 rfl)) (ty := (.object Y0)) (by decide)
                  have F_insertionLength_pa : Fld Z h pa Y1 Y4 "I" (.int (0 : Int32)) := D65 (Or.inr (oW hw 85 rfl)) (ty := .int) (by decide)
                  refine oWk.st (fun _ kt => st _ (zD X hx hby at_191 rfl rfl rfl (zJ X hx hby at_192 rfl rfl (zJ X hx hby at_194 rfl rfl (zB X hx hby at_196 rfl rfl rfl kt))))) ?_
                  have E_sa := (E_sa.ext E65)
                  have F_coder_sa := ((F_coder_sa.keep K63.1 nin0).ext E65)
                  have F_value_sa := ((F_value_sa.keep K63.1 nin0).ext E65)
                  have V_sab := (V_sab.ext E65)
                  have Oh := K.old O0 all0
                  obtain ⟨_, _, ⟨T, L67, k67, n67⟩, -, X, hS, hgr, ⟨Lc67, hQ, l67, y67, z67, C⟩, st⟩ := X.specialBackS hx (y := yy17) rfl hown (mvT hZ (oW hw 31 rfl)) (mvT hZ (oW hw 32 rfl)) (mvT hZ (oW hw 33 rfl)) (by decide) (oBackH (W := 1) (rPI_1 l Z a0 hw [] pa ap ad (.int (0 : Int32)) (.int (0 : Int32)) .null (.int (0 : Int32)) sa sab sak xfm xz c0_ h Oh S_Z hz S_F hcat (Nat.le_trans O0.1 ge_pa) E_pa F_position_pa F_deleteCount_pa F_insertion_pa F_insertionLength_pa E_sa F_coder_sa F_value_sa V_sab r_c0_ ne_sa_pa ne_sab_pa hap had) hZ (oW hw 33 rfl) (oW hw 30 rfl) (by decide) (by decide) (oELw hw) B.2.1 (allS ⟨E_pa.lt, sf_pa⟩ all0)) (g := (mkF m 198 #[iv p0, iv p1, iv p2, iv p3, .val (.long p4), ss, iv p5, iv ap, iv bp, iv ad, iv bd, iv 1, iv 0, iv c0_, iv c1_, iv sc, iv e0_, iv e1_, rv sa, rv sb, uu, uu, uu, uu] [(.ref sa), (.int ad), (.int ap), (.ref pa), (.ref pa)])) rfl (by rw [hml]; rfl) (Steps.refl _) (a := pa) (argsL := [(.int ap), (.int ad), (.ref sa)]) (rest := [(.ref pa)]) (lenOf pd_22 rfl) rfl (Nat.le_of_eq rfl) (hb hby at_198) (fun _ _ => ⟨rfl, e0, (by decide : 10 + 4 ≤ _), (by decide : 22 + 112 ≤ _)⟩)
                  dsimp only [Pt.U, Pt.locs, Pt.cells, Pt.slots] at X l67 y67 z67 st hQ C hS hgr
                  subst l67 y67 z67
                  have X : Stand p l e _ (s.setVm T.vm) m _ below meth c T _ _ _ := X
                  obtain ⟨h, e2⟩ : ∃ z, T.heap = z := ⟨_, rfl⟩
                  have B := B.call e0 hS hgr C e2
                  obtain ⟨hZ, hown⟩ := oWide hZ hown hS
                  rw [e2] at hQ C
                  have sf_pa := C.safe E_pa.lt sf_pa
                  have e0 := e2
                  obtain ⟨rfl, K66, E_pa, F_position_pa, F_deleteCount_pa, F_insertion_pa⟩ := hQ
                  have K := K.call K66 (allS (Or.inr ge_pa) all0)
                  refine oWk.st (fun _ kt => st.trans (zT X hx hby at_201 rfl rfl rfl (l' := #[iv p0, iv p1, iv p2, iv p3, .val (.long p4), ss, iv p5, iv ap, iv bp, iv ad, iv bd, iv 1, iv 0, iv c0_, iv c1_, iv sc, iv e0_, iv e1_, rv sa, rv sb, rv pa, uu, uu, uu]) rfl kt)) ?_
                  obtain ⟨pb, g68⟩ : ∃ z, z = h.size := ⟨_, rfl⟩
                  have E_sa := (E_sa.keep K66.1)
                  have ne_sa_pb : sa ≠ pb := Nat.ne_of_lt (Nat.lt_of_lt_of_le E_sa.lt (Nat.le_of_eq g68.symm))
                  have V_sab := (V_sab.keep K66.1 (ninS ne_sab_pa nin0))
                  have ne_sab_pb : sab ≠ pb := Nat.ne_of_lt (Nat.lt_of_lt_of_le V_sab.lt (Nat.le_of_eq g68.symm))
                  have E_sb := ((E_sb.ext E65).keep K66.1)
                  have ne_sb_pb : sb ≠ pb := Nat.ne_of_lt (Nat.lt_of_lt_of_le E_sb.lt (Nat.le_of_eq g68.symm))
                  have V_sbb := ((V_sbb.ext E65).keep K66.1 (ninS ne_sbb_pa nin0))
                  have ne_sbb_pb : sbb ≠ pb := Nat.ne_of_lt (Nat.lt_of_lt_of_le V_sbb.lt (Nat.le_of_eq g68.symm))
                  have ne_pa_pb : pa ≠ pb := Nat.ne_of_lt (Nat.lt_of_lt_of_le E_pa.lt (Nat.le_of_eq g68.symm))
                  have ge_pb : h0.size ≤ pb := Nat.le_trans K.le (Nat.le_of_eq g68.symm)
                  have sf_pb := B.new (Nat.le_of_eq g68.symm)
                  obtain ⟨T, h, X, e0, E68, A68, D68, -, st⟩ := newO X hx hZ hown (oW hw 28 rfl) (oW hw 29 rfl) (oW hw 30 rfl) e0 (g := (mkF m 203 #[iv p0, iv p1, iv p2, iv p3, .val (.long p4), ss, iv p5, iv ap, iv bp, iv ad, iv bd, iv 1, iv 0, iv c0_, iv c1_, iv sc, iv e0_, iv e1_, rv sa, rv sb, rv pa, uu, uu, uu] [])) rfl (hb hby at_203) (by decide) (by decide)
                  rw [← g68] at A68 D68 st
                  have K := K.ext E68
                  have sf_pa := Safe.ext E68 B.2.1 sf_pa
                  have sf_pb := Safe.ext E68 B.2.1 sf_pb
                  have B := B.ext E68
                  have E_pb := A68
                  have F_position_pb : Fld Z h pb Y1 "position" "I" (.int (0 : Int32)) := D68 (Or.inr (oW hw 60 rfl)) (ty := .int) (by decide)
                  have F_deleteCount_pb : Fld Z h pb Y1 "deleteCount" "I" (.int (0 : Int32)) := D68 (Or.inr (oW hw 62 rfl)) (ty := .int) (by decide)
                  have F_insertion_pb : Fld Z h pb Y1 "insertion" Y3 .null := D68 (Or.inr (oW hw 64 rfl)) (ty := (.object Y0)) (by decide)
                  have F_insertionLength_pb : Fld Z h pb Y1 Y4 "I" (.int (0 : Int32)) := D68 (Or.inr (oW hw 85 rfl)) (ty := .int) (by decide)
                  refine oWk.st (fun _ kt => st _ (zD X hx hby at_206 rfl rfl rfl (zJ X hx hby at_207 rfl rfl (zJ X hx hby at_209 rfl rfl (zB X hx hby at_211 rfl rfl rfl kt))))) ?_
                  have E_sb := (E_sb.ext E68)
                  have F_coder_sb := (((F_coder_sb.ext E65).keep K66.1 (ninS ne_sb_pa nin0)).ext E68)
                  have F_value_sb := (((F_value_sb.ext E65).keep K66.1 (ninS ne_sb_pa nin0)).ext E68)
                  have V_sbb := (V_sbb.ext E68)
                  have Oh := K.old O0 all0
                  have E_pa := (E_pa.ext E68)
                  obtain ⟨_, _, ⟨T, L70, k70, n70⟩, -, X, hS, hgr, ⟨Lc70, hQ, l70, y70, z70, C⟩, st⟩ := X.specialBackS hx (y := yy17) rfl hown (mvT hZ (oW hw 31 rfl)) (mvT hZ (oW hw 32 rfl)) (mvT hZ (oW hw 33 rfl)) (by decide) (oBackH (W := 1) (rPI_0 l Z a0 hw [] pb bp bd (.int (0 : Int32)) (.int (0 : Int32)) .null (.int (0 : Int32)) sb sbb sbk xfm xz h Oh S_Z hz S_F hcat (Nat.le_trans O0.1 ge_pb) E_pb F_position_pb F_deleteCount_pb F_insertion_pb F_insertionLength_pb E_sb F_coder_sb F_value_sb V_sbb ne_sb_pb ne_sbb_pb hbp hbd) hZ (oW hw 33 rfl) (oW hw 30 rfl) (by decide) (by decide) (oELw hw) B.2.1 (allS ⟨E_pb.lt, sf_pb⟩ all0)) (g := (mkF m 213 #[iv p0, iv p1, iv p2, iv p3, .val (.long p4), ss, iv p5, iv ap, iv bp, iv ad, iv bd, iv 1, iv 0, iv c0_, iv c1_, iv sc, iv e0_, iv e1_, rv sa, rv sb, rv pa, uu, uu, uu] [(.ref sb), (.int bd), (.int bp), (.ref pb), (.ref pb)])) rfl (by rw [hml]; rfl) (Steps.refl _) (a := pb) (argsL := [(.int bp), (.int bd), (.ref sb)]) (rest := [(.ref pb)]) (lenOf pd_22 rfl) rfl (Nat.le_of_eq rfl) (hb hby at_213) (fun _ _ => ⟨rfl, e0, (by decide : 15 + 4 ≤ _), (by decide : 138 + 112 ≤ _)⟩)
                  dsimp only [Pt.U, Pt.locs, Pt.cells, Pt.slots] at X l70 y70 z70 st hQ C hS hgr
                  subst l70 y70 z70
                  have X : Stand p l e _ (s.setVm T.vm) m _ below meth c T _ _ _ := X
                  obtain ⟨h, e2⟩ : ∃ z, T.heap = z := ⟨_, rfl⟩
                  have B := B.call e0 hS hgr C e2
                  obtain ⟨hZ, hown⟩ := oWide hZ hown hS
                  rw [e2] at hQ C
                  have sf_pa := C.safe E_pa.lt sf_pa
                  have sf_pb := C.safe E_pb.lt sf_pb
                  have e0 := e2
                  obtain ⟨rfl, K69, E_pb, F_position_pb, F_deleteCount_pb, F_insertion_pb⟩ := hQ
                  have K := K.call K69 (allS (Or.inr ge_pb) all0)
                  refine oWk.to (mkF m 225 #[iv p0, iv p1, iv p2, iv p3, .val (.long p4), ss, iv p5, iv ap, iv bp, iv ad, iv bd, iv 1, iv 0, iv c0_, iv c1_, iv sc, iv e0_, iv e1_, rv sa, rv sb, rv pa, rv pb, uu, uu] [(.int (((p5.toUInt32 >>> ((8 : Int32) &&& 31).toUInt32).toInt32) &&& (3 : Int32)))]) (fun _ kt => st.trans (zT X hx hby at_216 rfl rfl rfl (l' := #[iv p0, iv p1, iv p2, iv p3, .val (.long p4), ss, iv p5, iv ap, iv bp, iv ad, iv bd, iv 1, iv 0, iv c0_, iv c1_, iv sc, iv e0_, iv e1_, rv sa, rv sb, rv pa, rv pb, uu, uu]) rfl (zJ X hx hby at_218 rfl rfl (zL X hx hby at_220 rfl (XS.iushr X.here hx rfl (hb hby at_222) rfl (zK X hx hby at_223 rfl (XS.iand X.here hx rfl (hb hby at_224) rfl kt))))))) ?_
                  generalize hwh : (((p5.toUInt32 >>> ((8 : Int32) &&& 31).toUInt32).toInt32) &&& (3 : Int32)) = wh
                  show oWk _ _ _ _ T (mkF m 225 #[iv p0, iv p1, iv p2, iv p3, .val (.long p4), ss, iv p5, iv ap, iv bp, iv ad, iv bd, iv 1, iv 0, iv c0_, iv c1_, iv sc, iv e0_, iv e1_, rv sa, rv sb, rv pa, rv pb, uu, uu] [(.int wh)])
                  refine oWk.to (mkF m 230 #[iv p0, iv p1, iv p2, iv p3, .val (.long p4), ss, iv p5, iv ap, iv bp, iv ad, iv bd, iv 1, iv 0, iv c0_, iv c1_, iv sc, iv e0_, iv e1_, rv sa, rv sb, rv pa, rv pb, iv wh, uu] [(.int 1), (.int wh)]) (fun _ kt => zS X hx hby at_225 rfl rfl (l' := #[iv p0, iv p1, iv p2, iv p3, .val (.long p4), ss, iv p5, iv ap, iv bp, iv ad, iv bd, iv 1, iv 0, iv c0_, iv c1_, iv sc, iv e0_, iv e1_, rv sa, rv sb, rv pa, rv pb, iv wh, uu]) rfl (zJ X hx hby at_227 rfl rfl (zK X hx hby at_229 rfl kt))) ?_
                  by_cases hc230 : wh = (1 : Int32)
                  · refine oWk.to (mkF m 233 #[iv p0, iv p1, iv p2, iv p3, .val (.long p4), ss, iv p5, iv ap, iv bp, iv ad, iv bd, iv 1, iv 0, iv c0_, iv c1_, iv sc, iv e0_, iv e1_, rv sa, rv sb, rv pa, rv pb, iv wh, uu] []) (fun _ kt => zN X hx hby at_230 rfl rfl (teq hc230).2 kt) ?_
                    refine oWk.st (fun _ kt => zB X hx hby at_233 rfl rfl rfl (XS.aconstNull X.here hx rfl (hb hby at_235) kt)) ?_
                    have Oh := K.old O0 all0
                    have E_pa := (E_pa.keep K69.1)
                    obtain ⟨T, L72, X, e0, K, st⟩ := (cs24 hw).pure X hx hZ hown e0 K (A := [(.ref pa), .null]) ⟨rfl, _, _, rfl, E_pa⟩ (rEN l Z a0 hw [] pa h Oh ) (W := 0) (by decide) hml (Ls := #[iv p0, iv p1, iv p2, iv p3, .val (.long p4), ss, iv p5, iv ap, iv bp, iv ad, iv bd, iv 1, iv 0, iv c0_, iv c1_, iv sc, iv e0_, iv e1_, rv sa, rv sb, rv pa, rv pb, iv wh, uu]) rfl (rest := []) rfl rfl hby at_236
                    refine oWk.to (mkF m 247 #[iv p0, iv p1, iv p2, iv p3, .val (.long p4), ss, iv p5, iv ap, iv bp, iv ad, iv bd, iv 1, iv 0, iv c0_, iv c1_, iv sc, iv e0_, iv e1_, rv sa, rv sb, rv pa, rv pb, iv wh, uu] [(.int 1)]) (fun _ kt => st _ (zH X hx hby at_239 rfl rfl ((if0 _ _).trans (teq (by decide)).2) (zK X hx hby at_242 rfl (zG X hx hby at_243 rfl (pc' := 247) rfl kt)))) ?_
                    exact oRetH X hx hlk hZ (oELw hw) e0 B hret (oNar01 (Or.inr rfl)) (Or.inl ⟨rfl, Or.inr (Or.inl rfl), _, rfl⟩) (hb hby at_247) (by rw [e0]; exact ⟨rfl, K.fr⟩) (by decide) (by decide)
                  · refine oWk.to (mkF m 248 #[iv p0, iv p1, iv p2, iv p3, .val (.long p4), ss, iv p5, iv ap, iv bp, iv ad, iv bd, iv 1, iv 0, iv c0_, iv c1_, iv sc, iv e0_, iv e1_, rv sa, rv sb, rv pa, rv pb, iv wh, uu] []) (fun _ kt => zY X hx hby at_230 rfl rfl (feq hc230).2 (pc' := 248) rfl kt) ?_
                    refine oWk.to (mkF m 251 #[iv p0, iv p1, iv p2, iv p3, .val (.long p4), ss, iv p5, iv ap, iv bp, iv ad, iv bd, iv 1, iv 0, iv c0_, iv c1_, iv sc, iv e0_, iv e1_, rv sa, rv sb, rv pa, rv pb, iv wh, uu] [(.int 2), (.int wh)]) (fun _ kt => zJ X hx hby at_248 rfl rfl (zK X hx hby at_250 rfl kt)) ?_
                    by_cases hc251 : wh = (2 : Int32)
                    · refine oWk.to (mkF m 254 #[iv p0, iv p1, iv p2, iv p3, .val (.long p4), ss, iv p5, iv ap, iv bp, iv ad, iv bd, iv 1, iv 0, iv c0_, iv c1_, iv sc, iv e0_, iv e1_, rv sa, rv sb, rv pa, rv pb, iv wh, uu] []) (fun _ kt => zN X hx hby at_251 rfl rfl (teq hc251).2 kt) ?_
                      refine oWk.st (fun _ kt => zB X hx hby at_254 rfl rfl rfl (zT X hx hby at_256 rfl rfl rfl (l' := #[iv p0, iv p1, iv p2, iv p3, .val (.long p4), ss, iv p5, iv ap, iv bp, iv ad, iv bd, iv 1, iv 0, iv c0_, iv c1_, iv sc, iv e0_, iv e1_, rv sa, rv sb, rv pa, rv pb, iv wh, rv sa]) rfl (zB X hx hby at_258 rfl rfl rfl (zB X hx hby at_260 rfl rfl rfl kt)))) ?_
                      have E_sa := ((E_sa.ext E68).keep K69.1)
                      have Oh := K.old O0 all0
                      have E_pa := (E_pa.keep K69.1)
                      obtain ⟨T, L74, X, e0, K, st⟩ := (cs24 hw).pure X hx hZ hown e0 K (A := [(.ref pa), (.ref sa)]) ⟨rfl, _, _, rfl, E_pa⟩ (rET l Z a0 hw [] pa sa h Oh E_sa) (W := 0) (by decide) hml (Ls := #[iv p0, iv p1, iv p2, iv p3, .val (.long p4), ss, iv p5, iv ap, iv bp, iv ad, iv bd, iv 1, iv 0, iv c0_, iv c1_, iv sc, iv e0_, iv e1_, rv sa, rv sb, rv pa, rv pb, iv wh, rv sa]) rfl (rest := []) rfl rfl hby at_262
                      refine oWk.to (mkF m 273 #[iv p0, iv p1, iv p2, iv p3, .val (.long p4), ss, iv p5, iv ap, iv bp, iv ad, iv bd, iv 1, iv 0, iv c0_, iv c1_, iv sc, iv e0_, iv e1_, rv sa, rv sb, rv pa, rv pb, iv wh, rv sa] [(.int 1)]) (fun _ kt => st _ (zH X hx hby at_265 rfl rfl ((if0 _ _).trans (teq (by decide)).2) (zK X hx hby at_268 rfl (zG X hx hby at_269 rfl (pc' := 273) rfl kt)))) ?_
                      exact oRetH X hx hlk hZ (oELw hw) e0 B hret (oNar01 (Or.inr rfl)) (Or.inl ⟨rfl, Or.inr (Or.inl rfl), _, rfl⟩) (hb hby at_273) (by rw [e0]; exact ⟨rfl, K.fr⟩) (by decide) (by decide)
                    · refine oWk.to (mkF m 274 #[iv p0, iv p1, iv p2, iv p3, .val (.long p4), ss, iv p5, iv ap, iv bp, iv ad, iv bd, iv 1, iv 0, iv c0_, iv c1_, iv sc, iv e0_, iv e1_, rv sa, rv sb, rv pa, rv pb, iv wh, uu] []) (fun _ kt => zY X hx hby at_251 rfl rfl (feq hc251).2 (pc' := 274) rfl kt) ?_
                      refine oWk.to (mkF m 277 #[iv p0, iv p1, iv p2, iv p3, .val (.long p4), ss, iv p5, iv ap, iv bp, iv ad, iv bd, iv 1, iv 0, iv c0_, iv c1_, iv sc, iv e0_, iv e1_, rv sa, rv sb, rv pa, rv pb, iv wh, uu] [(.int 3), (.int wh)]) (fun _ kt => zJ X hx hby at_274 rfl rfl (zK X hx hby at_276 rfl kt)) ?_
                      by_cases hc277 : wh = (3 : Int32)
                      · refine oWk.to (mkF m 280 #[iv p0, iv p1, iv p2, iv p3, .val (.long p4), ss, iv p5, iv ap, iv bp, iv ad, iv bd, iv 1, iv 0, iv c0_, iv c1_, iv sc, iv e0_, iv e1_, rv sa, rv sb, rv pa, rv pb, iv wh, uu] []) (fun _ kt => zN X hx hby at_277 rfl rfl (teq hc277).2 kt) ?_
                        refine oWk.st (fun _ kt => zB X hx hby at_280 rfl rfl rfl (zB X hx hby at_282 rfl rfl rfl kt)) ?_
                        have E_pa := (E_pa.keep K69.1)
                        have F_position_pa := ((F_position_pa.ext E68).keep K69.1 (ninS ne_pa_pb nin0))
                        have F_deleteCount_pa := ((F_deleteCount_pa.ext E68).keep K69.1 (ninS ne_pa_pb nin0))
                        have F_insertion_pa := ((F_insertion_pa.ext E68).keep K69.1 (ninS ne_pa_pb nin0))
                        have E_sa := ((E_sa.ext E68).keep K69.1)
                        have Oh := K.old O0 all0
                        obtain ⟨T, L76, X, e0, K, st⟩ := (cs24 hw).pure X hx hZ hown e0 K (A := [(.ref pa), (.ref pa)]) ⟨rfl, _, _, rfl, E_pa⟩ (rEI l Z a0 hw [] pa ap ad sa h Oh E_pa F_position_pa F_deleteCount_pa F_insertion_pa E_sa) (W := 0) (by decide) hml (Ls := #[iv p0, iv p1, iv p2, iv p3, .val (.long p4), ss, iv p5, iv ap, iv bp, iv ad, iv bd, iv 1, iv 0, iv c0_, iv c1_, iv sc, iv e0_, iv e1_, rv sa, rv sb, rv pa, rv pb, iv wh, uu]) rfl (rest := []) rfl rfl hby at_284
                        refine oWk.to (mkF m 287 #[iv p0, iv p1, iv p2, iv p3, .val (.long p4), ss, iv p5, iv ap, iv bp, iv ad, iv bd, iv 1, iv 0, iv c0_, iv c1_, iv sc, iv e0_, iv e1_, rv sa, rv sb, rv pa, rv pb, iv wh, uu] [(.int 1)]) (fun _ kt => st _ kt) ?_
                        exact oRetH X hx hlk hZ (oELw hw) e0 B hret (oNar01 (Or.inr rfl)) (Or.inl ⟨rfl, Or.inr (Or.inl rfl), _, rfl⟩) (hb hby at_287) (by rw [e0]; exact ⟨rfl, K.fr⟩) (by decide) (by decide)
                      · refine oWk.to (mkF m 288 #[iv p0, iv p1, iv p2, iv p3, .val (.long p4), ss, iv p5, iv ap, iv bp, iv ad, iv bd, iv 1, iv 0, iv c0_, iv c1_, iv sc, iv e0_, iv e1_, rv sa, rv sb, rv pa, rv pb, iv wh, uu] []) (fun _ kt => zY X hx hby at_277 rfl rfl (feq hc277).2 (pc' := 288) rfl kt) ?_
                        refine oWk.to (mkF m 292 #[iv p0, iv p1, iv p2, iv p3, .val (.long p4), ss, iv p5, iv ap, iv bp, iv ad, iv bd, iv 1, iv 0, iv c0_, iv c1_, iv sc, iv e0_, iv e1_, rv sa, rv sb, rv pa, rv pb, iv wh, uu] [(.int bp), (.int ap)]) (fun _ kt => zJ X hx hby at_288 rfl rfl (zJ X hx hby at_290 rfl rfl kt)) ?_
                        have J340 : ∀ (ex : Int32), ex = (0 : Int32) → oWk p.tables e below (oDnH Z oEL s h0 below (Q_rLaw Z p0 p1 p2 p3 p4 p5 xfm xz h0) room_1.cells room_1.slots) T (mkF m 340 #[iv p0, iv p1, iv p2, iv p3, .val (.long p4), ss, iv p5, iv ap, iv bp, iv ad, iv bd, iv 1, iv 0, iv c0_, iv c1_, iv sc, iv e0_, iv e1_, rv sa, rv sb, rv pa, rv pb, iv wh, uu] [(.int ex)]) := by
                          intro ex hex
                          refine oWk.st (fun _ kt => zS X hx hby at_340 rfl rfl (l' := #[iv p0, iv p1, iv p2, iv p3, .val (.long p4), ss, iv p5, iv ap, iv bp, iv ad, iv bd, iv 1, iv 0, iv c0_, iv c1_, iv sc, iv e0_, iv e1_, rv sa, rv sb, rv pa, rv pb, iv wh, iv ex]) rfl (zB X hx hby at_342 rfl rfl rfl (zB X hx hby at_344 rfl rfl rfl kt))) ?_
                          have E_pa := (E_pa.keep K69.1)
                          have F_position_pa := ((F_position_pa.ext E68).keep K69.1 (ninS ne_pa_pb nin0))
                          have F_deleteCount_pa := ((F_deleteCount_pa.ext E68).keep K69.1 (ninS ne_pa_pb nin0))
                          have F_insertion_pa := ((F_insertion_pa.ext E68).keep K69.1 (ninS ne_pa_pb nin0))
                          have E_sb := (E_sb.keep K69.1)
                          have F_coder_sb := (F_coder_sb.keep K69.1 (ninS ne_sb_pb nin0))
                          have F_value_sb := (F_value_sb.keep K69.1 (ninS ne_sb_pb nin0))
                          have V_sbb := (V_sbb.keep K69.1 (ninS ne_sbb_pb nin0))
                          have E_sa := ((E_sa.ext E68).keep K69.1)
                          have F_coder_sa := (((F_coder_sa.keep K66.1 (ninS ne_sa_pa nin0)).ext E68).keep K69.1 (ninS ne_sa_pb nin0))
                          have F_value_sa := (((F_value_sa.keep K66.1 (ninS ne_sa_pa nin0)).ext E68).keep K69.1 (ninS ne_sa_pb nin0))
                          have V_sab := ((V_sab.ext E68).keep K69.1 (ninS ne_sab_pb nin0))
                          have Oh := K.old O0 all0
                          obtain ⟨T, L78, X, e0, K, st⟩ := (cs24 hw).pure X hx hZ hown e0 K (A := [(.ref pa), (.ref pb)]) ⟨rfl, _, _, rfl, E_pa⟩ (rED_0_1 l Z a0 hw [] pa ap ad pb bp bd sb sbb sbk sa sab sak xz c0_ h Oh S_Z hz E_pa F_position_pa F_deleteCount_pa F_insertion_pa E_pb F_position_pb F_deleteCount_pb F_insertion_pb (Ne.symm ne_sa_sb) E_sb F_coder_sb F_value_sb V_sbb E_sa F_coder_sa F_value_sa V_sab) (W := 0) (by decide) hml (Ls := #[iv p0, iv p1, iv p2, iv p3, .val (.long p4), ss, iv p5, iv ap, iv bp, iv ad, iv bd, iv 1, iv 0, iv c0_, iv c1_, iv sc, iv e0_, iv e1_, rv sa, rv sb, rv pa, rv pb, iv wh, iv ex]) rfl (rest := []) rfl rfl hby at_346
                          refine oWk.to (mkF m 351 #[iv p0, iv p1, iv p2, iv p3, .val (.long p4), ss, iv p5, iv ap, iv bp, iv ad, iv bd, iv 1, iv 0, iv c0_, iv c1_, iv sc, iv e0_, iv e1_, rv sa, rv sb, rv pa, rv pb, iv wh, iv ex] [(.int ex), (.int 0)]) (fun _ kt => st _ (zJ X hx hby at_349 rfl rfl kt)) ?_
                          refine oWk.st (fun _ kt => zN X hx hby at_351 rfl rfl (teq hex.symm).2 (zB X hx hby at_354 rfl rfl rfl (zB X hx hby at_356 rfl rfl rfl kt))) ?_
                          obtain ⟨T, L80, X, e0, K, st⟩ := (cs24 hw).pure X hx hZ hown e0 K (A := [(.ref pb), (.ref pa)]) ⟨rfl, _, _, rfl, E_pb⟩ (rED_1_0 l Z a0 hw [] pb bp bd pa ap ad sa sab sak sb sbb sbk xz c0_ h Oh S_Z hz E_pb F_position_pb F_deleteCount_pb F_insertion_pb E_pa F_position_pa F_deleteCount_pa F_insertion_pa ne_sa_sb E_sa F_coder_sa F_value_sa V_sab E_sb F_coder_sb F_value_sb V_sbb) (W := 0) (by decide) hml (Ls := #[iv p0, iv p1, iv p2, iv p3, .val (.long p4), ss, iv p5, iv ap, iv bp, iv ad, iv bd, iv 1, iv 0, iv c0_, iv c1_, iv sc, iv e0_, iv e1_, rv sa, rv sb, rv pa, rv pb, iv wh, iv ex]) rfl (rest := []) rfl rfl hby at_358
                          refine oWk.to (mkF m 363 #[iv p0, iv p1, iv p2, iv p3, .val (.long p4), ss, iv p5, iv ap, iv bp, iv ad, iv bd, iv 1, iv 0, iv c0_, iv c1_, iv sc, iv e0_, iv e1_, rv sa, rv sb, rv pa, rv pb, iv wh, iv ex] [(.int ex), (.int 0)]) (fun _ kt => st _ (zJ X hx hby at_361 rfl rfl kt)) ?_
                          refine oWk.to (mkF m 371 #[iv p0, iv p1, iv p2, iv p3, .val (.long p4), ss, iv p5, iv ap, iv bp, iv ad, iv bd, iv 1, iv 0, iv c0_, iv c1_, iv sc, iv e0_, iv e1_, rv sa, rv sb, rv pa, rv pb, iv wh, iv ex] [(.int 1)]) (fun _ kt => zN X hx hby at_363 rfl rfl (teq hex.symm).2 (zK X hx hby at_366 rfl (zG X hx hby at_367 rfl (pc' := 371) rfl kt))) ?_
                          exact oRetH X hx hlk hZ (oELw hw) e0 B hret (oNar01 (Or.inr rfl)) (Or.inl ⟨rfl, Or.inr (Or.inl rfl), _, rfl⟩) (hb hby at_371) (by rw [e0]; exact ⟨rfl, K.fr⟩) (by decide) (by decide)
                        by_cases hc292 : ap = bp
                        · refine oWk.to (mkF m 295 #[iv p0, iv p1, iv p2, iv p3, .val (.long p4), ss, iv p5, iv ap, iv bp, iv ad, iv bd, iv 1, iv 0, iv c0_, iv c1_, iv sc, iv e0_, iv e1_, rv sa, rv sb, rv pa, rv pb, iv wh, uu] []) (fun _ kt => zN X hx hby at_292 rfl rfl (teq hc292).2 kt) ?_
                          refine oWk.to (mkF m 299 #[iv p0, iv p1, iv p2, iv p3, .val (.long p4), ss, iv p5, iv ap, iv bp, iv ad, iv bd, iv 1, iv 0, iv c0_, iv c1_, iv sc, iv e0_, iv e1_, rv sa, rv sb, rv pa, rv pb, iv wh, uu] [(.int bd), (.int ad)]) (fun _ kt => zJ X hx hby at_295 rfl rfl (zJ X hx hby at_297 rfl rfl kt)) ?_
                          by_cases hc299 : ad = bd
                          · refine oWk.to (mkF m 302 #[iv p0, iv p1, iv p2, iv p3, .val (.long p4), ss, iv p5, iv ap, iv bp, iv ad, iv bd, iv 1, iv 0, iv c0_, iv c1_, iv sc, iv e0_, iv e1_, rv sa, rv sb, rv pa, rv pb, iv wh, uu] []) (fun _ kt => zN X hx hby at_299 rfl rfl (teq hc299).2 kt) ?_
                            refine oWk.to (mkF m 340 #[iv p0, iv p1, iv p2, iv p3, .val (.long p4), ss, iv p5, iv ap, iv bp, iv ad, iv bd, iv 1, iv 0, iv c0_, iv c1_, iv sc, iv e0_, iv e1_, rv sa, rv sb, rv pa, rv pb, iv wh, uu] [(.int 0)]) (fun _ kt => zJ X hx hby at_302 rfl rfl (zJ X hx hby at_304 rfl rfl (zY X hx hby at_306 rfl rfl (feq (by decide)).2 (pc' := 339) rfl (zK X hx hby at_339 rfl kt)))) ?_
                            exact J340 _ rfl
                          · refine oWk.to (mkF m 339 #[iv p0, iv p1, iv p2, iv p3, .val (.long p4), ss, iv p5, iv ap, iv bp, iv ad, iv bd, iv 1, iv 0, iv c0_, iv c1_, iv sc, iv e0_, iv e1_, rv sa, rv sb, rv pa, rv pb, iv wh, uu] []) (fun _ kt => zY X hx hby at_299 rfl rfl (feq hc299).2 (pc' := 339) rfl kt) ?_
                            refine oWk.to (mkF m 340 #[iv p0, iv p1, iv p2, iv p3, .val (.long p4), ss, iv p5, iv ap, iv bp, iv ad, iv bd, iv 1, iv 0, iv c0_, iv c1_, iv sc, iv e0_, iv e1_, rv sa, rv sb, rv pa, rv pb, iv wh, uu] [(.int 0)]) (fun _ kt => zK X hx hby at_339 rfl kt) ?_
                            exact J340 _ rfl
                        · refine oWk.to (mkF m 339 #[iv p0, iv p1, iv p2, iv p3, .val (.long p4), ss, iv p5, iv ap, iv bp, iv ad, iv bd, iv 1, iv 0, iv c0_, iv c1_, iv sc, iv e0_, iv e1_, rv sa, rv sb, rv pa, rv pb, iv wh, uu] []) (fun _ kt => zY X hx hby at_292 rfl rfl (feq hc292).2 (pc' := 339) rfl kt) ?_
                          refine oWk.to (mkF m 340 #[iv p0, iv p1, iv p2, iv p3, .val (.long p4), ss, iv p5, iv ap, iv bp, iv ad, iv bd, iv 1, iv 0, iv c0_, iv c1_, iv sc, iv e0_, iv e1_, rv sa, rv sb, rv pa, rv pb, iv wh, uu] [(.int 0)]) (fun _ kt => zK X hx hby at_339 rfl kt) ?_
                          exact J340 _ rfl
                · show oWk _ _ _ _ T (mkF m 166 #[iv p0, iv p1, iv p2, iv p3, .val (.long p4), ss, iv p5, iv ap, iv bp, iv ad, iv bd, iv 1, iv 1, iv c0_, iv c1_, iv sc, iv e0_, iv e1_, uu, uu, uu, uu, uu, uu] [])
                  refine oWk.st (fun _ kt => zJ X hx hby at_166 rfl rfl (zJ X hx hby at_168 rfl rfl (zJ X hx hby at_170 rfl rfl kt))) ?_
                  have Oh := K.old O0 all0
                  obtain ⟨_, T, h, Lc82, X, e0, hQ, st⟩ := (cs25 hw).run X hx hZ hown e0 (A := [(.int (1 : Int32)), (.int c0_), (.int c1_)]) rfl (rStr_1 l Z a0 hw [] c0_ c1_ xz h0 Oh S_Z hz r_c0_) (W := 0) (by decide) hml (Ls := #[iv p0, iv p1, iv p2, iv p3, .val (.long p4), ss, iv p5, iv ap, iv bp, iv ad, iv bd, iv 1, iv 1, iv c0_, iv c1_, iv sc, iv e0_, iv e1_, uu, uu, uu, uu, uu, uu]) rfl (rest := []) rfl rfl hby at_172
                  obtain ⟨sa, sab, sak, rfl, K81, gn_sa, gn_sab, E_sa, F_coder_sa, F_value_sa, V_sab⟩ := hQ
                  have ge_sa := Nat.le_trans K.le gn_sa
                  have ge_sab := Nat.le_trans K.le gn_sab
                  have K := K.call K81 all0
                  have B := B.keep K81.1 sf0
                  refine oWk.st (fun _ kt => st _ (zT X hx hby at_175 rfl rfl rfl (l' := #[iv p0, iv p1, iv p2, iv p3, .val (.long p4), ss, iv p5, iv ap, iv bp, iv ad, iv bd, iv 1, iv 1, iv c0_, iv c1_, iv sc, iv e0_, iv e1_, rv sa, uu, uu, uu, uu, uu]) rfl (zJ X hx hby at_177 rfl rfl (zJ X hx hby at_179 rfl rfl (zJ X hx hby at_181 rfl rfl kt))))) ?_
                  have lt_sa := E_sa.lt
                  have lt_sab := V_sab.lt
                  have Oh := K.old O0 all0
                  obtain ⟨_, T, h, Lc84, X, e0, hQ, st⟩ := (cs25 hw).run X hx hZ hown e0 (A := [(.int (1 : Int32)), (.int e0_), (.int e1_)]) rfl (rStr_1 l Z a0 hw [] e0_ e1_ xz h Oh S_Z hz r_e0_) (W := 0) (by decide) hml (Ls := #[iv p0, iv p1, iv p2, iv p3, .val (.long p4), ss, iv p5, iv ap, iv bp, iv ad, iv bd, iv 1, iv 1, iv c0_, iv c1_, iv sc, iv e0_, iv e1_, rv sa, uu, uu, uu, uu, uu]) rfl (rest := []) rfl rfl hby at_183
                  obtain ⟨sb, sbb, sbk, rfl, K83, gn_sb, gn_sbb, E_sb, F_coder_sb, F_value_sb, V_sbb⟩ := hQ
                  have ge_sb := Nat.le_trans K.le gn_sb
                  have ne_sa_sb : sa ≠ sb := Nat.ne_of_lt (Nat.lt_of_lt_of_le lt_sa gn_sb)
                  have ne_sab_sb : sab ≠ sb := Nat.ne_of_lt (Nat.lt_of_lt_of_le lt_sab gn_sb)
                  have ge_sbb := Nat.le_trans K.le gn_sbb
                  have ne_sa_sbb : sa ≠ sbb := Nat.ne_of_lt (Nat.lt_of_lt_of_le lt_sa gn_sbb)
                  have ne_sab_sbb : sab ≠ sbb := Nat.ne_of_lt (Nat.lt_of_lt_of_le lt_sab gn_sbb)
                  have K := K.call K83 all0
                  have B := B.keep K83.1 sf0
                  refine oWk.st (fun _ kt => st _ (zT X hx hby at_186 rfl rfl rfl (l' := #[iv p0, iv p1, iv p2, iv p3, .val (.long p4), ss, iv p5, iv ap, iv bp, iv ad, iv bd, iv 1, iv 1, iv c0_, iv c1_, iv sc, iv e0_, iv e1_, rv sa, rv sb, uu, uu, uu, uu]) rfl kt)) ?_
                  obtain ⟨pa, g85⟩ : ∃ z, z = h.size := ⟨_, rfl⟩
                  have E_sa := (E_sa.keep K83.1)
                  have ne_sa_pa : sa ≠ pa := Nat.ne_of_lt (Nat.lt_of_lt_of_le E_sa.lt (Nat.le_of_eq g85.symm))
                  have V_sab := (V_sab.keep K83.1 nin0)
                  have ne_sab_pa : sab ≠ pa := Nat.ne_of_lt (Nat.lt_of_lt_of_le V_sab.lt (Nat.le_of_eq g85.symm))
                  have ne_sb_pa : sb ≠ pa := Nat.ne_of_lt (Nat.lt_of_lt_of_le E_sb.lt (Nat.le_of_eq g85.symm))
                  have ne_sbb_pa : sbb ≠ pa := Nat.ne_of_lt (Nat.lt_of_lt_of_le V_sbb.lt (Nat.le_of_eq g85.symm))
                  have ge_pa : h0.size ≤ pa := Nat.le_trans K.le (Nat.le_of_eq g85.symm)
                  have sf_pa := B.new (Nat.le_of_eq g85.symm)
                  obtain ⟨T, h, X, e0, E85, A85, D85, -, st⟩ := newO X hx hZ hown (oW hw 28 rfl) (oW hw 29 rfl) (oW hw 30 rfl) e0 (g := (mkF m 188 #[iv p0, iv p1, iv p2, iv p3, .val (.long p4), ss, iv p5, iv ap, iv bp, iv ad, iv bd, iv 1, iv 1, iv c0_, iv c1_, iv sc, iv e0_, iv e1_, rv sa, rv sb, uu, uu, uu, uu] [])) rfl (hb hby at_188) (by decide) (by decide)
                  rw [← g85] at A85 D85 st
                  have K := K.ext E85
                  have sf_pa := Safe.ext E85 B.2.1 sf_pa
                  have B := B.ext E85
                  have E_pa := A85
                  have F_position_pa : Fld Z h pa Y1 "position" "I" (.int (0 : Int32)) := D85 (Or.inr (oW hw 60 rfl)) (ty := .int) (by decide)
                  have F_deleteCount_pa : Fld Z h pa Y1 "deleteCount" "I" (.int (0 : Int32)) := D85 (Or.inr (oW hw 62 rfl)) (ty := .int) (by decide)
                  have F_insertion_pa : Fld Z h pa Y1 "insertion" Y3 .null := D85 (Or.inr (oW hw 64 rfl)) (ty := (.object Y0)) (by decide)
                  have F_insertionLength_pa : Fld Z h pa Y1 Y4 "I" (.int (0 : Int32)) := D85 (Or.inr (oW hw 85 rfl)) (ty := .int) (by decide)
                  refine oWk.st (fun _ kt => st _ (zD X hx hby at_191 rfl rfl rfl (zJ X hx hby at_192 rfl rfl (zJ X hx hby at_194 rfl rfl (zB X hx hby at_196 rfl rfl rfl kt))))) ?_
                  have E_sa := (E_sa.ext E85)
                  have F_coder_sa := ((F_coder_sa.keep K83.1 nin0).ext E85)
                  have F_value_sa := ((F_value_sa.keep K83.1 nin0).ext E85)
                  have V_sab := (V_sab.ext E85)
                  have Oh := K.old O0 all0
                  obtain ⟨_, _, ⟨T, L87, k87, n87⟩, -, X, hS, hgr, ⟨Lc87, hQ, l87, y87, z87, C⟩, st⟩ := X.specialBackS hx (y := yy17) rfl hown (mvT hZ (oW hw 31 rfl)) (mvT hZ (oW hw 32 rfl)) (mvT hZ (oW hw 33 rfl)) (by decide) (oBackH (W := 1) (rPI_1 l Z a0 hw [] pa ap ad (.int (0 : Int32)) (.int (0 : Int32)) .null (.int (0 : Int32)) sa sab sak xfm xz c0_ h Oh S_Z hz S_F hcat (Nat.le_trans O0.1 ge_pa) E_pa F_position_pa F_deleteCount_pa F_insertion_pa F_insertionLength_pa E_sa F_coder_sa F_value_sa V_sab r_c0_ ne_sa_pa ne_sab_pa hap had) hZ (oW hw 33 rfl) (oW hw 30 rfl) (by decide) (by decide) (oELw hw) B.2.1 (allS ⟨E_pa.lt, sf_pa⟩ all0)) (g := (mkF m 198 #[iv p0, iv p1, iv p2, iv p3, .val (.long p4), ss, iv p5, iv ap, iv bp, iv ad, iv bd, iv 1, iv 1, iv c0_, iv c1_, iv sc, iv e0_, iv e1_, rv sa, rv sb, uu, uu, uu, uu] [(.ref sa), (.int ad), (.int ap), (.ref pa), (.ref pa)])) rfl (by rw [hml]; rfl) (Steps.refl _) (a := pa) (argsL := [(.int ap), (.int ad), (.ref sa)]) (rest := [(.ref pa)]) (lenOf pd_22 rfl) rfl (Nat.le_of_eq rfl) (hb hby at_198) (fun _ _ => ⟨rfl, e0, (by decide : 7 + 4 ≤ _), (by decide : 16 + 112 ≤ _)⟩)
                  dsimp only [Pt.U, Pt.locs, Pt.cells, Pt.slots] at X l87 y87 z87 st hQ C hS hgr
                  subst l87 y87 z87
                  have X : Stand p l e _ (s.setVm T.vm) m _ below meth c T _ _ _ := X
                  obtain ⟨h, e2⟩ : ∃ z, T.heap = z := ⟨_, rfl⟩
                  have B := B.call e0 hS hgr C e2
                  obtain ⟨hZ, hown⟩ := oWide hZ hown hS
                  rw [e2] at hQ C
                  have sf_pa := C.safe E_pa.lt sf_pa
                  have e0 := e2
                  obtain ⟨rfl, K86, E_pa, F_position_pa, F_deleteCount_pa, F_insertion_pa⟩ := hQ
                  have K := K.call K86 (allS (Or.inr ge_pa) all0)
                  refine oWk.st (fun _ kt => st.trans (zT X hx hby at_201 rfl rfl rfl (l' := #[iv p0, iv p1, iv p2, iv p3, .val (.long p4), ss, iv p5, iv ap, iv bp, iv ad, iv bd, iv 1, iv 1, iv c0_, iv c1_, iv sc, iv e0_, iv e1_, rv sa, rv sb, rv pa, uu, uu, uu]) rfl kt)) ?_
                  obtain ⟨pb, g88⟩ : ∃ z, z = h.size := ⟨_, rfl⟩
                  have E_sa := (E_sa.keep K86.1)
                  have ne_sa_pb : sa ≠ pb := Nat.ne_of_lt (Nat.lt_of_lt_of_le E_sa.lt (Nat.le_of_eq g88.symm))
                  have V_sab := (V_sab.keep K86.1 (ninS ne_sab_pa nin0))
                  have ne_sab_pb : sab ≠ pb := Nat.ne_of_lt (Nat.lt_of_lt_of_le V_sab.lt (Nat.le_of_eq g88.symm))
                  have E_sb := ((E_sb.ext E85).keep K86.1)
                  have ne_sb_pb : sb ≠ pb := Nat.ne_of_lt (Nat.lt_of_lt_of_le E_sb.lt (Nat.le_of_eq g88.symm))
                  have V_sbb := ((V_sbb.ext E85).keep K86.1 (ninS ne_sbb_pa nin0))
                  have ne_sbb_pb : sbb ≠ pb := Nat.ne_of_lt (Nat.lt_of_lt_of_le V_sbb.lt (Nat.le_of_eq g88.symm))
                  have ne_pa_pb : pa ≠ pb := Nat.ne_of_lt (Nat.lt_of_lt_of_le E_pa.lt (Nat.le_of_eq g88.symm))
                  have ge_pb : h0.size ≤ pb := Nat.le_trans K.le (Nat.le_of_eq g88.symm)
                  have sf_pb := B.new (Nat.le_of_eq g88.symm)
                  obtain ⟨T, h, X, e0, E88, A88, D88, -, st⟩ := newO X hx hZ hown (oW hw 28 rfl) (oW hw 29 rfl) (oW hw 30 rfl) e0 (g := (mkF m 203 #[iv p0, iv p1, iv p2, iv p3, .val (.long p4), ss, iv p5, iv ap, iv bp, iv ad, iv bd, iv 1, iv 1, iv c0_, iv c1_, iv sc, iv e0_, iv e1_, rv sa, rv sb, rv pa, uu, uu, uu] [])) rfl (hb hby at_203) (by decide) (by decide)
                  rw [← g88] at A88 D88 st
                  have K := K.ext E88
                  have sf_pa := Safe.ext E88 B.2.1 sf_pa
                  have sf_pb := Safe.ext E88 B.2.1 sf_pb
                  have B := B.ext E88
                  have E_pb := A88
                  have F_position_pb : Fld Z h pb Y1 "position" "I" (.int (0 : Int32)) := D88 (Or.inr (oW hw 60 rfl)) (ty := .int) (by decide)
                  have F_deleteCount_pb : Fld Z h pb Y1 "deleteCount" "I" (.int (0 : Int32)) := D88 (Or.inr (oW hw 62 rfl)) (ty := .int) (by decide)
                  have F_insertion_pb : Fld Z h pb Y1 "insertion" Y3 .null := D88 (Or.inr (oW hw 64 rfl)) (ty := (.object Y0)) (by decide)
                  have F_insertionLength_pb : Fld Z h pb Y1 Y4 "I" (.int (0 : Int32)) := D88 (Or.inr (oW hw 85 rfl)) (ty := .int) (by decide)
                  refine oWk.st (fun _ kt => st _ (zD X hx hby at_206 rfl rfl rfl (zJ X hx hby at_207 rfl rfl (zJ X hx hby at_209 rfl rfl (zB X hx hby at_211 rfl rfl rfl kt))))) ?_
                  have E_sb := (E_sb.ext E88)
                  have F_coder_sb := (((F_coder_sb.ext E85).keep K86.1 (ninS ne_sb_pa nin0)).ext E88)
                  have F_value_sb := (((F_value_sb.ext E85).keep K86.1 (ninS ne_sb_pa nin0)).ext E88)
                  have V_sbb := (V_sbb.ext E88)
                  have Oh := K.old O0 all0
                  have E_pa := (E_pa.ext E88)
                  obtain ⟨_, _, ⟨T, L90, k90, n90⟩, -, X, hS, hgr, ⟨Lc90, hQ, l90, y90, z90, C⟩, st⟩ := X.specialBackS hx (y := yy17) rfl hown (mvT hZ (oW hw 31 rfl)) (mvT hZ (oW hw 32 rfl)) (mvT hZ (oW hw 33 rfl)) (by decide) (oBackH (W := 1) (rPI_1 l Z a0 hw [] pb bp bd (.int (0 : Int32)) (.int (0 : Int32)) .null (.int (0 : Int32)) sb sbb sbk xfm xz e0_ h Oh S_Z hz S_F hcat (Nat.le_trans O0.1 ge_pb) E_pb F_position_pb F_deleteCount_pb F_insertion_pb F_insertionLength_pb E_sb F_coder_sb F_value_sb V_sbb r_e0_ ne_sb_pb ne_sbb_pb hbp hbd) hZ (oW hw 33 rfl) (oW hw 30 rfl) (by decide) (by decide) (oELw hw) B.2.1 (allS ⟨E_pb.lt, sf_pb⟩ all0)) (g := (mkF m 213 #[iv p0, iv p1, iv p2, iv p3, .val (.long p4), ss, iv p5, iv ap, iv bp, iv ad, iv bd, iv 1, iv 1, iv c0_, iv c1_, iv sc, iv e0_, iv e1_, rv sa, rv sb, rv pa, uu, uu, uu] [(.ref sb), (.int bd), (.int bp), (.ref pb), (.ref pb)])) rfl (by rw [hml]; rfl) (Steps.refl _) (a := pb) (argsL := [(.int bp), (.int bd), (.ref sb)]) (rest := [(.ref pb)]) (lenOf pd_22 rfl) rfl (Nat.le_of_eq rfl) (hb hby at_213) (fun _ _ => ⟨rfl, e0, (by decide : 12 + 4 ≤ _), (by decide : 132 + 112 ≤ _)⟩)
                  dsimp only [Pt.U, Pt.locs, Pt.cells, Pt.slots] at X l90 y90 z90 st hQ C hS hgr
                  subst l90 y90 z90
                  have X : Stand p l e _ (s.setVm T.vm) m _ below meth c T _ _ _ := X
                  obtain ⟨h, e2⟩ : ∃ z, T.heap = z := ⟨_, rfl⟩
                  have B := B.call e0 hS hgr C e2
                  obtain ⟨hZ, hown⟩ := oWide hZ hown hS
                  rw [e2] at hQ C
                  have sf_pa := C.safe E_pa.lt sf_pa
                  have sf_pb := C.safe E_pb.lt sf_pb
                  have e0 := e2
                  obtain ⟨rfl, K89, E_pb, F_position_pb, F_deleteCount_pb, F_insertion_pb⟩ := hQ
                  have K := K.call K89 (allS (Or.inr ge_pb) all0)
                  refine oWk.to (mkF m 225 #[iv p0, iv p1, iv p2, iv p3, .val (.long p4), ss, iv p5, iv ap, iv bp, iv ad, iv bd, iv 1, iv 1, iv c0_, iv c1_, iv sc, iv e0_, iv e1_, rv sa, rv sb, rv pa, rv pb, uu, uu] [(.int (((p5.toUInt32 >>> ((8 : Int32) &&& 31).toUInt32).toInt32) &&& (3 : Int32)))]) (fun _ kt => st.trans (zT X hx hby at_216 rfl rfl rfl (l' := #[iv p0, iv p1, iv p2, iv p3, .val (.long p4), ss, iv p5, iv ap, iv bp, iv ad, iv bd, iv 1, iv 1, iv c0_, iv c1_, iv sc, iv e0_, iv e1_, rv sa, rv sb, rv pa, rv pb, uu, uu]) rfl (zJ X hx hby at_218 rfl rfl (zL X hx hby at_220 rfl (XS.iushr X.here hx rfl (hb hby at_222) rfl (zK X hx hby at_223 rfl (XS.iand X.here hx rfl (hb hby at_224) rfl kt))))))) ?_
                  generalize hwh : (((p5.toUInt32 >>> ((8 : Int32) &&& 31).toUInt32).toInt32) &&& (3 : Int32)) = wh
                  show oWk _ _ _ _ T (mkF m 225 #[iv p0, iv p1, iv p2, iv p3, .val (.long p4), ss, iv p5, iv ap, iv bp, iv ad, iv bd, iv 1, iv 1, iv c0_, iv c1_, iv sc, iv e0_, iv e1_, rv sa, rv sb, rv pa, rv pb, uu, uu] [(.int wh)])
                  refine oWk.to (mkF m 230 #[iv p0, iv p1, iv p2, iv p3, .val (.long p4), ss, iv p5, iv ap, iv bp, iv ad, iv bd, iv 1, iv 1, iv c0_, iv c1_, iv sc, iv e0_, iv e1_, rv sa, rv sb, rv pa, rv pb, iv wh, uu] [(.int 1), (.int wh)]) (fun _ kt => zS X hx hby at_225 rfl rfl (l' := #[iv p0, iv p1, iv p2, iv p3, .val (.long p4), ss, iv p5, iv ap, iv bp, iv ad, iv bd, iv 1, iv 1, iv c0_, iv c1_, iv sc, iv e0_, iv e1_, rv sa, rv sb, rv pa, rv pb, iv wh, uu]) rfl (zJ X hx hby at_227 rfl rfl (zK X hx hby at_229 rfl kt))) ?_
                  by_cases hc230 : wh = (1 : Int32)
                  · refine oWk.to (mkF m 233 #[iv p0, iv p1, iv p2, iv p3, .val (.long p4), ss, iv p5, iv ap, iv bp, iv ad, iv bd, iv 1, iv 1, iv c0_, iv c1_, iv sc, iv e0_, iv e1_, rv sa, rv sb, rv pa, rv pb, iv wh, uu] []) (fun _ kt => zN X hx hby at_230 rfl rfl (teq hc230).2 kt) ?_
                    refine oWk.st (fun _ kt => zB X hx hby at_233 rfl rfl rfl (XS.aconstNull X.here hx rfl (hb hby at_235) kt)) ?_
                    have Oh := K.old O0 all0
                    have E_pa := (E_pa.keep K89.1)
                    obtain ⟨T, L92, X, e0, K, st⟩ := (cs24 hw).pure X hx hZ hown e0 K (A := [(.ref pa), .null]) ⟨rfl, _, _, rfl, E_pa⟩ (rEN l Z a0 hw [] pa h Oh ) (W := 0) (by decide) hml (Ls := #[iv p0, iv p1, iv p2, iv p3, .val (.long p4), ss, iv p5, iv ap, iv bp, iv ad, iv bd, iv 1, iv 1, iv c0_, iv c1_, iv sc, iv e0_, iv e1_, rv sa, rv sb, rv pa, rv pb, iv wh, uu]) rfl (rest := []) rfl rfl hby at_236
                    refine oWk.to (mkF m 247 #[iv p0, iv p1, iv p2, iv p3, .val (.long p4), ss, iv p5, iv ap, iv bp, iv ad, iv bd, iv 1, iv 1, iv c0_, iv c1_, iv sc, iv e0_, iv e1_, rv sa, rv sb, rv pa, rv pb, iv wh, uu] [(.int 1)]) (fun _ kt => st _ (zH X hx hby at_239 rfl rfl ((if0 _ _).trans (teq (by decide)).2) (zK X hx hby at_242 rfl (zG X hx hby at_243 rfl (pc' := 247) rfl kt)))) ?_
                    exact oRetH X hx hlk hZ (oELw hw) e0 B hret (oNar01 (Or.inr rfl)) (Or.inl ⟨rfl, Or.inr (Or.inl rfl), _, rfl⟩) (hb hby at_247) (by rw [e0]; exact ⟨rfl, K.fr⟩) (by decide) (by decide)
                  · refine oWk.to (mkF m 248 #[iv p0, iv p1, iv p2, iv p3, .val (.long p4), ss, iv p5, iv ap, iv bp, iv ad, iv bd, iv 1, iv 1, iv c0_, iv c1_, iv sc, iv e0_, iv e1_, rv sa, rv sb, rv pa, rv pb, iv wh, uu] []) (fun _ kt => zY X hx hby at_230 rfl rfl (feq hc230).2 (pc' := 248) rfl kt) ?_
                    refine oWk.to (mkF m 251 #[iv p0, iv p1, iv p2, iv p3, .val (.long p4), ss, iv p5, iv ap, iv bp, iv ad, iv bd, iv 1, iv 1, iv c0_, iv c1_, iv sc, iv e0_, iv e1_, rv sa, rv sb, rv pa, rv pb, iv wh, uu] [(.int 2), (.int wh)]) (fun _ kt => zJ X hx hby at_248 rfl rfl (zK X hx hby at_250 rfl kt)) ?_
                    by_cases hc251 : wh = (2 : Int32)
                    · refine oWk.to (mkF m 254 #[iv p0, iv p1, iv p2, iv p3, .val (.long p4), ss, iv p5, iv ap, iv bp, iv ad, iv bd, iv 1, iv 1, iv c0_, iv c1_, iv sc, iv e0_, iv e1_, rv sa, rv sb, rv pa, rv pb, iv wh, uu] []) (fun _ kt => zN X hx hby at_251 rfl rfl (teq hc251).2 kt) ?_
                      refine oWk.st (fun _ kt => zB X hx hby at_254 rfl rfl rfl (zT X hx hby at_256 rfl rfl rfl (l' := #[iv p0, iv p1, iv p2, iv p3, .val (.long p4), ss, iv p5, iv ap, iv bp, iv ad, iv bd, iv 1, iv 1, iv c0_, iv c1_, iv sc, iv e0_, iv e1_, rv sa, rv sb, rv pa, rv pb, iv wh, rv sa]) rfl (zB X hx hby at_258 rfl rfl rfl (zB X hx hby at_260 rfl rfl rfl kt)))) ?_
                      have E_sa := ((E_sa.ext E88).keep K89.1)
                      have Oh := K.old O0 all0
                      have E_pa := (E_pa.keep K89.1)
                      obtain ⟨T, L94, X, e0, K, st⟩ := (cs24 hw).pure X hx hZ hown e0 K (A := [(.ref pa), (.ref sa)]) ⟨rfl, _, _, rfl, E_pa⟩ (rET l Z a0 hw [] pa sa h Oh E_sa) (W := 0) (by decide) hml (Ls := #[iv p0, iv p1, iv p2, iv p3, .val (.long p4), ss, iv p5, iv ap, iv bp, iv ad, iv bd, iv 1, iv 1, iv c0_, iv c1_, iv sc, iv e0_, iv e1_, rv sa, rv sb, rv pa, rv pb, iv wh, rv sa]) rfl (rest := []) rfl rfl hby at_262
                      refine oWk.to (mkF m 273 #[iv p0, iv p1, iv p2, iv p3, .val (.long p4), ss, iv p5, iv ap, iv bp, iv ad, iv bd, iv 1, iv 1, iv c0_, iv c1_, iv sc, iv e0_, iv e1_, rv sa, rv sb, rv pa, rv pb, iv wh, rv sa] [(.int 1)]) (fun _ kt => st _ (zH X hx hby at_265 rfl rfl ((if0 _ _).trans (teq (by decide)).2) (zK X hx hby at_268 rfl (zG X hx hby at_269 rfl (pc' := 273) rfl kt)))) ?_
                      exact oRetH X hx hlk hZ (oELw hw) e0 B hret (oNar01 (Or.inr rfl)) (Or.inl ⟨rfl, Or.inr (Or.inl rfl), _, rfl⟩) (hb hby at_273) (by rw [e0]; exact ⟨rfl, K.fr⟩) (by decide) (by decide)
                    · refine oWk.to (mkF m 274 #[iv p0, iv p1, iv p2, iv p3, .val (.long p4), ss, iv p5, iv ap, iv bp, iv ad, iv bd, iv 1, iv 1, iv c0_, iv c1_, iv sc, iv e0_, iv e1_, rv sa, rv sb, rv pa, rv pb, iv wh, uu] []) (fun _ kt => zY X hx hby at_251 rfl rfl (feq hc251).2 (pc' := 274) rfl kt) ?_
                      refine oWk.to (mkF m 277 #[iv p0, iv p1, iv p2, iv p3, .val (.long p4), ss, iv p5, iv ap, iv bp, iv ad, iv bd, iv 1, iv 1, iv c0_, iv c1_, iv sc, iv e0_, iv e1_, rv sa, rv sb, rv pa, rv pb, iv wh, uu] [(.int 3), (.int wh)]) (fun _ kt => zJ X hx hby at_274 rfl rfl (zK X hx hby at_276 rfl kt)) ?_
                      by_cases hc277 : wh = (3 : Int32)
                      · refine oWk.to (mkF m 280 #[iv p0, iv p1, iv p2, iv p3, .val (.long p4), ss, iv p5, iv ap, iv bp, iv ad, iv bd, iv 1, iv 1, iv c0_, iv c1_, iv sc, iv e0_, iv e1_, rv sa, rv sb, rv pa, rv pb, iv wh, uu] []) (fun _ kt => zN X hx hby at_277 rfl rfl (teq hc277).2 kt) ?_
                        refine oWk.st (fun _ kt => zB X hx hby at_280 rfl rfl rfl (zB X hx hby at_282 rfl rfl rfl kt)) ?_
                        have E_pa := (E_pa.keep K89.1)
                        have F_position_pa := ((F_position_pa.ext E88).keep K89.1 (ninS ne_pa_pb nin0))
                        have F_deleteCount_pa := ((F_deleteCount_pa.ext E88).keep K89.1 (ninS ne_pa_pb nin0))
                        have F_insertion_pa := ((F_insertion_pa.ext E88).keep K89.1 (ninS ne_pa_pb nin0))
                        have E_sa := ((E_sa.ext E88).keep K89.1)
                        have Oh := K.old O0 all0
                        obtain ⟨T, L96, X, e0, K, st⟩ := (cs24 hw).pure X hx hZ hown e0 K (A := [(.ref pa), (.ref pa)]) ⟨rfl, _, _, rfl, E_pa⟩ (rEI l Z a0 hw [] pa ap ad sa h Oh E_pa F_position_pa F_deleteCount_pa F_insertion_pa E_sa) (W := 0) (by decide) hml (Ls := #[iv p0, iv p1, iv p2, iv p3, .val (.long p4), ss, iv p5, iv ap, iv bp, iv ad, iv bd, iv 1, iv 1, iv c0_, iv c1_, iv sc, iv e0_, iv e1_, rv sa, rv sb, rv pa, rv pb, iv wh, uu]) rfl (rest := []) rfl rfl hby at_284
                        refine oWk.to (mkF m 287 #[iv p0, iv p1, iv p2, iv p3, .val (.long p4), ss, iv p5, iv ap, iv bp, iv ad, iv bd, iv 1, iv 1, iv c0_, iv c1_, iv sc, iv e0_, iv e1_, rv sa, rv sb, rv pa, rv pb, iv wh, uu] [(.int 1)]) (fun _ kt => st _ kt) ?_
                        exact oRetH X hx hlk hZ (oELw hw) e0 B hret (oNar01 (Or.inr rfl)) (Or.inl ⟨rfl, Or.inr (Or.inl rfl), _, rfl⟩) (hb hby at_287) (by rw [e0]; exact ⟨rfl, K.fr⟩) (by decide) (by decide)
                      · refine oWk.to (mkF m 288 #[iv p0, iv p1, iv p2, iv p3, .val (.long p4), ss, iv p5, iv ap, iv bp, iv ad, iv bd, iv 1, iv 1, iv c0_, iv c1_, iv sc, iv e0_, iv e1_, rv sa, rv sb, rv pa, rv pb, iv wh, uu] []) (fun _ kt => zY X hx hby at_277 rfl rfl (feq hc277).2 (pc' := 288) rfl kt) ?_
                        refine oWk.to (mkF m 292 #[iv p0, iv p1, iv p2, iv p3, .val (.long p4), ss, iv p5, iv ap, iv bp, iv ad, iv bd, iv 1, iv 1, iv c0_, iv c1_, iv sc, iv e0_, iv e1_, rv sa, rv sb, rv pa, rv pb, iv wh, uu] [(.int bp), (.int ap)]) (fun _ kt => zJ X hx hby at_288 rfl rfl (zJ X hx hby at_290 rfl rfl kt)) ?_
                        have J340 : ∀ (ex : Int32), ex = oBi (ap = bp ∧ ad = bd ∧ c0_ = e0_) → oWk p.tables e below (oDnH Z oEL s h0 below (Q_rLaw Z p0 p1 p2 p3 p4 p5 xfm xz h0) room_1.cells room_1.slots) T (mkF m 340 #[iv p0, iv p1, iv p2, iv p3, .val (.long p4), ss, iv p5, iv ap, iv bp, iv ad, iv bd, iv 1, iv 1, iv c0_, iv c1_, iv sc, iv e0_, iv e1_, rv sa, rv sb, rv pa, rv pb, iv wh, uu] [(.int ex)]) := by
                          intro ex hex
                          refine oWk.st (fun _ kt => zS X hx hby at_340 rfl rfl (l' := #[iv p0, iv p1, iv p2, iv p3, .val (.long p4), ss, iv p5, iv ap, iv bp, iv ad, iv bd, iv 1, iv 1, iv c0_, iv c1_, iv sc, iv e0_, iv e1_, rv sa, rv sb, rv pa, rv pb, iv wh, iv ex]) rfl (zB X hx hby at_342 rfl rfl rfl (zB X hx hby at_344 rfl rfl rfl kt))) ?_
                          have E_pa := (E_pa.keep K89.1)
                          have F_position_pa := ((F_position_pa.ext E88).keep K89.1 (ninS ne_pa_pb nin0))
                          have F_deleteCount_pa := ((F_deleteCount_pa.ext E88).keep K89.1 (ninS ne_pa_pb nin0))
                          have F_insertion_pa := ((F_insertion_pa.ext E88).keep K89.1 (ninS ne_pa_pb nin0))
                          have E_sb := (E_sb.keep K89.1)
                          have F_coder_sb := (F_coder_sb.keep K89.1 (ninS ne_sb_pb nin0))
                          have F_value_sb := (F_value_sb.keep K89.1 (ninS ne_sb_pb nin0))
                          have V_sbb := (V_sbb.keep K89.1 (ninS ne_sbb_pb nin0))
                          have E_sa := ((E_sa.ext E88).keep K89.1)
                          have F_coder_sa := (((F_coder_sa.keep K86.1 (ninS ne_sa_pa nin0)).ext E88).keep K89.1 (ninS ne_sa_pb nin0))
                          have F_value_sa := (((F_value_sa.keep K86.1 (ninS ne_sa_pa nin0)).ext E88).keep K89.1 (ninS ne_sa_pb nin0))
                          have V_sab := ((V_sab.ext E88).keep K89.1 (ninS ne_sab_pb nin0))
                          have Oh := K.old O0 all0
                          obtain ⟨T, L98, X, e0, K, st⟩ := (cs24 hw).pure X hx hZ hown e0 K (A := [(.ref pa), (.ref pb)]) ⟨rfl, _, _, rfl, E_pa⟩ (rED_1_1 l Z a0 hw [] pa ap ad pb bp bd sb sbb sbk sa sab sak xz e0_ c0_ h Oh S_Z hz E_pa F_position_pa F_deleteCount_pa F_insertion_pa E_pb F_position_pb F_deleteCount_pb F_insertion_pb (Ne.symm ne_sa_sb) E_sb F_coder_sb F_value_sb V_sbb E_sa F_coder_sa F_value_sa V_sab) (W := 0) (by decide) hml (Ls := #[iv p0, iv p1, iv p2, iv p3, .val (.long p4), ss, iv p5, iv ap, iv bp, iv ad, iv bd, iv 1, iv 1, iv c0_, iv c1_, iv sc, iv e0_, iv e1_, rv sa, rv sb, rv pa, rv pb, iv wh, iv ex]) rfl (rest := []) rfl rfl hby at_346
                          refine oWk.to (mkF m 351 #[iv p0, iv p1, iv p2, iv p3, .val (.long p4), ss, iv p5, iv ap, iv bp, iv ad, iv bd, iv 1, iv 1, iv c0_, iv c1_, iv sc, iv e0_, iv e1_, rv sa, rv sb, rv pa, rv pb, iv wh, iv ex] [(.int ex), (.int (oBi (bp = ap ∧ bd = ad ∧ (e0_.toInt8.toInt32) = (c0_.toInt8.toInt32))))]) (fun _ kt => st _ (zJ X hx hby at_349 rfl rfl kt)) ?_
                          refine oWk.st (fun _ kt => zN X hx hby at_351 rfl rfl (teq ((oCmp (and_congr oSy (and_congr oSy (oEqB r_e0_ r_c0_)))).trans hex.symm)).2 (zB X hx hby at_354 rfl rfl rfl (zB X hx hby at_356 rfl rfl rfl kt))) ?_
                          obtain ⟨T, L100, X, e0, K, st⟩ := (cs24 hw).pure X hx hZ hown e0 K (A := [(.ref pb), (.ref pa)]) ⟨rfl, _, _, rfl, E_pb⟩ (rED_1_1 l Z a0 hw [] pb bp bd pa ap ad sa sab sak sb sbb sbk xz c0_ e0_ h Oh S_Z hz E_pb F_position_pb F_deleteCount_pb F_insertion_pb E_pa F_position_pa F_deleteCount_pa F_insertion_pa ne_sa_sb E_sa F_coder_sa F_value_sa V_sab E_sb F_coder_sb F_value_sb V_sbb) (W := 0) (by decide) hml (Ls := #[iv p0, iv p1, iv p2, iv p3, .val (.long p4), ss, iv p5, iv ap, iv bp, iv ad, iv bd, iv 1, iv 1, iv c0_, iv c1_, iv sc, iv e0_, iv e1_, rv sa, rv sb, rv pa, rv pb, iv wh, iv ex]) rfl (rest := []) rfl rfl hby at_358
                          refine oWk.to (mkF m 363 #[iv p0, iv p1, iv p2, iv p3, .val (.long p4), ss, iv p5, iv ap, iv bp, iv ad, iv bd, iv 1, iv 1, iv c0_, iv c1_, iv sc, iv e0_, iv e1_, rv sa, rv sb, rv pa, rv pb, iv wh, iv ex] [(.int ex), (.int (oBi (ap = bp ∧ ad = bd ∧ (c0_.toInt8.toInt32) = (e0_.toInt8.toInt32))))]) (fun _ kt => st _ (zJ X hx hby at_361 rfl rfl kt)) ?_
                          refine oWk.to (mkF m 371 #[iv p0, iv p1, iv p2, iv p3, .val (.long p4), ss, iv p5, iv ap, iv bp, iv ad, iv bd, iv 1, iv 1, iv c0_, iv c1_, iv sc, iv e0_, iv e1_, rv sa, rv sb, rv pa, rv pb, iv wh, iv ex] [(.int 1)]) (fun _ kt => zN X hx hby at_363 rfl rfl (teq ((oCmp (and_congr Iff.rfl (and_congr Iff.rfl (oEqC r_c0_ r_e0_)))).trans hex.symm)).2 (zK X hx hby at_366 rfl (zG X hx hby at_367 rfl (pc' := 371) rfl kt))) ?_
                          exact oRetH X hx hlk hZ (oELw hw) e0 B hret (oNar01 (Or.inr rfl)) (Or.inl ⟨rfl, Or.inr (Or.inl rfl), _, rfl⟩) (hb hby at_371) (by rw [e0]; exact ⟨rfl, K.fr⟩) (by decide) (by decide)
                        by_cases hc292 : ap = bp
                        · refine oWk.to (mkF m 295 #[iv p0, iv p1, iv p2, iv p3, .val (.long p4), ss, iv p5, iv ap, iv bp, iv ad, iv bd, iv 1, iv 1, iv c0_, iv c1_, iv sc, iv e0_, iv e1_, rv sa, rv sb, rv pa, rv pb, iv wh, uu] []) (fun _ kt => zN X hx hby at_292 rfl rfl (teq hc292).2 kt) ?_
                          refine oWk.to (mkF m 299 #[iv p0, iv p1, iv p2, iv p3, .val (.long p4), ss, iv p5, iv ap, iv bp, iv ad, iv bd, iv 1, iv 1, iv c0_, iv c1_, iv sc, iv e0_, iv e1_, rv sa, rv sb, rv pa, rv pb, iv wh, uu] [(.int bd), (.int ad)]) (fun _ kt => zJ X hx hby at_295 rfl rfl (zJ X hx hby at_297 rfl rfl kt)) ?_
                          by_cases hc299 : ad = bd
                          · refine oWk.to (mkF m 302 #[iv p0, iv p1, iv p2, iv p3, .val (.long p4), ss, iv p5, iv ap, iv bp, iv ad, iv bd, iv 1, iv 1, iv c0_, iv c1_, iv sc, iv e0_, iv e1_, rv sa, rv sb, rv pa, rv pb, iv wh, uu] []) (fun _ kt => zN X hx hby at_299 rfl rfl (teq hc299).2 kt) ?_
                            refine oWk.to (mkF m 317 #[iv p0, iv p1, iv p2, iv p3, .val (.long p4), ss, iv p5, iv ap, iv bp, iv ad, iv bd, iv 1, iv 1, iv c0_, iv c1_, iv sc, iv e0_, iv e1_, rv sa, rv sb, rv pa, rv pb, iv wh, uu] [(.int c0_)]) (fun _ kt => zJ X hx hby at_302 rfl rfl (zJ X hx hby at_304 rfl rfl (zN X hx hby at_306 rfl rfl (teq (by decide)).2 (zJ X hx hby at_309 rfl rfl (zK X hx hby at_311 rfl (zN X hx hby at_312 rfl rfl (flt (by decide)).1 (zJ X hx hby at_315 rfl rfl kt))))))) ?_
                            refine oWk.to (mkF m 319 #[iv p0, iv p1, iv p2, iv p3, .val (.long p4), ss, iv p5, iv ap, iv bp, iv ad, iv bd, iv 1, iv 1, iv c0_, iv c1_, iv sc, iv e0_, iv e1_, rv sa, rv sb, rv pa, rv pb, iv wh, uu] [(.int e0_), (.int c0_)]) (fun _ kt => zJ X hx hby at_317 rfl rfl kt) ?_
                            by_cases hc319 : c0_ = e0_
                            · refine oWk.to (mkF m 322 #[iv p0, iv p1, iv p2, iv p3, .val (.long p4), ss, iv p5, iv ap, iv bp, iv ad, iv bd, iv 1, iv 1, iv c0_, iv c1_, iv sc, iv e0_, iv e1_, rv sa, rv sb, rv pa, rv pb, iv wh, uu] []) (fun _ kt => zN X hx hby at_319 rfl rfl (teq hc319).2 kt) ?_
                              refine oWk.to (mkF m 340 #[iv p0, iv p1, iv p2, iv p3, .val (.long p4), ss, iv p5, iv ap, iv bp, iv ad, iv bd, iv 1, iv 1, iv c0_, iv c1_, iv sc, iv e0_, iv e1_, rv sa, rv sb, rv pa, rv pb, iv wh, uu] [(.int 1)]) (fun _ kt => zJ X hx hby at_322 rfl rfl (zK X hx hby at_324 rfl (zY X hx hby at_325 rfl rfl (tlt (by decide)).1 (pc' := 335) rfl (zK X hx hby at_335 rfl (zG X hx hby at_336 rfl (pc' := 340) rfl kt))))) ?_
                              exact J340 _ (oBi_t ⟨hc292, hc299, hc319⟩).symm
                            · refine oWk.to (mkF m 339 #[iv p0, iv p1, iv p2, iv p3, .val (.long p4), ss, iv p5, iv ap, iv bp, iv ad, iv bd, iv 1, iv 1, iv c0_, iv c1_, iv sc, iv e0_, iv e1_, rv sa, rv sb, rv pa, rv pb, iv wh, uu] []) (fun _ kt => zY X hx hby at_319 rfl rfl (feq hc319).2 (pc' := 339) rfl kt) ?_
                              refine oWk.to (mkF m 340 #[iv p0, iv p1, iv p2, iv p3, .val (.long p4), ss, iv p5, iv ap, iv bp, iv ad, iv bd, iv 1, iv 1, iv c0_, iv c1_, iv sc, iv e0_, iv e1_, rv sa, rv sb, rv pa, rv pb, iv wh, uu] [(.int 0)]) (fun _ kt => zK X hx hby at_339 rfl kt) ?_
                              exact J340 _ (oBi_f (fun q => hc319 q.2.2)).symm
                          · refine oWk.to (mkF m 339 #[iv p0, iv p1, iv p2, iv p3, .val (.long p4), ss, iv p5, iv ap, iv bp, iv ad, iv bd, iv 1, iv 1, iv c0_, iv c1_, iv sc, iv e0_, iv e1_, rv sa, rv sb, rv pa, rv pb, iv wh, uu] []) (fun _ kt => zY X hx hby at_299 rfl rfl (feq hc299).2 (pc' := 339) rfl kt) ?_
                            refine oWk.to (mkF m 340 #[iv p0, iv p1, iv p2, iv p3, .val (.long p4), ss, iv p5, iv ap, iv bp, iv ad, iv bd, iv 1, iv 1, iv c0_, iv c1_, iv sc, iv e0_, iv e1_, rv sa, rv sb, rv pa, rv pb, iv wh, uu] [(.int 0)]) (fun _ kt => zK X hx hby at_339 rfl kt) ?_
                            exact J340 _ (oBi_f (fun q => hc299 q.2.1)).symm
                        · refine oWk.to (mkF m 339 #[iv p0, iv p1, iv p2, iv p3, .val (.long p4), ss, iv p5, iv ap, iv bp, iv ad, iv bd, iv 1, iv 1, iv c0_, iv c1_, iv sc, iv e0_, iv e1_, rv sa, rv sb, rv pa, rv pb, iv wh, uu] []) (fun _ kt => zY X hx hby at_292 rfl rfl (feq hc292).2 (pc' := 339) rfl kt) ?_
                          refine oWk.to (mkF m 340 #[iv p0, iv p1, iv p2, iv p3, .val (.long p4), ss, iv p5, iv ap, iv bp, iv ad, iv bd, iv 1, iv 1, iv c0_, iv c1_, iv sc, iv e0_, iv e1_, rv sa, rv sb, rv pa, rv pb, iv wh, uu] [(.int 0)]) (fun _ kt => zK X hx hby at_339 rfl kt) ?_
                          exact J340 _ (oBi_f (fun q => hc292 q.1)).symm
                · show oWk _ _ _ _ T (mkF m 166 #[iv p0, iv p1, iv p2, iv p3, .val (.long p4), ss, iv p5, iv ap, iv bp, iv ad, iv bd, iv 1, iv 2, iv c0_, iv c1_, iv sc, iv e0_, iv e1_, uu, uu, uu, uu, uu, uu] [])
                  refine oWk.st (fun _ kt => zJ X hx hby at_166 rfl rfl (zJ X hx hby at_168 rfl rfl (zJ X hx hby at_170 rfl rfl kt))) ?_
                  have Oh := K.old O0 all0
                  obtain ⟨_, T, h, Lc102, X, e0, hQ, st⟩ := (cs25 hw).run X hx hZ hown e0 (A := [(.int (1 : Int32)), (.int c0_), (.int c1_)]) rfl (rStr_1 l Z a0 hw [] c0_ c1_ xz h0 Oh S_Z hz r_c0_) (W := 0) (by decide) hml (Ls := #[iv p0, iv p1, iv p2, iv p3, .val (.long p4), ss, iv p5, iv ap, iv bp, iv ad, iv bd, iv 1, iv 2, iv c0_, iv c1_, iv sc, iv e0_, iv e1_, uu, uu, uu, uu, uu, uu]) rfl (rest := []) rfl rfl hby at_172
                  obtain ⟨sa, sab, sak, rfl, K101, gn_sa, gn_sab, E_sa, F_coder_sa, F_value_sa, V_sab⟩ := hQ
                  have ge_sa := Nat.le_trans K.le gn_sa
                  have ge_sab := Nat.le_trans K.le gn_sab
                  have K := K.call K101 all0
                  have B := B.keep K101.1 sf0
                  refine oWk.st (fun _ kt => st _ (zT X hx hby at_175 rfl rfl rfl (l' := #[iv p0, iv p1, iv p2, iv p3, .val (.long p4), ss, iv p5, iv ap, iv bp, iv ad, iv bd, iv 1, iv 2, iv c0_, iv c1_, iv sc, iv e0_, iv e1_, rv sa, uu, uu, uu, uu, uu]) rfl (zJ X hx hby at_177 rfl rfl (zJ X hx hby at_179 rfl rfl (zJ X hx hby at_181 rfl rfl kt))))) ?_
                  have lt_sa := E_sa.lt
                  have lt_sab := V_sab.lt
                  have Oh := K.old O0 all0
                  obtain ⟨_, T, h, Lc104, X, e0, hQ, st⟩ := (cs25 hw).run X hx hZ hown e0 (A := [(.int (2 : Int32)), (.int e0_), (.int e1_)]) rfl (rStr_2 l Z a0 hw [] e0_ e1_ xz h Oh S_Z hz r_e0_ r_e1_) (W := 0) (by decide) hml (Ls := #[iv p0, iv p1, iv p2, iv p3, .val (.long p4), ss, iv p5, iv ap, iv bp, iv ad, iv bd, iv 1, iv 2, iv c0_, iv c1_, iv sc, iv e0_, iv e1_, rv sa, uu, uu, uu, uu, uu]) rfl (rest := []) rfl rfl hby at_183
                  obtain ⟨sb, sbb, sbk, rfl, K103, gn_sb, gn_sbb, E_sb, F_coder_sb, F_value_sb, V_sbb⟩ := hQ
                  have ge_sb := Nat.le_trans K.le gn_sb
                  have ne_sa_sb : sa ≠ sb := Nat.ne_of_lt (Nat.lt_of_lt_of_le lt_sa gn_sb)
                  have ne_sab_sb : sab ≠ sb := Nat.ne_of_lt (Nat.lt_of_lt_of_le lt_sab gn_sb)
                  have ge_sbb := Nat.le_trans K.le gn_sbb
                  have ne_sa_sbb : sa ≠ sbb := Nat.ne_of_lt (Nat.lt_of_lt_of_le lt_sa gn_sbb)
                  have ne_sab_sbb : sab ≠ sbb := Nat.ne_of_lt (Nat.lt_of_lt_of_le lt_sab gn_sbb)
                  have K := K.call K103 all0
                  have B := B.keep K103.1 sf0
                  refine oWk.st (fun _ kt => st _ (zT X hx hby at_186 rfl rfl rfl (l' := #[iv p0, iv p1, iv p2, iv p3, .val (.long p4), ss, iv p5, iv ap, iv bp, iv ad, iv bd, iv 1, iv 2, iv c0_, iv c1_, iv sc, iv e0_, iv e1_, rv sa, rv sb, uu, uu, uu, uu]) rfl kt)) ?_
                  obtain ⟨pa, g105⟩ : ∃ z, z = h.size := ⟨_, rfl⟩
                  have E_sa := (E_sa.keep K103.1)
                  have ne_sa_pa : sa ≠ pa := Nat.ne_of_lt (Nat.lt_of_lt_of_le E_sa.lt (Nat.le_of_eq g105.symm))
                  have V_sab := (V_sab.keep K103.1 nin0)
                  have ne_sab_pa : sab ≠ pa := Nat.ne_of_lt (Nat.lt_of_lt_of_le V_sab.lt (Nat.le_of_eq g105.symm))
                  have ne_sb_pa : sb ≠ pa := Nat.ne_of_lt (Nat.lt_of_lt_of_le E_sb.lt (Nat.le_of_eq g105.symm))
                  have ne_sbb_pa : sbb ≠ pa := Nat.ne_of_lt (Nat.lt_of_lt_of_le V_sbb.lt (Nat.le_of_eq g105.symm))
                  have ge_pa : h0.size ≤ pa := Nat.le_trans K.le (Nat.le_of_eq g105.symm)
                  have sf_pa := B.new (Nat.le_of_eq g105.symm)
                  obtain ⟨T, h, X, e0, E105, A105, D105, -, st⟩ := newO X hx hZ hown (oW hw 28 rfl) (oW hw 29 rfl) (oW hw 30 rfl) e0 (g := (mkF m 188 #[iv p0, iv p1, iv p2, iv p3, .val (.long p4), ss, iv p5, iv ap, iv bp, iv ad, iv bd, iv 1, iv 2, iv c0_, iv c1_, iv sc, iv e0_, iv e1_, rv sa, rv sb, uu, uu, uu, uu] [])) rfl (hb hby at_188) (by decide) (by decide)
                  rw [← g105] at A105 D105 st
                  have K := K.ext E105
                  have sf_pa := Safe.ext E105 B.2.1 sf_pa
                  have B := B.ext E105
                  have E_pa := A105
                  have F_position_pa : Fld Z h pa Y1 "position" "I" (.int (0 : Int32)) := D105 (Or.inr (oW hw 60 rfl)) (ty := .int) (by decide)
                  have F_deleteCount_pa : Fld Z h pa Y1 "deleteCount" "I" (.int (0 : Int32)) := D105 (Or.inr (oW hw 62 rfl)) (ty := .int) (by decide)
                  have F_insertion_pa : Fld Z h pa Y1 "insertion" Y3 .null := D105 (Or.inr (oW hw 64 rfl)) (ty := (.object Y0)) (by decide)
                  have F_insertionLength_pa : Fld Z h pa Y1 Y4 "I" (.int (0 : Int32)) := D105 (Or.inr (oW hw 85 rfl)) (ty := .int) (by decide)
                  refine oWk.st (fun _ kt => st _ (zD X hx hby at_191 rfl rfl rfl (zJ X hx hby at_192 rfl rfl (zJ X hx hby at_194 rfl rfl (zB X hx hby at_196 rfl rfl rfl kt))))) ?_
                  have E_sa := (E_sa.ext E105)
                  have F_coder_sa := ((F_coder_sa.keep K103.1 nin0).ext E105)
                  have F_value_sa := ((F_value_sa.keep K103.1 nin0).ext E105)
                  have V_sab := (V_sab.ext E105)
                  have Oh := K.old O0 all0
                  obtain ⟨_, _, ⟨T, L107, k107, n107⟩, -, X, hS, hgr, ⟨Lc107, hQ, l107, y107, z107, C⟩, st⟩ := X.specialBackS hx (y := yy17) rfl hown (mvT hZ (oW hw 31 rfl)) (mvT hZ (oW hw 32 rfl)) (mvT hZ (oW hw 33 rfl)) (by decide) (oBackH (W := 1) (rPI_1 l Z a0 hw [] pa ap ad (.int (0 : Int32)) (.int (0 : Int32)) .null (.int (0 : Int32)) sa sab sak xfm xz c0_ h Oh S_Z hz S_F hcat (Nat.le_trans O0.1 ge_pa) E_pa F_position_pa F_deleteCount_pa F_insertion_pa F_insertionLength_pa E_sa F_coder_sa F_value_sa V_sab r_c0_ ne_sa_pa ne_sab_pa hap had) hZ (oW hw 33 rfl) (oW hw 30 rfl) (by decide) (by decide) (oELw hw) B.2.1 (allS ⟨E_pa.lt, sf_pa⟩ all0)) (g := (mkF m 198 #[iv p0, iv p1, iv p2, iv p3, .val (.long p4), ss, iv p5, iv ap, iv bp, iv ad, iv bd, iv 1, iv 2, iv c0_, iv c1_, iv sc, iv e0_, iv e1_, rv sa, rv sb, uu, uu, uu, uu] [(.ref sa), (.int ad), (.int ap), (.ref pa), (.ref pa)])) rfl (by rw [hml]; rfl) (Steps.refl _) (a := pa) (argsL := [(.int ap), (.int ad), (.ref sa)]) (rest := [(.ref pa)]) (lenOf pd_22 rfl) rfl (Nat.le_of_eq rfl) (hb hby at_198) (fun _ _ => ⟨rfl, e0, (by decide : 7 + 4 ≤ _), (by decide : 18 + 112 ≤ _)⟩)
                  dsimp only [Pt.U, Pt.locs, Pt.cells, Pt.slots] at X l107 y107 z107 st hQ C hS hgr
                  subst l107 y107 z107
                  have X : Stand p l e _ (s.setVm T.vm) m _ below meth c T _ _ _ := X
                  obtain ⟨h, e2⟩ : ∃ z, T.heap = z := ⟨_, rfl⟩
                  have B := B.call e0 hS hgr C e2
                  obtain ⟨hZ, hown⟩ := oWide hZ hown hS
                  rw [e2] at hQ C
                  have sf_pa := C.safe E_pa.lt sf_pa
                  have e0 := e2
                  obtain ⟨rfl, K106, E_pa, F_position_pa, F_deleteCount_pa, F_insertion_pa⟩ := hQ
                  have K := K.call K106 (allS (Or.inr ge_pa) all0)
                  refine oWk.st (fun _ kt => st.trans (zT X hx hby at_201 rfl rfl rfl (l' := #[iv p0, iv p1, iv p2, iv p3, .val (.long p4), ss, iv p5, iv ap, iv bp, iv ad, iv bd, iv 1, iv 2, iv c0_, iv c1_, iv sc, iv e0_, iv e1_, rv sa, rv sb, rv pa, uu, uu, uu]) rfl kt)) ?_
                  obtain ⟨pb, g108⟩ : ∃ z, z = h.size := ⟨_, rfl⟩
                  have E_sa := (E_sa.keep K106.1)
                  have ne_sa_pb : sa ≠ pb := Nat.ne_of_lt (Nat.lt_of_lt_of_le E_sa.lt (Nat.le_of_eq g108.symm))
                  have V_sab := (V_sab.keep K106.1 (ninS ne_sab_pa nin0))
                  have ne_sab_pb : sab ≠ pb := Nat.ne_of_lt (Nat.lt_of_lt_of_le V_sab.lt (Nat.le_of_eq g108.symm))
                  have E_sb := ((E_sb.ext E105).keep K106.1)
                  have ne_sb_pb : sb ≠ pb := Nat.ne_of_lt (Nat.lt_of_lt_of_le E_sb.lt (Nat.le_of_eq g108.symm))
                  have V_sbb := ((V_sbb.ext E105).keep K106.1 (ninS ne_sbb_pa nin0))
                  have ne_sbb_pb : sbb ≠ pb := Nat.ne_of_lt (Nat.lt_of_lt_of_le V_sbb.lt (Nat.le_of_eq g108.symm))
                  have ne_pa_pb : pa ≠ pb := Nat.ne_of_lt (Nat.lt_of_lt_of_le E_pa.lt (Nat.le_of_eq g108.symm))
                  have ge_pb : h0.size ≤ pb := Nat.le_trans K.le (Nat.le_of_eq g108.symm)
                  have sf_pb := B.new (Nat.le_of_eq g108.symm)
                  obtain ⟨T, h, X, e0, E108, A108, D108, -, st⟩ := newO X hx hZ hown (oW hw 28 rfl) (oW hw 29 rfl) (oW hw 30 rfl) e0 (g := (mkF m 203 #[iv p0, iv p1, iv p2, iv p3, .val (.long p4), ss, iv p5, iv ap, iv bp, iv ad, iv bd, iv 1, iv 2, iv c0_, iv c1_, iv sc, iv e0_, iv e1_, rv sa, rv sb, rv pa, uu, uu, uu] [])) rfl (hb hby at_203) (by decide) (by decide)
                  rw [← g108] at A108 D108 st
                  have K := K.ext E108
                  have sf_pa := Safe.ext E108 B.2.1 sf_pa
                  have sf_pb := Safe.ext E108 B.2.1 sf_pb
                  have B := B.ext E108
                  have E_pb := A108
                  have F_position_pb : Fld Z h pb Y1 "position" "I" (.int (0 : Int32)) := D108 (Or.inr (oW hw 60 rfl)) (ty := .int) (by decide)
                  have F_deleteCount_pb : Fld Z h pb Y1 "deleteCount" "I" (.int (0 : Int32)) := D108 (Or.inr (oW hw 62 rfl)) (ty := .int) (by decide)
                  have F_insertion_pb : Fld Z h pb Y1 "insertion" Y3 .null := D108 (Or.inr (oW hw 64 rfl)) (ty := (.object Y0)) (by decide)
                  have F_insertionLength_pb : Fld Z h pb Y1 Y4 "I" (.int (0 : Int32)) := D108 (Or.inr (oW hw 85 rfl)) (ty := .int) (by decide)
                  refine oWk.st (fun _ kt => st _ (zD X hx hby at_206 rfl rfl rfl (zJ X hx hby at_207 rfl rfl (zJ X hx hby at_209 rfl rfl (zB X hx hby at_211 rfl rfl rfl kt))))) ?_
                  have E_sb := (E_sb.ext E108)
                  have F_coder_sb := (((F_coder_sb.ext E105).keep K106.1 (ninS ne_sb_pa nin0)).ext E108)
                  have F_value_sb := (((F_value_sb.ext E105).keep K106.1 (ninS ne_sb_pa nin0)).ext E108)
                  have V_sbb := (V_sbb.ext E108)
                  have Oh := K.old O0 all0
                  have E_pa := (E_pa.ext E108)
                  obtain ⟨_, _, ⟨T, L110, k110, n110⟩, -, X, hS, hgr, ⟨Lc110, hQ, l110, y110, z110, C⟩, st⟩ := X.specialBackS hx (y := yy17) rfl hown (mvT hZ (oW hw 31 rfl)) (mvT hZ (oW hw 32 rfl)) (mvT hZ (oW hw 33 rfl)) (by decide) (oBackH (W := 1) (rPI_2 l Z a0 hw [] pb bp bd (.int (0 : Int32)) (.int (0 : Int32)) .null (.int (0 : Int32)) sb sbb sbk xfm xz e0_ e1_ h Oh S_Z hz S_F hcat (Nat.le_trans O0.1 ge_pb) E_pb F_position_pb F_deleteCount_pb F_insertion_pb F_insertionLength_pb E_sb F_coder_sb F_value_sb V_sbb r_e0_ r_e1_ ne_sb_pb ne_sbb_pb hbp hbd) hZ (oW hw 33 rfl) (oW hw 30 rfl) (by decide) (by decide) (oELw hw) B.2.1 (allS ⟨E_pb.lt, sf_pb⟩ all0)) (g := (mkF m 213 #[iv p0, iv p1, iv p2, iv p3, .val (.long p4), ss, iv p5, iv ap, iv bp, iv ad, iv bd, iv 1, iv 2, iv c0_, iv c1_, iv sc, iv e0_, iv e1_, rv sa, rv sb, rv pa, uu, uu, uu] [(.ref sb), (.int bd), (.int bp), (.ref pb), (.ref pb)])) rfl (by rw [hml]; rfl) (Steps.refl _) (a := pb) (argsL := [(.int bp), (.int bd), (.ref sb)]) (rest := [(.ref pb)]) (lenOf pd_22 rfl) rfl (Nat.le_of_eq rfl) (hb hby at_213) (fun _ _ => ⟨rfl, e0, (by decide : 12 + 4 ≤ _), (by decide : 134 + 112 ≤ _)⟩)
                  dsimp only [Pt.U, Pt.locs, Pt.cells, Pt.slots] at X l110 y110 z110 st hQ C hS hgr
                  subst l110 y110 z110
                  have X : Stand p l e _ (s.setVm T.vm) m _ below meth c T _ _ _ := X
                  obtain ⟨h, e2⟩ : ∃ z, T.heap = z := ⟨_, rfl⟩
                  have B := B.call e0 hS hgr C e2
                  obtain ⟨hZ, hown⟩ := oWide hZ hown hS
                  rw [e2] at hQ C
                  have sf_pa := C.safe E_pa.lt sf_pa
                  have sf_pb := C.safe E_pb.lt sf_pb
                  have e0 := e2
                  obtain ⟨rfl, K109, E_pb, F_position_pb, F_deleteCount_pb, F_insertion_pb⟩ := hQ
                  have K := K.call K109 (allS (Or.inr ge_pb) all0)
                  refine oWk.to (mkF m 225 #[iv p0, iv p1, iv p2, iv p3, .val (.long p4), ss, iv p5, iv ap, iv bp, iv ad, iv bd, iv 1, iv 2, iv c0_, iv c1_, iv sc, iv e0_, iv e1_, rv sa, rv sb, rv pa, rv pb, uu, uu] [(.int (((p5.toUInt32 >>> ((8 : Int32) &&& 31).toUInt32).toInt32) &&& (3 : Int32)))]) (fun _ kt => st.trans (zT X hx hby at_216 rfl rfl rfl (l' := #[iv p0, iv p1, iv p2, iv p3, .val (.long p4), ss, iv p5, iv ap, iv bp, iv ad, iv bd, iv 1, iv 2, iv c0_, iv c1_, iv sc, iv e0_, iv e1_, rv sa, rv sb, rv pa, rv pb, uu, uu]) rfl (zJ X hx hby at_218 rfl rfl (zL X hx hby at_220 rfl (XS.iushr X.here hx rfl (hb hby at_222) rfl (zK X hx hby at_223 rfl (XS.iand X.here hx rfl (hb hby at_224) rfl kt))))))) ?_
                  generalize hwh : (((p5.toUInt32 >>> ((8 : Int32) &&& 31).toUInt32).toInt32) &&& (3 : Int32)) = wh
                  show oWk _ _ _ _ T (mkF m 225 #[iv p0, iv p1, iv p2, iv p3, .val (.long p4), ss, iv p5, iv ap, iv bp, iv ad, iv bd, iv 1, iv 2, iv c0_, iv c1_, iv sc, iv e0_, iv e1_, rv sa, rv sb, rv pa, rv pb, uu, uu] [(.int wh)])
                  refine oWk.to (mkF m 230 #[iv p0, iv p1, iv p2, iv p3, .val (.long p4), ss, iv p5, iv ap, iv bp, iv ad, iv bd, iv 1, iv 2, iv c0_, iv c1_, iv sc, iv e0_, iv e1_, rv sa, rv sb, rv pa, rv pb, iv wh, uu] [(.int 1), (.int wh)]) (fun _ kt => zS X hx hby at_225 rfl rfl (l' := #[iv p0, iv p1, iv p2, iv p3, .val (.long p4), ss, iv p5, iv ap, iv bp, iv ad, iv bd, iv 1, iv 2, iv c0_, iv c1_, iv sc, iv e0_, iv e1_, rv sa, rv sb, rv pa, rv pb, iv wh, uu]) rfl (zJ X hx hby at_227 rfl rfl (zK X hx hby at_229 rfl kt))) ?_
                  by_cases hc230 : wh = (1 : Int32)
                  · refine oWk.to (mkF m 233 #[iv p0, iv p1, iv p2, iv p3, .val (.long p4), ss, iv p5, iv ap, iv bp, iv ad, iv bd, iv 1, iv 2, iv c0_, iv c1_, iv sc, iv e0_, iv e1_, rv sa, rv sb, rv pa, rv pb, iv wh, uu] []) (fun _ kt => zN X hx hby at_230 rfl rfl (teq hc230).2 kt) ?_
                    refine oWk.st (fun _ kt => zB X hx hby at_233 rfl rfl rfl (XS.aconstNull X.here hx rfl (hb hby at_235) kt)) ?_
                    have Oh := K.old O0 all0
                    have E_pa := (E_pa.keep K109.1)
                    obtain ⟨T, L112, X, e0, K, st⟩ := (cs24 hw).pure X hx hZ hown e0 K (A := [(.ref pa), .null]) ⟨rfl, _, _, rfl, E_pa⟩ (rEN l Z a0 hw [] pa h Oh ) (W := 0) (by decide) hml (Ls := #[iv p0, iv p1, iv p2, iv p3, .val (.long p4), ss, iv p5, iv ap, iv bp, iv ad, iv bd, iv 1, iv 2, iv c0_, iv c1_, iv sc, iv e0_, iv e1_, rv sa, rv sb, rv pa, rv pb, iv wh, uu]) rfl (rest := []) rfl rfl hby at_236
                    refine oWk.to (mkF m 247 #[iv p0, iv p1, iv p2, iv p3, .val (.long p4), ss, iv p5, iv ap, iv bp, iv ad, iv bd, iv 1, iv 2, iv c0_, iv c1_, iv sc, iv e0_, iv e1_, rv sa, rv sb, rv pa, rv pb, iv wh, uu] [(.int 1)]) (fun _ kt => st _ (zH X hx hby at_239 rfl rfl ((if0 _ _).trans (teq (by decide)).2) (zK X hx hby at_242 rfl (zG X hx hby at_243 rfl (pc' := 247) rfl kt)))) ?_
                    exact oRetH X hx hlk hZ (oELw hw) e0 B hret (oNar01 (Or.inr rfl)) (Or.inl ⟨rfl, Or.inr (Or.inl rfl), _, rfl⟩) (hb hby at_247) (by rw [e0]; exact ⟨rfl, K.fr⟩) (by decide) (by decide)
                  · refine oWk.to (mkF m 248 #[iv p0, iv p1, iv p2, iv p3, .val (.long p4), ss, iv p5, iv ap, iv bp, iv ad, iv bd, iv 1, iv 2, iv c0_, iv c1_, iv sc, iv e0_, iv e1_, rv sa, rv sb, rv pa, rv pb, iv wh, uu] []) (fun _ kt => zY X hx hby at_230 rfl rfl (feq hc230).2 (pc' := 248) rfl kt) ?_
                    refine oWk.to (mkF m 251 #[iv p0, iv p1, iv p2, iv p3, .val (.long p4), ss, iv p5, iv ap, iv bp, iv ad, iv bd, iv 1, iv 2, iv c0_, iv c1_, iv sc, iv e0_, iv e1_, rv sa, rv sb, rv pa, rv pb, iv wh, uu] [(.int 2), (.int wh)]) (fun _ kt => zJ X hx hby at_248 rfl rfl (zK X hx hby at_250 rfl kt)) ?_
                    by_cases hc251 : wh = (2 : Int32)
                    · refine oWk.to (mkF m 254 #[iv p0, iv p1, iv p2, iv p3, .val (.long p4), ss, iv p5, iv ap, iv bp, iv ad, iv bd, iv 1, iv 2, iv c0_, iv c1_, iv sc, iv e0_, iv e1_, rv sa, rv sb, rv pa, rv pb, iv wh, uu] []) (fun _ kt => zN X hx hby at_251 rfl rfl (teq hc251).2 kt) ?_
                      refine oWk.st (fun _ kt => zB X hx hby at_254 rfl rfl rfl (zT X hx hby at_256 rfl rfl rfl (l' := #[iv p0, iv p1, iv p2, iv p3, .val (.long p4), ss, iv p5, iv ap, iv bp, iv ad, iv bd, iv 1, iv 2, iv c0_, iv c1_, iv sc, iv e0_, iv e1_, rv sa, rv sb, rv pa, rv pb, iv wh, rv sa]) rfl (zB X hx hby at_258 rfl rfl rfl (zB X hx hby at_260 rfl rfl rfl kt)))) ?_
                      have E_sa := ((E_sa.ext E108).keep K109.1)
                      have Oh := K.old O0 all0
                      have E_pa := (E_pa.keep K109.1)
                      obtain ⟨T, L114, X, e0, K, st⟩ := (cs24 hw).pure X hx hZ hown e0 K (A := [(.ref pa), (.ref sa)]) ⟨rfl, _, _, rfl, E_pa⟩ (rET l Z a0 hw [] pa sa h Oh E_sa) (W := 0) (by decide) hml (Ls := #[iv p0, iv p1, iv p2, iv p3, .val (.long p4), ss, iv p5, iv ap, iv bp, iv ad, iv bd, iv 1, iv 2, iv c0_, iv c1_, iv sc, iv e0_, iv e1_, rv sa, rv sb, rv pa, rv pb, iv wh, rv sa]) rfl (rest := []) rfl rfl hby at_262
                      refine oWk.to (mkF m 273 #[iv p0, iv p1, iv p2, iv p3, .val (.long p4), ss, iv p5, iv ap, iv bp, iv ad, iv bd, iv 1, iv 2, iv c0_, iv c1_, iv sc, iv e0_, iv e1_, rv sa, rv sb, rv pa, rv pb, iv wh, rv sa] [(.int 1)]) (fun _ kt => st _ (zH X hx hby at_265 rfl rfl ((if0 _ _).trans (teq (by decide)).2) (zK X hx hby at_268 rfl (zG X hx hby at_269 rfl (pc' := 273) rfl kt)))) ?_
                      exact oRetH X hx hlk hZ (oELw hw) e0 B hret (oNar01 (Or.inr rfl)) (Or.inl ⟨rfl, Or.inr (Or.inl rfl), _, rfl⟩) (hb hby at_273) (by rw [e0]; exact ⟨rfl, K.fr⟩) (by decide) (by decide)
                    · refine oWk.to (mkF m 274 #[iv p0, iv p1, iv p2, iv p3, .val (.long p4), ss, iv p5, iv ap, iv bp, iv ad, iv bd, iv 1, iv 2, iv c0_, iv c1_, iv sc, iv e0_, iv e1_, rv sa, rv sb, rv pa, rv pb, iv wh, uu] []) (fun _ kt => zY X hx hby at_251 rfl rfl (feq hc251).2 (pc' := 274) rfl kt) ?_
                      refine oWk.to (mkF m 277 #[iv p0, iv p1, iv p2, iv p3, .val (.long p4), ss, iv p5, iv ap, iv bp, iv ad, iv bd, iv 1, iv 2, iv c0_, iv c1_, iv sc, iv e0_, iv e1_, rv sa, rv sb, rv pa, rv pb, iv wh, uu] [(.int 3), (.int wh)]) (fun _ kt => zJ X hx hby at_274 rfl rfl (zK X hx hby at_276 rfl kt)) ?_
                      by_cases hc277 : wh = (3 : Int32)
                      · refine oWk.to (mkF m 280 #[iv p0, iv p1, iv p2, iv p3, .val (.long p4), ss, iv p5, iv ap, iv bp, iv ad, iv bd, iv 1, iv 2, iv c0_, iv c1_, iv sc, iv e0_, iv e1_, rv sa, rv sb, rv pa, rv pb, iv wh, uu] []) (fun _ kt => zN X hx hby at_277 rfl rfl (teq hc277).2 kt) ?_
                        refine oWk.st (fun _ kt => zB X hx hby at_280 rfl rfl rfl (zB X hx hby at_282 rfl rfl rfl kt)) ?_
                        have E_pa := (E_pa.keep K109.1)
                        have F_position_pa := ((F_position_pa.ext E108).keep K109.1 (ninS ne_pa_pb nin0))
                        have F_deleteCount_pa := ((F_deleteCount_pa.ext E108).keep K109.1 (ninS ne_pa_pb nin0))
                        have F_insertion_pa := ((F_insertion_pa.ext E108).keep K109.1 (ninS ne_pa_pb nin0))
                        have E_sa := ((E_sa.ext E108).keep K109.1)
                        have Oh := K.old O0 all0
                        obtain ⟨T, L116, X, e0, K, st⟩ := (cs24 hw).pure X hx hZ hown e0 K (A := [(.ref pa), (.ref pa)]) ⟨rfl, _, _, rfl, E_pa⟩ (rEI l Z a0 hw [] pa ap ad sa h Oh E_pa F_position_pa F_deleteCount_pa F_insertion_pa E_sa) (W := 0) (by decide) hml (Ls := #[iv p0, iv p1, iv p2, iv p3, .val (.long p4), ss, iv p5, iv ap, iv bp, iv ad, iv bd, iv 1, iv 2, iv c0_, iv c1_, iv sc, iv e0_, iv e1_, rv sa, rv sb, rv pa, rv pb, iv wh, uu]) rfl (rest := []) rfl rfl hby at_284
                        refine oWk.to (mkF m 287 #[iv p0, iv p1, iv p2, iv p3, .val (.long p4), ss, iv p5, iv ap, iv bp, iv ad, iv bd, iv 1, iv 2, iv c0_, iv c1_, iv sc, iv e0_, iv e1_, rv sa, rv sb, rv pa, rv pb, iv wh, uu] [(.int 1)]) (fun _ kt => st _ kt) ?_
                        exact oRetH X hx hlk hZ (oELw hw) e0 B hret (oNar01 (Or.inr rfl)) (Or.inl ⟨rfl, Or.inr (Or.inl rfl), _, rfl⟩) (hb hby at_287) (by rw [e0]; exact ⟨rfl, K.fr⟩) (by decide) (by decide)
                      · refine oWk.to (mkF m 288 #[iv p0, iv p1, iv p2, iv p3, .val (.long p4), ss, iv p5, iv ap, iv bp, iv ad, iv bd, iv 1, iv 2, iv c0_, iv c1_, iv sc, iv e0_, iv e1_, rv sa, rv sb, rv pa, rv pb, iv wh, uu] []) (fun _ kt => zY X hx hby at_277 rfl rfl (feq hc277).2 (pc' := 288) rfl kt) ?_
                        refine oWk.to (mkF m 292 #[iv p0, iv p1, iv p2, iv p3, .val (.long p4), ss, iv p5, iv ap, iv bp, iv ad, iv bd, iv 1, iv 2, iv c0_, iv c1_, iv sc, iv e0_, iv e1_, rv sa, rv sb, rv pa, rv pb, iv wh, uu] [(.int bp), (.int ap)]) (fun _ kt => zJ X hx hby at_288 rfl rfl (zJ X hx hby at_290 rfl rfl kt)) ?_
                        have J340 : ∀ (ex : Int32), ex = (0 : Int32) → oWk p.tables e below (oDnH Z oEL s h0 below (Q_rLaw Z p0 p1 p2 p3 p4 p5 xfm xz h0) room_1.cells room_1.slots) T (mkF m 340 #[iv p0, iv p1, iv p2, iv p3, .val (.long p4), ss, iv p5, iv ap, iv bp, iv ad, iv bd, iv 1, iv 2, iv c0_, iv c1_, iv sc, iv e0_, iv e1_, rv sa, rv sb, rv pa, rv pb, iv wh, uu] [(.int ex)]) := by
                          intro ex hex
                          refine oWk.st (fun _ kt => zS X hx hby at_340 rfl rfl (l' := #[iv p0, iv p1, iv p2, iv p3, .val (.long p4), ss, iv p5, iv ap, iv bp, iv ad, iv bd, iv 1, iv 2, iv c0_, iv c1_, iv sc, iv e0_, iv e1_, rv sa, rv sb, rv pa, rv pb, iv wh, iv ex]) rfl (zB X hx hby at_342 rfl rfl rfl (zB X hx hby at_344 rfl rfl rfl kt))) ?_
                          have E_pa := (E_pa.keep K109.1)
                          have F_position_pa := ((F_position_pa.ext E108).keep K109.1 (ninS ne_pa_pb nin0))
                          have F_deleteCount_pa := ((F_deleteCount_pa.ext E108).keep K109.1 (ninS ne_pa_pb nin0))
                          have F_insertion_pa := ((F_insertion_pa.ext E108).keep K109.1 (ninS ne_pa_pb nin0))
                          have E_sb := (E_sb.keep K109.1)
                          have F_coder_sb := (F_coder_sb.keep K109.1 (ninS ne_sb_pb nin0))
                          have F_value_sb := (F_value_sb.keep K109.1 (ninS ne_sb_pb nin0))
                          have V_sbb := (V_sbb.keep K109.1 (ninS ne_sbb_pb nin0))
                          have E_sa := ((E_sa.ext E108).keep K109.1)
                          have F_coder_sa := (((F_coder_sa.keep K106.1 (ninS ne_sa_pa nin0)).ext E108).keep K109.1 (ninS ne_sa_pb nin0))
                          have F_value_sa := (((F_value_sa.keep K106.1 (ninS ne_sa_pa nin0)).ext E108).keep K109.1 (ninS ne_sa_pb nin0))
                          have V_sab := ((V_sab.ext E108).keep K109.1 (ninS ne_sab_pb nin0))
                          have Oh := K.old O0 all0
                          obtain ⟨T, L118, X, e0, K, st⟩ := (cs24 hw).pure X hx hZ hown e0 K (A := [(.ref pa), (.ref pb)]) ⟨rfl, _, _, rfl, E_pa⟩ (rED_2_1 l Z a0 hw [] pa ap ad pb bp bd sb sbb sbk sa sab sak xz e0_ e1_ c0_ h Oh S_Z hz E_pa F_position_pa F_deleteCount_pa F_insertion_pa E_pb F_position_pb F_deleteCount_pb F_insertion_pb (Ne.symm ne_sa_sb) E_sb F_coder_sb F_value_sb V_sbb E_sa F_coder_sa F_value_sa V_sab) (W := 0) (by decide) hml (Ls := #[iv p0, iv p1, iv p2, iv p3, .val (.long p4), ss, iv p5, iv ap, iv bp, iv ad, iv bd, iv 1, iv 2, iv c0_, iv c1_, iv sc, iv e0_, iv e1_, rv sa, rv sb, rv pa, rv pb, iv wh, iv ex]) rfl (rest := []) rfl rfl hby at_346
                          refine oWk.to (mkF m 351 #[iv p0, iv p1, iv p2, iv p3, .val (.long p4), ss, iv p5, iv ap, iv bp, iv ad, iv bd, iv 1, iv 2, iv c0_, iv c1_, iv sc, iv e0_, iv e1_, rv sa, rv sb, rv pa, rv pb, iv wh, iv ex] [(.int ex), (.int 0)]) (fun _ kt => st _ (zJ X hx hby at_349 rfl rfl kt)) ?_
                          refine oWk.st (fun _ kt => zN X hx hby at_351 rfl rfl (teq hex.symm).2 (zB X hx hby at_354 rfl rfl rfl (zB X hx hby at_356 rfl rfl rfl kt))) ?_
                          obtain ⟨T, L120, X, e0, K, st⟩ := (cs24 hw).pure X hx hZ hown e0 K (A := [(.ref pb), (.ref pa)]) ⟨rfl, _, _, rfl, E_pb⟩ (rED_1_2 l Z a0 hw [] pb bp bd pa ap ad sa sab sak sb sbb sbk xz c0_ e0_ e1_ h Oh S_Z hz E_pb F_position_pb F_deleteCount_pb F_insertion_pb E_pa F_position_pa F_deleteCount_pa F_insertion_pa ne_sa_sb E_sa F_coder_sa F_value_sa V_sab E_sb F_coder_sb F_value_sb V_sbb) (W := 0) (by decide) hml (Ls := #[iv p0, iv p1, iv p2, iv p3, .val (.long p4), ss, iv p5, iv ap, iv bp, iv ad, iv bd, iv 1, iv 2, iv c0_, iv c1_, iv sc, iv e0_, iv e1_, rv sa, rv sb, rv pa, rv pb, iv wh, iv ex]) rfl (rest := []) rfl rfl hby at_358
                          refine oWk.to (mkF m 363 #[iv p0, iv p1, iv p2, iv p3, .val (.long p4), ss, iv p5, iv ap, iv bp, iv ad, iv bd, iv 1, iv 2, iv c0_, iv c1_, iv sc, iv e0_, iv e1_, rv sa, rv sb, rv pa, rv pb, iv wh, iv ex] [(.int ex), (.int 0)]) (fun _ kt => st _ (zJ X hx hby at_361 rfl rfl kt)) ?_
                          refine oWk.to (mkF m 371 #[iv p0, iv p1, iv p2, iv p3, .val (.long p4), ss, iv p5, iv ap, iv bp, iv ad, iv bd, iv 1, iv 2, iv c0_, iv c1_, iv sc, iv e0_, iv e1_, rv sa, rv sb, rv pa, rv pb, iv wh, iv ex] [(.int 1)]) (fun _ kt => zN X hx hby at_363 rfl rfl (teq hex.symm).2 (zK X hx hby at_366 rfl (zG X hx hby at_367 rfl (pc' := 371) rfl kt))) ?_
                          exact oRetH X hx hlk hZ (oELw hw) e0 B hret (oNar01 (Or.inr rfl)) (Or.inl ⟨rfl, Or.inr (Or.inl rfl), _, rfl⟩) (hb hby at_371) (by rw [e0]; exact ⟨rfl, K.fr⟩) (by decide) (by decide)
                        by_cases hc292 : ap = bp
                        · refine oWk.to (mkF m 295 #[iv p0, iv p1, iv p2, iv p3, .val (.long p4), ss, iv p5, iv ap, iv bp, iv ad, iv bd, iv 1, iv 2, iv c0_, iv c1_, iv sc, iv e0_, iv e1_, rv sa, rv sb, rv pa, rv pb, iv wh, uu] []) (fun _ kt => zN X hx hby at_292 rfl rfl (teq hc292).2 kt) ?_
                          refine oWk.to (mkF m 299 #[iv p0, iv p1, iv p2, iv p3, .val (.long p4), ss, iv p5, iv ap, iv bp, iv ad, iv bd, iv 1, iv 2, iv c0_, iv c1_, iv sc, iv e0_, iv e1_, rv sa, rv sb, rv pa, rv pb, iv wh, uu] [(.int bd), (.int ad)]) (fun _ kt => zJ X hx hby at_295 rfl rfl (zJ X hx hby at_297 rfl rfl kt)) ?_
                          by_cases hc299 : ad = bd
                          · refine oWk.to (mkF m 302 #[iv p0, iv p1, iv p2, iv p3, .val (.long p4), ss, iv p5, iv ap, iv bp, iv ad, iv bd, iv 1, iv 2, iv c0_, iv c1_, iv sc, iv e0_, iv e1_, rv sa, rv sb, rv pa, rv pb, iv wh, uu] []) (fun _ kt => zN X hx hby at_299 rfl rfl (teq hc299).2 kt) ?_
                            refine oWk.to (mkF m 340 #[iv p0, iv p1, iv p2, iv p3, .val (.long p4), ss, iv p5, iv ap, iv bp, iv ad, iv bd, iv 1, iv 2, iv c0_, iv c1_, iv sc, iv e0_, iv e1_, rv sa, rv sb, rv pa, rv pb, iv wh, uu] [(.int 0)]) (fun _ kt => zJ X hx hby at_302 rfl rfl (zJ X hx hby at_304 rfl rfl (zY X hx hby at_306 rfl rfl (feq (by decide)).2 (pc' := 339) rfl (zK X hx hby at_339 rfl kt)))) ?_
                            exact J340 _ rfl
                          · refine oWk.to (mkF m 339 #[iv p0, iv p1, iv p2, iv p3, .val (.long p4), ss, iv p5, iv ap, iv bp, iv ad, iv bd, iv 1, iv 2, iv c0_, iv c1_, iv sc, iv e0_, iv e1_, rv sa, rv sb, rv pa, rv pb, iv wh, uu] []) (fun _ kt => zY X hx hby at_299 rfl rfl (feq hc299).2 (pc' := 339) rfl kt) ?_
                            refine oWk.to (mkF m 340 #[iv p0, iv p1, iv p2, iv p3, .val (.long p4), ss, iv p5, iv ap, iv bp, iv ad, iv bd, iv 1, iv 2, iv c0_, iv c1_, iv sc, iv e0_, iv e1_, rv sa, rv sb, rv pa, rv pb, iv wh, uu] [(.int 0)]) (fun _ kt => zK X hx hby at_339 rfl kt) ?_
                            exact J340 _ rfl
                        · refine oWk.to (mkF m 339 #[iv p0, iv p1, iv p2, iv p3, .val (.long p4), ss, iv p5, iv ap, iv bp, iv ad, iv bd, iv 1, iv 2, iv c0_, iv c1_, iv sc, iv e0_, iv e1_, rv sa, rv sb, rv pa, rv pb, iv wh, uu] []) (fun _ kt => zY X hx hby at_292 rfl rfl (feq hc292).2 (pc' := 339) rfl kt) ?_
                          refine oWk.to (mkF m 340 #[iv p0, iv p1, iv p2, iv p3, .val (.long p4), ss, iv p5, iv ap, iv bp, iv ad, iv bd, iv 1, iv 2, iv c0_, iv c1_, iv sc, iv e0_, iv e1_, rv sa, rv sb, rv pa, rv pb, iv wh, uu] [(.int 0)]) (fun _ kt => zK X hx hby at_339 rfl kt) ?_
                          exact J340 _ rfl
              · show oWk _ _ _ _ T (mkF m 166 #[iv p0, iv p1, iv p2, iv p3, .val (.long p4), ss, iv p5, iv ap, iv bp, iv ad, iv bd, iv 2, iv lb, iv c0_, iv c1_, iv sc, iv e0_, iv e1_, uu, uu, uu, uu, uu, uu] [])
                rcases hlb with rfl | rfl | rfl
                · show oWk _ _ _ _ T (mkF m 166 #[iv p0, iv p1, iv p2, iv p3, .val (.long p4), ss, iv p5, iv ap, iv bp, iv ad, iv bd, iv 2, iv 0, iv c0_, iv c1_, iv sc, iv e0_, iv e1_, uu, uu, uu, uu, uu, uu] [])
                  refine oWk.st (fun _ kt => zJ X hx hby at_166 rfl rfl (zJ X hx hby at_168 rfl rfl (zJ X hx hby at_170 rfl rfl kt))) ?_
                  have Oh := K.old O0 all0
                  obtain ⟨_, T, h, Lc122, X, e0, hQ, st⟩ := (cs25 hw).run X hx hZ hown e0 (A := [(.int (2 : Int32)), (.int c0_), (.int c1_)]) rfl (rStr_2 l Z a0 hw [] c0_ c1_ xz h0 Oh S_Z hz r_c0_ r_c1_) (W := 0) (by decide) hml (Ls := #[iv p0, iv p1, iv p2, iv p3, .val (.long p4), ss, iv p5, iv ap, iv bp, iv ad, iv bd, iv 2, iv 0, iv c0_, iv c1_, iv sc, iv e0_, iv e1_, uu, uu, uu, uu, uu, uu]) rfl (rest := []) rfl rfl hby at_172
                  obtain ⟨sa, sab, sak, rfl, K121, gn_sa, gn_sab, E_sa, F_coder_sa, F_value_sa, V_sab⟩ := hQ
                  have ge_sa := Nat.le_trans K.le gn_sa
                  have ge_sab := Nat.le_trans K.le gn_sab
                  have K := K.call K121 all0
                  have B := B.keep K121.1 sf0
                  refine oWk.st (fun _ kt => st _ (zT X hx hby at_175 rfl rfl rfl (l' := #[iv p0, iv p1, iv p2, iv p3, .val (.long p4), ss, iv p5, iv ap, iv bp, iv ad, iv bd, iv 2, iv 0, iv c0_, iv c1_, iv sc, iv e0_, iv e1_, rv sa, uu, uu, uu, uu, uu]) rfl (zJ X hx hby at_177 rfl rfl (zJ X hx hby at_179 rfl rfl (zJ X hx hby at_181 rfl rfl kt))))) ?_
                  have lt_sa := E_sa.lt
                  have lt_sab := V_sab.lt
                  have Oh := K.old O0 all0
                  obtain ⟨_, _, ⟨T, L124, k124, n124⟩, -, X, hS, hgr, ⟨Lc124, hQ, l124, y124, z124, C⟩, st⟩ := callSS X hx (y := yy2) hown (mvT hZ (oW hw 2 rfl)) (mvT hZ (oW hw 3 rfl)) (mvT hZ (oW hw 4 rfl)) (mvT hZ (oW hw 5 rfl)) (by decide) (oBackH (W := 0) (rStr_0 l Z a0 hw [] e0_ e1_ xz h Oh S_Z hz) hZ (oW hw 5 rfl) (oW hw 4 rfl) (by decide) (by decide) (oELw hw) B.2.1 all0) (g := (mkF m 183 #[iv p0, iv p1, iv p2, iv p3, .val (.long p4), ss, iv p5, iv ap, iv bp, iv ad, iv bd, iv 2, iv 0, iv c0_, iv c1_, iv sc, iv e0_, iv e1_, rv sa, uu, uu, uu, uu, uu] [(.int e1_), (.int e0_), (.int 0)])) rfl (by rw [hml]; rfl) (argsL := [(.int (0 : Int32)), (.int e0_), (.int e1_)]) (rest := []) (lenOf pd_21 rfl) rfl (Nat.le_of_eq rfl) (hb hby at_183) (fun _ _ => ⟨rfl, e0, (by decide : 3 + 6 ≤ _), (by decide : 8 + 12 ≤ _)⟩)
                  dsimp only [Pt.U, Pt.locs, Pt.cells, Pt.slots] at X l124 y124 z124 st hQ C hS hgr
                  subst l124 y124 z124
                  have X : Stand p l e _ (s.setVm T.vm) m _ below meth c T _ _ _ := X
                  obtain ⟨h, e2⟩ : ∃ z, T.heap = z := ⟨_, rfl⟩
                  have B := B.call e0 hS hgr C e2
                  obtain ⟨hZ, hown⟩ := oWide hZ hown hS
                  rw [e2] at hQ C
                  have e0 := e2
                  obtain ⟨sb, sbb, sbk, rfl, K123, gn_sb, E_sb, F_coder_sb, F_value_sb, V_sbb⟩ := hQ
                  have ge_sb := Nat.le_trans K.le gn_sb
                  have ne_sa_sb : sa ≠ sb := Nat.ne_of_lt (Nat.lt_of_lt_of_le lt_sa gn_sb)
                  have ne_sab_sb : sab ≠ sb := Nat.ne_of_lt (Nat.lt_of_lt_of_le lt_sab gn_sb)
                  have K := K.call K123 all0
                  refine oWk.st (fun _ kt => st.trans (zT X hx hby at_186 rfl rfl rfl (l' := #[iv p0, iv p1, iv p2, iv p3, .val (.long p4), ss, iv p5, iv ap, iv bp, iv ad, iv bd, iv 2, iv 0, iv c0_, iv c1_, iv sc, iv e0_, iv e1_, rv sa, rv sb, uu, uu, uu, uu]) rfl kt)) ?_
                  obtain ⟨pa, g125⟩ : ∃ z, z = h.size := ⟨_, rfl⟩
                  have E_sa := (E_sa.keep K123.1)
                  have ne_sa_pa : sa ≠ pa := Nat.ne_of_lt (Nat.lt_of_lt_of_le E_sa.lt (Nat.le_of_eq g125.symm))
                  have V_sab := (V_sab.keep K123.1 nin0)
                  have ne_sab_pa : sab ≠ pa := Nat.ne_of_lt (Nat.lt_of_lt_of_le V_sab.lt (Nat.le_of_eq g125.symm))
                  have ne_sb_pa : sb ≠ pa := Nat.ne_of_lt (Nat.lt_of_lt_of_le E_sb.lt (Nat.le_of_eq g125.symm))
                  have ne_sbb_pa : sbb ≠ pa := Nat.ne_of_lt (Nat.lt_of_lt_of_le V_sbb.lt (Nat.le_of_eq g125.symm))
                  have ge_pa : h0.size ≤ pa := Nat.le_trans K.le (Nat.le_of_eq g125.symm)
                  have sf_pa := B.new (Nat.le_of_eq g125.symm)
                  obtain ⟨T, h, X, e0, E125, A125, D125, -, st⟩ := newO X hx hZ hown (oW hw 28 rfl) (oW hw 29 rfl) (oW hw 30 rfl) e0 (g := (mkF m 188 #[iv p0, iv p1, iv p2, iv p3, .val (.long p4), ss, iv p5, iv ap, iv bp, iv ad, iv bd, iv 2, iv 0, iv c0_, iv c1_, iv sc, iv e0_, iv e1_, rv sa, rv sb, uu, uu, uu, uu] [])) rfl (hb hby at_188) (by decide) (by decide)
                  rw [← g125] at A125 D125 st
                  have K := K.ext E125
                  have sf_pa := Safe.ext E125 B.2.1 sf_pa
                  have B := B.ext E125
                  have E_pa := A125
                  have F_position_pa : Fld Z h pa Y1 "position" "I" (.int (0 : Int32)) := D125 (Or.inr (oW hw 60 rfl)) (ty := .int) (by decide)
                  have F_deleteCount_pa : Fld Z h pa Y1 "deleteCount" "I" (.int (0 : Int32)) := D125 (Or.inr (oW hw 62 rfl)) (ty := .int) (by decide)
                  have F_insertion_pa : Fld Z h pa Y1 "insertion" Y3 .null := D125 (Or.inr (oW hw 64 rfl)) (ty := (.object Y0)) (by decide)
                  have F_insertionLength_pa : Fld Z h pa Y1 Y4 "I" (.int (0 : Int32)) := D125 (Or.inr (oW hw 85 rfl)) (ty := .int) (by decide)
                  refine oWk.st (fun _ kt => st _ (zD X hx hby at_191 rfl rfl rfl (zJ X hx hby at_192 rfl rfl (zJ X hx hby at_194 rfl rfl (zB X hx hby at_196 rfl rfl rfl kt))))) ?_
                  have E_sa := (E_sa.ext E125)
                  have F_coder_sa := ((F_coder_sa.keep K123.1 nin0).ext E125)
                  have F_value_sa := ((F_value_sa.keep K123.1 nin0).ext E125)
                  have V_sab := (V_sab.ext E125)
                  have Oh := K.old O0 all0
                  obtain ⟨_, _, ⟨T, L127, k127, n127⟩, -, X, hS, hgr, ⟨Lc127, hQ, l127, y127, z127, C⟩, st⟩ := X.specialBackS hx (y := yy17) rfl hown (mvT hZ (oW hw 31 rfl)) (mvT hZ (oW hw 32 rfl)) (mvT hZ (oW hw 33 rfl)) (by decide) (oBackH (W := 1) (rPI_2 l Z a0 hw [] pa ap ad (.int (0 : Int32)) (.int (0 : Int32)) .null (.int (0 : Int32)) sa sab sak xfm xz c0_ c1_ h Oh S_Z hz S_F hcat (Nat.le_trans O0.1 ge_pa) E_pa F_position_pa F_deleteCount_pa F_insertion_pa F_insertionLength_pa E_sa F_coder_sa F_value_sa V_sab r_c0_ r_c1_ ne_sa_pa ne_sab_pa hap had) hZ (oW hw 33 rfl) (oW hw 30 rfl) (by decide) (by decide) (oELw hw) B.2.1 (allS ⟨E_pa.lt, sf_pa⟩ all0)) (g := (mkF m 198 #[iv p0, iv p1, iv p2, iv p3, .val (.long p4), ss, iv p5, iv ap, iv bp, iv ad, iv bd, iv 2, iv 0, iv c0_, iv c1_, iv sc, iv e0_, iv e1_, rv sa, rv sb, uu, uu, uu, uu] [(.ref sa), (.int ad), (.int ap), (.ref pa), (.ref pa)])) rfl (by rw [hml]; rfl) (Steps.refl _) (a := pa) (argsL := [(.int ap), (.int ad), (.ref sa)]) (rest := [(.ref pa)]) (lenOf pd_22 rfl) rfl (Nat.le_of_eq rfl) (hb hby at_198) (fun _ _ => ⟨rfl, e0, (by decide : 10 + 4 ≤ _), (by decide : 24 + 112 ≤ _)⟩)
                  dsimp only [Pt.U, Pt.locs, Pt.cells, Pt.slots] at X l127 y127 z127 st hQ C hS hgr
                  subst l127 y127 z127
                  have X : Stand p l e _ (s.setVm T.vm) m _ below meth c T _ _ _ := X
                  obtain ⟨h, e2⟩ : ∃ z, T.heap = z := ⟨_, rfl⟩
                  have B := B.call e0 hS hgr C e2
                  obtain ⟨hZ, hown⟩ := oWide hZ hown hS
                  rw [e2] at hQ C
                  have sf_pa := C.safe E_pa.lt sf_pa
                  have e0 := e2
                  obtain ⟨rfl, K126, E_pa, F_position_pa, F_deleteCount_pa, F_insertion_pa⟩ := hQ
                  have K := K.call K126 (allS (Or.inr ge_pa) all0)
                  refine oWk.st (fun _ kt => st.trans (zT X hx hby at_201 rfl rfl rfl (l' := #[iv p0, iv p1, iv p2, iv p3, .val (.long p4), ss, iv p5, iv ap, iv bp, iv ad, iv bd, iv 2, iv 0, iv c0_, iv c1_, iv sc, iv e0_, iv e1_, rv sa, rv sb, rv pa, uu, uu, uu]) rfl kt)) ?_
                  obtain ⟨pb, g128⟩ : ∃ z, z = h.size := ⟨_, rfl⟩
                  have E_sa := (E_sa.keep K126.1)
                  have ne_sa_pb : sa ≠ pb := Nat.ne_of_lt (Nat.lt_of_lt_of_le E_sa.lt (Nat.le_of_eq g128.symm))
                  have V_sab := (V_sab.keep K126.1 (ninS ne_sab_pa nin0))
                  have ne_sab_pb : sab ≠ pb := Nat.ne_of_lt (Nat.lt_of_lt_of_le V_sab.lt (Nat.le_of_eq g128.symm))
                  have E_sb := ((E_sb.ext E125).keep K126.1)
                  have ne_sb_pb : sb ≠ pb := Nat.ne_of_lt (Nat.lt_of_lt_of_le E_sb.lt (Nat.le_of_eq g128.symm))
                  have V_sbb := ((V_sbb.ext E125).keep K126.1 (ninS ne_sbb_pa nin0))
                  have ne_sbb_pb : sbb ≠ pb := Nat.ne_of_lt (Nat.lt_of_lt_of_le V_sbb.lt (Nat.le_of_eq g128.symm))
                  have ne_pa_pb : pa ≠ pb := Nat.ne_of_lt (Nat.lt_of_lt_of_le E_pa.lt (Nat.le_of_eq g128.symm))
                  have ge_pb : h0.size ≤ pb := Nat.le_trans K.le (Nat.le_of_eq g128.symm)
                  have sf_pb := B.new (Nat.le_of_eq g128.symm)
                  obtain ⟨T, h, X, e0, E128, A128, D128, -, st⟩ := newO X hx hZ hown (oW hw 28 rfl) (oW hw 29 rfl) (oW hw 30 rfl) e0 (g := (mkF m 203 #[iv p0, iv p1, iv p2, iv p3, .val (.long p4), ss, iv p5, iv ap, iv bp, iv ad, iv bd, iv 2, iv 0, iv c0_, iv c1_, iv sc, iv e0_, iv e1_, rv sa, rv sb, rv pa, uu, uu, uu] [])) rfl (hb hby at_203) (by decide) (by decide)
                  rw [← g128] at A128 D128 st
                  have K := K.ext E128
                  have sf_pa := Safe.ext E128 B.2.1 sf_pa
                  have sf_pb := Safe.ext E128 B.2.1 sf_pb
                  have B := B.ext E128
                  have E_pb := A128
                  have F_position_pb : Fld Z h pb Y1 "position" "I" (.int (0 : Int32)) := D128 (Or.inr (oW hw 60 rfl)) (ty := .int) (by decide)
                  have F_deleteCount_pb : Fld Z h pb Y1 "deleteCount" "I" (.int (0 : Int32)) := D128 (Or.inr (oW hw 62 rfl)) (ty := .int) (by decide)
                  have F_insertion_pb : Fld Z h pb Y1 "insertion" Y3 .null := D128 (Or.inr (oW hw 64 rfl)) (ty := (.object Y0)) (by decide)
                  have F_insertionLength_pb : Fld Z h pb Y1 Y4 "I" (.int (0 : Int32)) := D128 (Or.inr (oW hw 85 rfl)) (ty := .int) (by decide)
                  refine oWk.st (fun _ kt => st _ (zD X hx hby at_206 rfl rfl rfl (zJ X hx hby at_207 rfl rfl (zJ X hx hby at_209 rfl rfl (zB X hx hby at_211 rfl rfl rfl kt))))) ?_
                  have E_sb := (E_sb.ext E128)
                  have F_coder_sb := (((F_coder_sb.ext E125).keep K126.1 (ninS ne_sb_pa nin0)).ext E128)
                  have F_value_sb := (((F_value_sb.ext E125).keep K126.1 (ninS ne_sb_pa nin0)).ext E128)
                  have V_sbb := (V_sbb.ext E128)
                  have Oh := K.old O0 all0
                  have E_pa := (E_pa.ext E128)
                  obtain ⟨_, _, ⟨T, L130, k130, n130⟩, -, X, hS, hgr, ⟨Lc130, hQ, l130, y130, z130, C⟩, st⟩ := X.specialBackS hx (y := yy17) rfl hown (mvT hZ (oW hw 31 rfl)) (mvT hZ (oW hw 32 rfl)) (mvT hZ (oW hw 33 rfl)) (by decide) (oBackH (W := 1) (rPI_0 l Z a0 hw [] pb bp bd (.int (0 : Int32)) (.int (0 : Int32)) .null (.int (0 : Int32)) sb sbb sbk xfm xz h Oh S_Z hz S_F hcat (Nat.le_trans O0.1 ge_pb) E_pb F_position_pb F_deleteCount_pb F_insertion_pb F_insertionLength_pb E_sb F_coder_sb F_value_sb V_sbb ne_sb_pb ne_sbb_pb hbp hbd) hZ (oW hw 33 rfl) (oW hw 30 rfl) (by decide) (by decide) (oELw hw) B.2.1 (allS ⟨E_pb.lt, sf_pb⟩ all0)) (g := (mkF m 213 #[iv p0, iv p1, iv p2, iv p3, .val (.long p4), ss, iv p5, iv ap, iv bp, iv ad, iv bd, iv 2, iv 0, iv c0_, iv c1_, iv sc, iv e0_, iv e1_, rv sa, rv sb, rv pa, uu, uu, uu] [(.ref sb), (.int bd), (.int bp), (.ref pb), (.ref pb)])) rfl (by rw [hml]; rfl) (Steps.refl _) (a := pb) (argsL := [(.int bp), (.int bd), (.ref sb)]) (rest := [(.ref pb)]) (lenOf pd_22 rfl) rfl (Nat.le_of_eq rfl) (hb hby at_213) (fun _ _ => ⟨rfl, e0, (by decide : 15 + 4 ≤ _), (by decide : 140 + 112 ≤ _)⟩)
                  dsimp only [Pt.U, Pt.locs, Pt.cells, Pt.slots] at X l130 y130 z130 st hQ C hS hgr
                  subst l130 y130 z130
                  have X : Stand p l e _ (s.setVm T.vm) m _ below meth c T _ _ _ := X
                  obtain ⟨h, e2⟩ : ∃ z, T.heap = z := ⟨_, rfl⟩
                  have B := B.call e0 hS hgr C e2
                  obtain ⟨hZ, hown⟩ := oWide hZ hown hS
                  rw [e2] at hQ C
                  have sf_pa := C.safe E_pa.lt sf_pa
                  have sf_pb := C.safe E_pb.lt sf_pb
                  have e0 := e2
                  obtain ⟨rfl, K129, E_pb, F_position_pb, F_deleteCount_pb, F_insertion_pb⟩ := hQ
                  have K := K.call K129 (allS (Or.inr ge_pb) all0)
                  refine oWk.to (mkF m 225 #[iv p0, iv p1, iv p2, iv p3, .val (.long p4), ss, iv p5, iv ap, iv bp, iv ad, iv bd, iv 2, iv 0, iv c0_, iv c1_, iv sc, iv e0_, iv e1_, rv sa, rv sb, rv pa, rv pb, uu, uu] [(.int (((p5.toUInt32 >>> ((8 : Int32) &&& 31).toUInt32).toInt32) &&& (3 : Int32)))]) (fun _ kt => st.trans (zT X hx hby at_216 rfl rfl rfl (l' := #[iv p0, iv p1, iv p2, iv p3, .val (.long p4), ss, iv p5, iv ap, iv bp, iv ad, iv bd, iv 2, iv 0, iv c0_, iv c1_, iv sc, iv e0_, iv e1_, rv sa, rv sb, rv pa, rv pb, uu, uu]) rfl (zJ X hx hby at_218 rfl rfl (zL X hx hby at_220 rfl (XS.iushr X.here hx rfl (hb hby at_222) rfl (zK X hx hby at_223 rfl (XS.iand X.here hx rfl (hb hby at_224) rfl kt))))))) ?_
                  generalize hwh : (((p5.toUInt32 >>> ((8 : Int32) &&& 31).toUInt32).toInt32) &&& (3 : Int32)) = wh
                  show oWk _ _ _ _ T (mkF m 225 #[iv p0, iv p1, iv p2, iv p3, .val (.long p4), ss, iv p5, iv ap, iv bp, iv ad, iv bd, iv 2, iv 0, iv c0_, iv c1_, iv sc, iv e0_, iv e1_, rv sa, rv sb, rv pa, rv pb, uu, uu] [(.int wh)])
                  refine oWk.to (mkF m 230 #[iv p0, iv p1, iv p2, iv p3, .val (.long p4), ss, iv p5, iv ap, iv bp, iv ad, iv bd, iv 2, iv 0, iv c0_, iv c1_, iv sc, iv e0_, iv e1_, rv sa, rv sb, rv pa, rv pb, iv wh, uu] [(.int 1), (.int wh)]) (fun _ kt => zS X hx hby at_225 rfl rfl (l' := #[iv p0, iv p1, iv p2, iv p3, .val (.long p4), ss, iv p5, iv ap, iv bp, iv ad, iv bd, iv 2, iv 0, iv c0_, iv c1_, iv sc, iv e0_, iv e1_, rv sa, rv sb, rv pa, rv pb, iv wh, uu]) rfl (zJ X hx hby at_227 rfl rfl (zK X hx hby at_229 rfl kt))) ?_
                  by_cases hc230 : wh = (1 : Int32)
                  · refine oWk.to (mkF m 233 #[iv p0, iv p1, iv p2, iv p3, .val (.long p4), ss, iv p5, iv ap, iv bp, iv ad, iv bd, iv 2, iv 0, iv c0_, iv c1_, iv sc, iv e0_, iv e1_, rv sa, rv sb, rv pa, rv pb, iv wh, uu] []) (fun _ kt => zN X hx hby at_230 rfl rfl (teq hc230).2 kt) ?_
                    refine oWk.st (fun _ kt => zB X hx hby at_233 rfl rfl rfl (XS.aconstNull X.here hx rfl (hb hby at_235) kt)) ?_
                    have Oh := K.old O0 all0
                    have E_pa := (E_pa.keep K129.1)
                    obtain ⟨T, L132, X, e0, K, st⟩ := (cs24 hw).pure X hx hZ hown e0 K (A := [(.ref pa), .null]) ⟨rfl, _, _, rfl, E_pa⟩ (rEN l Z a0 hw [] pa h Oh ) (W := 0) (by decide) hml (Ls := #[iv p0, iv p1, iv p2, iv p3, .val (.long p4), ss, iv p5, iv ap, iv bp, iv ad, iv bd, iv 2, iv 0, iv c0_, iv c1_, iv sc, iv e0_, iv e1_, rv sa, rv sb, rv pa, rv pb, iv wh, uu]) rfl (rest := []) rfl rfl hby at_236
                    refine oWk.to (mkF m 247 #[iv p0, iv p1, iv p2, iv p3, .val (.long p4), ss, iv p5, iv ap, iv bp, iv ad, iv bd, iv 2, iv 0, iv c0_, iv c1_, iv sc, iv e0_, iv e1_, rv sa, rv sb, rv pa, rv pb, iv wh, uu] [(.int 1)]) (fun _ kt => st _ (zH X hx hby at_239 rfl rfl ((if0 _ _).trans (teq (by decide)).2) (zK X hx hby at_242 rfl (zG X hx hby at_243 rfl (pc' := 247) rfl kt)))) ?_
                    exact oRetH X hx hlk hZ (oELw hw) e0 B hret (oNar01 (Or.inr rfl)) (Or.inl ⟨rfl, Or.inr (Or.inl rfl), _, rfl⟩) (hb hby at_247) (by rw [e0]; exact ⟨rfl, K.fr⟩) (by decide) (by decide)
                  · refine oWk.to (mkF m 248 #[iv p0, iv p1, iv p2, iv p3, .val (.long p4), ss, iv p5, iv ap, iv bp, iv ad, iv bd, iv 2, iv 0, iv c0_, iv c1_, iv sc, iv e0_, iv e1_, rv sa, rv sb, rv pa, rv pb, iv wh, uu] []) (fun _ kt => zY X hx hby at_230 rfl rfl (feq hc230).2 (pc' := 248) rfl kt) ?_
                    refine oWk.to (mkF m 251 #[iv p0, iv p1, iv p2, iv p3, .val (.long p4), ss, iv p5, iv ap, iv bp, iv ad, iv bd, iv 2, iv 0, iv c0_, iv c1_, iv sc, iv e0_, iv e1_, rv sa, rv sb, rv pa, rv pb, iv wh, uu] [(.int 2), (.int wh)]) (fun _ kt => zJ X hx hby at_248 rfl rfl (zK X hx hby at_250 rfl kt)) ?_
                    by_cases hc251 : wh = (2 : Int32)
                    · refine oWk.to (mkF m 254 #[iv p0, iv p1, iv p2, iv p3, .val (.long p4), ss, iv p5, iv ap, iv bp, iv ad, iv bd, iv 2, iv 0, iv c0_, iv c1_, iv sc, iv e0_, iv e1_, rv sa, rv sb, rv pa, rv pb, iv wh, uu] []) (fun _ kt => zN X hx hby at_251 rfl rfl (teq hc251).2 kt) ?_
                      refine oWk.st (fun _ kt => zB X hx hby at_254 rfl rfl rfl (zT X hx hby at_256 rfl rfl rfl (l' := #[iv p0, iv p1, iv p2, iv p3, .val (.long p4), ss, iv p5, iv ap, iv bp, iv ad, iv bd, iv 2, iv 0, iv c0_, iv c1_, iv sc, iv e0_, iv e1_, rv sa, rv sb, rv pa, rv pb, iv wh, rv sa]) rfl (zB X hx hby at_258 rfl rfl rfl (zB X hx hby at_260 rfl rfl rfl kt)))) ?_
                      have E_sa := ((E_sa.ext E128).keep K129.1)
                      have Oh := K.old O0 all0
                      have E_pa := (E_pa.keep K129.1)
                      obtain ⟨T, L134, X, e0, K, st⟩ := (cs24 hw).pure X hx hZ hown e0 K (A := [(.ref pa), (.ref sa)]) ⟨rfl, _, _, rfl, E_pa⟩ (rET l Z a0 hw [] pa sa h Oh E_sa) (W := 0) (by decide) hml (Ls := #[iv p0, iv p1, iv p2, iv p3, .val (.long p4), ss, iv p5, iv ap, iv bp, iv ad, iv bd, iv 2, iv 0, iv c0_, iv c1_, iv sc, iv e0_, iv e1_, rv sa, rv sb, rv pa, rv pb, iv wh, rv sa]) rfl (rest := []) rfl rfl hby at_262
                      refine oWk.to (mkF m 273 #[iv p0, iv p1, iv p2, iv p3, .val (.long p4), ss, iv p5, iv ap, iv bp, iv ad, iv bd, iv 2, iv 0, iv c0_, iv c1_, iv sc, iv e0_, iv e1_, rv sa, rv sb, rv pa, rv pb, iv wh, rv sa] [(.int 1)]) (fun _ kt => st _ (zH X hx hby at_265 rfl rfl ((if0 _ _).trans (teq (by decide)).2) (zK X hx hby at_268 rfl (zG X hx hby at_269 rfl (pc' := 273) rfl kt)))) ?_
                      exact oRetH X hx hlk hZ (oELw hw) e0 B hret (oNar01 (Or.inr rfl)) (Or.inl ⟨rfl, Or.inr (Or.inl rfl), _, rfl⟩) (hb hby at_273) (by rw [e0]; exact ⟨rfl, K.fr⟩) (by decide) (by decide)
                    · refine oWk.to (mkF m 274 #[iv p0, iv p1, iv p2, iv p3, .val (.long p4), ss, iv p5, iv ap, iv bp, iv ad, iv bd, iv 2, iv 0, iv c0_, iv c1_, iv sc, iv e0_, iv e1_, rv sa, rv sb, rv pa, rv pb, iv wh, uu] []) (fun _ kt => zY X hx hby at_251 rfl rfl (feq hc251).2 (pc' := 274) rfl kt) ?_
                      refine oWk.to (mkF m 277 #[iv p0, iv p1, iv p2, iv p3, .val (.long p4), ss, iv p5, iv ap, iv bp, iv ad, iv bd, iv 2, iv 0, iv c0_, iv c1_, iv sc, iv e0_, iv e1_, rv sa, rv sb, rv pa, rv pb, iv wh, uu] [(.int 3), (.int wh)]) (fun _ kt => zJ X hx hby at_274 rfl rfl (zK X hx hby at_276 rfl kt)) ?_
                      by_cases hc277 : wh = (3 : Int32)
                      · refine oWk.to (mkF m 280 #[iv p0, iv p1, iv p2, iv p3, .val (.long p4), ss, iv p5, iv ap, iv bp, iv ad, iv bd, iv 2, iv 0, iv c0_, iv c1_, iv sc, iv e0_, iv e1_, rv sa, rv sb, rv pa, rv pb, iv wh, uu] []) (fun _ kt => zN X hx hby at_277 rfl rfl (teq hc277).2 kt) ?_
                        refine oWk.st (fun _ kt => zB X hx hby at_280 rfl rfl rfl (zB X hx hby at_282 rfl rfl rfl kt)) ?_
                        have E_pa := (E_pa.keep K129.1)
                        have F_position_pa := ((F_position_pa.ext E128).keep K129.1 (ninS ne_pa_pb nin0))
                        have F_deleteCount_pa := ((F_deleteCount_pa.ext E128).keep K129.1 (ninS ne_pa_pb nin0))
                        have F_insertion_pa := ((F_insertion_pa.ext E128).keep K129.1 (ninS ne_pa_pb nin0))
                        have E_sa := ((E_sa.ext E128).keep K129.1)
                        have Oh := K.old O0 all0
                        obtain ⟨T, L136, X, e0, K, st⟩ := (cs24 hw).pure X hx hZ hown e0 K (A := [(.ref pa), (.ref pa)]) ⟨rfl, _, _, rfl, E_pa⟩ (rEI l Z a0 hw [] pa ap ad sa h Oh E_pa F_position_pa F_deleteCount_pa F_insertion_pa E_sa) (W := 0) (by decide) hml (Ls := #[iv p0, iv p1, iv p2, iv p3, .val (.long p4), ss, iv p5, iv ap, iv bp, iv ad, iv bd, iv 2, iv 0, iv c0_, iv c1_, iv sc, iv e0_, iv e1_, rv sa, rv sb, rv pa, rv pb, iv wh, uu]) rfl (rest := []) rfl rfl hby at_284
                        refine oWk.to (mkF m 287 #[iv p0, iv p1, iv p2, iv p3, .val (.long p4), ss, iv p5, iv ap, iv bp, iv ad, iv bd, iv 2, iv 0, iv c0_, iv c1_, iv sc, iv e0_, iv e1_, rv sa, rv sb, rv pa, rv pb, iv wh, uu] [(.int 1)]) (fun _ kt => st _ kt) ?_
                        exact oRetH X hx hlk hZ (oELw hw) e0 B hret (oNar01 (Or.inr rfl)) (Or.inl ⟨rfl, Or.inr (Or.inl rfl), _, rfl⟩) (hb hby at_287) (by rw [e0]; exact ⟨rfl, K.fr⟩) (by decide) (by decide)
                      · refine oWk.to (mkF m 288 #[iv p0, iv p1, iv p2, iv p3, .val (.long p4), ss, iv p5, iv ap, iv bp, iv ad, iv bd, iv 2, iv 0, iv c0_, iv c1_, iv sc, iv e0_, iv e1_, rv sa, rv sb, rv pa, rv pb, iv wh, uu] []) (fun _ kt => zY X hx hby at_277 rfl rfl (feq hc277).2 (pc' := 288) rfl kt) ?_
                        refine oWk.to (mkF m 292 #[iv p0, iv p1, iv p2, iv p3, .val (.long p4), ss, iv p5, iv ap, iv bp, iv ad, iv bd, iv 2, iv 0, iv c0_, iv c1_, iv sc, iv e0_, iv e1_, rv sa, rv sb, rv pa, rv pb, iv wh, uu] [(.int bp), (.int ap)]) (fun _ kt => zJ X hx hby at_288 rfl rfl (zJ X hx hby at_290 rfl rfl kt)) ?_
                        have J340 : ∀ (ex : Int32), ex = (0 : Int32) → oWk p.tables e below (oDnH Z oEL s h0 below (Q_rLaw Z p0 p1 p2 p3 p4 p5 xfm xz h0) room_1.cells room_1.slots) T (mkF m 340 #[iv p0, iv p1, iv p2, iv p3, .val (.long p4), ss, iv p5, iv ap, iv bp, iv ad, iv bd, iv 2, iv 0, iv c0_, iv c1_, iv sc, iv e0_, iv e1_, rv sa, rv sb, rv pa, rv pb, iv wh, uu] [(.int ex)]) := by
                          intro ex hex
                          refine oWk.st (fun _ kt => zS X hx hby at_340 rfl rfl (l' := #[iv p0, iv p1, iv p2, iv p3, .val (.long p4), ss, iv p5, iv ap, iv bp, iv ad, iv bd, iv 2, iv 0, iv c0_, iv c1_, iv sc, iv e0_, iv e1_, rv sa, rv sb, rv pa, rv pb, iv wh, iv ex]) rfl (zB X hx hby at_342 rfl rfl rfl (zB X hx hby at_344 rfl rfl rfl kt))) ?_
                          have E_pa := (E_pa.keep K129.1)
                          have F_position_pa := ((F_position_pa.ext E128).keep K129.1 (ninS ne_pa_pb nin0))
                          have F_deleteCount_pa := ((F_deleteCount_pa.ext E128).keep K129.1 (ninS ne_pa_pb nin0))
                          have F_insertion_pa := ((F_insertion_pa.ext E128).keep K129.1 (ninS ne_pa_pb nin0))
                          have E_sb := (E_sb.keep K129.1)
                          have F_coder_sb := (F_coder_sb.keep K129.1 (ninS ne_sb_pb nin0))
                          have F_value_sb := (F_value_sb.keep K129.1 (ninS ne_sb_pb nin0))
                          have V_sbb := (V_sbb.keep K129.1 (ninS ne_sbb_pb nin0))
                          have E_sa := ((E_sa.ext E128).keep K129.1)
                          have F_coder_sa := (((F_coder_sa.keep K126.1 (ninS ne_sa_pa nin0)).ext E128).keep K129.1 (ninS ne_sa_pb nin0))
                          have F_value_sa := (((F_value_sa.keep K126.1 (ninS ne_sa_pa nin0)).ext E128).keep K129.1 (ninS ne_sa_pb nin0))
                          have V_sab := ((V_sab.ext E128).keep K129.1 (ninS ne_sab_pb nin0))
                          have Oh := K.old O0 all0
                          obtain ⟨T, L138, X, e0, K, st⟩ := (cs24 hw).pure X hx hZ hown e0 K (A := [(.ref pa), (.ref pb)]) ⟨rfl, _, _, rfl, E_pa⟩ (rED_0_2 l Z a0 hw [] pa ap ad pb bp bd sb sbb sbk sa sab sak xz c0_ c1_ h Oh S_Z hz E_pa F_position_pa F_deleteCount_pa F_insertion_pa E_pb F_position_pb F_deleteCount_pb F_insertion_pb (Ne.symm ne_sa_sb) E_sb F_coder_sb F_value_sb V_sbb E_sa F_coder_sa F_value_sa V_sab) (W := 0) (by decide) hml (Ls := #[iv p0, iv p1, iv p2, iv p3, .val (.long p4), ss, iv p5, iv ap, iv bp, iv ad, iv bd, iv 2, iv 0, iv c0_, iv c1_, iv sc, iv e0_, iv e1_, rv sa, rv sb, rv pa, rv pb, iv wh, iv ex]) rfl (rest := []) rfl rfl hby at_346
                          refine oWk.to (mkF m 351 #[iv p0, iv p1, iv p2, iv p3, .val (.long p4), ss, iv p5, iv ap, iv bp, iv ad, iv bd, iv 2, iv 0, iv c0_, iv c1_, iv sc, iv e0_, iv e1_, rv sa, rv sb, rv pa, rv pb, iv wh, iv ex] [(.int ex), (.int 0)]) (fun _ kt => st _ (zJ X hx hby at_349 rfl rfl kt)) ?_
                          refine oWk.st (fun _ kt => zN X hx hby at_351 rfl rfl (teq hex.symm).2 (zB X hx hby at_354 rfl rfl rfl (zB X hx hby at_356 rfl rfl rfl kt))) ?_
                          obtain ⟨T, L140, X, e0, K, st⟩ := (cs24 hw).pure X hx hZ hown e0 K (A := [(.ref pb), (.ref pa)]) ⟨rfl, _, _, rfl, E_pb⟩ (rED_2_0 l Z a0 hw [] pb bp bd pa ap ad sa sab sak sb sbb sbk xz c0_ c1_ h Oh S_Z hz E_pb F_position_pb F_deleteCount_pb F_insertion_pb E_pa F_position_pa F_deleteCount_pa F_insertion_pa ne_sa_sb E_sa F_coder_sa F_value_sa V_sab E_sb F_coder_sb F_value_sb V_sbb) (W := 0) (by decide) hml (Ls := #[iv p0, iv p1, iv p2, iv p3, .val (.long p4), ss, iv p5, iv ap, iv bp, iv ad, iv bd, iv 2, iv 0, iv c0_, iv c1_, iv sc, iv e0_, iv e1_, rv sa, rv sb, rv pa, rv pb, iv wh, iv ex]) rfl (rest := []) rfl rfl hby at_358
                          refine oWk.to (mkF m 363 #[iv p0, iv p1, iv p2, iv p3, .val (.long p4), ss, iv p5, iv ap, iv bp, iv ad, iv bd, iv 2, iv 0, iv c0_, iv c1_, iv sc, iv e0_, iv e1_, rv sa, rv sb, rv pa, rv pb, iv wh, iv ex] [(.int ex), (.int 0)]) (fun _ kt => st _ (zJ X hx hby at_361 rfl rfl kt)) ?_
                          refine oWk.to (mkF m 371 #[iv p0, iv p1, iv p2, iv p3, .val (.long p4), ss, iv p5, iv ap, iv bp, iv ad, iv bd, iv 2, iv 0, iv c0_, iv c1_, iv sc, iv e0_, iv e1_, rv sa, rv sb, rv pa, rv pb, iv wh, iv ex] [(.int 1)]) (fun _ kt => zN X hx hby at_363 rfl rfl (teq hex.symm).2 (zK X hx hby at_366 rfl (zG X hx hby at_367 rfl (pc' := 371) rfl kt))) ?_
                          exact oRetH X hx hlk hZ (oELw hw) e0 B hret (oNar01 (Or.inr rfl)) (Or.inl ⟨rfl, Or.inr (Or.inl rfl), _, rfl⟩) (hb hby at_371) (by rw [e0]; exact ⟨rfl, K.fr⟩) (by decide) (by decide)
                        by_cases hc292 : ap = bp
                        · refine oWk.to (mkF m 295 #[iv p0, iv p1, iv p2, iv p3, .val (.long p4), ss, iv p5, iv ap, iv bp, iv ad, iv bd, iv 2, iv 0, iv c0_, iv c1_, iv sc, iv e0_, iv e1_, rv sa, rv sb, rv pa, rv pb, iv wh, uu] []) (fun _ kt => zN X hx hby at_292 rfl rfl (teq hc292).2 kt) ?_
                          refine oWk.to (mkF m 299 #[iv p0, iv p1, iv p2, iv p3, .val (.long p4), ss, iv p5, iv ap, iv bp, iv ad, iv bd, iv 2, iv 0, iv c0_, iv c1_, iv sc, iv e0_, iv e1_, rv sa, rv sb, rv pa, rv pb, iv wh, uu] [(.int bd), (.int ad)]) (fun _ kt => zJ X hx hby at_295 rfl rfl (zJ X hx hby at_297 rfl rfl kt)) ?_
                          by_cases hc299 : ad = bd
                          · refine oWk.to (mkF m 302 #[iv p0, iv p1, iv p2, iv p3, .val (.long p4), ss, iv p5, iv ap, iv bp, iv ad, iv bd, iv 2, iv 0, iv c0_, iv c1_, iv sc, iv e0_, iv e1_, rv sa, rv sb, rv pa, rv pb, iv wh, uu] []) (fun _ kt => zN X hx hby at_299 rfl rfl (teq hc299).2 kt) ?_
                            refine oWk.to (mkF m 340 #[iv p0, iv p1, iv p2, iv p3, .val (.long p4), ss, iv p5, iv ap, iv bp, iv ad, iv bd, iv 2, iv 0, iv c0_, iv c1_, iv sc, iv e0_, iv e1_, rv sa, rv sb, rv pa, rv pb, iv wh, uu] [(.int 0)]) (fun _ kt => zJ X hx hby at_302 rfl rfl (zJ X hx hby at_304 rfl rfl (zY X hx hby at_306 rfl rfl (feq (by decide)).2 (pc' := 339) rfl (zK X hx hby at_339 rfl kt)))) ?_
                            exact J340 _ rfl
                          · refine oWk.to (mkF m 339 #[iv p0, iv p1, iv p2, iv p3, .val (.long p4), ss, iv p5, iv ap, iv bp, iv ad, iv bd, iv 2, iv 0, iv c0_, iv c1_, iv sc, iv e0_, iv e1_, rv sa, rv sb, rv pa, rv pb, iv wh, uu] []) (fun _ kt => zY X hx hby at_299 rfl rfl (feq hc299).2 (pc' := 339) rfl kt) ?_
                            refine oWk.to (mkF m 340 #[iv p0, iv p1, iv p2, iv p3, .val (.long p4), ss, iv p5, iv ap, iv bp, iv ad, iv bd, iv 2, iv 0, iv c0_, iv c1_, iv sc, iv e0_, iv e1_, rv sa, rv sb, rv pa, rv pb, iv wh, uu] [(.int 0)]) (fun _ kt => zK X hx hby at_339 rfl kt) ?_
                            exact J340 _ rfl
                        · refine oWk.to (mkF m 339 #[iv p0, iv p1, iv p2, iv p3, .val (.long p4), ss, iv p5, iv ap, iv bp, iv ad, iv bd, iv 2, iv 0, iv c0_, iv c1_, iv sc, iv e0_, iv e1_, rv sa, rv sb, rv pa, rv pb, iv wh, uu] []) (fun _ kt => zY X hx hby at_292 rfl rfl (feq hc292).2 (pc' := 339) rfl kt) ?_
                          refine oWk.to (mkF m 340 #[iv p0, iv p1, iv p2, iv p3, .val (.long p4), ss, iv p5, iv ap, iv bp, iv ad, iv bd, iv 2, iv 0, iv c0_, iv c1_, iv sc, iv e0_, iv e1_, rv sa, rv sb, rv pa, rv pb, iv wh, uu] [(.int 0)]) (fun _ kt => zK X hx hby at_339 rfl kt) ?_
                          exact J340 _ rfl
                · show oWk _ _ _ _ T (mkF m 166 #[iv p0, iv p1, iv p2, iv p3, .val (.long p4), ss, iv p5, iv ap, iv bp, iv ad, iv bd, iv 2, iv 1, iv c0_, iv c1_, iv sc, iv e0_, iv e1_, uu, uu, uu, uu, uu, uu] [])
                  refine oWk.st (fun _ kt => zJ X hx hby at_166 rfl rfl (zJ X hx hby at_168 rfl rfl (zJ X hx hby at_170 rfl rfl kt))) ?_
                  have Oh := K.old O0 all0
                  obtain ⟨_, T, h, Lc142, X, e0, hQ, st⟩ := (cs25 hw).run X hx hZ hown e0 (A := [(.int (2 : Int32)), (.int c0_), (.int c1_)]) rfl (rStr_2 l Z a0 hw [] c0_ c1_ xz h0 Oh S_Z hz r_c0_ r_c1_) (W := 0) (by decide) hml (Ls := #[iv p0, iv p1, iv p2, iv p3, .val (.long p4), ss, iv p5, iv ap, iv bp, iv ad, iv bd, iv 2, iv 1, iv c0_, iv c1_, iv sc, iv e0_, iv e1_, uu, uu, uu, uu, uu, uu]) rfl (rest := []) rfl rfl hby at_172
                  obtain ⟨sa, sab, sak, rfl, K141, gn_sa, gn_sab, E_sa, F_coder_sa, F_value_sa, V_sab⟩ := hQ
                  have ge_sa := Nat.le_trans K.le gn_sa
                  have ge_sab := Nat.le_trans K.le gn_sab
                  have K := K.call K141 all0
                  have B := B.keep K141.1 sf0
                  refine oWk.st (fun _ kt => st _ (zT X hx hby at_175 rfl rfl rfl (l' := #[iv p0, iv p1, iv p2, iv p3, .val (.long p4), ss, iv p5, iv ap, iv bp, iv ad, iv bd, iv 2, iv 1, iv c0_, iv c1_, iv sc, iv e0_, iv e1_, rv sa, uu, uu, uu, uu, uu]) rfl (zJ X hx hby at_177 rfl rfl (zJ X hx hby at_179 rfl rfl (zJ X hx hby at_181 rfl rfl kt))))) ?_
                  have lt_sa := E_sa.lt
                  have lt_sab := V_sab.lt
                  have Oh := K.old O0 all0
                  obtain ⟨_, T, h, Lc144, X, e0, hQ, st⟩ := (cs25 hw).run X hx hZ hown e0 (A := [(.int (1 : Int32)), (.int e0_), (.int e1_)]) rfl (rStr_1 l Z a0 hw [] e0_ e1_ xz h Oh S_Z hz r_e0_) (W := 0) (by decide) hml (Ls := #[iv p0, iv p1, iv p2, iv p3, .val (.long p4), ss, iv p5, iv ap, iv bp, iv ad, iv bd, iv 2, iv 1, iv c0_, iv c1_, iv sc, iv e0_, iv e1_, rv sa, uu, uu, uu, uu, uu]) rfl (rest := []) rfl rfl hby at_183
                  obtain ⟨sb, sbb, sbk, rfl, K143, gn_sb, gn_sbb, E_sb, F_coder_sb, F_value_sb, V_sbb⟩ := hQ
                  have ge_sb := Nat.le_trans K.le gn_sb
                  have ne_sa_sb : sa ≠ sb := Nat.ne_of_lt (Nat.lt_of_lt_of_le lt_sa gn_sb)
                  have ne_sab_sb : sab ≠ sb := Nat.ne_of_lt (Nat.lt_of_lt_of_le lt_sab gn_sb)
                  have ge_sbb := Nat.le_trans K.le gn_sbb
                  have ne_sa_sbb : sa ≠ sbb := Nat.ne_of_lt (Nat.lt_of_lt_of_le lt_sa gn_sbb)
                  have ne_sab_sbb : sab ≠ sbb := Nat.ne_of_lt (Nat.lt_of_lt_of_le lt_sab gn_sbb)
                  have K := K.call K143 all0
                  have B := B.keep K143.1 sf0
                  refine oWk.st (fun _ kt => st _ (zT X hx hby at_186 rfl rfl rfl (l' := #[iv p0, iv p1, iv p2, iv p3, .val (.long p4), ss, iv p5, iv ap, iv bp, iv ad, iv bd, iv 2, iv 1, iv c0_, iv c1_, iv sc, iv e0_, iv e1_, rv sa, rv sb, uu, uu, uu, uu]) rfl kt)) ?_
                  obtain ⟨pa, g145⟩ : ∃ z, z = h.size := ⟨_, rfl⟩
                  have E_sa := (E_sa.keep K143.1)
                  have ne_sa_pa : sa ≠ pa := Nat.ne_of_lt (Nat.lt_of_lt_of_le E_sa.lt (Nat.le_of_eq g145.symm))
                  have V_sab := (V_sab.keep K143.1 nin0)
                  have ne_sab_pa : sab ≠ pa := Nat.ne_of_lt (Nat.lt_of_lt_of_le V_sab.lt (Nat.le_of_eq g145.symm))
                  have ne_sb_pa : sb ≠ pa := Nat.ne_of_lt (Nat.lt_of_lt_of_le E_sb.lt (Nat.le_of_eq g145.symm))
                  have ne_sbb_pa : sbb ≠ pa := Nat.ne_of_lt (Nat.lt_of_lt_of_le V_sbb.lt (Nat.le_of_eq g145.symm))
                  have ge_pa : h0.size ≤ pa := Nat.le_trans K.le (Nat.le_of_eq g145.symm)
                  have sf_pa := B.new (Nat.le_of_eq g145.symm)
                  obtain ⟨T, h, X, e0, E145, A145, D145, -, st⟩ := newO X hx hZ hown (oW hw 28 rfl) (oW hw 29 rfl) (oW hw 30 rfl) e0 (g := (mkF m 188 #[iv p0, iv p1, iv p2, iv p3, .val (.long p4), ss, iv p5, iv ap, iv bp, iv ad, iv bd, iv 2, iv 1, iv c0_, iv c1_, iv sc, iv e0_, iv e1_, rv sa, rv sb, uu, uu, uu, uu] [])) rfl (hb hby at_188) (by decide) (by decide)
                  rw [← g145] at A145 D145 st
                  have K := K.ext E145
                  have sf_pa := Safe.ext E145 B.2.1 sf_pa
                  have B := B.ext E145
                  have E_pa := A145
                  have F_position_pa : Fld Z h pa Y1 "position" "I" (.int (0 : Int32)) := D145 (Or.inr (oW hw 60 rfl)) (ty := .int) (by decide)
                  have F_deleteCount_pa : Fld Z h pa Y1 "deleteCount" "I" (.int (0 : Int32)) := D145 (Or.inr (oW hw 62 rfl)) (ty := .int) (by decide)
                  have F_insertion_pa : Fld Z h pa Y1 "insertion" Y3 .null := D145 (Or.inr (oW hw 64 rfl)) (ty := (.object Y0)) (by decide)
                  have F_insertionLength_pa : Fld Z h pa Y1 Y4 "I" (.int (0 : Int32)) := D145 (Or.inr (oW hw 85 rfl)) (ty := .int) (by decide)
                  refine oWk.st (fun _ kt => st _ (zD X hx hby at_191 rfl rfl rfl (zJ X hx hby at_192 rfl rfl (zJ X hx hby at_194 rfl rfl (zB X hx hby at_196 rfl rfl rfl kt))))) ?_
                  have E_sa := (E_sa.ext E145)
                  have F_coder_sa := ((F_coder_sa.keep K143.1 nin0).ext E145)
                  have F_value_sa := ((F_value_sa.keep K143.1 nin0).ext E145)
                  have V_sab := (V_sab.ext E145)
                  have Oh := K.old O0 all0
                  obtain ⟨_, _, ⟨T, L147, k147, n147⟩, -, X, hS, hgr, ⟨Lc147, hQ, l147, y147, z147, C⟩, st⟩ := X.specialBackS hx (y := yy17) rfl hown (mvT hZ (oW hw 31 rfl)) (mvT hZ (oW hw 32 rfl)) (mvT hZ (oW hw 33 rfl)) (by decide) (oBackH (W := 1) (rPI_2 l Z a0 hw [] pa ap ad (.int (0 : Int32)) (.int (0 : Int32)) .null (.int (0 : Int32)) sa sab sak xfm xz c0_ c1_ h Oh S_Z hz S_F hcat (Nat.le_trans O0.1 ge_pa) E_pa F_position_pa F_deleteCount_pa F_insertion_pa F_insertionLength_pa E_sa F_coder_sa F_value_sa V_sab r_c0_ r_c1_ ne_sa_pa ne_sab_pa hap had) hZ (oW hw 33 rfl) (oW hw 30 rfl) (by decide) (by decide) (oELw hw) B.2.1 (allS ⟨E_pa.lt, sf_pa⟩ all0)) (g := (mkF m 198 #[iv p0, iv p1, iv p2, iv p3, .val (.long p4), ss, iv p5, iv ap, iv bp, iv ad, iv bd, iv 2, iv 1, iv c0_, iv c1_, iv sc, iv e0_, iv e1_, rv sa, rv sb, uu, uu, uu, uu] [(.ref sa), (.int ad), (.int ap), (.ref pa), (.ref pa)])) rfl (by rw [hml]; rfl) (Steps.refl _) (a := pa) (argsL := [(.int ap), (.int ad), (.ref sa)]) (rest := [(.ref pa)]) (lenOf pd_22 rfl) rfl (Nat.le_of_eq rfl) (hb hby at_198) (fun _ _ => ⟨rfl, e0, (by decide : 7 + 4 ≤ _), (by decide : 18 + 112 ≤ _)⟩)
                  dsimp only [Pt.U, Pt.locs, Pt.cells, Pt.slots] at X l147 y147 z147 st hQ C hS hgr
                  subst l147 y147 z147
                  have X : Stand p l e _ (s.setVm T.vm) m _ below meth c T _ _ _ := X
                  obtain ⟨h, e2⟩ : ∃ z, T.heap = z := ⟨_, rfl⟩
                  have B := B.call e0 hS hgr C e2
                  obtain ⟨hZ, hown⟩ := oWide hZ hown hS
                  rw [e2] at hQ C
                  have sf_pa := C.safe E_pa.lt sf_pa
                  have e0 := e2
                  obtain ⟨rfl, K146, E_pa, F_position_pa, F_deleteCount_pa, F_insertion_pa⟩ := hQ
                  have K := K.call K146 (allS (Or.inr ge_pa) all0)
                  refine oWk.st (fun _ kt => st.trans (zT X hx hby at_201 rfl rfl rfl (l' := #[iv p0, iv p1, iv p2, iv p3, .val (.long p4), ss, iv p5, iv ap, iv bp, iv ad, iv bd, iv 2, iv 1, iv c0_, iv c1_, iv sc, iv e0_, iv e1_, rv sa, rv sb, rv pa, uu, uu, uu]) rfl kt)) ?_
                  obtain ⟨pb, g148⟩ : ∃ z, z = h.size := ⟨_, rfl⟩
                  have E_sa := (E_sa.keep K146.1)
                  have ne_sa_pb : sa ≠ pb := Nat.ne_of_lt (Nat.lt_of_lt_of_le E_sa.lt (Nat.le_of_eq g148.symm))
                  have V_sab := (V_sab.keep K146.1 (ninS ne_sab_pa nin0))
                  have ne_sab_pb : sab ≠ pb := Nat.ne_of_lt (Nat.lt_of_lt_of_le V_sab.lt (Nat.le_of_eq g148.symm))
                  have E_sb := ((E_sb.ext E145).keep K146.1)
                  have ne_sb_pb : sb ≠ pb := Nat.ne_of_lt (Nat.lt_of_lt_of_le E_sb.lt (Nat.le_of_eq g148.symm))
                  have V_sbb := ((V_sbb.ext E145).keep K146.1 (ninS ne_sbb_pa nin0))
                  have ne_sbb_pb : sbb ≠ pb := Nat.ne_of_lt (Nat.lt_of_lt_of_le V_sbb.lt (Nat.le_of_eq g148.symm))
                  have ne_pa_pb : pa ≠ pb := Nat.ne_of_lt (Nat.lt_of_lt_of_le E_pa.lt (Nat.le_of_eq g148.symm))
                  have ge_pb : h0.size ≤ pb := Nat.le_trans K.le (Nat.le_of_eq g148.symm)
                  have sf_pb := B.new (Nat.le_of_eq g148.symm)
                  obtain ⟨T, h, X, e0, E148, A148, D148, -, st⟩ := newO X hx hZ hown (oW hw 28 rfl) (oW hw 29 rfl) (oW hw 30 rfl) e0 (g := (mkF m 203 #[iv p0, iv p1, iv p2, iv p3, .val (.long p4), ss, iv p5, iv ap, iv bp, iv ad, iv bd, iv 2, iv 1, iv c0_, iv c1_, iv sc, iv e0_, iv e1_, rv sa, rv sb, rv pa, uu, uu, uu] [])) rfl (hb hby at_203) (by decide) (by decide)
                  rw [← g148] at A148 D148 st
                  have K := K.ext E148
                  have sf_pa := Safe.ext E148 B.2.1 sf_pa
                  have sf_pb := Safe.ext E148 B.2.1 sf_pb
                  have B := B.ext E148
                  have E_pb := A148
                  have F_position_pb : Fld Z h pb Y1 "position" "I" (.int (0 : Int32)) := D148 (Or.inr (oW hw 60 rfl)) (ty := .int) (by decide)
                  have F_deleteCount_pb : Fld Z h pb Y1 "deleteCount" "I" (.int (0 : Int32)) := D148 (Or.inr (oW hw 62 rfl)) (ty := .int) (by decide)
                  have F_insertion_pb : Fld Z h pb Y1 "insertion" Y3 .null := D148 (Or.inr (oW hw 64 rfl)) (ty := (.object Y0)) (by decide)
                  have F_insertionLength_pb : Fld Z h pb Y1 Y4 "I" (.int (0 : Int32)) := D148 (Or.inr (oW hw 85 rfl)) (ty := .int) (by decide)
                  refine oWk.st (fun _ kt => st _ (zD X hx hby at_206 rfl rfl rfl (zJ X hx hby at_207 rfl rfl (zJ X hx hby at_209 rfl rfl (zB X hx hby at_211 rfl rfl rfl kt))))) ?_
                  have E_sb := (E_sb.ext E148)
                  have F_coder_sb := (((F_coder_sb.ext E145).keep K146.1 (ninS ne_sb_pa nin0)).ext E148)
                  have F_value_sb := (((F_value_sb.ext E145).keep K146.1 (ninS ne_sb_pa nin0)).ext E148)
                  have V_sbb := (V_sbb.ext E148)
                  have Oh := K.old O0 all0
                  have E_pa := (E_pa.ext E148)
                  obtain ⟨_, _, ⟨T, L150, k150, n150⟩, -, X, hS, hgr, ⟨Lc150, hQ, l150, y150, z150, C⟩, st⟩ := X.specialBackS hx (y := yy17) rfl hown (mvT hZ (oW hw 31 rfl)) (mvT hZ (oW hw 32 rfl)) (mvT hZ (oW hw 33 rfl)) (by decide) (oBackH (W := 1) (rPI_1 l Z a0 hw [] pb bp bd (.int (0 : Int32)) (.int (0 : Int32)) .null (.int (0 : Int32)) sb sbb sbk xfm xz e0_ h Oh S_Z hz S_F hcat (Nat.le_trans O0.1 ge_pb) E_pb F_position_pb F_deleteCount_pb F_insertion_pb F_insertionLength_pb E_sb F_coder_sb F_value_sb V_sbb r_e0_ ne_sb_pb ne_sbb_pb hbp hbd) hZ (oW hw 33 rfl) (oW hw 30 rfl) (by decide) (by decide) (oELw hw) B.2.1 (allS ⟨E_pb.lt, sf_pb⟩ all0)) (g := (mkF m 213 #[iv p0, iv p1, iv p2, iv p3, .val (.long p4), ss, iv p5, iv ap, iv bp, iv ad, iv bd, iv 2, iv 1, iv c0_, iv c1_, iv sc, iv e0_, iv e1_, rv sa, rv sb, rv pa, uu, uu, uu] [(.ref sb), (.int bd), (.int bp), (.ref pb), (.ref pb)])) rfl (by rw [hml]; rfl) (Steps.refl _) (a := pb) (argsL := [(.int bp), (.int bd), (.ref sb)]) (rest := [(.ref pb)]) (lenOf pd_22 rfl) rfl (Nat.le_of_eq rfl) (hb hby at_213) (fun _ _ => ⟨rfl, e0, (by decide : 12 + 4 ≤ _), (by decide : 134 + 112 ≤ _)⟩)
                  dsimp only [Pt.U, Pt.locs, Pt.cells, Pt.slots] at X l150 y150 z150 st hQ C hS hgr
                  subst l150 y150 z150
                  have X : Stand p l e _ (s.setVm T.vm) m _ below meth c T _ _ _ := X
                  obtain ⟨h, e2⟩ : ∃ z, T.heap = z := ⟨_, rfl⟩
                  have B := B.call e0 hS hgr C e2
                  obtain ⟨hZ, hown⟩ := oWide hZ hown hS
                  rw [e2] at hQ C
                  have sf_pa := C.safe E_pa.lt sf_pa
                  have sf_pb := C.safe E_pb.lt sf_pb
                  have e0 := e2
                  obtain ⟨rfl, K149, E_pb, F_position_pb, F_deleteCount_pb, F_insertion_pb⟩ := hQ
                  have K := K.call K149 (allS (Or.inr ge_pb) all0)
                  refine oWk.to (mkF m 225 #[iv p0, iv p1, iv p2, iv p3, .val (.long p4), ss, iv p5, iv ap, iv bp, iv ad, iv bd, iv 2, iv 1, iv c0_, iv c1_, iv sc, iv e0_, iv e1_, rv sa, rv sb, rv pa, rv pb, uu, uu] [(.int (((p5.toUInt32 >>> ((8 : Int32) &&& 31).toUInt32).toInt32) &&& (3 : Int32)))]) (fun _ kt => st.trans (zT X hx hby at_216 rfl rfl rfl (l' := #[iv p0, iv p1, iv p2, iv p3, .val (.long p4), ss, iv p5, iv ap, iv bp, iv ad, iv bd, iv 2, iv 1, iv c0_, iv c1_, iv sc, iv e0_, iv e1_, rv sa, rv sb, rv pa, rv pb, uu, uu]) rfl (zJ X hx hby at_218 rfl rfl (zL X hx hby at_220 rfl (XS.iushr X.here hx rfl (hb hby at_222) rfl (zK X hx hby at_223 rfl (XS.iand X.here hx rfl (hb hby at_224) rfl kt))))))) ?_
                  generalize hwh : (((p5.toUInt32 >>> ((8 : Int32) &&& 31).toUInt32).toInt32) &&& (3 : Int32)) = wh
                  show oWk _ _ _ _ T (mkF m 225 #[iv p0, iv p1, iv p2, iv p3, .val (.long p4), ss, iv p5, iv ap, iv bp, iv ad, iv bd, iv 2, iv 1, iv c0_, iv c1_, iv sc, iv e0_, iv e1_, rv sa, rv sb, rv pa, rv pb, uu, uu] [(.int wh)])
                  refine oWk.to (mkF m 230 #[iv p0, iv p1, iv p2, iv p3, .val (.long p4), ss, iv p5, iv ap, iv bp, iv ad, iv bd, iv 2, iv 1, iv c0_, iv c1_, iv sc, iv e0_, iv e1_, rv sa, rv sb, rv pa, rv pb, iv wh, uu] [(.int 1), (.int wh)]) (fun _ kt => zS X hx hby at_225 rfl rfl (l' := #[iv p0, iv p1, iv p2, iv p3, .val (.long p4), ss, iv p5, iv ap, iv bp, iv ad, iv bd, iv 2, iv 1, iv c0_, iv c1_, iv sc, iv e0_, iv e1_, rv sa, rv sb, rv pa, rv pb, iv wh, uu]) rfl (zJ X hx hby at_227 rfl rfl (zK X hx hby at_229 rfl kt))) ?_
                  by_cases hc230 : wh = (1 : Int32)
                  · refine oWk.to (mkF m 233 #[iv p0, iv p1, iv p2, iv p3, .val (.long p4), ss, iv p5, iv ap, iv bp, iv ad, iv bd, iv 2, iv 1, iv c0_, iv c1_, iv sc, iv e0_, iv e1_, rv sa, rv sb, rv pa, rv pb, iv wh, uu] []) (fun _ kt => zN X hx hby at_230 rfl rfl (teq hc230).2 kt) ?_
                    refine oWk.st (fun _ kt => zB X hx hby at_233 rfl rfl rfl (XS.aconstNull X.here hx rfl (hb hby at_235) kt)) ?_
                    have Oh := K.old O0 all0
                    have E_pa := (E_pa.keep K149.1)
                    obtain ⟨T, L152, X, e0, K, st⟩ := (cs24 hw).pure X hx hZ hown e0 K (A := [(.ref pa), .null]) ⟨rfl, _, _, rfl, E_pa⟩ (rEN l Z a0 hw [] pa h Oh ) (W := 0) (by decide) hml (Ls := #[iv p0, iv p1, iv p2, iv p3, .val (.long p4), ss, iv p5, iv ap, iv bp, iv ad, iv bd, iv 2, iv 1, iv c0_, iv c1_, iv sc, iv e0_, iv e1_, rv sa, rv sb, rv pa, rv pb, iv wh, uu]) rfl (rest := []) rfl rfl hby at_236
                    refine oWk.to (mkF m 247 #[iv p0, iv p1, iv p2, iv p3, .val (.long p4), ss, iv p5, iv ap, iv bp, iv ad, iv bd, iv 2, iv 1, iv c0_, iv c1_, iv sc, iv e0_, iv e1_, rv sa, rv sb, rv pa, rv pb, iv wh, uu] [(.int 1)]) (fun _ kt => st _ (zH X hx hby at_239 rfl rfl ((if0 _ _).trans (teq (by decide)).2) (zK X hx hby at_242 rfl (zG X hx hby at_243 rfl (pc' := 247) rfl kt)))) ?_
                    exact oRetH X hx hlk hZ (oELw hw) e0 B hret (oNar01 (Or.inr rfl)) (Or.inl ⟨rfl, Or.inr (Or.inl rfl), _, rfl⟩) (hb hby at_247) (by rw [e0]; exact ⟨rfl, K.fr⟩) (by decide) (by decide)
                  · refine oWk.to (mkF m 248 #[iv p0, iv p1, iv p2, iv p3, .val (.long p4), ss, iv p5, iv ap, iv bp, iv ad, iv bd, iv 2, iv 1, iv c0_, iv c1_, iv sc, iv e0_, iv e1_, rv sa, rv sb, rv pa, rv pb, iv wh, uu] []) (fun _ kt => zY X hx hby at_230 rfl rfl (feq hc230).2 (pc' := 248) rfl kt) ?_
                    refine oWk.to (mkF m 251 #[iv p0, iv p1, iv p2, iv p3, .val (.long p4), ss, iv p5, iv ap, iv bp, iv ad, iv bd, iv 2, iv 1, iv c0_, iv c1_, iv sc, iv e0_, iv e1_, rv sa, rv sb, rv pa, rv pb, iv wh, uu] [(.int 2), (.int wh)]) (fun _ kt => zJ X hx hby at_248 rfl rfl (zK X hx hby at_250 rfl kt)) ?_
                    by_cases hc251 : wh = (2 : Int32)
                    · refine oWk.to (mkF m 254 #[iv p0, iv p1, iv p2, iv p3, .val (.long p4), ss, iv p5, iv ap, iv bp, iv ad, iv bd, iv 2, iv 1, iv c0_, iv c1_, iv sc, iv e0_, iv e1_, rv sa, rv sb, rv pa, rv pb, iv wh, uu] []) (fun _ kt => zN X hx hby at_251 rfl rfl (teq hc251).2 kt) ?_
                      refine oWk.st (fun _ kt => zB X hx hby at_254 rfl rfl rfl (zT X hx hby at_256 rfl rfl rfl (l' := #[iv p0, iv p1, iv p2, iv p3, .val (.long p4), ss, iv p5, iv ap, iv bp, iv ad, iv bd, iv 2, iv 1, iv c0_, iv c1_, iv sc, iv e0_, iv e1_, rv sa, rv sb, rv pa, rv pb, iv wh, rv sa]) rfl (zB X hx hby at_258 rfl rfl rfl (zB X hx hby at_260 rfl rfl rfl kt)))) ?_
                      have E_sa := ((E_sa.ext E148).keep K149.1)
                      have Oh := K.old O0 all0
                      have E_pa := (E_pa.keep K149.1)
                      obtain ⟨T, L154, X, e0, K, st⟩ := (cs24 hw).pure X hx hZ hown e0 K (A := [(.ref pa), (.ref sa)]) ⟨rfl, _, _, rfl, E_pa⟩ (rET l Z a0 hw [] pa sa h Oh E_sa) (W := 0) (by decide) hml (Ls := #[iv p0, iv p1, iv p2, iv p3, .val (.long p4), ss, iv p5, iv ap, iv bp, iv ad, iv bd, iv 2, iv 1, iv c0_, iv c1_, iv sc, iv e0_, iv e1_, rv sa, rv sb, rv pa, rv pb, iv wh, rv sa]) rfl (rest := []) rfl rfl hby at_262
                      refine oWk.to (mkF m 273 #[iv p0, iv p1, iv p2, iv p3, .val (.long p4), ss, iv p5, iv ap, iv bp, iv ad, iv bd, iv 2, iv 1, iv c0_, iv c1_, iv sc, iv e0_, iv e1_, rv sa, rv sb, rv pa, rv pb, iv wh, rv sa] [(.int 1)]) (fun _ kt => st _ (zH X hx hby at_265 rfl rfl ((if0 _ _).trans (teq (by decide)).2) (zK X hx hby at_268 rfl (zG X hx hby at_269 rfl (pc' := 273) rfl kt)))) ?_
                      exact oRetH X hx hlk hZ (oELw hw) e0 B hret (oNar01 (Or.inr rfl)) (Or.inl ⟨rfl, Or.inr (Or.inl rfl), _, rfl⟩) (hb hby at_273) (by rw [e0]; exact ⟨rfl, K.fr⟩) (by decide) (by decide)
                    · refine oWk.to (mkF m 274 #[iv p0, iv p1, iv p2, iv p3, .val (.long p4), ss, iv p5, iv ap, iv bp, iv ad, iv bd, iv 2, iv 1, iv c0_, iv c1_, iv sc, iv e0_, iv e1_, rv sa, rv sb, rv pa, rv pb, iv wh, uu] []) (fun _ kt => zY X hx hby at_251 rfl rfl (feq hc251).2 (pc' := 274) rfl kt) ?_
                      refine oWk.to (mkF m 277 #[iv p0, iv p1, iv p2, iv p3, .val (.long p4), ss, iv p5, iv ap, iv bp, iv ad, iv bd, iv 2, iv 1, iv c0_, iv c1_, iv sc, iv e0_, iv e1_, rv sa, rv sb, rv pa, rv pb, iv wh, uu] [(.int 3), (.int wh)]) (fun _ kt => zJ X hx hby at_274 rfl rfl (zK X hx hby at_276 rfl kt)) ?_
                      by_cases hc277 : wh = (3 : Int32)
                      · refine oWk.to (mkF m 280 #[iv p0, iv p1, iv p2, iv p3, .val (.long p4), ss, iv p5, iv ap, iv bp, iv ad, iv bd, iv 2, iv 1, iv c0_, iv c1_, iv sc, iv e0_, iv e1_, rv sa, rv sb, rv pa, rv pb, iv wh, uu] []) (fun _ kt => zN X hx hby at_277 rfl rfl (teq hc277).2 kt) ?_
                        refine oWk.st (fun _ kt => zB X hx hby at_280 rfl rfl rfl (zB X hx hby at_282 rfl rfl rfl kt)) ?_
                        have E_pa := (E_pa.keep K149.1)
                        have F_position_pa := ((F_position_pa.ext E148).keep K149.1 (ninS ne_pa_pb nin0))
                        have F_deleteCount_pa := ((F_deleteCount_pa.ext E148).keep K149.1 (ninS ne_pa_pb nin0))
                        have F_insertion_pa := ((F_insertion_pa.ext E148).keep K149.1 (ninS ne_pa_pb nin0))
                        have E_sa := ((E_sa.ext E148).keep K149.1)
                        have Oh := K.old O0 all0
                        obtain ⟨T, L156, X, e0, K, st⟩ := (cs24 hw).pure X hx hZ hown e0 K (A := [(.ref pa), (.ref pa)]) ⟨rfl, _, _, rfl, E_pa⟩ (rEI l Z a0 hw [] pa ap ad sa h Oh E_pa F_position_pa F_deleteCount_pa F_insertion_pa E_sa) (W := 0) (by decide) hml (Ls := #[iv p0, iv p1, iv p2, iv p3, .val (.long p4), ss, iv p5, iv ap, iv bp, iv ad, iv bd, iv 2, iv 1, iv c0_, iv c1_, iv sc, iv e0_, iv e1_, rv sa, rv sb, rv pa, rv pb, iv wh, uu]) rfl (rest := []) rfl rfl hby at_284
                        refine oWk.to (mkF m 287 #[iv p0, iv p1, iv p2, iv p3, .val (.long p4), ss, iv p5, iv ap, iv bp, iv ad, iv bd, iv 2, iv 1, iv c0_, iv c1_, iv sc, iv e0_, iv e1_, rv sa, rv sb, rv pa, rv pb, iv wh, uu] [(.int 1)]) (fun _ kt => st _ kt) ?_
                        exact oRetH X hx hlk hZ (oELw hw) e0 B hret (oNar01 (Or.inr rfl)) (Or.inl ⟨rfl, Or.inr (Or.inl rfl), _, rfl⟩) (hb hby at_287) (by rw [e0]; exact ⟨rfl, K.fr⟩) (by decide) (by decide)
                      · refine oWk.to (mkF m 288 #[iv p0, iv p1, iv p2, iv p3, .val (.long p4), ss, iv p5, iv ap, iv bp, iv ad, iv bd, iv 2, iv 1, iv c0_, iv c1_, iv sc, iv e0_, iv e1_, rv sa, rv sb, rv pa, rv pb, iv wh, uu] []) (fun _ kt => zY X hx hby at_277 rfl rfl (feq hc277).2 (pc' := 288) rfl kt) ?_
                        refine oWk.to (mkF m 292 #[iv p0, iv p1, iv p2, iv p3, .val (.long p4), ss, iv p5, iv ap, iv bp, iv ad, iv bd, iv 2, iv 1, iv c0_, iv c1_, iv sc, iv e0_, iv e1_, rv sa, rv sb, rv pa, rv pb, iv wh, uu] [(.int bp), (.int ap)]) (fun _ kt => zJ X hx hby at_288 rfl rfl (zJ X hx hby at_290 rfl rfl kt)) ?_
                        have J340 : ∀ (ex : Int32), ex = (0 : Int32) → oWk p.tables e below (oDnH Z oEL s h0 below (Q_rLaw Z p0 p1 p2 p3 p4 p5 xfm xz h0) room_1.cells room_1.slots) T (mkF m 340 #[iv p0, iv p1, iv p2, iv p3, .val (.long p4), ss, iv p5, iv ap, iv bp, iv ad, iv bd, iv 2, iv 1, iv c0_, iv c1_, iv sc, iv e0_, iv e1_, rv sa, rv sb, rv pa, rv pb, iv wh, uu] [(.int ex)]) := by
                          intro ex hex
                          refine oWk.st (fun _ kt => zS X hx hby at_340 rfl rfl (l' := #[iv p0, iv p1, iv p2, iv p3, .val (.long p4), ss, iv p5, iv ap, iv bp, iv ad, iv bd, iv 2, iv 1, iv c0_, iv c1_, iv sc, iv e0_, iv e1_, rv sa, rv sb, rv pa, rv pb, iv wh, iv ex]) rfl (zB X hx hby at_342 rfl rfl rfl (zB X hx hby at_344 rfl rfl rfl kt))) ?_
                          have E_pa := (E_pa.keep K149.1)
                          have F_position_pa := ((F_position_pa.ext E148).keep K149.1 (ninS ne_pa_pb nin0))
                          have F_deleteCount_pa := ((F_deleteCount_pa.ext E148).keep K149.1 (ninS ne_pa_pb nin0))
                          have F_insertion_pa := ((F_insertion_pa.ext E148).keep K149.1 (ninS ne_pa_pb nin0))
                          have E_sb := (E_sb.keep K149.1)
                          have F_coder_sb := (F_coder_sb.keep K149.1 (ninS ne_sb_pb nin0))
                          have F_value_sb := (F_value_sb.keep K149.1 (ninS ne_sb_pb nin0))
                          have V_sbb := (V_sbb.keep K149.1 (ninS ne_sbb_pb nin0))
                          have E_sa := ((E_sa.ext E148).keep K149.1)
                          have F_coder_sa := (((F_coder_sa.keep K146.1 (ninS ne_sa_pa nin0)).ext E148).keep K149.1 (ninS ne_sa_pb nin0))
                          have F_value_sa := (((F_value_sa.keep K146.1 (ninS ne_sa_pa nin0)).ext E148).keep K149.1 (ninS ne_sa_pb nin0))
                          have V_sab := ((V_sab.ext E148).keep K149.1 (ninS ne_sab_pb nin0))
                          have Oh := K.old O0 all0
                          obtain ⟨T, L158, X, e0, K, st⟩ := (cs24 hw).pure X hx hZ hown e0 K (A := [(.ref pa), (.ref pb)]) ⟨rfl, _, _, rfl, E_pa⟩ (rED_1_2 l Z a0 hw [] pa ap ad pb bp bd sb sbb sbk sa sab sak xz e0_ c0_ c1_ h Oh S_Z hz E_pa F_position_pa F_deleteCount_pa F_insertion_pa E_pb F_position_pb F_deleteCount_pb F_insertion_pb (Ne.symm ne_sa_sb) E_sb F_coder_sb F_value_sb V_sbb E_sa F_coder_sa F_value_sa V_sab) (W := 0) (by decide) hml (Ls := #[iv p0, iv p1, iv p2, iv p3, .val (.long p4), ss, iv p5, iv ap, iv bp, iv ad, iv bd, iv 2, iv 1, iv c0_, iv c1_, iv sc, iv e0_, iv e1_, rv sa, rv sb, rv pa, rv pb, iv wh, iv ex]) rfl (rest := []) rfl rfl hby at_346
                          refine oWk.to (mkF m 351 #[iv p0, iv p1, iv p2, iv p3, .val (.long p4), ss, iv p5, iv ap, iv bp, iv ad, iv bd, iv 2, iv 1, iv c0_, iv c1_, iv sc, iv e0_, iv e1_, rv sa, rv sb, rv pa, rv pb, iv wh, iv ex] [(.int ex), (.int 0)]) (fun _ kt => st _ (zJ X hx hby at_349 rfl rfl kt)) ?_
                          refine oWk.st (fun _ kt => zN X hx hby at_351 rfl rfl (teq hex.symm).2 (zB X hx hby at_354 rfl rfl rfl (zB X hx hby at_356 rfl rfl rfl kt))) ?_
                          obtain ⟨T, L160, X, e0, K, st⟩ := (cs24 hw).pure X hx hZ hown e0 K (A := [(.ref pb), (.ref pa)]) ⟨rfl, _, _, rfl, E_pb⟩ (rED_2_1 l Z a0 hw [] pb bp bd pa ap ad sa sab sak sb sbb sbk xz c0_ c1_ e0_ h Oh S_Z hz E_pb F_position_pb F_deleteCount_pb F_insertion_pb E_pa F_position_pa F_deleteCount_pa F_insertion_pa ne_sa_sb E_sa F_coder_sa F_value_sa V_sab E_sb F_coder_sb F_value_sb V_sbb) (W := 0) (by decide) hml (Ls := #[iv p0, iv p1, iv p2, iv p3, .val (.long p4), ss, iv p5, iv ap, iv bp, iv ad, iv bd, iv 2, iv 1, iv c0_, iv c1_, iv sc, iv e0_, iv e1_, rv sa, rv sb, rv pa, rv pb, iv wh, iv ex]) rfl (rest := []) rfl rfl hby at_358
                          refine oWk.to (mkF m 363 #[iv p0, iv p1, iv p2, iv p3, .val (.long p4), ss, iv p5, iv ap, iv bp, iv ad, iv bd, iv 2, iv 1, iv c0_, iv c1_, iv sc, iv e0_, iv e1_, rv sa, rv sb, rv pa, rv pb, iv wh, iv ex] [(.int ex), (.int 0)]) (fun _ kt => st _ (zJ X hx hby at_361 rfl rfl kt)) ?_
                          refine oWk.to (mkF m 371 #[iv p0, iv p1, iv p2, iv p3, .val (.long p4), ss, iv p5, iv ap, iv bp, iv ad, iv bd, iv 2, iv 1, iv c0_, iv c1_, iv sc, iv e0_, iv e1_, rv sa, rv sb, rv pa, rv pb, iv wh, iv ex] [(.int 1)]) (fun _ kt => zN X hx hby at_363 rfl rfl (teq hex.symm).2 (zK X hx hby at_366 rfl (zG X hx hby at_367 rfl (pc' := 371) rfl kt))) ?_
                          exact oRetH X hx hlk hZ (oELw hw) e0 B hret (oNar01 (Or.inr rfl)) (Or.inl ⟨rfl, Or.inr (Or.inl rfl), _, rfl⟩) (hb hby at_371) (by rw [e0]; exact ⟨rfl, K.fr⟩) (by decide) (by decide)
                        by_cases hc292 : ap = bp
                        · refine oWk.to (mkF m 295 #[iv p0, iv p1, iv p2, iv p3, .val (.long p4), ss, iv p5, iv ap, iv bp, iv ad, iv bd, iv 2, iv 1, iv c0_, iv c1_, iv sc, iv e0_, iv e1_, rv sa, rv sb, rv pa, rv pb, iv wh, uu] []) (fun _ kt => zN X hx hby at_292 rfl rfl (teq hc292).2 kt) ?_
                          refine oWk.to (mkF m 299 #[iv p0, iv p1, iv p2, iv p3, .val (.long p4), ss, iv p5, iv ap, iv bp, iv ad, iv bd, iv 2, iv 1, iv c0_, iv c1_, iv sc, iv e0_, iv e1_, rv sa, rv sb, rv pa, rv pb, iv wh, uu] [(.int bd), (.int ad)]) (fun _ kt => zJ X hx hby at_295 rfl rfl (zJ X hx hby at_297 rfl rfl kt)) ?_
                          by_cases hc299 : ad = bd
                          · refine oWk.to (mkF m 302 #[iv p0, iv p1, iv p2, iv p3, .val (.long p4), ss, iv p5, iv ap, iv bp, iv ad, iv bd, iv 2, iv 1, iv c0_, iv c1_, iv sc, iv e0_, iv e1_, rv sa, rv sb, rv pa, rv pb, iv wh, uu] []) (fun _ kt => zN X hx hby at_299 rfl rfl (teq hc299).2 kt) ?_
                            refine oWk.to (mkF m 340 #[iv p0, iv p1, iv p2, iv p3, .val (.long p4), ss, iv p5, iv ap, iv bp, iv ad, iv bd, iv 2, iv 1, iv c0_, iv c1_, iv sc, iv e0_, iv e1_, rv sa, rv sb, rv pa, rv pb, iv wh, uu] [(.int 0)]) (fun _ kt => zJ X hx hby at_302 rfl rfl (zJ X hx hby at_304 rfl rfl (zY X hx hby at_306 rfl rfl (feq (by decide)).2 (pc' := 339) rfl (zK X hx hby at_339 rfl kt)))) ?_
                            exact J340 _ rfl
                          · refine oWk.to (mkF m 339 #[iv p0, iv p1, iv p2, iv p3, .val (.long p4), ss, iv p5, iv ap, iv bp, iv ad, iv bd, iv 2, iv 1, iv c0_, iv c1_, iv sc, iv e0_, iv e1_, rv sa, rv sb, rv pa, rv pb, iv wh, uu] []) (fun _ kt => zY X hx hby at_299 rfl rfl (feq hc299).2 (pc' := 339) rfl kt) ?_
                            refine oWk.to (mkF m 340 #[iv p0, iv p1, iv p2, iv p3, .val (.long p4), ss, iv p5, iv ap, iv bp, iv ad, iv bd, iv 2, iv 1, iv c0_, iv c1_, iv sc, iv e0_, iv e1_, rv sa, rv sb, rv pa, rv pb, iv wh, uu] [(.int 0)]) (fun _ kt => zK X hx hby at_339 rfl kt) ?_
                            exact J340 _ rfl
                        · refine oWk.to (mkF m 339 #[iv p0, iv p1, iv p2, iv p3, .val (.long p4), ss, iv p5, iv ap, iv bp, iv ad, iv bd, iv 2, iv 1, iv c0_, iv c1_, iv sc, iv e0_, iv e1_, rv sa, rv sb, rv pa, rv pb, iv wh, uu] []) (fun _ kt => zY X hx hby at_292 rfl rfl (feq hc292).2 (pc' := 339) rfl kt) ?_
                          refine oWk.to (mkF m 340 #[iv p0, iv p1, iv p2, iv p3, .val (.long p4), ss, iv p5, iv ap, iv bp, iv ad, iv bd, iv 2, iv 1, iv c0_, iv c1_, iv sc, iv e0_, iv e1_, rv sa, rv sb, rv pa, rv pb, iv wh, uu] [(.int 0)]) (fun _ kt => zK X hx hby at_339 rfl kt) ?_
                          exact J340 _ rfl
                · show oWk _ _ _ _ T (mkF m 166 #[iv p0, iv p1, iv p2, iv p3, .val (.long p4), ss, iv p5, iv ap, iv bp, iv ad, iv bd, iv 2, iv 2, iv c0_, iv c1_, iv sc, iv e0_, iv e1_, uu, uu, uu, uu, uu, uu] [])
                  refine oWk.st (fun _ kt => zJ X hx hby at_166 rfl rfl (zJ X hx hby at_168 rfl rfl (zJ X hx hby at_170 rfl rfl kt))) ?_
                  have Oh := K.old O0 all0
                  obtain ⟨_, T, h, Lc162, X, e0, hQ, st⟩ := (cs25 hw).run X hx hZ hown e0 (A := [(.int (2 : Int32)), (.int c0_), (.int c1_)]) rfl (rStr_2 l Z a0 hw [] c0_ c1_ xz h0 Oh S_Z hz r_c0_ r_c1_) (W := 0) (by decide) hml (Ls := #[iv p0, iv p1, iv p2, iv p3, .val (.long p4), ss, iv p5, iv ap, iv bp, iv ad, iv bd, iv 2, iv 2, iv c0_, iv c1_, iv sc, iv e0_, iv e1_, uu, uu, uu, uu, uu, uu]) rfl (rest := []) rfl rfl hby at_172
                  obtain ⟨sa, sab, sak, rfl, K161, gn_sa, gn_sab, E_sa, F_coder_sa, F_value_sa, V_sab⟩ := hQ
                  have ge_sa := Nat.le_trans K.le gn_sa
                  have ge_sab := Nat.le_trans K.le gn_sab
                  have K := K.call K161 all0
                  have B := B.keep K161.1 sf0
                  refine oWk.st (fun _ kt => st _ (zT X hx hby at_175 rfl rfl rfl (l' := #[iv p0, iv p1, iv p2, iv p3, .val (.long p4), ss, iv p5, iv ap, iv bp, iv ad, iv bd, iv 2, iv 2, iv c0_, iv c1_, iv sc, iv e0_, iv e1_, rv sa, uu, uu, uu, uu, uu]) rfl (zJ X hx hby at_177 rfl rfl (zJ X hx hby at_179 rfl rfl (zJ X hx hby at_181 rfl rfl kt))))) ?_
                  have lt_sa := E_sa.lt
                  have lt_sab := V_sab.lt
                  have Oh := K.old O0 all0
                  obtain ⟨_, T, h, Lc164, X, e0, hQ, st⟩ := (cs25 hw).run X hx hZ hown e0 (A := [(.int (2 : Int32)), (.int e0_), (.int e1_)]) rfl (rStr_2 l Z a0 hw [] e0_ e1_ xz h Oh S_Z hz r_e0_ r_e1_) (W := 0) (by decide) hml (Ls := #[iv p0, iv p1, iv p2, iv p3, .val (.long p4), ss, iv p5, iv ap, iv bp, iv ad, iv bd, iv 2, iv 2, iv c0_, iv c1_, iv sc, iv e0_, iv e1_, rv sa, uu, uu, uu, uu, uu]) rfl (rest := []) rfl rfl hby at_183
                  obtain ⟨sb, sbb, sbk, rfl, K163, gn_sb, gn_sbb, E_sb, F_coder_sb, F_value_sb, V_sbb⟩ := hQ
                  have ge_sb := Nat.le_trans K.le gn_sb
                  have ne_sa_sb : sa ≠ sb := Nat.ne_of_lt (Nat.lt_of_lt_of_le lt_sa gn_sb)
                  have ne_sab_sb : sab ≠ sb := Nat.ne_of_lt (Nat.lt_of_lt_of_le lt_sab gn_sb)
                  have ge_sbb := Nat.le_trans K.le gn_sbb
                  have ne_sa_sbb : sa ≠ sbb := Nat.ne_of_lt (Nat.lt_of_lt_of_le lt_sa gn_sbb)
                  have ne_sab_sbb : sab ≠ sbb := Nat.ne_of_lt (Nat.lt_of_lt_of_le lt_sab gn_sbb)
                  have K := K.call K163 all0
                  have B := B.keep K163.1 sf0
                  refine oWk.st (fun _ kt => st _ (zT X hx hby at_186 rfl rfl rfl (l' := #[iv p0, iv p1, iv p2, iv p3, .val (.long p4), ss, iv p5, iv ap, iv bp, iv ad, iv bd, iv 2, iv 2, iv c0_, iv c1_, iv sc, iv e0_, iv e1_, rv sa, rv sb, uu, uu, uu, uu]) rfl kt)) ?_
                  obtain ⟨pa, g165⟩ : ∃ z, z = h.size := ⟨_, rfl⟩
                  have E_sa := (E_sa.keep K163.1)
                  have ne_sa_pa : sa ≠ pa := Nat.ne_of_lt (Nat.lt_of_lt_of_le E_sa.lt (Nat.le_of_eq g165.symm))
                  have V_sab := (V_sab.keep K163.1 nin0)
                  have ne_sab_pa : sab ≠ pa := Nat.ne_of_lt (Nat.lt_of_lt_of_le V_sab.lt (Nat.le_of_eq g165.symm))
                  have ne_sb_pa : sb ≠ pa := Nat.ne_of_lt (Nat.lt_of_lt_of_le E_sb.lt (Nat.le_of_eq g165.symm))
                  have ne_sbb_pa : sbb ≠ pa := Nat.ne_of_lt (Nat.lt_of_lt_of_le V_sbb.lt (Nat.le_of_eq g165.symm))
                  have ge_pa : h0.size ≤ pa := Nat.le_trans K.le (Nat.le_of_eq g165.symm)
                  have sf_pa := B.new (Nat.le_of_eq g165.symm)
                  obtain ⟨T, h, X, e0, E165, A165, D165, -, st⟩ := newO X hx hZ hown (oW hw 28 rfl) (oW hw 29 rfl) (oW hw 30 rfl) e0 (g := (mkF m 188 #[iv p0, iv p1, iv p2, iv p3, .val (.long p4), ss, iv p5, iv ap, iv bp, iv ad, iv bd, iv 2, iv 2, iv c0_, iv c1_, iv sc, iv e0_, iv e1_, rv sa, rv sb, uu, uu, uu, uu] [])) rfl (hb hby at_188) (by decide) (by decide)
                  rw [← g165] at A165 D165 st
                  have K := K.ext E165
                  have sf_pa := Safe.ext E165 B.2.1 sf_pa
                  have B := B.ext E165
                  have E_pa := A165
                  have F_position_pa : Fld Z h pa Y1 "position" "I" (.int (0 : Int32)) := D165 (Or.inr (oW hw 60 rfl)) (ty := .int) (by decide)
                  have F_deleteCount_pa : Fld Z h pa Y1 "deleteCount" "I" (.int (0 : Int32)) := D165 (Or.inr (oW hw 62 rfl)) (ty := .int) (by decide)
                  have F_insertion_pa : Fld Z h pa Y1 "insertion" Y3 .null := D165 (Or.inr (oW hw 64 rfl)) (ty := (.object Y0)) (by decide)
                  have F_insertionLength_pa : Fld Z h pa Y1 Y4 "I" (.int (0 : Int32)) := D165 (Or.inr (oW hw 85 rfl)) (ty := .int) (by decide)
                  refine oWk.st (fun _ kt => st _ (zD X hx hby at_191 rfl rfl rfl (zJ X hx hby at_192 rfl rfl (zJ X hx hby at_194 rfl rfl (zB X hx hby at_196 rfl rfl rfl kt))))) ?_
                  have E_sa := (E_sa.ext E165)
                  have F_coder_sa := ((F_coder_sa.keep K163.1 nin0).ext E165)
                  have F_value_sa := ((F_value_sa.keep K163.1 nin0).ext E165)
                  have V_sab := (V_sab.ext E165)
                  have Oh := K.old O0 all0
                  obtain ⟨_, _, ⟨T, L167, k167, n167⟩, -, X, hS, hgr, ⟨Lc167, hQ, l167, y167, z167, C⟩, st⟩ := X.specialBackS hx (y := yy17) rfl hown (mvT hZ (oW hw 31 rfl)) (mvT hZ (oW hw 32 rfl)) (mvT hZ (oW hw 33 rfl)) (by decide) (oBackH (W := 1) (rPI_2 l Z a0 hw [] pa ap ad (.int (0 : Int32)) (.int (0 : Int32)) .null (.int (0 : Int32)) sa sab sak xfm xz c0_ c1_ h Oh S_Z hz S_F hcat (Nat.le_trans O0.1 ge_pa) E_pa F_position_pa F_deleteCount_pa F_insertion_pa F_insertionLength_pa E_sa F_coder_sa F_value_sa V_sab r_c0_ r_c1_ ne_sa_pa ne_sab_pa hap had) hZ (oW hw 33 rfl) (oW hw 30 rfl) (by decide) (by decide) (oELw hw) B.2.1 (allS ⟨E_pa.lt, sf_pa⟩ all0)) (g := (mkF m 198 #[iv p0, iv p1, iv p2, iv p3, .val (.long p4), ss, iv p5, iv ap, iv bp, iv ad, iv bd, iv 2, iv 2, iv c0_, iv c1_, iv sc, iv e0_, iv e1_, rv sa, rv sb, uu, uu, uu, uu] [(.ref sa), (.int ad), (.int ap), (.ref pa), (.ref pa)])) rfl (by rw [hml]; rfl) (Steps.refl _) (a := pa) (argsL := [(.int ap), (.int ad), (.ref sa)]) (rest := [(.ref pa)]) (lenOf pd_22 rfl) rfl (Nat.le_of_eq rfl) (hb hby at_198) (fun _ _ => ⟨rfl, e0, (by decide : 7 + 4 ≤ _), (by decide : 20 + 112 ≤ _)⟩)
                  dsimp only [Pt.U, Pt.locs, Pt.cells, Pt.slots] at X l167 y167 z167 st hQ C hS hgr
                  subst l167 y167 z167
                  have X : Stand p l e _ (s.setVm T.vm) m _ below meth c T _ _ _ := X
                  obtain ⟨h, e2⟩ : ∃ z, T.heap = z := ⟨_, rfl⟩
                  have B := B.call e0 hS hgr C e2
                  obtain ⟨hZ, hown⟩ := oWide hZ hown hS
                  rw [e2] at hQ C
                  have sf_pa := C.safe E_pa.lt sf_pa
                  have e0 := e2
                  obtain ⟨rfl, K166, E_pa, F_position_pa, F_deleteCount_pa, F_insertion_pa⟩ := hQ
                  have K := K.call K166 (allS (Or.inr ge_pa) all0)
                  refine oWk.st (fun _ kt => st.trans (zT X hx hby at_201 rfl rfl rfl (l' := #[iv p0, iv p1, iv p2, iv p3, .val (.long p4), ss, iv p5, iv ap, iv bp, iv ad, iv bd, iv 2, iv 2, iv c0_, iv c1_, iv sc, iv e0_, iv e1_, rv sa, rv sb, rv pa, uu, uu, uu]) rfl kt)) ?_
                  obtain ⟨pb, g168⟩ : ∃ z, z = h.size := ⟨_, rfl⟩
                  have E_sa := (E_sa.keep K166.1)
                  have ne_sa_pb : sa ≠ pb := Nat.ne_of_lt (Nat.lt_of_lt_of_le E_sa.lt (Nat.le_of_eq g168.symm))
                  have V_sab := (V_sab.keep K166.1 (ninS ne_sab_pa nin0))
                  have ne_sab_pb : sab ≠ pb := Nat.ne_of_lt (Nat.lt_of_lt_of_le V_sab.lt (Nat.le_of_eq g168.symm))
                  have E_sb := ((E_sb.ext E165).keep K166.1)
                  have ne_sb_pb : sb ≠ pb := Nat.ne_of_lt (Nat.lt_of_lt_of_le E_sb.lt (Nat.le_of_eq g168.symm))
                  have V_sbb := ((V_sbb.ext E165).keep K166.1 (ninS ne_sbb_pa nin0))
                  have ne_sbb_pb : sbb ≠ pb := Nat.ne_of_lt (Nat.lt_of_lt_of_le V_sbb.lt (Nat.le_of_eq g168.symm))
                  have ne_pa_pb : pa ≠ pb := Nat.ne_of_lt (Nat.lt_of_lt_of_le E_pa.lt (Nat.le_of_eq g168.symm))
                  have ge_pb : h0.size ≤ pb := Nat.le_trans K.le (Nat.le_of_eq g168.symm)
                  have sf_pb := B.new (Nat.le_of_eq g168.symm)
                  obtain ⟨T, h, X, e0, E168, A168, D168, -, st⟩ := newO X hx hZ hown (oW hw 28 rfl) (oW hw 29 rfl) (oW hw 30 rfl) e0 (g := (mkF m 203 #[iv p0, iv p1, iv p2, iv p3, .val (.long p4), ss, iv p5, iv ap, iv bp, iv ad, iv bd, iv 2, iv 2, iv c0_, iv c1_, iv sc, iv e0_, iv e1_, rv sa, rv sb, rv pa, uu, uu, uu] [])) rfl (hb hby at_203) (by decide) (by decide)
                  rw [← g168] at A168 D168 st
                  have K := K.ext E168
                  have sf_pa := Safe.ext E168 B.2.1 sf_pa
                  have sf_pb := Safe.ext E168 B.2.1 sf_pb
                  have B := B.ext E168
                  have E_pb := A168
                  have F_position_pb : Fld Z h pb Y1 "position" "I" (.int (0 : Int32)) := D168 (Or.inr (oW hw 60 rfl)) (ty := .int) (by decide)
                  have F_deleteCount_pb : Fld Z h pb Y1 "deleteCount" "I" (.int (0 : Int32)) := D168 (Or.inr (oW hw 62 rfl)) (ty := .int) (by decide)
                  have F_insertion_pb : Fld Z h pb Y1 "insertion" Y3 .null := D168 (Or.inr (oW hw 64 rfl)) (ty := (.object Y0)) (by decide)
                  have F_insertionLength_pb : Fld Z h pb Y1 Y4 "I" (.int (0 : Int32)) := D168 (Or.inr (oW hw 85 rfl)) (ty := .int) (by decide)
                  refine oWk.st (fun _ kt => st _ (zD X hx hby at_206 rfl rfl rfl (zJ X hx hby at_207 rfl rfl (zJ X hx hby at_209 rfl rfl (zB X hx hby at_211 rfl rfl rfl kt))))) ?_
                  have E_sb := (E_sb.ext E168)
                  have F_coder_sb := (((F_coder_sb.ext E165).keep K166.1 (ninS ne_sb_pa nin0)).ext E168)
                  have F_value_sb := (((F_value_sb.ext E165).keep K166.1 (ninS ne_sb_pa nin0)).ext E168)
                  have V_sbb := (V_sbb.ext E168)
                  have Oh := K.old O0 all0
                  have E_pa := (E_pa.ext E168)
                  obtain ⟨_, _, ⟨T, L170, k170, n170⟩, -, X, hS, hgr, ⟨Lc170, hQ, l170, y170, z170, C⟩, st⟩ := X.specialBackS hx (y := yy17) rfl hown (mvT hZ (oW hw 31 rfl)) (mvT hZ (oW hw 32 rfl)) (mvT hZ (oW hw 33 rfl)) (by decide) (oBackH (W := 1) (rPI_2 l Z a0 hw [] pb bp bd (.int (0 : Int32)) (.int (0 : Int32)) .null (.int (0 : Int32)) sb sbb sbk xfm xz e0_ e1_ h Oh S_Z hz S_F hcat (Nat.le_trans O0.1 ge_pb) E_pb F_position_pb F_deleteCount_pb F_insertion_pb F_insertionLength_pb E_sb F_coder_sb F_value_sb V_sbb r_e0_ r_e1_ ne_sb_pb ne_sbb_pb hbp hbd) hZ (oW hw 33 rfl) (oW hw 30 rfl) (by decide) (by decide) (oELw hw) B.2.1 (allS ⟨E_pb.lt, sf_pb⟩ all0)) (g := (mkF m 213 #[iv p0, iv p1, iv p2, iv p3, .val (.long p4), ss, iv p5, iv ap, iv bp, iv ad, iv bd, iv 2, iv 2, iv c0_, iv c1_, iv sc, iv e0_, iv e1_, rv sa, rv sb, rv pa, uu, uu, uu] [(.ref sb), (.int bd), (.int bp), (.ref pb), (.ref pb)])) rfl (by rw [hml]; rfl) (Steps.refl _) (a := pb) (argsL := [(.int bp), (.int bd), (.ref sb)]) (rest := [(.ref pb)]) (lenOf pd_22 rfl) rfl (Nat.le_of_eq rfl) (hb hby at_213) (fun _ _ => ⟨rfl, e0, (by decide : 12 + 4 ≤ _), (by decide : 136 + 112 ≤ _)⟩)
                  dsimp only [Pt.U, Pt.locs, Pt.cells, Pt.slots] at X l170 y170 z170 st hQ C hS hgr
                  subst l170 y170 z170
                  have X : Stand p l e _ (s.setVm T.vm) m _ below meth c T _ _ _ := X
                  obtain ⟨h, e2⟩ : ∃ z, T.heap = z := ⟨_, rfl⟩
                  have B := B.call e0 hS hgr C e2
                  obtain ⟨hZ, hown⟩ := oWide hZ hown hS
                  rw [e2] at hQ C
                  have sf_pa := C.safe E_pa.lt sf_pa
                  have sf_pb := C.safe E_pb.lt sf_pb
                  have e0 := e2
                  obtain ⟨rfl, K169, E_pb, F_position_pb, F_deleteCount_pb, F_insertion_pb⟩ := hQ
                  have K := K.call K169 (allS (Or.inr ge_pb) all0)
                  refine oWk.to (mkF m 225 #[iv p0, iv p1, iv p2, iv p3, .val (.long p4), ss, iv p5, iv ap, iv bp, iv ad, iv bd, iv 2, iv 2, iv c0_, iv c1_, iv sc, iv e0_, iv e1_, rv sa, rv sb, rv pa, rv pb, uu, uu] [(.int (((p5.toUInt32 >>> ((8 : Int32) &&& 31).toUInt32).toInt32) &&& (3 : Int32)))]) (fun _ kt => st.trans (zT X hx hby at_216 rfl rfl rfl (l' := #[iv p0, iv p1, iv p2, iv p3, .val (.long p4), ss, iv p5, iv ap, iv bp, iv ad, iv bd, iv 2, iv 2, iv c0_, iv c1_, iv sc, iv e0_, iv e1_, rv sa, rv sb, rv pa, rv pb, uu, uu]) rfl (zJ X hx hby at_218 rfl rfl (zL X hx hby at_220 rfl (XS.iushr X.here hx rfl (hb hby at_222) rfl (zK X hx hby at_223 rfl (XS.iand X.here hx rfl (hb hby at_224) rfl kt))))))) ?_
                  generalize hwh : (((p5.toUInt32 >>> ((8 : Int32) &&& 31).toUInt32).toInt32) &&& (3 : Int32)) = wh
                  show oWk _ _ _ _ T (mkF m 225 #[iv p0, iv p1, iv p2, iv p3, .val (.long p4), ss, iv p5, iv ap, iv bp, iv ad, iv bd, iv 2, iv 2, iv c0_, iv c1_, iv sc, iv e0_, iv e1_, rv sa, rv sb, rv pa, rv pb, uu, uu] [(.int wh)])
                  refine oWk.to (mkF m 230 #[iv p0, iv p1, iv p2, iv p3, .val (.long p4), ss, iv p5, iv ap, iv bp, iv ad, iv bd, iv 2, iv 2, iv c0_, iv c1_, iv sc, iv e0_, iv e1_, rv sa, rv sb, rv pa, rv pb, iv wh, uu] [(.int 1), (.int wh)]) (fun _ kt => zS X hx hby at_225 rfl rfl (l' := #[iv p0, iv p1, iv p2, iv p3, .val (.long p4), ss, iv p5, iv ap, iv bp, iv ad, iv bd, iv 2, iv 2, iv c0_, iv c1_, iv sc, iv e0_, iv e1_, rv sa, rv sb, rv pa, rv pb, iv wh, uu]) rfl (zJ X hx hby at_227 rfl rfl (zK X hx hby at_229 rfl kt))) ?_
                  by_cases hc230 : wh = (1 : Int32)
                  · refine oWk.to (mkF m 233 #[iv p0, iv p1, iv p2, iv p3, .val (.long p4), ss, iv p5, iv ap, iv bp, iv ad, iv bd, iv 2, iv 2, iv c0_, iv c1_, iv sc, iv e0_, iv e1_, rv sa, rv sb, rv pa, rv pb, iv wh, uu] []) (fun _ kt => zN X hx hby at_230 rfl rfl (teq hc230).2 kt) ?_
                    refine oWk.st (fun _ kt => zB X hx hby at_233 rfl rfl rfl (XS.aconstNull X.here hx rfl (hb hby at_235) kt)) ?_
                    have Oh := K.old O0 all0
                    have E_pa := (E_pa.keep K169.1)
                    obtain ⟨T, L172, X, e0, K, st⟩ := (cs24 hw).pure X hx hZ hown e0 K (A := [(.ref pa), .null]) ⟨rfl, _, _, rfl, E_pa⟩ (rEN l Z a0 hw [] pa h Oh ) (W := 0) (by decide) hml (Ls := #[iv p0, iv p1, iv p2, iv p3, .val (.long p4), ss, iv p5, iv ap, iv bp, iv ad, iv bd, iv 2, iv 2, iv c0_, iv c1_, iv sc, iv e0_, iv e1_, rv sa, rv sb, rv pa, rv pb, iv wh, uu]) rfl (rest := []) rfl rfl hby at_236
                    refine oWk.to (mkF m 247 #[iv p0, iv p1, iv p2, iv p3, .val (.long p4), ss, iv p5, iv ap, iv bp, iv ad, iv bd, iv 2, iv 2, iv c0_, iv c1_, iv sc, iv e0_, iv e1_, rv sa, rv sb, rv pa, rv pb, iv wh, uu] [(.int 1)]) (fun _ kt => st _ (zH X hx hby at_239 rfl rfl ((if0 _ _).trans (teq (by decide)).2) (zK X hx hby at_242 rfl (zG X hx hby at_243 rfl (pc' := 247) rfl kt)))) ?_
                    exact oRetH X hx hlk hZ (oELw hw) e0 B hret (oNar01 (Or.inr rfl)) (Or.inl ⟨rfl, Or.inr (Or.inl rfl), _, rfl⟩) (hb hby at_247) (by rw [e0]; exact ⟨rfl, K.fr⟩) (by decide) (by decide)
                  · refine oWk.to (mkF m 248 #[iv p0, iv p1, iv p2, iv p3, .val (.long p4), ss, iv p5, iv ap, iv bp, iv ad, iv bd, iv 2, iv 2, iv c0_, iv c1_, iv sc, iv e0_, iv e1_, rv sa, rv sb, rv pa, rv pb, iv wh, uu] []) (fun _ kt => zY X hx hby at_230 rfl rfl (feq hc230).2 (pc' := 248) rfl kt) ?_
                    refine oWk.to (mkF m 251 #[iv p0, iv p1, iv p2, iv p3, .val (.long p4), ss, iv p5, iv ap, iv bp, iv ad, iv bd, iv 2, iv 2, iv c0_, iv c1_, iv sc, iv e0_, iv e1_, rv sa, rv sb, rv pa, rv pb, iv wh, uu] [(.int 2), (.int wh)]) (fun _ kt => zJ X hx hby at_248 rfl rfl (zK X hx hby at_250 rfl kt)) ?_
                    by_cases hc251 : wh = (2 : Int32)
                    · refine oWk.to (mkF m 254 #[iv p0, iv p1, iv p2, iv p3, .val (.long p4), ss, iv p5, iv ap, iv bp, iv ad, iv bd, iv 2, iv 2, iv c0_, iv c1_, iv sc, iv e0_, iv e1_, rv sa, rv sb, rv pa, rv pb, iv wh, uu] []) (fun _ kt => zN X hx hby at_251 rfl rfl (teq hc251).2 kt) ?_
                      refine oWk.st (fun _ kt => zB X hx hby at_254 rfl rfl rfl (zT X hx hby at_256 rfl rfl rfl (l' := #[iv p0, iv p1, iv p2, iv p3, .val (.long p4), ss, iv p5, iv ap, iv bp, iv ad, iv bd, iv 2, iv 2, iv c0_, iv c1_, iv sc, iv e0_, iv e1_, rv sa, rv sb, rv pa, rv pb, iv wh, rv sa]) rfl (zB X hx hby at_258 rfl rfl rfl (zB X hx hby at_260 rfl rfl rfl kt)))) ?_
                      have E_sa := ((E_sa.ext E168).keep K169.1)
                      have Oh := K.old O0 all0
                      have E_pa := (E_pa.keep K169.1)
                      obtain ⟨T, L174, X, e0, K, st⟩ := (cs24 hw).pure X hx hZ hown e0 K (A := [(.ref pa), (.ref sa)]) ⟨rfl, _, _, rfl, E_pa⟩ (rET l Z a0 hw [] pa sa h Oh E_sa) (W := 0) (by decide) hml (Ls := #[iv p0, iv p1, iv p2, iv p3, .val (.long p4), ss, iv p5, iv ap, iv bp, iv ad, iv bd, iv 2, iv 2, iv c0_, iv c1_, iv sc, iv e0_, iv e1_, rv sa, rv sb, rv pa, rv pb, iv wh, rv sa]) rfl (rest := []) rfl rfl hby at_262
                      refine oWk.to (mkF m 273 #[iv p0, iv p1, iv p2, iv p3, .val (.long p4), ss, iv p5, iv ap, iv bp, iv ad, iv bd, iv 2, iv 2, iv c0_, iv c1_, iv sc, iv e0_, iv e1_, rv sa, rv sb, rv pa, rv pb, iv wh, rv sa] [(.int 1)]) (fun _ kt => st _ (zH X hx hby at_265 rfl rfl ((if0 _ _).trans (teq (by decide)).2) (zK X hx hby at_268 rfl (zG X hx hby at_269 rfl (pc' := 273) rfl kt)))) ?_
                      exact oRetH X hx hlk hZ (oELw hw) e0 B hret (oNar01 (Or.inr rfl)) (Or.inl ⟨rfl, Or.inr (Or.inl rfl), _, rfl⟩) (hb hby at_273) (by rw [e0]; exact ⟨rfl, K.fr⟩) (by decide) (by decide)
                    · refine oWk.to (mkF m 274 #[iv p0, iv p1, iv p2, iv p3, .val (.long p4), ss, iv p5, iv ap, iv bp, iv ad, iv bd, iv 2, iv 2, iv c0_, iv c1_, iv sc, iv e0_, iv e1_, rv sa, rv sb, rv pa, rv pb, iv wh, uu] []) (fun _ kt => zY X hx hby at_251 rfl rfl (feq hc251).2 (pc' := 274) rfl kt) ?_
                      refine oWk.to (mkF m 277 #[iv p0, iv p1, iv p2, iv p3, .val (.long p4), ss, iv p5, iv ap, iv bp, iv ad, iv bd, iv 2, iv 2, iv c0_, iv c1_, iv sc, iv e0_, iv e1_, rv sa, rv sb, rv pa, rv pb, iv wh, uu] [(.int 3), (.int wh)]) (fun _ kt => zJ X hx hby at_274 rfl rfl (zK X hx hby at_276 rfl kt)) ?_
                      by_cases hc277 : wh = (3 : Int32)
                      · refine oWk.to (mkF m 280 #[iv p0, iv p1, iv p2, iv p3, .val (.long p4), ss, iv p5, iv ap, iv bp, iv ad, iv bd, iv 2, iv 2, iv c0_, iv c1_, iv sc, iv e0_, iv e1_, rv sa, rv sb, rv pa, rv pb, iv wh, uu] []) (fun _ kt => zN X hx hby at_277 rfl rfl (teq hc277).2 kt) ?_
                        refine oWk.st (fun _ kt => zB X hx hby at_280 rfl rfl rfl (zB X hx hby at_282 rfl rfl rfl kt)) ?_
                        have E_pa := (E_pa.keep K169.1)
                        have F_position_pa := ((F_position_pa.ext E168).keep K169.1 (ninS ne_pa_pb nin0))
                        have F_deleteCount_pa := ((F_deleteCount_pa.ext E168).keep K169.1 (ninS ne_pa_pb nin0))
                        have F_insertion_pa := ((F_insertion_pa.ext E168).keep K169.1 (ninS ne_pa_pb nin0))
                        have E_sa := ((E_sa.ext E168).keep K169.1)
                        have Oh := K.old O0 all0
                        obtain ⟨T, L176, X, e0, K, st⟩ := (cs24 hw).pure X hx hZ hown e0 K (A := [(.ref pa), (.ref pa)]) ⟨rfl, _, _, rfl, E_pa⟩ (rEI l Z a0 hw [] pa ap ad sa h Oh E_pa F_position_pa F_deleteCount_pa F_insertion_pa E_sa) (W := 0) (by decide) hml (Ls := #[iv p0, iv p1, iv p2, iv p3, .val (.long p4), ss, iv p5, iv ap, iv bp, iv ad, iv bd, iv 2, iv 2, iv c0_, iv c1_, iv sc, iv e0_, iv e1_, rv sa, rv sb, rv pa, rv pb, iv wh, uu]) rfl (rest := []) rfl rfl hby at_284
                        refine oWk.to (mkF m 287 #[iv p0, iv p1, iv p2, iv p3, .val (.long p4), ss, iv p5, iv ap, iv bp, iv ad, iv bd, iv 2, iv 2, iv c0_, iv c1_, iv sc, iv e0_, iv e1_, rv sa, rv sb, rv pa, rv pb, iv wh, uu] [(.int 1)]) (fun _ kt => st _ kt) ?_
                        exact oRetH X hx hlk hZ (oELw hw) e0 B hret (oNar01 (Or.inr rfl)) (Or.inl ⟨rfl, Or.inr (Or.inl rfl), _, rfl⟩) (hb hby at_287) (by rw [e0]; exact ⟨rfl, K.fr⟩) (by decide) (by decide)
                      · refine oWk.to (mkF m 288 #[iv p0, iv p1, iv p2, iv p3, .val (.long p4), ss, iv p5, iv ap, iv bp, iv ad, iv bd, iv 2, iv 2, iv c0_, iv c1_, iv sc, iv e0_, iv e1_, rv sa, rv sb, rv pa, rv pb, iv wh, uu] []) (fun _ kt => zY X hx hby at_277 rfl rfl (feq hc277).2 (pc' := 288) rfl kt) ?_
                        refine oWk.to (mkF m 292 #[iv p0, iv p1, iv p2, iv p3, .val (.long p4), ss, iv p5, iv ap, iv bp, iv ad, iv bd, iv 2, iv 2, iv c0_, iv c1_, iv sc, iv e0_, iv e1_, rv sa, rv sb, rv pa, rv pb, iv wh, uu] [(.int bp), (.int ap)]) (fun _ kt => zJ X hx hby at_288 rfl rfl (zJ X hx hby at_290 rfl rfl kt)) ?_
                        have J340 : ∀ (ex : Int32), ex = oBi (ap = bp ∧ ad = bd ∧ c0_ = e0_ ∧ c1_ = e1_) → oWk p.tables e below (oDnH Z oEL s h0 below (Q_rLaw Z p0 p1 p2 p3 p4 p5 xfm xz h0) room_1.cells room_1.slots) T (mkF m 340 #[iv p0, iv p1, iv p2, iv p3, .val (.long p4), ss, iv p5, iv ap, iv bp, iv ad, iv bd, iv 2, iv 2, iv c0_, iv c1_, iv sc, iv e0_, iv e1_, rv sa, rv sb, rv pa, rv pb, iv wh, uu] [(.int ex)]) := by
                          intro ex hex
                          refine oWk.st (fun _ kt => zS X hx hby at_340 rfl rfl (l' := #[iv p0, iv p1, iv p2, iv p3, .val (.long p4), ss, iv p5, iv ap, iv bp, iv ad, iv bd, iv 2, iv 2, iv c0_, iv c1_, iv sc, iv e0_, iv e1_, rv sa, rv sb, rv pa, rv pb, iv wh, iv ex]) rfl (zB X hx hby at_342 rfl rfl rfl (zB X hx hby at_344 rfl rfl rfl kt))) ?_
                          have E_pa := (E_pa.keep K169.1)
                          have F_position_pa := ((F_position_pa.ext E168).keep K169.1 (ninS ne_pa_pb nin0))
                          have F_deleteCount_pa := ((F_deleteCount_pa.ext E168).keep K169.1 (ninS ne_pa_pb nin0))
                          have F_insertion_pa := ((F_insertion_pa.ext E168).keep K169.1 (ninS ne_pa_pb nin0))
                          have E_sb := (E_sb.keep K169.1)
                          have F_coder_sb := (F_coder_sb.keep K169.1 (ninS ne_sb_pb nin0))
                          have F_value_sb := (F_value_sb.keep K169.1 (ninS ne_sb_pb nin0))
                          have V_sbb := (V_sbb.keep K169.1 (ninS ne_sbb_pb nin0))
                          have E_sa := ((E_sa.ext E168).keep K169.1)
                          have F_coder_sa := (((F_coder_sa.keep K166.1 (ninS ne_sa_pa nin0)).ext E168).keep K169.1 (ninS ne_sa_pb nin0))
                          have F_value_sa := (((F_value_sa.keep K166.1 (ninS ne_sa_pa nin0)).ext E168).keep K169.1 (ninS ne_sa_pb nin0))
                          have V_sab := ((V_sab.ext E168).keep K169.1 (ninS ne_sab_pb nin0))
                          have Oh := K.old O0 all0
                          obtain ⟨T, L178, X, e0, K, st⟩ := (cs24 hw).pure X hx hZ hown e0 K (A := [(.ref pa), (.ref pb)]) ⟨rfl, _, _, rfl, E_pa⟩ (rED_2_2 l Z a0 hw [] pa ap ad pb bp bd sb sbb sbk sa sab sak xz e0_ e1_ c0_ c1_ h Oh S_Z hz E_pa F_position_pa F_deleteCount_pa F_insertion_pa E_pb F_position_pb F_deleteCount_pb F_insertion_pb (Ne.symm ne_sa_sb) E_sb F_coder_sb F_value_sb V_sbb E_sa F_coder_sa F_value_sa V_sab) (W := 0) (by decide) hml (Ls := #[iv p0, iv p1, iv p2, iv p3, .val (.long p4), ss, iv p5, iv ap, iv bp, iv ad, iv bd, iv 2, iv 2, iv c0_, iv c1_, iv sc, iv e0_, iv e1_, rv sa, rv sb, rv pa, rv pb, iv wh, iv ex]) rfl (rest := []) rfl rfl hby at_346
                          refine oWk.to (mkF m 351 #[iv p0, iv p1, iv p2, iv p3, .val (.long p4), ss, iv p5, iv ap, iv bp, iv ad, iv bd, iv 2, iv 2, iv c0_, iv c1_, iv sc, iv e0_, iv e1_, rv sa, rv sb, rv pa, rv pb, iv wh, iv ex] [(.int ex), (.int (oBi (bp = ap ∧ bd = ad ∧ (e0_.toInt8.toInt32) = (c0_.toInt8.toInt32) ∧ (e1_.toInt8.toInt32) = (c1_.toInt8.toInt32))))]) (fun _ kt => st _ (zJ X hx hby at_349 rfl rfl kt)) ?_
                          refine oWk.st (fun _ kt => zN X hx hby at_351 rfl rfl (teq ((oCmp (and_congr oSy (and_congr oSy (and_congr (oEqB r_e0_ r_c0_) (oEqB r_e1_ r_c1_))))).trans hex.symm)).2 (zB X hx hby at_354 rfl rfl rfl (zB X hx hby at_356 rfl rfl rfl kt))) ?_
                          obtain ⟨T, L180, X, e0, K, st⟩ := (cs24 hw).pure X hx hZ hown e0 K (A := [(.ref pb), (.ref pa)]) ⟨rfl, _, _, rfl, E_pb⟩ (rED_2_2 l Z a0 hw [] pb bp bd pa ap ad sa sab sak sb sbb sbk xz c0_ c1_ e0_ e1_ h Oh S_Z hz E_pb F_position_pb F_deleteCount_pb F_insertion_pb E_pa F_position_pa F_deleteCount_pa F_insertion_pa ne_sa_sb E_sa F_coder_sa F_value_sa V_sab E_sb F_coder_sb F_value_sb V_sbb) (W := 0) (by decide) hml (Ls := #[iv p0, iv p1, iv p2, iv p3, .val (.long p4), ss, iv p5, iv ap, iv bp, iv ad, iv bd, iv 2, iv 2, iv c0_, iv c1_, iv sc, iv e0_, iv e1_, rv sa, rv sb, rv pa, rv pb, iv wh, iv ex]) rfl (rest := []) rfl rfl hby at_358
                          refine oWk.to (mkF m 363 #[iv p0, iv p1, iv p2, iv p3, .val (.long p4), ss, iv p5, iv ap, iv bp, iv ad, iv bd, iv 2, iv 2, iv c0_, iv c1_, iv sc, iv e0_, iv e1_, rv sa, rv sb, rv pa, rv pb, iv wh, iv ex] [(.int ex), (.int (oBi (ap = bp ∧ ad = bd ∧ (c0_.toInt8.toInt32) = (e0_.toInt8.toInt32) ∧ (c1_.toInt8.toInt32) = (e1_.toInt8.toInt32))))]) (fun _ kt => st _ (zJ X hx hby at_361 rfl rfl kt)) ?_
                          refine oWk.to (mkF m 371 #[iv p0, iv p1, iv p2, iv p3, .val (.long p4), ss, iv p5, iv ap, iv bp, iv ad, iv bd, iv 2, iv 2, iv c0_, iv c1_, iv sc, iv e0_, iv e1_, rv sa, rv sb, rv pa, rv pb, iv wh, iv ex] [(.int 1)]) (fun _ kt => zN X hx hby at_363 rfl rfl (teq ((oCmp (and_congr Iff.rfl (and_congr Iff.rfl (and_congr (oEqC r_c0_ r_e0_) (oEqC r_c1_ r_e1_))))).trans hex.symm)).2 (zK X hx hby at_366 rfl (zG X hx hby at_367 rfl (pc' := 371) rfl kt))) ?_
                          exact oRetH X hx hlk hZ (oELw hw) e0 B hret (oNar01 (Or.inr rfl)) (Or.inl ⟨rfl, Or.inr (Or.inl rfl), _, rfl⟩) (hb hby at_371) (by rw [e0]; exact ⟨rfl, K.fr⟩) (by decide) (by decide)
                        by_cases hc292 : ap = bp
                        · refine oWk.to (mkF m 295 #[iv p0, iv p1, iv p2, iv p3, .val (.long p4), ss, iv p5, iv ap, iv bp, iv ad, iv bd, iv 2, iv 2, iv c0_, iv c1_, iv sc, iv e0_, iv e1_, rv sa, rv sb, rv pa, rv pb, iv wh, uu] []) (fun _ kt => zN X hx hby at_292 rfl rfl (teq hc292).2 kt) ?_
                          refine oWk.to (mkF m 299 #[iv p0, iv p1, iv p2, iv p3, .val (.long p4), ss, iv p5, iv ap, iv bp, iv ad, iv bd, iv 2, iv 2, iv c0_, iv c1_, iv sc, iv e0_, iv e1_, rv sa, rv sb, rv pa, rv pb, iv wh, uu] [(.int bd), (.int ad)]) (fun _ kt => zJ X hx hby at_295 rfl rfl (zJ X hx hby at_297 rfl rfl kt)) ?_
                          by_cases hc299 : ad = bd
                          · refine oWk.to (mkF m 302 #[iv p0, iv p1, iv p2, iv p3, .val (.long p4), ss, iv p5, iv ap, iv bp, iv ad, iv bd, iv 2, iv 2, iv c0_, iv c1_, iv sc, iv e0_, iv e1_, rv sa, rv sb, rv pa, rv pb, iv wh, uu] []) (fun _ kt => zN X hx hby at_299 rfl rfl (teq hc299).2 kt) ?_
                            refine oWk.to (mkF m 317 #[iv p0, iv p1, iv p2, iv p3, .val (.long p4), ss, iv p5, iv ap, iv bp, iv ad, iv bd, iv 2, iv 2, iv c0_, iv c1_, iv sc, iv e0_, iv e1_, rv sa, rv sb, rv pa, rv pb, iv wh, uu] [(.int c0_)]) (fun _ kt => zJ X hx hby at_302 rfl rfl (zJ X hx hby at_304 rfl rfl (zN X hx hby at_306 rfl rfl (teq (by decide)).2 (zJ X hx hby at_309 rfl rfl (zK X hx hby at_311 rfl (zN X hx hby at_312 rfl rfl (flt (by decide)).1 (zJ X hx hby at_315 rfl rfl kt))))))) ?_
                            refine oWk.to (mkF m 319 #[iv p0, iv p1, iv p2, iv p3, .val (.long p4), ss, iv p5, iv ap, iv bp, iv ad, iv bd, iv 2, iv 2, iv c0_, iv c1_, iv sc, iv e0_, iv e1_, rv sa, rv sb, rv pa, rv pb, iv wh, uu] [(.int e0_), (.int c0_)]) (fun _ kt => zJ X hx hby at_317 rfl rfl kt) ?_
                            by_cases hc319 : c0_ = e0_
                            · refine oWk.to (mkF m 322 #[iv p0, iv p1, iv p2, iv p3, .val (.long p4), ss, iv p5, iv ap, iv bp, iv ad, iv bd, iv 2, iv 2, iv c0_, iv c1_, iv sc, iv e0_, iv e1_, rv sa, rv sb, rv pa, rv pb, iv wh, uu] []) (fun _ kt => zN X hx hby at_319 rfl rfl (teq hc319).2 kt) ?_
                              refine oWk.to (mkF m 332 #[iv p0, iv p1, iv p2, iv p3, .val (.long p4), ss, iv p5, iv ap, iv bp, iv ad, iv bd, iv 2, iv 2, iv c0_, iv c1_, iv sc, iv e0_, iv e1_, rv sa, rv sb, rv pa, rv pb, iv wh, uu] [(.int e1_), (.int c1_)]) (fun _ kt => zJ X hx hby at_322 rfl rfl (zK X hx hby at_324 rfl (zN X hx hby at_325 rfl rfl (flt (by decide)).1 (zJ X hx hby at_328 rfl rfl (zJ X hx hby at_330 rfl rfl kt))))) ?_
                              by_cases hc332 : c1_ = e1_
                              · refine oWk.to (mkF m 335 #[iv p0, iv p1, iv p2, iv p3, .val (.long p4), ss, iv p5, iv ap, iv bp, iv ad, iv bd, iv 2, iv 2, iv c0_, iv c1_, iv sc, iv e0_, iv e1_, rv sa, rv sb, rv pa, rv pb, iv wh, uu] []) (fun _ kt => zN X hx hby at_332 rfl rfl (teq hc332).2 kt) ?_
                                refine oWk.to (mkF m 340 #[iv p0, iv p1, iv p2, iv p3, .val (.long p4), ss, iv p5, iv ap, iv bp, iv ad, iv bd, iv 2, iv 2, iv c0_, iv c1_, iv sc, iv e0_, iv e1_, rv sa, rv sb, rv pa, rv pb, iv wh, uu] [(.int 1)]) (fun _ kt => zK X hx hby at_335 rfl (zG X hx hby at_336 rfl (pc' := 340) rfl kt)) ?_
                                exact J340 _ (oBi_t ⟨hc292, hc299, hc319, hc332⟩).symm
                              · refine oWk.to (mkF m 339 #[iv p0, iv p1, iv p2, iv p3, .val (.long p4), ss, iv p5, iv ap, iv bp, iv ad, iv bd, iv 2, iv 2, iv c0_, iv c1_, iv sc, iv e0_, iv e1_, rv sa, rv sb, rv pa, rv pb, iv wh, uu] []) (fun _ kt => zY X hx hby at_332 rfl rfl (feq hc332).2 (pc' := 339) rfl kt) ?_
                                refine oWk.to (mkF m 340 #[iv p0, iv p1, iv p2, iv p3, .val (.long p4), ss, iv p5, iv ap, iv bp, iv ad, iv bd, iv 2, iv 2, iv c0_, iv c1_, iv sc, iv e0_, iv e1_, rv sa, rv sb, rv pa, rv pb, iv wh, uu] [(.int 0)]) (fun _ kt => zK X hx hby at_339 rfl kt) ?_
                                exact J340 _ (oBi_f (fun q => hc332 q.2.2.2)).symm
                            · refine oWk.to (mkF m 339 #[iv p0, iv p1, iv p2, iv p3, .val (.long p4), ss, iv p5, iv ap, iv bp, iv ad, iv bd, iv 2, iv 2, iv c0_, iv c1_, iv sc, iv e0_, iv e1_, rv sa, rv sb, rv pa, rv pb, iv wh, uu] []) (fun _ kt => zY X hx hby at_319 rfl rfl (feq hc319).2 (pc' := 339) rfl kt) ?_
                              refine oWk.to (mkF m 340 #[iv p0, iv p1, iv p2, iv p3, .val (.long p4), ss, iv p5, iv ap, iv bp, iv ad, iv bd, iv 2, iv 2, iv c0_, iv c1_, iv sc, iv e0_, iv e1_, rv sa, rv sb, rv pa, rv pb, iv wh, uu] [(.int 0)]) (fun _ kt => zK X hx hby at_339 rfl kt) ?_
                              exact J340 _ (oBi_f (fun q => hc319 q.2.2.1)).symm
                          · refine oWk.to (mkF m 339 #[iv p0, iv p1, iv p2, iv p3, .val (.long p4), ss, iv p5, iv ap, iv bp, iv ad, iv bd, iv 2, iv 2, iv c0_, iv c1_, iv sc, iv e0_, iv e1_, rv sa, rv sb, rv pa, rv pb, iv wh, uu] []) (fun _ kt => zY X hx hby at_299 rfl rfl (feq hc299).2 (pc' := 339) rfl kt) ?_
                            refine oWk.to (mkF m 340 #[iv p0, iv p1, iv p2, iv p3, .val (.long p4), ss, iv p5, iv ap, iv bp, iv ad, iv bd, iv 2, iv 2, iv c0_, iv c1_, iv sc, iv e0_, iv e1_, rv sa, rv sb, rv pa, rv pb, iv wh, uu] [(.int 0)]) (fun _ kt => zK X hx hby at_339 rfl kt) ?_
                            exact J340 _ (oBi_f (fun q => hc299 q.2.1)).symm
                        · refine oWk.to (mkF m 339 #[iv p0, iv p1, iv p2, iv p3, .val (.long p4), ss, iv p5, iv ap, iv bp, iv ad, iv bd, iv 2, iv 2, iv c0_, iv c1_, iv sc, iv e0_, iv e1_, rv sa, rv sb, rv pa, rv pb, iv wh, uu] []) (fun _ kt => zY X hx hby at_292 rfl rfl (feq hc292).2 (pc' := 339) rfl kt) ?_
                          refine oWk.to (mkF m 340 #[iv p0, iv p1, iv p2, iv p3, .val (.long p4), ss, iv p5, iv ap, iv bp, iv ad, iv bd, iv 2, iv 2, iv c0_, iv c1_, iv sc, iv e0_, iv e1_, rv sa, rv sb, rv pa, rv pb, iv wh, uu] [(.int 0)]) (fun _ kt => zK X hx hby at_339 rfl kt) ?_
                          exact J340 _ (oBi_f (fun q => hc292 q.1)).symm
            by_cases hc145 : sc = (0 : Int32)
            · refine oWk.to (mkF m 153 #[iv p0, iv p1, iv p2, iv p3, .val (.long p4), ss, iv p5, iv ap, iv bp, iv ad, iv bd, iv la, iv lb, iv c0_, iv c1_, iv sc, iv e0_, uu, uu, uu, uu, uu, uu, uu] []) (fun _ kt => zF X hx hby at_145 rfl rfl ((if0 _ _).trans (teq hc145).1) (pc' := 153) rfl kt) ?_
              refine oWk.st (fun _ kt => XS.lload X.here hx rfl (hb hby at_153) rfl (zL X hx hby at_155 rfl (XS.lushr X.here hx rfl (hb hby at_157) rfl kt))) ?_
              refine oWk.to (mkF m 164 #[iv p0, iv p1, iv p2, iv p3, .val (.long p4), ss, iv p5, iv ap, iv bp, iv ad, iv bd, iv la, iv lb, iv c0_, iv c1_, iv sc, iv e0_, uu, uu, uu, uu, uu, uu, uu] [(.int (((((p4.toUInt64 >>> ((24 : Int32) &&& 0x3f).toInt64.toUInt64).toInt64) &&& (255 : Int64)).toInt32).toUInt32.toUInt16.toUInt32.toInt32))]) (fun _ kt => X.ldc2J hx hown (mvT hZ (oW hw 1 rfl)) rfl (hb hby at_158) (XS.land X.here hx rfl (hb hby at_161) rfl (XS.l2i X.here hx rfl (hb hby at_162) rfl (XS.i2c X.here hx rfl (hb hby at_163) rfl kt)))) ?_
              rw [oChr (oML _)]
              show oWk _ _ _ _ T (mkF m 164 #[iv p0, iv p1, iv p2, iv p3, .val (.long p4), ss, iv p5, iv ap, iv bp, iv ad, iv bd, iv la, iv lb, iv c0_, iv c1_, iv sc, iv e0_, uu, uu, uu, uu, uu, uu, uu] [(.int ((((p4.toUInt64 >>> ((24 : Int32) &&& 0x3f).toInt64.toUInt64).toInt64) &&& (255 : Int64)).toInt32))])
              exact J164 _ (oML _)
            · refine oWk.to (mkF m 148 #[iv p0, iv p1, iv p2, iv p3, .val (.long p4), ss, iv p5, iv ap, iv bp, iv ad, iv bd, iv la, iv lb, iv c0_, iv c1_, iv sc, iv e0_, uu, uu, uu, uu, uu, uu, uu] []) (fun _ kt => zH X hx hby at_145 rfl rfl ((if0 _ _).trans (feq hc145).1) kt) ?_
              refine oWk.to (mkF m 164 #[iv p0, iv p1, iv p2, iv p3, .val (.long p4), ss, iv p5, iv ap, iv bp, iv ad, iv bd, iv la, iv lb, iv c0_, iv c1_, iv sc, iv e0_, uu, uu, uu, uu, uu, uu, uu] [(.int c1_)]) (fun _ kt => zJ X hx hby at_148 rfl rfl (zG X hx hby at_150 rfl (pc' := 164) rfl kt)) ?_
              exact J164 _ r_c1_
          by_cases hc122 : sc = (0 : Int32)
          · refine oWk.to (mkF m 130 #[iv p0, iv p1, iv p2, iv p3, .val (.long p4), ss, iv p5, iv ap, iv bp, iv ad, iv bd, iv la, iv lb, iv c0_, iv c1_, iv sc, uu, uu, uu, uu, uu, uu, uu, uu] []) (fun _ kt => zF X hx hby at_122 rfl rfl ((if0 _ _).trans (teq hc122).1) (pc' := 130) rfl kt) ?_
            refine oWk.st (fun _ kt => XS.lload X.here hx rfl (hb hby at_130) rfl (zL X hx hby at_132 rfl (XS.lushr X.here hx rfl (hb hby at_134) rfl kt))) ?_
            refine oWk.to (mkF m 141 #[iv p0, iv p1, iv p2, iv p3, .val (.long p4), ss, iv p5, iv ap, iv bp, iv ad, iv bd, iv la, iv lb, iv c0_, iv c1_, iv sc, uu, uu, uu, uu, uu, uu, uu, uu] [(.int (((((p4.toUInt64 >>> ((16 : Int32) &&& 0x3f).toInt64.toUInt64).toInt64) &&& (255 : Int64)).toInt32).toUInt32.toUInt16.toUInt32.toInt32))]) (fun _ kt => X.ldc2J hx hown (mvT hZ (oW hw 1 rfl)) rfl (hb hby at_135) (XS.land X.here hx rfl (hb hby at_138) rfl (XS.l2i X.here hx rfl (hb hby at_139) rfl (XS.i2c X.here hx rfl (hb hby at_140) rfl kt)))) ?_
            rw [oChr (oML _)]
            show oWk _ _ _ _ T (mkF m 141 #[iv p0, iv p1, iv p2, iv p3, .val (.long p4), ss, iv p5, iv ap, iv bp, iv ad, iv bd, iv la, iv lb, iv c0_, iv c1_, iv sc, uu, uu, uu, uu, uu, uu, uu, uu] [(.int ((((p4.toUInt64 >>> ((16 : Int32) &&& 0x3f).toInt64.toUInt64).toInt64) &&& (255 : Int64)).toInt32))])
            exact J141 _ (oML _)
          · refine oWk.to (mkF m 125 #[iv p0, iv p1, iv p2, iv p3, .val (.long p4), ss, iv p5, iv ap, iv bp, iv ad, iv bd, iv la, iv lb, iv c0_, iv c1_, iv sc, uu, uu, uu, uu, uu, uu, uu, uu] []) (fun _ kt => zH X hx hby at_122 rfl rfl ((if0 _ _).trans (feq hc122).1) kt) ?_
            refine oWk.to (mkF m 141 #[iv p0, iv p1, iv p2, iv p3, .val (.long p4), ss, iv p5, iv ap, iv bp, iv ad, iv bd, iv la, iv lb, iv c0_, iv c1_, iv sc, uu, uu, uu, uu, uu, uu, uu, uu] [(.int c0_)]) (fun _ kt => zJ X hx hby at_125 rfl rfl (zG X hx hby at_127 rfl (pc' := 141) rfl kt)) ?_
            exact J141 _ r_c0_
        by_cases hc110 : (p5 &&& (128 : Int32)) = (0 : Int32)
        · refine oWk.to (mkF m 117 #[iv p0, iv p1, iv p2, iv p3, .val (.long p4), ss, iv p5, iv ap, iv bp, iv ad, iv bd, iv la, iv lb, iv c0_, iv c1_, uu, uu, uu, uu, uu, uu, uu, uu, uu] []) (fun _ kt => zF X hx hby at_110 rfl rfl ((if0 _ _).trans (teq hc110).1) (pc' := 117) rfl kt) ?_
          refine oWk.to (mkF m 118 #[iv p0, iv p1, iv p2, iv p3, .val (.long p4), ss, iv p5, iv ap, iv bp, iv ad, iv bd, iv la, iv lb, iv c0_, iv c1_, uu, uu, uu, uu, uu, uu, uu, uu, uu] [(.int 0)]) (fun _ kt => zK X hx hby at_117 rfl kt) ?_
          exact J118 _ trivial
        · refine oWk.to (mkF m 113 #[iv p0, iv p1, iv p2, iv p3, .val (.long p4), ss, iv p5, iv ap, iv bp, iv ad, iv bd, iv la, iv lb, iv c0_, iv c1_, uu, uu, uu, uu, uu, uu, uu, uu, uu] []) (fun _ kt => zH X hx hby at_110 rfl rfl ((if0 _ _).trans (feq hc110).1) kt) ?_
          refine oWk.to (mkF m 118 #[iv p0, iv p1, iv p2, iv p3, .val (.long p4), ss, iv p5, iv ap, iv bp, iv ad, iv bd, iv la, iv lb, iv c0_, iv c1_, uu, uu, uu, uu, uu, uu, uu, uu, uu] [(.int 1)]) (fun _ kt => zK X hx hby at_113 rfl (zG X hx hby at_114 rfl (pc' := 118) rfl kt)) ?_
          exact J118 _ trivial
      by_cases hc63 : (p5 &&& (16 : Int32)) = (0 : Int32)
      · refine oWk.to (mkF m 71 #[iv p0, iv p1, iv p2, iv p3, .val (.long p4), ss, iv p5, iv ap, iv bp, iv ad, iv bd, iv la, uu, uu, uu, uu, uu, uu, uu, uu, uu, uu, uu, uu] []) (fun _ kt => zF X hx hby at_63 rfl rfl ((if0 _ _).trans (teq hc63).1) (pc' := 71) rfl kt) ?_
        refine oWk.to (mkF m 79 #[iv p0, iv p1, iv p2, iv p3, .val (.long p4), ss, iv p5, iv ap, iv bp, iv ad, iv bd, iv la, uu, uu, uu, uu, uu, uu, uu, uu, uu, uu, uu, uu] [(.int ((((p5.toUInt32 >>> ((5 : Int32) &&& 31).toUInt32).toInt32) &&& (3 : Int32)) % (3 : Int32)))]) (fun _ kt => zJ X hx hby at_71 rfl rfl (zK X hx hby at_73 rfl (XS.iushr X.here hx rfl (hb hby at_74) rfl (zK X hx hby at_75 rfl (XS.iand X.here hx rfl (hb hby at_76) rfl (zK X hx hby at_77 rfl (iremM X hx rfl (hb hby at_78) rfl (by decide) kt))))))) ?_
        exact J79 _ (oLn3 _)
      · refine oWk.to (mkF m 66 #[iv p0, iv p1, iv p2, iv p3, .val (.long p4), ss, iv p5, iv ap, iv bp, iv ad, iv bd, iv la, uu, uu, uu, uu, uu, uu, uu, uu, uu, uu, uu, uu] []) (fun _ kt => zH X hx hby at_63 rfl rfl ((if0 _ _).trans (feq hc63).1) kt) ?_
        refine oWk.to (mkF m 79 #[iv p0, iv p1, iv p2, iv p3, .val (.long p4), ss, iv p5, iv ap, iv bp, iv ad, iv bd, iv la, uu, uu, uu, uu, uu, uu, uu, uu, uu, uu, uu, uu] [(.int la)]) (fun _ kt => zJ X hx hby at_66 rfl rfl (zG X hx hby at_68 rfl (pc' := 79) rfl kt)) ?_
        exact J79 _ hla
    by_cases hc34 : (p5 &&& (2 : Int32)) = (0 : Int32)
    · refine oWk.to (mkF m 42 #[iv p0, iv p1, iv p2, iv p3, .val (.long p4), ss, iv p5, iv ap, iv bp, iv ad, uu, uu, uu, uu, uu, uu, uu, uu, uu, uu, uu, uu, uu, uu] []) (fun _ kt => zF X hx hby at_34 rfl rfl ((if0 _ _).trans (teq hc34).1) (pc' := 42) rfl kt) ?_
      refine oWk.st (fun _ kt => zI X hx hby at_42 rfl rfl kt) ?_
      refine oWk.to (mkF m 46 #[iv p0, iv p1, iv p2, iv p3, .val (.long p4), ss, iv p5, iv ap, iv bp, iv ad, uu, uu, uu, uu, uu, uu, uu, uu, uu, uu, uu, uu, uu, uu] [(.int (p3 &&& (2147483647 : Int32)))]) (fun _ kt => X.ldcI hx hown (mvT hZ (oW hw 0 rfl)) rfl (hb hby at_43) (XS.iand X.here hx rfl (hb hby at_45) rfl kt)) ?_
      exact J46 _ (oPos _)
    · refine oWk.to (mkF m 37 #[iv p0, iv p1, iv p2, iv p3, .val (.long p4), ss, iv p5, iv ap, iv bp, iv ad, uu, uu, uu, uu, uu, uu, uu, uu, uu, uu, uu, uu, uu, uu] []) (fun _ kt => zH X hx hby at_34 rfl rfl ((if0 _ _).trans (feq hc34).1) kt) ?_
      refine oWk.to (mkF m 46 #[iv p0, iv p1, iv p2, iv p3, .val (.long p4), ss, iv p5, iv ap, iv bp, iv ad, uu, uu, uu, uu, uu, uu, uu, uu, uu, uu, uu, uu, uu, uu] [(.int ad)]) (fun _ kt => zJ X hx hby at_37 rfl rfl (zG X hx hby at_39 rfl (pc' := 46) rfl kt)) ?_
      exact J46 _ had
  by_cases hc10 : (p5 &&& (1 : Int32)) = (0 : Int32)
  · refine oWk.to (mkF m 18 #[iv p0, iv p1, iv p2, iv p3, .val (.long p4), ss, iv p5, iv ap, uu, uu, uu, uu, uu, uu, uu, uu, uu, uu, uu, uu, uu, uu, uu, uu] []) (fun _ kt => zF X hx hby at_10 rfl rfl ((if0 _ _).trans (teq hc10).1) (pc' := 18) rfl kt) ?_
    refine oWk.st (fun _ kt => zI X hx hby at_18 rfl rfl kt) ?_
    refine oWk.to (mkF m 22 #[iv p0, iv p1, iv p2, iv p3, .val (.long p4), ss, iv p5, iv ap, uu, uu, uu, uu, uu, uu, uu, uu, uu, uu, uu, uu, uu, uu, uu, uu] [(.int (p2 &&& (2147483647 : Int32)))]) (fun _ kt => X.ldcI hx hown (mvT hZ (oW hw 0 rfl)) rfl (hb hby at_19) (XS.iand X.here hx rfl (hb hby at_21) rfl kt)) ?_
    exact J22 _ (oPos _)
  · refine oWk.to (mkF m 13 #[iv p0, iv p1, iv p2, iv p3, .val (.long p4), ss, iv p5, iv ap, uu, uu, uu, uu, uu, uu, uu, uu, uu, uu, uu, uu, uu, uu, uu, uu] []) (fun _ kt => zH X hx hby at_10 rfl rfl ((if0 _ _).trans (feq hc10).1) kt) ?_
    refine oWk.to (mkF m 22 #[iv p0, iv p1, iv p2, iv p3, .val (.long p4), ss, iv p5, iv ap, uu, uu, uu, uu, uu, uu, uu, uu, uu, uu, uu, uu, uu, uu, uu, uu] [(.int ap)]) (fun _ kt => zJ X hx hby at_13 rfl rfl (zG X hx hby at_15 rfl (pc' := 22) rfl kt)) ?_
    exact J22 _ hap
theorem comes_1 {Post : Tables → Env → Array Value → State → Outcome → State → Prop} (hpost : ∀ tb e args s v u, (limb_1_1.after args s (.returned v) u = true ∧ limb_1_2.after args s (.returned v) u = true ∧ True) → ReturnedEndW s (.returned v) u (Jvm.fieldLocs frame_1_writes args s ++ Jvm.arrayLocs frame_1_arrays args s ++ Jvm.staticLocs frame_1_statics s) 32 3200 → Post tb e args s (.returned v) u) :
    ArmFor flags0 classFile x code maxLocals ret World_1 tables_1 room_1 Calls_1 rest_1 Pre_1 Post := by
  intro l hfl _ _ p e ha hc hk s m args below hf hA hF happ hP
  obtain ⟨hcalls, hrest, hpre⟩ := hP
  obtain ⟨-, -, -, hnamed, -, -, -, hat⟩ := (Spec.applies_iff hf).mp happ
  obtain ⟨hg, hn⟩ := and_e (Cond.before_iff.mp (show (Jvm.Cond.and given_1 narrow_1).before args s = true from hpre))
  obtain ⟨n1, n2⟩ := and_e hg
  obtain ⟨n3, n4⟩ := and_e n2
  obtain ⟨n5, n6⟩ := and_e n4
  obtain ⟨n7, n8⟩ := and_e n6
  obtain ⟨n9, n10⟩ := and_e n8
  obtain ⟨n11, n12⟩ := and_e n10
  obtain ⟨w0, w1, w2, w3, w4, w5, rfl⟩ : ∃ w0 w1 w2 w3 w4 w5 : Value, args = #[w0, w1, w2, w3, w4, w5] := by
    have hs : args.size = 6 := by simpa [Cond.value, given_1] using n1
    obtain ⟨L⟩ := args
    match L, hs with
    | [w0, w1, w2, w3, w4, w5], _ => exact ⟨w0, w1, w2, w3, w4, w5, rfl⟩
  have hw := fun d (hd : d ∈ tables_1) => atoms_spec (ws := Jvm.Cond.code x code maxLocals ret :: tables_1) hat d (List.mem_cons_of_mem _ hd)
  have hfit : Fit s := fun {y c} hc i hi => by
    obtain ⟨ha, rfl⟩ := Array.getElem?_eq_some_iff.mp hc
    have q := List.all_eq_true.mp ((Array.all_eq_true_iff_forall_mem.mp hF) _ (Array.getElem_mem ha)) i (List.mem_range.mpr hi)
    simpa [Array.getElem?_eq_getElem hi] using q
  obtain ⟨hsets, hown0⟩ := atoms_of _ (rest_1_c_eq ▸ (show rest_1_c.before _ s = true from hrest))
  have hr0 := Cond.before_iff.mp hown0
  obtain ⟨i0, ei0⟩ := is_v n3
  obtain rfl : w0 = (.int i0) := Option.some.inj ei0
  obtain ⟨i1, ei1⟩ := is_v n5
  obtain rfl : w1 = (.int i1) := Option.some.inj ei1
  obtain ⟨i2, ei2⟩ := is_v n7
  obtain rfl : w2 = (.int i2) := Option.some.inj ei2
  obtain ⟨i3, ei3⟩ := is_v n9
  obtain rfl : w3 = (.int i3) := Option.some.inj ei3
  obtain ⟨i4, ei4⟩ := isL_v n11
  obtain rfl : w4 = (.long i4) := Option.some.inj ei4
  obtain ⟨i5, ei5⟩ := is_v n12
  obtain rfl : w5 = (.int i5) := Option.some.inj ei5
  -- hn: (Jvm.Cond.tt)
  obtain ⟨xz, vz⟩ := is_v (Cond.before_iff.mp (hsets _ (List.mem_of_getElem? (i := 1) rfl)))
  have S_Z := Sta.start vz (Or.inl (hsets _ (List.mem_of_getElem? (i := 0) rfl)))
  have hz : ¬ xz = (0 : Int32) := oNot0 vz (Cond.before_iff.mp (hsets _ (List.mem_of_getElem? (i := 2) rfl)))
  obtain ⟨xfm, vfm, hfm⟩ := isR_v (Cond.before_iff.mp (hsets _ (List.mem_of_getElem? (i := 8) rfl)))
  have S_F := Sta.start vfm (Or.inl (hsets _ (List.mem_of_getElem? (i := 7) rfl)))
  have hcat := oCat hfm
  obtain ⟨n, o, h1, h2, h3, _, L, rfl, ⟨rfl, N⟩, -, hq⟩ := rLaw l s _ hw tables_1 i0 i1 i2 i3 i4 i5 xfm xz s.heap (oExtRefl _) S_Z hz S_F hcat p e ha hc hk s m _ below hf ((Spec.applies_iff_loose hf).mp happ).1 ⟨rfl, State.Warmed39.refl s, rfl, (CHv.start (oELw hw) (fun q hq => by rcases List.mem_singleton.mp hq with rfl; exact hcalls.1 _ (List.mem_of_getElem? (i := 2) rfl)) (hsets _ (List.mem_of_getElem? (i := 2) rfl)) (oW hw 21 rfl) (oW hw 7 rfl)), (fun _ q => nomatch q)⟩ trivial
  refine ⟨n, _, h1, h2, h3, hpost _ _ _ _ _ _ ⟨Cond.after_iff.mpr rfl, Cond.after_iff.mpr (eq_i res_at (Term.int_eval (1)) rfl), trivial⟩ ⟨hq.1, hq.2.1, hq.2.2.1, (hq.2.2.2.sift fun y hy => Or.inr (N y hy)).mono (by decide) (by decide)⟩⟩
theorem main_1_1 : Claimed_1_1 := comes_1 fun _ _ _ _ _ _ h hF => ⟨h.1, hF⟩
theorem main_1_2 : Claimed_1_2 := comes_1 fun _ _ _ _ _ _ h hF => ⟨h.2.1, hF⟩
end Jvm.Pilot.@@N@@
namespace Jvm.Pilot.@@N@@
open Jvm Jvm.ClassFile Sem Op Lib Jvm.Free Jvm.Stand Jvm.Pilot.@@N@@.Jvm.D
/-! MADE BY PROGRAM (witnessworld.py) out of the Statement's table words and the real class files: 23 classes; the members and pool entries that the words name. The judged class is class 1, her method 2. -/
namespace start1
open Jvm.ClassFile
def u (s : String) : CpInfo := .utf8 (stringToUtf16 s)
/-- a pool by its gaps: so many unusable entries, then the entry; so many at the end -/
def gap : Nat → List CpInfo → List CpInfo
  | 0, r => r
  | n + 1, r => .unusable :: gap n r
def poolList (es : List (Nat × CpInfo)) (last : Nat) : List CpInfo := es.foldr (fun e r => gap e.1 (e.2 :: r)) (gap last [])
def pool (es : List (Nat × CpInfo)) (last : Nat) : Array CpInfo := ⟨poolList es last⟩
def fileOf (pool : Array CpInfo) (this : Nat) (attrs : Array Attribute := #[]) (ms : Array MethodInfo := #[]) (fl : Nat := 33) (sup : Nat := 0) (ifs : Array Nat := #[]) (fds : Array FieldInfo := #[]) : ClassFile where
  minorVersion := 0
  majorVersion := 65
  constantPool := pool
  accessFlags := fl
  thisClass := this
  superClass := sup
  interfaces := ifs
  fields := fds
  methods := ms
  attributes := attrs
def plain (name : String) (sup : Option ClassId) : Class where
  name := name
  kind := .ordinary
  loader := none
  accessFlags := 33
  super := sup
  interfaces := #[]
  cf := none
  fields := #[]
  methods := #[]
  instanceTypes := #[]
  staticTypes := #[]
  resolved := #[]
  callSites := []
  init := .initialized
  statics := none
  mirror := none

def pool0 : Array CpInfo := pool [(5, u "<init>"), (0, u "()V"), (1, .class_ 10), (1, u "java/lang/Object")] 113

def k0c0 : Code := { maxStack := 0, maxLocals := 1, code := object_method_1_code, exceptionTable := #[], attributes := #[] }
def k0m0 : Method := { name := "<init>", desc := "()V", sig := { parameters := [], returnType := none }, accessFlags := 1, code := some k0c0 }
/-- java/lang/Object -/
def k0 : Class := { plain "java/lang/Object" none with
  accessFlags := 33
  interfaces := #[]
  cf := some (fileOf pool0 8 #[] #[{ accessFlags := 1, nameIndex := 5, descriptorIndex := 6, attributes := #[] }] 33 0 #[] #[])
  fields := #[]
  methods := #[k0m0]
  instanceTypes := #[]
  staticTypes := #[]
  resolved := Array.replicate 124 none
  statics := none }

def pool1 : Array CpInfo := pool [(2, .class_ 4), (1, u "java/lang/Object"), (0, u "<init>"), (0, u "()V"), (0, .class_ 8), (0, u "java/lang/String"), (0, .methodref 7 10), (0, .nameAndType 5 11), (0, u "([C)V"), (0, .integer 2147483647), (0, .long 255), (1, .methodref 16 17), (0, .class_ 18), (0, .nameAndType 19 20), (0, u "com/example/wakati/wakati/PatchEqualsPinLaw"), (0, u "str"), (0, u "(ICC)Ljava/lang/String;"), (0, .class_ 22), (0, u "com/example/wakati/wakati/Patch"), (0, .methodref 21 24), (0, .nameAndType 5 25), (0, u "(IILjava/lang/String;)V"), (0, .methodref 21 27), (0, .nameAndType 28 29), (0, u "equals"), (0, u "(Ljava/lang/Object;)Z"), (3, u "law"), (0, u "(IIIIJI)Z")] 2

def k1m0 : Method := { name := "<init>", desc := "()V", sig := { parameters := [], returnType := none }, accessFlags := 2, code := none }
def k1c1 : Code := { maxStack := 6, maxLocals := 3, code := method_2_code, exceptionTable := #[], attributes := #[] }
def k1m1 : Method := { name := "str", desc := "(ICC)Ljava/lang/String;", sig := { parameters := [.int, .char, .char], returnType := some (.object "java/lang/String") }, accessFlags := 10, code := some k1c1 }
def k1c2 : Code := { maxStack := 5, maxLocals := 24, code := code, exceptionTable := #[], attributes := #[] }
def k1m2 : Method := { name := "law", desc := "(IIIIJI)Z", sig := { parameters := [.int, .int, .int, .int, .long, .int], returnType := some .boolean }, accessFlags := 9, code := some k1c2 }
/-- com/example/wakati/wakati/PatchEqualsPinLaw -/
def k1 : Class := { plain "com/example/wakati/wakati/PatchEqualsPinLaw" (some 0) with
  accessFlags := 49
  interfaces := #[]
  cf := some (fileOf pool1 16 #[] #[{ accessFlags := 2, nameIndex := 5, descriptorIndex := 6, attributes := #[] }, { accessFlags := 10, nameIndex := 19, descriptorIndex := 20, attributes := #[] }, { accessFlags := 9, nameIndex := 33, descriptorIndex := 34, attributes := #[] }] 49 2 #[] #[])
  fields := #[]
  methods := #[k1m0, k1m1, k1m2]
  instanceTypes := #[]
  staticTypes := #[]
  resolved := Array.replicate 37 none
  statics := none }

def pool2 : Array CpInfo := pool [(1, .class_ 2), (0, u "java/io/Serializable"), (0, .class_ 4), (0, u "java/lang/Object")] 2

/-- java/io/Serializable -/
def k2 : Class := { plain "java/io/Serializable" (some 0) with
  accessFlags := 1537
  interfaces := #[]
  cf := some (fileOf pool2 1 #[] #[] 1537 3 #[] #[])
  fields := #[]
  methods := #[]
  instanceTypes := #[]
  staticTypes := #[]
  resolved := Array.replicate 7 none
  statics := none }

def pool3 : Array CpInfo := pool [(1, .class_ 2), (0, u "java/lang/Comparable"), (0, .class_ 4), (0, u "java/lang/Object")] 7

/-- java/lang/Comparable -/
def k3 : Class := { plain "java/lang/Comparable" (some 0) with
  accessFlags := 1537
  interfaces := #[]
  cf := some (fileOf pool3 1 #[] #[] 1537 3 #[] #[])
  fields := #[]
  methods := #[]
  instanceTypes := #[]
  staticTypes := #[]
  resolved := Array.replicate 12 none
  statics := none }

def pool4 : Array CpInfo := pool [(2, .class_ 4), (1, u "java/lang/CharSequence"), (42, .class_ 48), (0, u "java/lang/CharSequence$1CodePointIterator"), (10, .class_ 60), (0, u "java/lang/CharSequence$1CharIterator"), (5, .class_ 67), (0, u "java/lang/Object")] 63

/-- java/lang/CharSequence -/
def k4 : Class := { plain "java/lang/CharSequence" (some 0) with
  accessFlags := 1537
  interfaces := #[]
  cf := some (fileOf pool4 2 #[.nestMembers #[47, 59]] #[] 1537 66 #[] #[])
  fields := #[]
  methods := #[]
  instanceTypes := #[]
  staticTypes := #[]
  resolved := Array.replicate 131 none
  statics := none }

def pool5 : Array CpInfo := pool [(1, .class_ 2), (0, u "java/lang/constant/Constable"), (0, .class_ 4), (0, u "java/lang/Object")] 6

/-- java/lang/constant/Constable -/
def k5 : Class := { plain "java/lang/constant/Constable" (some 0) with
  accessFlags := 1537
  interfaces := #[]
  cf := some (fileOf pool5 1 #[] #[] 1537 3 #[] #[])
  fields := #[]
  methods := #[]
  instanceTypes := #[]
  staticTypes := #[]
  resolved := Array.replicate 11 none
  statics := none }

def pool6 : Array CpInfo := pool [(1, .class_ 2), (0, u "java/lang/constant/ConstantDesc"), (0, .class_ 4), (0, u "java/lang/Object")] 32

/-- java/lang/constant/ConstantDesc -/
def k6 : Class := { plain "java/lang/constant/ConstantDesc" (some 0) with
  accessFlags := 1537
  interfaces := #[]
  cf := some (fileOf pool6 1 #[] #[] 1537 3 #[] #[])
  fields := #[]
  methods := #[]
  instanceTypes := #[]
  staticTypes := #[]
  resolved := Array.replicate 37 none
  statics := none }

def pool7 : Array CpInfo := pool [(1, .methodref 2 3), (0, .class_ 4), (0, .nameAndType 5 6), (0, u "java/lang/Object"), (0, u "<init>"), (0, u "()V"), (0, .string 8), (0, u ""), (0, .fieldref 10 11), (0, .class_ 12), (0, .nameAndType 13 14), (0, u "java/lang/String"), (0, u "value"), (0, u "[B"), (0, .fieldref 10 16), (0, .nameAndType 17 18), (0, u "coder"), (0, u "B"), (2, u "hash"), (0, u "I"), (2, u "hashIsZero"), (0, u "Z"), (0, .methodref 10 28), (0, .nameAndType 5 29), (0, u "([CIILjava/lang/Void;)V"), (7, u "(III)I"), (0, .fieldref 10 39), (0, .nameAndType 40 26), (0, u "COMPACT_STRINGS"), (1, .class_ 44), (1, u "java/lang/StringUTF16"), (0, u "compress"), (1, .methodref 42 48), (0, .nameAndType 49 50), (0, u "coderFromArrayLen"), (0, u "([BI)B"), (28, .class_ 81), (1, u "java/util/Objects"), (25, .class_ 109), (1, u "java/lang/StringLatin1"), (32, u "()Z"), (34, .methodref 42 178), (0, .nameAndType 45 179), (0, u "([CII)[B"), (154, u "()I"), (0, .methodref 10 336), (0, .nameAndType 17 337), (0, u "()B"), (25, u "([BI)C"), (27, u "(II)V"), (35, u "(I)C"), (64, .methodref 10 493), (0, .nameAndType 494 142), (0, u "isLatin1"), (0, .methodref 107 496), (0, .nameAndType 497 363), (0, u "charAt"), (3, u "checkIndex"), (3, .methodref 10 506), (0, .nameAndType 507 334), (0, u "length"), (3, .methodref 79 512), (0, .nameAndType 513 37), (0, u "checkFromToIndex"), (2, u "codePointCount"), (24, .methodref 107 542), (0, .nameAndType 543 544), (0, u "equals"), (0, u "([B[B)Z"), (28, u "(Ljava/lang/Object;)Z"), (1, .class_ 576), (0, u "java/lang/CharSequence"), (22, u "CASE_INSENSITIVE_ORDER"), (0, u "Ljava/util/Comparator;"), (35, u "(II)I"), (373, u "([C)V"), (42, .fieldref 1054 1055), (0, .class_ 1056), (0, .nameAndType 1057 1058), (0, u "jdk/internal/util/Preconditions"), (0, u "SIOOBE_FORMATTER"), (0, u "Ljava/util/function/BiFunction;"), (0, .methodref 1054 1060), (0, .nameAndType 501 1061), (0, u "(IILjava/util/function/BiFunction;)I"), (39, u "serialPersistentFields"), (0, u "[Ljava/io/ObjectStreamField;"), (0, .class_ 1104), (0, u "java/lang/String$CaseInsensitiveComparator"), (1, .class_ 1107), (0, u "java/io/Serializable"), (0, .class_ 1109), (0, u "java/lang/Comparable"), (0, .class_ 1111), (0, u "java/lang/constant/Constable"), (0, .class_ 1113), (0, u "java/lang/constant/ConstantDesc"), (2, u "serialVersionUID"), (0, u "J"), (3, u "REPL"), (0, u "C"), (2, u "LATIN1"), (1, u "UTF16")] 323

def k7m0 : Method := { name := "<init>", desc := "()V", sig := { parameters := [], returnType := none }, accessFlags := 1, code := none }
def k7c1 : Code := { maxStack := 5, maxLocals := 2, code := jdk_42_method_3_code, exceptionTable := #[], attributes := #[] }
def k7m1 : Method := { name := "<init>", desc := "([C)V", sig := { parameters := [(.array .char)], returnType := none }, accessFlags := 1, code := some k7c1 }
def k7c2 : Code := { maxStack := 2, maxLocals := 1, code := jdk_42_method_54_code, exceptionTable := #[], attributes := #[] }
def k7m2 : Method := { name := "length", desc := "()I", sig := { parameters := [], returnType := some .int }, accessFlags := 1, code := some k7c2 }
def k7c3 : Code := { maxStack := 2, maxLocals := 2, code := jdk_42_method_56_code, exceptionTable := #[], attributes := #[] }
def k7m3 : Method := { name := "charAt", desc := "(I)C", sig := { parameters := [.int], returnType := some .char }, accessFlags := 1, code := some k7c3 }
def k7c4 : Code := { maxStack := 3, maxLocals := 3, code := jdk_42_method_59_code, exceptionTable := #[], attributes := #[] }
def k7m4 : Method := { name := "codePointCount", desc := "(II)I", sig := { parameters := [.int, .int], returnType := some .int }, accessFlags := 1, code := some k7c4 }
def k7c5 : Code := { maxStack := 2, maxLocals := 3, code := jdk_42_method_66_code, exceptionTable := #[], attributes := #[] }
def k7m5 : Method := { name := "equals", desc := "(Ljava/lang/Object;)Z", sig := { parameters := [(.object "java/lang/Object")], returnType := some .boolean }, accessFlags := 1, code := some k7c5 }
def k7c6 : Code := { maxStack := 4, maxLocals := 6, code := jdk_42_method_149_code, exceptionTable := #[], attributes := #[] }
def k7m6 : Method := { name := "<init>", desc := "([CIILjava/lang/Void;)V", sig := { parameters := [(.array .char), .int, .int, (.object "java/lang/Void")], returnType := none }, accessFlags := 2, code := some k7c6 }
def k7c7 : Code := { maxStack := 1, maxLocals := 1, code := jdk_42_method_152_code, exceptionTable := #[], attributes := #[] }
def k7m7 : Method := { name := "coder", desc := "()B", sig := { parameters := [], returnType := some .byte }, accessFlags := 0, code := some k7c7 }
def k7c8 : Code := { maxStack := 1, maxLocals := 1, code := jdk_42_method_154_code, exceptionTable := #[], attributes := #[] }
def k7m8 : Method := { name := "isLatin1", desc := "()Z", sig := { parameters := [], returnType := some .boolean }, accessFlags := 0, code := some k7c8 }
def k7c9 : Code := { maxStack := 3, maxLocals := 2, code := jdk_42_method_155_code, exceptionTable := #[], attributes := #[] }
def k7m9 : Method := { name := "checkIndex", desc := "(II)V", sig := { parameters := [.int, .int], returnType := none }, accessFlags := 8, code := some k7c9 }
/-- java/lang/String -/
def k7 : Class := { plain "java/lang/String" (some 0) with
  accessFlags := 49
  interfaces := #[2, 3, 4, 5, 6]
  cf := some (fileOf pool7 10 #[.nestMembers #[1103]] #[{ accessFlags := 1, nameIndex := 5, descriptorIndex := 6, attributes := #[] }, { accessFlags := 1, nameIndex := 5, descriptorIndex := 1010, attributes := #[] }, { accessFlags := 1, nameIndex := 507, descriptorIndex := 334, attributes := #[] }, { accessFlags := 1, nameIndex := 497, descriptorIndex := 427, attributes := #[] }, { accessFlags := 1, nameIndex := 516, descriptorIndex := 636, attributes := #[] }, { accessFlags := 1, nameIndex := 543, descriptorIndex := 573, attributes := #[] }, { accessFlags := 2, nameIndex := 5, descriptorIndex := 29, attributes := #[] }, { accessFlags := 0, nameIndex := 17, descriptorIndex := 337, attributes := #[] }, { accessFlags := 0, nameIndex := 494, descriptorIndex := 142, attributes := #[] }, { accessFlags := 8, nameIndex := 501, descriptorIndex := 391, attributes := #[] }] 49 2 #[1106, 1108, 575, 1110, 1112] #[{ accessFlags := 18, nameIndex := 13, descriptorIndex := 14, attributes := #[] }, { accessFlags := 18, nameIndex := 17, descriptorIndex := 18, attributes := #[] }, { accessFlags := 2, nameIndex := 21, descriptorIndex := 22, attributes := #[] }, { accessFlags := 2, nameIndex := 25, descriptorIndex := 26, attributes := #[] }, { accessFlags := 26, nameIndex := 1116, descriptorIndex := 1117, attributes := #[] }, { accessFlags := 24, nameIndex := 40, descriptorIndex := 26, attributes := #[] }, { accessFlags := 26, nameIndex := 1101, descriptorIndex := 1102, attributes := #[] }, { accessFlags := 26, nameIndex := 1121, descriptorIndex := 1122, attributes := #[] }, { accessFlags := 25, nameIndex := 599, descriptorIndex := 600, attributes := #[] }, { accessFlags := 24, nameIndex := 1125, descriptorIndex := 18, attributes := #[] }, { accessFlags := 24, nameIndex := 1127, descriptorIndex := 18, attributes := #[] }])
  fields := #[{ name := "value", type := (.array .byte), accessFlags := 18, slot := 0, constantValue := 0 }, { name := "coder", type := .byte, accessFlags := 18, slot := 1, constantValue := 0 }, { name := "hash", type := .int, accessFlags := 2, slot := 2, constantValue := 0 }, { name := "hashIsZero", type := .boolean, accessFlags := 2, slot := 3, constantValue := 0 }, { name := "serialVersionUID", type := .long, accessFlags := 26, slot := 0, constantValue := 0 }, { name := "COMPACT_STRINGS", type := .boolean, accessFlags := 24, slot := 1, constantValue := 0 }, { name := "serialPersistentFields", type := (.array (.object "java/io/ObjectStreamField")), accessFlags := 26, slot := 2, constantValue := 0 }, { name := "REPL", type := .char, accessFlags := 26, slot := 3, constantValue := 0 }, { name := "CASE_INSENSITIVE_ORDER", type := (.object "java/util/Comparator"), accessFlags := 25, slot := 4, constantValue := 0 }, { name := "LATIN1", type := .byte, accessFlags := 24, slot := 5, constantValue := 0 }, { name := "UTF16", type := .byte, accessFlags := 24, slot := 6, constantValue := 0 }]
  methods := #[k7m0, k7m1, k7m2, k7m3, k7m4, k7m5, k7m6, k7m7, k7m8, k7m9]
  instanceTypes := #[(.array .byte), .byte, .int, .boolean]
  staticTypes := #[.long, .boolean, (.array (.object "java/io/ObjectStreamField")), .char, (.object "java/util/Comparator"), .byte, .byte]
  resolved := Array.replicate 1451 none
  statics := some 0 }

def pool8 : Array CpInfo := pool [(1, .methodref 2 3), (0, .class_ 4), (0, .nameAndType 5 6), (0, u "java/lang/Object"), (0, u "<init>"), (0, u "()V"), (0, .string 8), (0, u "insertion is null"), (0, .methodref 10 11), (0, .class_ 12), (0, .nameAndType 13 14), (0, u "java/util/Objects"), (0, u "requireNonNull"), (0, u "(Ljava/lang/Object;Ljava/lang/String;)Ljava/lang/Object;"), (10, .string 26), (0, u "insertion"), (0, .methodref 28 29), (0, .class_ 30), (0, .nameAndType 31 32), (0, u "com/example/wakati/wakati/Surrogates"), (0, u "checkPaired"), (0, u "(Ljava/lang/String;Ljava/lang/String;)V"), (0, .fieldref 34 35), (0, .class_ 36), (0, .nameAndType 37 38), (0, u "com/example/wakati/wakati/Patch"), (0, u "position"), (0, u "I"), (0, .fieldref 34 40), (0, .nameAndType 41 38), (0, u "deleteCount"), (0, .fieldref 34 43), (0, .nameAndType 26 44), (0, u "Ljava/lang/String;"), (0, .methodref 46 47), (0, .class_ 48), (0, .nameAndType 49 50), (0, u "java/lang/String"), (0, u "length"), (0, u "()I"), (0, .methodref 46 52), (0, .nameAndType 53 54), (0, u "codePointCount"), (0, u "(II)I"), (0, .fieldref 34 56), (0, .nameAndType 57 38), (0, u "insertionLength"), (0, .methodref 46 59), (0, .nameAndType 60 61), (0, u "equals"), (0, u "(Ljava/lang/Object;)Z"), (13, u "(IILjava/lang/String;)V")] 27

def k8c0 : Code := { maxStack := 4, maxLocals := 4, code := prog_10_method_1_code, exceptionTable := #[], attributes := #[] }
def k8m0 : Method := { name := "<init>", desc := "(IILjava/lang/String;)V", sig := { parameters := [.int, .int, (.object "java/lang/String")], returnType := none }, accessFlags := 1, code := some k8c0 }
def k8c1 : Code := { maxStack := 2, maxLocals := 3, code := prog_10_method_6_code, exceptionTable := #[], attributes := #[] }
def k8m1 : Method := { name := "equals", desc := "(Ljava/lang/Object;)Z", sig := { parameters := [(.object "java/lang/Object")], returnType := some .boolean }, accessFlags := 1, code := some k8c1 }
/-- com/example/wakati/wakati/Patch -/
def k8 : Class := { plain "com/example/wakati/wakati/Patch" (some 0) with
  accessFlags := 49
  interfaces := #[]
  cf := some (fileOf pool8 34 #[] #[{ accessFlags := 1, nameIndex := 5, descriptorIndex := 75, attributes := #[] }, { accessFlags := 1, nameIndex := 60, descriptorIndex := 61, attributes := #[] }] 49 2 #[] #[{ accessFlags := 18, nameIndex := 37, descriptorIndex := 38, attributes := #[] }, { accessFlags := 18, nameIndex := 41, descriptorIndex := 38, attributes := #[] }, { accessFlags := 18, nameIndex := 26, descriptorIndex := 44, attributes := #[] }, { accessFlags := 18, nameIndex := 57, descriptorIndex := 38, attributes := #[] }])
  fields := #[{ name := "position", type := .int, accessFlags := 18, slot := 0, constantValue := 0 }, { name := "deleteCount", type := .int, accessFlags := 18, slot := 1, constantValue := 0 }, { name := "insertion", type := (.object "java/lang/String"), accessFlags := 18, slot := 2, constantValue := 0 }, { name := "insertionLength", type := .int, accessFlags := 18, slot := 3, constantValue := 0 }]
  methods := #[k8m0, k8m1]
  instanceTypes := #[.int, .int, (.object "java/lang/String"), .int]
  staticTypes := #[]
  resolved := Array.replicate 103 none
  statics := none }

def pool9 : Array CpInfo := pool [(2, .class_ 4), (1, u "java/lang/Object"), (0, u "<init>"), (0, u "()V"), (35, .class_ 44), (1, u "java/util/Objects"), (0, u "requireNonNull"), (48, u "(Ljava/lang/Object;Ljava/lang/String;)Ljava/lang/Object;"), (11, .class_ 108), (1, u "jdk/internal/util/Preconditions"), (2, .methodref 106 112), (0, .nameAndType 113 114), (0, u "checkFromToIndex"), (0, u "(IIILjava/util/function/BiFunction;)I"), (60, u "(III)I")] 8

def k9m0 : Method := { name := "<init>", desc := "()V", sig := { parameters := [], returnType := none }, accessFlags := 2, code := none }
def k9c1 : Code := { maxStack := 3, maxLocals := 2, code := jdk_31_method_11_code, exceptionTable := #[], attributes := #[] }
def k9m1 : Method := { name := "requireNonNull", desc := "(Ljava/lang/Object;Ljava/lang/String;)Ljava/lang/Object;", sig := { parameters := [(.object "java/lang/Object"), (.object "java/lang/String")], returnType := some (.object "java/lang/Object") }, accessFlags := 9, code := some k9c1 }
def k9c2 : Code := { maxStack := 4, maxLocals := 3, code := jdk_31_method_18_code, exceptionTable := #[], attributes := #[] }
def k9m2 : Method := { name := "checkFromToIndex", desc := "(III)I", sig := { parameters := [.int, .int, .int], returnType := some .int }, accessFlags := 9, code := some k9c2 }
/-- java/util/Objects -/
def k9 : Class := { plain "java/util/Objects" (some 0) with
  accessFlags := 49
  interfaces := #[]
  cf := some (fileOf pool9 42 #[] #[{ accessFlags := 2, nameIndex := 5, descriptorIndex := 6, attributes := #[] }, { accessFlags := 9, nameIndex := 45, descriptorIndex := 94, attributes := #[] }, { accessFlags := 9, nameIndex := 113, descriptorIndex := 175, attributes := #[] }] 49 2 #[] #[])
  fields := #[]
  methods := #[k9m0, k9m1, k9m2]
  instanceTypes := #[]
  staticTypes := #[]
  resolved := Array.replicate 184 none
  statics := none }

def pool10 : Array CpInfo := pool [(2, .class_ 4), (1, u "java/lang/Object"), (0, u "<init>"), (0, u "()V"), (0, .methodref 8 9), (0, .class_ 10), (0, .nameAndType 11 12), (0, u "com/example/wakati/wakati/Surrogates"), (0, u "findLone"), (0, u "(Ljava/lang/String;)I"), (10, .methodref 24 25), (0, .class_ 26), (0, .nameAndType 27 28), (0, u "java/lang/String"), (0, u "charAt"), (0, u "(I)C"), (13, .methodref 24 43), (0, .nameAndType 44 45), (0, u "length"), (0, u "()I"), (0, .methodref 47 48), (0, .class_ 49), (0, .nameAndType 50 51), (0, u "java/lang/Character"), (0, u "isHighSurrogate"), (0, u "(C)Z"), (3, .methodref 47 56), (0, .nameAndType 57 51), (0, u "isSurrogate"), (2, u "checkPaired"), (0, u "(Ljava/lang/String;Ljava/lang/String;)V")] 3

def k10m0 : Method := { name := "<init>", desc := "()V", sig := { parameters := [], returnType := none }, accessFlags := 2, code := none }
def k10c1 : Code := { maxStack := 9, maxLocals := 3, code := prog_13_method_2_code, exceptionTable := #[], attributes := #[] }
def k10m1 : Method := { name := "checkPaired", desc := "(Ljava/lang/String;Ljava/lang/String;)V", sig := { parameters := [(.object "java/lang/String"), (.object "java/lang/String")], returnType := none }, accessFlags := 8, code := some k10c1 }
def k10c2 : Code := { maxStack := 3, maxLocals := 3, code := prog_13_method_3_code, exceptionTable := #[], attributes := #[] }
def k10m2 : Method := { name := "findLone", desc := "(Ljava/lang/String;)I", sig := { parameters := [(.object "java/lang/String")], returnType := some .int }, accessFlags := 10, code := some k10c2 }
/-- com/example/wakati/wakati/Surrogates -/
def k10 : Class := { plain "com/example/wakati/wakati/Surrogates" (some 0) with
  accessFlags := 48
  interfaces := #[]
  cf := some (fileOf pool10 8 #[] #[{ accessFlags := 2, nameIndex := 5, descriptorIndex := 6, attributes := #[] }, { accessFlags := 8, nameIndex := 60, descriptorIndex := 61, attributes := #[] }, { accessFlags := 10, nameIndex := 11, descriptorIndex := 12, attributes := #[] }] 48 2 #[] #[])
  fields := #[]
  methods := #[k10m0, k10m1, k10m2]
  instanceTypes := #[]
  staticTypes := #[]
  resolved := Array.replicate 65 none
  statics := none }

def pool11 : Array CpInfo := pool [(2, .class_ 4), (1, u "java/lang/Object"), (0, u "<init>"), (0, u "()V"), (17, .class_ 26), (1, u "jdk/internal/util/Preconditions"), (6, u "checkIndex"), (13, u "checkFromToIndex"), (7, .class_ 56), (0, u "jdk/internal/util/Preconditions$4"), (57, .class_ 115), (0, u "jdk/internal/util/Preconditions$1"), (7, u "SIOOBE_FORMATTER"), (0, u "Ljava/util/function/BiFunction;"), (0, .class_ 126), (0, u "jdk/internal/util/Preconditions$2"), (3, u "AIOOBE_FORMATTER"), (0, .class_ 132), (0, u "jdk/internal/util/Preconditions$3"), (3, u "IOOBE_FORMATTER"), (41, u "(IILjava/util/function/BiFunction;)I"), (4, u "(IIILjava/util/function/BiFunction;)I")] 10

def k11m0 : Method := { name := "<init>", desc := "()V", sig := { parameters := [], returnType := none }, accessFlags := 1, code := none }
def k11c1 : Code := { maxStack := 3, maxLocals := 3, code := jdk_41_method_11_code, exceptionTable := #[], attributes := #[] }
def k11m1 : Method := { name := "checkIndex", desc := "(IILjava/util/function/BiFunction;)I", sig := { parameters := [.int, .int, (.object "java/util/function/BiFunction")], returnType := some .int }, accessFlags := 9, code := some k11c1 }
def k11c2 : Code := { maxStack := 4, maxLocals := 4, code := jdk_41_method_12_code, exceptionTable := #[], attributes := #[] }
def k11m2 : Method := { name := "checkFromToIndex", desc := "(IIILjava/util/function/BiFunction;)I", sig := { parameters := [.int, .int, .int, (.object "java/util/function/BiFunction")], returnType := some .int }, accessFlags := 9, code := some k11c2 }
/-- jdk/internal/util/Preconditions -/
def k11 : Class := { plain "jdk/internal/util/Preconditions" (some 0) with
  accessFlags := 33
  interfaces := #[]
  cf := some (fileOf pool11 24 #[.nestMembers #[55, 131, 125, 114]] #[{ accessFlags := 1, nameIndex := 5, descriptorIndex := 6, attributes := #[] }, { accessFlags := 9, nameIndex := 33, descriptorIndex := 178, attributes := #[] }, { accessFlags := 9, nameIndex := 47, descriptorIndex := 183, attributes := #[] }] 33 2 #[] #[{ accessFlags := 25, nameIndex := 123, descriptorIndex := 124, attributes := #[] }, { accessFlags := 25, nameIndex := 130, descriptorIndex := 124, attributes := #[] }, { accessFlags := 25, nameIndex := 136, descriptorIndex := 124, attributes := #[] }])
  fields := #[{ name := "SIOOBE_FORMATTER", type := (.object "java/util/function/BiFunction"), accessFlags := 25, slot := 0, constantValue := 0 }, { name := "AIOOBE_FORMATTER", type := (.object "java/util/function/BiFunction"), accessFlags := 25, slot := 1, constantValue := 0 }, { name := "IOOBE_FORMATTER", type := (.object "java/util/function/BiFunction"), accessFlags := 25, slot := 2, constantValue := 0 }]
  methods := #[k11m0, k11m1, k11m2]
  instanceTypes := #[]
  staticTypes := #[(.object "java/util/function/BiFunction"), (.object "java/util/function/BiFunction"), (.object "java/util/function/BiFunction")]
  resolved := Array.replicate 194 none
  statics := some 1 }

def pool12 : Array CpInfo := pool [(6, .class_ 8), (1, u "java/lang/Object"), (0, u "<init>"), (0, u "()V"), (1, .class_ 14), (1, u "java/lang/StringUTF16"), (31, u "$assertionsDisabled"), (0, u "Z"), (13, u "HI_BYTE_SHIFT"), (0, u "I"), (2, u "LO_BYTE_SHIFT"), (49, .methodref 12 116), (0, .nameAndType 117 118), (0, u "compress"), (0, u "([CI[BII)I"), (3, u "([CII)[B"), (138, u "coderFromArrayLen"), (0, u "([BI)B"), (106, .class_ 371), (1, u "java/lang/StringUTF16$LinesSpliterator"), (58, u "MAX_LENGTH"), (196, .class_ 628), (0, u "java/lang/StringUTF16$CodePointsSpliterator"), (0, .class_ 630), (0, u "java/lang/StringUTF16$CharsSpliterator")] 4

def k12m0 : Method := { name := "<init>", desc := "()V", sig := { parameters := [], returnType := none }, accessFlags := 0, code := none }
def k12c1 : Code := { maxStack := 2, maxLocals := 2, code := jdk_52_method_15_code, exceptionTable := #[], attributes := #[] }
def k12m1 : Method := { name := "coderFromArrayLen", desc := "([BI)B", sig := { parameters := [(.array .byte), .int], returnType := some .byte }, accessFlags := 8, code := some k12c1 }
def k12c2 : Code := { maxStack := 5, maxLocals := 6, code := jdk_52_method_16_code, exceptionTable := #[], attributes := #[] }
def k12m2 : Method := { name := "compress", desc := "([CII)[B", sig := { parameters := [(.array .char), .int, .int], returnType := some (.array .byte) }, accessFlags := 9, code := some k12c2 }
def k12c3 : Code := { maxStack := 3, maxLocals := 7, code := jdk_52_method_21_code, exceptionTable := #[], attributes := #[] }
def k12m3 : Method := { name := "compress", desc := "([CI[BII)I", sig := { parameters := [(.array .char), .int, (.array .byte), .int, .int], returnType := some .int }, accessFlags := 9, code := some k12c3 }
/-- java/lang/StringUTF16 -/
def k12 : Class := { plain "java/lang/StringUTF16" (some 0) with
  accessFlags := 48
  interfaces := #[]
  cf := some (fileOf pool12 12 #[.nestMembers #[627, 629, 369]] #[{ accessFlags := 0, nameIndex := 9, descriptorIndex := 10, attributes := #[] }, { accessFlags := 8, nameIndex := 261, descriptorIndex := 262, attributes := #[] }, { accessFlags := 9, nameIndex := 117, descriptorIndex := 122, attributes := #[] }, { accessFlags := 9, nameIndex := 117, descriptorIndex := 118, attributes := #[] }] 48 6 #[] #[{ accessFlags := 26, nameIndex := 61, descriptorIndex := 62, attributes := #[] }, { accessFlags := 26, nameIndex := 65, descriptorIndex := 62, attributes := #[] }, { accessFlags := 24, nameIndex := 430, descriptorIndex := 62, attributes := #[] }, { accessFlags := 4120, nameIndex := 46, descriptorIndex := 47, attributes := #[] }])
  fields := #[{ name := "HI_BYTE_SHIFT", type := .int, accessFlags := 26, slot := 0, constantValue := 0 }, { name := "LO_BYTE_SHIFT", type := .int, accessFlags := 26, slot := 1, constantValue := 0 }, { name := "MAX_LENGTH", type := .int, accessFlags := 24, slot := 2, constantValue := 0 }, { name := "$assertionsDisabled", type := .boolean, accessFlags := 4120, slot := 3, constantValue := 0 }]
  methods := #[k12m0, k12m1, k12m2, k12m3]
  instanceTypes := #[]
  staticTypes := #[.int, .int, .int, .boolean]
  resolved := Array.replicate 635 none
  statics := none }

def pool13 : Array CpInfo := pool [(1, .class_ 2), (0, u "java/lang/String"), (1, .class_ 6), (1, u "java/lang/Object"), (0, u "<init>"), (0, u "()V"), (0, .methodref 1 10), (0, .nameAndType 11 12), (0, u "checkIndex"), (0, u "(II)V"), (1, .class_ 16), (1, u "java/lang/StringLatin1"), (36, u "([BI)C"), (67, u "$assertionsDisabled"), (0, u "Z"), (98, .class_ 223), (1, u "java/lang/StringLatin1$LinesSpliterator"), (28, u "charAt"), (28, u "equals"), (0, u "([B[B)Z"), (107, .class_ 391), (0, u "java/lang/StringLatin1$CharsSpliterator")] 3

def k13m0 : Method := { name := "<init>", desc := "()V", sig := { parameters := [], returnType := none }, accessFlags := 0, code := none }
def k13c1 : Code := { maxStack := 2, maxLocals := 2, code := jdk_43_method_2_code, exceptionTable := #[], attributes := #[] }
def k13m1 : Method := { name := "charAt", desc := "([BI)C", sig := { parameters := [(.array .byte), .int], returnType := some .char }, accessFlags := 9, code := some k13c1 }
def k13c2 : Code := { maxStack := 3, maxLocals := 3, code := jdk_43_method_13_code, exceptionTable := #[], attributes := #[] }
def k13m2 : Method := { name := "equals", desc := "([B[B)Z", sig := { parameters := [(.array .byte), (.array .byte)], returnType := some .boolean }, accessFlags := 9, code := some k13c2 }
/-- java/lang/StringLatin1 -/
def k13 : Class := { plain "java/lang/StringLatin1" (some 0) with
  accessFlags := 48
  interfaces := #[]
  cf := some (fileOf pool13 14 #[.nestMembers #[390, 221]] #[{ accessFlags := 0, nameIndex := 7, descriptorIndex := 8, attributes := #[] }, { accessFlags := 9, nameIndex := 252, descriptorIndex := 53, attributes := #[] }, { accessFlags := 9, nameIndex := 281, descriptorIndex := 282, attributes := #[] }] 48 4 #[] #[{ accessFlags := 4120, nameIndex := 121, descriptorIndex := 122, attributes := #[] }])
  fields := #[{ name := "$assertionsDisabled", type := .boolean, accessFlags := 4120, slot := 0, constantValue := 0 }]
  methods := #[k13m0, k13m1, k13m2]
  instanceTypes := #[]
  staticTypes := #[.boolean]
  resolved := Array.replicate 395 none
  statics := none }

def pool14 : Array CpInfo := pool [(1, .class_ 2), (0, u "java/lang/Character"), (18, u "value"), (0, u "C"), (19, .class_ 44), (1, u "java/lang/Object"), (3, .class_ 50), (1, u "java/lang/Character$CharacterCache"), (24, .integer 55296), (4, u "isHighSurrogate"), (0, u "(C)Z"), (202, u "$assertionsDisabled"), (0, u "Z"), (21, .class_ 309), (1, u "java/lang/Character$UnicodeBlock"), (73, u "TYPE"), (0, u "Ljava/lang/Class;"), (0, .class_ 386), (0, u "java/io/Serializable"), (0, .class_ 388), (0, u "java/lang/Comparable"), (0, .class_ 390), (0, u "java/lang/constant/Constable"), (0, u "MIN_RADIX"), (0, u "I"), (2, u "MAX_RADIX"), (1, u "MIN_VALUE"), (1, u "MAX_VALUE"), (3, u "UNASSIGNED"), (0, u "B"), (0, u "UPPERCASE_LETTER"), (1, u "LOWERCASE_LETTER"), (0, u "TITLECASE_LETTER"), (1, u "MODIFIER_LETTER"), (1, u "OTHER_LETTER"), (1, u "NON_SPACING_MARK"), (1, u "ENCLOSING_MARK"), (1, u "COMBINING_SPACING_MARK"), (1, u "DECIMAL_DIGIT_NUMBER"), (1, u "LETTER_NUMBER"), (1, u "OTHER_NUMBER"), (1, u "SPACE_SEPARATOR"), (1, u "LINE_SEPARATOR"), (1, u "PARAGRAPH_SEPARATOR"), (1, u "CONTROL"), (1, u "FORMAT"), (1, u "PRIVATE_USE"), (1, u "SURROGATE"), (1, u "DASH_PUNCTUATION"), (1, u "START_PUNCTUATION"), (1, u "END_PUNCTUATION"), (1, u "CONNECTOR_PUNCTUATION"), (1, u "OTHER_PUNCTUATION"), (1, u "MATH_SYMBOL"), (1, u "CURRENCY_SYMBOL"), (1, u "MODIFIER_SYMBOL"), (1, u "OTHER_SYMBOL"), (1, u "INITIAL_QUOTE_PUNCTUATION"), (1, u "FINAL_QUOTE_PUNCTUATION"), (1, u "ERROR"), (1, u "DIRECTIONALITY_UNDEFINED"), (0, u "DIRECTIONALITY_LEFT_TO_RIGHT"), (0, u "DIRECTIONALITY_RIGHT_TO_LEFT"), (0, u "DIRECTIONALITY_RIGHT_TO_LEFT_ARABIC"), (0, u "DIRECTIONALITY_EUROPEAN_NUMBER"), (0, u "DIRECTIONALITY_EUROPEAN_NUMBER_SEPARATOR"), (0, u "DIRECTIONALITY_EUROPEAN_NUMBER_TERMINATOR"), (0, u "DIRECTIONALITY_ARABIC_NUMBER"), (0, u "DIRECTIONALITY_COMMON_NUMBER_SEPARATOR"), (0, u "DIRECTIONALITY_NONSPACING_MARK"), (0, u "DIRECTIONALITY_BOUNDARY_NEUTRAL"), (0, u "DIRECTIONALITY_PARAGRAPH_SEPARATOR"), (0, u "DIRECTIONALITY_SEGMENT_SEPARATOR"), (0, u "DIRECTIONALITY_WHITESPACE"), (0, u "DIRECTIONALITY_OTHER_NEUTRALS"), (0, u "DIRECTIONALITY_LEFT_TO_RIGHT_EMBEDDING"), (0, u "DIRECTIONALITY_LEFT_TO_RIGHT_OVERRIDE"), (0, u "DIRECTIONALITY_RIGHT_TO_LEFT_EMBEDDING"), (0, u "DIRECTIONALITY_RIGHT_TO_LEFT_OVERRIDE"), (1, u "DIRECTIONALITY_POP_DIRECTIONAL_FORMAT"), (0, u "DIRECTIONALITY_LEFT_TO_RIGHT_ISOLATE"), (0, u "DIRECTIONALITY_RIGHT_TO_LEFT_ISOLATE"), (0, u "DIRECTIONALITY_FIRST_STRONG_ISOLATE"), (0, u "DIRECTIONALITY_POP_DIRECTIONAL_ISOLATE"), (0, u "MIN_HIGH_SURROGATE"), (0, u "MAX_HIGH_SURROGATE"), (1, u "MIN_LOW_SURROGATE"), (0, u "MAX_LOW_SURROGATE"), (1, u "MIN_SURROGATE"), (0, u "MAX_SURROGATE"), (0, u "MIN_SUPPLEMENTARY_CODE_POINT"), (0, u "MIN_CODE_POINT"), (0, u "MAX_CODE_POINT"), (1, u "serialVersionUID"), (0, u "J"), (2, u "SIZE"), (0, u "BYTES"), (24, u "isSurrogate"), (63, .class_ 596), (0, u "java/lang/Character$UnicodeScript"), (0, .class_ 598), (0, u "java/lang/Character$Subset")] 5

def k14c0 : Code := { maxStack := 2, maxLocals := 1, code := jdk_89_method_14_code, exceptionTable := #[], attributes := #[] }
def k14m0 : Method := { name := "isHighSurrogate", desc := "(C)Z", sig := { parameters := [.char], returnType := some .boolean }, accessFlags := 9, code := some k14c0 }
def k14c1 : Code := { maxStack := 2, maxLocals := 1, code := jdk_89_method_16_code, exceptionTable := #[], attributes := #[] }
def k14m1 : Method := { name := "isSurrogate", desc := "(C)Z", sig := { parameters := [.char], returnType := some .boolean }, accessFlags := 9, code := some k14c1 }
/-- java/lang/Character -/
def k14 : Class := { plain "java/lang/Character" (some 0) with
  accessFlags := 49
  interfaces := #[2, 3, 5]
  cf := some (fileOf pool14 1 #[.nestMembers #[48, 595, 307, 597]] #[{ accessFlags := 9, nameIndex := 80, descriptorIndex := 81, attributes := #[] }, { accessFlags := 9, nameIndex := 531, descriptorIndex := 81, attributes := #[] }] 49 42 #[385, 387, 389] #[{ accessFlags := 25, nameIndex := 391, descriptorIndex := 392, attributes := #[] }, { accessFlags := 25, nameIndex := 395, descriptorIndex := 392, attributes := #[] }, { accessFlags := 25, nameIndex := 397, descriptorIndex := 22, attributes := #[] }, { accessFlags := 25, nameIndex := 399, descriptorIndex := 22, attributes := #[] }, { accessFlags := 25, nameIndex := 383, descriptorIndex := 384, attributes := #[] }, { accessFlags := 25, nameIndex := 403, descriptorIndex := 404, attributes := #[] }, { accessFlags := 25, nameIndex := 405, descriptorIndex := 404, attributes := #[] }, { accessFlags := 25, nameIndex := 407, descriptorIndex := 404, attributes := #[] }, { accessFlags := 25, nameIndex := 408, descriptorIndex := 404, attributes := #[] }, { accessFlags := 25, nameIndex := 410, descriptorIndex := 404, attributes := #[] }, { accessFlags := 25, nameIndex := 412, descriptorIndex := 404, attributes := #[] }, { accessFlags := 25, nameIndex := 414, descriptorIndex := 404, attributes := #[] }, { accessFlags := 25, nameIndex := 416, descriptorIndex := 404, attributes := #[] }, { accessFlags := 25, nameIndex := 418, descriptorIndex := 404, attributes := #[] }, { accessFlags := 25, nameIndex := 420, descriptorIndex := 404, attributes := #[] }, { accessFlags := 25, nameIndex := 422, descriptorIndex := 404, attributes := #[] }, { accessFlags := 25, nameIndex := 424, descriptorIndex := 404, attributes := #[] }, { accessFlags := 25, nameIndex := 426, descriptorIndex := 404, attributes := #[] }, { accessFlags := 25, nameIndex := 428, descriptorIndex := 404, attributes := #[] }, { accessFlags := 25, nameIndex := 430, descriptorIndex := 404, attributes := #[] }, { accessFlags := 25, nameIndex := 432, descriptorIndex := 404, attributes := #[] }, { accessFlags := 25, nameIndex := 434, descriptorIndex := 404, attributes := #[] }, { accessFlags := 25, nameIndex := 436, descriptorIndex := 404, attributes := #[] }, { accessFlags := 25, nameIndex := 438, descriptorIndex := 404, attributes := #[] }, { accessFlags := 25, nameIndex := 440, descriptorIndex := 404, attributes := #[] }, { accessFlags := 25, nameIndex := 442, descriptorIndex := 404, attributes := #[] }, { accessFlags := 25, nameIndex := 444, descriptorIndex := 404, attributes := #[] }, { accessFlags := 25, nameIndex := 446, descriptorIndex := 404, attributes := #[] }, { accessFlags := 25, nameIndex := 448, descriptorIndex := 404, attributes := #[] }, { accessFlags := 25, nameIndex := 450, descriptorIndex := 404, attributes := #[] }, { accessFlags := 25, nameIndex := 452, descriptorIndex := 404, attributes := #[] }, { accessFlags := 25, nameIndex := 454, descriptorIndex := 404, attributes := #[] }, { accessFlags := 25, nameIndex := 456, descriptorIndex := 404, attributes := #[] }, { accessFlags := 25, nameIndex := 458, descriptorIndex := 404, attributes := #[] }, { accessFlags := 25, nameIndex := 460, descriptorIndex := 404, attributes := #[] }, { accessFlags := 24, nameIndex := 462, descriptorIndex := 392, attributes := #[] }, { accessFlags := 25, nameIndex := 464, descriptorIndex := 404, attributes := #[] }, { accessFlags := 25, nameIndex := 465, descriptorIndex := 404, attributes := #[] }, { accessFlags := 25, nameIndex := 466, descriptorIndex := 404, attributes := #[] }, { accessFlags := 25, nameIndex := 467, descriptorIndex := 404, attributes := #[] }, { accessFlags := 25, nameIndex := 468, descriptorIndex := 404, attributes := #[] }, { accessFlags := 25, nameIndex := 469, descriptorIndex := 404, attributes := #[] }, { accessFlags := 25, nameIndex := 470, descriptorIndex := 404, attributes := #[] }, { accessFlags := 25, nameIndex := 471, descriptorIndex := 404, attributes := #[] }, { accessFlags := 25, nameIndex := 472, descriptorIndex := 404, attributes := #[] }, { accessFlags := 25, nameIndex := 473, descriptorIndex := 404, attributes := #[] }, { accessFlags := 25, nameIndex := 474, descriptorIndex := 404, attributes := #[] }, { accessFlags := 25, nameIndex := 475, descriptorIndex := 404, attributes := #[] }, { accessFlags := 25, nameIndex := 476, descriptorIndex := 404, attributes := #[] }, { accessFlags := 25, nameIndex := 477, descriptorIndex := 404, attributes := #[] }, { accessFlags := 25, nameIndex := 478, descriptorIndex := 404, attributes := #[] }, { accessFlags := 25, nameIndex := 479, descriptorIndex := 404, attributes := #[] }, { accessFlags := 25, nameIndex := 480, descriptorIndex := 404, attributes := #[] }, { accessFlags := 25, nameIndex := 481, descriptorIndex := 404, attributes := #[] }, { accessFlags := 25, nameIndex := 482, descriptorIndex := 404, attributes := #[] }, { accessFlags := 25, nameIndex := 484, descriptorIndex := 404, attributes := #[] }, { accessFlags := 25, nameIndex := 485, descriptorIndex := 404, attributes := #[] }, { accessFlags := 25, nameIndex := 486, descriptorIndex := 404, attributes := #[] }, { accessFlags := 25, nameIndex := 487, descriptorIndex := 404, attributes := #[] }, { accessFlags := 25, nameIndex := 488, descriptorIndex := 404, attributes := #[] }, { accessFlags := 25, nameIndex := 489, descriptorIndex := 22, attributes := #[] }, { accessFlags := 25, nameIndex := 490, descriptorIndex := 22, attributes := #[] }, { accessFlags := 25, nameIndex := 492, descriptorIndex := 22, attributes := #[] }, { accessFlags := 25, nameIndex := 493, descriptorIndex := 22, attributes := #[] }, { accessFlags := 25, nameIndex := 495, descriptorIndex := 22, attributes := #[] }, { accessFlags := 25, nameIndex := 496, descriptorIndex := 22, attributes := #[] }, { accessFlags := 25, nameIndex := 497, descriptorIndex := 392, attributes := #[] }, { accessFlags := 25, nameIndex := 498, descriptorIndex := 392, attributes := #[] }, { accessFlags := 25, nameIndex := 499, descriptorIndex := 392, attributes := #[] }, { accessFlags := 18, nameIndex := 21, descriptorIndex := 22, attributes := #[] }, { accessFlags := 26, nameIndex := 501, descriptorIndex := 502, attributes := #[] }, { accessFlags := 25, nameIndex := 505, descriptorIndex := 392, attributes := #[] }, { accessFlags := 25, nameIndex := 506, descriptorIndex := 392, attributes := #[] }, { accessFlags := 4120, nameIndex := 284, descriptorIndex := 285, attributes := #[] }])
  fields := #[{ name := "MIN_RADIX", type := .int, accessFlags := 25, slot := 0, constantValue := 0 }, { name := "MAX_RADIX", type := .int, accessFlags := 25, slot := 1, constantValue := 0 }, { name := "MIN_VALUE", type := .char, accessFlags := 25, slot := 2, constantValue := 0 }, { name := "MAX_VALUE", type := .char, accessFlags := 25, slot := 3, constantValue := 0 }, { name := "TYPE", type := (.object "java/lang/Class"), accessFlags := 25, slot := 4, constantValue := 0 }, { name := "UNASSIGNED", type := .byte, accessFlags := 25, slot := 5, constantValue := 0 }, { name := "UPPERCASE_LETTER", type := .byte, accessFlags := 25, slot := 6, constantValue := 0 }, { name := "LOWERCASE_LETTER", type := .byte, accessFlags := 25, slot := 7, constantValue := 0 }, { name := "TITLECASE_LETTER", type := .byte, accessFlags := 25, slot := 8, constantValue := 0 }, { name := "MODIFIER_LETTER", type := .byte, accessFlags := 25, slot := 9, constantValue := 0 }, { name := "OTHER_LETTER", type := .byte, accessFlags := 25, slot := 10, constantValue := 0 }, { name := "NON_SPACING_MARK", type := .byte, accessFlags := 25, slot := 11, constantValue := 0 }, { name := "ENCLOSING_MARK", type := .byte, accessFlags := 25, slot := 12, constantValue := 0 }, { name := "COMBINING_SPACING_MARK", type := .byte, accessFlags := 25, slot := 13, constantValue := 0 }, { name := "DECIMAL_DIGIT_NUMBER", type := .byte, accessFlags := 25, slot := 14, constantValue := 0 }, { name := "LETTER_NUMBER", type := .byte, accessFlags := 25, slot := 15, constantValue := 0 }, { name := "OTHER_NUMBER", type := .byte, accessFlags := 25, slot := 16, constantValue := 0 }, { name := "SPACE_SEPARATOR", type := .byte, accessFlags := 25, slot := 17, constantValue := 0 }, { name := "LINE_SEPARATOR", type := .byte, accessFlags := 25, slot := 18, constantValue := 0 }, { name := "PARAGRAPH_SEPARATOR", type := .byte, accessFlags := 25, slot := 19, constantValue := 0 }, { name := "CONTROL", type := .byte, accessFlags := 25, slot := 20, constantValue := 0 }, { name := "FORMAT", type := .byte, accessFlags := 25, slot := 21, constantValue := 0 }, { name := "PRIVATE_USE", type := .byte, accessFlags := 25, slot := 22, constantValue := 0 }, { name := "SURROGATE", type := .byte, accessFlags := 25, slot := 23, constantValue := 0 }, { name := "DASH_PUNCTUATION", type := .byte, accessFlags := 25, slot := 24, constantValue := 0 }, { name := "START_PUNCTUATION", type := .byte, accessFlags := 25, slot := 25, constantValue := 0 }, { name := "END_PUNCTUATION", type := .byte, accessFlags := 25, slot := 26, constantValue := 0 }, { name := "CONNECTOR_PUNCTUATION", type := .byte, accessFlags := 25, slot := 27, constantValue := 0 }, { name := "OTHER_PUNCTUATION", type := .byte, accessFlags := 25, slot := 28, constantValue := 0 }, { name := "MATH_SYMBOL", type := .byte, accessFlags := 25, slot := 29, constantValue := 0 }, { name := "CURRENCY_SYMBOL", type := .byte, accessFlags := 25, slot := 30, constantValue := 0 }, { name := "MODIFIER_SYMBOL", type := .byte, accessFlags := 25, slot := 31, constantValue := 0 }, { name := "OTHER_SYMBOL", type := .byte, accessFlags := 25, slot := 32, constantValue := 0 }, { name := "INITIAL_QUOTE_PUNCTUATION", type := .byte, accessFlags := 25, slot := 33, constantValue := 0 }, { name := "FINAL_QUOTE_PUNCTUATION", type := .byte, accessFlags := 25, slot := 34, constantValue := 0 }, { name := "ERROR", type := .int, accessFlags := 24, slot := 35, constantValue := 0 }, { name := "DIRECTIONALITY_UNDEFINED", type := .byte, accessFlags := 25, slot := 36, constantValue := 0 }, { name := "DIRECTIONALITY_LEFT_TO_RIGHT", type := .byte, accessFlags := 25, slot := 37, constantValue := 0 }, { name := "DIRECTIONALITY_RIGHT_TO_LEFT", type := .byte, accessFlags := 25, slot := 38, constantValue := 0 }, { name := "DIRECTIONALITY_RIGHT_TO_LEFT_ARABIC", type := .byte, accessFlags := 25, slot := 39, constantValue := 0 }, { name := "DIRECTIONALITY_EUROPEAN_NUMBER", type := .byte, accessFlags := 25, slot := 40, constantValue := 0 }, { name := "DIRECTIONALITY_EUROPEAN_NUMBER_SEPARATOR", type := .byte, accessFlags := 25, slot := 41, constantValue := 0 }, { name := "DIRECTIONALITY_EUROPEAN_NUMBER_TERMINATOR", type := .byte, accessFlags := 25, slot := 42, constantValue := 0 }, { name := "DIRECTIONALITY_ARABIC_NUMBER", type := .byte, accessFlags := 25, slot := 43, constantValue := 0 }, { name := "DIRECTIONALITY_COMMON_NUMBER_SEPARATOR", type := .byte, accessFlags := 25, slot := 44, constantValue := 0 }, { name := "DIRECTIONALITY_NONSPACING_MARK", type := .byte, accessFlags := 25, slot := 45, constantValue := 0 }, { name := "DIRECTIONALITY_BOUNDARY_NEUTRAL", type := .byte, accessFlags := 25, slot := 46, constantValue := 0 }, { name := "DIRECTIONALITY_PARAGRAPH_SEPARATOR", type := .byte, accessFlags := 25, slot := 47, constantValue := 0 }, { name := "DIRECTIONALITY_SEGMENT_SEPARATOR", type := .byte, accessFlags := 25, slot := 48, constantValue := 0 }, { name := "DIRECTIONALITY_WHITESPACE", type := .byte, accessFlags := 25, slot := 49, constantValue := 0 }, { name := "DIRECTIONALITY_OTHER_NEUTRALS", type := .byte, accessFlags := 25, slot := 50, constantValue := 0 }, { name := "DIRECTIONALITY_LEFT_TO_RIGHT_EMBEDDING", type := .byte, accessFlags := 25, slot := 51, constantValue := 0 }, { name := "DIRECTIONALITY_LEFT_TO_RIGHT_OVERRIDE", type := .byte, accessFlags := 25, slot := 52, constantValue := 0 }, { name := "DIRECTIONALITY_RIGHT_TO_LEFT_EMBEDDING", type := .byte, accessFlags := 25, slot := 53, constantValue := 0 }, { name := "DIRECTIONALITY_RIGHT_TO_LEFT_OVERRIDE", type := .byte, accessFlags := 25, slot := 54, constantValue := 0 }, { name := "DIRECTIONALITY_POP_DIRECTIONAL_FORMAT", type := .byte, accessFlags := 25, slot := 55, constantValue := 0 }, { name := "DIRECTIONALITY_LEFT_TO_RIGHT_ISOLATE", type := .byte, accessFlags := 25, slot := 56, constantValue := 0 }, { name := "DIRECTIONALITY_RIGHT_TO_LEFT_ISOLATE", type := .byte, accessFlags := 25, slot := 57, constantValue := 0 }, { name := "DIRECTIONALITY_FIRST_STRONG_ISOLATE", type := .byte, accessFlags := 25, slot := 58, constantValue := 0 }, { name := "DIRECTIONALITY_POP_DIRECTIONAL_ISOLATE", type := .byte, accessFlags := 25, slot := 59, constantValue := 0 }, { name := "MIN_HIGH_SURROGATE", type := .char, accessFlags := 25, slot := 60, constantValue := 0 }, { name := "MAX_HIGH_SURROGATE", type := .char, accessFlags := 25, slot := 61, constantValue := 0 }, { name := "MIN_LOW_SURROGATE", type := .char, accessFlags := 25, slot := 62, constantValue := 0 }, { name := "MAX_LOW_SURROGATE", type := .char, accessFlags := 25, slot := 63, constantValue := 0 }, { name := "MIN_SURROGATE", type := .char, accessFlags := 25, slot := 64, constantValue := 0 }, { name := "MAX_SURROGATE", type := .char, accessFlags := 25, slot := 65, constantValue := 0 }, { name := "MIN_SUPPLEMENTARY_CODE_POINT", type := .int, accessFlags := 25, slot := 66, constantValue := 0 }, { name := "MIN_CODE_POINT", type := .int, accessFlags := 25, slot := 67, constantValue := 0 }, { name := "MAX_CODE_POINT", type := .int, accessFlags := 25, slot := 68, constantValue := 0 }, { name := "value", type := .char, accessFlags := 18, slot := 0, constantValue := 0 }, { name := "serialVersionUID", type := .long, accessFlags := 26, slot := 69, constantValue := 0 }, { name := "SIZE", type := .int, accessFlags := 25, slot := 70, constantValue := 0 }, { name := "BYTES", type := .int, accessFlags := 25, slot := 71, constantValue := 0 }, { name := "$assertionsDisabled", type := .boolean, accessFlags := 4120, slot := 72, constantValue := 0 }]
  methods := #[k14m0, k14m1]
  instanceTypes := #[.char]
  staticTypes := #[.int, .int, .char, .char, (.object "java/lang/Class"), .byte, .byte, .byte, .byte, .byte, .byte, .byte, .byte, .byte, .byte, .byte, .byte, .byte, .byte, .byte, .byte, .byte, .byte, .byte, .byte, .byte, .byte, .byte, .byte, .byte, .byte, .byte, .byte, .byte, .byte, .int, .byte, .byte, .byte, .byte, .byte, .byte, .byte, .byte, .byte, .byte, .byte, .byte, .byte, .byte, .byte, .byte, .byte, .byte, .byte, .byte, .byte, .byte, .byte, .byte, .char, .char, .char, .char, .char, .char, .int, .int, .int, .long, .int, .int, .boolean]
  resolved := Array.replicate 604 none
  statics := none }

def pool15 : Array CpInfo := pool [(9, u "<init>"), (6, .class_ 18), (1, u "java/lang/Object"), (0, u "()V"), (1, .class_ 23), (1, u "jdk/internal/util/ArraysSupport"), (0, u "LOG2_ARRAY_LONG_INDEX_SCALE"), (0, u "I"), (2, u "U"), (0, u "Ljdk/internal/misc/Unsafe;"), (8, u "BIG_ENDIAN"), (0, u "Z"), (8, u "LOG2_BYTE_BIT_SIZE"), (4, u "LOG2_ARRAY_INT_INDEX_SCALE"), (54, u "JLA"), (0, u "Ljdk/internal/access/JavaLangAccess;"), (11, u "LOG2_ARRAY_BOOLEAN_INDEX_SCALE"), (9, u "LOG2_ARRAY_BYTE_INDEX_SCALE"), (5, u "LOG2_ARRAY_CHAR_INDEX_SCALE"), (5, u "LOG2_ARRAY_SHORT_INDEX_SCALE"), (18, u "LOG2_ARRAY_FLOAT_INDEX_SCALE"), (24, u "LOG2_ARRAY_DOUBLE_INDEX_SCALE"), (89, u "T_BOOLEAN"), (2, u "T_CHAR"), (1, u "T_FLOAT"), (1, u "T_DOUBLE"), (1, u "T_BYTE"), (1, u "T_SHORT"), (1, u "T_INT"), (1, u "T_LONG"), (1, u "SOFT_MAX_ARRAY_LENGTH")] 83

def k15m0 : Method := { name := "<init>", desc := "()V", sig := { parameters := [], returnType := none }, accessFlags := 2, code := none }
/-- jdk/internal/util/ArraysSupport -/
def k15 : Class := { plain "jdk/internal/util/ArraysSupport" (some 0) with
  accessFlags := 33
  interfaces := #[]
  cf := some (fileOf pool15 21 #[] #[{ accessFlags := 2, nameIndex := 9, descriptorIndex := 19, attributes := #[] }] 33 16 #[] #[{ accessFlags := 24, nameIndex := 28, descriptorIndex := 29, attributes := #[] }, { accessFlags := 26, nameIndex := 38, descriptorIndex := 39, attributes := #[] }, { accessFlags := 25, nameIndex := 121, descriptorIndex := 25, attributes := #[] }, { accessFlags := 25, nameIndex := 131, descriptorIndex := 25, attributes := #[] }, { accessFlags := 25, nameIndex := 137, descriptorIndex := 25, attributes := #[] }, { accessFlags := 25, nameIndex := 143, descriptorIndex := 25, attributes := #[] }, { accessFlags := 25, nameIndex := 53, descriptorIndex := 25, attributes := #[] }, { accessFlags := 25, nameIndex := 24, descriptorIndex := 25, attributes := #[] }, { accessFlags := 25, nameIndex := 162, descriptorIndex := 25, attributes := #[] }, { accessFlags := 25, nameIndex := 187, descriptorIndex := 25, attributes := #[] }, { accessFlags := 26, nameIndex := 48, descriptorIndex := 25, attributes := #[] }, { accessFlags := 25, nameIndex := 277, descriptorIndex := 25, attributes := #[] }, { accessFlags := 25, nameIndex := 280, descriptorIndex := 25, attributes := #[] }, { accessFlags := 25, nameIndex := 282, descriptorIndex := 25, attributes := #[] }, { accessFlags := 25, nameIndex := 284, descriptorIndex := 25, attributes := #[] }, { accessFlags := 25, nameIndex := 286, descriptorIndex := 25, attributes := #[] }, { accessFlags := 25, nameIndex := 288, descriptorIndex := 25, attributes := #[] }, { accessFlags := 25, nameIndex := 290, descriptorIndex := 25, attributes := #[] }, { accessFlags := 25, nameIndex := 292, descriptorIndex := 25, attributes := #[] }, { accessFlags := 26, nameIndex := 108, descriptorIndex := 109, attributes := #[] }, { accessFlags := 25, nameIndex := 294, descriptorIndex := 25, attributes := #[] }])
  fields := #[{ name := "U", type := (.object "jdk/internal/misc/Unsafe"), accessFlags := 24, slot := 0, constantValue := 0 }, { name := "BIG_ENDIAN", type := .boolean, accessFlags := 26, slot := 1, constantValue := 0 }, { name := "LOG2_ARRAY_BOOLEAN_INDEX_SCALE", type := .int, accessFlags := 25, slot := 2, constantValue := 0 }, { name := "LOG2_ARRAY_BYTE_INDEX_SCALE", type := .int, accessFlags := 25, slot := 3, constantValue := 0 }, { name := "LOG2_ARRAY_CHAR_INDEX_SCALE", type := .int, accessFlags := 25, slot := 4, constantValue := 0 }, { name := "LOG2_ARRAY_SHORT_INDEX_SCALE", type := .int, accessFlags := 25, slot := 5, constantValue := 0 }, { name := "LOG2_ARRAY_INT_INDEX_SCALE", type := .int, accessFlags := 25, slot := 6, constantValue := 0 }, { name := "LOG2_ARRAY_LONG_INDEX_SCALE", type := .int, accessFlags := 25, slot := 7, constantValue := 0 }, { name := "LOG2_ARRAY_FLOAT_INDEX_SCALE", type := .int, accessFlags := 25, slot := 8, constantValue := 0 }, { name := "LOG2_ARRAY_DOUBLE_INDEX_SCALE", type := .int, accessFlags := 25, slot := 9, constantValue := 0 }, { name := "LOG2_BYTE_BIT_SIZE", type := .int, accessFlags := 26, slot := 10, constantValue := 0 }, { name := "T_BOOLEAN", type := .int, accessFlags := 25, slot := 11, constantValue := 0 }, { name := "T_CHAR", type := .int, accessFlags := 25, slot := 12, constantValue := 0 }, { name := "T_FLOAT", type := .int, accessFlags := 25, slot := 13, constantValue := 0 }, { name := "T_DOUBLE", type := .int, accessFlags := 25, slot := 14, constantValue := 0 }, { name := "T_BYTE", type := .int, accessFlags := 25, slot := 15, constantValue := 0 }, { name := "T_SHORT", type := .int, accessFlags := 25, slot := 16, constantValue := 0 }, { name := "T_INT", type := .int, accessFlags := 25, slot := 17, constantValue := 0 }, { name := "T_LONG", type := .int, accessFlags := 25, slot := 18, constantValue := 0 }, { name := "JLA", type := (.object "jdk/internal/access/JavaLangAccess"), accessFlags := 26, slot := 19, constantValue := 0 }, { name := "SOFT_MAX_ARRAY_LENGTH", type := .int, accessFlags := 25, slot := 20, constantValue := 0 }]
  methods := #[k15m0]
  instanceTypes := #[]
  staticTypes := #[(.object "jdk/internal/misc/Unsafe"), .boolean, .int, .int, .int, .int, .int, .int, .int, .int, .int, .int, .int, .int, .int, .int, .int, .int, .int, (.object "jdk/internal/access/JavaLangAccess"), .int]
  resolved := Array.replicate 378 none
  statics := none }

def pool16 : Array CpInfo := pool [(1, u "java/lang/Cloneable"), (0, .class_ 1), (0, u "java/lang/Object"), (0, .class_ 3)] 3

/-- java/lang/Cloneable -/
def k16 : Class := { plain "java/lang/Cloneable" (some 0) with
  accessFlags := 1537
  interfaces := #[]
  cf := some (fileOf pool16 2 #[] #[] 1537 4 #[] #[])
  fields := #[]
  methods := #[]
  instanceTypes := #[]
  staticTypes := #[]
  resolved := Array.replicate 8 none
  statics := none }

/-- the primitive byte -/
def k17 : Class := { plain "byte" none with kind := .primitive 'B', accessFlags := 0x411 }
/-- [B -/
def k18 : Class := { plain "[B" (some 0) with kind := .array 17 .byte, interfaces := #[16, 2], accessFlags := 1041 }

/-- the primitive char -/
def k19 : Class := { plain "char" none with kind := .primitive 'C', accessFlags := 0x411 }
/-- [C -/
def k20 : Class := { plain "[C" (some 0) with kind := .array 19 .char, interfaces := #[16, 2], accessFlags := 1041 }

/-- the primitive int -/
def k21 : Class := { plain "int" none with kind := .primitive 'I', accessFlags := 0x411 }
/-- [I -/
def k22 : Class := { plain "[I" (some 0) with kind := .array 21 .int, interfaces := #[16, 2], accessFlags := 1041 }

def heap : Heap := #[{ cls := 7, slots := #[.long 0, .int 1, .null, .int 0, .null, .int 0, .int 0], vm := .statics 7 },
  { cls := 11, slots := #[.null, .null, .null], vm := .statics 11 }]
def classes : Array Class := #[k0, k1, k2, k3, k4, k5, k6, k7, k8, k9, k10, k11, k12, k13, k14, k15, k16, k17, k18, k19, k20, k21, k22]
def interned : List (Array UInt16 × Addr) := []
def slotsUsed : Nat := 10
def theMethod : MethodId := ⟨1, 2⟩
def args0 : Array Value := #[.int 65, .int 5, .int 15, .int 3, .long 9, .int 2]
def aboutOver (below : List Frame) : State where
  vm := { classes := classes, interned := interned.toArray }
  heap := heap
  slotsUsed := slotsUsed
  threads := #[{ frames := .invoking theMethod args0 :: below }]
def below0 : List Frame := [.native { method := ⟨0, 0⟩, args := #[] }]
def about1 : State := aboutOver below0
def p0 : Program := .bare "" "" ""
def e0 : Env := launch0.env 0 0 0
theorem w_frames : about1.frames = Frame.invoking theMethod args0 :: below0 := rfl
set_option maxRecDepth 65536 in
theorem w_args : argsFit about1.vm theMethod args0 = true := by decide +kernel
set_option maxRecDepth 65536 in
theorem w_heap : heapFits about1 = true := by decide +kernel
set_option maxRecDepth 65536 in
theorem w_runnable : about1.curStatus? = some .runnable := by decide +kernel
set_option maxRecDepth 65536 in
theorem w_alone : about1.alone = true := by decide +kernel
set_option maxRecDepth 65536 in
theorem w_named : about1.methodNamed? x = some theMethod := by decide +kernel
set_option maxRecDepth 65536 in
theorem w_hears : about1.hears theMethod below0 = true := by decide +kernel
set_option maxRecDepth 65536 in
theorem w_ripe : about1.ripe theMethod args0 below0 = true := by decide +kernel
theorem w_running : about1.status = .running := rfl
set_option maxRecDepth 65536 in
theorem w_room : about1.hasRoom e0.platform room_1 = true :=
  launch0.hasRoom_least _ room_1 (by decide +kernel) (by decide +kernel) (by decide +kernel) (by decide +kernel) (by decide +kernel) (by decide +kernel)
theorem allAtoms_all (ts : List Jvm.Cond) (a : Array Jvm.Value) (st : Jvm.State) : (allAtoms ts).before a st = ts.all (fun c => c.before a st) := by
  induction ts with
  | nil => rfl
  | cons c t ih =>
    show (Jvm.Cond.and c (allAtoms t)).before a st = _
    rw [Jvm.Cond.before_and, ih, List.all_cons]
def words1 : List Jvm.Cond := Jvm.Cond.code x code maxLocals ret :: tables_1
/-- a 'code' word, met by the world's own term for the bytes: nothing is compared byte by byte -/
theorem code_word {y : MethodName} {bytes : ByteArray} {mx : Nat} {rt : Option FieldType} {a : Array Value} {s : State} {m : MethodId} {meth : Method} {c : Code} (h1 : s.methodNamed? y = some m) (h2 : s.vm.method? m = some meth) (h3 : meth.code = some c) (h4 : c.code = bytes)
    (h5 : (c.maxLocals == mx && c.exceptionTable.isEmpty && decide (c.maxStack ≤ mostOperands) && decide (meth.sig.returnType = rt) && !meth.locks && decide (parseMethodDescriptor y.desc = some meth.sig)) = true) : (Jvm.Cond.code y bytes mx rt).before a s = true := by
  simp only [Bool.and_eq_true, beq_iff_eq, Bool.not_eq_true', decide_eq_true_eq] at h5
  obtain ⟨⟨⟨⟨⟨g1, g2⟩, g3⟩, g4⟩, g5⟩, g6⟩ := h5
  simp [Cond.before, Cond.holds, Cond.value, h1, h2, h3, h4, g1, g2, g3, g4, g5, g6]
def isCode : Jvm.Cond → Bool
  | .code _ _ _ _ => true
  | _ => false
theorem all_split {L : List Jvm.Cond} {P : Jvm.Cond → Bool} (h1 : L.all (fun c => isCode c || P c) = true) (h2 : ∀ c ∈ L.filter isCode, P c = true) : L.all P = true := by
  refine List.all_eq_true.mpr fun c hc => ?_
  have h := List.all_eq_true.mp h1 c hc
  rcases Bool.eq_false_or_eq_true (isCode c) with hi | hi
  · exact h2 c (List.mem_filter.mpr ⟨hc, hi⟩)
  · simpa [hi] using h
set_option maxRecDepth 65536 in
theorem w_c0 : (Jvm.Cond.code x code maxLocals ret).before args0 about1 = true := code_word (m := ⟨1, 2⟩) (meth := k1m2) (c := k1c2) (by decide +kernel) rfl rfl rfl (by decide +kernel)
set_option maxRecDepth 65536 in
theorem w_c1 : (Jvm.Cond.code ({ cls := "com/example/wakati/wakati/PatchEqualsPinLaw", name := "str", desc := "(ICC)Ljava/lang/String;" } : Jvm.MethodName) method_2_code (3 : Nat) (Option.some (Jvm.ClassFile.FieldType.object "java/lang/String"))).before args0 about1 = true := code_word (m := ⟨1, 1⟩) (meth := k1m1) (c := k1c1) (by decide +kernel) rfl rfl rfl (by decide +kernel)
set_option maxRecDepth 65536 in
theorem w_c2 : (Jvm.Cond.code ({ cls := "java/lang/String", name := "<init>", desc := "([C)V" } : Jvm.MethodName) jdk_42_method_3_code (2 : Nat) (Option.none : Option Jvm.ClassFile.FieldType)).before args0 about1 = true := code_word (m := ⟨7, 1⟩) (meth := k7m1) (c := k7c1) (by decide +kernel) rfl rfl rfl (by decide +kernel)
set_option maxRecDepth 65536 in
theorem w_c3 : (Jvm.Cond.code ({ cls := "java/lang/String", name := "<init>", desc := "([CIILjava/lang/Void;)V" } : Jvm.MethodName) jdk_42_method_149_code (6 : Nat) (Option.none : Option Jvm.ClassFile.FieldType)).before args0 about1 = true := code_word (m := ⟨7, 6⟩) (meth := k7m6) (c := k7c6) (by decide +kernel) rfl rfl rfl (by decide +kernel)
set_option maxRecDepth 65536 in
theorem w_c4 : (Jvm.Cond.code ({ cls := "java/lang/Object", name := "<init>", desc := "()V" } : Jvm.MethodName) object_method_1_code (1 : Nat) (Option.none : Option Jvm.ClassFile.FieldType)).before args0 about1 = true := code_word (m := ⟨0, 0⟩) (meth := k0m0) (c := k0c0) (by decide +kernel) rfl rfl rfl (by decide +kernel)
set_option maxRecDepth 65536 in
theorem w_c5 : (Jvm.Cond.code ({ cls := "com/example/wakati/wakati/Patch", name := "<init>", desc := "(IILjava/lang/String;)V" } : Jvm.MethodName) prog_10_method_1_code (4 : Nat) (Option.none : Option Jvm.ClassFile.FieldType)).before args0 about1 = true := code_word (m := ⟨8, 0⟩) (meth := k8m0) (c := k8c0) (by decide +kernel) rfl rfl rfl (by decide +kernel)
set_option maxRecDepth 65536 in
theorem w_c6 : (Jvm.Cond.code ({ cls := "java/util/Objects", name := "requireNonNull", desc := "(Ljava/lang/Object;Ljava/lang/String;)Ljava/lang/Object;" } : Jvm.MethodName) jdk_31_method_11_code (2 : Nat) (Option.some (Jvm.ClassFile.FieldType.object "java/lang/Object"))).before args0 about1 = true := code_word (m := ⟨9, 1⟩) (meth := k9m1) (c := k9c1) (by decide +kernel) rfl rfl rfl (by decide +kernel)
set_option maxRecDepth 65536 in
theorem w_c7 : (Jvm.Cond.code ({ cls := "com/example/wakati/wakati/Surrogates", name := "checkPaired", desc := "(Ljava/lang/String;Ljava/lang/String;)V" } : Jvm.MethodName) prog_13_method_2_code (3 : Nat) (Option.none : Option Jvm.ClassFile.FieldType)).before args0 about1 = true := code_word (m := ⟨10, 1⟩) (meth := k10m1) (c := k10c1) (by decide +kernel) rfl rfl rfl (by decide +kernel)
set_option maxRecDepth 65536 in
theorem w_c8 : (Jvm.Cond.code ({ cls := "com/example/wakati/wakati/Surrogates", name := "findLone", desc := "(Ljava/lang/String;)I" } : Jvm.MethodName) prog_13_method_3_code (3 : Nat) (Option.some Jvm.ClassFile.FieldType.int)).before args0 about1 = true := code_word (m := ⟨10, 2⟩) (meth := k10m2) (c := k10c2) (by decide +kernel) rfl rfl rfl (by decide +kernel)
set_option maxRecDepth 65536 in
theorem w_c9 : (Jvm.Cond.code ({ cls := "java/lang/String", name := "length", desc := "()I" } : Jvm.MethodName) jdk_42_method_54_code (1 : Nat) (Option.some Jvm.ClassFile.FieldType.int)).before args0 about1 = true := code_word (m := ⟨7, 2⟩) (meth := k7m2) (c := k7c2) (by decide +kernel) rfl rfl rfl (by decide +kernel)
set_option maxRecDepth 65536 in
theorem w_c10 : (Jvm.Cond.code ({ cls := "java/lang/String", name := "coder", desc := "()B" } : Jvm.MethodName) jdk_42_method_152_code (1 : Nat) (Option.some Jvm.ClassFile.FieldType.byte)).before args0 about1 = true := code_word (m := ⟨7, 7⟩) (meth := k7m7) (c := k7c7) (by decide +kernel) rfl rfl rfl (by decide +kernel)
set_option maxRecDepth 65536 in
theorem w_c11 : (Jvm.Cond.code ({ cls := "java/lang/String", name := "codePointCount", desc := "(II)I" } : Jvm.MethodName) jdk_42_method_59_code (3 : Nat) (Option.some Jvm.ClassFile.FieldType.int)).before args0 about1 = true := code_word (m := ⟨7, 4⟩) (meth := k7m4) (c := k7c4) (by decide +kernel) rfl rfl rfl (by decide +kernel)
set_option maxRecDepth 65536 in
theorem w_c12 : (Jvm.Cond.code ({ cls := "java/util/Objects", name := "checkFromToIndex", desc := "(III)I" } : Jvm.MethodName) jdk_31_method_18_code (3 : Nat) (Option.some Jvm.ClassFile.FieldType.int)).before args0 about1 = true := code_word (m := ⟨9, 2⟩) (meth := k9m2) (c := k9c2) (by decide +kernel) rfl rfl rfl (by decide +kernel)
set_option maxRecDepth 65536 in
theorem w_c13 : (Jvm.Cond.code ({ cls := "jdk/internal/util/Preconditions", name := "checkFromToIndex", desc := "(IIILjava/util/function/BiFunction;)I" } : Jvm.MethodName) jdk_41_method_12_code (4 : Nat) (Option.some Jvm.ClassFile.FieldType.int)).before args0 about1 = true := code_word (m := ⟨11, 2⟩) (meth := k11m2) (c := k11c2) (by decide +kernel) rfl rfl rfl (by decide +kernel)
set_option maxRecDepth 65536 in
theorem w_c14 : (Jvm.Cond.code ({ cls := "java/lang/String", name := "isLatin1", desc := "()Z" } : Jvm.MethodName) jdk_42_method_154_code (1 : Nat) (Option.some Jvm.ClassFile.FieldType.boolean)).before args0 about1 = true := code_word (m := ⟨7, 8⟩) (meth := k7m8) (c := k7c8) (by decide +kernel) rfl rfl rfl (by decide +kernel)
set_option maxRecDepth 65536 in
theorem w_c15 : (Jvm.Cond.code ({ cls := "com/example/wakati/wakati/Patch", name := "equals", desc := "(Ljava/lang/Object;)Z" } : Jvm.MethodName) prog_10_method_6_code (3 : Nat) (Option.some Jvm.ClassFile.FieldType.boolean)).before args0 about1 = true := code_word (m := ⟨8, 1⟩) (meth := k8m1) (c := k8c1) (by decide +kernel) rfl rfl rfl (by decide +kernel)
set_option maxRecDepth 65536 in
theorem w_c16 : (Jvm.Cond.code ({ cls := "java/lang/StringUTF16", name := "compress", desc := "([CII)[B" } : Jvm.MethodName) jdk_52_method_16_code (6 : Nat) (Option.some (Jvm.ClassFile.FieldType.array Jvm.ClassFile.FieldType.byte))).before args0 about1 = true := code_word (m := ⟨12, 2⟩) (meth := k12m2) (c := k12c2) (by decide +kernel) rfl rfl rfl (by decide +kernel)
set_option maxRecDepth 65536 in
theorem w_c17 : (Jvm.Cond.code ({ cls := "java/lang/StringUTF16", name := "compress", desc := "([CI[BII)I" } : Jvm.MethodName) jdk_52_method_21_code (7 : Nat) (Option.some Jvm.ClassFile.FieldType.int)).before args0 about1 = true := code_word (m := ⟨12, 3⟩) (meth := k12m3) (c := k12c3) (by decide +kernel) rfl rfl rfl (by decide +kernel)
set_option maxRecDepth 65536 in
theorem w_c18 : (Jvm.Cond.code ({ cls := "java/lang/StringUTF16", name := "coderFromArrayLen", desc := "([BI)B" } : Jvm.MethodName) jdk_52_method_15_code (2 : Nat) (Option.some Jvm.ClassFile.FieldType.byte)).before args0 about1 = true := code_word (m := ⟨12, 1⟩) (meth := k12m1) (c := k12c1) (by decide +kernel) rfl rfl rfl (by decide +kernel)
set_option maxRecDepth 65536 in
theorem w_c19 : (Jvm.Cond.code ({ cls := "java/lang/String", name := "charAt", desc := "(I)C" } : Jvm.MethodName) jdk_42_method_56_code (2 : Nat) (Option.some Jvm.ClassFile.FieldType.char)).before args0 about1 = true := code_word (m := ⟨7, 3⟩) (meth := k7m3) (c := k7c3) (by decide +kernel) rfl rfl rfl (by decide +kernel)
set_option maxRecDepth 65536 in
theorem w_c20 : (Jvm.Cond.code ({ cls := "java/lang/StringLatin1", name := "charAt", desc := "([BI)C" } : Jvm.MethodName) jdk_43_method_2_code (2 : Nat) (Option.some Jvm.ClassFile.FieldType.char)).before args0 about1 = true := code_word (m := ⟨13, 1⟩) (meth := k13m1) (c := k13c1) (by decide +kernel) rfl rfl rfl (by decide +kernel)
set_option maxRecDepth 65536 in
theorem w_c21 : (Jvm.Cond.code ({ cls := "java/lang/String", name := "checkIndex", desc := "(II)V" } : Jvm.MethodName) jdk_42_method_155_code (2 : Nat) (Option.none : Option Jvm.ClassFile.FieldType)).before args0 about1 = true := code_word (m := ⟨7, 9⟩) (meth := k7m9) (c := k7c9) (by decide +kernel) rfl rfl rfl (by decide +kernel)
set_option maxRecDepth 65536 in
theorem w_c22 : (Jvm.Cond.code ({ cls := "jdk/internal/util/Preconditions", name := "checkIndex", desc := "(IILjava/util/function/BiFunction;)I" } : Jvm.MethodName) jdk_41_method_11_code (3 : Nat) (Option.some Jvm.ClassFile.FieldType.int)).before args0 about1 = true := code_word (m := ⟨11, 1⟩) (meth := k11m1) (c := k11c1) (by decide +kernel) rfl rfl rfl (by decide +kernel)
set_option maxRecDepth 65536 in
theorem w_c23 : (Jvm.Cond.code ({ cls := "java/lang/Character", name := "isHighSurrogate", desc := "(C)Z" } : Jvm.MethodName) jdk_89_method_14_code (1 : Nat) (Option.some Jvm.ClassFile.FieldType.boolean)).before args0 about1 = true := code_word (m := ⟨14, 0⟩) (meth := k14m0) (c := k14c0) (by decide +kernel) rfl rfl rfl (by decide +kernel)
set_option maxRecDepth 65536 in
theorem w_c24 : (Jvm.Cond.code ({ cls := "java/lang/Character", name := "isSurrogate", desc := "(C)Z" } : Jvm.MethodName) jdk_89_method_16_code (1 : Nat) (Option.some Jvm.ClassFile.FieldType.boolean)).before args0 about1 = true := code_word (m := ⟨14, 1⟩) (meth := k14m1) (c := k14c1) (by decide +kernel) rfl rfl rfl (by decide +kernel)
set_option maxRecDepth 65536 in
theorem w_c25 : (Jvm.Cond.code ({ cls := "java/lang/String", name := "equals", desc := "(Ljava/lang/Object;)Z" } : Jvm.MethodName) jdk_42_method_66_code (3 : Nat) (Option.some Jvm.ClassFile.FieldType.boolean)).before args0 about1 = true := code_word (m := ⟨7, 5⟩) (meth := k7m5) (c := k7c5) (by decide +kernel) rfl rfl rfl (by decide +kernel)
set_option maxRecDepth 65536 in
theorem w_c26 : (Jvm.Cond.code ({ cls := "java/lang/StringLatin1", name := "equals", desc := "([B[B)Z" } : Jvm.MethodName) jdk_43_method_13_code (3 : Nat) (Option.some Jvm.ClassFile.FieldType.boolean)).before args0 about1 = true := code_word (m := ⟨13, 2⟩) (meth := k13m2) (c := k13c2) (by decide +kernel) rfl rfl rfl (by decide +kernel)
def codes1 : List Jvm.Cond := [Jvm.Cond.code x code maxLocals ret, Jvm.Cond.code ({ cls := "com/example/wakati/wakati/PatchEqualsPinLaw", name := "str", desc := "(ICC)Ljava/lang/String;" } : Jvm.MethodName) method_2_code (3 : Nat) (Option.some (Jvm.ClassFile.FieldType.object "java/lang/String")), Jvm.Cond.code ({ cls := "java/lang/String", name := "<init>", desc := "([C)V" } : Jvm.MethodName) jdk_42_method_3_code (2 : Nat) (Option.none : Option Jvm.ClassFile.FieldType), Jvm.Cond.code ({ cls := "java/lang/String", name := "<init>", desc := "([CIILjava/lang/Void;)V" } : Jvm.MethodName) jdk_42_method_149_code (6 : Nat) (Option.none : Option Jvm.ClassFile.FieldType), Jvm.Cond.code ({ cls := "java/lang/Object", name := "<init>", desc := "()V" } : Jvm.MethodName) object_method_1_code (1 : Nat) (Option.none : Option Jvm.ClassFile.FieldType), Jvm.Cond.code ({ cls := "com/example/wakati/wakati/Patch", name := "<init>", desc := "(IILjava/lang/String;)V" } : Jvm.MethodName) prog_10_method_1_code (4 : Nat) (Option.none : Option Jvm.ClassFile.FieldType), Jvm.Cond.code ({ cls := "java/util/Objects", name := "requireNonNull", desc := "(Ljava/lang/Object;Ljava/lang/String;)Ljava/lang/Object;" } : Jvm.MethodName) jdk_31_method_11_code (2 : Nat) (Option.some (Jvm.ClassFile.FieldType.object "java/lang/Object")), Jvm.Cond.code ({ cls := "com/example/wakati/wakati/Surrogates", name := "checkPaired", desc := "(Ljava/lang/String;Ljava/lang/String;)V" } : Jvm.MethodName) prog_13_method_2_code (3 : Nat) (Option.none : Option Jvm.ClassFile.FieldType), Jvm.Cond.code ({ cls := "com/example/wakati/wakati/Surrogates", name := "findLone", desc := "(Ljava/lang/String;)I" } : Jvm.MethodName) prog_13_method_3_code (3 : Nat) (Option.some Jvm.ClassFile.FieldType.int), Jvm.Cond.code ({ cls := "java/lang/String", name := "length", desc := "()I" } : Jvm.MethodName) jdk_42_method_54_code (1 : Nat) (Option.some Jvm.ClassFile.FieldType.int), Jvm.Cond.code ({ cls := "java/lang/String", name := "coder", desc := "()B" } : Jvm.MethodName) jdk_42_method_152_code (1 : Nat) (Option.some Jvm.ClassFile.FieldType.byte), Jvm.Cond.code ({ cls := "java/lang/String", name := "codePointCount", desc := "(II)I" } : Jvm.MethodName) jdk_42_method_59_code (3 : Nat) (Option.some Jvm.ClassFile.FieldType.int), Jvm.Cond.code ({ cls := "java/util/Objects", name := "checkFromToIndex", desc := "(III)I" } : Jvm.MethodName) jdk_31_method_18_code (3 : Nat) (Option.some Jvm.ClassFile.FieldType.int), Jvm.Cond.code ({ cls := "jdk/internal/util/Preconditions", name := "checkFromToIndex", desc := "(IIILjava/util/function/BiFunction;)I" } : Jvm.MethodName) jdk_41_method_12_code (4 : Nat) (Option.some Jvm.ClassFile.FieldType.int), Jvm.Cond.code ({ cls := "java/lang/String", name := "isLatin1", desc := "()Z" } : Jvm.MethodName) jdk_42_method_154_code (1 : Nat) (Option.some Jvm.ClassFile.FieldType.boolean), Jvm.Cond.code ({ cls := "com/example/wakati/wakati/Patch", name := "equals", desc := "(Ljava/lang/Object;)Z" } : Jvm.MethodName) prog_10_method_6_code (3 : Nat) (Option.some Jvm.ClassFile.FieldType.boolean), Jvm.Cond.code ({ cls := "java/lang/StringUTF16", name := "compress", desc := "([CII)[B" } : Jvm.MethodName) jdk_52_method_16_code (6 : Nat) (Option.some (Jvm.ClassFile.FieldType.array Jvm.ClassFile.FieldType.byte)), Jvm.Cond.code ({ cls := "java/lang/StringUTF16", name := "compress", desc := "([CI[BII)I" } : Jvm.MethodName) jdk_52_method_21_code (7 : Nat) (Option.some Jvm.ClassFile.FieldType.int), Jvm.Cond.code ({ cls := "java/lang/StringUTF16", name := "coderFromArrayLen", desc := "([BI)B" } : Jvm.MethodName) jdk_52_method_15_code (2 : Nat) (Option.some Jvm.ClassFile.FieldType.byte), Jvm.Cond.code ({ cls := "java/lang/String", name := "charAt", desc := "(I)C" } : Jvm.MethodName) jdk_42_method_56_code (2 : Nat) (Option.some Jvm.ClassFile.FieldType.char), Jvm.Cond.code ({ cls := "java/lang/StringLatin1", name := "charAt", desc := "([BI)C" } : Jvm.MethodName) jdk_43_method_2_code (2 : Nat) (Option.some Jvm.ClassFile.FieldType.char), Jvm.Cond.code ({ cls := "java/lang/String", name := "checkIndex", desc := "(II)V" } : Jvm.MethodName) jdk_42_method_155_code (2 : Nat) (Option.none : Option Jvm.ClassFile.FieldType), Jvm.Cond.code ({ cls := "jdk/internal/util/Preconditions", name := "checkIndex", desc := "(IILjava/util/function/BiFunction;)I" } : Jvm.MethodName) jdk_41_method_11_code (3 : Nat) (Option.some Jvm.ClassFile.FieldType.int), Jvm.Cond.code ({ cls := "java/lang/Character", name := "isHighSurrogate", desc := "(C)Z" } : Jvm.MethodName) jdk_89_method_14_code (1 : Nat) (Option.some Jvm.ClassFile.FieldType.boolean), Jvm.Cond.code ({ cls := "java/lang/Character", name := "isSurrogate", desc := "(C)Z" } : Jvm.MethodName) jdk_89_method_16_code (1 : Nat) (Option.some Jvm.ClassFile.FieldType.boolean), Jvm.Cond.code ({ cls := "java/lang/String", name := "equals", desc := "(Ljava/lang/Object;)Z" } : Jvm.MethodName) jdk_42_method_66_code (3 : Nat) (Option.some Jvm.ClassFile.FieldType.boolean), Jvm.Cond.code ({ cls := "java/lang/StringLatin1", name := "equals", desc := "([B[B)Z" } : Jvm.MethodName) jdk_43_method_13_code (3 : Nat) (Option.some Jvm.ClassFile.FieldType.boolean)]
set_option maxRecDepth 65536 in
theorem codes_eq : words1.filter isCode = codes1 := rfl
theorem w_codes : ∀ c ∈ words1.filter isCode, c.before args0 about1 = true := by
  rw [codes_eq]
  intro c hc
  simp only [codes1, List.mem_cons, List.not_mem_nil, or_false] at hc
  rcases hc with rfl | rfl | rfl | rfl | rfl | rfl | rfl | rfl | rfl | rfl | rfl | rfl | rfl | rfl | rfl | rfl | rfl | rfl | rfl | rfl | rfl | rfl | rfl | rfl | rfl | rfl | rfl
  · exact w_c0
  · exact w_c1
  · exact w_c2
  · exact w_c3
  · exact w_c4
  · exact w_c5
  · exact w_c6
  · exact w_c7
  · exact w_c8
  · exact w_c9
  · exact w_c10
  · exact w_c11
  · exact w_c12
  · exact w_c13
  · exact w_c14
  · exact w_c15
  · exact w_c16
  · exact w_c17
  · exact w_c18
  · exact w_c19
  · exact w_c20
  · exact w_c21
  · exact w_c22
  · exact w_c23
  · exact w_c24
  · exact w_c25
  · exact w_c26
set_option maxRecDepth 65536 in
theorem w_t1 : (words1.take 24).all (fun c => isCode c || c.before args0 about1) = true := by decide +kernel
set_option maxRecDepth 65536 in
theorem w_t2 : ((words1.drop 24).take 24).all (fun c => isCode c || c.before args0 about1) = true := by decide +kernel
set_option maxRecDepth 65536 in
theorem w_t3 : (((words1.drop 24).drop 24).take 24).all (fun c => isCode c || c.before args0 about1) = true := by decide +kernel
set_option maxRecDepth 65536 in
theorem w_t4 : ((((words1.drop 24).drop 24).drop 24).take 24).all (fun c => isCode c || c.before args0 about1) = true := by decide +kernel
set_option maxRecDepth 65536 in
theorem w_t5 : (((((words1.drop 24).drop 24).drop 24).drop 24).take 24).all (fun c => isCode c || c.before args0 about1) = true := by decide +kernel
set_option maxRecDepth 65536 in
theorem w_t6 : (((((words1.drop 24).drop 24).drop 24).drop 24).drop 24).all (fun c => isCode c || c.before args0 about1) = true := by decide +kernel
theorem w_tables : (allAtoms (Jvm.Cond.code x code maxLocals ret :: tables_1)).before args0 about1 = true := by
  rw [allAtoms_all]
  show words1.all (fun c => c.before args0 about1) = true
  refine all_split ?_ w_codes
  rw [← List.take_append_drop 24 words1, List.all_append, w_t1, ← List.take_append_drop 24 (words1.drop 24), List.all_append, w_t2, ← List.take_append_drop 24 ((words1.drop 24).drop 24), List.all_append, w_t3, ← List.take_append_drop 24 (((words1.drop 24).drop 24).drop 24), List.all_append, w_t4, ← List.take_append_drop 24 ((((words1.drop 24).drop 24).drop 24).drop 24), List.all_append, w_t5, w_t6]
  rfl
set_option maxRecDepth 65536 in
theorem w_rest : rest_1_c.before args0 about1 = true := by decide +kernel
set_option maxRecDepth 65536 in
theorem w_case : (Jvm.Cond.and given_1 narrow_1).before args0 about1 = true := by decide +kernel
set_option maxRecDepth 65536 in
theorem w_consts : constsHeld consts_1 about1 := Jvm.Lit.constsHeldB_iff.mp (by decide +kernel)
theorem w_applies : (headSpec (Jvm.Cond.code x code maxLocals ret :: tables_1) room_1).applies x e0.platform about1 = true :=
  (Spec.applies_iff w_frames).mpr ⟨w_running, w_runnable, w_alone, w_named, w_hears, w_ripe, w_room, w_tables⟩
theorem atStart : AtStart classFile x code maxLocals ret World_1 tables_1 room_1 Calls_1 rest_1 Pre_1 launch0 p0 e0 about1 theMethod args0 below0 :=
  ⟨lists_1, trivial, launch0.admits_env _ _ _, launch0.least_env, fairChoices_fair.cas, fairChoices_fair.clock, w_frames, w_args, w_heap, w_applies, ⟨w_consts, trivial⟩, w_rest, w_case⟩
end start1
theorem witness_1 : WitnessClaimed_1 := ⟨start1.p0, start1.e0, start1.about1, start1.theMethod, start1.args0, start1.below0, start1.atStart⟩
end Jvm.Pilot.@@N@@
